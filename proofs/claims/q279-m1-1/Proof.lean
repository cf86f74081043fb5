import JvmDerived
import JvmDerived.Pilot.@@N@@Statement
import JvmDerived.Pilot.@@N@@Code
set_option linter.unusedVariables false
set_option linter.unusedSimpArgs false
namespace Jvm.RoadKit
open Sem ClassFile Op Lib Jvm.Stand Jvm.Free Jvm.LawKit
section New
variable {p : Program} {l : Launch} {e : Env} {R : Room} {s : State} {m : MethodId} {args : Array Value} {below : List Frame} {meth : Method} {c : Code} {T : State} {locs : List Loc} {cells slots : Nat}
theorem retI (X : Stand p l e R s m args below meth c T locs cells slots) (hx : p.tables.exec = Jvm.exec) {pc : Nat} {Ls : Array Slot} {z : Int32} {rest : List Value} (hret : meth.sig.returnType = some .int) (hd : decode c.code pc = .ok (.ireturn, 1)) {fs : List Frame}
    (hl : ∀ (f : JFrame) (acts : List Action), f.method = m → f.locked = none → f.entered = [] → (doReturn e (T.setTop f) acts (some (.int z))).1 = T.setFrames fs) : Steps p.tables e below (T.setTop (mkF m pc Ls (.int z :: rest))) (T.setFrames fs) := by
  have hm' : T.vm.method? m = some meth := X.method'
  have hn : narrow .int (.int z) = .int z := rfl
  show Steps p.tables e below (T.setTop { method := m, pc := pc, locals := Ls, stack := _ :: rest, locked := none }) _
  jvm_step X.here [X.here.top, hx, hd, hm', hret, hn]
  first | (intro acts; rw [hl _ acts rfl rfl rfl]) | rw [hl _ _ rfl rfl rfl]
  exact Steps.refl _
/-- the run from G on comes to an end that Q speaks of -/
def Go (p : Program) (e : Env) (below : List Frame) (s : State) (Q : Option Value → Heap → List Loc → Prop) (ck sk : Nat) (G : State) : Prop :=
  ∃ s₂ o, Steps p.tables e below G s₂ ∧ s₂.status = .running ∧ Ended s₂ below o ∧ ∃ v L, o = .returned v ∧ Q v s₂.heap L ∧ FrameEnd s o s₂ L ck sk
theorem Go.of {Q : Option Value → Heap → List Loc → Prop} {ck sk : Nat} {G G' : State} (h : ∀ t, Steps p.tables e below G' t → Steps p.tables e below G t) (k : Go p e below s Q ck sk G') : Go p e below s Q ck sk G := by
  obtain ⟨s₂, o, h1, r⟩ := k
  exact ⟨s₂, o, h _ h1, r⟩
theorem Go.ret (X : Stand p l e R s m args below meth c T locs cells slots) {Q : Option Value → Heap → List Loc → Prop} {ck sk : Nat} {G : State} (v : Option Value) (hv : meth.sig.returnType = none → v = none) (hlk : meth.locks = false) (hq : Q v T.heap locs) (hc : cells ≤ ck) (hs : slots ≤ sk)
    (st : ∀ fs, (∀ (f : JFrame) (acts : List Action), f.method = m → f.locked = none → f.entered = [] → (doReturn e (T.setTop f) acts v).1 = T.setFrames fs) → Steps p.tables e below G (T.setFrames fs)) : Go p e below s Q ck sk G := by
  obtain ⟨fs, hr, hrun, hended, hW, hsame⟩ := X.leave hv hlk
  exact ⟨_, _, st fs hr, hrun, hended, v, locs, rfl, hq, ⟨_, rfl⟩, hW, hsame.mono hc hs⟩
/-- what it returns, that it wrote nothing old, and that the heap is as it was -/
def QP (val : Option Value) (h0 : Heap) (n0 : Nat) (v : Option Value) (h : Heap) (L : List Loc) : Prop := v = val ∧ Fr n0 L ∧ h = h0
/-- what it returns, and that it wrote nothing old -/
def QL (val : Option Value) (n0 : Nat) (v : Option Value) (h : Heap) (L : List Loc) : Prop := v = val ∧ Fr n0 L
theorem lremM {g : JFrame} {target : State} (X : Stand p l e R s m args below meth c T locs cells slots) (hx : p.tables.exec = Jvm.exec) (hg : g.method = m) {x y : Int64} {rest : List Value} (hd : decode c.code g.pc = .ok (.lrem, 1)) (hs : g.stack = .long y :: .long x :: rest) (hy : y ≠ 0)
    (hr : Steps p.tables e below (T.setTop { g with pc := g.pc + 1, stack := .long (x % y) :: rest }) target) : Steps p.tables e below (T.setTop g) target := by
  have q : x - x / y * y = x % y := lrem_mod x y
  exact XS.lrem X.here hx hg hd hs hy (by rw [q]; exact hr)
end New
end Jvm.RoadKit
namespace Jvm.Pilot.@@N@@
open Jvm Jvm.ClassFile Sem Op Lib Jvm.Free Jvm.Stand Jvm.LawKit Jvm.RoadKit Bundle Jvm.Pilot.@@N@@.Jvm.D
theorem own_getDI : ∀ (L : List Int32) (i : Nat), (L.map Value.int).getD i (.int (0 : Int32)) = .int (L.getD i 0)
  | [], i => by simp
  | a :: L, 0 => by simp
  | a :: L, i + 1 => by simpa using own_getDI L i
theorem own_getDL : ∀ (L : List Int64) (i : Nat), (L.map Value.long).getD i (.long (0 : Int64)) = .long (L.getD i 0)
  | [], i => by simp
  | a :: L, 0 => by simp
  | a :: L, i + 1 => by simpa using own_getDL L i
def own_n (m : Int32) : Int32 := (((((m &&& (1 : Int32)) + ((m >>> ((1 : Int32) &&& 31)) &&& (1 : Int32))) + ((m >>> ((2 : Int32) &&& 31)) &&& (1 : Int32))) + ((m >>> ((3 : Int32) &&& 31)) &&& (1 : Int32))) + ((m >>> ((4 : Int32) &&& 31)) &&& (1 : Int32)))
def own_b (m : Int32) : Nat → Bool
  | 0 => decide (¬ ((m &&& (1 : Int32)) = (0 : Int32)))
  | 1 => decide (¬ ((m &&& (2 : Int32)) = (0 : Int32)))
  | 2 => decide (¬ ((m &&& (4 : Int32)) = (0 : Int32)))
  | 3 => decide (¬ ((m &&& (8 : Int32)) = (0 : Int32)))
  | _ => decide (¬ ((m &&& (16 : Int32)) = (0 : Int32)))
def own_j : Nat → Int32 → Int32
  | 0, _ => 0
  | t + 1, m => if own_b m t = true then own_j t m + 1 else own_j t m
def own_L : Nat → Int32 → List Int32
  | 0, _ => [0, 0, 0, 0, 0]
  | t + 1, m => if own_b m t = true then (own_L t m).set (own_j t m).toNatClampNeg (Int32.ofNat t) else own_L t m
def own_ok (m : Int32) (t : Nat) (j : Int32) (L : List Int32) : Prop := j = own_j t m ∧ L = own_L t m
theorem own_ok0 (m : Int32) : own_ok m 0 (0 : Int32) [0, 0, 0, 0, 0] := ⟨rfl, rfl⟩
theorem own_hm (p : Int32) : 0 ≤ (p &&& (31 : Int32)).toInt ∧ (p &&& (31 : Int32)).toInt < 32 := by
  have m := c_mask p 31 5 (by decide) (by decide)
  omega
theorem own_cases {m : Int32} (h : 0 ≤ m.toInt ∧ m.toInt < 32) : ∃ i : Fin 32, m = Int32.ofNat i.val := by
  refine ⟨⟨m.toInt.toNat, by omega⟩, ?_⟩
  apply Int32.toInt_inj.mp
  rw [Int32.toInt_ofNat_of_lt (by show m.toInt.toNat < 2 ^ 31; omega)]
  show m.toInt = (m.toInt.toNat : Int)
  omega
theorem own_cap0 {m n : Int32} (h : 0 ≤ m.toInt ∧ m.toInt < 32) (hn : n = own_n m) : ¬ (n < 0) := by
  obtain ⟨i, rfl⟩ := own_cases h
  subst hn
  have : ∀ i : Fin 32, ¬ (own_n (Int32.ofNat i.val) < 0) := by decide +kernel
  exact this i
theorem own_cap1 {m n : Int32} (h : 0 ≤ m.toInt ∧ m.toInt < 32) (hn : n = own_n m) : n.toNatClampNeg ≤ 5 := by
  obtain ⟨i, rfl⟩ := own_cases h
  subst hn
  have : ∀ i : Fin 32, (own_n (Int32.ofNat i.val)).toNatClampNeg ≤ 5 := by decide +kernel
  exact this i
theorem own_hn {m n : Int32} (h : 0 ≤ m.toInt ∧ m.toInt < 32) (hn : n = own_n m) : 0 ≤ n.toInt ∧ n.toInt ≤ 5 := by
  obtain ⟨i, rfl⟩ := own_cases h
  subst hn
  have : ∀ i : Fin 32, 0 ≤ (own_n (Int32.ofNat i.val)).toInt ∧ (own_n (Int32.ofNat i.val)).toInt ≤ 5 := by decide +kernel
  exact this i
theorem own_hL {m n j : Int32} {L : List Int32} (h : 0 ≤ m.toInt ∧ m.toInt < 32) (hn : n = own_n m) (ok : own_ok m 5 j L) : ∀ i : Nat, (i : Int) < n.toInt → ¬ (L.getD i 0 < 0) ∧ L.getD i 0 < (5 : Int32) := by
  have hb := own_hn h hn
  obtain ⟨q, rfl⟩ := own_cases h
  obtain ⟨-, rfl⟩ := ok
  intro i hi
  have : ∀ (q : Fin 32) (k : Fin 5), ¬ ((own_L 5 (Int32.ofNat q.val)).getD k.val 0 < 0) ∧ (own_L 5 (Int32.ofNat q.val)).getD k.val 0 < (5 : Int32) := by decide +kernel
  exact this q ⟨i, by omega⟩
theorem own_yes1 {m j : Int32} {L : List Int32} (h : own_ok m 0 j L) (q : ¬ ((m &&& (1 : Int32)) = (0 : Int32))) : own_ok m 1 (j + (1 : Int32)) (L.set j.toNatClampNeg (0 : Int32)) := by
  obtain ⟨rfl, rfl⟩ := h
  have w : own_b m 0 = true := decide_eq_true q
  exact ⟨(if_pos w).symm, (if_pos w).symm⟩
theorem own_no1 {m j : Int32} {L : List Int32} (h : own_ok m 0 j L) (q : (m &&& (1 : Int32)) = (0 : Int32)) : own_ok m 1 j L := by
  obtain ⟨rfl, rfl⟩ := h
  have w : ¬ (own_b m 0 = true) := fun z => (of_decide_eq_true z) q
  exact ⟨(if_neg w).symm, (if_neg w).symm⟩
theorem own_sin0 {m n j : Int32} {L : List Int32} (hm : 0 ≤ m.toInt ∧ m.toInt < 32) (hn : n = own_n m) (h : own_ok m 0 j L) (q : ¬ ((m &&& (1 : Int32)) = (0 : Int32))) : ¬ (j < 0) ∧ j < n := by
  obtain ⟨i, rfl⟩ := own_cases hm
  obtain ⟨rfl, -⟩ := h
  subst hn
  have : ∀ i : Fin 32, ¬ ((Int32.ofNat i.val &&& (1 : Int32)) = (0 : Int32)) → ¬ (own_j 0 (Int32.ofNat i.val) < 0) ∧ own_j 0 (Int32.ofNat i.val) < own_n (Int32.ofNat i.val) := by decide +kernel
  exact this i q
theorem own_slen0 {m j : Int32} {L : List Int32} (hm : 0 ≤ m.toInt ∧ m.toInt < 32) (h : own_ok m 0 j L) : j.toNatClampNeg < L.length := by
  obtain ⟨i, rfl⟩ := own_cases hm
  obtain ⟨rfl, rfl⟩ := h
  have : ∀ i : Fin 32, (own_j 0 (Int32.ofNat i.val)).toNatClampNeg < (own_L 0 (Int32.ofNat i.val)).length := by decide +kernel
  exact this i
theorem own_yes2 {m j : Int32} {L : List Int32} (h : own_ok m 1 j L) (q : ¬ ((m &&& (2 : Int32)) = (0 : Int32))) : own_ok m 2 (j + (1 : Int32)) (L.set j.toNatClampNeg (1 : Int32)) := by
  obtain ⟨rfl, rfl⟩ := h
  have w : own_b m 1 = true := decide_eq_true q
  exact ⟨(if_pos w).symm, (if_pos w).symm⟩
theorem own_no2 {m j : Int32} {L : List Int32} (h : own_ok m 1 j L) (q : (m &&& (2 : Int32)) = (0 : Int32)) : own_ok m 2 j L := by
  obtain ⟨rfl, rfl⟩ := h
  have w : ¬ (own_b m 1 = true) := fun z => (of_decide_eq_true z) q
  exact ⟨(if_neg w).symm, (if_neg w).symm⟩
theorem own_sin1 {m n j : Int32} {L : List Int32} (hm : 0 ≤ m.toInt ∧ m.toInt < 32) (hn : n = own_n m) (h : own_ok m 1 j L) (q : ¬ ((m &&& (2 : Int32)) = (0 : Int32))) : ¬ (j < 0) ∧ j < n := by
  obtain ⟨i, rfl⟩ := own_cases hm
  obtain ⟨rfl, -⟩ := h
  subst hn
  have : ∀ i : Fin 32, ¬ ((Int32.ofNat i.val &&& (2 : Int32)) = (0 : Int32)) → ¬ (own_j 1 (Int32.ofNat i.val) < 0) ∧ own_j 1 (Int32.ofNat i.val) < own_n (Int32.ofNat i.val) := by decide +kernel
  exact this i q
theorem own_slen1 {m j : Int32} {L : List Int32} (hm : 0 ≤ m.toInt ∧ m.toInt < 32) (h : own_ok m 1 j L) : j.toNatClampNeg < L.length := by
  obtain ⟨i, rfl⟩ := own_cases hm
  obtain ⟨rfl, rfl⟩ := h
  have : ∀ i : Fin 32, (own_j 1 (Int32.ofNat i.val)).toNatClampNeg < (own_L 1 (Int32.ofNat i.val)).length := by decide +kernel
  exact this i
theorem own_yes3 {m j : Int32} {L : List Int32} (h : own_ok m 2 j L) (q : ¬ ((m &&& (4 : Int32)) = (0 : Int32))) : own_ok m 3 (j + (1 : Int32)) (L.set j.toNatClampNeg (2 : Int32)) := by
  obtain ⟨rfl, rfl⟩ := h
  have w : own_b m 2 = true := decide_eq_true q
  exact ⟨(if_pos w).symm, (if_pos w).symm⟩
theorem own_no3 {m j : Int32} {L : List Int32} (h : own_ok m 2 j L) (q : (m &&& (4 : Int32)) = (0 : Int32)) : own_ok m 3 j L := by
  obtain ⟨rfl, rfl⟩ := h
  have w : ¬ (own_b m 2 = true) := fun z => (of_decide_eq_true z) q
  exact ⟨(if_neg w).symm, (if_neg w).symm⟩
theorem own_sin2 {m n j : Int32} {L : List Int32} (hm : 0 ≤ m.toInt ∧ m.toInt < 32) (hn : n = own_n m) (h : own_ok m 2 j L) (q : ¬ ((m &&& (4 : Int32)) = (0 : Int32))) : ¬ (j < 0) ∧ j < n := by
  obtain ⟨i, rfl⟩ := own_cases hm
  obtain ⟨rfl, -⟩ := h
  subst hn
  have : ∀ i : Fin 32, ¬ ((Int32.ofNat i.val &&& (4 : Int32)) = (0 : Int32)) → ¬ (own_j 2 (Int32.ofNat i.val) < 0) ∧ own_j 2 (Int32.ofNat i.val) < own_n (Int32.ofNat i.val) := by decide +kernel
  exact this i q
theorem own_slen2 {m j : Int32} {L : List Int32} (hm : 0 ≤ m.toInt ∧ m.toInt < 32) (h : own_ok m 2 j L) : j.toNatClampNeg < L.length := by
  obtain ⟨i, rfl⟩ := own_cases hm
  obtain ⟨rfl, rfl⟩ := h
  have : ∀ i : Fin 32, (own_j 2 (Int32.ofNat i.val)).toNatClampNeg < (own_L 2 (Int32.ofNat i.val)).length := by decide +kernel
  exact this i
theorem own_yes4 {m j : Int32} {L : List Int32} (h : own_ok m 3 j L) (q : ¬ ((m &&& (8 : Int32)) = (0 : Int32))) : own_ok m 4 (j + (1 : Int32)) (L.set j.toNatClampNeg (3 : Int32)) := by
  obtain ⟨rfl, rfl⟩ := h
  have w : own_b m 3 = true := decide_eq_true q
  exact ⟨(if_pos w).symm, (if_pos w).symm⟩
theorem own_no4 {m j : Int32} {L : List Int32} (h : own_ok m 3 j L) (q : (m &&& (8 : Int32)) = (0 : Int32)) : own_ok m 4 j L := by
  obtain ⟨rfl, rfl⟩ := h
  have w : ¬ (own_b m 3 = true) := fun z => (of_decide_eq_true z) q
  exact ⟨(if_neg w).symm, (if_neg w).symm⟩
theorem own_sin3 {m n j : Int32} {L : List Int32} (hm : 0 ≤ m.toInt ∧ m.toInt < 32) (hn : n = own_n m) (h : own_ok m 3 j L) (q : ¬ ((m &&& (8 : Int32)) = (0 : Int32))) : ¬ (j < 0) ∧ j < n := by
  obtain ⟨i, rfl⟩ := own_cases hm
  obtain ⟨rfl, -⟩ := h
  subst hn
  have : ∀ i : Fin 32, ¬ ((Int32.ofNat i.val &&& (8 : Int32)) = (0 : Int32)) → ¬ (own_j 3 (Int32.ofNat i.val) < 0) ∧ own_j 3 (Int32.ofNat i.val) < own_n (Int32.ofNat i.val) := by decide +kernel
  exact this i q
theorem own_slen3 {m j : Int32} {L : List Int32} (hm : 0 ≤ m.toInt ∧ m.toInt < 32) (h : own_ok m 3 j L) : j.toNatClampNeg < L.length := by
  obtain ⟨i, rfl⟩ := own_cases hm
  obtain ⟨rfl, rfl⟩ := h
  have : ∀ i : Fin 32, (own_j 3 (Int32.ofNat i.val)).toNatClampNeg < (own_L 3 (Int32.ofNat i.val)).length := by decide +kernel
  exact this i
theorem own_yes5 {m j : Int32} {L : List Int32} (h : own_ok m 4 j L) (q : ¬ ((m &&& (16 : Int32)) = (0 : Int32))) : own_ok m 5 (j + (1 : Int32)) (L.set j.toNatClampNeg (4 : Int32)) := by
  obtain ⟨rfl, rfl⟩ := h
  have w : own_b m 4 = true := decide_eq_true q
  exact ⟨(if_pos w).symm, (if_pos w).symm⟩
theorem own_no5 {m j : Int32} {L : List Int32} (h : own_ok m 4 j L) (q : (m &&& (16 : Int32)) = (0 : Int32)) : own_ok m 5 j L := by
  obtain ⟨rfl, rfl⟩ := h
  have w : ¬ (own_b m 4 = true) := fun z => (of_decide_eq_true z) q
  exact ⟨(if_neg w).symm, (if_neg w).symm⟩
theorem own_sin4 {m n j : Int32} {L : List Int32} (hm : 0 ≤ m.toInt ∧ m.toInt < 32) (hn : n = own_n m) (h : own_ok m 4 j L) (q : ¬ ((m &&& (16 : Int32)) = (0 : Int32))) : ¬ (j < 0) ∧ j < n := by
  obtain ⟨i, rfl⟩ := own_cases hm
  obtain ⟨rfl, -⟩ := h
  subst hn
  have : ∀ i : Fin 32, ¬ ((Int32.ofNat i.val &&& (16 : Int32)) = (0 : Int32)) → ¬ (own_j 4 (Int32.ofNat i.val) < 0) ∧ own_j 4 (Int32.ofNat i.val) < own_n (Int32.ofNat i.val) := by decide +kernel
  exact this i q
theorem own_slen4 {m j : Int32} {L : List Int32} (hm : 0 ≤ m.toInt ∧ m.toInt < 32) (h : own_ok m 4 j L) : j.toNatClampNeg < L.length := by
  obtain ⟨i, rfl⟩ := own_cases hm
  obtain ⟨rfl, rfl⟩ := h
  have : ∀ i : Fin 32, (own_j 4 (Int32.ofNat i.val)).toNatClampNeg < (own_L 4 (Int32.ofNat i.val)).length := by decide +kernel
  exact this i
theorem own_z : (0 : Int32).toInt = 0 := by decide
theorem own_e1 : (1 : Int32).toInt = 1 := by decide
theorem own_in0 {n : Int32} (hn : 0 ≤ n.toInt ∧ n.toInt ≤ 5) : 0 ≤ (0 : Int32).toInt ∧ (0 : Int32).toInt ≤ n.toInt := by rw [own_z]; omega
theorem own_in {i n : Int32} (hI : 0 ≤ i.toInt ∧ i.toInt ≤ n.toInt) (hn : 0 ≤ n.toInt ∧ n.toInt ≤ 5) (hc : i < n) : ¬ (i < 0) ∧ i < n := by
  refine ⟨?_, hc⟩
  rw [Int32.lt_iff_toInt_lt, own_z]; omega
theorem own_in31 {L : List Int32} {i n : Int32} (hL : ∀ i : Nat, (i : Int) < n.toInt → ¬ (L.getD i 0 < 0) ∧ L.getD i 0 < (5 : Int32)) (hI : 0 ≤ i.toInt ∧ i.toInt ≤ n.toInt) (hn : 0 ≤ n.toInt ∧ n.toInt ≤ 5) (hc : i < n) : ¬ (L.getD i.toNatClampNeg 0 < 0) ∧ L.getD i.toNatClampNeg 0 < (5 : Int32) := by
  refine hL _ ?_
  rw [← nat_of (own_in hI hn hc).1]
  exact Int32.lt_iff_toInt_lt.mp hc
theorem own_inc {i n : Int32} (hI : 0 ≤ i.toInt ∧ i.toInt ≤ n.toInt) (hn : 0 ≤ n.toInt ∧ n.toInt ≤ 5) (hc : i < n) : (i + (1 : Int32)).toInt = i.toInt + 1 := by
  have q := c_iadd i 1
  have r := rng32 (i + 1)
  have z := own_e1
  omega
theorem own_step {i n : Int32} {f : Nat} (hI : (0 ≤ i.toInt ∧ i.toInt ≤ n.toInt) ∧ (n.toInt - i.toInt).toNat < f + 1) (hn : 0 ≤ n.toInt ∧ n.toInt ≤ 5) (hc : i < n) : (0 ≤ (i + (1 : Int32)).toInt ∧ (i + (1 : Int32)).toInt ≤ n.toInt) ∧ (n.toInt - (i + (1 : Int32)).toInt).toNat < f := by
  rw [own_inc hI.1 hn hc]
  rw [Int32.lt_iff_toInt_lt] at hc
  omega
theorem own_first {n : Int32} (hn : 0 ≤ n.toInt ∧ n.toInt ≤ 5) (hc : (0 : Int32) < n) : (0 ≤ ((0 : Int32) + (1 : Int32)).toInt ∧ ((0 : Int32) + (1 : Int32)).toInt ≤ n.toInt) ∧ (n.toInt - ((0 : Int32) + (1 : Int32)).toInt).toNat < 6 := by
  have e : ((0 : Int32) + (1 : Int32)).toInt = 1 := by decide
  rw [e]
  rw [Int32.lt_iff_toInt_lt, own_z] at hc
  omega
theorem own_pn0 : plainName "com/example/prorata/prorata/Pricer" = true := by first | (simp [plainName, overriddenIn]; done) | decide +kernel
theorem d1_0 : decode prog_54_method_22_code 0 = .ok (.lconst 0, 1) := by decide +kernel
theorem d1_1 : decode prog_54_method_22_code 1 = .ok (.lstore_n 2, 1) := by decide +kernel
theorem d1_2 : decode prog_54_method_22_code 2 = .ok (.aload_n 0, 1) := by decide +kernel
theorem d1_3 : decode prog_54_method_22_code 3 = .ok (.astore 4, 2) := by decide +kernel
theorem d1_5 : decode prog_54_method_22_code 5 = .ok (.aload 4, 2) := by decide +kernel
theorem d1_7 : decode prog_54_method_22_code 7 = .ok (.arraylength, 1) := by decide +kernel
theorem d1_8 : decode prog_54_method_22_code 8 = .ok (.istore 5, 2) := by decide +kernel
theorem d1_10 : decode prog_54_method_22_code 10 = .ok (.iconst 0, 1) := by decide +kernel
theorem d1_11 : decode prog_54_method_22_code 11 = .ok (.istore 6, 2) := by decide +kernel
theorem d1_13 : decode prog_54_method_22_code 13 = .ok (.iload 6, 2) := by decide +kernel
theorem d1_15 : decode prog_54_method_22_code 15 = .ok (.iload 5, 2) := by decide +kernel
theorem d1_17 : decode prog_54_method_22_code 17 = .ok (.if_icmp .ge 23, 3) := by decide +kernel
theorem d1_20 : decode prog_54_method_22_code 20 = .ok (.aload 4, 2) := by decide +kernel
theorem d1_22 : decode prog_54_method_22_code 22 = .ok (.iload 6, 2) := by decide +kernel
theorem d1_24 : decode prog_54_method_22_code 24 = .ok (.iaload, 1) := by decide +kernel
theorem d1_25 : decode prog_54_method_22_code 25 = .ok (.istore 7, 2) := by decide +kernel
theorem d1_27 : decode prog_54_method_22_code 27 = .ok (.lload_n 2, 1) := by decide +kernel
theorem d1_28 : decode prog_54_method_22_code 28 = .ok (.aload_n 1, 1) := by decide +kernel
theorem d1_29 : decode prog_54_method_22_code 29 = .ok (.iload 7, 2) := by decide +kernel
theorem d1_31 : decode prog_54_method_22_code 31 = .ok (.laload, 1) := by decide +kernel
theorem d1_32 : decode prog_54_method_22_code 32 = .ok (.ladd, 1) := by decide +kernel
theorem d1_33 : decode prog_54_method_22_code 33 = .ok (.lstore_n 2, 1) := by decide +kernel
theorem d1_34 : decode prog_54_method_22_code 34 = .ok (.iinc 6 1, 3) := by decide +kernel
theorem d1_37 : decode prog_54_method_22_code 37 = .ok (.goto (-24), 3) := by decide +kernel
theorem d1_40 : decode prog_54_method_22_code 40 = .ok (.lload_n 2, 1) := by decide +kernel
theorem d1_41 : decode prog_54_method_22_code 41 = .ok (.lreturn, 1) := by decide +kernel
theorem ef_1 (m : MethodId) (a0 : Addr) (a1 : Addr) : entryFrame m #[(.ref a0), (.ref a1)] 8 = mkF m 0 #[.val (.ref a0), .val (.ref a1), .unset, .unset, .unset, .unset, .unset, .unset] [] := by first | (simp [entryFrame, mkF, argsToLocals, Value.category]; done) | rfl
def F1_13 (n_a0 : Int32) (L_a0 : List Int32) (L_a1 : List Int64) : Nat → Int64 → Int32 → Int32 → Int64
  | 0, _, _, _ => 0
  | nn + 1, v2_13, v6_13, v7_13 => (if v6_13 < n_a0 then (F1_13 n_a0 L_a0 L_a1 nn (v2_13 + (L_a1.getD ((L_a0.getD (v6_13).toNatClampNeg 0)).toNatClampNeg 0)) (v6_13 + (1 : Int32)) (L_a0.getD (v6_13).toNatClampNeg 0)) else v2_13)
def F1 (n_a0 : Int32) (L_a0 : List Int32) (L_a1 : List Int64) : Int64 := (if (0 : Int32) < n_a0 then (F1_13 n_a0 L_a0 L_a1 6 ((0 : Int64) + (L_a1.getD ((L_a0.getD ((0 : Int32)).toNatClampNeg 0)).toNatClampNeg 0)) ((0 : Int32) + (1 : Int32)) (L_a0.getD ((0 : Int32)).toNatClampNeg 0)) else (0 : Int64))
set_option maxRecDepth 65536 in
set_option maxHeartbeats 40000000 in
theorem rm1 (l : Launch) (Z : State) (az : Array Value) (hw : ∀ d ∈ tables_1, d.before az Z = true) (ws : List Jvm.Cond) (a0 : Addr) (a1 : Addr) (n_a0 : Int32) (k_a0 : ClassId) (L_a0 : List Int32) (k_a1 : ClassId) (L_a1 : List Int64) (h0 : Heap) (n0 : Nat) (Z0 : n0 ≤ h0.size) (V_a0 : Arv Z h0 a0 k_a0 .int n_a0 (L_a0.map Value.int) (.int (0 : Int32))) (V_a1 : Arv Z h0 a1 k_a1 .long (5 : Int32) (L_a1.map Value.long) (.long (0 : Int64))) (hn : 0 ≤ n_a0.toInt ∧ n_a0.toInt ≤ 5) (hL : ∀ i : Nat, (i : Int) < n_a0.toInt → ¬ (L_a0.getD i 0 < 0) ∧ L_a0.getD i 0 < (5 : Int32)) :
    MetFree l (⟨"com/example/prorata/prorata/Pricer", "sum", "([I[J)J"⟩ : MethodName) (head1 (Jvm.Cond.code (⟨"com/example/prorata/prorata/Pricer", "sum", "([I[J)J"⟩ : MethodName) prog_54_method_22_code 8 (some .long) :: ws) ({ frames := 0, cells := 0, slots := 0, locals := 0 } : Room)) (fun a U => a = #[(.ref a0), (.ref a1)] ∧ Z.Warmed39 U.vm ∧ U.heap = h0) (fun _ _ _ _ _ => True) (fun _ U o U' => ∃ v L, o = .returned v ∧ (QP (some (.long (F1 n_a0 L_a0 L_a1))) h0 n0) v U'.heap L ∧ FrameEnd U o U' L ({ frames := 0, cells := 0, slots := 0, locals := 0 } : Room).cells ({ frames := 0, cells := 0, slots := 0, locals := 0 } : Room).slots) := by
  refine MetFree.of_bodySF (plainFor_of_name own_pn0) hisR ?_
  intro p e s m args below meth c s₁ Bd hml0 hP hK
  obtain ⟨rfl, hZ, hh⟩ := hP
  have hx := Bd.exec
  have hby := Bd.bytes
  have hml : c.maxLocals = 8 := hml0
  have hown : s.vm.findClass "com/example/prorata/prorata/Pricer" = some m.cls := findClass_of_methodNamed Bd.named
  have hnm := (name_of_methodNamed Bd.named Bd.method).1
  have hlk : meth.locks = false := BodyLoose.notSynchronized Bd
  have X0 : Stand p l e ({ frames := 0, cells := 0, slots := 0, locals := 0 } : Room) s m #[(.ref a0), (.ref a1)] below meth c s₁ [] 0 0 := Stand.of_body Bd
  have e0 : s₁.heap = h0 := by rw [← hh, Bd.state]; rfl
  have N0 := Fr.nil n0
  show Go p e below s (QP (some (.long (F1 n_a0 L_a0 L_a1))) h0 n0) ({ frames := 0, cells := 0, slots := 0, locals := 0 } : Room).cells ({ frames := 0, cells := 0, slots := 0, locals := 0 } : Room).slots (s₁.setTop (entryFrame m #[(.ref a0), (.ref a1)] 8))
  refine Go.of (fun t k => castTop (ef_1 m a0 a1) k) ?_
  show Go p e below s _ _ _ (s₁.setTop (mkF m 0 #[.val (.ref a0), .val (.ref a1), .unset, .unset, .unset, .unset, .unset, .unset] []))
  unfold F1
  refine Go.of (fun t k => XS.lconst X0.here hx rfl (hb hby d1_0) k) ?_
  show Go p e below s _ _ _ (s₁.setTop (mkF m 1 #[.val (.ref a0), .val (.ref a1), .unset, .unset, .unset, .unset, .unset, .unset] [(.long (0 : Int64))]))
  refine Go.of (fun t k => XS.lstoreN X0.here hx rfl (hb hby d1_1) rfl (l' := #[.val (.ref a0), .val (.ref a1), .val (.long (0 : Int64)), .second, .unset, .unset, .unset, .unset]) rfl k) ?_
  show Go p e below s _ _ _ (s₁.setTop (mkF m 2 #[.val (.ref a0), .val (.ref a1), .val (.long (0 : Int64)), .second, .unset, .unset, .unset, .unset] []))
  refine Go.of (fun t k => XS.aloadN X0.here hx rfl (hb hby d1_2) rfl rfl k) ?_
  show Go p e below s _ _ _ (s₁.setTop (mkF m 3 #[.val (.ref a0), .val (.ref a1), .val (.long (0 : Int64)), .second, .unset, .unset, .unset, .unset] [(.ref a0)]))
  refine Go.of (fun t k => XS.astore X0.here hx rfl (hb hby d1_3) rfl rfl (l' := #[.val (.ref a0), .val (.ref a1), .val (.long (0 : Int64)), .second, .val (.ref a0), .unset, .unset, .unset]) rfl k) ?_
  show Go p e below s _ _ _ (s₁.setTop (mkF m 5 #[.val (.ref a0), .val (.ref a1), .val (.long (0 : Int64)), .second, .val (.ref a0), .unset, .unset, .unset] []))
  refine Go.of (fun t k => XS.aload X0.here hx rfl (hb hby d1_5) rfl rfl k) ?_
  show Go p e below s _ _ _ (s₁.setTop (mkF m 7 #[.val (.ref a0), .val (.ref a1), .val (.long (0 : Int64)), .second, .val (.ref a0), .unset, .unset, .unset] [(.ref a0)]))
  obtain ⟨cl1, Ar1, q1, S1, M1, H1, G1⟩ := id V_a0
  refine Go.of (X0.arraylength hx (by rw [e0]; exact Ar1.1) (State.isArrayOf_alike hZ.alike Ar1.2.1) (g := (mkF m 7 #[.val (.ref a0), .val (.ref a1), .val (.long (0 : Int64)), .second, .val (.ref a0), .unset, .unset, .unset] [(.ref a0)])) rfl rfl (hb hby d1_7)) ?_
  rw [len_of S1 M1]
  show Go p e below s _ _ _ (s₁.setTop (mkF m 8 #[.val (.ref a0), .val (.ref a1), .val (.long (0 : Int64)), .second, .val (.ref a0), .unset, .unset, .unset] [(.int n_a0)]))
  refine Go.of (fun t k => XS.istore X0.here hx rfl (hb hby d1_8) rfl (l' := #[.val (.ref a0), .val (.ref a1), .val (.long (0 : Int64)), .second, .val (.ref a0), .val (.int n_a0), .unset, .unset]) rfl k) ?_
  show Go p e below s _ _ _ (s₁.setTop (mkF m 10 #[.val (.ref a0), .val (.ref a1), .val (.long (0 : Int64)), .second, .val (.ref a0), .val (.int n_a0), .unset, .unset] []))
  refine Go.of (fun t k => XS.iconst X0.here hx rfl (hb hby d1_10) k) ?_
  show Go p e below s _ _ _ (s₁.setTop (mkF m 11 #[.val (.ref a0), .val (.ref a1), .val (.long (0 : Int64)), .second, .val (.ref a0), .val (.int n_a0), .unset, .unset] [(.int (0 : Int32))]))
  refine Go.of (fun t k => XS.istore X0.here hx rfl (hb hby d1_11) rfl (l' := #[.val (.ref a0), .val (.ref a1), .val (.long (0 : Int64)), .second, .val (.ref a0), .val (.int n_a0), .val (.int (0 : Int32)), .unset]) rfl k) ?_
  show Go p e below s _ _ _ (s₁.setTop (mkF m 13 #[.val (.ref a0), .val (.ref a1), .val (.long (0 : Int64)), .second, .val (.ref a0), .val (.int n_a0), .val (.int (0 : Int32)), .unset] []))
  refine Go.of (fun t k => XS.iload X0.here hx rfl (hb hby d1_13) rfl k) ?_
  show Go p e below s _ _ _ (s₁.setTop (mkF m 15 #[.val (.ref a0), .val (.ref a1), .val (.long (0 : Int64)), .second, .val (.ref a0), .val (.int n_a0), .val (.int (0 : Int32)), .unset] [(.int (0 : Int32))]))
  refine Go.of (fun t k => XS.iload X0.here hx rfl (hb hby d1_15) rfl k) ?_
  show Go p e below s _ _ _ (s₁.setTop (mkF m 17 #[.val (.ref a0), .val (.ref a1), .val (.long (0 : Int64)), .second, .val (.ref a0), .val (.int n_a0), .val (.int (0 : Int32)), .unset] [(.int n_a0), (.int (0 : Int32))]))
  by_cases hc17_2 : (0 : Int32) < n_a0
  · rewrite [if_pos hc17_2]
    refine Go.of (fun t k => XS.icmpNo X0.here hx rfl (hb hby d1_17) rfl (tlt hc17_2).2.1 k) ?_
    show Go p e below s _ _ _ (s₁.setTop (mkF m 20 #[.val (.ref a0), .val (.ref a1), .val (.long (0 : Int64)), .second, .val (.ref a0), .val (.int n_a0), .val (.int (0 : Int32)), .unset] []))
    refine Go.of (fun t k => XS.aload X0.here hx rfl (hb hby d1_20) rfl rfl k) ?_
    show Go p e below s _ _ _ (s₁.setTop (mkF m 22 #[.val (.ref a0), .val (.ref a1), .val (.long (0 : Int64)), .second, .val (.ref a0), .val (.int n_a0), .val (.int (0 : Int32)), .unset] [(.ref a0)]))
    refine Go.of (fun t k => XS.iload X0.here hx rfl (hb hby d1_22) rfl k) ?_
    show Go p e below s _ _ _ (s₁.setTop (mkF m 24 #[.val (.ref a0), .val (.ref a1), .val (.long (0 : Int64)), .second, .val (.ref a0), .val (.int n_a0), .val (.int (0 : Int32)), .unset] [(.int (0 : Int32)), (.ref a0)]))
    obtain ⟨cl3, Ar3, q3, S3, M3, H3, G3⟩ := id V_a0
    have hin3 : ¬ ((0 : Int32) < 0 ∨ cl3.slots.size ≤ ((0 : Int32)).toNatClampNeg) := (inb_of S3 (own_in (own_in0 hn) hn hc17_2))
    refine Go.of (X0.iaload hx (j := (0 : Int32)) (v := (.int (L_a0.getD ((0 : Int32)).toNatClampNeg 0))) (by rw [e0]; exact Ar3.1) (State.isArrayOf_alike hZ.alike Ar3.2.1) Ar3.2.2 hin3 (Has.at H3 hin3 (own_getDI L_a0 _)) (g := (mkF m 24 #[.val (.ref a0), .val (.ref a1), .val (.long (0 : Int64)), .second, .val (.ref a0), .val (.int n_a0), .val (.int (0 : Int32)), .unset] [(.int (0 : Int32)), (.ref a0)])) rfl rfl (hb hby d1_24)) ?_
    show Go p e below s _ _ _ (s₁.setTop (mkF m 25 #[.val (.ref a0), .val (.ref a1), .val (.long (0 : Int64)), .second, .val (.ref a0), .val (.int n_a0), .val (.int (0 : Int32)), .unset] [(.int (L_a0.getD ((0 : Int32)).toNatClampNeg 0))]))
    refine Go.of (fun t k => XS.istore X0.here hx rfl (hb hby d1_25) rfl (l' := #[.val (.ref a0), .val (.ref a1), .val (.long (0 : Int64)), .second, .val (.ref a0), .val (.int n_a0), .val (.int (0 : Int32)), .val (.int (L_a0.getD ((0 : Int32)).toNatClampNeg 0))]) rfl k) ?_
    show Go p e below s _ _ _ (s₁.setTop (mkF m 27 #[.val (.ref a0), .val (.ref a1), .val (.long (0 : Int64)), .second, .val (.ref a0), .val (.int n_a0), .val (.int (0 : Int32)), .val (.int (L_a0.getD ((0 : Int32)).toNatClampNeg 0))] []))
    refine Go.of (fun t k => XS.lloadN X0.here hx rfl (hb hby d1_27) rfl k) ?_
    show Go p e below s _ _ _ (s₁.setTop (mkF m 28 #[.val (.ref a0), .val (.ref a1), .val (.long (0 : Int64)), .second, .val (.ref a0), .val (.int n_a0), .val (.int (0 : Int32)), .val (.int (L_a0.getD ((0 : Int32)).toNatClampNeg 0))] [(.long (0 : Int64))]))
    refine Go.of (fun t k => XS.aloadN X0.here hx rfl (hb hby d1_28) rfl rfl k) ?_
    show Go p e below s _ _ _ (s₁.setTop (mkF m 29 #[.val (.ref a0), .val (.ref a1), .val (.long (0 : Int64)), .second, .val (.ref a0), .val (.int n_a0), .val (.int (0 : Int32)), .val (.int (L_a0.getD ((0 : Int32)).toNatClampNeg 0))] [(.ref a1), (.long (0 : Int64))]))
    refine Go.of (fun t k => XS.iload X0.here hx rfl (hb hby d1_29) rfl k) ?_
    show Go p e below s _ _ _ (s₁.setTop (mkF m 31 #[.val (.ref a0), .val (.ref a1), .val (.long (0 : Int64)), .second, .val (.ref a0), .val (.int n_a0), .val (.int (0 : Int32)), .val (.int (L_a0.getD ((0 : Int32)).toNatClampNeg 0))] [(.int (L_a0.getD ((0 : Int32)).toNatClampNeg 0)), (.ref a1), (.long (0 : Int64))]))
    obtain ⟨cl4, Ar4, q4, S4, M4, H4, G4⟩ := id V_a1
    have hin4 : ¬ ((L_a0.getD ((0 : Int32)).toNatClampNeg 0) < 0 ∨ cl4.slots.size ≤ ((L_a0.getD ((0 : Int32)).toNatClampNeg 0)).toNatClampNeg) := (inb_of S4 (own_in31 hL (own_in0 hn) hn hc17_2))
    refine Go.of (X0.laload hx (j := (L_a0.getD ((0 : Int32)).toNatClampNeg 0)) (v := (.long (L_a1.getD ((L_a0.getD ((0 : Int32)).toNatClampNeg 0)).toNatClampNeg 0))) (by rw [e0]; exact Ar4.1) (State.isArrayOf_alike hZ.alike Ar4.2.1) Ar4.2.2 hin4 (Has.at H4 hin4 (own_getDL L_a1 _)) (g := (mkF m 31 #[.val (.ref a0), .val (.ref a1), .val (.long (0 : Int64)), .second, .val (.ref a0), .val (.int n_a0), .val (.int (0 : Int32)), .val (.int (L_a0.getD ((0 : Int32)).toNatClampNeg 0))] [(.int (L_a0.getD ((0 : Int32)).toNatClampNeg 0)), (.ref a1), (.long (0 : Int64))])) rfl rfl (hb hby d1_31)) ?_
    show Go p e below s _ _ _ (s₁.setTop (mkF m 32 #[.val (.ref a0), .val (.ref a1), .val (.long (0 : Int64)), .second, .val (.ref a0), .val (.int n_a0), .val (.int (0 : Int32)), .val (.int (L_a0.getD ((0 : Int32)).toNatClampNeg 0))] [(.long (L_a1.getD ((L_a0.getD ((0 : Int32)).toNatClampNeg 0)).toNatClampNeg 0)), (.long (0 : Int64))]))
    refine Go.of (fun t k => XS.ladd X0.here hx rfl (hb hby d1_32) rfl k) ?_
    show Go p e below s _ _ _ (s₁.setTop (mkF m 33 #[.val (.ref a0), .val (.ref a1), .val (.long (0 : Int64)), .second, .val (.ref a0), .val (.int n_a0), .val (.int (0 : Int32)), .val (.int (L_a0.getD ((0 : Int32)).toNatClampNeg 0))] [(.long ((0 : Int64) + (L_a1.getD ((L_a0.getD ((0 : Int32)).toNatClampNeg 0)).toNatClampNeg 0)))]))
    refine Go.of (fun t k => XS.lstoreN X0.here hx rfl (hb hby d1_33) rfl (l' := #[.val (.ref a0), .val (.ref a1), .val (.long ((0 : Int64) + (L_a1.getD ((L_a0.getD ((0 : Int32)).toNatClampNeg 0)).toNatClampNeg 0))), .second, .val (.ref a0), .val (.int n_a0), .val (.int (0 : Int32)), .val (.int (L_a0.getD ((0 : Int32)).toNatClampNeg 0))]) rfl k) ?_
    show Go p e below s _ _ _ (s₁.setTop (mkF m 34 #[.val (.ref a0), .val (.ref a1), .val (.long ((0 : Int64) + (L_a1.getD ((L_a0.getD ((0 : Int32)).toNatClampNeg 0)).toNatClampNeg 0))), .second, .val (.ref a0), .val (.int n_a0), .val (.int (0 : Int32)), .val (.int (L_a0.getD ((0 : Int32)).toNatClampNeg 0))] []))
    refine Go.of (fun t k => XS.iinc X0.here hx rfl (hb hby d1_34) rfl (l' := #[.val (.ref a0), .val (.ref a1), .val (.long ((0 : Int64) + (L_a1.getD ((L_a0.getD ((0 : Int32)).toNatClampNeg 0)).toNatClampNeg 0))), .second, .val (.ref a0), .val (.int n_a0), .val (.int ((0 : Int32) + (1 : Int32))), .val (.int (L_a0.getD ((0 : Int32)).toNatClampNeg 0))]) rfl k) ?_
    show Go p e below s _ _ _ (s₁.setTop (mkF m 37 #[.val (.ref a0), .val (.ref a1), .val (.long ((0 : Int64) + (L_a1.getD ((L_a0.getD ((0 : Int32)).toNatClampNeg 0)).toNatClampNeg 0))), .second, .val (.ref a0), .val (.int n_a0), .val (.int ((0 : Int32) + (1 : Int32))), .val (.int (L_a0.getD ((0 : Int32)).toNatClampNeg 0))] []))
    refine Go.of (fun t k => XS.goto X0.here hx rfl (pc0 := 37) (pc' := 13) rfl (hb hby d1_37) (by decide) (by decide) k) ?_
    show Go p e below s _ _ _ (s₁.setTop (mkF m 13 #[.val (.ref a0), .val (.ref a1), .val (.long ((0 : Int64) + (L_a1.getD ((L_a0.getD ((0 : Int32)).toNatClampNeg 0)).toNatClampNeg 0))), .second, .val (.ref a0), .val (.int n_a0), .val (.int ((0 : Int32) + (1 : Int32))), .val (.int (L_a0.getD ((0 : Int32)).toNatClampNeg 0))] []))
    have jn13 : ∀ (nn : Nat), ∀ (v2_13 : Int64) (v6_13 : Int32) (v7_13 : Int32) (T_13 : State) (l_13 : List Loc) (X_13 : Stand p l e ({ frames := 0, cells := 0, slots := 0, locals := 0 } : Room) s m #[(.ref a0), (.ref a1)] below meth c T_13 l_13 0 0) (e_13 : T_13.heap = h0) (N_13 : Fr n0 l_13) (hI_13 : (0 ≤ v6_13.toInt ∧ v6_13.toInt ≤ n_a0.toInt) ∧ (n_a0.toInt - v6_13.toInt).toNat < nn), Go p e below s (QP (some (.long (F1_13 n_a0 L_a0 L_a1 nn v2_13 v6_13 v7_13))) h0 n0) ({ frames := 0, cells := 0, slots := 0, locals := 0 } : Room).cells ({ frames := 0, cells := 0, slots := 0, locals := 0 } : Room).slots (T_13.setTop (mkF m 13 #[.val (.ref a0), .val (.ref a1), .val (.long v2_13), .second, .val (.ref a0), .val (.int n_a0), .val (.int v6_13), .val (.int v7_13)] [])) := by
      intro nn
      induction nn with
      | zero =>
        intro v2_13 v6_13 v7_13 T_13 l_13 X_13 e_13 N_13 hI_13
        exact absurd hI_13.2 (Nat.not_lt_zero _)
      | succ nn ih =>
        intro v2_13 v6_13 v7_13 T_13 l_13 X_13 e_13 N_13 hI_13
        rewrite [F1_13]
        refine Go.of (fun t k => XS.iload X_13.here hx rfl (hb hby d1_13) rfl k) ?_
        show Go p e below s _ _ _ (T_13.setTop (mkF m 15 #[.val (.ref a0), .val (.ref a1), .val (.long v2_13), .second, .val (.ref a0), .val (.int n_a0), .val (.int v6_13), .val (.int v7_13)] [(.int v6_13)]))
        refine Go.of (fun t k => XS.iload X_13.here hx rfl (hb hby d1_15) rfl k) ?_
        show Go p e below s _ _ _ (T_13.setTop (mkF m 17 #[.val (.ref a0), .val (.ref a1), .val (.long v2_13), .second, .val (.ref a0), .val (.int n_a0), .val (.int v6_13), .val (.int v7_13)] [(.int n_a0), (.int v6_13)]))
        by_cases hc17_5 : v6_13 < n_a0
        · rewrite [if_pos hc17_5]
          refine Go.of (fun t k => XS.icmpNo X_13.here hx rfl (hb hby d1_17) rfl (tlt hc17_5).2.1 k) ?_
          show Go p e below s _ _ _ (T_13.setTop (mkF m 20 #[.val (.ref a0), .val (.ref a1), .val (.long v2_13), .second, .val (.ref a0), .val (.int n_a0), .val (.int v6_13), .val (.int v7_13)] []))
          refine Go.of (fun t k => XS.aload X_13.here hx rfl (hb hby d1_20) rfl rfl k) ?_
          show Go p e below s _ _ _ (T_13.setTop (mkF m 22 #[.val (.ref a0), .val (.ref a1), .val (.long v2_13), .second, .val (.ref a0), .val (.int n_a0), .val (.int v6_13), .val (.int v7_13)] [(.ref a0)]))
          refine Go.of (fun t k => XS.iload X_13.here hx rfl (hb hby d1_22) rfl k) ?_
          show Go p e below s _ _ _ (T_13.setTop (mkF m 24 #[.val (.ref a0), .val (.ref a1), .val (.long v2_13), .second, .val (.ref a0), .val (.int n_a0), .val (.int v6_13), .val (.int v7_13)] [(.int v6_13), (.ref a0)]))
          obtain ⟨cl6, Ar6, q6, S6, M6, H6, G6⟩ := id V_a0
          have hin6 : ¬ (v6_13 < 0 ∨ cl6.slots.size ≤ (v6_13).toNatClampNeg) := (inb_of S6 (own_in hI_13.1 hn hc17_5))
          refine Go.of (X_13.iaload hx (j := v6_13) (v := (.int (L_a0.getD (v6_13).toNatClampNeg 0))) (by rw [e_13]; exact Ar6.1) (State.isArrayOf_alike hZ.alike Ar6.2.1) Ar6.2.2 hin6 (Has.at H6 hin6 (own_getDI L_a0 _)) (g := (mkF m 24 #[.val (.ref a0), .val (.ref a1), .val (.long v2_13), .second, .val (.ref a0), .val (.int n_a0), .val (.int v6_13), .val (.int v7_13)] [(.int v6_13), (.ref a0)])) rfl rfl (hb hby d1_24)) ?_
          show Go p e below s _ _ _ (T_13.setTop (mkF m 25 #[.val (.ref a0), .val (.ref a1), .val (.long v2_13), .second, .val (.ref a0), .val (.int n_a0), .val (.int v6_13), .val (.int v7_13)] [(.int (L_a0.getD (v6_13).toNatClampNeg 0))]))
          refine Go.of (fun t k => XS.istore X_13.here hx rfl (hb hby d1_25) rfl (l' := #[.val (.ref a0), .val (.ref a1), .val (.long v2_13), .second, .val (.ref a0), .val (.int n_a0), .val (.int v6_13), .val (.int (L_a0.getD (v6_13).toNatClampNeg 0))]) rfl k) ?_
          show Go p e below s _ _ _ (T_13.setTop (mkF m 27 #[.val (.ref a0), .val (.ref a1), .val (.long v2_13), .second, .val (.ref a0), .val (.int n_a0), .val (.int v6_13), .val (.int (L_a0.getD (v6_13).toNatClampNeg 0))] []))
          refine Go.of (fun t k => XS.lloadN X_13.here hx rfl (hb hby d1_27) rfl k) ?_
          show Go p e below s _ _ _ (T_13.setTop (mkF m 28 #[.val (.ref a0), .val (.ref a1), .val (.long v2_13), .second, .val (.ref a0), .val (.int n_a0), .val (.int v6_13), .val (.int (L_a0.getD (v6_13).toNatClampNeg 0))] [(.long v2_13)]))
          refine Go.of (fun t k => XS.aloadN X_13.here hx rfl (hb hby d1_28) rfl rfl k) ?_
          show Go p e below s _ _ _ (T_13.setTop (mkF m 29 #[.val (.ref a0), .val (.ref a1), .val (.long v2_13), .second, .val (.ref a0), .val (.int n_a0), .val (.int v6_13), .val (.int (L_a0.getD (v6_13).toNatClampNeg 0))] [(.ref a1), (.long v2_13)]))
          refine Go.of (fun t k => XS.iload X_13.here hx rfl (hb hby d1_29) rfl k) ?_
          show Go p e below s _ _ _ (T_13.setTop (mkF m 31 #[.val (.ref a0), .val (.ref a1), .val (.long v2_13), .second, .val (.ref a0), .val (.int n_a0), .val (.int v6_13), .val (.int (L_a0.getD (v6_13).toNatClampNeg 0))] [(.int (L_a0.getD (v6_13).toNatClampNeg 0)), (.ref a1), (.long v2_13)]))
          obtain ⟨cl7, Ar7, q7, S7, M7, H7, G7⟩ := id V_a1
          have hin7 : ¬ ((L_a0.getD (v6_13).toNatClampNeg 0) < 0 ∨ cl7.slots.size ≤ ((L_a0.getD (v6_13).toNatClampNeg 0)).toNatClampNeg) := (inb_of S7 (own_in31 hL hI_13.1 hn hc17_5))
          refine Go.of (X_13.laload hx (j := (L_a0.getD (v6_13).toNatClampNeg 0)) (v := (.long (L_a1.getD ((L_a0.getD (v6_13).toNatClampNeg 0)).toNatClampNeg 0))) (by rw [e_13]; exact Ar7.1) (State.isArrayOf_alike hZ.alike Ar7.2.1) Ar7.2.2 hin7 (Has.at H7 hin7 (own_getDL L_a1 _)) (g := (mkF m 31 #[.val (.ref a0), .val (.ref a1), .val (.long v2_13), .second, .val (.ref a0), .val (.int n_a0), .val (.int v6_13), .val (.int (L_a0.getD (v6_13).toNatClampNeg 0))] [(.int (L_a0.getD (v6_13).toNatClampNeg 0)), (.ref a1), (.long v2_13)])) rfl rfl (hb hby d1_31)) ?_
          show Go p e below s _ _ _ (T_13.setTop (mkF m 32 #[.val (.ref a0), .val (.ref a1), .val (.long v2_13), .second, .val (.ref a0), .val (.int n_a0), .val (.int v6_13), .val (.int (L_a0.getD (v6_13).toNatClampNeg 0))] [(.long (L_a1.getD ((L_a0.getD (v6_13).toNatClampNeg 0)).toNatClampNeg 0)), (.long v2_13)]))
          refine Go.of (fun t k => XS.ladd X_13.here hx rfl (hb hby d1_32) rfl k) ?_
          show Go p e below s _ _ _ (T_13.setTop (mkF m 33 #[.val (.ref a0), .val (.ref a1), .val (.long v2_13), .second, .val (.ref a0), .val (.int n_a0), .val (.int v6_13), .val (.int (L_a0.getD (v6_13).toNatClampNeg 0))] [(.long (v2_13 + (L_a1.getD ((L_a0.getD (v6_13).toNatClampNeg 0)).toNatClampNeg 0)))]))
          refine Go.of (fun t k => XS.lstoreN X_13.here hx rfl (hb hby d1_33) rfl (l' := #[.val (.ref a0), .val (.ref a1), .val (.long (v2_13 + (L_a1.getD ((L_a0.getD (v6_13).toNatClampNeg 0)).toNatClampNeg 0))), .second, .val (.ref a0), .val (.int n_a0), .val (.int v6_13), .val (.int (L_a0.getD (v6_13).toNatClampNeg 0))]) rfl k) ?_
          show Go p e below s _ _ _ (T_13.setTop (mkF m 34 #[.val (.ref a0), .val (.ref a1), .val (.long (v2_13 + (L_a1.getD ((L_a0.getD (v6_13).toNatClampNeg 0)).toNatClampNeg 0))), .second, .val (.ref a0), .val (.int n_a0), .val (.int v6_13), .val (.int (L_a0.getD (v6_13).toNatClampNeg 0))] []))
          refine Go.of (fun t k => XS.iinc X_13.here hx rfl (hb hby d1_34) rfl (l' := #[.val (.ref a0), .val (.ref a1), .val (.long (v2_13 + (L_a1.getD ((L_a0.getD (v6_13).toNatClampNeg 0)).toNatClampNeg 0))), .second, .val (.ref a0), .val (.int n_a0), .val (.int (v6_13 + (1 : Int32))), .val (.int (L_a0.getD (v6_13).toNatClampNeg 0))]) rfl k) ?_
          show Go p e below s _ _ _ (T_13.setTop (mkF m 37 #[.val (.ref a0), .val (.ref a1), .val (.long (v2_13 + (L_a1.getD ((L_a0.getD (v6_13).toNatClampNeg 0)).toNatClampNeg 0))), .second, .val (.ref a0), .val (.int n_a0), .val (.int (v6_13 + (1 : Int32))), .val (.int (L_a0.getD (v6_13).toNatClampNeg 0))] []))
          refine Go.of (fun t k => XS.goto X_13.here hx rfl (pc0 := 37) (pc' := 13) rfl (hb hby d1_37) (by decide) (by decide) k) ?_
          show Go p e below s _ _ _ (T_13.setTop (mkF m 13 #[.val (.ref a0), .val (.ref a1), .val (.long (v2_13 + (L_a1.getD ((L_a0.getD (v6_13).toNatClampNeg 0)).toNatClampNeg 0))), .second, .val (.ref a0), .val (.int n_a0), .val (.int (v6_13 + (1 : Int32))), .val (.int (L_a0.getD (v6_13).toNatClampNeg 0))] []))
          exact ih (v2_13 + (L_a1.getD ((L_a0.getD (v6_13).toNatClampNeg 0)).toNatClampNeg 0)) (v6_13 + (1 : Int32)) (L_a0.getD (v6_13).toNatClampNeg 0) T_13 _ X_13 e_13 N_13 (own_step hI_13 hn hc17_5)
        · rewrite [if_neg hc17_5]
          refine Go.of (fun t k => XS.icmpYes X_13.here hx rfl (pc0 := 17) (pc' := 40) rfl (hb hby d1_17) rfl (flt hc17_5).2.1 (by decide) (by decide) k) ?_
          show Go p e below s _ _ _ (T_13.setTop (mkF m 40 #[.val (.ref a0), .val (.ref a1), .val (.long v2_13), .second, .val (.ref a0), .val (.int n_a0), .val (.int v6_13), .val (.int v7_13)] []))
          refine Go.of (fun t k => XS.lloadN X_13.here hx rfl (hb hby d1_40) rfl k) ?_
          show Go p e below s _ _ _ (T_13.setTop (mkF m 41 #[.val (.ref a0), .val (.ref a1), .val (.long v2_13), .second, .val (.ref a0), .val (.int n_a0), .val (.int v6_13), .val (.int v7_13)] [(.long v2_13)]))
          exact Go.ret X_13 (some (.long v2_13)) (fun h => by rw [Bd.returns] at h; cases h) hlk ⟨rfl, N_13, e_13⟩ (by decide) (by decide) (fun fs hr => (retOut X_13 hx Bd.returns rfl (Or.inr (Or.inl ⟨rfl, rfl, _, rfl⟩)) (hb hby d1_41) hr))
    exact jn13 6 ((0 : Int64) + (L_a1.getD ((L_a0.getD ((0 : Int32)).toNatClampNeg 0)).toNatClampNeg 0)) ((0 : Int32) + (1 : Int32)) (L_a0.getD ((0 : Int32)).toNatClampNeg 0) s₁ _ X0 e0 N0 (own_first hn hc17_2)
  · rewrite [if_neg hc17_2]
    refine Go.of (fun t k => XS.icmpYes X0.here hx rfl (pc0 := 17) (pc' := 40) rfl (hb hby d1_17) rfl (flt hc17_2).2.1 (by decide) (by decide) k) ?_
    show Go p e below s _ _ _ (s₁.setTop (mkF m 40 #[.val (.ref a0), .val (.ref a1), .val (.long (0 : Int64)), .second, .val (.ref a0), .val (.int n_a0), .val (.int (0 : Int32)), .unset] []))
    refine Go.of (fun t k => XS.lloadN X0.here hx rfl (hb hby d1_40) rfl k) ?_
    show Go p e below s _ _ _ (s₁.setTop (mkF m 41 #[.val (.ref a0), .val (.ref a1), .val (.long (0 : Int64)), .second, .val (.ref a0), .val (.int n_a0), .val (.int (0 : Int32)), .unset] [(.long (0 : Int64))]))
    exact Go.ret X0 (some (.long (0 : Int64))) (fun h => by rw [Bd.returns] at h; cases h) hlk ⟨rfl, N0, e0⟩ (by decide) (by decide) (fun fs hr => (retOut X0 hx Bd.returns rfl (Or.inr (Or.inl ⟨rfl, rfl, _, rfl⟩)) (hb hby d1_41) hr))
theorem own_pd0 : parseMethodDescriptor "([I[J)J" = some ⟨[(.array .int), (.array .long)], some .long⟩ := by decide +kernel
theorem own_pn1 : plainName "com/example/prorata/prorata/PricerSumPinLaw" = true := by first | (simp [plainName, overriddenIn]; done) | decide +kernel
theorem ef_0 (m : MethodId) (p0 : Int32) (q1 : Int64) (q2 : Int64) (q3 : Int64) (q4 : Int64) (q5 : Int64) : entryFrame m #[(.int p0), (.long q1), (.long q2), (.long q3), (.long q4), (.long q5)] maxLocals = mkF m 0 #[.val (.int p0), .val (.long q1), .second, .val (.long q2), .second, .val (.long q3), .second, .val (.long q4), .second, .val (.long q5), .second, .unset, .unset, .unset, .unset, .unset, .unset, .unset, .unset, .unset, .unset] [] := by first | (simp [entryFrame, mkF, argsToLocals, Value.category, maxLocals]; done) | rfl
def F0_299 (q1 : Int64) (q2 : Int64) (q3 : Int64) (q4 : Int64) (q5 : Int64) (v12_40c : Int32) (L_b1_131 : List Int32) (v18_246 : Int64) (w0_299 : Int32) : Int32 := (if (F1 v12_40c L_b1_131 [q1, q2, q3, q4, q5]) = v18_246 then (if w0_299 = (0 : Int32) then (0 : Int32) else (1 : Int32)) else (0 : Int32))
def F0_298 (q1 : Int64) (q2 : Int64) (q3 : Int64) (q4 : Int64) (q5 : Int64) (v12_40c : Int32) (L_b1_131 : List Int32) (v18_246 : Int64) : Int32 := (F0_299 q1 q2 q3 q4 q5 v12_40c L_b1_131 v18_246 (0 : Int32))
def F0_246 (q1 : Int64) (q2 : Int64) (q3 : Int64) (q4 : Int64) (q5 : Int64) (v12_40c : Int32) (L_b1_131 : List Int32) (v18_246 : Int64) : Int32 := (if q1 = q1 then (if q2 = q2 then (if q3 = q3 then (if q4 = q4 then (if q5 = q5 then (F0_299 q1 q2 q3 q4 q5 v12_40c L_b1_131 v18_246 (1 : Int32)) else (F0_298 q1 q2 q3 q4 q5 v12_40c L_b1_131 v18_246)) else (F0_298 q1 q2 q3 q4 q5 v12_40c L_b1_131 v18_246)) else (F0_298 q1 q2 q3 q4 q5 v12_40c L_b1_131 v18_246)) else (F0_298 q1 q2 q3 q4 q5 v12_40c L_b1_131 v18_246)) else (F0_298 q1 q2 q3 q4 q5 v12_40c L_b1_131 v18_246))
def F0_231 (q1 : Int64) (q2 : Int64) (q3 : Int64) (q4 : Int64) (q5 : Int64) (v11_6c : Int32) (v12_40c : Int32) (L_b1_131 : List Int32) (v18_231 : Int64) : Int32 := (if (v11_6c &&& (16 : Int32)) = (0 : Int32) then (F0_246 q1 q2 q3 q4 q5 v12_40c L_b1_131 v18_231) else (F0_246 q1 q2 q3 q4 q5 v12_40c L_b1_131 (v18_231 + q5)))
def F0_216 (q1 : Int64) (q2 : Int64) (q3 : Int64) (q4 : Int64) (q5 : Int64) (v11_6c : Int32) (v12_40c : Int32) (L_b1_131 : List Int32) (v18_216 : Int64) : Int32 := (if (v11_6c &&& (8 : Int32)) = (0 : Int32) then (F0_231 q1 q2 q3 q4 q5 v11_6c v12_40c L_b1_131 v18_216) else (F0_231 q1 q2 q3 q4 q5 v11_6c v12_40c L_b1_131 (v18_216 + q4)))
def F0_202 (q1 : Int64) (q2 : Int64) (q3 : Int64) (q4 : Int64) (q5 : Int64) (v11_6c : Int32) (v12_40c : Int32) (L_b1_131 : List Int32) (v18_202 : Int64) : Int32 := (if (v11_6c &&& (4 : Int32)) = (0 : Int32) then (F0_216 q1 q2 q3 q4 q5 v11_6c v12_40c L_b1_131 v18_202) else (F0_216 q1 q2 q3 q4 q5 v11_6c v12_40c L_b1_131 (v18_202 + q3)))
def F0_189 (q1 : Int64) (q2 : Int64) (q3 : Int64) (q4 : Int64) (q5 : Int64) (v11_6c : Int32) (v12_40c : Int32) (L_b1_131 : List Int32) (v18_189 : Int64) : Int32 := (if (v11_6c &&& (2 : Int32)) = (0 : Int32) then (F0_202 q1 q2 q3 q4 q5 v11_6c v12_40c L_b1_131 v18_189) else (F0_202 q1 q2 q3 q4 q5 v11_6c v12_40c L_b1_131 (v18_189 + q2)))
def F0_131 (q1 : Int64) (q2 : Int64) (q3 : Int64) (q4 : Int64) (q5 : Int64) (v11_6c : Int32) (v12_40c : Int32) (L_b1_131 : List Int32) : Int32 := (if (v11_6c &&& (1 : Int32)) = (0 : Int32) then (F0_189 q1 q2 q3 q4 q5 v11_6c v12_40c L_b1_131 (0 : Int64)) else (F0_189 q1 q2 q3 q4 q5 v11_6c v12_40c L_b1_131 ((0 : Int64) + q1)))
def F0_114 (q1 : Int64) (q2 : Int64) (q3 : Int64) (q4 : Int64) (q5 : Int64) (v11_6c : Int32) (v12_40c : Int32) (v14_114 : Int32) (L_b1_114 : List Int32) : Int32 := (if (v11_6c &&& (16 : Int32)) = (0 : Int32) then (F0_131 q1 q2 q3 q4 q5 v11_6c v12_40c L_b1_114) else (F0_131 q1 q2 q3 q4 q5 v11_6c v12_40c (L_b1_114.set (v14_114).toNatClampNeg (4 : Int32))))
def F0_97 (q1 : Int64) (q2 : Int64) (q3 : Int64) (q4 : Int64) (q5 : Int64) (v11_6c : Int32) (v12_40c : Int32) (v14_97 : Int32) (L_b1_97 : List Int32) : Int32 := (if (v11_6c &&& (8 : Int32)) = (0 : Int32) then (F0_114 q1 q2 q3 q4 q5 v11_6c v12_40c v14_97 L_b1_97) else (F0_114 q1 q2 q3 q4 q5 v11_6c v12_40c (v14_97 + (1 : Int32)) (L_b1_97.set (v14_97).toNatClampNeg (3 : Int32))))
def F0_81 (q1 : Int64) (q2 : Int64) (q3 : Int64) (q4 : Int64) (q5 : Int64) (v11_6c : Int32) (v12_40c : Int32) (v14_81 : Int32) (L_b1_81 : List Int32) : Int32 := (if (v11_6c &&& (4 : Int32)) = (0 : Int32) then (F0_97 q1 q2 q3 q4 q5 v11_6c v12_40c v14_81 L_b1_81) else (F0_97 q1 q2 q3 q4 q5 v11_6c v12_40c (v14_81 + (1 : Int32)) (L_b1_81.set (v14_81).toNatClampNeg (2 : Int32))))
def F0_65 (q1 : Int64) (q2 : Int64) (q3 : Int64) (q4 : Int64) (q5 : Int64) (v11_6c : Int32) (v12_40c : Int32) (v14_65 : Int32) (L_b1_65 : List Int32) : Int32 := (if (v11_6c &&& (2 : Int32)) = (0 : Int32) then (F0_81 q1 q2 q3 q4 q5 v11_6c v12_40c v14_65 L_b1_65) else (F0_81 q1 q2 q3 q4 q5 v11_6c v12_40c (v14_65 + (1 : Int32)) (L_b1_65.set (v14_65).toNatClampNeg (1 : Int32))))
def F0_40c (q1 : Int64) (q2 : Int64) (q3 : Int64) (q4 : Int64) (q5 : Int64) (v11_6c : Int32) (v12_40c : Int32) : Int32 := (if (v11_6c &&& (1 : Int32)) = (0 : Int32) then (F0_65 q1 q2 q3 q4 q5 v11_6c v12_40c (0 : Int32) [(0 : Int32), (0 : Int32), (0 : Int32), (0 : Int32), (0 : Int32)]) else (F0_65 q1 q2 q3 q4 q5 v11_6c v12_40c ((0 : Int32) + (1 : Int32)) ([(0 : Int32), (0 : Int32), (0 : Int32), (0 : Int32), (0 : Int32)].set ((0 : Int32)).toNatClampNeg (0 : Int32))))
def F0_6c (q1 : Int64) (q2 : Int64) (q3 : Int64) (q4 : Int64) (q5 : Int64) (v11_6c : Int32) : Int32 := (F0_40c q1 q2 q3 q4 q5 v11_6c (((((v11_6c &&& (1 : Int32)) + ((v11_6c >>> ((1 : Int32) &&& 31)) &&& (1 : Int32))) + ((v11_6c >>> ((2 : Int32) &&& 31)) &&& (1 : Int32))) + ((v11_6c >>> ((3 : Int32) &&& 31)) &&& (1 : Int32))) + ((v11_6c >>> ((4 : Int32) &&& 31)) &&& (1 : Int32))))
def F0 (p0 : Int32) (q1 : Int64) (q2 : Int64) (q3 : Int64) (q4 : Int64) (q5 : Int64) : Int32 := (F0_6c q1 q2 q3 q4 q5 (p0 &&& (31 : Int32)))
set_option maxRecDepth 65536 in
set_option maxHeartbeats 40000000 in
theorem rm0 (l : Launch) (Z : State) (az : Array Value) (hw : ∀ d ∈ tables_1, d.before az Z = true) (ws : List Jvm.Cond) (p0 : Int32) (q1 : Int64) (q2 : Int64) (q3 : Int64) (q4 : Int64) (q5 : Int64)  (h0 : Heap) (n0 : Nat) (Z0 : n0 ≤ h0.size) :
    MetFree l x (head1 (Jvm.Cond.code x code maxLocals ret :: ws) room_1) (fun a U => a = #[(.int p0), (.long q1), (.long q2), (.long q3), (.long q4), (.long q5)] ∧ Z.Warmed39 U.vm ∧ U.heap = h0) (fun _ _ _ _ _ => True) (fun _ U o U' => ∃ v L, o = .returned v ∧ (QL (some (.int (F0 p0 q1 q2 q3 q4 q5))) n0) v U'.heap L ∧ FrameEnd U o U' L room_1.cells room_1.slots) := by
  refine MetFree.of_bodySF (plainFor_of_name own_pn1) hisR ?_
  intro p e s m args below meth c s₁ Bd hml0 hP hK
  obtain ⟨rfl, hZ, hh⟩ := hP
  have hx := Bd.exec
  have hby := Bd.bytes
  have hml : c.maxLocals = 21 := hml0
  have hown : s.vm.findClass "com/example/prorata/prorata/PricerSumPinLaw" = some m.cls := findClass_of_methodNamed Bd.named
  have hnm := (name_of_methodNamed Bd.named Bd.method).1
  have hlk : meth.locks = false := BodyLoose.notSynchronized Bd
  have X0 : Stand p l e room_1 s m #[(.int p0), (.long q1), (.long q2), (.long q3), (.long q4), (.long q5)] below meth c s₁ [] 0 0 := Stand.of_body Bd
  have e0 : s₁.heap = h0 := by rw [← hh, Bd.state]; rfl
  have N0 := Fr.nil n0
  show Go p e below s (QL (some (.int (F0 p0 q1 q2 q3 q4 q5))) n0) room_1.cells room_1.slots (s₁.setTop (entryFrame m #[(.int p0), (.long q1), (.long q2), (.long q3), (.long q4), (.long q5)] maxLocals))
  refine Go.of (fun t k => castTop (ef_0 m p0 q1 q2 q3 q4 q5) k) ?_
  show Go p e below s _ _ _ (s₁.setTop (mkF m 0 #[.val (.int p0), .val (.long q1), .second, .val (.long q2), .second, .val (.long q3), .second, .val (.long q4), .second, .val (.long q5), .second, .unset, .unset, .unset, .unset, .unset, .unset, .unset, .unset, .unset, .unset] []))
  unfold F0
  refine Go.of (fun t k => XS.iloadN X0.here hx rfl (hb hby at_0) rfl k) ?_
  show Go p e below s _ _ _ (s₁.setTop (mkF m 1 #[.val (.int p0), .val (.long q1), .second, .val (.long q2), .second, .val (.long q3), .second, .val (.long q4), .second, .val (.long q5), .second, .unset, .unset, .unset, .unset, .unset, .unset, .unset, .unset, .unset, .unset] [(.int p0)]))
  refine Go.of (fun t k => XS.bipush X0.here hx rfl (hb hby at_1) k) ?_
  show Go p e below s _ _ _ (s₁.setTop (mkF m 3 #[.val (.int p0), .val (.long q1), .second, .val (.long q2), .second, .val (.long q3), .second, .val (.long q4), .second, .val (.long q5), .second, .unset, .unset, .unset, .unset, .unset, .unset, .unset, .unset, .unset, .unset] [(.int (31 : Int32)), (.int p0)]))
  refine Go.of (fun t k => XS.iand X0.here hx rfl (hb hby at_3) rfl k) ?_
  show Go p e below s _ _ _ (s₁.setTop (mkF m 4 #[.val (.int p0), .val (.long q1), .second, .val (.long q2), .second, .val (.long q3), .second, .val (.long q4), .second, .val (.long q5), .second, .unset, .unset, .unset, .unset, .unset, .unset, .unset, .unset, .unset, .unset] [(.int (p0 &&& (31 : Int32)))]))
  refine Go.of (fun t k => XS.istore X0.here hx rfl (hb hby at_4) rfl (l' := #[.val (.int p0), .val (.long q1), .second, .val (.long q2), .second, .val (.long q3), .second, .val (.long q4), .second, .val (.long q5), .second, .val (.int (p0 &&& (31 : Int32))), .unset, .unset, .unset, .unset, .unset, .unset, .unset, .unset, .unset]) rfl k) ?_
  show Go p e below s _ _ _ (s₁.setTop (mkF m 6 #[.val (.int p0), .val (.long q1), .second, .val (.long q2), .second, .val (.long q3), .second, .val (.long q4), .second, .val (.long q5), .second, .val (.int (p0 &&& (31 : Int32))), .unset, .unset, .unset, .unset, .unset, .unset, .unset, .unset, .unset] []))
  have jn6c : ∀ (v11_6c : Int32) (hm_6c : 0 ≤ v11_6c.toInt ∧ v11_6c.toInt < 32), Go p e below s (QL (some (.int (F0_6c q1 q2 q3 q4 q5 v11_6c))) n0) room_1.cells room_1.slots (s₁.setTop (mkF m 6 #[.val (.int p0), .val (.long q1), .second, .val (.long q2), .second, .val (.long q3), .second, .val (.long q4), .second, .val (.long q5), .second, .val (.int v11_6c), .unset, .unset, .unset, .unset, .unset, .unset, .unset, .unset, .unset] [])) := by
    intro v11_6c hm_6c
    unfold F0_6c
    refine Go.of (fun t k => XS.iload X0.here hx rfl (hb hby at_6) rfl k) ?_
    show Go p e below s _ _ _ (s₁.setTop (mkF m 8 #[.val (.int p0), .val (.long q1), .second, .val (.long q2), .second, .val (.long q3), .second, .val (.long q4), .second, .val (.long q5), .second, .val (.int v11_6c), .unset, .unset, .unset, .unset, .unset, .unset, .unset, .unset, .unset] [(.int v11_6c)]))
    refine Go.of (fun t k => XS.iconst X0.here hx rfl (hb hby at_8) k) ?_
    show Go p e below s _ _ _ (s₁.setTop (mkF m 9 #[.val (.int p0), .val (.long q1), .second, .val (.long q2), .second, .val (.long q3), .second, .val (.long q4), .second, .val (.long q5), .second, .val (.int v11_6c), .unset, .unset, .unset, .unset, .unset, .unset, .unset, .unset, .unset] [(.int (1 : Int32)), (.int v11_6c)]))
    refine Go.of (fun t k => XS.iand X0.here hx rfl (hb hby at_9) rfl k) ?_
    show Go p e below s _ _ _ (s₁.setTop (mkF m 10 #[.val (.int p0), .val (.long q1), .second, .val (.long q2), .second, .val (.long q3), .second, .val (.long q4), .second, .val (.long q5), .second, .val (.int v11_6c), .unset, .unset, .unset, .unset, .unset, .unset, .unset, .unset, .unset] [(.int (v11_6c &&& (1 : Int32)))]))
    refine Go.of (fun t k => XS.iload X0.here hx rfl (hb hby at_10) rfl k) ?_
    show Go p e below s _ _ _ (s₁.setTop (mkF m 12 #[.val (.int p0), .val (.long q1), .second, .val (.long q2), .second, .val (.long q3), .second, .val (.long q4), .second, .val (.long q5), .second, .val (.int v11_6c), .unset, .unset, .unset, .unset, .unset, .unset, .unset, .unset, .unset] [(.int v11_6c), (.int (v11_6c &&& (1 : Int32)))]))
    refine Go.of (fun t k => XS.iconst X0.here hx rfl (hb hby at_12) k) ?_
    show Go p e below s _ _ _ (s₁.setTop (mkF m 13 #[.val (.int p0), .val (.long q1), .second, .val (.long q2), .second, .val (.long q3), .second, .val (.long q4), .second, .val (.long q5), .second, .val (.int v11_6c), .unset, .unset, .unset, .unset, .unset, .unset, .unset, .unset, .unset] [(.int (1 : Int32)), (.int v11_6c), (.int (v11_6c &&& (1 : Int32)))]))
    refine Go.of (fun t k => XS.ishr X0.here hx rfl (hb hby at_13) rfl k) ?_
    show Go p e below s _ _ _ (s₁.setTop (mkF m 14 #[.val (.int p0), .val (.long q1), .second, .val (.long q2), .second, .val (.long q3), .second, .val (.long q4), .second, .val (.long q5), .second, .val (.int v11_6c), .unset, .unset, .unset, .unset, .unset, .unset, .unset, .unset, .unset] [(.int (v11_6c >>> ((1 : Int32) &&& 31))), (.int (v11_6c &&& (1 : Int32)))]))
    refine Go.of (fun t k => XS.iconst X0.here hx rfl (hb hby at_14) k) ?_
    show Go p e below s _ _ _ (s₁.setTop (mkF m 15 #[.val (.int p0), .val (.long q1), .second, .val (.long q2), .second, .val (.long q3), .second, .val (.long q4), .second, .val (.long q5), .second, .val (.int v11_6c), .unset, .unset, .unset, .unset, .unset, .unset, .unset, .unset, .unset] [(.int (1 : Int32)), (.int (v11_6c >>> ((1 : Int32) &&& 31))), (.int (v11_6c &&& (1 : Int32)))]))
    refine Go.of (fun t k => XS.iand X0.here hx rfl (hb hby at_15) rfl k) ?_
    show Go p e below s _ _ _ (s₁.setTop (mkF m 16 #[.val (.int p0), .val (.long q1), .second, .val (.long q2), .second, .val (.long q3), .second, .val (.long q4), .second, .val (.long q5), .second, .val (.int v11_6c), .unset, .unset, .unset, .unset, .unset, .unset, .unset, .unset, .unset] [(.int ((v11_6c >>> ((1 : Int32) &&& 31)) &&& (1 : Int32))), (.int (v11_6c &&& (1 : Int32)))]))
    refine Go.of (fun t k => XS.iadd X0.here hx rfl (hb hby at_16) rfl k) ?_
    show Go p e below s _ _ _ (s₁.setTop (mkF m 17 #[.val (.int p0), .val (.long q1), .second, .val (.long q2), .second, .val (.long q3), .second, .val (.long q4), .second, .val (.long q5), .second, .val (.int v11_6c), .unset, .unset, .unset, .unset, .unset, .unset, .unset, .unset, .unset] [(.int ((v11_6c &&& (1 : Int32)) + ((v11_6c >>> ((1 : Int32) &&& 31)) &&& (1 : Int32))))]))
    refine Go.of (fun t k => XS.iload X0.here hx rfl (hb hby at_17) rfl k) ?_
    show Go p e below s _ _ _ (s₁.setTop (mkF m 19 #[.val (.int p0), .val (.long q1), .second, .val (.long q2), .second, .val (.long q3), .second, .val (.long q4), .second, .val (.long q5), .second, .val (.int v11_6c), .unset, .unset, .unset, .unset, .unset, .unset, .unset, .unset, .unset] [(.int v11_6c), (.int ((v11_6c &&& (1 : Int32)) + ((v11_6c >>> ((1 : Int32) &&& 31)) &&& (1 : Int32))))]))
    refine Go.of (fun t k => XS.iconst X0.here hx rfl (hb hby at_19) k) ?_
    show Go p e below s _ _ _ (s₁.setTop (mkF m 20 #[.val (.int p0), .val (.long q1), .second, .val (.long q2), .second, .val (.long q3), .second, .val (.long q4), .second, .val (.long q5), .second, .val (.int v11_6c), .unset, .unset, .unset, .unset, .unset, .unset, .unset, .unset, .unset] [(.int (2 : Int32)), (.int v11_6c), (.int ((v11_6c &&& (1 : Int32)) + ((v11_6c >>> ((1 : Int32) &&& 31)) &&& (1 : Int32))))]))
    refine Go.of (fun t k => XS.ishr X0.here hx rfl (hb hby at_20) rfl k) ?_
    show Go p e below s _ _ _ (s₁.setTop (mkF m 21 #[.val (.int p0), .val (.long q1), .second, .val (.long q2), .second, .val (.long q3), .second, .val (.long q4), .second, .val (.long q5), .second, .val (.int v11_6c), .unset, .unset, .unset, .unset, .unset, .unset, .unset, .unset, .unset] [(.int (v11_6c >>> ((2 : Int32) &&& 31))), (.int ((v11_6c &&& (1 : Int32)) + ((v11_6c >>> ((1 : Int32) &&& 31)) &&& (1 : Int32))))]))
    refine Go.of (fun t k => XS.iconst X0.here hx rfl (hb hby at_21) k) ?_
    show Go p e below s _ _ _ (s₁.setTop (mkF m 22 #[.val (.int p0), .val (.long q1), .second, .val (.long q2), .second, .val (.long q3), .second, .val (.long q4), .second, .val (.long q5), .second, .val (.int v11_6c), .unset, .unset, .unset, .unset, .unset, .unset, .unset, .unset, .unset] [(.int (1 : Int32)), (.int (v11_6c >>> ((2 : Int32) &&& 31))), (.int ((v11_6c &&& (1 : Int32)) + ((v11_6c >>> ((1 : Int32) &&& 31)) &&& (1 : Int32))))]))
    refine Go.of (fun t k => XS.iand X0.here hx rfl (hb hby at_22) rfl k) ?_
    show Go p e below s _ _ _ (s₁.setTop (mkF m 23 #[.val (.int p0), .val (.long q1), .second, .val (.long q2), .second, .val (.long q3), .second, .val (.long q4), .second, .val (.long q5), .second, .val (.int v11_6c), .unset, .unset, .unset, .unset, .unset, .unset, .unset, .unset, .unset] [(.int ((v11_6c >>> ((2 : Int32) &&& 31)) &&& (1 : Int32))), (.int ((v11_6c &&& (1 : Int32)) + ((v11_6c >>> ((1 : Int32) &&& 31)) &&& (1 : Int32))))]))
    refine Go.of (fun t k => XS.iadd X0.here hx rfl (hb hby at_23) rfl k) ?_
    show Go p e below s _ _ _ (s₁.setTop (mkF m 24 #[.val (.int p0), .val (.long q1), .second, .val (.long q2), .second, .val (.long q3), .second, .val (.long q4), .second, .val (.long q5), .second, .val (.int v11_6c), .unset, .unset, .unset, .unset, .unset, .unset, .unset, .unset, .unset] [(.int (((v11_6c &&& (1 : Int32)) + ((v11_6c >>> ((1 : Int32) &&& 31)) &&& (1 : Int32))) + ((v11_6c >>> ((2 : Int32) &&& 31)) &&& (1 : Int32))))]))
    refine Go.of (fun t k => XS.iload X0.here hx rfl (hb hby at_24) rfl k) ?_
    show Go p e below s _ _ _ (s₁.setTop (mkF m 26 #[.val (.int p0), .val (.long q1), .second, .val (.long q2), .second, .val (.long q3), .second, .val (.long q4), .second, .val (.long q5), .second, .val (.int v11_6c), .unset, .unset, .unset, .unset, .unset, .unset, .unset, .unset, .unset] [(.int v11_6c), (.int (((v11_6c &&& (1 : Int32)) + ((v11_6c >>> ((1 : Int32) &&& 31)) &&& (1 : Int32))) + ((v11_6c >>> ((2 : Int32) &&& 31)) &&& (1 : Int32))))]))
    refine Go.of (fun t k => XS.iconst X0.here hx rfl (hb hby at_26) k) ?_
    show Go p e below s _ _ _ (s₁.setTop (mkF m 27 #[.val (.int p0), .val (.long q1), .second, .val (.long q2), .second, .val (.long q3), .second, .val (.long q4), .second, .val (.long q5), .second, .val (.int v11_6c), .unset, .unset, .unset, .unset, .unset, .unset, .unset, .unset, .unset] [(.int (3 : Int32)), (.int v11_6c), (.int (((v11_6c &&& (1 : Int32)) + ((v11_6c >>> ((1 : Int32) &&& 31)) &&& (1 : Int32))) + ((v11_6c >>> ((2 : Int32) &&& 31)) &&& (1 : Int32))))]))
    refine Go.of (fun t k => XS.ishr X0.here hx rfl (hb hby at_27) rfl k) ?_
    show Go p e below s _ _ _ (s₁.setTop (mkF m 28 #[.val (.int p0), .val (.long q1), .second, .val (.long q2), .second, .val (.long q3), .second, .val (.long q4), .second, .val (.long q5), .second, .val (.int v11_6c), .unset, .unset, .unset, .unset, .unset, .unset, .unset, .unset, .unset] [(.int (v11_6c >>> ((3 : Int32) &&& 31))), (.int (((v11_6c &&& (1 : Int32)) + ((v11_6c >>> ((1 : Int32) &&& 31)) &&& (1 : Int32))) + ((v11_6c >>> ((2 : Int32) &&& 31)) &&& (1 : Int32))))]))
    refine Go.of (fun t k => XS.iconst X0.here hx rfl (hb hby at_28) k) ?_
    show Go p e below s _ _ _ (s₁.setTop (mkF m 29 #[.val (.int p0), .val (.long q1), .second, .val (.long q2), .second, .val (.long q3), .second, .val (.long q4), .second, .val (.long q5), .second, .val (.int v11_6c), .unset, .unset, .unset, .unset, .unset, .unset, .unset, .unset, .unset] [(.int (1 : Int32)), (.int (v11_6c >>> ((3 : Int32) &&& 31))), (.int (((v11_6c &&& (1 : Int32)) + ((v11_6c >>> ((1 : Int32) &&& 31)) &&& (1 : Int32))) + ((v11_6c >>> ((2 : Int32) &&& 31)) &&& (1 : Int32))))]))
    refine Go.of (fun t k => XS.iand X0.here hx rfl (hb hby at_29) rfl k) ?_
    show Go p e below s _ _ _ (s₁.setTop (mkF m 30 #[.val (.int p0), .val (.long q1), .second, .val (.long q2), .second, .val (.long q3), .second, .val (.long q4), .second, .val (.long q5), .second, .val (.int v11_6c), .unset, .unset, .unset, .unset, .unset, .unset, .unset, .unset, .unset] [(.int ((v11_6c >>> ((3 : Int32) &&& 31)) &&& (1 : Int32))), (.int (((v11_6c &&& (1 : Int32)) + ((v11_6c >>> ((1 : Int32) &&& 31)) &&& (1 : Int32))) + ((v11_6c >>> ((2 : Int32) &&& 31)) &&& (1 : Int32))))]))
    refine Go.of (fun t k => XS.iadd X0.here hx rfl (hb hby at_30) rfl k) ?_
    show Go p e below s _ _ _ (s₁.setTop (mkF m 31 #[.val (.int p0), .val (.long q1), .second, .val (.long q2), .second, .val (.long q3), .second, .val (.long q4), .second, .val (.long q5), .second, .val (.int v11_6c), .unset, .unset, .unset, .unset, .unset, .unset, .unset, .unset, .unset] [(.int ((((v11_6c &&& (1 : Int32)) + ((v11_6c >>> ((1 : Int32) &&& 31)) &&& (1 : Int32))) + ((v11_6c >>> ((2 : Int32) &&& 31)) &&& (1 : Int32))) + ((v11_6c >>> ((3 : Int32) &&& 31)) &&& (1 : Int32))))]))
    refine Go.of (fun t k => XS.iload X0.here hx rfl (hb hby at_31) rfl k) ?_
    show Go p e below s _ _ _ (s₁.setTop (mkF m 33 #[.val (.int p0), .val (.long q1), .second, .val (.long q2), .second, .val (.long q3), .second, .val (.long q4), .second, .val (.long q5), .second, .val (.int v11_6c), .unset, .unset, .unset, .unset, .unset, .unset, .unset, .unset, .unset] [(.int v11_6c), (.int ((((v11_6c &&& (1 : Int32)) + ((v11_6c >>> ((1 : Int32) &&& 31)) &&& (1 : Int32))) + ((v11_6c >>> ((2 : Int32) &&& 31)) &&& (1 : Int32))) + ((v11_6c >>> ((3 : Int32) &&& 31)) &&& (1 : Int32))))]))
    refine Go.of (fun t k => XS.iconst X0.here hx rfl (hb hby at_33) k) ?_
    show Go p e below s _ _ _ (s₁.setTop (mkF m 34 #[.val (.int p0), .val (.long q1), .second, .val (.long q2), .second, .val (.long q3), .second, .val (.long q4), .second, .val (.long q5), .second, .val (.int v11_6c), .unset, .unset, .unset, .unset, .unset, .unset, .unset, .unset, .unset] [(.int (4 : Int32)), (.int v11_6c), (.int ((((v11_6c &&& (1 : Int32)) + ((v11_6c >>> ((1 : Int32) &&& 31)) &&& (1 : Int32))) + ((v11_6c >>> ((2 : Int32) &&& 31)) &&& (1 : Int32))) + ((v11_6c >>> ((3 : Int32) &&& 31)) &&& (1 : Int32))))]))
    refine Go.of (fun t k => XS.ishr X0.here hx rfl (hb hby at_34) rfl k) ?_
    show Go p e below s _ _ _ (s₁.setTop (mkF m 35 #[.val (.int p0), .val (.long q1), .second, .val (.long q2), .second, .val (.long q3), .second, .val (.long q4), .second, .val (.long q5), .second, .val (.int v11_6c), .unset, .unset, .unset, .unset, .unset, .unset, .unset, .unset, .unset] [(.int (v11_6c >>> ((4 : Int32) &&& 31))), (.int ((((v11_6c &&& (1 : Int32)) + ((v11_6c >>> ((1 : Int32) &&& 31)) &&& (1 : Int32))) + ((v11_6c >>> ((2 : Int32) &&& 31)) &&& (1 : Int32))) + ((v11_6c >>> ((3 : Int32) &&& 31)) &&& (1 : Int32))))]))
    refine Go.of (fun t k => XS.iconst X0.here hx rfl (hb hby at_35) k) ?_
    show Go p e below s _ _ _ (s₁.setTop (mkF m 36 #[.val (.int p0), .val (.long q1), .second, .val (.long q2), .second, .val (.long q3), .second, .val (.long q4), .second, .val (.long q5), .second, .val (.int v11_6c), .unset, .unset, .unset, .unset, .unset, .unset, .unset, .unset, .unset] [(.int (1 : Int32)), (.int (v11_6c >>> ((4 : Int32) &&& 31))), (.int ((((v11_6c &&& (1 : Int32)) + ((v11_6c >>> ((1 : Int32) &&& 31)) &&& (1 : Int32))) + ((v11_6c >>> ((2 : Int32) &&& 31)) &&& (1 : Int32))) + ((v11_6c >>> ((3 : Int32) &&& 31)) &&& (1 : Int32))))]))
    refine Go.of (fun t k => XS.iand X0.here hx rfl (hb hby at_36) rfl k) ?_
    show Go p e below s _ _ _ (s₁.setTop (mkF m 37 #[.val (.int p0), .val (.long q1), .second, .val (.long q2), .second, .val (.long q3), .second, .val (.long q4), .second, .val (.long q5), .second, .val (.int v11_6c), .unset, .unset, .unset, .unset, .unset, .unset, .unset, .unset, .unset] [(.int ((v11_6c >>> ((4 : Int32) &&& 31)) &&& (1 : Int32))), (.int ((((v11_6c &&& (1 : Int32)) + ((v11_6c >>> ((1 : Int32) &&& 31)) &&& (1 : Int32))) + ((v11_6c >>> ((2 : Int32) &&& 31)) &&& (1 : Int32))) + ((v11_6c >>> ((3 : Int32) &&& 31)) &&& (1 : Int32))))]))
    refine Go.of (fun t k => XS.iadd X0.here hx rfl (hb hby at_37) rfl k) ?_
    show Go p e below s _ _ _ (s₁.setTop (mkF m 38 #[.val (.int p0), .val (.long q1), .second, .val (.long q2), .second, .val (.long q3), .second, .val (.long q4), .second, .val (.long q5), .second, .val (.int v11_6c), .unset, .unset, .unset, .unset, .unset, .unset, .unset, .unset, .unset] [(.int (((((v11_6c &&& (1 : Int32)) + ((v11_6c >>> ((1 : Int32) &&& 31)) &&& (1 : Int32))) + ((v11_6c >>> ((2 : Int32) &&& 31)) &&& (1 : Int32))) + ((v11_6c >>> ((3 : Int32) &&& 31)) &&& (1 : Int32))) + ((v11_6c >>> ((4 : Int32) &&& 31)) &&& (1 : Int32))))]))
    refine Go.of (fun t k => XS.istore X0.here hx rfl (hb hby at_38) rfl (l' := #[.val (.int p0), .val (.long q1), .second, .val (.long q2), .second, .val (.long q3), .second, .val (.long q4), .second, .val (.long q5), .second, .val (.int v11_6c), .val (.int (((((v11_6c &&& (1 : Int32)) + ((v11_6c >>> ((1 : Int32) &&& 31)) &&& (1 : Int32))) + ((v11_6c >>> ((2 : Int32) &&& 31)) &&& (1 : Int32))) + ((v11_6c >>> ((3 : Int32) &&& 31)) &&& (1 : Int32))) + ((v11_6c >>> ((4 : Int32) &&& 31)) &&& (1 : Int32)))), .unset, .unset, .unset, .unset, .unset, .unset, .unset, .unset]) rfl k) ?_
    show Go p e below s _ _ _ (s₁.setTop (mkF m 40 #[.val (.int p0), .val (.long q1), .second, .val (.long q2), .second, .val (.long q3), .second, .val (.long q4), .second, .val (.long q5), .second, .val (.int v11_6c), .val (.int (((((v11_6c &&& (1 : Int32)) + ((v11_6c >>> ((1 : Int32) &&& 31)) &&& (1 : Int32))) + ((v11_6c >>> ((2 : Int32) &&& 31)) &&& (1 : Int32))) + ((v11_6c >>> ((3 : Int32) &&& 31)) &&& (1 : Int32))) + ((v11_6c >>> ((4 : Int32) &&& 31)) &&& (1 : Int32)))), .unset, .unset, .unset, .unset, .unset, .unset, .unset, .unset] []))
    have jn40c : ∀ (v12_40c : Int32) (hn_40c : v12_40c = own_n v11_6c), Go p e below s (QL (some (.int (F0_40c q1 q2 q3 q4 q5 v11_6c v12_40c))) n0) room_1.cells room_1.slots (s₁.setTop (mkF m 40 #[.val (.int p0), .val (.long q1), .second, .val (.long q2), .second, .val (.long q3), .second, .val (.long q4), .second, .val (.long q5), .second, .val (.int v11_6c), .val (.int v12_40c), .unset, .unset, .unset, .unset, .unset, .unset, .unset, .unset] [])) := by
      intro v12_40c hn_40c
      unfold F0_40c
      refine Go.of (fun t k => XS.iload X0.here hx rfl (hb hby at_40) rfl k) ?_
      show Go p e below s _ _ _ (s₁.setTop (mkF m 42 #[.val (.int p0), .val (.long q1), .second, .val (.long q2), .second, .val (.long q3), .second, .val (.long q4), .second, .val (.long q5), .second, .val (.int v11_6c), .val (.int v12_40c), .unset, .unset, .unset, .unset, .unset, .unset, .unset, .unset] [(.int v12_40c)]))
      obtain ⟨T1, h1, k1, X1, e1, E1, A1, st1⟩ := newP X0 hx hZ (hw _ (List.mem_of_getElem? (i := 0) rfl)) e0 (g := (mkF m 42 #[.val (.int p0), .val (.long q1), .second, .val (.long q2), .second, .val (.long q3), .second, .val (.long q4), .second, .val (.long q5), .second, .val (.int v11_6c), .val (.int v12_40c), .unset, .unset, .unset, .unset, .unset, .unset, .unset, .unset] [(.int v12_40c)])) rfl (hb hby at_42) rfl (own_cap0 hm_6c hn_40c) (cap := 5) (own_cap1 hm_6c hn_40c) (by decide) (by decide) (by decide)
      obtain ⟨b1, ga1⟩ : ∃ z, z = h0.size := ⟨_, rfl⟩
      rw [← ga1] at A1 st1
      have g_b1 : n0 ≤ b1 := Nat.le_trans Z0 (Nat.le_of_eq ga1.symm)
      have sz_b1 : h0.size ≤ b1 := Nat.le_trans (Keep.refl h0 []).1 (Nat.le_of_eq ga1.symm)
      have f2 : Arv Z h1 b1 k1 .int v12_40c ([(0 : Int32), (0 : Int32), (0 : Int32), (0 : Int32), (0 : Int32)].map Value.int) (.int (0 : Int32)) := (Arv.new A1 (own_cap0 hm_6c hn_40c)).pad (pad_rep [] (.int (0 : Int32)) 5)
      have K1 : Keep h0 h1 [] := Keep.ext (Keep.refl h0 []) E1
      refine Go.of st1 ?_
      show Go p e below s _ _ _ (T1.setTop (mkF m 44 #[.val (.int p0), .val (.long q1), .second, .val (.long q2), .second, .val (.long q3), .second, .val (.long q4), .second, .val (.long q5), .second, .val (.int v11_6c), .val (.int v12_40c), .unset, .unset, .unset, .unset, .unset, .unset, .unset, .unset] [(.ref b1)]))
      refine Go.of (fun t k => XS.astore X1.here hx rfl (hb hby at_44) rfl rfl (l' := #[.val (.int p0), .val (.long q1), .second, .val (.long q2), .second, .val (.long q3), .second, .val (.long q4), .second, .val (.long q5), .second, .val (.int v11_6c), .val (.int v12_40c), .val (.ref b1), .unset, .unset, .unset, .unset, .unset, .unset, .unset]) rfl k) ?_
      show Go p e below s _ _ _ (T1.setTop (mkF m 46 #[.val (.int p0), .val (.long q1), .second, .val (.long q2), .second, .val (.long q3), .second, .val (.long q4), .second, .val (.long q5), .second, .val (.int v11_6c), .val (.int v12_40c), .val (.ref b1), .unset, .unset, .unset, .unset, .unset, .unset, .unset] []))
      refine Go.of (fun t k => XS.iconst X1.here hx rfl (hb hby at_46) k) ?_
      show Go p e below s _ _ _ (T1.setTop (mkF m 47 #[.val (.int p0), .val (.long q1), .second, .val (.long q2), .second, .val (.long q3), .second, .val (.long q4), .second, .val (.long q5), .second, .val (.int v11_6c), .val (.int v12_40c), .val (.ref b1), .unset, .unset, .unset, .unset, .unset, .unset, .unset] [(.int (0 : Int32))]))
      refine Go.of (fun t k => XS.istore X1.here hx rfl (hb hby at_47) rfl (l' := #[.val (.int p0), .val (.long q1), .second, .val (.long q2), .second, .val (.long q3), .second, .val (.long q4), .second, .val (.long q5), .second, .val (.int v11_6c), .val (.int v12_40c), .val (.ref b1), .val (.int (0 : Int32)), .unset, .unset, .unset, .unset, .unset, .unset]) rfl k) ?_
      show Go p e below s _ _ _ (T1.setTop (mkF m 49 #[.val (.int p0), .val (.long q1), .second, .val (.long q2), .second, .val (.long q3), .second, .val (.long q4), .second, .val (.long q5), .second, .val (.int v11_6c), .val (.int v12_40c), .val (.ref b1), .val (.int (0 : Int32)), .unset, .unset, .unset, .unset, .unset, .unset] []))
      refine Go.of (fun t k => XS.iload X1.here hx rfl (hb hby at_49) rfl k) ?_
      show Go p e below s _ _ _ (T1.setTop (mkF m 51 #[.val (.int p0), .val (.long q1), .second, .val (.long q2), .second, .val (.long q3), .second, .val (.long q4), .second, .val (.long q5), .second, .val (.int v11_6c), .val (.int v12_40c), .val (.ref b1), .val (.int (0 : Int32)), .unset, .unset, .unset, .unset, .unset, .unset] [(.int v11_6c)]))
      refine Go.of (fun t k => XS.iconst X1.here hx rfl (hb hby at_51) k) ?_
      show Go p e below s _ _ _ (T1.setTop (mkF m 52 #[.val (.int p0), .val (.long q1), .second, .val (.long q2), .second, .val (.long q3), .second, .val (.long q4), .second, .val (.long q5), .second, .val (.int v11_6c), .val (.int v12_40c), .val (.ref b1), .val (.int (0 : Int32)), .unset, .unset, .unset, .unset, .unset, .unset] [(.int (1 : Int32)), (.int v11_6c)]))
      refine Go.of (fun t k => XS.iand X1.here hx rfl (hb hby at_52) rfl k) ?_
      show Go p e below s _ _ _ (T1.setTop (mkF m 53 #[.val (.int p0), .val (.long q1), .second, .val (.long q2), .second, .val (.long q3), .second, .val (.long q4), .second, .val (.long q5), .second, .val (.int v11_6c), .val (.int v12_40c), .val (.ref b1), .val (.int (0 : Int32)), .unset, .unset, .unset, .unset, .unset, .unset] [(.int (v11_6c &&& (1 : Int32)))]))
      have jn65 : ∀ (v14_65 : Int32) (L_b1_65 : List Int32) (h_65 : Heap) (T_65 : State) (l_65 : List Loc) (X_65 : Stand p l e room_1 s m #[(.int p0), (.long q1), (.long q2), (.long q3), (.long q4), (.long q5)] below meth c T_65 l_65 1 5) (e_65 : T_65.heap = h_65) (N_65 : Fr n0 l_65) (K_65 : Keep h0 h_65 []) (V_b1_65 : Arv Z h_65 b1 k1 .int v12_40c (L_b1_65.map Value.int) (.int (0 : Int32))) (ok_65 : own_ok v11_6c 1 v14_65 L_b1_65), Go p e below s (QL (some (.int (F0_65 q1 q2 q3 q4 q5 v11_6c v12_40c v14_65 L_b1_65))) n0) room_1.cells room_1.slots (T_65.setTop (mkF m 65 #[.val (.int p0), .val (.long q1), .second, .val (.long q2), .second, .val (.long q3), .second, .val (.long q4), .second, .val (.long q5), .second, .val (.int v11_6c), .val (.int v12_40c), .val (.ref b1), .val (.int v14_65), .unset, .unset, .unset, .unset, .unset, .unset] [])) := by
        intro v14_65 L_b1_65 h_65 T_65 l_65 X_65 e_65 N_65 K_65 V_b1_65 ok_65
        unfold F0_65
        refine Go.of (fun t k => XS.iload X_65.here hx rfl (hb hby at_65) rfl k) ?_
        show Go p e below s _ _ _ (T_65.setTop (mkF m 67 #[.val (.int p0), .val (.long q1), .second, .val (.long q2), .second, .val (.long q3), .second, .val (.long q4), .second, .val (.long q5), .second, .val (.int v11_6c), .val (.int v12_40c), .val (.ref b1), .val (.int v14_65), .unset, .unset, .unset, .unset, .unset, .unset] [(.int v11_6c)]))
        refine Go.of (fun t k => XS.iconst X_65.here hx rfl (hb hby at_67) k) ?_
        show Go p e below s _ _ _ (T_65.setTop (mkF m 68 #[.val (.int p0), .val (.long q1), .second, .val (.long q2), .second, .val (.long q3), .second, .val (.long q4), .second, .val (.long q5), .second, .val (.int v11_6c), .val (.int v12_40c), .val (.ref b1), .val (.int v14_65), .unset, .unset, .unset, .unset, .unset, .unset] [(.int (2 : Int32)), (.int v11_6c)]))
        refine Go.of (fun t k => XS.iand X_65.here hx rfl (hb hby at_68) rfl k) ?_
        show Go p e below s _ _ _ (T_65.setTop (mkF m 69 #[.val (.int p0), .val (.long q1), .second, .val (.long q2), .second, .val (.long q3), .second, .val (.long q4), .second, .val (.long q5), .second, .val (.int v11_6c), .val (.int v12_40c), .val (.ref b1), .val (.int v14_65), .unset, .unset, .unset, .unset, .unset, .unset] [(.int (v11_6c &&& (2 : Int32)))]))
        have jn81 : ∀ (v14_81 : Int32) (L_b1_81 : List Int32) (h_81 : Heap) (T_81 : State) (l_81 : List Loc) (X_81 : Stand p l e room_1 s m #[(.int p0), (.long q1), (.long q2), (.long q3), (.long q4), (.long q5)] below meth c T_81 l_81 1 5) (e_81 : T_81.heap = h_81) (N_81 : Fr n0 l_81) (K_81 : Keep h0 h_81 []) (V_b1_81 : Arv Z h_81 b1 k1 .int v12_40c (L_b1_81.map Value.int) (.int (0 : Int32))) (ok_81 : own_ok v11_6c 2 v14_81 L_b1_81), Go p e below s (QL (some (.int (F0_81 q1 q2 q3 q4 q5 v11_6c v12_40c v14_81 L_b1_81))) n0) room_1.cells room_1.slots (T_81.setTop (mkF m 81 #[.val (.int p0), .val (.long q1), .second, .val (.long q2), .second, .val (.long q3), .second, .val (.long q4), .second, .val (.long q5), .second, .val (.int v11_6c), .val (.int v12_40c), .val (.ref b1), .val (.int v14_81), .unset, .unset, .unset, .unset, .unset, .unset] [])) := by
          intro v14_81 L_b1_81 h_81 T_81 l_81 X_81 e_81 N_81 K_81 V_b1_81 ok_81
          unfold F0_81
          refine Go.of (fun t k => XS.iload X_81.here hx rfl (hb hby at_81) rfl k) ?_
          show Go p e below s _ _ _ (T_81.setTop (mkF m 83 #[.val (.int p0), .val (.long q1), .second, .val (.long q2), .second, .val (.long q3), .second, .val (.long q4), .second, .val (.long q5), .second, .val (.int v11_6c), .val (.int v12_40c), .val (.ref b1), .val (.int v14_81), .unset, .unset, .unset, .unset, .unset, .unset] [(.int v11_6c)]))
          refine Go.of (fun t k => XS.iconst X_81.here hx rfl (hb hby at_83) k) ?_
          show Go p e below s _ _ _ (T_81.setTop (mkF m 84 #[.val (.int p0), .val (.long q1), .second, .val (.long q2), .second, .val (.long q3), .second, .val (.long q4), .second, .val (.long q5), .second, .val (.int v11_6c), .val (.int v12_40c), .val (.ref b1), .val (.int v14_81), .unset, .unset, .unset, .unset, .unset, .unset] [(.int (4 : Int32)), (.int v11_6c)]))
          refine Go.of (fun t k => XS.iand X_81.here hx rfl (hb hby at_84) rfl k) ?_
          show Go p e below s _ _ _ (T_81.setTop (mkF m 85 #[.val (.int p0), .val (.long q1), .second, .val (.long q2), .second, .val (.long q3), .second, .val (.long q4), .second, .val (.long q5), .second, .val (.int v11_6c), .val (.int v12_40c), .val (.ref b1), .val (.int v14_81), .unset, .unset, .unset, .unset, .unset, .unset] [(.int (v11_6c &&& (4 : Int32)))]))
          have jn97 : ∀ (v14_97 : Int32) (L_b1_97 : List Int32) (h_97 : Heap) (T_97 : State) (l_97 : List Loc) (X_97 : Stand p l e room_1 s m #[(.int p0), (.long q1), (.long q2), (.long q3), (.long q4), (.long q5)] below meth c T_97 l_97 1 5) (e_97 : T_97.heap = h_97) (N_97 : Fr n0 l_97) (K_97 : Keep h0 h_97 []) (V_b1_97 : Arv Z h_97 b1 k1 .int v12_40c (L_b1_97.map Value.int) (.int (0 : Int32))) (ok_97 : own_ok v11_6c 3 v14_97 L_b1_97), Go p e below s (QL (some (.int (F0_97 q1 q2 q3 q4 q5 v11_6c v12_40c v14_97 L_b1_97))) n0) room_1.cells room_1.slots (T_97.setTop (mkF m 97 #[.val (.int p0), .val (.long q1), .second, .val (.long q2), .second, .val (.long q3), .second, .val (.long q4), .second, .val (.long q5), .second, .val (.int v11_6c), .val (.int v12_40c), .val (.ref b1), .val (.int v14_97), .unset, .unset, .unset, .unset, .unset, .unset] [])) := by
            intro v14_97 L_b1_97 h_97 T_97 l_97 X_97 e_97 N_97 K_97 V_b1_97 ok_97
            unfold F0_97
            refine Go.of (fun t k => XS.iload X_97.here hx rfl (hb hby at_97) rfl k) ?_
            show Go p e below s _ _ _ (T_97.setTop (mkF m 99 #[.val (.int p0), .val (.long q1), .second, .val (.long q2), .second, .val (.long q3), .second, .val (.long q4), .second, .val (.long q5), .second, .val (.int v11_6c), .val (.int v12_40c), .val (.ref b1), .val (.int v14_97), .unset, .unset, .unset, .unset, .unset, .unset] [(.int v11_6c)]))
            refine Go.of (fun t k => XS.bipush X_97.here hx rfl (hb hby at_99) k) ?_
            show Go p e below s _ _ _ (T_97.setTop (mkF m 101 #[.val (.int p0), .val (.long q1), .second, .val (.long q2), .second, .val (.long q3), .second, .val (.long q4), .second, .val (.long q5), .second, .val (.int v11_6c), .val (.int v12_40c), .val (.ref b1), .val (.int v14_97), .unset, .unset, .unset, .unset, .unset, .unset] [(.int (8 : Int32)), (.int v11_6c)]))
            refine Go.of (fun t k => XS.iand X_97.here hx rfl (hb hby at_101) rfl k) ?_
            show Go p e below s _ _ _ (T_97.setTop (mkF m 102 #[.val (.int p0), .val (.long q1), .second, .val (.long q2), .second, .val (.long q3), .second, .val (.long q4), .second, .val (.long q5), .second, .val (.int v11_6c), .val (.int v12_40c), .val (.ref b1), .val (.int v14_97), .unset, .unset, .unset, .unset, .unset, .unset] [(.int (v11_6c &&& (8 : Int32)))]))
            have jn114 : ∀ (v14_114 : Int32) (L_b1_114 : List Int32) (h_114 : Heap) (T_114 : State) (l_114 : List Loc) (X_114 : Stand p l e room_1 s m #[(.int p0), (.long q1), (.long q2), (.long q3), (.long q4), (.long q5)] below meth c T_114 l_114 1 5) (e_114 : T_114.heap = h_114) (N_114 : Fr n0 l_114) (K_114 : Keep h0 h_114 []) (V_b1_114 : Arv Z h_114 b1 k1 .int v12_40c (L_b1_114.map Value.int) (.int (0 : Int32))) (ok_114 : own_ok v11_6c 4 v14_114 L_b1_114), Go p e below s (QL (some (.int (F0_114 q1 q2 q3 q4 q5 v11_6c v12_40c v14_114 L_b1_114))) n0) room_1.cells room_1.slots (T_114.setTop (mkF m 114 #[.val (.int p0), .val (.long q1), .second, .val (.long q2), .second, .val (.long q3), .second, .val (.long q4), .second, .val (.long q5), .second, .val (.int v11_6c), .val (.int v12_40c), .val (.ref b1), .val (.int v14_114), .unset, .unset, .unset, .unset, .unset, .unset] [])) := by
              intro v14_114 L_b1_114 h_114 T_114 l_114 X_114 e_114 N_114 K_114 V_b1_114 ok_114
              unfold F0_114
              refine Go.of (fun t k => XS.iload X_114.here hx rfl (hb hby at_114) rfl k) ?_
              show Go p e below s _ _ _ (T_114.setTop (mkF m 116 #[.val (.int p0), .val (.long q1), .second, .val (.long q2), .second, .val (.long q3), .second, .val (.long q4), .second, .val (.long q5), .second, .val (.int v11_6c), .val (.int v12_40c), .val (.ref b1), .val (.int v14_114), .unset, .unset, .unset, .unset, .unset, .unset] [(.int v11_6c)]))
              refine Go.of (fun t k => XS.bipush X_114.here hx rfl (hb hby at_116) k) ?_
              show Go p e below s _ _ _ (T_114.setTop (mkF m 118 #[.val (.int p0), .val (.long q1), .second, .val (.long q2), .second, .val (.long q3), .second, .val (.long q4), .second, .val (.long q5), .second, .val (.int v11_6c), .val (.int v12_40c), .val (.ref b1), .val (.int v14_114), .unset, .unset, .unset, .unset, .unset, .unset] [(.int (16 : Int32)), (.int v11_6c)]))
              refine Go.of (fun t k => XS.iand X_114.here hx rfl (hb hby at_118) rfl k) ?_
              show Go p e below s _ _ _ (T_114.setTop (mkF m 119 #[.val (.int p0), .val (.long q1), .second, .val (.long q2), .second, .val (.long q3), .second, .val (.long q4), .second, .val (.long q5), .second, .val (.int v11_6c), .val (.int v12_40c), .val (.ref b1), .val (.int v14_114), .unset, .unset, .unset, .unset, .unset, .unset] [(.int (v11_6c &&& (16 : Int32)))]))
              have jn131 : ∀ (v14_131 : Int32) (L_b1_131 : List Int32) (h_131 : Heap) (T_131 : State) (l_131 : List Loc) (X_131 : Stand p l e room_1 s m #[(.int p0), (.long q1), (.long q2), (.long q3), (.long q4), (.long q5)] below meth c T_131 l_131 1 5) (e_131 : T_131.heap = h_131) (N_131 : Fr n0 l_131) (K_131 : Keep h0 h_131 []) (V_b1_131 : Arv Z h_131 b1 k1 .int v12_40c (L_b1_131.map Value.int) (.int (0 : Int32))) (ok_131 : own_ok v11_6c 5 v14_131 L_b1_131), Go p e below s (QL (some (.int (F0_131 q1 q2 q3 q4 q5 v11_6c v12_40c L_b1_131))) n0) room_1.cells room_1.slots (T_131.setTop (mkF m 131 #[.val (.int p0), .val (.long q1), .second, .val (.long q2), .second, .val (.long q3), .second, .val (.long q4), .second, .val (.long q5), .second, .val (.int v11_6c), .val (.int v12_40c), .val (.ref b1), .val (.int v14_131), .unset, .unset, .unset, .unset, .unset, .unset] [])) := by
                intro v14_131 L_b1_131 h_131 T_131 l_131 X_131 e_131 N_131 K_131 V_b1_131 ok_131
                unfold F0_131
                refine Go.of (fun t k => XS.iconst X_131.here hx rfl (hb hby at_131) k) ?_
                show Go p e below s _ _ _ (T_131.setTop (mkF m 132 #[.val (.int p0), .val (.long q1), .second, .val (.long q2), .second, .val (.long q3), .second, .val (.long q4), .second, .val (.long q5), .second, .val (.int v11_6c), .val (.int v12_40c), .val (.ref b1), .val (.int v14_131), .unset, .unset, .unset, .unset, .unset, .unset] [(.int (5 : Int32))]))
                obtain ⟨T3, h3, k3, X3, e3, E3, A3, st3⟩ := newP X_131 hx hZ (hw _ (List.mem_of_getElem? (i := 1) rfl)) e_131 (g := (mkF m 132 #[.val (.int p0), .val (.long q1), .second, .val (.long q2), .second, .val (.long q3), .second, .val (.long q4), .second, .val (.long q5), .second, .val (.int v11_6c), .val (.int v12_40c), .val (.ref b1), .val (.int v14_131), .unset, .unset, .unset, .unset, .unset, .unset] [(.int (5 : Int32))])) rfl (hb hby at_132) rfl (by decide) (cap := 5) (by decide) (by decide) (by decide) (by decide)
                obtain ⟨b3, ga3⟩ : ∃ z, z = h_131.size := ⟨_, rfl⟩
                rw [← ga3] at A3 st3
                have g_b3 : n0 ≤ b3 := Nat.le_trans (Nat.le_trans Z0 K_131.1) (Nat.le_of_eq ga3.symm)
                have sz_b3 : h0.size ≤ b3 := Nat.le_trans K_131.1 (Nat.le_of_eq ga3.symm)
                have ne4 : b1 ≠ b3 := Nat.ne_of_lt (Nat.lt_of_lt_of_le V_b1_131.lt (Nat.le_of_eq ga3.symm))
                have f5 := V_b1_131.ext E3
                have f6 : Arv Z h3 b3 k3 .long (5 : Int32) [(.long (0 : Int64)), (.long (0 : Int64)), (.long (0 : Int64)), (.long (0 : Int64)), (.long (0 : Int64))] (.long (0 : Int64)) := (Arv.new A3 (by decide)).pad (pad_rep [] (.long (0 : Int64)) 5)
                have K3 : Keep h0 h3 [] := Keep.ext K_131 E3
                refine Go.of st3 ?_
                show Go p e below s _ _ _ (T3.setTop (mkF m 134 #[.val (.int p0), .val (.long q1), .second, .val (.long q2), .second, .val (.long q3), .second, .val (.long q4), .second, .val (.long q5), .second, .val (.int v11_6c), .val (.int v12_40c), .val (.ref b1), .val (.int v14_131), .unset, .unset, .unset, .unset, .unset, .unset] [(.ref b3)]))
                refine Go.of (fun t k => XS.astore X3.here hx rfl (hb hby at_134) rfl rfl (l' := #[.val (.int p0), .val (.long q1), .second, .val (.long q2), .second, .val (.long q3), .second, .val (.long q4), .second, .val (.long q5), .second, .val (.int v11_6c), .val (.int v12_40c), .val (.ref b1), .val (.int v14_131), .val (.ref b3), .unset, .unset, .unset, .unset, .unset]) rfl k) ?_
                show Go p e below s _ _ _ (T3.setTop (mkF m 136 #[.val (.int p0), .val (.long q1), .second, .val (.long q2), .second, .val (.long q3), .second, .val (.long q4), .second, .val (.long q5), .second, .val (.int v11_6c), .val (.int v12_40c), .val (.ref b1), .val (.int v14_131), .val (.ref b3), .unset, .unset, .unset, .unset, .unset] []))
                refine Go.of (fun t k => XS.aload X3.here hx rfl (hb hby at_136) rfl rfl k) ?_
                show Go p e below s _ _ _ (T3.setTop (mkF m 138 #[.val (.int p0), .val (.long q1), .second, .val (.long q2), .second, .val (.long q3), .second, .val (.long q4), .second, .val (.long q5), .second, .val (.int v11_6c), .val (.int v12_40c), .val (.ref b1), .val (.int v14_131), .val (.ref b3), .unset, .unset, .unset, .unset, .unset] [(.ref b3)]))
                refine Go.of (fun t k => XS.iconst X3.here hx rfl (hb hby at_138) k) ?_
                show Go p e below s _ _ _ (T3.setTop (mkF m 139 #[.val (.int p0), .val (.long q1), .second, .val (.long q2), .second, .val (.long q3), .second, .val (.long q4), .second, .val (.long q5), .second, .val (.int v11_6c), .val (.int v12_40c), .val (.ref b1), .val (.int v14_131), .val (.ref b3), .unset, .unset, .unset, .unset, .unset] [(.int (0 : Int32)), (.ref b3)]))
                refine Go.of (fun t k => XS.lloadN X3.here hx rfl (hb hby at_139) rfl k) ?_
                show Go p e below s _ _ _ (T3.setTop (mkF m 140 #[.val (.int p0), .val (.long q1), .second, .val (.long q2), .second, .val (.long q3), .second, .val (.long q4), .second, .val (.long q5), .second, .val (.int v11_6c), .val (.int v12_40c), .val (.ref b1), .val (.int v14_131), .val (.ref b3), .unset, .unset, .unset, .unset, .unset] [(.long q1), (.int (0 : Int32)), (.ref b3)]))
                obtain ⟨cl7, Ar7, q7, S7, M7, H7, G7⟩ := id f6
                have hin7 : ¬ ((0 : Int32) < 0 ∨ cl7.slots.size ≤ ((0 : Int32)).toNatClampNeg) := (inb_of S7 ⟨by decide, by decide⟩)
                obtain ⟨T7, h7, X7, e7, W7, st7⟩ := stJ X3 hx hZ e3 Ar7 (j := (0 : Int32)) hin7 (g := (mkF m 140 #[.val (.int p0), .val (.long q1), .second, .val (.long q2), .second, .val (.long q3), .second, .val (.long q4), .second, .val (.long q5), .second, .val (.int v11_6c), .val (.int v12_40c), .val (.ref b1), .val (.int v14_131), .val (.ref b3), .unset, .unset, .unset, .unset, .unset] [(.long q1), (.int (0 : Int32)), (.ref b3)])) rfl rfl (hb hby at_140)
                have f8 : Arv Z h7 b3 k3 .long (5 : Int32) [(.long q1), (.long (0 : Int64)), (.long (0 : Int64)), (.long (0 : Int64)), (.long (0 : Int64))] (.long (0 : Int64)) := Arv.set Ar7 q7 S7 M7 H7 G7 rfl W7 0 rfl (Nat.le_of_ble_eq_true rfl)
                have f9 := f5.other W7 ne4
                have N7 := Fr.snoc X7 N_131 g_b3
                have K7 : Keep h0 h7 [] := Keep.wr K3 W7 (Or.inr sz_b3)
                refine Go.of st7 ?_
                show Go p e below s _ _ _ (T7.setTop (mkF m 141 #[.val (.int p0), .val (.long q1), .second, .val (.long q2), .second, .val (.long q3), .second, .val (.long q4), .second, .val (.long q5), .second, .val (.int v11_6c), .val (.int v12_40c), .val (.ref b1), .val (.int v14_131), .val (.ref b3), .unset, .unset, .unset, .unset, .unset] []))
                refine Go.of (fun t k => XS.aload X7.here hx rfl (hb hby at_141) rfl rfl k) ?_
                show Go p e below s _ _ _ (T7.setTop (mkF m 143 #[.val (.int p0), .val (.long q1), .second, .val (.long q2), .second, .val (.long q3), .second, .val (.long q4), .second, .val (.long q5), .second, .val (.int v11_6c), .val (.int v12_40c), .val (.ref b1), .val (.int v14_131), .val (.ref b3), .unset, .unset, .unset, .unset, .unset] [(.ref b3)]))
                refine Go.of (fun t k => XS.iconst X7.here hx rfl (hb hby at_143) k) ?_
                show Go p e below s _ _ _ (T7.setTop (mkF m 144 #[.val (.int p0), .val (.long q1), .second, .val (.long q2), .second, .val (.long q3), .second, .val (.long q4), .second, .val (.long q5), .second, .val (.int v11_6c), .val (.int v12_40c), .val (.ref b1), .val (.int v14_131), .val (.ref b3), .unset, .unset, .unset, .unset, .unset] [(.int (1 : Int32)), (.ref b3)]))
                refine Go.of (fun t k => XS.lloadN X7.here hx rfl (hb hby at_144) rfl k) ?_
                show Go p e below s _ _ _ (T7.setTop (mkF m 145 #[.val (.int p0), .val (.long q1), .second, .val (.long q2), .second, .val (.long q3), .second, .val (.long q4), .second, .val (.long q5), .second, .val (.int v11_6c), .val (.int v12_40c), .val (.ref b1), .val (.int v14_131), .val (.ref b3), .unset, .unset, .unset, .unset, .unset] [(.long q2), (.int (1 : Int32)), (.ref b3)]))
                obtain ⟨cl10, Ar10, q10, S10, M10, H10, G10⟩ := id f8
                have hin10 : ¬ ((1 : Int32) < 0 ∨ cl10.slots.size ≤ ((1 : Int32)).toNatClampNeg) := (inb_of S10 ⟨by decide, by decide⟩)
                obtain ⟨T10, h10, X10, e10, W10, st10⟩ := stJ X7 hx hZ e7 Ar10 (j := (1 : Int32)) hin10 (g := (mkF m 145 #[.val (.int p0), .val (.long q1), .second, .val (.long q2), .second, .val (.long q3), .second, .val (.long q4), .second, .val (.long q5), .second, .val (.int v11_6c), .val (.int v12_40c), .val (.ref b1), .val (.int v14_131), .val (.ref b3), .unset, .unset, .unset, .unset, .unset] [(.long q2), (.int (1 : Int32)), (.ref b3)])) rfl rfl (hb hby at_145)
                have f11 : Arv Z h10 b3 k3 .long (5 : Int32) [(.long q1), (.long q2), (.long (0 : Int64)), (.long (0 : Int64)), (.long (0 : Int64))] (.long (0 : Int64)) := Arv.set Ar10 q10 S10 M10 H10 G10 rfl W10 1 rfl (Nat.le_of_ble_eq_true rfl)
                have f12 := f9.other W10 ne4
                have N10 := Fr.snoc X10 N7 g_b3
                have K10 : Keep h0 h10 [] := Keep.wr K7 W10 (Or.inr sz_b3)
                refine Go.of st10 ?_
                show Go p e below s _ _ _ (T10.setTop (mkF m 146 #[.val (.int p0), .val (.long q1), .second, .val (.long q2), .second, .val (.long q3), .second, .val (.long q4), .second, .val (.long q5), .second, .val (.int v11_6c), .val (.int v12_40c), .val (.ref b1), .val (.int v14_131), .val (.ref b3), .unset, .unset, .unset, .unset, .unset] []))
                refine Go.of (fun t k => XS.aload X10.here hx rfl (hb hby at_146) rfl rfl k) ?_
                show Go p e below s _ _ _ (T10.setTop (mkF m 148 #[.val (.int p0), .val (.long q1), .second, .val (.long q2), .second, .val (.long q3), .second, .val (.long q4), .second, .val (.long q5), .second, .val (.int v11_6c), .val (.int v12_40c), .val (.ref b1), .val (.int v14_131), .val (.ref b3), .unset, .unset, .unset, .unset, .unset] [(.ref b3)]))
                refine Go.of (fun t k => XS.iconst X10.here hx rfl (hb hby at_148) k) ?_
                show Go p e below s _ _ _ (T10.setTop (mkF m 149 #[.val (.int p0), .val (.long q1), .second, .val (.long q2), .second, .val (.long q3), .second, .val (.long q4), .second, .val (.long q5), .second, .val (.int v11_6c), .val (.int v12_40c), .val (.ref b1), .val (.int v14_131), .val (.ref b3), .unset, .unset, .unset, .unset, .unset] [(.int (2 : Int32)), (.ref b3)]))
                refine Go.of (fun t k => XS.lload X10.here hx rfl (hb hby at_149) rfl k) ?_
                show Go p e below s _ _ _ (T10.setTop (mkF m 151 #[.val (.int p0), .val (.long q1), .second, .val (.long q2), .second, .val (.long q3), .second, .val (.long q4), .second, .val (.long q5), .second, .val (.int v11_6c), .val (.int v12_40c), .val (.ref b1), .val (.int v14_131), .val (.ref b3), .unset, .unset, .unset, .unset, .unset] [(.long q3), (.int (2 : Int32)), (.ref b3)]))
                obtain ⟨cl13, Ar13, q13, S13, M13, H13, G13⟩ := id f11
                have hin13 : ¬ ((2 : Int32) < 0 ∨ cl13.slots.size ≤ ((2 : Int32)).toNatClampNeg) := (inb_of S13 ⟨by decide, by decide⟩)
                obtain ⟨T13, h13, X13, e13, W13, st13⟩ := stJ X10 hx hZ e10 Ar13 (j := (2 : Int32)) hin13 (g := (mkF m 151 #[.val (.int p0), .val (.long q1), .second, .val (.long q2), .second, .val (.long q3), .second, .val (.long q4), .second, .val (.long q5), .second, .val (.int v11_6c), .val (.int v12_40c), .val (.ref b1), .val (.int v14_131), .val (.ref b3), .unset, .unset, .unset, .unset, .unset] [(.long q3), (.int (2 : Int32)), (.ref b3)])) rfl rfl (hb hby at_151)
                have f14 : Arv Z h13 b3 k3 .long (5 : Int32) [(.long q1), (.long q2), (.long q3), (.long (0 : Int64)), (.long (0 : Int64))] (.long (0 : Int64)) := Arv.set Ar13 q13 S13 M13 H13 G13 rfl W13 2 rfl (Nat.le_of_ble_eq_true rfl)
                have f15 := f12.other W13 ne4
                have N13 := Fr.snoc X13 N10 g_b3
                have K13 : Keep h0 h13 [] := Keep.wr K10 W13 (Or.inr sz_b3)
                refine Go.of st13 ?_
                show Go p e below s _ _ _ (T13.setTop (mkF m 152 #[.val (.int p0), .val (.long q1), .second, .val (.long q2), .second, .val (.long q3), .second, .val (.long q4), .second, .val (.long q5), .second, .val (.int v11_6c), .val (.int v12_40c), .val (.ref b1), .val (.int v14_131), .val (.ref b3), .unset, .unset, .unset, .unset, .unset] []))
                refine Go.of (fun t k => XS.aload X13.here hx rfl (hb hby at_152) rfl rfl k) ?_
                show Go p e below s _ _ _ (T13.setTop (mkF m 154 #[.val (.int p0), .val (.long q1), .second, .val (.long q2), .second, .val (.long q3), .second, .val (.long q4), .second, .val (.long q5), .second, .val (.int v11_6c), .val (.int v12_40c), .val (.ref b1), .val (.int v14_131), .val (.ref b3), .unset, .unset, .unset, .unset, .unset] [(.ref b3)]))
                refine Go.of (fun t k => XS.iconst X13.here hx rfl (hb hby at_154) k) ?_
                show Go p e below s _ _ _ (T13.setTop (mkF m 155 #[.val (.int p0), .val (.long q1), .second, .val (.long q2), .second, .val (.long q3), .second, .val (.long q4), .second, .val (.long q5), .second, .val (.int v11_6c), .val (.int v12_40c), .val (.ref b1), .val (.int v14_131), .val (.ref b3), .unset, .unset, .unset, .unset, .unset] [(.int (3 : Int32)), (.ref b3)]))
                refine Go.of (fun t k => XS.lload X13.here hx rfl (hb hby at_155) rfl k) ?_
                show Go p e below s _ _ _ (T13.setTop (mkF m 157 #[.val (.int p0), .val (.long q1), .second, .val (.long q2), .second, .val (.long q3), .second, .val (.long q4), .second, .val (.long q5), .second, .val (.int v11_6c), .val (.int v12_40c), .val (.ref b1), .val (.int v14_131), .val (.ref b3), .unset, .unset, .unset, .unset, .unset] [(.long q4), (.int (3 : Int32)), (.ref b3)]))
                obtain ⟨cl16, Ar16, q16, S16, M16, H16, G16⟩ := id f14
                have hin16 : ¬ ((3 : Int32) < 0 ∨ cl16.slots.size ≤ ((3 : Int32)).toNatClampNeg) := (inb_of S16 ⟨by decide, by decide⟩)
                obtain ⟨T16, h16, X16, e16, W16, st16⟩ := stJ X13 hx hZ e13 Ar16 (j := (3 : Int32)) hin16 (g := (mkF m 157 #[.val (.int p0), .val (.long q1), .second, .val (.long q2), .second, .val (.long q3), .second, .val (.long q4), .second, .val (.long q5), .second, .val (.int v11_6c), .val (.int v12_40c), .val (.ref b1), .val (.int v14_131), .val (.ref b3), .unset, .unset, .unset, .unset, .unset] [(.long q4), (.int (3 : Int32)), (.ref b3)])) rfl rfl (hb hby at_157)
                have f17 : Arv Z h16 b3 k3 .long (5 : Int32) [(.long q1), (.long q2), (.long q3), (.long q4), (.long (0 : Int64))] (.long (0 : Int64)) := Arv.set Ar16 q16 S16 M16 H16 G16 rfl W16 3 rfl (Nat.le_of_ble_eq_true rfl)
                have f18 := f15.other W16 ne4
                have N16 := Fr.snoc X16 N13 g_b3
                have K16 : Keep h0 h16 [] := Keep.wr K13 W16 (Or.inr sz_b3)
                refine Go.of st16 ?_
                show Go p e below s _ _ _ (T16.setTop (mkF m 158 #[.val (.int p0), .val (.long q1), .second, .val (.long q2), .second, .val (.long q3), .second, .val (.long q4), .second, .val (.long q5), .second, .val (.int v11_6c), .val (.int v12_40c), .val (.ref b1), .val (.int v14_131), .val (.ref b3), .unset, .unset, .unset, .unset, .unset] []))
                refine Go.of (fun t k => XS.aload X16.here hx rfl (hb hby at_158) rfl rfl k) ?_
                show Go p e below s _ _ _ (T16.setTop (mkF m 160 #[.val (.int p0), .val (.long q1), .second, .val (.long q2), .second, .val (.long q3), .second, .val (.long q4), .second, .val (.long q5), .second, .val (.int v11_6c), .val (.int v12_40c), .val (.ref b1), .val (.int v14_131), .val (.ref b3), .unset, .unset, .unset, .unset, .unset] [(.ref b3)]))
                refine Go.of (fun t k => XS.iconst X16.here hx rfl (hb hby at_160) k) ?_
                show Go p e below s _ _ _ (T16.setTop (mkF m 161 #[.val (.int p0), .val (.long q1), .second, .val (.long q2), .second, .val (.long q3), .second, .val (.long q4), .second, .val (.long q5), .second, .val (.int v11_6c), .val (.int v12_40c), .val (.ref b1), .val (.int v14_131), .val (.ref b3), .unset, .unset, .unset, .unset, .unset] [(.int (4 : Int32)), (.ref b3)]))
                refine Go.of (fun t k => XS.lload X16.here hx rfl (hb hby at_161) rfl k) ?_
                show Go p e below s _ _ _ (T16.setTop (mkF m 163 #[.val (.int p0), .val (.long q1), .second, .val (.long q2), .second, .val (.long q3), .second, .val (.long q4), .second, .val (.long q5), .second, .val (.int v11_6c), .val (.int v12_40c), .val (.ref b1), .val (.int v14_131), .val (.ref b3), .unset, .unset, .unset, .unset, .unset] [(.long q5), (.int (4 : Int32)), (.ref b3)]))
                obtain ⟨cl19, Ar19, q19, S19, M19, H19, G19⟩ := id f17
                have hin19 : ¬ ((4 : Int32) < 0 ∨ cl19.slots.size ≤ ((4 : Int32)).toNatClampNeg) := (inb_of S19 ⟨by decide, by decide⟩)
                obtain ⟨T19, h19, X19, e19, W19, st19⟩ := stJ X16 hx hZ e16 Ar19 (j := (4 : Int32)) hin19 (g := (mkF m 163 #[.val (.int p0), .val (.long q1), .second, .val (.long q2), .second, .val (.long q3), .second, .val (.long q4), .second, .val (.long q5), .second, .val (.int v11_6c), .val (.int v12_40c), .val (.ref b1), .val (.int v14_131), .val (.ref b3), .unset, .unset, .unset, .unset, .unset] [(.long q5), (.int (4 : Int32)), (.ref b3)])) rfl rfl (hb hby at_163)
                have f20 : Arv Z h19 b3 k3 .long (5 : Int32) [(.long q1), (.long q2), (.long q3), (.long q4), (.long q5)] (.long (0 : Int64)) := Arv.set Ar19 q19 S19 M19 H19 G19 rfl W19 4 rfl (Nat.le_of_ble_eq_true rfl)
                have f21 := f18.other W19 ne4
                have N19 := Fr.snoc X19 N16 g_b3
                have K19 : Keep h0 h19 [] := Keep.wr K16 W19 (Or.inr sz_b3)
                refine Go.of st19 ?_
                show Go p e below s _ _ _ (T19.setTop (mkF m 164 #[.val (.int p0), .val (.long q1), .second, .val (.long q2), .second, .val (.long q3), .second, .val (.long q4), .second, .val (.long q5), .second, .val (.int v11_6c), .val (.int v12_40c), .val (.ref b1), .val (.int v14_131), .val (.ref b3), .unset, .unset, .unset, .unset, .unset] []))
                refine Go.of (fun t k => XS.aload X19.here hx rfl (hb hby at_164) rfl rfl k) ?_
                show Go p e below s _ _ _ (T19.setTop (mkF m 166 #[.val (.int p0), .val (.long q1), .second, .val (.long q2), .second, .val (.long q3), .second, .val (.long q4), .second, .val (.long q5), .second, .val (.int v11_6c), .val (.int v12_40c), .val (.ref b1), .val (.int v14_131), .val (.ref b3), .unset, .unset, .unset, .unset, .unset] [(.ref b1)]))
                refine Go.of (fun t k => XS.aload X19.here hx rfl (hb hby at_166) rfl rfl k) ?_
                show Go p e below s _ _ _ (T19.setTop (mkF m 168 #[.val (.int p0), .val (.long q1), .second, .val (.long q2), .second, .val (.long q3), .second, .val (.long q4), .second, .val (.long q5), .second, .val (.int v11_6c), .val (.int v12_40c), .val (.ref b1), .val (.int v14_131), .val (.ref b3), .unset, .unset, .unset, .unset, .unset] [(.ref b3), (.ref b1)]))
                obtain ⟨_, _, ⟨T22, L22, k22, n22⟩, -, X22, ⟨Lc22, hQ22, l22, y22, z22⟩, st22⟩ := Jvm.LawKit.callS X19 hx (y := (⟨"com/example/prorata/prorata/Pricer", "sum", "([I[J)J"⟩ : MethodName)) hown (mvT hZ (hw _ (List.mem_of_getElem? (i := 2) rfl))) (mvT hZ (hw _ (List.mem_of_getElem? (i := 3) rfl))) (mvT hZ (hw _ (List.mem_of_getElem? (i := 4) rfl))) (mvT hZ (hw _ (List.mem_of_getElem? (i := 5) rfl))) (by decide) (backOf (W := 0) (rm1 l Z az hw [] b1 b3 v12_40c k1 L_b1_131 k3 [q1, q2, q3, q4, q5] h19 n0 (Nat.le_trans Z0 K19.1) f21 f20 (own_hn hm_6c hn_40c) (own_hL hm_6c hn_40c ok_131)) hZ (hw _ (List.mem_of_getElem? (i := 5) rfl)) (hw _ (List.mem_of_getElem? (i := 4) rfl)) (by decide) (by decide)) (g := (mkF m 168 #[.val (.int p0), .val (.long q1), .second, .val (.long q2), .second, .val (.long q3), .second, .val (.long q4), .second, .val (.long q5), .second, .val (.int v11_6c), .val (.int v12_40c), .val (.ref b1), .val (.int v14_131), .val (.ref b3), .unset, .unset, .unset, .unset, .unset] [(.ref b3), (.ref b1)])) rfl (by rw [hml]; rfl) (argsL := [(.ref b1), (.ref b3)]) (rest := []) (lenOf own_pd0 rfl) rfl (by show 2 * 0 + _ ≤ _; exact Nat.le_of_eq rfl) (hb hby at_168) (fun _ _ => ⟨rfl, e19, (by decide : 2 + 0 ≤ _), (by decide : 10 + 0 ≤ _)⟩)
                dsimp only [Pt.U, Pt.locs, Pt.cells, Pt.slots] at X22 l22 y22 z22 st22 hQ22
                subst l22 y22 z22
                obtain ⟨rfl, N22q, e22⟩ := hQ22
                have N22 := Fr.app N19 N22q
                refine Go.of st22 ?_
                show Go p e below s _ _ _ (T22.setTop (mkF m 171 #[.val (.int p0), .val (.long q1), .second, .val (.long q2), .second, .val (.long q3), .second, .val (.long q4), .second, .val (.long q5), .second, .val (.int v11_6c), .val (.int v12_40c), .val (.ref b1), .val (.int v14_131), .val (.ref b3), .unset, .unset, .unset, .unset, .unset] [(.long (F1 v12_40c L_b1_131 [q1, q2, q3, q4, q5]))]))
                refine Go.of (fun t k => XS.lstore X22.here hx rfl (hb hby at_171) rfl (l' := #[.val (.int p0), .val (.long q1), .second, .val (.long q2), .second, .val (.long q3), .second, .val (.long q4), .second, .val (.long q5), .second, .val (.int v11_6c), .val (.int v12_40c), .val (.ref b1), .val (.int v14_131), .val (.ref b3), .val (.long (F1 v12_40c L_b1_131 [q1, q2, q3, q4, q5])), .second, .unset, .unset, .unset]) rfl k) ?_
                show Go p e below s _ _ _ (T22.setTop (mkF m 173 #[.val (.int p0), .val (.long q1), .second, .val (.long q2), .second, .val (.long q3), .second, .val (.long q4), .second, .val (.long q5), .second, .val (.int v11_6c), .val (.int v12_40c), .val (.ref b1), .val (.int v14_131), .val (.ref b3), .val (.long (F1 v12_40c L_b1_131 [q1, q2, q3, q4, q5])), .second, .unset, .unset, .unset] []))
                refine Go.of (fun t k => XS.lconst X22.here hx rfl (hb hby at_173) k) ?_
                show Go p e below s _ _ _ (T22.setTop (mkF m 174 #[.val (.int p0), .val (.long q1), .second, .val (.long q2), .second, .val (.long q3), .second, .val (.long q4), .second, .val (.long q5), .second, .val (.int v11_6c), .val (.int v12_40c), .val (.ref b1), .val (.int v14_131), .val (.ref b3), .val (.long (F1 v12_40c L_b1_131 [q1, q2, q3, q4, q5])), .second, .unset, .unset, .unset] [(.long (0 : Int64))]))
                refine Go.of (fun t k => XS.lstore X22.here hx rfl (hb hby at_174) rfl (l' := #[.val (.int p0), .val (.long q1), .second, .val (.long q2), .second, .val (.long q3), .second, .val (.long q4), .second, .val (.long q5), .second, .val (.int v11_6c), .val (.int v12_40c), .val (.ref b1), .val (.int v14_131), .val (.ref b3), .val (.long (F1 v12_40c L_b1_131 [q1, q2, q3, q4, q5])), .second, .val (.long (0 : Int64)), .second, .unset]) rfl k) ?_
                show Go p e below s _ _ _ (T22.setTop (mkF m 176 #[.val (.int p0), .val (.long q1), .second, .val (.long q2), .second, .val (.long q3), .second, .val (.long q4), .second, .val (.long q5), .second, .val (.int v11_6c), .val (.int v12_40c), .val (.ref b1), .val (.int v14_131), .val (.ref b3), .val (.long (F1 v12_40c L_b1_131 [q1, q2, q3, q4, q5])), .second, .val (.long (0 : Int64)), .second, .unset] []))
                refine Go.of (fun t k => XS.iload X22.here hx rfl (hb hby at_176) rfl k) ?_
                show Go p e below s _ _ _ (T22.setTop (mkF m 178 #[.val (.int p0), .val (.long q1), .second, .val (.long q2), .second, .val (.long q3), .second, .val (.long q4), .second, .val (.long q5), .second, .val (.int v11_6c), .val (.int v12_40c), .val (.ref b1), .val (.int v14_131), .val (.ref b3), .val (.long (F1 v12_40c L_b1_131 [q1, q2, q3, q4, q5])), .second, .val (.long (0 : Int64)), .second, .unset] [(.int v11_6c)]))
                refine Go.of (fun t k => XS.iconst X22.here hx rfl (hb hby at_178) k) ?_
                show Go p e below s _ _ _ (T22.setTop (mkF m 179 #[.val (.int p0), .val (.long q1), .second, .val (.long q2), .second, .val (.long q3), .second, .val (.long q4), .second, .val (.long q5), .second, .val (.int v11_6c), .val (.int v12_40c), .val (.ref b1), .val (.int v14_131), .val (.ref b3), .val (.long (F1 v12_40c L_b1_131 [q1, q2, q3, q4, q5])), .second, .val (.long (0 : Int64)), .second, .unset] [(.int (1 : Int32)), (.int v11_6c)]))
                refine Go.of (fun t k => XS.iand X22.here hx rfl (hb hby at_179) rfl k) ?_
                show Go p e below s _ _ _ (T22.setTop (mkF m 180 #[.val (.int p0), .val (.long q1), .second, .val (.long q2), .second, .val (.long q3), .second, .val (.long q4), .second, .val (.long q5), .second, .val (.int v11_6c), .val (.int v12_40c), .val (.ref b1), .val (.int v14_131), .val (.ref b3), .val (.long (F1 v12_40c L_b1_131 [q1, q2, q3, q4, q5])), .second, .val (.long (0 : Int64)), .second, .unset] [(.int (v11_6c &&& (1 : Int32)))]))
                have jn189 : ∀ (v18_189 : Int64) (T_189 : State) (l_189 : List Loc) (X_189 : Stand p l e room_1 s m #[(.int p0), (.long q1), (.long q2), (.long q3), (.long q4), (.long q5)] below meth c T_189 l_189 2 10) (e_189 : T_189.heap = h19) (N_189 : Fr n0 l_189), Go p e below s (QL (some (.int (F0_189 q1 q2 q3 q4 q5 v11_6c v12_40c L_b1_131 v18_189))) n0) room_1.cells room_1.slots (T_189.setTop (mkF m 189 #[.val (.int p0), .val (.long q1), .second, .val (.long q2), .second, .val (.long q3), .second, .val (.long q4), .second, .val (.long q5), .second, .val (.int v11_6c), .val (.int v12_40c), .val (.ref b1), .val (.int v14_131), .val (.ref b3), .val (.long (F1 v12_40c L_b1_131 [q1, q2, q3, q4, q5])), .second, .val (.long v18_189), .second, .unset] [])) := by
                  intro v18_189 T_189 l_189 X_189 e_189 N_189
                  unfold F0_189
                  refine Go.of (fun t k => XS.iload X_189.here hx rfl (hb hby at_189) rfl k) ?_
                  show Go p e below s _ _ _ (T_189.setTop (mkF m 191 #[.val (.int p0), .val (.long q1), .second, .val (.long q2), .second, .val (.long q3), .second, .val (.long q4), .second, .val (.long q5), .second, .val (.int v11_6c), .val (.int v12_40c), .val (.ref b1), .val (.int v14_131), .val (.ref b3), .val (.long (F1 v12_40c L_b1_131 [q1, q2, q3, q4, q5])), .second, .val (.long v18_189), .second, .unset] [(.int v11_6c)]))
                  refine Go.of (fun t k => XS.iconst X_189.here hx rfl (hb hby at_191) k) ?_
                  show Go p e below s _ _ _ (T_189.setTop (mkF m 192 #[.val (.int p0), .val (.long q1), .second, .val (.long q2), .second, .val (.long q3), .second, .val (.long q4), .second, .val (.long q5), .second, .val (.int v11_6c), .val (.int v12_40c), .val (.ref b1), .val (.int v14_131), .val (.ref b3), .val (.long (F1 v12_40c L_b1_131 [q1, q2, q3, q4, q5])), .second, .val (.long v18_189), .second, .unset] [(.int (2 : Int32)), (.int v11_6c)]))
                  refine Go.of (fun t k => XS.iand X_189.here hx rfl (hb hby at_192) rfl k) ?_
                  show Go p e below s _ _ _ (T_189.setTop (mkF m 193 #[.val (.int p0), .val (.long q1), .second, .val (.long q2), .second, .val (.long q3), .second, .val (.long q4), .second, .val (.long q5), .second, .val (.int v11_6c), .val (.int v12_40c), .val (.ref b1), .val (.int v14_131), .val (.ref b3), .val (.long (F1 v12_40c L_b1_131 [q1, q2, q3, q4, q5])), .second, .val (.long v18_189), .second, .unset] [(.int (v11_6c &&& (2 : Int32)))]))
                  have jn202 : ∀ (v18_202 : Int64) (T_202 : State) (l_202 : List Loc) (X_202 : Stand p l e room_1 s m #[(.int p0), (.long q1), (.long q2), (.long q3), (.long q4), (.long q5)] below meth c T_202 l_202 2 10) (e_202 : T_202.heap = h19) (N_202 : Fr n0 l_202), Go p e below s (QL (some (.int (F0_202 q1 q2 q3 q4 q5 v11_6c v12_40c L_b1_131 v18_202))) n0) room_1.cells room_1.slots (T_202.setTop (mkF m 202 #[.val (.int p0), .val (.long q1), .second, .val (.long q2), .second, .val (.long q3), .second, .val (.long q4), .second, .val (.long q5), .second, .val (.int v11_6c), .val (.int v12_40c), .val (.ref b1), .val (.int v14_131), .val (.ref b3), .val (.long (F1 v12_40c L_b1_131 [q1, q2, q3, q4, q5])), .second, .val (.long v18_202), .second, .unset] [])) := by
                    intro v18_202 T_202 l_202 X_202 e_202 N_202
                    unfold F0_202
                    refine Go.of (fun t k => XS.iload X_202.here hx rfl (hb hby at_202) rfl k) ?_
                    show Go p e below s _ _ _ (T_202.setTop (mkF m 204 #[.val (.int p0), .val (.long q1), .second, .val (.long q2), .second, .val (.long q3), .second, .val (.long q4), .second, .val (.long q5), .second, .val (.int v11_6c), .val (.int v12_40c), .val (.ref b1), .val (.int v14_131), .val (.ref b3), .val (.long (F1 v12_40c L_b1_131 [q1, q2, q3, q4, q5])), .second, .val (.long v18_202), .second, .unset] [(.int v11_6c)]))
                    refine Go.of (fun t k => XS.iconst X_202.here hx rfl (hb hby at_204) k) ?_
                    show Go p e below s _ _ _ (T_202.setTop (mkF m 205 #[.val (.int p0), .val (.long q1), .second, .val (.long q2), .second, .val (.long q3), .second, .val (.long q4), .second, .val (.long q5), .second, .val (.int v11_6c), .val (.int v12_40c), .val (.ref b1), .val (.int v14_131), .val (.ref b3), .val (.long (F1 v12_40c L_b1_131 [q1, q2, q3, q4, q5])), .second, .val (.long v18_202), .second, .unset] [(.int (4 : Int32)), (.int v11_6c)]))
                    refine Go.of (fun t k => XS.iand X_202.here hx rfl (hb hby at_205) rfl k) ?_
                    show Go p e below s _ _ _ (T_202.setTop (mkF m 206 #[.val (.int p0), .val (.long q1), .second, .val (.long q2), .second, .val (.long q3), .second, .val (.long q4), .second, .val (.long q5), .second, .val (.int v11_6c), .val (.int v12_40c), .val (.ref b1), .val (.int v14_131), .val (.ref b3), .val (.long (F1 v12_40c L_b1_131 [q1, q2, q3, q4, q5])), .second, .val (.long v18_202), .second, .unset] [(.int (v11_6c &&& (4 : Int32)))]))
                    have jn216 : ∀ (v18_216 : Int64) (T_216 : State) (l_216 : List Loc) (X_216 : Stand p l e room_1 s m #[(.int p0), (.long q1), (.long q2), (.long q3), (.long q4), (.long q5)] below meth c T_216 l_216 2 10) (e_216 : T_216.heap = h19) (N_216 : Fr n0 l_216), Go p e below s (QL (some (.int (F0_216 q1 q2 q3 q4 q5 v11_6c v12_40c L_b1_131 v18_216))) n0) room_1.cells room_1.slots (T_216.setTop (mkF m 216 #[.val (.int p0), .val (.long q1), .second, .val (.long q2), .second, .val (.long q3), .second, .val (.long q4), .second, .val (.long q5), .second, .val (.int v11_6c), .val (.int v12_40c), .val (.ref b1), .val (.int v14_131), .val (.ref b3), .val (.long (F1 v12_40c L_b1_131 [q1, q2, q3, q4, q5])), .second, .val (.long v18_216), .second, .unset] [])) := by
                      intro v18_216 T_216 l_216 X_216 e_216 N_216
                      unfold F0_216
                      refine Go.of (fun t k => XS.iload X_216.here hx rfl (hb hby at_216) rfl k) ?_
                      show Go p e below s _ _ _ (T_216.setTop (mkF m 218 #[.val (.int p0), .val (.long q1), .second, .val (.long q2), .second, .val (.long q3), .second, .val (.long q4), .second, .val (.long q5), .second, .val (.int v11_6c), .val (.int v12_40c), .val (.ref b1), .val (.int v14_131), .val (.ref b3), .val (.long (F1 v12_40c L_b1_131 [q1, q2, q3, q4, q5])), .second, .val (.long v18_216), .second, .unset] [(.int v11_6c)]))
                      refine Go.of (fun t k => XS.bipush X_216.here hx rfl (hb hby at_218) k) ?_
                      show Go p e below s _ _ _ (T_216.setTop (mkF m 220 #[.val (.int p0), .val (.long q1), .second, .val (.long q2), .second, .val (.long q3), .second, .val (.long q4), .second, .val (.long q5), .second, .val (.int v11_6c), .val (.int v12_40c), .val (.ref b1), .val (.int v14_131), .val (.ref b3), .val (.long (F1 v12_40c L_b1_131 [q1, q2, q3, q4, q5])), .second, .val (.long v18_216), .second, .unset] [(.int (8 : Int32)), (.int v11_6c)]))
                      refine Go.of (fun t k => XS.iand X_216.here hx rfl (hb hby at_220) rfl k) ?_
                      show Go p e below s _ _ _ (T_216.setTop (mkF m 221 #[.val (.int p0), .val (.long q1), .second, .val (.long q2), .second, .val (.long q3), .second, .val (.long q4), .second, .val (.long q5), .second, .val (.int v11_6c), .val (.int v12_40c), .val (.ref b1), .val (.int v14_131), .val (.ref b3), .val (.long (F1 v12_40c L_b1_131 [q1, q2, q3, q4, q5])), .second, .val (.long v18_216), .second, .unset] [(.int (v11_6c &&& (8 : Int32)))]))
                      have jn231 : ∀ (v18_231 : Int64) (T_231 : State) (l_231 : List Loc) (X_231 : Stand p l e room_1 s m #[(.int p0), (.long q1), (.long q2), (.long q3), (.long q4), (.long q5)] below meth c T_231 l_231 2 10) (e_231 : T_231.heap = h19) (N_231 : Fr n0 l_231), Go p e below s (QL (some (.int (F0_231 q1 q2 q3 q4 q5 v11_6c v12_40c L_b1_131 v18_231))) n0) room_1.cells room_1.slots (T_231.setTop (mkF m 231 #[.val (.int p0), .val (.long q1), .second, .val (.long q2), .second, .val (.long q3), .second, .val (.long q4), .second, .val (.long q5), .second, .val (.int v11_6c), .val (.int v12_40c), .val (.ref b1), .val (.int v14_131), .val (.ref b3), .val (.long (F1 v12_40c L_b1_131 [q1, q2, q3, q4, q5])), .second, .val (.long v18_231), .second, .unset] [])) := by
                        intro v18_231 T_231 l_231 X_231 e_231 N_231
                        unfold F0_231
                        refine Go.of (fun t k => XS.iload X_231.here hx rfl (hb hby at_231) rfl k) ?_
                        show Go p e below s _ _ _ (T_231.setTop (mkF m 233 #[.val (.int p0), .val (.long q1), .second, .val (.long q2), .second, .val (.long q3), .second, .val (.long q4), .second, .val (.long q5), .second, .val (.int v11_6c), .val (.int v12_40c), .val (.ref b1), .val (.int v14_131), .val (.ref b3), .val (.long (F1 v12_40c L_b1_131 [q1, q2, q3, q4, q5])), .second, .val (.long v18_231), .second, .unset] [(.int v11_6c)]))
                        refine Go.of (fun t k => XS.bipush X_231.here hx rfl (hb hby at_233) k) ?_
                        show Go p e below s _ _ _ (T_231.setTop (mkF m 235 #[.val (.int p0), .val (.long q1), .second, .val (.long q2), .second, .val (.long q3), .second, .val (.long q4), .second, .val (.long q5), .second, .val (.int v11_6c), .val (.int v12_40c), .val (.ref b1), .val (.int v14_131), .val (.ref b3), .val (.long (F1 v12_40c L_b1_131 [q1, q2, q3, q4, q5])), .second, .val (.long v18_231), .second, .unset] [(.int (16 : Int32)), (.int v11_6c)]))
                        refine Go.of (fun t k => XS.iand X_231.here hx rfl (hb hby at_235) rfl k) ?_
                        show Go p e below s _ _ _ (T_231.setTop (mkF m 236 #[.val (.int p0), .val (.long q1), .second, .val (.long q2), .second, .val (.long q3), .second, .val (.long q4), .second, .val (.long q5), .second, .val (.int v11_6c), .val (.int v12_40c), .val (.ref b1), .val (.int v14_131), .val (.ref b3), .val (.long (F1 v12_40c L_b1_131 [q1, q2, q3, q4, q5])), .second, .val (.long v18_231), .second, .unset] [(.int (v11_6c &&& (16 : Int32)))]))
                        have jn246 : ∀ (v18_246 : Int64) (T_246 : State) (l_246 : List Loc) (X_246 : Stand p l e room_1 s m #[(.int p0), (.long q1), (.long q2), (.long q3), (.long q4), (.long q5)] below meth c T_246 l_246 2 10) (e_246 : T_246.heap = h19) (N_246 : Fr n0 l_246), Go p e below s (QL (some (.int (F0_246 q1 q2 q3 q4 q5 v12_40c L_b1_131 v18_246))) n0) room_1.cells room_1.slots (T_246.setTop (mkF m 246 #[.val (.int p0), .val (.long q1), .second, .val (.long q2), .second, .val (.long q3), .second, .val (.long q4), .second, .val (.long q5), .second, .val (.int v11_6c), .val (.int v12_40c), .val (.ref b1), .val (.int v14_131), .val (.ref b3), .val (.long (F1 v12_40c L_b1_131 [q1, q2, q3, q4, q5])), .second, .val (.long v18_246), .second, .unset] [])) := by
                          intro v18_246 T_246 l_246 X_246 e_246 N_246
                          unfold F0_246
                          refine Go.of (fun t k => XS.aload X_246.here hx rfl (hb hby at_246) rfl rfl k) ?_
                          show Go p e below s _ _ _ (T_246.setTop (mkF m 248 #[.val (.int p0), .val (.long q1), .second, .val (.long q2), .second, .val (.long q3), .second, .val (.long q4), .second, .val (.long q5), .second, .val (.int v11_6c), .val (.int v12_40c), .val (.ref b1), .val (.int v14_131), .val (.ref b3), .val (.long (F1 v12_40c L_b1_131 [q1, q2, q3, q4, q5])), .second, .val (.long v18_246), .second, .unset] [(.ref b3)]))
                          refine Go.of (fun t k => XS.iconst X_246.here hx rfl (hb hby at_248) k) ?_
                          show Go p e below s _ _ _ (T_246.setTop (mkF m 249 #[.val (.int p0), .val (.long q1), .second, .val (.long q2), .second, .val (.long q3), .second, .val (.long q4), .second, .val (.long q5), .second, .val (.int v11_6c), .val (.int v12_40c), .val (.ref b1), .val (.int v14_131), .val (.ref b3), .val (.long (F1 v12_40c L_b1_131 [q1, q2, q3, q4, q5])), .second, .val (.long v18_246), .second, .unset] [(.int (0 : Int32)), (.ref b3)]))
                          obtain ⟨cl23, Ar23, q23, S23, M23, H23, G23⟩ := id f20
                          have hin23 : ¬ ((0 : Int32) < 0 ∨ cl23.slots.size ≤ ((0 : Int32)).toNatClampNeg) := (inb_of S23 ⟨by decide, by decide⟩)
                          refine Go.of (X_246.laload hx (j := (0 : Int32)) (v := (.long q1)) (by rw [e_246]; exact Ar23.1) (State.isArrayOf_alike hZ.alike Ar23.2.1) Ar23.2.2 hin23 (Has.at H23 hin23 rfl) (g := (mkF m 249 #[.val (.int p0), .val (.long q1), .second, .val (.long q2), .second, .val (.long q3), .second, .val (.long q4), .second, .val (.long q5), .second, .val (.int v11_6c), .val (.int v12_40c), .val (.ref b1), .val (.int v14_131), .val (.ref b3), .val (.long (F1 v12_40c L_b1_131 [q1, q2, q3, q4, q5])), .second, .val (.long v18_246), .second, .unset] [(.int (0 : Int32)), (.ref b3)])) rfl rfl (hb hby at_249)) ?_
                          show Go p e below s _ _ _ (T_246.setTop (mkF m 250 #[.val (.int p0), .val (.long q1), .second, .val (.long q2), .second, .val (.long q3), .second, .val (.long q4), .second, .val (.long q5), .second, .val (.int v11_6c), .val (.int v12_40c), .val (.ref b1), .val (.int v14_131), .val (.ref b3), .val (.long (F1 v12_40c L_b1_131 [q1, q2, q3, q4, q5])), .second, .val (.long v18_246), .second, .unset] [(.long q1)]))
                          refine Go.of (fun t k => XS.lloadN X_246.here hx rfl (hb hby at_250) rfl k) ?_
                          show Go p e below s _ _ _ (T_246.setTop (mkF m 251 #[.val (.int p0), .val (.long q1), .second, .val (.long q2), .second, .val (.long q3), .second, .val (.long q4), .second, .val (.long q5), .second, .val (.int v11_6c), .val (.int v12_40c), .val (.ref b1), .val (.int v14_131), .val (.ref b3), .val (.long (F1 v12_40c L_b1_131 [q1, q2, q3, q4, q5])), .second, .val (.long v18_246), .second, .unset] [(.long q1), (.long q1)]))
                          refine Go.of (fun t k => XS.lcmp X_246.here hx rfl (hb hby at_251) rfl k) ?_
                          show Go p e below s _ _ _ (T_246.setTop (mkF m 252 #[.val (.int p0), .val (.long q1), .second, .val (.long q2), .second, .val (.long q3), .second, .val (.long q4), .second, .val (.long q5), .second, .val (.int v11_6c), .val (.int v12_40c), .val (.ref b1), .val (.int v14_131), .val (.ref b3), .val (.long (F1 v12_40c L_b1_131 [q1, q2, q3, q4, q5])), .second, .val (.long v18_246), .second, .unset] [(.int (lcmpW q1 q1))]))
                          have jn299 : ∀ (w0_299 : Int32) (T_299 : State) (l_299 : List Loc) (X_299 : Stand p l e room_1 s m #[(.int p0), (.long q1), (.long q2), (.long q3), (.long q4), (.long q5)] below meth c T_299 l_299 2 10) (e_299 : T_299.heap = h19) (N_299 : Fr n0 l_299), Go p e below s (QL (some (.int (F0_299 q1 q2 q3 q4 q5 v12_40c L_b1_131 v18_246 w0_299))) n0) room_1.cells room_1.slots (T_299.setTop (mkF m 299 #[.val (.int p0), .val (.long q1), .second, .val (.long q2), .second, .val (.long q3), .second, .val (.long q4), .second, .val (.long q5), .second, .val (.int v11_6c), .val (.int v12_40c), .val (.ref b1), .val (.int v14_131), .val (.ref b3), .val (.long (F1 v12_40c L_b1_131 [q1, q2, q3, q4, q5])), .second, .val (.long v18_246), .second, .unset] [(.int w0_299)])) := by
                            intro w0_299 T_299 l_299 X_299 e_299 N_299
                            unfold F0_299
                            refine Go.of (fun t k => XS.istore X_299.here hx rfl (hb hby at_299) rfl (l' := #[.val (.int p0), .val (.long q1), .second, .val (.long q2), .second, .val (.long q3), .second, .val (.long q4), .second, .val (.long q5), .second, .val (.int v11_6c), .val (.int v12_40c), .val (.ref b1), .val (.int v14_131), .val (.ref b3), .val (.long (F1 v12_40c L_b1_131 [q1, q2, q3, q4, q5])), .second, .val (.long v18_246), .second, .val (.int w0_299)]) rfl k) ?_
                            show Go p e below s _ _ _ (T_299.setTop (mkF m 301 #[.val (.int p0), .val (.long q1), .second, .val (.long q2), .second, .val (.long q3), .second, .val (.long q4), .second, .val (.long q5), .second, .val (.int v11_6c), .val (.int v12_40c), .val (.ref b1), .val (.int v14_131), .val (.ref b3), .val (.long (F1 v12_40c L_b1_131 [q1, q2, q3, q4, q5])), .second, .val (.long v18_246), .second, .val (.int w0_299)] []))
                            refine Go.of (fun t k => XS.lload X_299.here hx rfl (hb hby at_301) rfl k) ?_
                            show Go p e below s _ _ _ (T_299.setTop (mkF m 303 #[.val (.int p0), .val (.long q1), .second, .val (.long q2), .second, .val (.long q3), .second, .val (.long q4), .second, .val (.long q5), .second, .val (.int v11_6c), .val (.int v12_40c), .val (.ref b1), .val (.int v14_131), .val (.ref b3), .val (.long (F1 v12_40c L_b1_131 [q1, q2, q3, q4, q5])), .second, .val (.long v18_246), .second, .val (.int w0_299)] [(.long (F1 v12_40c L_b1_131 [q1, q2, q3, q4, q5]))]))
                            refine Go.of (fun t k => XS.lload X_299.here hx rfl (hb hby at_303) rfl k) ?_
                            show Go p e below s _ _ _ (T_299.setTop (mkF m 305 #[.val (.int p0), .val (.long q1), .second, .val (.long q2), .second, .val (.long q3), .second, .val (.long q4), .second, .val (.long q5), .second, .val (.int v11_6c), .val (.int v12_40c), .val (.ref b1), .val (.int v14_131), .val (.ref b3), .val (.long (F1 v12_40c L_b1_131 [q1, q2, q3, q4, q5])), .second, .val (.long v18_246), .second, .val (.int w0_299)] [(.long v18_246), (.long (F1 v12_40c L_b1_131 [q1, q2, q3, q4, q5]))]))
                            refine Go.of (fun t k => XS.lcmp X_299.here hx rfl (hb hby at_305) rfl k) ?_
                            show Go p e below s _ _ _ (T_299.setTop (mkF m 306 #[.val (.int p0), .val (.long q1), .second, .val (.long q2), .second, .val (.long q3), .second, .val (.long q4), .second, .val (.long q5), .second, .val (.int v11_6c), .val (.int v12_40c), .val (.ref b1), .val (.int v14_131), .val (.ref b3), .val (.long (F1 v12_40c L_b1_131 [q1, q2, q3, q4, q5])), .second, .val (.long v18_246), .second, .val (.int w0_299)] [(.int (lcmpW (F1 v12_40c L_b1_131 [q1, q2, q3, q4, q5]) v18_246))]))
                            by_cases hc306_24 : (F1 v12_40c L_b1_131 [q1, q2, q3, q4, q5]) = v18_246
                            · rewrite [if_pos hc306_24]
                              refine Go.of (fun t k => XS.ifNo X_299.here hx rfl (hb hby at_306) rfl ((if0 _ _).trans (teq ((lw_eq (F1 v12_40c L_b1_131 [q1, q2, q3, q4, q5]) v18_246).mpr hc306_24)).2) k) ?_
                              show Go p e below s _ _ _ (T_299.setTop (mkF m 309 #[.val (.int p0), .val (.long q1), .second, .val (.long q2), .second, .val (.long q3), .second, .val (.long q4), .second, .val (.long q5), .second, .val (.int v11_6c), .val (.int v12_40c), .val (.ref b1), .val (.int v14_131), .val (.ref b3), .val (.long (F1 v12_40c L_b1_131 [q1, q2, q3, q4, q5])), .second, .val (.long v18_246), .second, .val (.int w0_299)] []))
                              refine Go.of (fun t k => XS.iload X_299.here hx rfl (hb hby at_309) rfl k) ?_
                              show Go p e below s _ _ _ (T_299.setTop (mkF m 311 #[.val (.int p0), .val (.long q1), .second, .val (.long q2), .second, .val (.long q3), .second, .val (.long q4), .second, .val (.long q5), .second, .val (.int v11_6c), .val (.int v12_40c), .val (.ref b1), .val (.int v14_131), .val (.ref b3), .val (.long (F1 v12_40c L_b1_131 [q1, q2, q3, q4, q5])), .second, .val (.long v18_246), .second, .val (.int w0_299)] [(.int w0_299)]))
                              by_cases hc311_25 : w0_299 = (0 : Int32)
                              · rewrite [if_pos hc311_25]
                                refine Go.of (fun t k => XS.ifYes X_299.here hx rfl (pc0 := 311) (pc' := 318) rfl (hb hby at_311) rfl ((if0 _ _).trans (teq hc311_25).1) (by decide) (by decide) k) ?_
                                show Go p e below s _ _ _ (T_299.setTop (mkF m 318 #[.val (.int p0), .val (.long q1), .second, .val (.long q2), .second, .val (.long q3), .second, .val (.long q4), .second, .val (.long q5), .second, .val (.int v11_6c), .val (.int v12_40c), .val (.ref b1), .val (.int v14_131), .val (.ref b3), .val (.long (F1 v12_40c L_b1_131 [q1, q2, q3, q4, q5])), .second, .val (.long v18_246), .second, .val (.int w0_299)] []))
                                refine Go.of (fun t k => XS.iconst X_299.here hx rfl (hb hby at_318) k) ?_
                                show Go p e below s _ _ _ (T_299.setTop (mkF m 319 #[.val (.int p0), .val (.long q1), .second, .val (.long q2), .second, .val (.long q3), .second, .val (.long q4), .second, .val (.long q5), .second, .val (.int v11_6c), .val (.int v12_40c), .val (.ref b1), .val (.int v14_131), .val (.ref b3), .val (.long (F1 v12_40c L_b1_131 [q1, q2, q3, q4, q5])), .second, .val (.long v18_246), .second, .val (.int w0_299)] [(.int (0 : Int32))]))
                                exact Go.ret X_299 (some (.int (0 : Int32))) (fun h => by rw [Bd.returns] at h; cases h) hlk ⟨rfl, N_299⟩ (by decide) (by decide) (fun fs hr => (retN X_299 hx (t := .boolean) Bd.returns (by simp) (hb hby at_319) hr))
                              · rewrite [if_neg hc311_25]
                                refine Go.of (fun t k => XS.ifNo X_299.here hx rfl (hb hby at_311) rfl ((if0 _ _).trans (feq hc311_25).1) k) ?_
                                show Go p e below s _ _ _ (T_299.setTop (mkF m 314 #[.val (.int p0), .val (.long q1), .second, .val (.long q2), .second, .val (.long q3), .second, .val (.long q4), .second, .val (.long q5), .second, .val (.int v11_6c), .val (.int v12_40c), .val (.ref b1), .val (.int v14_131), .val (.ref b3), .val (.long (F1 v12_40c L_b1_131 [q1, q2, q3, q4, q5])), .second, .val (.long v18_246), .second, .val (.int w0_299)] []))
                                refine Go.of (fun t k => XS.iconst X_299.here hx rfl (hb hby at_314) k) ?_
                                show Go p e below s _ _ _ (T_299.setTop (mkF m 315 #[.val (.int p0), .val (.long q1), .second, .val (.long q2), .second, .val (.long q3), .second, .val (.long q4), .second, .val (.long q5), .second, .val (.int v11_6c), .val (.int v12_40c), .val (.ref b1), .val (.int v14_131), .val (.ref b3), .val (.long (F1 v12_40c L_b1_131 [q1, q2, q3, q4, q5])), .second, .val (.long v18_246), .second, .val (.int w0_299)] [(.int (1 : Int32))]))
                                refine Go.of (fun t k => XS.goto X_299.here hx rfl (pc0 := 315) (pc' := 319) rfl (hb hby at_315) (by decide) (by decide) k) ?_
                                show Go p e below s _ _ _ (T_299.setTop (mkF m 319 #[.val (.int p0), .val (.long q1), .second, .val (.long q2), .second, .val (.long q3), .second, .val (.long q4), .second, .val (.long q5), .second, .val (.int v11_6c), .val (.int v12_40c), .val (.ref b1), .val (.int v14_131), .val (.ref b3), .val (.long (F1 v12_40c L_b1_131 [q1, q2, q3, q4, q5])), .second, .val (.long v18_246), .second, .val (.int w0_299)] [(.int (1 : Int32))]))
                                exact Go.ret X_299 (some (.int (1 : Int32))) (fun h => by rw [Bd.returns] at h; cases h) hlk ⟨rfl, N_299⟩ (by decide) (by decide) (fun fs hr => (retN X_299 hx (t := .boolean) Bd.returns (by simp) (hb hby at_319) hr))
                            · rewrite [if_neg hc306_24]
                              refine Go.of (fun t k => XS.ifYes X_299.here hx rfl (pc0 := 306) (pc' := 318) rfl (hb hby at_306) rfl ((if0 _ _).trans (feq (mt (lw_eq (F1 v12_40c L_b1_131 [q1, q2, q3, q4, q5]) v18_246).mp hc306_24)).2) (by decide) (by decide) k) ?_
                              show Go p e below s _ _ _ (T_299.setTop (mkF m 318 #[.val (.int p0), .val (.long q1), .second, .val (.long q2), .second, .val (.long q3), .second, .val (.long q4), .second, .val (.long q5), .second, .val (.int v11_6c), .val (.int v12_40c), .val (.ref b1), .val (.int v14_131), .val (.ref b3), .val (.long (F1 v12_40c L_b1_131 [q1, q2, q3, q4, q5])), .second, .val (.long v18_246), .second, .val (.int w0_299)] []))
                              refine Go.of (fun t k => XS.iconst X_299.here hx rfl (hb hby at_318) k) ?_
                              show Go p e below s _ _ _ (T_299.setTop (mkF m 319 #[.val (.int p0), .val (.long q1), .second, .val (.long q2), .second, .val (.long q3), .second, .val (.long q4), .second, .val (.long q5), .second, .val (.int v11_6c), .val (.int v12_40c), .val (.ref b1), .val (.int v14_131), .val (.ref b3), .val (.long (F1 v12_40c L_b1_131 [q1, q2, q3, q4, q5])), .second, .val (.long v18_246), .second, .val (.int w0_299)] [(.int (0 : Int32))]))
                              exact Go.ret X_299 (some (.int (0 : Int32))) (fun h => by rw [Bd.returns] at h; cases h) hlk ⟨rfl, N_299⟩ (by decide) (by decide) (fun fs hr => (retN X_299 hx (t := .boolean) Bd.returns (by simp) (hb hby at_319) hr))
                          have jn298 : ∀ (T_298 : State) (l_298 : List Loc) (X_298 : Stand p l e room_1 s m #[(.int p0), (.long q1), (.long q2), (.long q3), (.long q4), (.long q5)] below meth c T_298 l_298 2 10) (e_298 : T_298.heap = h19) (N_298 : Fr n0 l_298), Go p e below s (QL (some (.int (F0_298 q1 q2 q3 q4 q5 v12_40c L_b1_131 v18_246))) n0) room_1.cells room_1.slots (T_298.setTop (mkF m 298 #[.val (.int p0), .val (.long q1), .second, .val (.long q2), .second, .val (.long q3), .second, .val (.long q4), .second, .val (.long q5), .second, .val (.int v11_6c), .val (.int v12_40c), .val (.ref b1), .val (.int v14_131), .val (.ref b3), .val (.long (F1 v12_40c L_b1_131 [q1, q2, q3, q4, q5])), .second, .val (.long v18_246), .second, .unset] [])) := by
                            intro T_298 l_298 X_298 e_298 N_298
                            unfold F0_298
                            refine Go.of (fun t k => XS.iconst X_298.here hx rfl (hb hby at_298) k) ?_
                            show Go p e below s _ _ _ (T_298.setTop (mkF m 299 #[.val (.int p0), .val (.long q1), .second, .val (.long q2), .second, .val (.long q3), .second, .val (.long q4), .second, .val (.long q5), .second, .val (.int v11_6c), .val (.int v12_40c), .val (.ref b1), .val (.int v14_131), .val (.ref b3), .val (.long (F1 v12_40c L_b1_131 [q1, q2, q3, q4, q5])), .second, .val (.long v18_246), .second, .unset] [(.int (0 : Int32))]))
                            exact jn299 (0 : Int32)  T_298 _ X_298 e_298 N_298  
                          by_cases hc252_26 : q1 = q1
                          · rewrite [if_pos hc252_26]
                            refine Go.of (fun t k => XS.ifNo X_246.here hx rfl (hb hby at_252) rfl ((if0 _ _).trans (teq ((lw_eq q1 q1).mpr hc252_26)).2) k) ?_
                            show Go p e below s _ _ _ (T_246.setTop (mkF m 255 #[.val (.int p0), .val (.long q1), .second, .val (.long q2), .second, .val (.long q3), .second, .val (.long q4), .second, .val (.long q5), .second, .val (.int v11_6c), .val (.int v12_40c), .val (.ref b1), .val (.int v14_131), .val (.ref b3), .val (.long (F1 v12_40c L_b1_131 [q1, q2, q3, q4, q5])), .second, .val (.long v18_246), .second, .unset] []))
                            refine Go.of (fun t k => XS.aload X_246.here hx rfl (hb hby at_255) rfl rfl k) ?_
                            show Go p e below s _ _ _ (T_246.setTop (mkF m 257 #[.val (.int p0), .val (.long q1), .second, .val (.long q2), .second, .val (.long q3), .second, .val (.long q4), .second, .val (.long q5), .second, .val (.int v11_6c), .val (.int v12_40c), .val (.ref b1), .val (.int v14_131), .val (.ref b3), .val (.long (F1 v12_40c L_b1_131 [q1, q2, q3, q4, q5])), .second, .val (.long v18_246), .second, .unset] [(.ref b3)]))
                            refine Go.of (fun t k => XS.iconst X_246.here hx rfl (hb hby at_257) k) ?_
                            show Go p e below s _ _ _ (T_246.setTop (mkF m 258 #[.val (.int p0), .val (.long q1), .second, .val (.long q2), .second, .val (.long q3), .second, .val (.long q4), .second, .val (.long q5), .second, .val (.int v11_6c), .val (.int v12_40c), .val (.ref b1), .val (.int v14_131), .val (.ref b3), .val (.long (F1 v12_40c L_b1_131 [q1, q2, q3, q4, q5])), .second, .val (.long v18_246), .second, .unset] [(.int (1 : Int32)), (.ref b3)]))
                            obtain ⟨cl27, Ar27, q27, S27, M27, H27, G27⟩ := id f20
                            have hin27 : ¬ ((1 : Int32) < 0 ∨ cl27.slots.size ≤ ((1 : Int32)).toNatClampNeg) := (inb_of S27 ⟨by decide, by decide⟩)
                            refine Go.of (X_246.laload hx (j := (1 : Int32)) (v := (.long q2)) (by rw [e_246]; exact Ar27.1) (State.isArrayOf_alike hZ.alike Ar27.2.1) Ar27.2.2 hin27 (Has.at H27 hin27 rfl) (g := (mkF m 258 #[.val (.int p0), .val (.long q1), .second, .val (.long q2), .second, .val (.long q3), .second, .val (.long q4), .second, .val (.long q5), .second, .val (.int v11_6c), .val (.int v12_40c), .val (.ref b1), .val (.int v14_131), .val (.ref b3), .val (.long (F1 v12_40c L_b1_131 [q1, q2, q3, q4, q5])), .second, .val (.long v18_246), .second, .unset] [(.int (1 : Int32)), (.ref b3)])) rfl rfl (hb hby at_258)) ?_
                            show Go p e below s _ _ _ (T_246.setTop (mkF m 259 #[.val (.int p0), .val (.long q1), .second, .val (.long q2), .second, .val (.long q3), .second, .val (.long q4), .second, .val (.long q5), .second, .val (.int v11_6c), .val (.int v12_40c), .val (.ref b1), .val (.int v14_131), .val (.ref b3), .val (.long (F1 v12_40c L_b1_131 [q1, q2, q3, q4, q5])), .second, .val (.long v18_246), .second, .unset] [(.long q2)]))
                            refine Go.of (fun t k => XS.lloadN X_246.here hx rfl (hb hby at_259) rfl k) ?_
                            show Go p e below s _ _ _ (T_246.setTop (mkF m 260 #[.val (.int p0), .val (.long q1), .second, .val (.long q2), .second, .val (.long q3), .second, .val (.long q4), .second, .val (.long q5), .second, .val (.int v11_6c), .val (.int v12_40c), .val (.ref b1), .val (.int v14_131), .val (.ref b3), .val (.long (F1 v12_40c L_b1_131 [q1, q2, q3, q4, q5])), .second, .val (.long v18_246), .second, .unset] [(.long q2), (.long q2)]))
                            refine Go.of (fun t k => XS.lcmp X_246.here hx rfl (hb hby at_260) rfl k) ?_
                            show Go p e below s _ _ _ (T_246.setTop (mkF m 261 #[.val (.int p0), .val (.long q1), .second, .val (.long q2), .second, .val (.long q3), .second, .val (.long q4), .second, .val (.long q5), .second, .val (.int v11_6c), .val (.int v12_40c), .val (.ref b1), .val (.int v14_131), .val (.ref b3), .val (.long (F1 v12_40c L_b1_131 [q1, q2, q3, q4, q5])), .second, .val (.long v18_246), .second, .unset] [(.int (lcmpW q2 q2))]))
                            by_cases hc261_28 : q2 = q2
                            · rewrite [if_pos hc261_28]
                              refine Go.of (fun t k => XS.ifNo X_246.here hx rfl (hb hby at_261) rfl ((if0 _ _).trans (teq ((lw_eq q2 q2).mpr hc261_28)).2) k) ?_
                              show Go p e below s _ _ _ (T_246.setTop (mkF m 264 #[.val (.int p0), .val (.long q1), .second, .val (.long q2), .second, .val (.long q3), .second, .val (.long q4), .second, .val (.long q5), .second, .val (.int v11_6c), .val (.int v12_40c), .val (.ref b1), .val (.int v14_131), .val (.ref b3), .val (.long (F1 v12_40c L_b1_131 [q1, q2, q3, q4, q5])), .second, .val (.long v18_246), .second, .unset] []))
                              refine Go.of (fun t k => XS.aload X_246.here hx rfl (hb hby at_264) rfl rfl k) ?_
                              show Go p e below s _ _ _ (T_246.setTop (mkF m 266 #[.val (.int p0), .val (.long q1), .second, .val (.long q2), .second, .val (.long q3), .second, .val (.long q4), .second, .val (.long q5), .second, .val (.int v11_6c), .val (.int v12_40c), .val (.ref b1), .val (.int v14_131), .val (.ref b3), .val (.long (F1 v12_40c L_b1_131 [q1, q2, q3, q4, q5])), .second, .val (.long v18_246), .second, .unset] [(.ref b3)]))
                              refine Go.of (fun t k => XS.iconst X_246.here hx rfl (hb hby at_266) k) ?_
                              show Go p e below s _ _ _ (T_246.setTop (mkF m 267 #[.val (.int p0), .val (.long q1), .second, .val (.long q2), .second, .val (.long q3), .second, .val (.long q4), .second, .val (.long q5), .second, .val (.int v11_6c), .val (.int v12_40c), .val (.ref b1), .val (.int v14_131), .val (.ref b3), .val (.long (F1 v12_40c L_b1_131 [q1, q2, q3, q4, q5])), .second, .val (.long v18_246), .second, .unset] [(.int (2 : Int32)), (.ref b3)]))
                              obtain ⟨cl29, Ar29, q29, S29, M29, H29, G29⟩ := id f20
                              have hin29 : ¬ ((2 : Int32) < 0 ∨ cl29.slots.size ≤ ((2 : Int32)).toNatClampNeg) := (inb_of S29 ⟨by decide, by decide⟩)
                              refine Go.of (X_246.laload hx (j := (2 : Int32)) (v := (.long q3)) (by rw [e_246]; exact Ar29.1) (State.isArrayOf_alike hZ.alike Ar29.2.1) Ar29.2.2 hin29 (Has.at H29 hin29 rfl) (g := (mkF m 267 #[.val (.int p0), .val (.long q1), .second, .val (.long q2), .second, .val (.long q3), .second, .val (.long q4), .second, .val (.long q5), .second, .val (.int v11_6c), .val (.int v12_40c), .val (.ref b1), .val (.int v14_131), .val (.ref b3), .val (.long (F1 v12_40c L_b1_131 [q1, q2, q3, q4, q5])), .second, .val (.long v18_246), .second, .unset] [(.int (2 : Int32)), (.ref b3)])) rfl rfl (hb hby at_267)) ?_
                              show Go p e below s _ _ _ (T_246.setTop (mkF m 268 #[.val (.int p0), .val (.long q1), .second, .val (.long q2), .second, .val (.long q3), .second, .val (.long q4), .second, .val (.long q5), .second, .val (.int v11_6c), .val (.int v12_40c), .val (.ref b1), .val (.int v14_131), .val (.ref b3), .val (.long (F1 v12_40c L_b1_131 [q1, q2, q3, q4, q5])), .second, .val (.long v18_246), .second, .unset] [(.long q3)]))
                              refine Go.of (fun t k => XS.lload X_246.here hx rfl (hb hby at_268) rfl k) ?_
                              show Go p e below s _ _ _ (T_246.setTop (mkF m 270 #[.val (.int p0), .val (.long q1), .second, .val (.long q2), .second, .val (.long q3), .second, .val (.long q4), .second, .val (.long q5), .second, .val (.int v11_6c), .val (.int v12_40c), .val (.ref b1), .val (.int v14_131), .val (.ref b3), .val (.long (F1 v12_40c L_b1_131 [q1, q2, q3, q4, q5])), .second, .val (.long v18_246), .second, .unset] [(.long q3), (.long q3)]))
                              refine Go.of (fun t k => XS.lcmp X_246.here hx rfl (hb hby at_270) rfl k) ?_
                              show Go p e below s _ _ _ (T_246.setTop (mkF m 271 #[.val (.int p0), .val (.long q1), .second, .val (.long q2), .second, .val (.long q3), .second, .val (.long q4), .second, .val (.long q5), .second, .val (.int v11_6c), .val (.int v12_40c), .val (.ref b1), .val (.int v14_131), .val (.ref b3), .val (.long (F1 v12_40c L_b1_131 [q1, q2, q3, q4, q5])), .second, .val (.long v18_246), .second, .unset] [(.int (lcmpW q3 q3))]))
                              by_cases hc271_30 : q3 = q3
                              · rewrite [if_pos hc271_30]
                                refine Go.of (fun t k => XS.ifNo X_246.here hx rfl (hb hby at_271) rfl ((if0 _ _).trans (teq ((lw_eq q3 q3).mpr hc271_30)).2) k) ?_
                                show Go p e below s _ _ _ (T_246.setTop (mkF m 274 #[.val (.int p0), .val (.long q1), .second, .val (.long q2), .second, .val (.long q3), .second, .val (.long q4), .second, .val (.long q5), .second, .val (.int v11_6c), .val (.int v12_40c), .val (.ref b1), .val (.int v14_131), .val (.ref b3), .val (.long (F1 v12_40c L_b1_131 [q1, q2, q3, q4, q5])), .second, .val (.long v18_246), .second, .unset] []))
                                refine Go.of (fun t k => XS.aload X_246.here hx rfl (hb hby at_274) rfl rfl k) ?_
                                show Go p e below s _ _ _ (T_246.setTop (mkF m 276 #[.val (.int p0), .val (.long q1), .second, .val (.long q2), .second, .val (.long q3), .second, .val (.long q4), .second, .val (.long q5), .second, .val (.int v11_6c), .val (.int v12_40c), .val (.ref b1), .val (.int v14_131), .val (.ref b3), .val (.long (F1 v12_40c L_b1_131 [q1, q2, q3, q4, q5])), .second, .val (.long v18_246), .second, .unset] [(.ref b3)]))
                                refine Go.of (fun t k => XS.iconst X_246.here hx rfl (hb hby at_276) k) ?_
                                show Go p e below s _ _ _ (T_246.setTop (mkF m 277 #[.val (.int p0), .val (.long q1), .second, .val (.long q2), .second, .val (.long q3), .second, .val (.long q4), .second, .val (.long q5), .second, .val (.int v11_6c), .val (.int v12_40c), .val (.ref b1), .val (.int v14_131), .val (.ref b3), .val (.long (F1 v12_40c L_b1_131 [q1, q2, q3, q4, q5])), .second, .val (.long v18_246), .second, .unset] [(.int (3 : Int32)), (.ref b3)]))
                                obtain ⟨cl31, Ar31, q31, S31, M31, H31, G31⟩ := id f20
                                have hin31 : ¬ ((3 : Int32) < 0 ∨ cl31.slots.size ≤ ((3 : Int32)).toNatClampNeg) := (inb_of S31 ⟨by decide, by decide⟩)
                                refine Go.of (X_246.laload hx (j := (3 : Int32)) (v := (.long q4)) (by rw [e_246]; exact Ar31.1) (State.isArrayOf_alike hZ.alike Ar31.2.1) Ar31.2.2 hin31 (Has.at H31 hin31 rfl) (g := (mkF m 277 #[.val (.int p0), .val (.long q1), .second, .val (.long q2), .second, .val (.long q3), .second, .val (.long q4), .second, .val (.long q5), .second, .val (.int v11_6c), .val (.int v12_40c), .val (.ref b1), .val (.int v14_131), .val (.ref b3), .val (.long (F1 v12_40c L_b1_131 [q1, q2, q3, q4, q5])), .second, .val (.long v18_246), .second, .unset] [(.int (3 : Int32)), (.ref b3)])) rfl rfl (hb hby at_277)) ?_
                                show Go p e below s _ _ _ (T_246.setTop (mkF m 278 #[.val (.int p0), .val (.long q1), .second, .val (.long q2), .second, .val (.long q3), .second, .val (.long q4), .second, .val (.long q5), .second, .val (.int v11_6c), .val (.int v12_40c), .val (.ref b1), .val (.int v14_131), .val (.ref b3), .val (.long (F1 v12_40c L_b1_131 [q1, q2, q3, q4, q5])), .second, .val (.long v18_246), .second, .unset] [(.long q4)]))
                                refine Go.of (fun t k => XS.lload X_246.here hx rfl (hb hby at_278) rfl k) ?_
                                show Go p e below s _ _ _ (T_246.setTop (mkF m 280 #[.val (.int p0), .val (.long q1), .second, .val (.long q2), .second, .val (.long q3), .second, .val (.long q4), .second, .val (.long q5), .second, .val (.int v11_6c), .val (.int v12_40c), .val (.ref b1), .val (.int v14_131), .val (.ref b3), .val (.long (F1 v12_40c L_b1_131 [q1, q2, q3, q4, q5])), .second, .val (.long v18_246), .second, .unset] [(.long q4), (.long q4)]))
                                refine Go.of (fun t k => XS.lcmp X_246.here hx rfl (hb hby at_280) rfl k) ?_
                                show Go p e below s _ _ _ (T_246.setTop (mkF m 281 #[.val (.int p0), .val (.long q1), .second, .val (.long q2), .second, .val (.long q3), .second, .val (.long q4), .second, .val (.long q5), .second, .val (.int v11_6c), .val (.int v12_40c), .val (.ref b1), .val (.int v14_131), .val (.ref b3), .val (.long (F1 v12_40c L_b1_131 [q1, q2, q3, q4, q5])), .second, .val (.long v18_246), .second, .unset] [(.int (lcmpW q4 q4))]))
                                by_cases hc281_32 : q4 = q4
                                · rewrite [if_pos hc281_32]
                                  refine Go.of (fun t k => XS.ifNo X_246.here hx rfl (hb hby at_281) rfl ((if0 _ _).trans (teq ((lw_eq q4 q4).mpr hc281_32)).2) k) ?_
                                  show Go p e below s _ _ _ (T_246.setTop (mkF m 284 #[.val (.int p0), .val (.long q1), .second, .val (.long q2), .second, .val (.long q3), .second, .val (.long q4), .second, .val (.long q5), .second, .val (.int v11_6c), .val (.int v12_40c), .val (.ref b1), .val (.int v14_131), .val (.ref b3), .val (.long (F1 v12_40c L_b1_131 [q1, q2, q3, q4, q5])), .second, .val (.long v18_246), .second, .unset] []))
                                  refine Go.of (fun t k => XS.aload X_246.here hx rfl (hb hby at_284) rfl rfl k) ?_
                                  show Go p e below s _ _ _ (T_246.setTop (mkF m 286 #[.val (.int p0), .val (.long q1), .second, .val (.long q2), .second, .val (.long q3), .second, .val (.long q4), .second, .val (.long q5), .second, .val (.int v11_6c), .val (.int v12_40c), .val (.ref b1), .val (.int v14_131), .val (.ref b3), .val (.long (F1 v12_40c L_b1_131 [q1, q2, q3, q4, q5])), .second, .val (.long v18_246), .second, .unset] [(.ref b3)]))
                                  refine Go.of (fun t k => XS.iconst X_246.here hx rfl (hb hby at_286) k) ?_
                                  show Go p e below s _ _ _ (T_246.setTop (mkF m 287 #[.val (.int p0), .val (.long q1), .second, .val (.long q2), .second, .val (.long q3), .second, .val (.long q4), .second, .val (.long q5), .second, .val (.int v11_6c), .val (.int v12_40c), .val (.ref b1), .val (.int v14_131), .val (.ref b3), .val (.long (F1 v12_40c L_b1_131 [q1, q2, q3, q4, q5])), .second, .val (.long v18_246), .second, .unset] [(.int (4 : Int32)), (.ref b3)]))
                                  obtain ⟨cl33, Ar33, q33, S33, M33, H33, G33⟩ := id f20
                                  have hin33 : ¬ ((4 : Int32) < 0 ∨ cl33.slots.size ≤ ((4 : Int32)).toNatClampNeg) := (inb_of S33 ⟨by decide, by decide⟩)
                                  refine Go.of (X_246.laload hx (j := (4 : Int32)) (v := (.long q5)) (by rw [e_246]; exact Ar33.1) (State.isArrayOf_alike hZ.alike Ar33.2.1) Ar33.2.2 hin33 (Has.at H33 hin33 rfl) (g := (mkF m 287 #[.val (.int p0), .val (.long q1), .second, .val (.long q2), .second, .val (.long q3), .second, .val (.long q4), .second, .val (.long q5), .second, .val (.int v11_6c), .val (.int v12_40c), .val (.ref b1), .val (.int v14_131), .val (.ref b3), .val (.long (F1 v12_40c L_b1_131 [q1, q2, q3, q4, q5])), .second, .val (.long v18_246), .second, .unset] [(.int (4 : Int32)), (.ref b3)])) rfl rfl (hb hby at_287)) ?_
                                  show Go p e below s _ _ _ (T_246.setTop (mkF m 288 #[.val (.int p0), .val (.long q1), .second, .val (.long q2), .second, .val (.long q3), .second, .val (.long q4), .second, .val (.long q5), .second, .val (.int v11_6c), .val (.int v12_40c), .val (.ref b1), .val (.int v14_131), .val (.ref b3), .val (.long (F1 v12_40c L_b1_131 [q1, q2, q3, q4, q5])), .second, .val (.long v18_246), .second, .unset] [(.long q5)]))
                                  refine Go.of (fun t k => XS.lload X_246.here hx rfl (hb hby at_288) rfl k) ?_
                                  show Go p e below s _ _ _ (T_246.setTop (mkF m 290 #[.val (.int p0), .val (.long q1), .second, .val (.long q2), .second, .val (.long q3), .second, .val (.long q4), .second, .val (.long q5), .second, .val (.int v11_6c), .val (.int v12_40c), .val (.ref b1), .val (.int v14_131), .val (.ref b3), .val (.long (F1 v12_40c L_b1_131 [q1, q2, q3, q4, q5])), .second, .val (.long v18_246), .second, .unset] [(.long q5), (.long q5)]))
                                  refine Go.of (fun t k => XS.lcmp X_246.here hx rfl (hb hby at_290) rfl k) ?_
                                  show Go p e below s _ _ _ (T_246.setTop (mkF m 291 #[.val (.int p0), .val (.long q1), .second, .val (.long q2), .second, .val (.long q3), .second, .val (.long q4), .second, .val (.long q5), .second, .val (.int v11_6c), .val (.int v12_40c), .val (.ref b1), .val (.int v14_131), .val (.ref b3), .val (.long (F1 v12_40c L_b1_131 [q1, q2, q3, q4, q5])), .second, .val (.long v18_246), .second, .unset] [(.int (lcmpW q5 q5))]))
                                  by_cases hc291_34 : q5 = q5
                                  · rewrite [if_pos hc291_34]
                                    refine Go.of (fun t k => XS.ifNo X_246.here hx rfl (hb hby at_291) rfl ((if0 _ _).trans (teq ((lw_eq q5 q5).mpr hc291_34)).2) k) ?_
                                    show Go p e below s _ _ _ (T_246.setTop (mkF m 294 #[.val (.int p0), .val (.long q1), .second, .val (.long q2), .second, .val (.long q3), .second, .val (.long q4), .second, .val (.long q5), .second, .val (.int v11_6c), .val (.int v12_40c), .val (.ref b1), .val (.int v14_131), .val (.ref b3), .val (.long (F1 v12_40c L_b1_131 [q1, q2, q3, q4, q5])), .second, .val (.long v18_246), .second, .unset] []))
                                    refine Go.of (fun t k => XS.iconst X_246.here hx rfl (hb hby at_294) k) ?_
                                    show Go p e below s _ _ _ (T_246.setTop (mkF m 295 #[.val (.int p0), .val (.long q1), .second, .val (.long q2), .second, .val (.long q3), .second, .val (.long q4), .second, .val (.long q5), .second, .val (.int v11_6c), .val (.int v12_40c), .val (.ref b1), .val (.int v14_131), .val (.ref b3), .val (.long (F1 v12_40c L_b1_131 [q1, q2, q3, q4, q5])), .second, .val (.long v18_246), .second, .unset] [(.int (1 : Int32))]))
                                    refine Go.of (fun t k => XS.goto X_246.here hx rfl (pc0 := 295) (pc' := 299) rfl (hb hby at_295) (by decide) (by decide) k) ?_
                                    show Go p e below s _ _ _ (T_246.setTop (mkF m 299 #[.val (.int p0), .val (.long q1), .second, .val (.long q2), .second, .val (.long q3), .second, .val (.long q4), .second, .val (.long q5), .second, .val (.int v11_6c), .val (.int v12_40c), .val (.ref b1), .val (.int v14_131), .val (.ref b3), .val (.long (F1 v12_40c L_b1_131 [q1, q2, q3, q4, q5])), .second, .val (.long v18_246), .second, .unset] [(.int (1 : Int32))]))
                                    exact jn299 (1 : Int32)  T_246 _ X_246 e_246 N_246  
                                  · rewrite [if_neg hc291_34]
                                    refine Go.of (fun t k => XS.ifYes X_246.here hx rfl (pc0 := 291) (pc' := 298) rfl (hb hby at_291) rfl ((if0 _ _).trans (feq (mt (lw_eq q5 q5).mp hc291_34)).2) (by decide) (by decide) k) ?_
                                    show Go p e below s _ _ _ (T_246.setTop (mkF m 298 #[.val (.int p0), .val (.long q1), .second, .val (.long q2), .second, .val (.long q3), .second, .val (.long q4), .second, .val (.long q5), .second, .val (.int v11_6c), .val (.int v12_40c), .val (.ref b1), .val (.int v14_131), .val (.ref b3), .val (.long (F1 v12_40c L_b1_131 [q1, q2, q3, q4, q5])), .second, .val (.long v18_246), .second, .unset] []))
                                    exact jn298   T_246 _ X_246 e_246 N_246  
                                · rewrite [if_neg hc281_32]
                                  refine Go.of (fun t k => XS.ifYes X_246.here hx rfl (pc0 := 281) (pc' := 298) rfl (hb hby at_281) rfl ((if0 _ _).trans (feq (mt (lw_eq q4 q4).mp hc281_32)).2) (by decide) (by decide) k) ?_
                                  show Go p e below s _ _ _ (T_246.setTop (mkF m 298 #[.val (.int p0), .val (.long q1), .second, .val (.long q2), .second, .val (.long q3), .second, .val (.long q4), .second, .val (.long q5), .second, .val (.int v11_6c), .val (.int v12_40c), .val (.ref b1), .val (.int v14_131), .val (.ref b3), .val (.long (F1 v12_40c L_b1_131 [q1, q2, q3, q4, q5])), .second, .val (.long v18_246), .second, .unset] []))
                                  exact jn298   T_246 _ X_246 e_246 N_246  
                              · rewrite [if_neg hc271_30]
                                refine Go.of (fun t k => XS.ifYes X_246.here hx rfl (pc0 := 271) (pc' := 298) rfl (hb hby at_271) rfl ((if0 _ _).trans (feq (mt (lw_eq q3 q3).mp hc271_30)).2) (by decide) (by decide) k) ?_
                                show Go p e below s _ _ _ (T_246.setTop (mkF m 298 #[.val (.int p0), .val (.long q1), .second, .val (.long q2), .second, .val (.long q3), .second, .val (.long q4), .second, .val (.long q5), .second, .val (.int v11_6c), .val (.int v12_40c), .val (.ref b1), .val (.int v14_131), .val (.ref b3), .val (.long (F1 v12_40c L_b1_131 [q1, q2, q3, q4, q5])), .second, .val (.long v18_246), .second, .unset] []))
                                exact jn298   T_246 _ X_246 e_246 N_246  
                            · rewrite [if_neg hc261_28]
                              refine Go.of (fun t k => XS.ifYes X_246.here hx rfl (pc0 := 261) (pc' := 298) rfl (hb hby at_261) rfl ((if0 _ _).trans (feq (mt (lw_eq q2 q2).mp hc261_28)).2) (by decide) (by decide) k) ?_
                              show Go p e below s _ _ _ (T_246.setTop (mkF m 298 #[.val (.int p0), .val (.long q1), .second, .val (.long q2), .second, .val (.long q3), .second, .val (.long q4), .second, .val (.long q5), .second, .val (.int v11_6c), .val (.int v12_40c), .val (.ref b1), .val (.int v14_131), .val (.ref b3), .val (.long (F1 v12_40c L_b1_131 [q1, q2, q3, q4, q5])), .second, .val (.long v18_246), .second, .unset] []))
                              exact jn298   T_246 _ X_246 e_246 N_246  
                          · rewrite [if_neg hc252_26]
                            refine Go.of (fun t k => XS.ifYes X_246.here hx rfl (pc0 := 252) (pc' := 298) rfl (hb hby at_252) rfl ((if0 _ _).trans (feq (mt (lw_eq q1 q1).mp hc252_26)).2) (by decide) (by decide) k) ?_
                            show Go p e below s _ _ _ (T_246.setTop (mkF m 298 #[.val (.int p0), .val (.long q1), .second, .val (.long q2), .second, .val (.long q3), .second, .val (.long q4), .second, .val (.long q5), .second, .val (.int v11_6c), .val (.int v12_40c), .val (.ref b1), .val (.int v14_131), .val (.ref b3), .val (.long (F1 v12_40c L_b1_131 [q1, q2, q3, q4, q5])), .second, .val (.long v18_246), .second, .unset] []))
                            exact jn298   T_246 _ X_246 e_246 N_246  
                        by_cases hc236_35 : (v11_6c &&& (16 : Int32)) = (0 : Int32)
                        · rewrite [if_pos hc236_35]
                          refine Go.of (fun t k => XS.ifYes X_231.here hx rfl (pc0 := 236) (pc' := 246) rfl (hb hby at_236) rfl ((if0 _ _).trans (teq hc236_35).1) (by decide) (by decide) k) ?_
                          show Go p e below s _ _ _ (T_231.setTop (mkF m 246 #[.val (.int p0), .val (.long q1), .second, .val (.long q2), .second, .val (.long q3), .second, .val (.long q4), .second, .val (.long q5), .second, .val (.int v11_6c), .val (.int v12_40c), .val (.ref b1), .val (.int v14_131), .val (.ref b3), .val (.long (F1 v12_40c L_b1_131 [q1, q2, q3, q4, q5])), .second, .val (.long v18_231), .second, .unset] []))
                          exact jn246 v18_231  T_231 _ X_231 e_231 N_231  
                        · rewrite [if_neg hc236_35]
                          refine Go.of (fun t k => XS.ifNo X_231.here hx rfl (hb hby at_236) rfl ((if0 _ _).trans (feq hc236_35).1) k) ?_
                          show Go p e below s _ _ _ (T_231.setTop (mkF m 239 #[.val (.int p0), .val (.long q1), .second, .val (.long q2), .second, .val (.long q3), .second, .val (.long q4), .second, .val (.long q5), .second, .val (.int v11_6c), .val (.int v12_40c), .val (.ref b1), .val (.int v14_131), .val (.ref b3), .val (.long (F1 v12_40c L_b1_131 [q1, q2, q3, q4, q5])), .second, .val (.long v18_231), .second, .unset] []))
                          refine Go.of (fun t k => XS.lload X_231.here hx rfl (hb hby at_239) rfl k) ?_
                          show Go p e below s _ _ _ (T_231.setTop (mkF m 241 #[.val (.int p0), .val (.long q1), .second, .val (.long q2), .second, .val (.long q3), .second, .val (.long q4), .second, .val (.long q5), .second, .val (.int v11_6c), .val (.int v12_40c), .val (.ref b1), .val (.int v14_131), .val (.ref b3), .val (.long (F1 v12_40c L_b1_131 [q1, q2, q3, q4, q5])), .second, .val (.long v18_231), .second, .unset] [(.long v18_231)]))
                          refine Go.of (fun t k => XS.lload X_231.here hx rfl (hb hby at_241) rfl k) ?_
                          show Go p e below s _ _ _ (T_231.setTop (mkF m 243 #[.val (.int p0), .val (.long q1), .second, .val (.long q2), .second, .val (.long q3), .second, .val (.long q4), .second, .val (.long q5), .second, .val (.int v11_6c), .val (.int v12_40c), .val (.ref b1), .val (.int v14_131), .val (.ref b3), .val (.long (F1 v12_40c L_b1_131 [q1, q2, q3, q4, q5])), .second, .val (.long v18_231), .second, .unset] [(.long q5), (.long v18_231)]))
                          refine Go.of (fun t k => XS.ladd X_231.here hx rfl (hb hby at_243) rfl k) ?_
                          show Go p e below s _ _ _ (T_231.setTop (mkF m 244 #[.val (.int p0), .val (.long q1), .second, .val (.long q2), .second, .val (.long q3), .second, .val (.long q4), .second, .val (.long q5), .second, .val (.int v11_6c), .val (.int v12_40c), .val (.ref b1), .val (.int v14_131), .val (.ref b3), .val (.long (F1 v12_40c L_b1_131 [q1, q2, q3, q4, q5])), .second, .val (.long v18_231), .second, .unset] [(.long (v18_231 + q5))]))
                          refine Go.of (fun t k => XS.lstore X_231.here hx rfl (hb hby at_244) rfl (l' := #[.val (.int p0), .val (.long q1), .second, .val (.long q2), .second, .val (.long q3), .second, .val (.long q4), .second, .val (.long q5), .second, .val (.int v11_6c), .val (.int v12_40c), .val (.ref b1), .val (.int v14_131), .val (.ref b3), .val (.long (F1 v12_40c L_b1_131 [q1, q2, q3, q4, q5])), .second, .val (.long (v18_231 + q5)), .second, .unset]) rfl k) ?_
                          show Go p e below s _ _ _ (T_231.setTop (mkF m 246 #[.val (.int p0), .val (.long q1), .second, .val (.long q2), .second, .val (.long q3), .second, .val (.long q4), .second, .val (.long q5), .second, .val (.int v11_6c), .val (.int v12_40c), .val (.ref b1), .val (.int v14_131), .val (.ref b3), .val (.long (F1 v12_40c L_b1_131 [q1, q2, q3, q4, q5])), .second, .val (.long (v18_231 + q5)), .second, .unset] []))
                          exact jn246 (v18_231 + q5)  T_231 _ X_231 e_231 N_231  
                      by_cases hc221_36 : (v11_6c &&& (8 : Int32)) = (0 : Int32)
                      · rewrite [if_pos hc221_36]
                        refine Go.of (fun t k => XS.ifYes X_216.here hx rfl (pc0 := 221) (pc' := 231) rfl (hb hby at_221) rfl ((if0 _ _).trans (teq hc221_36).1) (by decide) (by decide) k) ?_
                        show Go p e below s _ _ _ (T_216.setTop (mkF m 231 #[.val (.int p0), .val (.long q1), .second, .val (.long q2), .second, .val (.long q3), .second, .val (.long q4), .second, .val (.long q5), .second, .val (.int v11_6c), .val (.int v12_40c), .val (.ref b1), .val (.int v14_131), .val (.ref b3), .val (.long (F1 v12_40c L_b1_131 [q1, q2, q3, q4, q5])), .second, .val (.long v18_216), .second, .unset] []))
                        exact jn231 v18_216  T_216 _ X_216 e_216 N_216  
                      · rewrite [if_neg hc221_36]
                        refine Go.of (fun t k => XS.ifNo X_216.here hx rfl (hb hby at_221) rfl ((if0 _ _).trans (feq hc221_36).1) k) ?_
                        show Go p e below s _ _ _ (T_216.setTop (mkF m 224 #[.val (.int p0), .val (.long q1), .second, .val (.long q2), .second, .val (.long q3), .second, .val (.long q4), .second, .val (.long q5), .second, .val (.int v11_6c), .val (.int v12_40c), .val (.ref b1), .val (.int v14_131), .val (.ref b3), .val (.long (F1 v12_40c L_b1_131 [q1, q2, q3, q4, q5])), .second, .val (.long v18_216), .second, .unset] []))
                        refine Go.of (fun t k => XS.lload X_216.here hx rfl (hb hby at_224) rfl k) ?_
                        show Go p e below s _ _ _ (T_216.setTop (mkF m 226 #[.val (.int p0), .val (.long q1), .second, .val (.long q2), .second, .val (.long q3), .second, .val (.long q4), .second, .val (.long q5), .second, .val (.int v11_6c), .val (.int v12_40c), .val (.ref b1), .val (.int v14_131), .val (.ref b3), .val (.long (F1 v12_40c L_b1_131 [q1, q2, q3, q4, q5])), .second, .val (.long v18_216), .second, .unset] [(.long v18_216)]))
                        refine Go.of (fun t k => XS.lload X_216.here hx rfl (hb hby at_226) rfl k) ?_
                        show Go p e below s _ _ _ (T_216.setTop (mkF m 228 #[.val (.int p0), .val (.long q1), .second, .val (.long q2), .second, .val (.long q3), .second, .val (.long q4), .second, .val (.long q5), .second, .val (.int v11_6c), .val (.int v12_40c), .val (.ref b1), .val (.int v14_131), .val (.ref b3), .val (.long (F1 v12_40c L_b1_131 [q1, q2, q3, q4, q5])), .second, .val (.long v18_216), .second, .unset] [(.long q4), (.long v18_216)]))
                        refine Go.of (fun t k => XS.ladd X_216.here hx rfl (hb hby at_228) rfl k) ?_
                        show Go p e below s _ _ _ (T_216.setTop (mkF m 229 #[.val (.int p0), .val (.long q1), .second, .val (.long q2), .second, .val (.long q3), .second, .val (.long q4), .second, .val (.long q5), .second, .val (.int v11_6c), .val (.int v12_40c), .val (.ref b1), .val (.int v14_131), .val (.ref b3), .val (.long (F1 v12_40c L_b1_131 [q1, q2, q3, q4, q5])), .second, .val (.long v18_216), .second, .unset] [(.long (v18_216 + q4))]))
                        refine Go.of (fun t k => XS.lstore X_216.here hx rfl (hb hby at_229) rfl (l' := #[.val (.int p0), .val (.long q1), .second, .val (.long q2), .second, .val (.long q3), .second, .val (.long q4), .second, .val (.long q5), .second, .val (.int v11_6c), .val (.int v12_40c), .val (.ref b1), .val (.int v14_131), .val (.ref b3), .val (.long (F1 v12_40c L_b1_131 [q1, q2, q3, q4, q5])), .second, .val (.long (v18_216 + q4)), .second, .unset]) rfl k) ?_
                        show Go p e below s _ _ _ (T_216.setTop (mkF m 231 #[.val (.int p0), .val (.long q1), .second, .val (.long q2), .second, .val (.long q3), .second, .val (.long q4), .second, .val (.long q5), .second, .val (.int v11_6c), .val (.int v12_40c), .val (.ref b1), .val (.int v14_131), .val (.ref b3), .val (.long (F1 v12_40c L_b1_131 [q1, q2, q3, q4, q5])), .second, .val (.long (v18_216 + q4)), .second, .unset] []))
                        exact jn231 (v18_216 + q4)  T_216 _ X_216 e_216 N_216  
                    by_cases hc206_37 : (v11_6c &&& (4 : Int32)) = (0 : Int32)
                    · rewrite [if_pos hc206_37]
                      refine Go.of (fun t k => XS.ifYes X_202.here hx rfl (pc0 := 206) (pc' := 216) rfl (hb hby at_206) rfl ((if0 _ _).trans (teq hc206_37).1) (by decide) (by decide) k) ?_
                      show Go p e below s _ _ _ (T_202.setTop (mkF m 216 #[.val (.int p0), .val (.long q1), .second, .val (.long q2), .second, .val (.long q3), .second, .val (.long q4), .second, .val (.long q5), .second, .val (.int v11_6c), .val (.int v12_40c), .val (.ref b1), .val (.int v14_131), .val (.ref b3), .val (.long (F1 v12_40c L_b1_131 [q1, q2, q3, q4, q5])), .second, .val (.long v18_202), .second, .unset] []))
                      exact jn216 v18_202  T_202 _ X_202 e_202 N_202  
                    · rewrite [if_neg hc206_37]
                      refine Go.of (fun t k => XS.ifNo X_202.here hx rfl (hb hby at_206) rfl ((if0 _ _).trans (feq hc206_37).1) k) ?_
                      show Go p e below s _ _ _ (T_202.setTop (mkF m 209 #[.val (.int p0), .val (.long q1), .second, .val (.long q2), .second, .val (.long q3), .second, .val (.long q4), .second, .val (.long q5), .second, .val (.int v11_6c), .val (.int v12_40c), .val (.ref b1), .val (.int v14_131), .val (.ref b3), .val (.long (F1 v12_40c L_b1_131 [q1, q2, q3, q4, q5])), .second, .val (.long v18_202), .second, .unset] []))
                      refine Go.of (fun t k => XS.lload X_202.here hx rfl (hb hby at_209) rfl k) ?_
                      show Go p e below s _ _ _ (T_202.setTop (mkF m 211 #[.val (.int p0), .val (.long q1), .second, .val (.long q2), .second, .val (.long q3), .second, .val (.long q4), .second, .val (.long q5), .second, .val (.int v11_6c), .val (.int v12_40c), .val (.ref b1), .val (.int v14_131), .val (.ref b3), .val (.long (F1 v12_40c L_b1_131 [q1, q2, q3, q4, q5])), .second, .val (.long v18_202), .second, .unset] [(.long v18_202)]))
                      refine Go.of (fun t k => XS.lload X_202.here hx rfl (hb hby at_211) rfl k) ?_
                      show Go p e below s _ _ _ (T_202.setTop (mkF m 213 #[.val (.int p0), .val (.long q1), .second, .val (.long q2), .second, .val (.long q3), .second, .val (.long q4), .second, .val (.long q5), .second, .val (.int v11_6c), .val (.int v12_40c), .val (.ref b1), .val (.int v14_131), .val (.ref b3), .val (.long (F1 v12_40c L_b1_131 [q1, q2, q3, q4, q5])), .second, .val (.long v18_202), .second, .unset] [(.long q3), (.long v18_202)]))
                      refine Go.of (fun t k => XS.ladd X_202.here hx rfl (hb hby at_213) rfl k) ?_
                      show Go p e below s _ _ _ (T_202.setTop (mkF m 214 #[.val (.int p0), .val (.long q1), .second, .val (.long q2), .second, .val (.long q3), .second, .val (.long q4), .second, .val (.long q5), .second, .val (.int v11_6c), .val (.int v12_40c), .val (.ref b1), .val (.int v14_131), .val (.ref b3), .val (.long (F1 v12_40c L_b1_131 [q1, q2, q3, q4, q5])), .second, .val (.long v18_202), .second, .unset] [(.long (v18_202 + q3))]))
                      refine Go.of (fun t k => XS.lstore X_202.here hx rfl (hb hby at_214) rfl (l' := #[.val (.int p0), .val (.long q1), .second, .val (.long q2), .second, .val (.long q3), .second, .val (.long q4), .second, .val (.long q5), .second, .val (.int v11_6c), .val (.int v12_40c), .val (.ref b1), .val (.int v14_131), .val (.ref b3), .val (.long (F1 v12_40c L_b1_131 [q1, q2, q3, q4, q5])), .second, .val (.long (v18_202 + q3)), .second, .unset]) rfl k) ?_
                      show Go p e below s _ _ _ (T_202.setTop (mkF m 216 #[.val (.int p0), .val (.long q1), .second, .val (.long q2), .second, .val (.long q3), .second, .val (.long q4), .second, .val (.long q5), .second, .val (.int v11_6c), .val (.int v12_40c), .val (.ref b1), .val (.int v14_131), .val (.ref b3), .val (.long (F1 v12_40c L_b1_131 [q1, q2, q3, q4, q5])), .second, .val (.long (v18_202 + q3)), .second, .unset] []))
                      exact jn216 (v18_202 + q3)  T_202 _ X_202 e_202 N_202  
                  by_cases hc193_38 : (v11_6c &&& (2 : Int32)) = (0 : Int32)
                  · rewrite [if_pos hc193_38]
                    refine Go.of (fun t k => XS.ifYes X_189.here hx rfl (pc0 := 193) (pc' := 202) rfl (hb hby at_193) rfl ((if0 _ _).trans (teq hc193_38).1) (by decide) (by decide) k) ?_
                    show Go p e below s _ _ _ (T_189.setTop (mkF m 202 #[.val (.int p0), .val (.long q1), .second, .val (.long q2), .second, .val (.long q3), .second, .val (.long q4), .second, .val (.long q5), .second, .val (.int v11_6c), .val (.int v12_40c), .val (.ref b1), .val (.int v14_131), .val (.ref b3), .val (.long (F1 v12_40c L_b1_131 [q1, q2, q3, q4, q5])), .second, .val (.long v18_189), .second, .unset] []))
                    exact jn202 v18_189  T_189 _ X_189 e_189 N_189  
                  · rewrite [if_neg hc193_38]
                    refine Go.of (fun t k => XS.ifNo X_189.here hx rfl (hb hby at_193) rfl ((if0 _ _).trans (feq hc193_38).1) k) ?_
                    show Go p e below s _ _ _ (T_189.setTop (mkF m 196 #[.val (.int p0), .val (.long q1), .second, .val (.long q2), .second, .val (.long q3), .second, .val (.long q4), .second, .val (.long q5), .second, .val (.int v11_6c), .val (.int v12_40c), .val (.ref b1), .val (.int v14_131), .val (.ref b3), .val (.long (F1 v12_40c L_b1_131 [q1, q2, q3, q4, q5])), .second, .val (.long v18_189), .second, .unset] []))
                    refine Go.of (fun t k => XS.lload X_189.here hx rfl (hb hby at_196) rfl k) ?_
                    show Go p e below s _ _ _ (T_189.setTop (mkF m 198 #[.val (.int p0), .val (.long q1), .second, .val (.long q2), .second, .val (.long q3), .second, .val (.long q4), .second, .val (.long q5), .second, .val (.int v11_6c), .val (.int v12_40c), .val (.ref b1), .val (.int v14_131), .val (.ref b3), .val (.long (F1 v12_40c L_b1_131 [q1, q2, q3, q4, q5])), .second, .val (.long v18_189), .second, .unset] [(.long v18_189)]))
                    refine Go.of (fun t k => XS.lloadN X_189.here hx rfl (hb hby at_198) rfl k) ?_
                    show Go p e below s _ _ _ (T_189.setTop (mkF m 199 #[.val (.int p0), .val (.long q1), .second, .val (.long q2), .second, .val (.long q3), .second, .val (.long q4), .second, .val (.long q5), .second, .val (.int v11_6c), .val (.int v12_40c), .val (.ref b1), .val (.int v14_131), .val (.ref b3), .val (.long (F1 v12_40c L_b1_131 [q1, q2, q3, q4, q5])), .second, .val (.long v18_189), .second, .unset] [(.long q2), (.long v18_189)]))
                    refine Go.of (fun t k => XS.ladd X_189.here hx rfl (hb hby at_199) rfl k) ?_
                    show Go p e below s _ _ _ (T_189.setTop (mkF m 200 #[.val (.int p0), .val (.long q1), .second, .val (.long q2), .second, .val (.long q3), .second, .val (.long q4), .second, .val (.long q5), .second, .val (.int v11_6c), .val (.int v12_40c), .val (.ref b1), .val (.int v14_131), .val (.ref b3), .val (.long (F1 v12_40c L_b1_131 [q1, q2, q3, q4, q5])), .second, .val (.long v18_189), .second, .unset] [(.long (v18_189 + q2))]))
                    refine Go.of (fun t k => XS.lstore X_189.here hx rfl (hb hby at_200) rfl (l' := #[.val (.int p0), .val (.long q1), .second, .val (.long q2), .second, .val (.long q3), .second, .val (.long q4), .second, .val (.long q5), .second, .val (.int v11_6c), .val (.int v12_40c), .val (.ref b1), .val (.int v14_131), .val (.ref b3), .val (.long (F1 v12_40c L_b1_131 [q1, q2, q3, q4, q5])), .second, .val (.long (v18_189 + q2)), .second, .unset]) rfl k) ?_
                    show Go p e below s _ _ _ (T_189.setTop (mkF m 202 #[.val (.int p0), .val (.long q1), .second, .val (.long q2), .second, .val (.long q3), .second, .val (.long q4), .second, .val (.long q5), .second, .val (.int v11_6c), .val (.int v12_40c), .val (.ref b1), .val (.int v14_131), .val (.ref b3), .val (.long (F1 v12_40c L_b1_131 [q1, q2, q3, q4, q5])), .second, .val (.long (v18_189 + q2)), .second, .unset] []))
                    exact jn202 (v18_189 + q2)  T_189 _ X_189 e_189 N_189  
                by_cases hc180_39 : (v11_6c &&& (1 : Int32)) = (0 : Int32)
                · rewrite [if_pos hc180_39]
                  refine Go.of (fun t k => XS.ifYes X22.here hx rfl (pc0 := 180) (pc' := 189) rfl (hb hby at_180) rfl ((if0 _ _).trans (teq hc180_39).1) (by decide) (by decide) k) ?_
                  show Go p e below s _ _ _ (T22.setTop (mkF m 189 #[.val (.int p0), .val (.long q1), .second, .val (.long q2), .second, .val (.long q3), .second, .val (.long q4), .second, .val (.long q5), .second, .val (.int v11_6c), .val (.int v12_40c), .val (.ref b1), .val (.int v14_131), .val (.ref b3), .val (.long (F1 v12_40c L_b1_131 [q1, q2, q3, q4, q5])), .second, .val (.long (0 : Int64)), .second, .unset] []))
                  exact jn189 (0 : Int64)  T22 _ X22 e22 N22  
                · rewrite [if_neg hc180_39]
                  refine Go.of (fun t k => XS.ifNo X22.here hx rfl (hb hby at_180) rfl ((if0 _ _).trans (feq hc180_39).1) k) ?_
                  show Go p e below s _ _ _ (T22.setTop (mkF m 183 #[.val (.int p0), .val (.long q1), .second, .val (.long q2), .second, .val (.long q3), .second, .val (.long q4), .second, .val (.long q5), .second, .val (.int v11_6c), .val (.int v12_40c), .val (.ref b1), .val (.int v14_131), .val (.ref b3), .val (.long (F1 v12_40c L_b1_131 [q1, q2, q3, q4, q5])), .second, .val (.long (0 : Int64)), .second, .unset] []))
                  refine Go.of (fun t k => XS.lload X22.here hx rfl (hb hby at_183) rfl k) ?_
                  show Go p e below s _ _ _ (T22.setTop (mkF m 185 #[.val (.int p0), .val (.long q1), .second, .val (.long q2), .second, .val (.long q3), .second, .val (.long q4), .second, .val (.long q5), .second, .val (.int v11_6c), .val (.int v12_40c), .val (.ref b1), .val (.int v14_131), .val (.ref b3), .val (.long (F1 v12_40c L_b1_131 [q1, q2, q3, q4, q5])), .second, .val (.long (0 : Int64)), .second, .unset] [(.long (0 : Int64))]))
                  refine Go.of (fun t k => XS.lloadN X22.here hx rfl (hb hby at_185) rfl k) ?_
                  show Go p e below s _ _ _ (T22.setTop (mkF m 186 #[.val (.int p0), .val (.long q1), .second, .val (.long q2), .second, .val (.long q3), .second, .val (.long q4), .second, .val (.long q5), .second, .val (.int v11_6c), .val (.int v12_40c), .val (.ref b1), .val (.int v14_131), .val (.ref b3), .val (.long (F1 v12_40c L_b1_131 [q1, q2, q3, q4, q5])), .second, .val (.long (0 : Int64)), .second, .unset] [(.long q1), (.long (0 : Int64))]))
                  refine Go.of (fun t k => XS.ladd X22.here hx rfl (hb hby at_186) rfl k) ?_
                  show Go p e below s _ _ _ (T22.setTop (mkF m 187 #[.val (.int p0), .val (.long q1), .second, .val (.long q2), .second, .val (.long q3), .second, .val (.long q4), .second, .val (.long q5), .second, .val (.int v11_6c), .val (.int v12_40c), .val (.ref b1), .val (.int v14_131), .val (.ref b3), .val (.long (F1 v12_40c L_b1_131 [q1, q2, q3, q4, q5])), .second, .val (.long (0 : Int64)), .second, .unset] [(.long ((0 : Int64) + q1))]))
                  refine Go.of (fun t k => XS.lstore X22.here hx rfl (hb hby at_187) rfl (l' := #[.val (.int p0), .val (.long q1), .second, .val (.long q2), .second, .val (.long q3), .second, .val (.long q4), .second, .val (.long q5), .second, .val (.int v11_6c), .val (.int v12_40c), .val (.ref b1), .val (.int v14_131), .val (.ref b3), .val (.long (F1 v12_40c L_b1_131 [q1, q2, q3, q4, q5])), .second, .val (.long ((0 : Int64) + q1)), .second, .unset]) rfl k) ?_
                  show Go p e below s _ _ _ (T22.setTop (mkF m 189 #[.val (.int p0), .val (.long q1), .second, .val (.long q2), .second, .val (.long q3), .second, .val (.long q4), .second, .val (.long q5), .second, .val (.int v11_6c), .val (.int v12_40c), .val (.ref b1), .val (.int v14_131), .val (.ref b3), .val (.long (F1 v12_40c L_b1_131 [q1, q2, q3, q4, q5])), .second, .val (.long ((0 : Int64) + q1)), .second, .unset] []))
                  exact jn189 ((0 : Int64) + q1)  T22 _ X22 e22 N22  
              by_cases hc119_40 : (v11_6c &&& (16 : Int32)) = (0 : Int32)
              · rewrite [if_pos hc119_40]
                refine Go.of (fun t k => XS.ifYes X_114.here hx rfl (pc0 := 119) (pc' := 131) rfl (hb hby at_119) rfl ((if0 _ _).trans (teq hc119_40).1) (by decide) (by decide) k) ?_
                show Go p e below s _ _ _ (T_114.setTop (mkF m 131 #[.val (.int p0), .val (.long q1), .second, .val (.long q2), .second, .val (.long q3), .second, .val (.long q4), .second, .val (.long q5), .second, .val (.int v11_6c), .val (.int v12_40c), .val (.ref b1), .val (.int v14_114), .unset, .unset, .unset, .unset, .unset, .unset] []))
                exact jn131 v14_114 L_b1_114 _ T_114 _ X_114 e_114 N_114 K_114 V_b1_114 (own_no5 ok_114 hc119_40)
              · rewrite [if_neg hc119_40]
                refine Go.of (fun t k => XS.ifNo X_114.here hx rfl (hb hby at_119) rfl ((if0 _ _).trans (feq hc119_40).1) k) ?_
                show Go p e below s _ _ _ (T_114.setTop (mkF m 122 #[.val (.int p0), .val (.long q1), .second, .val (.long q2), .second, .val (.long q3), .second, .val (.long q4), .second, .val (.long q5), .second, .val (.int v11_6c), .val (.int v12_40c), .val (.ref b1), .val (.int v14_114), .unset, .unset, .unset, .unset, .unset, .unset] []))
                refine Go.of (fun t k => XS.aload X_114.here hx rfl (hb hby at_122) rfl rfl k) ?_
                show Go p e below s _ _ _ (T_114.setTop (mkF m 124 #[.val (.int p0), .val (.long q1), .second, .val (.long q2), .second, .val (.long q3), .second, .val (.long q4), .second, .val (.long q5), .second, .val (.int v11_6c), .val (.int v12_40c), .val (.ref b1), .val (.int v14_114), .unset, .unset, .unset, .unset, .unset, .unset] [(.ref b1)]))
                refine Go.of (fun t k => XS.iload X_114.here hx rfl (hb hby at_124) rfl k) ?_
                show Go p e below s _ _ _ (T_114.setTop (mkF m 126 #[.val (.int p0), .val (.long q1), .second, .val (.long q2), .second, .val (.long q3), .second, .val (.long q4), .second, .val (.long q5), .second, .val (.int v11_6c), .val (.int v12_40c), .val (.ref b1), .val (.int v14_114), .unset, .unset, .unset, .unset, .unset, .unset] [(.int v14_114), (.ref b1)]))
                refine Go.of (fun t k => XS.iconst X_114.here hx rfl (hb hby at_126) k) ?_
                show Go p e below s _ _ _ (T_114.setTop (mkF m 127 #[.val (.int p0), .val (.long q1), .second, .val (.long q2), .second, .val (.long q3), .second, .val (.long q4), .second, .val (.long q5), .second, .val (.int v11_6c), .val (.int v12_40c), .val (.ref b1), .val (.int v14_114), .unset, .unset, .unset, .unset, .unset, .unset] [(.int (4 : Int32)), (.int v14_114), (.ref b1)]))
                obtain ⟨cl41, Ar41, q41, S41, M41, H41, G41⟩ := id V_b1_114
                have hin41 : ¬ (v14_114 < 0 ∨ cl41.slots.size ≤ (v14_114).toNatClampNeg) := (inb_of S41 (own_sin4 hm_6c hn_40c ok_114 hc119_40))
                obtain ⟨T41, h41, X41, e41, W41, st41⟩ := stI X_114 hx hZ e_114 Ar41 (j := v14_114) hin41 (g := (mkF m 127 #[.val (.int p0), .val (.long q1), .second, .val (.long q2), .second, .val (.long q3), .second, .val (.long q4), .second, .val (.long q5), .second, .val (.int v11_6c), .val (.int v12_40c), .val (.ref b1), .val (.int v14_114), .unset, .unset, .unset, .unset, .unset, .unset] [(.int (4 : Int32)), (.int v14_114), (.ref b1)])) rfl rfl (hb hby at_127)
                have f42 : Arv Z h41 b1 k1 .int v12_40c ((L_b1_114.set (v14_114).toNatClampNeg (4 : Int32)).map Value.int) (.int (0 : Int32)) := by rw [List.map_set]; exact Arv.set Ar41 q41 S41 M41 H41 G41 rfl W41 _ rfl (by rw [List.length_map]; exact (own_slen4 hm_6c ok_114))
                have N41 := Fr.snoc X41 N_114 g_b1
                have K41 : Keep h0 h41 [] := Keep.wr K_114 W41 (Or.inr sz_b1)
                refine Go.of st41 ?_
                show Go p e below s _ _ _ (T41.setTop (mkF m 128 #[.val (.int p0), .val (.long q1), .second, .val (.long q2), .second, .val (.long q3), .second, .val (.long q4), .second, .val (.long q5), .second, .val (.int v11_6c), .val (.int v12_40c), .val (.ref b1), .val (.int v14_114), .unset, .unset, .unset, .unset, .unset, .unset] []))
                refine Go.of (fun t k => XS.iinc X41.here hx rfl (hb hby at_128) rfl (l' := #[.val (.int p0), .val (.long q1), .second, .val (.long q2), .second, .val (.long q3), .second, .val (.long q4), .second, .val (.long q5), .second, .val (.int v11_6c), .val (.int v12_40c), .val (.ref b1), .val (.int (v14_114 + (1 : Int32))), .unset, .unset, .unset, .unset, .unset, .unset]) rfl k) ?_
                show Go p e below s _ _ _ (T41.setTop (mkF m 131 #[.val (.int p0), .val (.long q1), .second, .val (.long q2), .second, .val (.long q3), .second, .val (.long q4), .second, .val (.long q5), .second, .val (.int v11_6c), .val (.int v12_40c), .val (.ref b1), .val (.int (v14_114 + (1 : Int32))), .unset, .unset, .unset, .unset, .unset, .unset] []))
                exact jn131 (v14_114 + (1 : Int32)) (L_b1_114.set (v14_114).toNatClampNeg (4 : Int32)) _ T41 _ X41 e41 N41 K41 f42 (own_yes5 ok_114 hc119_40)
            by_cases hc102_43 : (v11_6c &&& (8 : Int32)) = (0 : Int32)
            · rewrite [if_pos hc102_43]
              refine Go.of (fun t k => XS.ifYes X_97.here hx rfl (pc0 := 102) (pc' := 114) rfl (hb hby at_102) rfl ((if0 _ _).trans (teq hc102_43).1) (by decide) (by decide) k) ?_
              show Go p e below s _ _ _ (T_97.setTop (mkF m 114 #[.val (.int p0), .val (.long q1), .second, .val (.long q2), .second, .val (.long q3), .second, .val (.long q4), .second, .val (.long q5), .second, .val (.int v11_6c), .val (.int v12_40c), .val (.ref b1), .val (.int v14_97), .unset, .unset, .unset, .unset, .unset, .unset] []))
              exact jn114 v14_97 L_b1_97 _ T_97 _ X_97 e_97 N_97 K_97 V_b1_97 (own_no4 ok_97 hc102_43)
            · rewrite [if_neg hc102_43]
              refine Go.of (fun t k => XS.ifNo X_97.here hx rfl (hb hby at_102) rfl ((if0 _ _).trans (feq hc102_43).1) k) ?_
              show Go p e below s _ _ _ (T_97.setTop (mkF m 105 #[.val (.int p0), .val (.long q1), .second, .val (.long q2), .second, .val (.long q3), .second, .val (.long q4), .second, .val (.long q5), .second, .val (.int v11_6c), .val (.int v12_40c), .val (.ref b1), .val (.int v14_97), .unset, .unset, .unset, .unset, .unset, .unset] []))
              refine Go.of (fun t k => XS.aload X_97.here hx rfl (hb hby at_105) rfl rfl k) ?_
              show Go p e below s _ _ _ (T_97.setTop (mkF m 107 #[.val (.int p0), .val (.long q1), .second, .val (.long q2), .second, .val (.long q3), .second, .val (.long q4), .second, .val (.long q5), .second, .val (.int v11_6c), .val (.int v12_40c), .val (.ref b1), .val (.int v14_97), .unset, .unset, .unset, .unset, .unset, .unset] [(.ref b1)]))
              refine Go.of (fun t k => XS.iload X_97.here hx rfl (hb hby at_107) rfl k) ?_
              show Go p e below s _ _ _ (T_97.setTop (mkF m 109 #[.val (.int p0), .val (.long q1), .second, .val (.long q2), .second, .val (.long q3), .second, .val (.long q4), .second, .val (.long q5), .second, .val (.int v11_6c), .val (.int v12_40c), .val (.ref b1), .val (.int v14_97), .unset, .unset, .unset, .unset, .unset, .unset] [(.int v14_97), (.ref b1)]))
              refine Go.of (fun t k => XS.iconst X_97.here hx rfl (hb hby at_109) k) ?_
              show Go p e below s _ _ _ (T_97.setTop (mkF m 110 #[.val (.int p0), .val (.long q1), .second, .val (.long q2), .second, .val (.long q3), .second, .val (.long q4), .second, .val (.long q5), .second, .val (.int v11_6c), .val (.int v12_40c), .val (.ref b1), .val (.int v14_97), .unset, .unset, .unset, .unset, .unset, .unset] [(.int (3 : Int32)), (.int v14_97), (.ref b1)]))
              obtain ⟨cl44, Ar44, q44, S44, M44, H44, G44⟩ := id V_b1_97
              have hin44 : ¬ (v14_97 < 0 ∨ cl44.slots.size ≤ (v14_97).toNatClampNeg) := (inb_of S44 (own_sin3 hm_6c hn_40c ok_97 hc102_43))
              obtain ⟨T44, h44, X44, e44, W44, st44⟩ := stI X_97 hx hZ e_97 Ar44 (j := v14_97) hin44 (g := (mkF m 110 #[.val (.int p0), .val (.long q1), .second, .val (.long q2), .second, .val (.long q3), .second, .val (.long q4), .second, .val (.long q5), .second, .val (.int v11_6c), .val (.int v12_40c), .val (.ref b1), .val (.int v14_97), .unset, .unset, .unset, .unset, .unset, .unset] [(.int (3 : Int32)), (.int v14_97), (.ref b1)])) rfl rfl (hb hby at_110)
              have f45 : Arv Z h44 b1 k1 .int v12_40c ((L_b1_97.set (v14_97).toNatClampNeg (3 : Int32)).map Value.int) (.int (0 : Int32)) := by rw [List.map_set]; exact Arv.set Ar44 q44 S44 M44 H44 G44 rfl W44 _ rfl (by rw [List.length_map]; exact (own_slen3 hm_6c ok_97))
              have N44 := Fr.snoc X44 N_97 g_b1
              have K44 : Keep h0 h44 [] := Keep.wr K_97 W44 (Or.inr sz_b1)
              refine Go.of st44 ?_
              show Go p e below s _ _ _ (T44.setTop (mkF m 111 #[.val (.int p0), .val (.long q1), .second, .val (.long q2), .second, .val (.long q3), .second, .val (.long q4), .second, .val (.long q5), .second, .val (.int v11_6c), .val (.int v12_40c), .val (.ref b1), .val (.int v14_97), .unset, .unset, .unset, .unset, .unset, .unset] []))
              refine Go.of (fun t k => XS.iinc X44.here hx rfl (hb hby at_111) rfl (l' := #[.val (.int p0), .val (.long q1), .second, .val (.long q2), .second, .val (.long q3), .second, .val (.long q4), .second, .val (.long q5), .second, .val (.int v11_6c), .val (.int v12_40c), .val (.ref b1), .val (.int (v14_97 + (1 : Int32))), .unset, .unset, .unset, .unset, .unset, .unset]) rfl k) ?_
              show Go p e below s _ _ _ (T44.setTop (mkF m 114 #[.val (.int p0), .val (.long q1), .second, .val (.long q2), .second, .val (.long q3), .second, .val (.long q4), .second, .val (.long q5), .second, .val (.int v11_6c), .val (.int v12_40c), .val (.ref b1), .val (.int (v14_97 + (1 : Int32))), .unset, .unset, .unset, .unset, .unset, .unset] []))
              exact jn114 (v14_97 + (1 : Int32)) (L_b1_97.set (v14_97).toNatClampNeg (3 : Int32)) _ T44 _ X44 e44 N44 K44 f45 (own_yes4 ok_97 hc102_43)
          by_cases hc85_46 : (v11_6c &&& (4 : Int32)) = (0 : Int32)
          · rewrite [if_pos hc85_46]
            refine Go.of (fun t k => XS.ifYes X_81.here hx rfl (pc0 := 85) (pc' := 97) rfl (hb hby at_85) rfl ((if0 _ _).trans (teq hc85_46).1) (by decide) (by decide) k) ?_
            show Go p e below s _ _ _ (T_81.setTop (mkF m 97 #[.val (.int p0), .val (.long q1), .second, .val (.long q2), .second, .val (.long q3), .second, .val (.long q4), .second, .val (.long q5), .second, .val (.int v11_6c), .val (.int v12_40c), .val (.ref b1), .val (.int v14_81), .unset, .unset, .unset, .unset, .unset, .unset] []))
            exact jn97 v14_81 L_b1_81 _ T_81 _ X_81 e_81 N_81 K_81 V_b1_81 (own_no3 ok_81 hc85_46)
          · rewrite [if_neg hc85_46]
            refine Go.of (fun t k => XS.ifNo X_81.here hx rfl (hb hby at_85) rfl ((if0 _ _).trans (feq hc85_46).1) k) ?_
            show Go p e below s _ _ _ (T_81.setTop (mkF m 88 #[.val (.int p0), .val (.long q1), .second, .val (.long q2), .second, .val (.long q3), .second, .val (.long q4), .second, .val (.long q5), .second, .val (.int v11_6c), .val (.int v12_40c), .val (.ref b1), .val (.int v14_81), .unset, .unset, .unset, .unset, .unset, .unset] []))
            refine Go.of (fun t k => XS.aload X_81.here hx rfl (hb hby at_88) rfl rfl k) ?_
            show Go p e below s _ _ _ (T_81.setTop (mkF m 90 #[.val (.int p0), .val (.long q1), .second, .val (.long q2), .second, .val (.long q3), .second, .val (.long q4), .second, .val (.long q5), .second, .val (.int v11_6c), .val (.int v12_40c), .val (.ref b1), .val (.int v14_81), .unset, .unset, .unset, .unset, .unset, .unset] [(.ref b1)]))
            refine Go.of (fun t k => XS.iload X_81.here hx rfl (hb hby at_90) rfl k) ?_
            show Go p e below s _ _ _ (T_81.setTop (mkF m 92 #[.val (.int p0), .val (.long q1), .second, .val (.long q2), .second, .val (.long q3), .second, .val (.long q4), .second, .val (.long q5), .second, .val (.int v11_6c), .val (.int v12_40c), .val (.ref b1), .val (.int v14_81), .unset, .unset, .unset, .unset, .unset, .unset] [(.int v14_81), (.ref b1)]))
            refine Go.of (fun t k => XS.iconst X_81.here hx rfl (hb hby at_92) k) ?_
            show Go p e below s _ _ _ (T_81.setTop (mkF m 93 #[.val (.int p0), .val (.long q1), .second, .val (.long q2), .second, .val (.long q3), .second, .val (.long q4), .second, .val (.long q5), .second, .val (.int v11_6c), .val (.int v12_40c), .val (.ref b1), .val (.int v14_81), .unset, .unset, .unset, .unset, .unset, .unset] [(.int (2 : Int32)), (.int v14_81), (.ref b1)]))
            obtain ⟨cl47, Ar47, q47, S47, M47, H47, G47⟩ := id V_b1_81
            have hin47 : ¬ (v14_81 < 0 ∨ cl47.slots.size ≤ (v14_81).toNatClampNeg) := (inb_of S47 (own_sin2 hm_6c hn_40c ok_81 hc85_46))
            obtain ⟨T47, h47, X47, e47, W47, st47⟩ := stI X_81 hx hZ e_81 Ar47 (j := v14_81) hin47 (g := (mkF m 93 #[.val (.int p0), .val (.long q1), .second, .val (.long q2), .second, .val (.long q3), .second, .val (.long q4), .second, .val (.long q5), .second, .val (.int v11_6c), .val (.int v12_40c), .val (.ref b1), .val (.int v14_81), .unset, .unset, .unset, .unset, .unset, .unset] [(.int (2 : Int32)), (.int v14_81), (.ref b1)])) rfl rfl (hb hby at_93)
            have f48 : Arv Z h47 b1 k1 .int v12_40c ((L_b1_81.set (v14_81).toNatClampNeg (2 : Int32)).map Value.int) (.int (0 : Int32)) := by rw [List.map_set]; exact Arv.set Ar47 q47 S47 M47 H47 G47 rfl W47 _ rfl (by rw [List.length_map]; exact (own_slen2 hm_6c ok_81))
            have N47 := Fr.snoc X47 N_81 g_b1
            have K47 : Keep h0 h47 [] := Keep.wr K_81 W47 (Or.inr sz_b1)
            refine Go.of st47 ?_
            show Go p e below s _ _ _ (T47.setTop (mkF m 94 #[.val (.int p0), .val (.long q1), .second, .val (.long q2), .second, .val (.long q3), .second, .val (.long q4), .second, .val (.long q5), .second, .val (.int v11_6c), .val (.int v12_40c), .val (.ref b1), .val (.int v14_81), .unset, .unset, .unset, .unset, .unset, .unset] []))
            refine Go.of (fun t k => XS.iinc X47.here hx rfl (hb hby at_94) rfl (l' := #[.val (.int p0), .val (.long q1), .second, .val (.long q2), .second, .val (.long q3), .second, .val (.long q4), .second, .val (.long q5), .second, .val (.int v11_6c), .val (.int v12_40c), .val (.ref b1), .val (.int (v14_81 + (1 : Int32))), .unset, .unset, .unset, .unset, .unset, .unset]) rfl k) ?_
            show Go p e below s _ _ _ (T47.setTop (mkF m 97 #[.val (.int p0), .val (.long q1), .second, .val (.long q2), .second, .val (.long q3), .second, .val (.long q4), .second, .val (.long q5), .second, .val (.int v11_6c), .val (.int v12_40c), .val (.ref b1), .val (.int (v14_81 + (1 : Int32))), .unset, .unset, .unset, .unset, .unset, .unset] []))
            exact jn97 (v14_81 + (1 : Int32)) (L_b1_81.set (v14_81).toNatClampNeg (2 : Int32)) _ T47 _ X47 e47 N47 K47 f48 (own_yes3 ok_81 hc85_46)
        by_cases hc69_49 : (v11_6c &&& (2 : Int32)) = (0 : Int32)
        · rewrite [if_pos hc69_49]
          refine Go.of (fun t k => XS.ifYes X_65.here hx rfl (pc0 := 69) (pc' := 81) rfl (hb hby at_69) rfl ((if0 _ _).trans (teq hc69_49).1) (by decide) (by decide) k) ?_
          show Go p e below s _ _ _ (T_65.setTop (mkF m 81 #[.val (.int p0), .val (.long q1), .second, .val (.long q2), .second, .val (.long q3), .second, .val (.long q4), .second, .val (.long q5), .second, .val (.int v11_6c), .val (.int v12_40c), .val (.ref b1), .val (.int v14_65), .unset, .unset, .unset, .unset, .unset, .unset] []))
          exact jn81 v14_65 L_b1_65 _ T_65 _ X_65 e_65 N_65 K_65 V_b1_65 (own_no2 ok_65 hc69_49)
        · rewrite [if_neg hc69_49]
          refine Go.of (fun t k => XS.ifNo X_65.here hx rfl (hb hby at_69) rfl ((if0 _ _).trans (feq hc69_49).1) k) ?_
          show Go p e below s _ _ _ (T_65.setTop (mkF m 72 #[.val (.int p0), .val (.long q1), .second, .val (.long q2), .second, .val (.long q3), .second, .val (.long q4), .second, .val (.long q5), .second, .val (.int v11_6c), .val (.int v12_40c), .val (.ref b1), .val (.int v14_65), .unset, .unset, .unset, .unset, .unset, .unset] []))
          refine Go.of (fun t k => XS.aload X_65.here hx rfl (hb hby at_72) rfl rfl k) ?_
          show Go p e below s _ _ _ (T_65.setTop (mkF m 74 #[.val (.int p0), .val (.long q1), .second, .val (.long q2), .second, .val (.long q3), .second, .val (.long q4), .second, .val (.long q5), .second, .val (.int v11_6c), .val (.int v12_40c), .val (.ref b1), .val (.int v14_65), .unset, .unset, .unset, .unset, .unset, .unset] [(.ref b1)]))
          refine Go.of (fun t k => XS.iload X_65.here hx rfl (hb hby at_74) rfl k) ?_
          show Go p e below s _ _ _ (T_65.setTop (mkF m 76 #[.val (.int p0), .val (.long q1), .second, .val (.long q2), .second, .val (.long q3), .second, .val (.long q4), .second, .val (.long q5), .second, .val (.int v11_6c), .val (.int v12_40c), .val (.ref b1), .val (.int v14_65), .unset, .unset, .unset, .unset, .unset, .unset] [(.int v14_65), (.ref b1)]))
          refine Go.of (fun t k => XS.iconst X_65.here hx rfl (hb hby at_76) k) ?_
          show Go p e below s _ _ _ (T_65.setTop (mkF m 77 #[.val (.int p0), .val (.long q1), .second, .val (.long q2), .second, .val (.long q3), .second, .val (.long q4), .second, .val (.long q5), .second, .val (.int v11_6c), .val (.int v12_40c), .val (.ref b1), .val (.int v14_65), .unset, .unset, .unset, .unset, .unset, .unset] [(.int (1 : Int32)), (.int v14_65), (.ref b1)]))
          obtain ⟨cl50, Ar50, q50, S50, M50, H50, G50⟩ := id V_b1_65
          have hin50 : ¬ (v14_65 < 0 ∨ cl50.slots.size ≤ (v14_65).toNatClampNeg) := (inb_of S50 (own_sin1 hm_6c hn_40c ok_65 hc69_49))
          obtain ⟨T50, h50, X50, e50, W50, st50⟩ := stI X_65 hx hZ e_65 Ar50 (j := v14_65) hin50 (g := (mkF m 77 #[.val (.int p0), .val (.long q1), .second, .val (.long q2), .second, .val (.long q3), .second, .val (.long q4), .second, .val (.long q5), .second, .val (.int v11_6c), .val (.int v12_40c), .val (.ref b1), .val (.int v14_65), .unset, .unset, .unset, .unset, .unset, .unset] [(.int (1 : Int32)), (.int v14_65), (.ref b1)])) rfl rfl (hb hby at_77)
          have f51 : Arv Z h50 b1 k1 .int v12_40c ((L_b1_65.set (v14_65).toNatClampNeg (1 : Int32)).map Value.int) (.int (0 : Int32)) := by rw [List.map_set]; exact Arv.set Ar50 q50 S50 M50 H50 G50 rfl W50 _ rfl (by rw [List.length_map]; exact (own_slen1 hm_6c ok_65))
          have N50 := Fr.snoc X50 N_65 g_b1
          have K50 : Keep h0 h50 [] := Keep.wr K_65 W50 (Or.inr sz_b1)
          refine Go.of st50 ?_
          show Go p e below s _ _ _ (T50.setTop (mkF m 78 #[.val (.int p0), .val (.long q1), .second, .val (.long q2), .second, .val (.long q3), .second, .val (.long q4), .second, .val (.long q5), .second, .val (.int v11_6c), .val (.int v12_40c), .val (.ref b1), .val (.int v14_65), .unset, .unset, .unset, .unset, .unset, .unset] []))
          refine Go.of (fun t k => XS.iinc X50.here hx rfl (hb hby at_78) rfl (l' := #[.val (.int p0), .val (.long q1), .second, .val (.long q2), .second, .val (.long q3), .second, .val (.long q4), .second, .val (.long q5), .second, .val (.int v11_6c), .val (.int v12_40c), .val (.ref b1), .val (.int (v14_65 + (1 : Int32))), .unset, .unset, .unset, .unset, .unset, .unset]) rfl k) ?_
          show Go p e below s _ _ _ (T50.setTop (mkF m 81 #[.val (.int p0), .val (.long q1), .second, .val (.long q2), .second, .val (.long q3), .second, .val (.long q4), .second, .val (.long q5), .second, .val (.int v11_6c), .val (.int v12_40c), .val (.ref b1), .val (.int (v14_65 + (1 : Int32))), .unset, .unset, .unset, .unset, .unset, .unset] []))
          exact jn81 (v14_65 + (1 : Int32)) (L_b1_65.set (v14_65).toNatClampNeg (1 : Int32)) _ T50 _ X50 e50 N50 K50 f51 (own_yes2 ok_65 hc69_49)
      by_cases hc53_52 : (v11_6c &&& (1 : Int32)) = (0 : Int32)
      · rewrite [if_pos hc53_52]
        refine Go.of (fun t k => XS.ifYes X1.here hx rfl (pc0 := 53) (pc' := 65) rfl (hb hby at_53) rfl ((if0 _ _).trans (teq hc53_52).1) (by decide) (by decide) k) ?_
        show Go p e below s _ _ _ (T1.setTop (mkF m 65 #[.val (.int p0), .val (.long q1), .second, .val (.long q2), .second, .val (.long q3), .second, .val (.long q4), .second, .val (.long q5), .second, .val (.int v11_6c), .val (.int v12_40c), .val (.ref b1), .val (.int (0 : Int32)), .unset, .unset, .unset, .unset, .unset, .unset] []))
        exact jn65 (0 : Int32) [(0 : Int32), (0 : Int32), (0 : Int32), (0 : Int32), (0 : Int32)] _ T1 _ X1 e1 N0 K1 f2 (own_no1 (own_ok0 v11_6c) hc53_52)
      · rewrite [if_neg hc53_52]
        refine Go.of (fun t k => XS.ifNo X1.here hx rfl (hb hby at_53) rfl ((if0 _ _).trans (feq hc53_52).1) k) ?_
        show Go p e below s _ _ _ (T1.setTop (mkF m 56 #[.val (.int p0), .val (.long q1), .second, .val (.long q2), .second, .val (.long q3), .second, .val (.long q4), .second, .val (.long q5), .second, .val (.int v11_6c), .val (.int v12_40c), .val (.ref b1), .val (.int (0 : Int32)), .unset, .unset, .unset, .unset, .unset, .unset] []))
        refine Go.of (fun t k => XS.aload X1.here hx rfl (hb hby at_56) rfl rfl k) ?_
        show Go p e below s _ _ _ (T1.setTop (mkF m 58 #[.val (.int p0), .val (.long q1), .second, .val (.long q2), .second, .val (.long q3), .second, .val (.long q4), .second, .val (.long q5), .second, .val (.int v11_6c), .val (.int v12_40c), .val (.ref b1), .val (.int (0 : Int32)), .unset, .unset, .unset, .unset, .unset, .unset] [(.ref b1)]))
        refine Go.of (fun t k => XS.iload X1.here hx rfl (hb hby at_58) rfl k) ?_
        show Go p e below s _ _ _ (T1.setTop (mkF m 60 #[.val (.int p0), .val (.long q1), .second, .val (.long q2), .second, .val (.long q3), .second, .val (.long q4), .second, .val (.long q5), .second, .val (.int v11_6c), .val (.int v12_40c), .val (.ref b1), .val (.int (0 : Int32)), .unset, .unset, .unset, .unset, .unset, .unset] [(.int (0 : Int32)), (.ref b1)]))
        refine Go.of (fun t k => XS.iconst X1.here hx rfl (hb hby at_60) k) ?_
        show Go p e below s _ _ _ (T1.setTop (mkF m 61 #[.val (.int p0), .val (.long q1), .second, .val (.long q2), .second, .val (.long q3), .second, .val (.long q4), .second, .val (.long q5), .second, .val (.int v11_6c), .val (.int v12_40c), .val (.ref b1), .val (.int (0 : Int32)), .unset, .unset, .unset, .unset, .unset, .unset] [(.int (0 : Int32)), (.int (0 : Int32)), (.ref b1)]))
        obtain ⟨cl53, Ar53, q53, S53, M53, H53, G53⟩ := id f2
        have hin53 : ¬ ((0 : Int32) < 0 ∨ cl53.slots.size ≤ ((0 : Int32)).toNatClampNeg) := (inb_of S53 (own_sin0 hm_6c hn_40c (own_ok0 v11_6c) hc53_52))
        obtain ⟨T53, h53, X53, e53, W53, st53⟩ := stI X1 hx hZ e1 Ar53 (j := (0 : Int32)) hin53 (g := (mkF m 61 #[.val (.int p0), .val (.long q1), .second, .val (.long q2), .second, .val (.long q3), .second, .val (.long q4), .second, .val (.long q5), .second, .val (.int v11_6c), .val (.int v12_40c), .val (.ref b1), .val (.int (0 : Int32)), .unset, .unset, .unset, .unset, .unset, .unset] [(.int (0 : Int32)), (.int (0 : Int32)), (.ref b1)])) rfl rfl (hb hby at_61)
        have f54 : Arv Z h53 b1 k1 .int v12_40c (([(0 : Int32), (0 : Int32), (0 : Int32), (0 : Int32), (0 : Int32)].set ((0 : Int32)).toNatClampNeg (0 : Int32)).map Value.int) (.int (0 : Int32)) := by rw [List.map_set]; exact Arv.set Ar53 q53 S53 M53 H53 G53 rfl W53 _ rfl (by rw [List.length_map]; exact (own_slen0 hm_6c (own_ok0 v11_6c)))
        have N53 := Fr.snoc X53 N0 g_b1
        have K53 : Keep h0 h53 [] := Keep.wr K1 W53 (Or.inr sz_b1)
        refine Go.of st53 ?_
        show Go p e below s _ _ _ (T53.setTop (mkF m 62 #[.val (.int p0), .val (.long q1), .second, .val (.long q2), .second, .val (.long q3), .second, .val (.long q4), .second, .val (.long q5), .second, .val (.int v11_6c), .val (.int v12_40c), .val (.ref b1), .val (.int (0 : Int32)), .unset, .unset, .unset, .unset, .unset, .unset] []))
        refine Go.of (fun t k => XS.iinc X53.here hx rfl (hb hby at_62) rfl (l' := #[.val (.int p0), .val (.long q1), .second, .val (.long q2), .second, .val (.long q3), .second, .val (.long q4), .second, .val (.long q5), .second, .val (.int v11_6c), .val (.int v12_40c), .val (.ref b1), .val (.int ((0 : Int32) + (1 : Int32))), .unset, .unset, .unset, .unset, .unset, .unset]) rfl k) ?_
        show Go p e below s _ _ _ (T53.setTop (mkF m 65 #[.val (.int p0), .val (.long q1), .second, .val (.long q2), .second, .val (.long q3), .second, .val (.long q4), .second, .val (.long q5), .second, .val (.int v11_6c), .val (.int v12_40c), .val (.ref b1), .val (.int ((0 : Int32) + (1 : Int32))), .unset, .unset, .unset, .unset, .unset, .unset] []))
        exact jn65 ((0 : Int32) + (1 : Int32)) ([(0 : Int32), (0 : Int32), (0 : Int32), (0 : Int32), (0 : Int32)].set ((0 : Int32)).toNatClampNeg (0 : Int32)) _ T53 _ X53 e53 N53 K53 f54 (own_yes1 (own_ok0 v11_6c) hc53_52)
    exact jn40c (((((v11_6c &&& (1 : Int32)) + ((v11_6c >>> ((1 : Int32) &&& 31)) &&& (1 : Int32))) + ((v11_6c >>> ((2 : Int32) &&& 31)) &&& (1 : Int32))) + ((v11_6c >>> ((3 : Int32) &&& 31)) &&& (1 : Int32))) + ((v11_6c >>> ((4 : Int32) &&& 31)) &&& (1 : Int32))) (rfl)
  exact jn6c (p0 &&& (31 : Int32)) (own_hm p0)
theorem own_k0 (a b c d e : Int64) : F0_6c a b c d e (0 : Int32) = 1 := by
  have h0 : (((0 : Int32) &&& (1 : Int32)) = (0 : Int32)) := by decide
  have h1 : (((0 : Int32) &&& (2 : Int32)) = (0 : Int32)) := by decide
  have h2 : (((0 : Int32) &&& (4 : Int32)) = (0 : Int32)) := by decide
  have h3 : (((0 : Int32) &&& (8 : Int32)) = (0 : Int32)) := by decide
  have h4 : (((0 : Int32) &&& (16 : Int32)) = (0 : Int32)) := by decide
  have hn : own_n (0 : Int32) = (0 : Int32) := by decide
  show F0_40c a b c d e (0 : Int32) (own_n (0 : Int32)) = 1
  rw [hn]
  simp [F0_40c, F0_65, F0_81, F0_97, F0_114, F0_131, F0_189, F0_202, F0_216, F0_231, F0_246, F0_298, F0_299, F1, F1_13, h0, h1, h2, h3, h4]
theorem own_k1 (a b c d e : Int64) : F0_6c a b c d e (1 : Int32) = 1 := by
  have h0 : ¬ (((1 : Int32) &&& (1 : Int32)) = (0 : Int32)) := by decide
  have h1 : (((1 : Int32) &&& (2 : Int32)) = (0 : Int32)) := by decide
  have h2 : (((1 : Int32) &&& (4 : Int32)) = (0 : Int32)) := by decide
  have h3 : (((1 : Int32) &&& (8 : Int32)) = (0 : Int32)) := by decide
  have h4 : (((1 : Int32) &&& (16 : Int32)) = (0 : Int32)) := by decide
  have hn : own_n (1 : Int32) = (1 : Int32) := by decide
  show F0_40c a b c d e (1 : Int32) (own_n (1 : Int32)) = 1
  rw [hn]
  simp [F0_40c, F0_65, F0_81, F0_97, F0_114, F0_131, F0_189, F0_202, F0_216, F0_231, F0_246, F0_298, F0_299, F1, F1_13, h0, h1, h2, h3, h4]
theorem own_k2 (a b c d e : Int64) : F0_6c a b c d e (2 : Int32) = 1 := by
  have h0 : (((2 : Int32) &&& (1 : Int32)) = (0 : Int32)) := by decide
  have h1 : ¬ (((2 : Int32) &&& (2 : Int32)) = (0 : Int32)) := by decide
  have h2 : (((2 : Int32) &&& (4 : Int32)) = (0 : Int32)) := by decide
  have h3 : (((2 : Int32) &&& (8 : Int32)) = (0 : Int32)) := by decide
  have h4 : (((2 : Int32) &&& (16 : Int32)) = (0 : Int32)) := by decide
  have hn : own_n (2 : Int32) = (1 : Int32) := by decide
  show F0_40c a b c d e (2 : Int32) (own_n (2 : Int32)) = 1
  rw [hn]
  simp [F0_40c, F0_65, F0_81, F0_97, F0_114, F0_131, F0_189, F0_202, F0_216, F0_231, F0_246, F0_298, F0_299, F1, F1_13, h0, h1, h2, h3, h4]
theorem own_k3 (a b c d e : Int64) : F0_6c a b c d e (3 : Int32) = 1 := by
  have h0 : ¬ (((3 : Int32) &&& (1 : Int32)) = (0 : Int32)) := by decide
  have h1 : ¬ (((3 : Int32) &&& (2 : Int32)) = (0 : Int32)) := by decide
  have h2 : (((3 : Int32) &&& (4 : Int32)) = (0 : Int32)) := by decide
  have h3 : (((3 : Int32) &&& (8 : Int32)) = (0 : Int32)) := by decide
  have h4 : (((3 : Int32) &&& (16 : Int32)) = (0 : Int32)) := by decide
  have hn : own_n (3 : Int32) = (2 : Int32) := by decide
  show F0_40c a b c d e (3 : Int32) (own_n (3 : Int32)) = 1
  rw [hn]
  simp [F0_40c, F0_65, F0_81, F0_97, F0_114, F0_131, F0_189, F0_202, F0_216, F0_231, F0_246, F0_298, F0_299, F1, F1_13, h0, h1, h2, h3, h4]
theorem own_k4 (a b c d e : Int64) : F0_6c a b c d e (4 : Int32) = 1 := by
  have h0 : (((4 : Int32) &&& (1 : Int32)) = (0 : Int32)) := by decide
  have h1 : (((4 : Int32) &&& (2 : Int32)) = (0 : Int32)) := by decide
  have h2 : ¬ (((4 : Int32) &&& (4 : Int32)) = (0 : Int32)) := by decide
  have h3 : (((4 : Int32) &&& (8 : Int32)) = (0 : Int32)) := by decide
  have h4 : (((4 : Int32) &&& (16 : Int32)) = (0 : Int32)) := by decide
  have hn : own_n (4 : Int32) = (1 : Int32) := by decide
  show F0_40c a b c d e (4 : Int32) (own_n (4 : Int32)) = 1
  rw [hn]
  simp [F0_40c, F0_65, F0_81, F0_97, F0_114, F0_131, F0_189, F0_202, F0_216, F0_231, F0_246, F0_298, F0_299, F1, F1_13, h0, h1, h2, h3, h4]
theorem own_k5 (a b c d e : Int64) : F0_6c a b c d e (5 : Int32) = 1 := by
  have h0 : ¬ (((5 : Int32) &&& (1 : Int32)) = (0 : Int32)) := by decide
  have h1 : (((5 : Int32) &&& (2 : Int32)) = (0 : Int32)) := by decide
  have h2 : ¬ (((5 : Int32) &&& (4 : Int32)) = (0 : Int32)) := by decide
  have h3 : (((5 : Int32) &&& (8 : Int32)) = (0 : Int32)) := by decide
  have h4 : (((5 : Int32) &&& (16 : Int32)) = (0 : Int32)) := by decide
  have hn : own_n (5 : Int32) = (2 : Int32) := by decide
  show F0_40c a b c d e (5 : Int32) (own_n (5 : Int32)) = 1
  rw [hn]
  simp [F0_40c, F0_65, F0_81, F0_97, F0_114, F0_131, F0_189, F0_202, F0_216, F0_231, F0_246, F0_298, F0_299, F1, F1_13, h0, h1, h2, h3, h4]
theorem own_k6 (a b c d e : Int64) : F0_6c a b c d e (6 : Int32) = 1 := by
  have h0 : (((6 : Int32) &&& (1 : Int32)) = (0 : Int32)) := by decide
  have h1 : ¬ (((6 : Int32) &&& (2 : Int32)) = (0 : Int32)) := by decide
  have h2 : ¬ (((6 : Int32) &&& (4 : Int32)) = (0 : Int32)) := by decide
  have h3 : (((6 : Int32) &&& (8 : Int32)) = (0 : Int32)) := by decide
  have h4 : (((6 : Int32) &&& (16 : Int32)) = (0 : Int32)) := by decide
  have hn : own_n (6 : Int32) = (2 : Int32) := by decide
  show F0_40c a b c d e (6 : Int32) (own_n (6 : Int32)) = 1
  rw [hn]
  simp [F0_40c, F0_65, F0_81, F0_97, F0_114, F0_131, F0_189, F0_202, F0_216, F0_231, F0_246, F0_298, F0_299, F1, F1_13, h0, h1, h2, h3, h4]
theorem own_k7 (a b c d e : Int64) : F0_6c a b c d e (7 : Int32) = 1 := by
  have h0 : ¬ (((7 : Int32) &&& (1 : Int32)) = (0 : Int32)) := by decide
  have h1 : ¬ (((7 : Int32) &&& (2 : Int32)) = (0 : Int32)) := by decide
  have h2 : ¬ (((7 : Int32) &&& (4 : Int32)) = (0 : Int32)) := by decide
  have h3 : (((7 : Int32) &&& (8 : Int32)) = (0 : Int32)) := by decide
  have h4 : (((7 : Int32) &&& (16 : Int32)) = (0 : Int32)) := by decide
  have hn : own_n (7 : Int32) = (3 : Int32) := by decide
  show F0_40c a b c d e (7 : Int32) (own_n (7 : Int32)) = 1
  rw [hn]
  simp [F0_40c, F0_65, F0_81, F0_97, F0_114, F0_131, F0_189, F0_202, F0_216, F0_231, F0_246, F0_298, F0_299, F1, F1_13, h0, h1, h2, h3, h4]
theorem own_k8 (a b c d e : Int64) : F0_6c a b c d e (8 : Int32) = 1 := by
  have h0 : (((8 : Int32) &&& (1 : Int32)) = (0 : Int32)) := by decide
  have h1 : (((8 : Int32) &&& (2 : Int32)) = (0 : Int32)) := by decide
  have h2 : (((8 : Int32) &&& (4 : Int32)) = (0 : Int32)) := by decide
  have h3 : ¬ (((8 : Int32) &&& (8 : Int32)) = (0 : Int32)) := by decide
  have h4 : (((8 : Int32) &&& (16 : Int32)) = (0 : Int32)) := by decide
  have hn : own_n (8 : Int32) = (1 : Int32) := by decide
  show F0_40c a b c d e (8 : Int32) (own_n (8 : Int32)) = 1
  rw [hn]
  simp [F0_40c, F0_65, F0_81, F0_97, F0_114, F0_131, F0_189, F0_202, F0_216, F0_231, F0_246, F0_298, F0_299, F1, F1_13, h0, h1, h2, h3, h4]
theorem own_k9 (a b c d e : Int64) : F0_6c a b c d e (9 : Int32) = 1 := by
  have h0 : ¬ (((9 : Int32) &&& (1 : Int32)) = (0 : Int32)) := by decide
  have h1 : (((9 : Int32) &&& (2 : Int32)) = (0 : Int32)) := by decide
  have h2 : (((9 : Int32) &&& (4 : Int32)) = (0 : Int32)) := by decide
  have h3 : ¬ (((9 : Int32) &&& (8 : Int32)) = (0 : Int32)) := by decide
  have h4 : (((9 : Int32) &&& (16 : Int32)) = (0 : Int32)) := by decide
  have hn : own_n (9 : Int32) = (2 : Int32) := by decide
  show F0_40c a b c d e (9 : Int32) (own_n (9 : Int32)) = 1
  rw [hn]
  simp [F0_40c, F0_65, F0_81, F0_97, F0_114, F0_131, F0_189, F0_202, F0_216, F0_231, F0_246, F0_298, F0_299, F1, F1_13, h0, h1, h2, h3, h4]
theorem own_k10 (a b c d e : Int64) : F0_6c a b c d e (10 : Int32) = 1 := by
  have h0 : (((10 : Int32) &&& (1 : Int32)) = (0 : Int32)) := by decide
  have h1 : ¬ (((10 : Int32) &&& (2 : Int32)) = (0 : Int32)) := by decide
  have h2 : (((10 : Int32) &&& (4 : Int32)) = (0 : Int32)) := by decide
  have h3 : ¬ (((10 : Int32) &&& (8 : Int32)) = (0 : Int32)) := by decide
  have h4 : (((10 : Int32) &&& (16 : Int32)) = (0 : Int32)) := by decide
  have hn : own_n (10 : Int32) = (2 : Int32) := by decide
  show F0_40c a b c d e (10 : Int32) (own_n (10 : Int32)) = 1
  rw [hn]
  simp [F0_40c, F0_65, F0_81, F0_97, F0_114, F0_131, F0_189, F0_202, F0_216, F0_231, F0_246, F0_298, F0_299, F1, F1_13, h0, h1, h2, h3, h4]
theorem own_k11 (a b c d e : Int64) : F0_6c a b c d e (11 : Int32) = 1 := by
  have h0 : ¬ (((11 : Int32) &&& (1 : Int32)) = (0 : Int32)) := by decide
  have h1 : ¬ (((11 : Int32) &&& (2 : Int32)) = (0 : Int32)) := by decide
  have h2 : (((11 : Int32) &&& (4 : Int32)) = (0 : Int32)) := by decide
  have h3 : ¬ (((11 : Int32) &&& (8 : Int32)) = (0 : Int32)) := by decide
  have h4 : (((11 : Int32) &&& (16 : Int32)) = (0 : Int32)) := by decide
  have hn : own_n (11 : Int32) = (3 : Int32) := by decide
  show F0_40c a b c d e (11 : Int32) (own_n (11 : Int32)) = 1
  rw [hn]
  simp [F0_40c, F0_65, F0_81, F0_97, F0_114, F0_131, F0_189, F0_202, F0_216, F0_231, F0_246, F0_298, F0_299, F1, F1_13, h0, h1, h2, h3, h4]
theorem own_k12 (a b c d e : Int64) : F0_6c a b c d e (12 : Int32) = 1 := by
  have h0 : (((12 : Int32) &&& (1 : Int32)) = (0 : Int32)) := by decide
  have h1 : (((12 : Int32) &&& (2 : Int32)) = (0 : Int32)) := by decide
  have h2 : ¬ (((12 : Int32) &&& (4 : Int32)) = (0 : Int32)) := by decide
  have h3 : ¬ (((12 : Int32) &&& (8 : Int32)) = (0 : Int32)) := by decide
  have h4 : (((12 : Int32) &&& (16 : Int32)) = (0 : Int32)) := by decide
  have hn : own_n (12 : Int32) = (2 : Int32) := by decide
  show F0_40c a b c d e (12 : Int32) (own_n (12 : Int32)) = 1
  rw [hn]
  simp [F0_40c, F0_65, F0_81, F0_97, F0_114, F0_131, F0_189, F0_202, F0_216, F0_231, F0_246, F0_298, F0_299, F1, F1_13, h0, h1, h2, h3, h4]
theorem own_k13 (a b c d e : Int64) : F0_6c a b c d e (13 : Int32) = 1 := by
  have h0 : ¬ (((13 : Int32) &&& (1 : Int32)) = (0 : Int32)) := by decide
  have h1 : (((13 : Int32) &&& (2 : Int32)) = (0 : Int32)) := by decide
  have h2 : ¬ (((13 : Int32) &&& (4 : Int32)) = (0 : Int32)) := by decide
  have h3 : ¬ (((13 : Int32) &&& (8 : Int32)) = (0 : Int32)) := by decide
  have h4 : (((13 : Int32) &&& (16 : Int32)) = (0 : Int32)) := by decide
  have hn : own_n (13 : Int32) = (3 : Int32) := by decide
  show F0_40c a b c d e (13 : Int32) (own_n (13 : Int32)) = 1
  rw [hn]
  simp [F0_40c, F0_65, F0_81, F0_97, F0_114, F0_131, F0_189, F0_202, F0_216, F0_231, F0_246, F0_298, F0_299, F1, F1_13, h0, h1, h2, h3, h4]
theorem own_k14 (a b c d e : Int64) : F0_6c a b c d e (14 : Int32) = 1 := by
  have h0 : (((14 : Int32) &&& (1 : Int32)) = (0 : Int32)) := by decide
  have h1 : ¬ (((14 : Int32) &&& (2 : Int32)) = (0 : Int32)) := by decide
  have h2 : ¬ (((14 : Int32) &&& (4 : Int32)) = (0 : Int32)) := by decide
  have h3 : ¬ (((14 : Int32) &&& (8 : Int32)) = (0 : Int32)) := by decide
  have h4 : (((14 : Int32) &&& (16 : Int32)) = (0 : Int32)) := by decide
  have hn : own_n (14 : Int32) = (3 : Int32) := by decide
  show F0_40c a b c d e (14 : Int32) (own_n (14 : Int32)) = 1
  rw [hn]
  simp [F0_40c, F0_65, F0_81, F0_97, F0_114, F0_131, F0_189, F0_202, F0_216, F0_231, F0_246, F0_298, F0_299, F1, F1_13, h0, h1, h2, h3, h4]
theorem own_k15 (a b c d e : Int64) : F0_6c a b c d e (15 : Int32) = 1 := by
  have h0 : ¬ (((15 : Int32) &&& (1 : Int32)) = (0 : Int32)) := by decide
  have h1 : ¬ (((15 : Int32) &&& (2 : Int32)) = (0 : Int32)) := by decide
  have h2 : ¬ (((15 : Int32) &&& (4 : Int32)) = (0 : Int32)) := by decide
  have h3 : ¬ (((15 : Int32) &&& (8 : Int32)) = (0 : Int32)) := by decide
  have h4 : (((15 : Int32) &&& (16 : Int32)) = (0 : Int32)) := by decide
  have hn : own_n (15 : Int32) = (4 : Int32) := by decide
  show F0_40c a b c d e (15 : Int32) (own_n (15 : Int32)) = 1
  rw [hn]
  simp [F0_40c, F0_65, F0_81, F0_97, F0_114, F0_131, F0_189, F0_202, F0_216, F0_231, F0_246, F0_298, F0_299, F1, F1_13, h0, h1, h2, h3, h4]
theorem own_k16 (a b c d e : Int64) : F0_6c a b c d e (16 : Int32) = 1 := by
  have h0 : (((16 : Int32) &&& (1 : Int32)) = (0 : Int32)) := by decide
  have h1 : (((16 : Int32) &&& (2 : Int32)) = (0 : Int32)) := by decide
  have h2 : (((16 : Int32) &&& (4 : Int32)) = (0 : Int32)) := by decide
  have h3 : (((16 : Int32) &&& (8 : Int32)) = (0 : Int32)) := by decide
  have h4 : ¬ (((16 : Int32) &&& (16 : Int32)) = (0 : Int32)) := by decide
  have hn : own_n (16 : Int32) = (1 : Int32) := by decide
  show F0_40c a b c d e (16 : Int32) (own_n (16 : Int32)) = 1
  rw [hn]
  simp [F0_40c, F0_65, F0_81, F0_97, F0_114, F0_131, F0_189, F0_202, F0_216, F0_231, F0_246, F0_298, F0_299, F1, F1_13, h0, h1, h2, h3, h4]
theorem own_k17 (a b c d e : Int64) : F0_6c a b c d e (17 : Int32) = 1 := by
  have h0 : ¬ (((17 : Int32) &&& (1 : Int32)) = (0 : Int32)) := by decide
  have h1 : (((17 : Int32) &&& (2 : Int32)) = (0 : Int32)) := by decide
  have h2 : (((17 : Int32) &&& (4 : Int32)) = (0 : Int32)) := by decide
  have h3 : (((17 : Int32) &&& (8 : Int32)) = (0 : Int32)) := by decide
  have h4 : ¬ (((17 : Int32) &&& (16 : Int32)) = (0 : Int32)) := by decide
  have hn : own_n (17 : Int32) = (2 : Int32) := by decide
  show F0_40c a b c d e (17 : Int32) (own_n (17 : Int32)) = 1
  rw [hn]
  simp [F0_40c, F0_65, F0_81, F0_97, F0_114, F0_131, F0_189, F0_202, F0_216, F0_231, F0_246, F0_298, F0_299, F1, F1_13, h0, h1, h2, h3, h4]
theorem own_k18 (a b c d e : Int64) : F0_6c a b c d e (18 : Int32) = 1 := by
  have h0 : (((18 : Int32) &&& (1 : Int32)) = (0 : Int32)) := by decide
  have h1 : ¬ (((18 : Int32) &&& (2 : Int32)) = (0 : Int32)) := by decide
  have h2 : (((18 : Int32) &&& (4 : Int32)) = (0 : Int32)) := by decide
  have h3 : (((18 : Int32) &&& (8 : Int32)) = (0 : Int32)) := by decide
  have h4 : ¬ (((18 : Int32) &&& (16 : Int32)) = (0 : Int32)) := by decide
  have hn : own_n (18 : Int32) = (2 : Int32) := by decide
  show F0_40c a b c d e (18 : Int32) (own_n (18 : Int32)) = 1
  rw [hn]
  simp [F0_40c, F0_65, F0_81, F0_97, F0_114, F0_131, F0_189, F0_202, F0_216, F0_231, F0_246, F0_298, F0_299, F1, F1_13, h0, h1, h2, h3, h4]
theorem own_k19 (a b c d e : Int64) : F0_6c a b c d e (19 : Int32) = 1 := by
  have h0 : ¬ (((19 : Int32) &&& (1 : Int32)) = (0 : Int32)) := by decide
  have h1 : ¬ (((19 : Int32) &&& (2 : Int32)) = (0 : Int32)) := by decide
  have h2 : (((19 : Int32) &&& (4 : Int32)) = (0 : Int32)) := by decide
  have h3 : (((19 : Int32) &&& (8 : Int32)) = (0 : Int32)) := by decide
  have h4 : ¬ (((19 : Int32) &&& (16 : Int32)) = (0 : Int32)) := by decide
  have hn : own_n (19 : Int32) = (3 : Int32) := by decide
  show F0_40c a b c d e (19 : Int32) (own_n (19 : Int32)) = 1
  rw [hn]
  simp [F0_40c, F0_65, F0_81, F0_97, F0_114, F0_131, F0_189, F0_202, F0_216, F0_231, F0_246, F0_298, F0_299, F1, F1_13, h0, h1, h2, h3, h4]
theorem own_k20 (a b c d e : Int64) : F0_6c a b c d e (20 : Int32) = 1 := by
  have h0 : (((20 : Int32) &&& (1 : Int32)) = (0 : Int32)) := by decide
  have h1 : (((20 : Int32) &&& (2 : Int32)) = (0 : Int32)) := by decide
  have h2 : ¬ (((20 : Int32) &&& (4 : Int32)) = (0 : Int32)) := by decide
  have h3 : (((20 : Int32) &&& (8 : Int32)) = (0 : Int32)) := by decide
  have h4 : ¬ (((20 : Int32) &&& (16 : Int32)) = (0 : Int32)) := by decide
  have hn : own_n (20 : Int32) = (2 : Int32) := by decide
  show F0_40c a b c d e (20 : Int32) (own_n (20 : Int32)) = 1
  rw [hn]
  simp [F0_40c, F0_65, F0_81, F0_97, F0_114, F0_131, F0_189, F0_202, F0_216, F0_231, F0_246, F0_298, F0_299, F1, F1_13, h0, h1, h2, h3, h4]
theorem own_k21 (a b c d e : Int64) : F0_6c a b c d e (21 : Int32) = 1 := by
  have h0 : ¬ (((21 : Int32) &&& (1 : Int32)) = (0 : Int32)) := by decide
  have h1 : (((21 : Int32) &&& (2 : Int32)) = (0 : Int32)) := by decide
  have h2 : ¬ (((21 : Int32) &&& (4 : Int32)) = (0 : Int32)) := by decide
  have h3 : (((21 : Int32) &&& (8 : Int32)) = (0 : Int32)) := by decide
  have h4 : ¬ (((21 : Int32) &&& (16 : Int32)) = (0 : Int32)) := by decide
  have hn : own_n (21 : Int32) = (3 : Int32) := by decide
  show F0_40c a b c d e (21 : Int32) (own_n (21 : Int32)) = 1
  rw [hn]
  simp [F0_40c, F0_65, F0_81, F0_97, F0_114, F0_131, F0_189, F0_202, F0_216, F0_231, F0_246, F0_298, F0_299, F1, F1_13, h0, h1, h2, h3, h4]
theorem own_k22 (a b c d e : Int64) : F0_6c a b c d e (22 : Int32) = 1 := by
  have h0 : (((22 : Int32) &&& (1 : Int32)) = (0 : Int32)) := by decide
  have h1 : ¬ (((22 : Int32) &&& (2 : Int32)) = (0 : Int32)) := by decide
  have h2 : ¬ (((22 : Int32) &&& (4 : Int32)) = (0 : Int32)) := by decide
  have h3 : (((22 : Int32) &&& (8 : Int32)) = (0 : Int32)) := by decide
  have h4 : ¬ (((22 : Int32) &&& (16 : Int32)) = (0 : Int32)) := by decide
  have hn : own_n (22 : Int32) = (3 : Int32) := by decide
  show F0_40c a b c d e (22 : Int32) (own_n (22 : Int32)) = 1
  rw [hn]
  simp [F0_40c, F0_65, F0_81, F0_97, F0_114, F0_131, F0_189, F0_202, F0_216, F0_231, F0_246, F0_298, F0_299, F1, F1_13, h0, h1, h2, h3, h4]
theorem own_k23 (a b c d e : Int64) : F0_6c a b c d e (23 : Int32) = 1 := by
  have h0 : ¬ (((23 : Int32) &&& (1 : Int32)) = (0 : Int32)) := by decide
  have h1 : ¬ (((23 : Int32) &&& (2 : Int32)) = (0 : Int32)) := by decide
  have h2 : ¬ (((23 : Int32) &&& (4 : Int32)) = (0 : Int32)) := by decide
  have h3 : (((23 : Int32) &&& (8 : Int32)) = (0 : Int32)) := by decide
  have h4 : ¬ (((23 : Int32) &&& (16 : Int32)) = (0 : Int32)) := by decide
  have hn : own_n (23 : Int32) = (4 : Int32) := by decide
  show F0_40c a b c d e (23 : Int32) (own_n (23 : Int32)) = 1
  rw [hn]
  simp [F0_40c, F0_65, F0_81, F0_97, F0_114, F0_131, F0_189, F0_202, F0_216, F0_231, F0_246, F0_298, F0_299, F1, F1_13, h0, h1, h2, h3, h4]
theorem own_k24 (a b c d e : Int64) : F0_6c a b c d e (24 : Int32) = 1 := by
  have h0 : (((24 : Int32) &&& (1 : Int32)) = (0 : Int32)) := by decide
  have h1 : (((24 : Int32) &&& (2 : Int32)) = (0 : Int32)) := by decide
  have h2 : (((24 : Int32) &&& (4 : Int32)) = (0 : Int32)) := by decide
  have h3 : ¬ (((24 : Int32) &&& (8 : Int32)) = (0 : Int32)) := by decide
  have h4 : ¬ (((24 : Int32) &&& (16 : Int32)) = (0 : Int32)) := by decide
  have hn : own_n (24 : Int32) = (2 : Int32) := by decide
  show F0_40c a b c d e (24 : Int32) (own_n (24 : Int32)) = 1
  rw [hn]
  simp [F0_40c, F0_65, F0_81, F0_97, F0_114, F0_131, F0_189, F0_202, F0_216, F0_231, F0_246, F0_298, F0_299, F1, F1_13, h0, h1, h2, h3, h4]
theorem own_k25 (a b c d e : Int64) : F0_6c a b c d e (25 : Int32) = 1 := by
  have h0 : ¬ (((25 : Int32) &&& (1 : Int32)) = (0 : Int32)) := by decide
  have h1 : (((25 : Int32) &&& (2 : Int32)) = (0 : Int32)) := by decide
  have h2 : (((25 : Int32) &&& (4 : Int32)) = (0 : Int32)) := by decide
  have h3 : ¬ (((25 : Int32) &&& (8 : Int32)) = (0 : Int32)) := by decide
  have h4 : ¬ (((25 : Int32) &&& (16 : Int32)) = (0 : Int32)) := by decide
  have hn : own_n (25 : Int32) = (3 : Int32) := by decide
  show F0_40c a b c d e (25 : Int32) (own_n (25 : Int32)) = 1
  rw [hn]
  simp [F0_40c, F0_65, F0_81, F0_97, F0_114, F0_131, F0_189, F0_202, F0_216, F0_231, F0_246, F0_298, F0_299, F1, F1_13, h0, h1, h2, h3, h4]
theorem own_k26 (a b c d e : Int64) : F0_6c a b c d e (26 : Int32) = 1 := by
  have h0 : (((26 : Int32) &&& (1 : Int32)) = (0 : Int32)) := by decide
  have h1 : ¬ (((26 : Int32) &&& (2 : Int32)) = (0 : Int32)) := by decide
  have h2 : (((26 : Int32) &&& (4 : Int32)) = (0 : Int32)) := by decide
  have h3 : ¬ (((26 : Int32) &&& (8 : Int32)) = (0 : Int32)) := by decide
  have h4 : ¬ (((26 : Int32) &&& (16 : Int32)) = (0 : Int32)) := by decide
  have hn : own_n (26 : Int32) = (3 : Int32) := by decide
  show F0_40c a b c d e (26 : Int32) (own_n (26 : Int32)) = 1
  rw [hn]
  simp [F0_40c, F0_65, F0_81, F0_97, F0_114, F0_131, F0_189, F0_202, F0_216, F0_231, F0_246, F0_298, F0_299, F1, F1_13, h0, h1, h2, h3, h4]
theorem own_k27 (a b c d e : Int64) : F0_6c a b c d e (27 : Int32) = 1 := by
  have h0 : ¬ (((27 : Int32) &&& (1 : Int32)) = (0 : Int32)) := by decide
  have h1 : ¬ (((27 : Int32) &&& (2 : Int32)) = (0 : Int32)) := by decide
  have h2 : (((27 : Int32) &&& (4 : Int32)) = (0 : Int32)) := by decide
  have h3 : ¬ (((27 : Int32) &&& (8 : Int32)) = (0 : Int32)) := by decide
  have h4 : ¬ (((27 : Int32) &&& (16 : Int32)) = (0 : Int32)) := by decide
  have hn : own_n (27 : Int32) = (4 : Int32) := by decide
  show F0_40c a b c d e (27 : Int32) (own_n (27 : Int32)) = 1
  rw [hn]
  simp [F0_40c, F0_65, F0_81, F0_97, F0_114, F0_131, F0_189, F0_202, F0_216, F0_231, F0_246, F0_298, F0_299, F1, F1_13, h0, h1, h2, h3, h4]
theorem own_k28 (a b c d e : Int64) : F0_6c a b c d e (28 : Int32) = 1 := by
  have h0 : (((28 : Int32) &&& (1 : Int32)) = (0 : Int32)) := by decide
  have h1 : (((28 : Int32) &&& (2 : Int32)) = (0 : Int32)) := by decide
  have h2 : ¬ (((28 : Int32) &&& (4 : Int32)) = (0 : Int32)) := by decide
  have h3 : ¬ (((28 : Int32) &&& (8 : Int32)) = (0 : Int32)) := by decide
  have h4 : ¬ (((28 : Int32) &&& (16 : Int32)) = (0 : Int32)) := by decide
  have hn : own_n (28 : Int32) = (3 : Int32) := by decide
  show F0_40c a b c d e (28 : Int32) (own_n (28 : Int32)) = 1
  rw [hn]
  simp [F0_40c, F0_65, F0_81, F0_97, F0_114, F0_131, F0_189, F0_202, F0_216, F0_231, F0_246, F0_298, F0_299, F1, F1_13, h0, h1, h2, h3, h4]
theorem own_k29 (a b c d e : Int64) : F0_6c a b c d e (29 : Int32) = 1 := by
  have h0 : ¬ (((29 : Int32) &&& (1 : Int32)) = (0 : Int32)) := by decide
  have h1 : (((29 : Int32) &&& (2 : Int32)) = (0 : Int32)) := by decide
  have h2 : ¬ (((29 : Int32) &&& (4 : Int32)) = (0 : Int32)) := by decide
  have h3 : ¬ (((29 : Int32) &&& (8 : Int32)) = (0 : Int32)) := by decide
  have h4 : ¬ (((29 : Int32) &&& (16 : Int32)) = (0 : Int32)) := by decide
  have hn : own_n (29 : Int32) = (4 : Int32) := by decide
  show F0_40c a b c d e (29 : Int32) (own_n (29 : Int32)) = 1
  rw [hn]
  simp [F0_40c, F0_65, F0_81, F0_97, F0_114, F0_131, F0_189, F0_202, F0_216, F0_231, F0_246, F0_298, F0_299, F1, F1_13, h0, h1, h2, h3, h4]
theorem own_k30 (a b c d e : Int64) : F0_6c a b c d e (30 : Int32) = 1 := by
  have h0 : (((30 : Int32) &&& (1 : Int32)) = (0 : Int32)) := by decide
  have h1 : ¬ (((30 : Int32) &&& (2 : Int32)) = (0 : Int32)) := by decide
  have h2 : ¬ (((30 : Int32) &&& (4 : Int32)) = (0 : Int32)) := by decide
  have h3 : ¬ (((30 : Int32) &&& (8 : Int32)) = (0 : Int32)) := by decide
  have h4 : ¬ (((30 : Int32) &&& (16 : Int32)) = (0 : Int32)) := by decide
  have hn : own_n (30 : Int32) = (4 : Int32) := by decide
  show F0_40c a b c d e (30 : Int32) (own_n (30 : Int32)) = 1
  rw [hn]
  simp [F0_40c, F0_65, F0_81, F0_97, F0_114, F0_131, F0_189, F0_202, F0_216, F0_231, F0_246, F0_298, F0_299, F1, F1_13, h0, h1, h2, h3, h4]
theorem own_k31 (a b c d e : Int64) : F0_6c a b c d e (31 : Int32) = 1 := by
  have h0 : ¬ (((31 : Int32) &&& (1 : Int32)) = (0 : Int32)) := by decide
  have h1 : ¬ (((31 : Int32) &&& (2 : Int32)) = (0 : Int32)) := by decide
  have h2 : ¬ (((31 : Int32) &&& (4 : Int32)) = (0 : Int32)) := by decide
  have h3 : ¬ (((31 : Int32) &&& (8 : Int32)) = (0 : Int32)) := by decide
  have h4 : ¬ (((31 : Int32) &&& (16 : Int32)) = (0 : Int32)) := by decide
  have hn : own_n (31 : Int32) = (5 : Int32) := by decide
  show F0_40c a b c d e (31 : Int32) (own_n (31 : Int32)) = 1
  rw [hn]
  simp [F0_40c, F0_65, F0_81, F0_97, F0_114, F0_131, F0_189, F0_202, F0_216, F0_231, F0_246, F0_298, F0_299, F1, F1_13, h0, h1, h2, h3, h4]
theorem own_6 (a b c d e : Int64) (v : Int32) (h : 0 ≤ v.toInt ∧ v.toInt < 32) : F0_6c a b c d e v = 1 := by
  obtain ⟨⟨i, hi⟩, rfl⟩ := own_cases h
  have hs : i = 0 ∨ i = 1 ∨ i = 2 ∨ i = 3 ∨ i = 4 ∨ i = 5 ∨ i = 6 ∨ i = 7 ∨ i = 8 ∨ i = 9 ∨ i = 10 ∨ i = 11 ∨ i = 12 ∨ i = 13 ∨ i = 14 ∨ i = 15 ∨ i = 16 ∨ i = 17 ∨ i = 18 ∨ i = 19 ∨ i = 20 ∨ i = 21 ∨ i = 22 ∨ i = 23 ∨ i = 24 ∨ i = 25 ∨ i = 26 ∨ i = 27 ∨ i = 28 ∨ i = 29 ∨ i = 30 ∨ i = 31 := by omega
  rcases hs with rfl | rfl | rfl | rfl | rfl | rfl | rfl | rfl | rfl | rfl | rfl | rfl | rfl | rfl | rfl | rfl | rfl | rfl | rfl | rfl | rfl | rfl | rfl | rfl | rfl | rfl | rfl | rfl | rfl | rfl | rfl | rfl
  · exact own_k0 a b c d e
  · exact own_k1 a b c d e
  · exact own_k2 a b c d e
  · exact own_k3 a b c d e
  · exact own_k4 a b c d e
  · exact own_k5 a b c d e
  · exact own_k6 a b c d e
  · exact own_k7 a b c d e
  · exact own_k8 a b c d e
  · exact own_k9 a b c d e
  · exact own_k10 a b c d e
  · exact own_k11 a b c d e
  · exact own_k12 a b c d e
  · exact own_k13 a b c d e
  · exact own_k14 a b c d e
  · exact own_k15 a b c d e
  · exact own_k16 a b c d e
  · exact own_k17 a b c d e
  · exact own_k18 a b c d e
  · exact own_k19 a b c d e
  · exact own_k20 a b c d e
  · exact own_k21 a b c d e
  · exact own_k22 a b c d e
  · exact own_k23 a b c d e
  · exact own_k24 a b c d e
  · exact own_k25 a b c d e
  · exact own_k26 a b c d e
  · exact own_k27 a b c d e
  · exact own_k28 a b c d e
  · exact own_k29 a b c d e
  · exact own_k30 a b c d e
  · exact own_k31 a b c d e
theorem own_law (m : Int32) (a b c d e : Int64) : F0 m a b c d e = 1 := own_6 a b c d e _ (own_hm m)
set_option maxRecDepth 65536 in
set_option maxHeartbeats 40000000 in
theorem comes_1 {Post : Tables → Env → Array Value → State → Outcome → State → Prop} (hpost : ∀ tb e args s v u, (limb_1_1.after args s (.returned v) u = true ∧ limb_1_2.after args s (.returned v) u = true ∧ True) → FrameEnd s (.returned v) u (Jvm.fieldLocs frame_1_writes args s ++ Jvm.arrayLocs frame_1_arrays args s ++ Jvm.staticLocs frame_1_statics s) 16 128 → Post tb e args s (.returned v) u) :
    ArmFor flags0 classFile x code maxLocals ret World_1 tables_1 room_1 Calls_1 rest_1 Pre_1 Post := by
  intro l hfl _ _ p e ha hc hk s m args below hf hA hF happ hP
  obtain ⟨hcalls, hrest, hpre⟩ := hP
  obtain ⟨-, -, -, hnamed, -, -, -, hat⟩ := (Spec.applies_iff hf).mp happ
  obtain ⟨hg, hn⟩ := and_e (Cond.before_iff.mp (show (Jvm.Cond.and given_1 narrow_1).before args s = true from hpre))
  obtain ⟨g0, g1⟩ := and_e hg
  obtain ⟨a0, g2⟩ := and_e g1
  obtain ⟨a1, g3⟩ := and_e g2
  obtain ⟨a2, g4⟩ := and_e g3
  obtain ⟨a3, g5⟩ := and_e g4
  obtain ⟨a4, g6⟩ := and_e g5
  have a5 := g6
  obtain ⟨w0, w1, w2, w3, w4, w5, rfl⟩ : ∃ w0 w1 w2 w3 w4 w5 : Value, args = #[w0, w1, w2, w3, w4, w5] := by
    have hs : args.size = 6 := by simpa [Cond.value, given_1] using g0
    obtain ⟨L⟩ := args
    match L, hs with
    | [w0, w1, w2, w3, w4, w5], _ => exact ⟨w0, w1, w2, w3, w4, w5, rfl⟩
  have hw := fun d (hd : d ∈ tables_1) => atoms_spec (ws := Jvm.Cond.code x code maxLocals ret :: tables_1) hat d (List.mem_cons_of_mem _ hd)
  obtain ⟨i0, ei0⟩ := is_v a0
  obtain rfl : w0 = (.int i0) := Option.some.inj ei0
  obtain ⟨i1, ei1⟩ := isL_v a1
  obtain rfl : w1 = (.long i1) := Option.some.inj ei1
  obtain ⟨i2, ei2⟩ := isL_v a2
  obtain rfl : w2 = (.long i2) := Option.some.inj ei2
  obtain ⟨i3, ei3⟩ := isL_v a3
  obtain rfl : w3 = (.long i3) := Option.some.inj ei3
  obtain ⟨i4, ei4⟩ := isL_v a4
  obtain rfl : w4 = (.long i4) := Option.some.inj ei4
  obtain ⟨i5, ei5⟩ := isL_v a5
  obtain rfl : w5 = (.long i5) := Option.some.inj ei5
  obtain ⟨n, o, h1, h2, h3, _, L, rfl, ⟨rfl, N⟩, hq⟩ := rm0 l s _ hw tables_1 i0 i1 i2 i3 i4 i5 s.heap s.heap.size (Nat.le_refl _) p e ha hc hk s m _ below hf ((Spec.applies_iff_loose hf).mp happ).1 ⟨rfl, State.Warmed39.refl s, rfl⟩ trivial
  have hone : (F0 i0 i1 i2 i3 i4 i5) = 1 := own_law i0 i1 i2 i3 i4 i5
  refine ⟨n, _, h1, h2, h3, hpost _ _ _ _ _ _ ⟨Cond.after_iff.mpr rfl, Cond.after_iff.mpr (eq_i res_at (Term.int_eval (1)) (by rw [hone])), trivial⟩ ⟨hq.1, hq.2.1, (hq.2.2.sift fun y hy => Or.inr (N y hy)).mono (by decide) (by decide)⟩⟩
theorem main_1_1 : Claimed_1_1 := comes_1 fun _ _ _ _ _ _ h hF => ⟨h.1, hF⟩
theorem main_1_2 : Claimed_1_2 := comes_1 fun _ _ _ _ _ _ h hF => ⟨h.2.1, hF⟩
end Jvm.Pilot.@@N@@
namespace Jvm.Pilot.@@N@@
open Jvm Jvm.ClassFile Sem Op Lib Jvm.Free Jvm.Stand Jvm.Pilot.@@N@@.Jvm.D
/-! MADE BY PROGRAM (witnessworld.py) out of the Statement's table words and the real class files: 11 classes; the members and pool entries that the words name. The judged class is class 1, her method 1. -/
namespace start1
open Jvm.ClassFile
def u (s : String) : CpInfo := .utf8 (stringToUtf16 s)
/-- a pool by its gaps: so many unusable entries, then the entry; so many at the end -/
def gap : Nat → List CpInfo → List CpInfo
  | 0, r => r
  | n + 1, r => .unusable :: gap n r
def poolList (es : List (Nat × CpInfo)) (last : Nat) : List CpInfo := es.foldr (fun e r => gap e.1 (e.2 :: r)) (gap last [])
def pool (es : List (Nat × CpInfo)) (last : Nat) : Array CpInfo := ⟨poolList es last⟩
def fileOf (pool : Array CpInfo) (this : Nat) (attrs : Array Attribute := #[]) (ms : Array MethodInfo := #[]) (fl : Nat := 33) (sup : Nat := 0) (ifs : Array Nat := #[]) (fds : Array FieldInfo := #[]) : ClassFile where
  minorVersion := 0
  majorVersion := 65
  constantPool := pool
  accessFlags := fl
  thisClass := this
  superClass := sup
  interfaces := ifs
  fields := fds
  methods := ms
  attributes := attrs
def plain (name : String) (sup : Option ClassId) : Class where
  name := name
  kind := .ordinary
  loader := none
  accessFlags := 33
  super := sup
  interfaces := #[]
  cf := none
  fields := #[]
  methods := #[]
  instanceTypes := #[]
  staticTypes := #[]
  resolved := #[]
  callSites := []
  init := .initialized
  statics := none
  mirror := none

def pool0 : Array CpInfo := pool [(5, u "<init>"), (0, u "()V"), (1, .class_ 10), (1, u "java/lang/Object")] 113

def k0m0 : Method := { name := "<init>", desc := "()V", sig := { parameters := [], returnType := none }, accessFlags := 1, code := none }
/-- java/lang/Object -/
def k0 : Class := { plain "java/lang/Object" none with
  accessFlags := 33
  interfaces := #[]
  cf := some (fileOf pool0 8 #[] #[{ accessFlags := 1, nameIndex := 5, descriptorIndex := 6, attributes := #[] }] 33 0 #[] #[])
  fields := #[]
  methods := #[k0m0]
  instanceTypes := #[]
  staticTypes := #[]
  resolved := Array.replicate 124 none
  statics := none }

def pool1 : Array CpInfo := pool [(2, .class_ 4), (1, u "java/lang/Object"), (0, u "<init>"), (0, u "()V"), (0, .methodref 8 9), (0, .class_ 10), (0, .nameAndType 11 12), (0, u "com/example/prorata/prorata/Pricer"), (0, u "sum"), (0, u "([I[J)J"), (0, .class_ 14), (0, u "com/example/prorata/prorata/PricerSumPinLaw"), (2, u "law"), (0, u "(IJJJJJ)Z")] 7

def k1m0 : Method := { name := "<init>", desc := "()V", sig := { parameters := [], returnType := none }, accessFlags := 1, code := none }
def k1c1 : Code := { maxStack := 4, maxLocals := 21, code := code, exceptionTable := #[], attributes := #[] }
def k1m1 : Method := { name := "law", desc := "(IJJJJJ)Z", sig := { parameters := [.int, .long, .long, .long, .long, .long], returnType := some .boolean }, accessFlags := 9, code := some k1c1 }
/-- com/example/prorata/prorata/PricerSumPinLaw -/
def k1 : Class := { plain "com/example/prorata/prorata/PricerSumPinLaw" (some 0) with
  accessFlags := 49
  interfaces := #[]
  cf := some (fileOf pool1 13 #[] #[{ accessFlags := 1, nameIndex := 5, descriptorIndex := 6, attributes := #[] }, { accessFlags := 9, nameIndex := 17, descriptorIndex := 18, attributes := #[] }] 49 2 #[] #[])
  fields := #[]
  methods := #[k1m0, k1m1]
  instanceTypes := #[]
  staticTypes := #[]
  resolved := Array.replicate 26 none
  statics := none }

def pool2 : Array CpInfo := pool [(2, .class_ 4), (1, u "java/lang/Object"), (3, .class_ 10), (1, u "com/example/prorata/prorata/Pricer"), (0, u "currency"), (0, u "Ljava/util/Currency;"), (8, u "lines"), (0, u "Ljava/util/List;"), (4, u "unpromoted"), (3, u "Lcom/example/prorata/prorata/PromotedLines;"), (2, u "goodsReach"), (3, u "Lcom/example/prorata/prorata/Pricer$Reach;"), (7, u "places"), (0, u "Ljava/util/Map;"), (2, u "goodsTotal"), (0, u "J"), (2, u "fees"), (2, u "feePlaces"), (8, u "merchants"), (0, u "Lcom/example/prorata/prorata/Merchants;"), (7, u "taxRates"), (0, u "Lcom/example/prorata/prorata/TaxRates;"), (21, .class_ 100), (1, u "com/example/prorata/prorata/Pricer$Reach"), (90, .class_ 193), (1, u "com/example/prorata/prorata/Pricer$FeesTaken"), (91, u "sum"), (0, u "([I[J)J"), (338, u "NOT_USABLE")] 77

def k2c0 : Code := { maxStack := 4, maxLocals := 8, code := prog_54_method_22_code, exceptionTable := #[], attributes := #[] }
def k2m0 : Method := { name := "sum", desc := "([I[J)J", sig := { parameters := [(.array .int), (.array .long)], returnType := some .long }, accessFlags := 8, code := some k2c0 }
/-- com/example/prorata/prorata/Pricer -/
def k2 : Class := { plain "com/example/prorata/prorata/Pricer" (some 0) with
  accessFlags := 48
  interfaces := #[]
  cf := some (fileOf pool2 8 #[.nestMembers #[191, 98]] #[{ accessFlags := 8, nameIndex := 285, descriptorIndex := 286, attributes := #[] }] 48 2 #[] #[{ accessFlags := 24, nameIndex := 625, descriptorIndex := 51, attributes := #[] }, { accessFlags := 18, nameIndex := 11, descriptorIndex := 12, attributes := #[] }, { accessFlags := 18, nameIndex := 21, descriptorIndex := 22, attributes := #[] }, { accessFlags := 18, nameIndex := 27, descriptorIndex := 31, attributes := #[] }, { accessFlags := 18, nameIndex := 34, descriptorIndex := 38, attributes := #[] }, { accessFlags := 18, nameIndex := 46, descriptorIndex := 47, attributes := #[] }, { accessFlags := 18, nameIndex := 50, descriptorIndex := 51, attributes := #[] }, { accessFlags := 18, nameIndex := 54, descriptorIndex := 22, attributes := #[] }, { accessFlags := 18, nameIndex := 57, descriptorIndex := 47, attributes := #[] }, { accessFlags := 18, nameIndex := 66, descriptorIndex := 67, attributes := #[] }, { accessFlags := 18, nameIndex := 75, descriptorIndex := 76, attributes := #[] }])
  fields := #[{ name := "NOT_USABLE", type := .long, accessFlags := 24, slot := 0, constantValue := 0 }, { name := "currency", type := (.object "java/util/Currency"), accessFlags := 18, slot := 0, constantValue := 0 }, { name := "lines", type := (.object "java/util/List"), accessFlags := 18, slot := 1, constantValue := 0 }, { name := "unpromoted", type := (.object "com/example/prorata/prorata/PromotedLines"), accessFlags := 18, slot := 2, constantValue := 0 }, { name := "goodsReach", type := (.object "com/example/prorata/prorata/Pricer$Reach"), accessFlags := 18, slot := 3, constantValue := 0 }, { name := "places", type := (.object "java/util/Map"), accessFlags := 18, slot := 4, constantValue := 0 }, { name := "goodsTotal", type := .long, accessFlags := 18, slot := 5, constantValue := 0 }, { name := "fees", type := (.object "java/util/List"), accessFlags := 18, slot := 6, constantValue := 0 }, { name := "feePlaces", type := (.object "java/util/Map"), accessFlags := 18, slot := 7, constantValue := 0 }, { name := "merchants", type := (.object "com/example/prorata/prorata/Merchants"), accessFlags := 18, slot := 8, constantValue := 0 }, { name := "taxRates", type := (.object "com/example/prorata/prorata/TaxRates"), accessFlags := 18, slot := 9, constantValue := 0 }]
  methods := #[k2m0]
  instanceTypes := #[(.object "java/util/Currency"), (.object "java/util/List"), (.object "com/example/prorata/prorata/PromotedLines"), (.object "com/example/prorata/prorata/Pricer$Reach"), (.object "java/util/Map"), .long, (.object "java/util/List"), (.object "java/util/Map"), (.object "com/example/prorata/prorata/Merchants"), (.object "com/example/prorata/prorata/TaxRates")]
  staticTypes := #[.long]
  resolved := Array.replicate 703 none
  statics := none }

def pool3 : Array CpInfo := pool [(1, u "java/lang/Cloneable"), (0, .class_ 1), (0, u "java/lang/Object"), (0, .class_ 3)] 3

/-- java/lang/Cloneable -/
def k3 : Class := { plain "java/lang/Cloneable" (some 0) with
  accessFlags := 1537
  interfaces := #[]
  cf := some (fileOf pool3 2 #[] #[] 1537 4 #[] #[])
  fields := #[]
  methods := #[]
  instanceTypes := #[]
  staticTypes := #[]
  resolved := Array.replicate 8 none
  statics := none }

def pool4 : Array CpInfo := pool [(1, u "java/io/Serializable"), (0, .class_ 1), (0, u "java/lang/Object"), (0, .class_ 3)] 3

/-- java/io/Serializable -/
def k4 : Class := { plain "java/io/Serializable" (some 0) with
  accessFlags := 1537
  interfaces := #[]
  cf := some (fileOf pool4 2 #[] #[] 1537 4 #[] #[])
  fields := #[]
  methods := #[]
  instanceTypes := #[]
  staticTypes := #[]
  resolved := Array.replicate 8 none
  statics := none }

/-- the primitive byte -/
def k5 : Class := { plain "byte" none with kind := .primitive 'B', accessFlags := 0x411 }
/-- [B -/
def k6 : Class := { plain "[B" (some 0) with kind := .array 5 .byte, interfaces := #[3, 4], accessFlags := 1041 }

/-- the primitive int -/
def k7 : Class := { plain "int" none with kind := .primitive 'I', accessFlags := 0x411 }
/-- [I -/
def k8 : Class := { plain "[I" (some 0) with kind := .array 7 .int, interfaces := #[3, 4], accessFlags := 1041 }

/-- the primitive long -/
def k9 : Class := { plain "long" none with kind := .primitive 'J', accessFlags := 0x411 }
/-- [J -/
def k10 : Class := { plain "[J" (some 0) with kind := .array 9 .long, interfaces := #[3, 4], accessFlags := 1041 }

def heap : Heap := #[]
def classes : Array Class := #[k0, k1, k2, k3, k4, k5, k6, k7, k8, k9, k10]
def interned : List (Array UInt16 × Addr) := []
def slotsUsed : Nat := 0
def theMethod : MethodId := ⟨1, 1⟩
def args0 : Array Value := #[.int 5, .long 6, .long 7, .long 8, .long 9, .long 10]
def aboutOver (below : List Frame) : State where
  vm := { classes := classes, interned := interned.toArray }
  heap := heap
  slotsUsed := slotsUsed
  threads := #[{ frames := .invoking theMethod args0 :: below }]
def below0 : List Frame := [.native { method := ⟨0, 0⟩, args := #[] }]
def about1 : State := aboutOver below0
def p0 : Program := .bare "" "" ""
def e0 : Env := launch0.env 0 0 0
theorem w_frames : about1.frames = Frame.invoking theMethod args0 :: below0 := rfl
set_option maxRecDepth 65536 in
theorem w_args : argsFit about1.vm theMethod args0 = true := by decide +kernel
set_option maxRecDepth 65536 in
theorem w_heap : heapFits about1 = true := by decide +kernel
set_option maxRecDepth 65536 in
theorem w_runnable : about1.curStatus? = some .runnable := by decide +kernel
set_option maxRecDepth 65536 in
theorem w_alone : about1.alone = true := by decide +kernel
set_option maxRecDepth 65536 in
theorem w_named : about1.methodNamed? x = some theMethod := by decide +kernel
set_option maxRecDepth 65536 in
theorem w_hears : about1.hears theMethod below0 = true := by decide +kernel
set_option maxRecDepth 65536 in
theorem w_ripe : about1.ripe theMethod args0 below0 = true := by decide +kernel
theorem w_running : about1.status = .running := rfl
set_option maxRecDepth 65536 in
theorem w_room : about1.hasRoom e0.platform room_1 = true :=
  launch0.hasRoom_least _ room_1 (by decide +kernel) (by decide +kernel) (by decide +kernel) (by decide +kernel) (by decide +kernel) (by decide +kernel)
theorem allAtoms_all (ts : List Jvm.Cond) (a : Array Jvm.Value) (st : Jvm.State) : (allAtoms ts).before a st = ts.all (fun c => c.before a st) := by
  induction ts with
  | nil => rfl
  | cons c t ih =>
    show (Jvm.Cond.and c (allAtoms t)).before a st = _
    rw [Jvm.Cond.before_and, ih, List.all_cons]
def words1 : List Jvm.Cond := Jvm.Cond.code x code maxLocals ret :: tables_1
/-- a 'code' word, met by the world's own term for the bytes: nothing is compared byte by byte -/
theorem code_word {y : MethodName} {bytes : ByteArray} {mx : Nat} {rt : Option FieldType} {a : Array Value} {s : State} {m : MethodId} {meth : Method} {c : Code} (h1 : s.methodNamed? y = some m) (h2 : s.vm.method? m = some meth) (h3 : meth.code = some c) (h4 : c.code = bytes)
    (h5 : (c.maxLocals == mx && c.exceptionTable.isEmpty && decide (c.maxStack ≤ mostOperands) && decide (meth.sig.returnType = rt) && !meth.locks && decide (parseMethodDescriptor y.desc = some meth.sig)) = true) : (Jvm.Cond.code y bytes mx rt).before a s = true := by
  simp only [Bool.and_eq_true, beq_iff_eq, Bool.not_eq_true', decide_eq_true_eq] at h5
  obtain ⟨⟨⟨⟨⟨g1, g2⟩, g3⟩, g4⟩, g5⟩, g6⟩ := h5
  simp [Cond.before, Cond.holds, Cond.value, h1, h2, h3, h4, g1, g2, g3, g4, g5, g6]
def isCode : Jvm.Cond → Bool
  | .code _ _ _ _ => true
  | _ => false
theorem all_split {L : List Jvm.Cond} {P : Jvm.Cond → Bool} (h1 : L.all (fun c => isCode c || P c) = true) (h2 : ∀ c ∈ L.filter isCode, P c = true) : L.all P = true := by
  refine List.all_eq_true.mpr fun c hc => ?_
  have h := List.all_eq_true.mp h1 c hc
  rcases Bool.eq_false_or_eq_true (isCode c) with hi | hi
  · exact h2 c (List.mem_filter.mpr ⟨hc, hi⟩)
  · simpa [hi] using h
set_option maxRecDepth 65536 in
theorem w_c0 : (Jvm.Cond.code x code maxLocals ret).before args0 about1 = true := code_word (m := ⟨1, 1⟩) (meth := k1m1) (c := k1c1) (by decide +kernel) rfl rfl rfl (by decide +kernel)
set_option maxRecDepth 65536 in
theorem w_c1 : (Jvm.Cond.code ({ cls := "com/example/prorata/prorata/Pricer", name := "sum", desc := "([I[J)J" } : Jvm.MethodName) prog_54_method_22_code (8 : Nat) (Option.some Jvm.ClassFile.FieldType.long)).before args0 about1 = true := code_word (m := ⟨2, 0⟩) (meth := k2m0) (c := k2c0) (by decide +kernel) rfl rfl rfl (by decide +kernel)
def codes1 : List Jvm.Cond := [Jvm.Cond.code x code maxLocals ret, Jvm.Cond.code ({ cls := "com/example/prorata/prorata/Pricer", name := "sum", desc := "([I[J)J" } : Jvm.MethodName) prog_54_method_22_code (8 : Nat) (Option.some Jvm.ClassFile.FieldType.long)]
set_option maxRecDepth 65536 in
theorem codes_eq : words1.filter isCode = codes1 := rfl
theorem w_codes : ∀ c ∈ words1.filter isCode, c.before args0 about1 = true := by
  rw [codes_eq]
  intro c hc
  simp only [codes1, List.mem_cons, List.not_mem_nil, or_false] at hc
  rcases hc with rfl | rfl
  · exact w_c0
  · exact w_c1
set_option maxRecDepth 65536 in
theorem w_t1 : words1.all (fun c => isCode c || c.before args0 about1) = true := by decide +kernel
theorem w_tables : (allAtoms (Jvm.Cond.code x code maxLocals ret :: tables_1)).before args0 about1 = true := by
  rw [allAtoms_all]
  show words1.all (fun c => c.before args0 about1) = true
  refine all_split ?_ w_codes
  rw [w_t1]
set_option maxRecDepth 65536 in
theorem w_case : (Jvm.Cond.and given_1 narrow_1).before args0 about1 = true := by decide +kernel
theorem w_applies : (headSpec (Jvm.Cond.code x code maxLocals ret :: tables_1) room_1).applies x e0.platform about1 = true :=
  (Spec.applies_iff w_frames).mpr ⟨w_running, w_runnable, w_alone, w_named, w_hears, w_ripe, w_room, w_tables⟩
theorem atStart : AtStart classFile x code maxLocals ret World_1 tables_1 room_1 Calls_1 rest_1 Pre_1 launch0 p0 e0 about1 theMethod args0 below0 :=
  ⟨lists_1, trivial, launch0.admits_env _ _ _, launch0.least_env, fairChoices_fair.cas, fairChoices_fair.clock, w_frames, w_args, w_heap, w_applies, trivial, trivial, w_case⟩
end start1
theorem witness_1 : WitnessClaimed_1 := ⟨start1.p0, start1.e0, start1.about1, start1.theMethod, start1.args0, start1.below0, start1.atStart⟩
end Jvm.Pilot.@@N@@
