import JvmDerived
import JvmDerived.Pilot.@@N@@Statement
import JvmDerived.Pilot.@@N@@Code
set_option linter.unusedVariables false
set_option linter.unusedSimpArgs false
namespace Jvm.RoadKit
open Sem ClassFile Op Lib Jvm.Stand Jvm.Free Jvm.LawKit
section New
variable {p : Program} {l : Launch} {e : Env} {R : Room} {s : State} {m : MethodId} {args : Array Value} {below : List Frame} {meth : Method} {c : Code} {T : State} {locs : List Loc} {cells slots : Nat}
theorem retI (X : Stand p l e R s m args below meth c T locs cells slots) (hx : p.tables.exec = Jvm.exec) {pc : Nat} {Ls : Array Slot} {z : Int32} {rest : List Value} (hret : meth.sig.returnType = some .int) (hd : decode c.code pc = .ok (.ireturn, 1)) {fs : List Frame}
    (hl : ∀ (f : JFrame) (acts : List Action), f.method = m → f.locked = none → f.entered = [] → (doReturn e (T.setTop f) acts (some (.int z))).1 = T.setFrames fs) : Steps p.tables e below (T.setTop (mkF m pc Ls (.int z :: rest))) (T.setFrames fs) := by
  have hm' : T.vm.method? m = some meth := X.method'
  have hn : narrow .int (.int z) = .int z := rfl
  show Steps p.tables e below (T.setTop { method := m, pc := pc, locals := Ls, stack := _ :: rest, locked := none }) _
  jvm_step X.here [X.here.top, hx, hd, hm', hret, hn]
  first | (intro acts; rw [hl _ acts rfl rfl rfl]) | rw [hl _ _ rfl rfl rfl]
  exact Steps.refl _
/-- a run from U comes to a state of which K holds -/
def Rch (p : Program) (e : Env) (below : List Frame) (K : State → Prop) (U : State) : Prop := ∃ s₂, Steps p.tables e below U s₂ ∧ K s₂
theorem Rch.go {K : State → Prop} {U U' : State} (h : ∀ t, Steps p.tables e below U' t → Steps p.tables e below U t) (k : Rch p e below K U') : Rch p e below K U := by
  obtain ⟨s₂, a, b⟩ := k; exact ⟨s₂, h _ a, b⟩
theorem Rch.to {K : State → Prop} {U U' : State} (h : Steps p.tables e below U U') (k : Rch p e below K U') : Rch p e below K U := by
  obtain ⟨s₂, a, b⟩ := k; exact ⟨s₂, h.trans a, b⟩
theorem Rch.then {K K' : State → Prop} {U : State} (h : Rch p e below K U) (f : ∀ V, K V → Rch p e below K' V) : Rch p e below K' U := by
  obtain ⟨s₂, a, b⟩ := h; exact Rch.to a (f _ b)
/-- the body is left: what it returned and what it leaves -/
def Fin (s : State) (below : List Frame) (Q : Option Value → Heap → List Loc → Prop) (k n : Nat) (s₂ : State) : Prop :=
  ∃ o, s₂.status = .running ∧ Ended s₂ below o ∧ ∃ v L, o = .returned v ∧ Q v s₂.heap L ∧ FrameEnd s o s₂ L k n
theorem Rch.fin {Q : Option Value → Heap → List Loc → Prop} {k n : Nat} {U : State} {h : Heap} (X : Stand p l e R s m args below meth c T locs cells slots) (hlk : meth.locks = false) {v : Option Value} (hv : meth.sig.returnType = none → v = none) (eT : T.heap = h) (hc : cells ≤ k) (hn : slots ≤ n)
    (st : ∀ fs, (∀ (f : JFrame) (acts : List Action), f.method = m → f.locked = none → f.entered = [] → (doReturn e (T.setTop f) acts v).1 = T.setFrames fs) → Steps p.tables e below U (T.setFrames fs)) (hQ : Q v h locs) : Rch p e below (Fin s below Q k n) U := by
  obtain ⟨fs, hr, hrun, hended, hW, hsame⟩ := X.leave hv hlk
  refine ⟨_, st fs hr, _, hrun, hended, v, locs, rfl, ?_, ⟨_, rfl⟩, hW, hsame.mono hc hn⟩
  show Q v T.heap locs
  rw [eT]; exact hQ
theorem Rch.body {Q : Option Value → Heap → List Loc → Prop} {k n : Nat} {U U' : State} (h : ∀ t, Steps p.tables e below U' t → Steps p.tables e below U t) (H : Rch p e below (Fin s below Q k n) U') :
    ∃ s₂ o, Steps p.tables e below U s₂ ∧ s₂.status = .running ∧ Ended s₂ below o ∧ (∃ v L, o = .returned v ∧ Q v s₂.heap L ∧ FrameEnd s o s₂ L k n) := by
  obtain ⟨s₂, a, o, b, c, d⟩ := H; exact ⟨s₂, o, h _ a, b, c, d⟩
/-- the same, said with the wide end (a String constant may have been interned) -/
def FinW (s : State) (below : List Frame) (Q : Option Value → Heap → List Loc → Prop) (k n : Nat) (s₂ : State) : Prop :=
  ∃ o, s₂.status = .running ∧ Ended s₂ below o ∧ ∃ v L, o = .returned v ∧ Q v s₂.heap L ∧ ReturnedEndW s o s₂ L k n
theorem Rch.finW {Q : Option Value → Heap → List Loc → Prop} {k n : Nat} {U : State} {h : Heap} {vm₁ : Vm} {n1 : Nat} (X : Stand p l e R (s.setVm vm₁) m args below meth c T locs cells slots) (hlk : meth.locks = false) {v : Option Value} (hv : meth.sig.returnType = none → v = none) (eT : T.heap = h) (hc : cells ≤ k) (hn : slots ≤ n)
    (hS : s.Since vm₁ n1) (hk : n1 ≤ h.size) (st : ∀ fs, (∀ (f : JFrame) (acts : List Action), f.method = m → f.locked = none → f.entered = [] → (doReturn e (T.setTop f) acts v).1 = T.setFrames fs) → Steps p.tables e below U (T.setFrames fs)) (hQ : Q v h locs) : Rch p e below (FinW s below Q k n) U := by
  obtain ⟨fs, hr, hrun, hended, hE⟩ := X.leaveW hS (by rw [eT]; exact hk) hv hlk
  refine ⟨_, st fs hr, _, hrun, hended, v, locs, rfl, ?_, hE.1, hE.2.1, hE.2.2.1, hE.2.2.2.mono hc hn⟩
  show Q v T.heap locs
  rw [eT]; exact hQ
theorem Rch.bodyW {Q : Option Value → Heap → List Loc → Prop} {k n : Nat} {U U' : State} (h : ∀ t, Steps p.tables e below U' t → Steps p.tables e below U t) (H : Rch p e below (FinW s below Q k n) U') :
    ∃ s₂ o, Steps p.tables e below U s₂ ∧ s₂.status = .running ∧ Ended s₂ below o ∧ (∃ v L, o = .returned v ∧ Q v s₂.heap L ∧ ReturnedEndW s o s₂ L k n) := by
  obtain ⟨s₂, a, o, b, c, d⟩ := H; exact ⟨s₂, o, h _ a, b, c, d⟩
theorem nar_1 : nar .boolean 1 = 1 := rfl
theorem nar_0 : nar .boolean 0 = 0 := rfl
end New
end Jvm.RoadKit
namespace Jvm.Pilot.@@N@@
open Jvm Jvm.ClassFile Sem Op Lib Jvm.Free Jvm.Stand Jvm.LawKit Jvm.RoadKit Bundle Jvm.Pilot.@@N@@.Jvm.D
theorem wi {Z : State} {a0 : Array Value} (hw : ∀ d ∈ tables_1, d.before a0 Z = true) (i : Nat) {d : Jvm.Cond} (h : tables_1[i]? = some d) : d.before a0 Z = true := hw d (List.mem_of_getElem? h)
abbrev jv (x : Int64) : Slot := .val (.long x)
abbrev uv : Slot := .unset
abbrev sv : Slot := .second
theorem own_selp {y : MethodName} {s : State} {args : Array Value} {n : Nat} (hy : y.cls ≠ "java/lang/invoke/MethodHandle" ∧ y.cls ≠ "java/lang/invoke/VarHandle")
    (hins : (Jvm.Cond.instantiable y.cls n).before args s = true) (hpriv : (Jvm.Cond.privateMethod y).before args s = true) (hinst : (Jvm.Cond.instanceMethod y).before args s = true) : (Jvm.Cond.selects y.cls y y).before args s = true := by
  obtain ⟨c, k, hc, hk, -, hniab, -, -⟩ := Cond.instantiable_spec hins
  exact selects_self_of_private hc hk (Bool.or_eq_false_iff.mp hniab).1 (Cond.privateMethod_at hpriv) hinst hy
-- small naturals as ints
theorem own_iI {n : Nat} (hn : n < 2147483648) : (Int32.ofNat n).toInt = n := Int32.toInt_ofNat_of_lt (by omega)
theorem own_iN {n : Nat} (hn : n < 2147483648) : (Int32.ofNat n).toNatClampNeg = n := by rw [Int32.toNatClampNeg, own_iI hn]; rfl
theorem own_ilt {i n : Nat} (hi : i < 2147483648) (hn : n < 2147483648) : Int32.ofNat i < Int32.ofNat n ↔ i < n := by
  rw [Int32.lt_iff_toInt_lt, own_iI hi, own_iI hn]; omega
theorem own_ieq {i n : Nat} (hi : i < 2147483648) (hn : n < 2147483648) : Int32.ofNat i = Int32.ofNat n ↔ i = n := by
  rw [← Int32.toInt_inj, own_iI hi, own_iI hn]; omega
theorem own_inn {n : Nat} (hn : n < 2147483648) : ¬ Int32.ofNat n < 0 := by
  rw [Int32.lt_iff_toInt_lt, own_iI hn, show (0 : Int32).toInt = 0 from rfl]; omega
theorem own_i1 (i : Nat) : Int32.ofNat i + (1 : Int32) = Int32.ofNat (i + 1) := (Int32.ofNat_add i 1).symm
theorem own_of {x : Int32} (h : 0 ≤ x.toInt) : ∃ n : Nat, n < 2147483648 ∧ x = Int32.ofNat n := by
  refine ⟨x.toInt.toNat, by have := x.toInt_lt; omega, Int32.toInt_inj.mp ?_⟩
  rw [own_iI (by have := x.toInt_lt; omega)]; omega
theorem own_iin {i n : Nat} (hi : i < n) (hn : n < 2147483648) : ¬ Int32.ofNat i < 0 ∧ Int32.ofNat i < Int32.ofNat n := ⟨own_inn (by omega), (own_ilt (by omega) hn).mpr hi⟩
theorem own_getI (xs : List Int32) {i : Nat} (h : i < xs.length) (hn : i < 2147483648) : (xs.map Value.int).getD (Int32.ofNat i).toNatClampNeg (.int (0 : Int32)) = .int (xs.getD i 0) := by
  rw [own_iN hn]; simp [List.getD_eq_getElem?_getD, h]
theorem own_gx (xs : List Int32) (j : Int32) : (xs.map Value.int).getD j.toNatClampNeg (.int (0 : Int32)) = .int (xs.getD j.toNatClampNeg 0) := by
  simp only [List.getD_eq_getElem?_getD, List.getElem?_map]
  cases xs[j.toNatClampNeg]? <;> rfl
theorem own_sx {Z : State} {h : Heap} {a : Addr} {k : ClassId} {ty : FieldType} {n : Int32} {xs : List Int32} {i : Nat} {x : Int32} {d : Value} (V : Arv Z h a k ty n ((xs.map Value.int).set i (.int x)) d) : Arv Z h a k ty n ((xs.set i x).map Value.int) d := by
  rw [List.map_set]; exact V
theorem own_ls {xs : List Int32} {i : Nat} {x : Int32} (h : xs.length = 4) : (xs.set i x).length = 4 := by rw [List.length_set, h]
/-- a place of the arrays -/
abbrev own_In (j : Int32) : Prop := ¬ j < 0 ∧ j < (4 : Int32)
theorem own_ln {xs : List Int32} {j : Int32} (h : own_In j) (hl : xs.length = 4) : j.toNatClampNeg < (xs.map Value.int).length := by
  have h1 := h.1
  have h2 := h.2
  rw [Int32.lt_iff_toInt_lt] at h1 h2
  have z0 : (0 : Int32).toInt = 0 := rfl
  have z4 : (4 : Int32).toInt = 4 := rfl
  rw [List.length_map, hl, Int32.toNatClampNeg]; omega
abbrev own_at (xs : List Int32) (j : Int32) : Int32 := xs.getD j.toNatClampNeg 0
abbrev own_st (xs : List Int32) (j x : Int32) : List Int32 := xs.set j.toNatClampNeg x
/-- compoundOf, next, previous, firstBlock, pending, isPending, compoundCount, pendingCount -/
abbrev St := List Int32 × List Int32 × List Int32 × List Int32 × List Int32 × List Int32 × Int32 × Int32
def own_jpv (nx pv : List Int32) (p1 p2 : Int32) : List Int32 := if own_at nx p1 = -1 then own_st pv p2 p1 else own_st (own_st pv p2 p1) (own_at nx p1) p2
def own_join (co nx pv fb pd ip : List Int32) (cc pc p1 p2 : Int32) : St :=
  if own_at ip (own_at co p1) = 0 then (own_st co p2 (own_at co p1), own_st (own_st nx p2 (own_at nx p1)) p1 p2, own_jpv nx pv p1 p2, fb, own_st pd pc (own_at co p1), own_st ip (own_at co p1) 1, cc, pc + 1)
  else (own_st co p2 (own_at co p1), own_st (own_st nx p2 (own_at nx p1)) p1 p2, own_jpv nx pv p1 p2, fb, pd, ip, cc, pc)
def own_jok (co nx : List Int32) (pc p1 p2 : Int32) : Bool := decide (own_In p1) && (decide (own_In p2) && (decide (own_In (own_at co p1)) && (decide (own_at nx p1 = -1 ∨ own_In (own_at nx p1)) && decide (own_In pc))))
theorem own_jok_e {co nx : List Int32} {pc p1 p2 : Int32} (h : own_jok co nx pc p1 p2 = true) : own_In p1 ∧ own_In p2 ∧ own_In (own_at co p1) ∧ (own_at nx p1 = -1 ∨ own_In (own_at nx p1)) ∧ own_In pc := by
  simp only [own_jok, Bool.and_eq_true, decide_eq_true_eq] at h; exact h
def own_lpv (nx pv : List Int32) (p1 : Int32) : List Int32 := if own_at nx p1 = -1 then pv else own_st pv (own_at nx p1) (own_at pv p1)
def own_lv (nx pv fb : List Int32) (p1 p2 : Int32) : List Int32 × List Int32 × List Int32 :=
  if own_at pv p1 = -1 then (nx, own_lpv nx pv p1, own_st fb p2 (own_at nx p1)) else (own_st nx (own_at pv p1) (own_at nx p1), own_lpv nx pv p1, fb)
def own_lok (nx pv : List Int32) (p1 p2 : Int32) : Bool := decide (own_In p1) && (decide (own_In p2) && (decide (own_at nx p1 = -1 ∨ own_In (own_at nx p1)) && decide (own_at pv p1 = -1 ∨ own_In (own_at pv p1))))
theorem own_lok_e {nx pv : List Int32} {p1 p2 : Int32} (h : own_lok nx pv p1 p2 = true) : own_In p1 ∧ own_In p2 ∧ (own_at nx p1 = -1 ∨ own_In (own_at nx p1)) ∧ (own_at pv p1 = -1 ∨ own_In (own_at pv p1)) := by
  simp only [own_lok, Bool.and_eq_true, decide_eq_true_eq] at h; exact h
def own_sz (j : Int32) : Int32 := own_at [4, 0, 0, 0] j - own_at [0, 0, 0, 0] j
/-- which block is taken out -/
def own_sp (nx fb pd : List Int32) (pc : Int32) : Int32 :=
  if own_sz (own_at nx (own_at fb (own_at pd (pc - (1 : Int32))))) < own_sz (own_at fb (own_at pd (pc - (1 : Int32)))) then own_at nx (own_at fb (own_at pd (pc - (1 : Int32)))) else own_at fb (own_at pd (pc - (1 : Int32)))
def own_tk (co pd ip : List Int32) (cc pc x q : Int32) (T : List Int32 × List Int32 × List Int32) : St :=
  if own_at T.1 (own_at T.2.2 q) = -1 then (own_st co x cc, own_st T.1 x (-1), own_st T.2.1 x (-1), own_st T.2.2 cc x, pd, own_st ip q 0, cc + 1, pc - 1)
  else (own_st co x cc, own_st T.1 x (-1), own_st T.2.1 x (-1), own_st T.2.2 cc x, pd, ip, cc + 1, pc)
def own_take (co nx pv fb pd ip : List Int32) (cc pc : Int32) : St :=
  own_tk co pd ip cc pc (own_sp nx fb pd pc) (own_at pd (pc - (1 : Int32))) (own_lv nx pv fb (own_sp nx fb pd pc) (own_at pd (pc - (1 : Int32))))
def own_tok (nx pv fb pd : List Int32) (cc pc : Int32) : Bool :=
  decide (own_In (pc - (1 : Int32))) && (decide (own_In (own_at pd (pc - (1 : Int32)))) && (decide (own_In (own_at fb (own_at pd (pc - (1 : Int32))))) && (decide (own_In (own_at nx (own_at fb (own_at pd (pc - (1 : Int32)))))) &&
  (own_lok nx pv (own_sp nx fb pd pc) (own_at pd (pc - (1 : Int32))) && (decide (own_In (own_at (own_lv nx pv fb (own_sp nx fb pd pc) (own_at pd (pc - (1 : Int32)))).2.2 (own_at pd (pc - (1 : Int32))))) && decide (own_In cc))))))
theorem own_tok_e {nx pv fb pd : List Int32} {cc pc : Int32} (h : own_tok nx pv fb pd cc pc = true) : own_In (pc - (1 : Int32)) ∧ own_In (own_at pd (pc - (1 : Int32))) ∧ own_In (own_at fb (own_at pd (pc - (1 : Int32)))) ∧ own_In (own_at nx (own_at fb (own_at pd (pc - (1 : Int32))))) ∧
    own_lok nx pv (own_sp nx fb pd pc) (own_at pd (pc - (1 : Int32))) = true ∧ own_In (own_at (own_lv nx pv fb (own_sp nx fb pd pc) (own_at pd (pc - (1 : Int32)))).2.2 (own_at pd (pc - (1 : Int32)))) ∧ own_In cc := by
  simp only [own_tok, Bool.and_eq_true, decide_eq_true_eq] at h; exact h
theorem own_f2 (p : Int32) : (p &&& (1 : Int32)) = 0 ∨ (p &&& (1 : Int32)) = 1 := by
  have e : (p &&& (1 : Int32)).toInt = p.toInt % 2 := c_mask p 1 1 (by decide) (by decide)
  have t (k : Int32) (h : (p &&& (1 : Int32)).toInt = k.toInt) : (p &&& (1 : Int32)) = k := Int32.toInt_inj.mp h
  rcases (by omega : (p &&& (1 : Int32)).toInt = 0 ∨ (p &&& (1 : Int32)).toInt = 1) with h | h
  · exact Or.inl (t 0 h)
  · exact Or.inr (t 1 h)
theorem own_n3 (x : Int32) : (x &&& (2147483647 : Int32)) % 3 = 0 ∨ (x &&& (2147483647 : Int32)) % 3 = 1 ∨ (x &&& (2147483647 : Int32)) % 3 = 2 := by
  have e : (x &&& (2147483647 : Int32)).toInt = x.toInt % 2147483648 := c_mask x 2147483647 31 (by decide) (by decide)
  have e2 := (c_irem (x &&& (2147483647 : Int32)) 3 3 rfl).1 (by omega)
  have t (k : Int32) (h : ((x &&& (2147483647 : Int32)) % 3).toInt = k.toInt) : (x &&& (2147483647 : Int32)) % 3 = k := Int32.toInt_inj.mp h
  rcases (by omega : ((x &&& (2147483647 : Int32)) % 3).toInt = 0 ∨ ((x &&& (2147483647 : Int32)) % 3).toInt = 1 ∨ ((x &&& (2147483647 : Int32)) % 3).toInt = 2) with h | h | h
  · exact Or.inl (t 0 h)
  · exact Or.inr (Or.inl (t 1 h))
  · exact Or.inr (Or.inr (t 2 h))
def own_pos (x : Int32) : Int32 := if 0 < x then 1 else 0

theorem nT {a b c : Nat} (h : a < b) (k : b < c) : a < c := Nat.lt_trans h k
theorem nN {a b : Nat} (h : a < b) : a ≠ b := Nat.ne_of_lt h
theorem nM {a b : Nat} (h : a < b) : b ≠ a := Nat.ne_of_gt h
theorem nG {a b c : Nat} (h : a ≤ b) (k : b < c) : a ≤ c := Nat.le_trans h (Nat.le_of_lt k)
def Ar4 (Z : State) (h : Heap) (a : Addr) (ty : FieldType) (xs : List Int32) : Prop := ∃ k : ClassId, Arv Z h a k ty (4 : Int32) (xs.map Value.int) (.int (0 : Int32)) ∧ xs.length = 4
def Cb (Z : State) (h : Heap) (n0 : Nat) (a1 a2 bco bnx bpv bfb bpd bip bfi ben : Addr) (co nx pv fb pd ip : List Int32) (cc pc : Int32) : Prop :=
  (Exa Z h a1 "com/example/fixpoints_of_behaviour/fixpointsofbehaviour/bisimulation/CompoundBlocks" ∧ Fld Z h a1 "com/example/fixpoints_of_behaviour/fixpointsofbehaviour/bisimulation/CompoundBlocks" "blocks" "Lcom/example/fixpoints_of_behaviour/fixpointsofbehaviour/bisimulation/Blocks;" (.ref a2) ∧ Fld Z h a1 "com/example/fixpoints_of_behaviour/fixpointsofbehaviour/bisimulation/CompoundBlocks" "compoundOf" "[I" (.ref bco) ∧ Fld Z h a1 "com/example/fixpoints_of_behaviour/fixpointsofbehaviour/bisimulation/CompoundBlocks" "nextInCompound" "[I" (.ref bnx) ∧ Fld Z h a1 "com/example/fixpoints_of_behaviour/fixpointsofbehaviour/bisimulation/CompoundBlocks" "previousInCompound" "[I" (.ref bpv) ∧ Fld Z h a1 "com/example/fixpoints_of_behaviour/fixpointsofbehaviour/bisimulation/CompoundBlocks" "firstBlock" "[I" (.ref bfb) ∧ Fld Z h a1 "com/example/fixpoints_of_behaviour/fixpointsofbehaviour/bisimulation/CompoundBlocks" "pending" "[I" (.ref bpd) ∧ Fld Z h a1 "com/example/fixpoints_of_behaviour/fixpointsofbehaviour/bisimulation/CompoundBlocks" "isPending" "[Z" (.ref bip) ∧ Fld Z h a1 "com/example/fixpoints_of_behaviour/fixpointsofbehaviour/bisimulation/CompoundBlocks" "compoundCount" "I" (.int cc) ∧ Fld Z h a1 "com/example/fixpoints_of_behaviour/fixpointsofbehaviour/bisimulation/CompoundBlocks" "pendingCount" "I" (.int pc)) ∧ (Exa Z h a2 "com/example/fixpoints_of_behaviour/fixpointsofbehaviour/bisimulation/Blocks" ∧ Fld Z h a2 "com/example/fixpoints_of_behaviour/fixpointsofbehaviour/bisimulation/Blocks" "first" "[I" (.ref bfi) ∧ Fld Z h a2 "com/example/fixpoints_of_behaviour/fixpointsofbehaviour/bisimulation/Blocks" "end" "[I" (.ref ben)) ∧
  (Ar4 Z h bco .int co ∧ Ar4 Z h bnx .int nx ∧ Ar4 Z h bpv .int pv ∧ Ar4 Z h bfb .int fb ∧ Ar4 Z h bpd .int pd ∧ Ar4 Z h bip .boolean ip ∧ Ar4 Z h bfi .int [0, 0, 0, 0] ∧ Ar4 Z h ben .int [4, 0, 0, 0]) ∧ @LE.le Nat _ n0 a2 ∧ @LT.lt Nat _ a2 bfi ∧ @LT.lt Nat _ bfi ben ∧ @LT.lt Nat _ ben a1 ∧ @LT.lt Nat _ a1 bco ∧ @LT.lt Nat _ bco bnx ∧ @LT.lt Nat _ bnx bpv ∧ @LT.lt Nat _ bpv bfb ∧ @LT.lt Nat _ bfb bpd ∧ @LT.lt Nat _ bpd bip
def Cbs (Z : State) (h : Heap) (n0 : Nat) (a1 a2 bco bnx bpv bfb bpd bip bfi ben : Addr) (S : St) : Prop := Cb Z h n0 a1 a2 bco bnx bpv bfb bpd bip bfi ben S.1 S.2.1 S.2.2.1 S.2.2.2.1 S.2.2.2.2.1 S.2.2.2.2.2.1 S.2.2.2.2.2.2.1 S.2.2.2.2.2.2.2
abbrev cCB : String := "com/example/fixpoints_of_behaviour/fixpointsofbehaviour/bisimulation/CompoundBlocks"
abbrev cBL : String := "com/example/fixpoints_of_behaviour/fixpointsofbehaviour/bisimulation/Blocks"
abbrev cLW : String := "com/example/fixpoints_of_behaviour/fixpointsofbehaviour/bisimulation/CompoundBlocksJoinPinLaw"
abbrev yj : MethodName := (⟨"com/example/fixpoints_of_behaviour/fixpointsofbehaviour/bisimulation/CompoundBlocks", "join", "(II)V"⟩ : MethodName)
abbrev yl : MethodName := (⟨"com/example/fixpoints_of_behaviour/fixpointsofbehaviour/bisimulation/CompoundBlocks", "leaveCompound", "(II)V"⟩ : MethodName)
abbrev yt : MethodName := (⟨"com/example/fixpoints_of_behaviour/fixpointsofbehaviour/bisimulation/CompoundBlocks", "takeSplitter", "()I"⟩ : MethodName)
abbrev yz : MethodName := (⟨"com/example/fixpoints_of_behaviour/fixpointsofbehaviour/bisimulation/Blocks", "size", "(I)I"⟩ : MethodName)
abbrev yc : MethodName := (⟨"com/example/fixpoints_of_behaviour/fixpointsofbehaviour/bisimulation/CompoundBlocks", "compoundOf", "(I)I"⟩ : MethodName)
abbrev yhs : MethodName := (⟨"com/example/fixpoints_of_behaviour/fixpointsofbehaviour/bisimulation/CompoundBlocks", "hasSplitter", "()Z"⟩ : MethodName)
abbrev yns : MethodName := (⟨"com/example/fixpoints_of_behaviour/fixpointsofbehaviour/bisimulation/CompoundBlocks", "nextSplitterCompound", "()I"⟩ : MethodName)
abbrev yi : MethodName := (⟨"com/example/fixpoints_of_behaviour/fixpointsofbehaviour/bisimulation/CompoundBlocks", "<init>", "(Lcom/example/fixpoints_of_behaviour/fixpointsofbehaviour/bisimulation/Blocks;I)V"⟩ : MethodName)
abbrev yb : MethodName := (⟨"com/example/fixpoints_of_behaviour/fixpointsofbehaviour/bisimulation/Blocks", "<init>", "(I)V"⟩ : MethodName)
theorem d55_0 : decode prog_18_method_7_code 0 = .ok (.aload_n 0, 1) := by decide +kernel
theorem d55_1 : decode prog_18_method_7_code 1 = .ok (.getfield 13, 3) := by decide +kernel
theorem d55_4 : decode prog_18_method_7_code 4 = .ok (.iload_n 1, 1) := by decide +kernel
theorem d55_5 : decode prog_18_method_7_code 5 = .ok (.iaload, 1) := by decide +kernel
theorem d55_6 : decode prog_18_method_7_code 6 = .ok (.istore_n 3, 1) := by decide +kernel
theorem d55_7 : decode prog_18_method_7_code 7 = .ok (.aload_n 0, 1) := by decide +kernel
theorem d55_8 : decode prog_18_method_7_code 8 = .ok (.getfield 17, 3) := by decide +kernel
theorem d55_11 : decode prog_18_method_7_code 11 = .ok (.iload_n 1, 1) := by decide +kernel
theorem d55_12 : decode prog_18_method_7_code 12 = .ok (.iaload, 1) := by decide +kernel
theorem d55_13 : decode prog_18_method_7_code 13 = .ok (.istore 4, 2) := by decide +kernel
theorem d55_15 : decode prog_18_method_7_code 15 = .ok (.aload_n 0, 1) := by decide +kernel
theorem d55_16 : decode prog_18_method_7_code 16 = .ok (.getfield 13, 3) := by decide +kernel
theorem d55_19 : decode prog_18_method_7_code 19 = .ok (.iload_n 2, 1) := by decide +kernel
theorem d55_20 : decode prog_18_method_7_code 20 = .ok (.iload_n 3, 1) := by decide +kernel
theorem d55_21 : decode prog_18_method_7_code 21 = .ok (.iastore, 1) := by decide +kernel
theorem d55_22 : decode prog_18_method_7_code 22 = .ok (.aload_n 0, 1) := by decide +kernel
theorem d55_23 : decode prog_18_method_7_code 23 = .ok (.getfield 17, 3) := by decide +kernel
theorem d55_26 : decode prog_18_method_7_code 26 = .ok (.iload_n 2, 1) := by decide +kernel
theorem d55_27 : decode prog_18_method_7_code 27 = .ok (.iload 4, 2) := by decide +kernel
theorem d55_29 : decode prog_18_method_7_code 29 = .ok (.iastore, 1) := by decide +kernel
theorem d55_30 : decode prog_18_method_7_code 30 = .ok (.aload_n 0, 1) := by decide +kernel
theorem d55_31 : decode prog_18_method_7_code 31 = .ok (.getfield 20, 3) := by decide +kernel
theorem d55_34 : decode prog_18_method_7_code 34 = .ok (.iload_n 2, 1) := by decide +kernel
theorem d55_35 : decode prog_18_method_7_code 35 = .ok (.iload_n 1, 1) := by decide +kernel
theorem d55_36 : decode prog_18_method_7_code 36 = .ok (.iastore, 1) := by decide +kernel
theorem d55_37 : decode prog_18_method_7_code 37 = .ok (.iload 4, 2) := by decide +kernel
theorem d55_39 : decode prog_18_method_7_code 39 = .ok (.iconst (-1), 1) := by decide +kernel
theorem d55_40 : decode prog_18_method_7_code 40 = .ok (.if_icmp .eq 11, 3) := by decide +kernel
theorem d55_43 : decode prog_18_method_7_code 43 = .ok (.aload_n 0, 1) := by decide +kernel
theorem d55_44 : decode prog_18_method_7_code 44 = .ok (.getfield 20, 3) := by decide +kernel
theorem d55_47 : decode prog_18_method_7_code 47 = .ok (.iload 4, 2) := by decide +kernel
theorem d55_49 : decode prog_18_method_7_code 49 = .ok (.iload_n 2, 1) := by decide +kernel
theorem d55_50 : decode prog_18_method_7_code 50 = .ok (.iastore, 1) := by decide +kernel
theorem d55_51 : decode prog_18_method_7_code 51 = .ok (.aload_n 0, 1) := by decide +kernel
theorem d55_52 : decode prog_18_method_7_code 52 = .ok (.getfield 17, 3) := by decide +kernel
theorem d55_55 : decode prog_18_method_7_code 55 = .ok (.iload_n 1, 1) := by decide +kernel
theorem d55_56 : decode prog_18_method_7_code 56 = .ok (.iload_n 2, 1) := by decide +kernel
theorem d55_57 : decode prog_18_method_7_code 57 = .ok (.iastore, 1) := by decide +kernel
theorem d55_58 : decode prog_18_method_7_code 58 = .ok (.aload_n 0, 1) := by decide +kernel
theorem d55_59 : decode prog_18_method_7_code 59 = .ok (.getfield 29, 3) := by decide +kernel
theorem d55_62 : decode prog_18_method_7_code 62 = .ok (.iload_n 3, 1) := by decide +kernel
theorem d55_63 : decode prog_18_method_7_code 63 = .ok (.baload, 1) := by decide +kernel
theorem d55_64 : decode prog_18_method_7_code 64 = .ok (.ifCond .ne 27, 3) := by decide +kernel
theorem d55_67 : decode prog_18_method_7_code 67 = .ok (.aload_n 0, 1) := by decide +kernel
theorem d55_68 : decode prog_18_method_7_code 68 = .ok (.getfield 29, 3) := by decide +kernel
theorem d55_71 : decode prog_18_method_7_code 71 = .ok (.iload_n 3, 1) := by decide +kernel
theorem d55_72 : decode prog_18_method_7_code 72 = .ok (.iconst 1, 1) := by decide +kernel
theorem d55_73 : decode prog_18_method_7_code 73 = .ok (.bastore, 1) := by decide +kernel
theorem d55_74 : decode prog_18_method_7_code 74 = .ok (.aload_n 0, 1) := by decide +kernel
theorem d55_75 : decode prog_18_method_7_code 75 = .ok (.getfield 26, 3) := by decide +kernel
theorem d55_78 : decode prog_18_method_7_code 78 = .ok (.aload_n 0, 1) := by decide +kernel
theorem d55_79 : decode prog_18_method_7_code 79 = .ok (.dup, 1) := by decide +kernel
theorem d55_80 : decode prog_18_method_7_code 80 = .ok (.getfield 37, 3) := by decide +kernel
theorem d55_83 : decode prog_18_method_7_code 83 = .ok (.dup_x1, 1) := by decide +kernel
theorem d55_84 : decode prog_18_method_7_code 84 = .ok (.iconst 1, 1) := by decide +kernel
theorem d55_85 : decode prog_18_method_7_code 85 = .ok (.iadd, 1) := by decide +kernel
theorem d55_86 : decode prog_18_method_7_code 86 = .ok (.putfield 37, 3) := by decide +kernel
theorem d55_89 : decode prog_18_method_7_code 89 = .ok (.iload_n 3, 1) := by decide +kernel
theorem d55_90 : decode prog_18_method_7_code 90 = .ok (.iastore, 1) := by decide +kernel
theorem d55_91 : decode prog_18_method_7_code 91 = .ok (.return_, 1) := by decide +kernel
theorem pn_com_example_fixpoints_of_behaviour_fixpointsofbehaviour_bisimulation_CompoundBlocks : plainName cCB = true := by first | (simp [plainName, overriddenIn]; done) | decide +kernel
theorem ef_rmJ (m : MethodId) (a1 : Addr) (p1 : Int32) (p2 : Int32) : entryFrame m #[(.ref a1), (.int p1), (.int p2)] 5 = mkF m 0 #[rv a1, iv p1, iv p2, uv, uv] [] := by first | (simp [entryFrame, mkF, argsToLocals, Value.category]; done) | rfl
def Q_rmJ (Z : State) (a1 : Addr) (a2 : Addr) (bco : Addr) (bnx : Addr) (bpv : Addr) (bfb : Addr) (bpd : Addr) (bip : Addr) (bfi : Addr) (ben : Addr) (co : List Int32) (nx : List Int32) (pv : List Int32) (fb : List Int32) (pd : List Int32) (ip : List Int32) (cc : Int32) (pc : Int32) (p1 : Int32) (p2 : Int32) (h0 : Heap) (n0 : Nat) (v : Option Value) (h : Heap) (L : List Loc) : Prop := v = none ∧ Fr n0 L ∧ n0 ≤ h.size ∧ Cbs Z h n0 a1 a2 bco bnx bpv bfb bpd bip bfi ben (own_join co nx pv fb pd ip cc pc p1 p2)
set_option maxRecDepth 65536 in
set_option maxHeartbeats 40000000 in
theorem rmJ (l : Launch) (Z : State) (a0 : Array Value) (hw : ∀ d ∈ tables_1, d.before a0 Z = true) (ws : List Jvm.Cond) (a1 : Addr) (a2 : Addr) (bco : Addr) (bnx : Addr) (bpv : Addr) (bfb : Addr) (bpd : Addr) (bip : Addr) (bfi : Addr) (ben : Addr) (co : List Int32) (nx : List Int32) (pv : List Int32) (fb : List Int32) (pd : List Int32) (ip : List Int32) (cc : Int32) (pc : Int32) (p1 : Int32) (p2 : Int32) (h0 : Heap) (n0 : Nat) (Z0 : n0 ≤ h0.size) (B : Cb Z h0 n0 a1 a2 bco bnx bpv bfb bpd bip bfi ben co nx pv fb pd ip cc pc) (hok : own_jok co nx pc p1 p2 = true) :
    MetFree l yj (head1 (Jvm.Cond.code yj prog_18_method_7_code 5 none :: ws) ({ frames := 0, cells := 0, slots := 0, locals := 0 } : Room)) (fun a_ U => a_ = #[(.ref a1), (.int p1), (.int p2)] ∧ Z.Warmed39 U.vm ∧ U.heap = h0) (fun _ _ _ _ _ => True) (fun _ U o U' => ∃ v L, o = .returned v ∧ Q_rmJ Z a1 a2 bco bnx bpv bfb bpd bip bfi ben co nx pv fb pd ip cc pc p1 p2 h0 n0 v U'.heap L ∧ FrameEnd U o U' L ({ frames := 0, cells := 0, slots := 0, locals := 0 } : Room).cells ({ frames := 0, cells := 0, slots := 0, locals := 0 } : Room).slots) := by
  refine MetFree.of_bodySF (plainFor_of_name pn_com_example_fixpoints_of_behaviour_fixpointsofbehaviour_bisimulation_CompoundBlocks) hisR ?_
  intro p e s m args below meth c s₁ Bd hml0 hP hK
  obtain ⟨rfl, hZ, hh⟩ := hP
  have hx := Bd.exec
  have hby := Bd.bytes
  have hml : c.maxLocals = 5 := hml0
  have hown : s.vm.findClass cCB = some m.cls := findClass_of_methodNamed Bd.named
  have hnm := (name_of_methodNamed Bd.named Bd.method).1
  have hret := Bd.returns
  have hlk : meth.locks = false := BodyLoose.notSynchronized Bd
  have X0 : Stand p l e ({ frames := 0, cells := 0, slots := 0, locals := 0 } : Room) s m #[(.ref a1), (.int p1), (.int p2)] below meth c s₁ [] 0 0 := Stand.of_body Bd
  have e0 : s₁.heap = h0 := by rw [← hh, Bd.state]; rfl
  have N0 := Fr.nil n0
  obtain ⟨⟨E_a1, FC_blocks, FC_compoundOf, FC_nextInCompound, FC_previousInCompound, FC_firstBlock, FC_pending, FC_isPending, FC_compoundCount, FC_pendingCount⟩, ⟨E_a2, FB_first, FB_end⟩, ⟨⟨k_co, V_co, l_co⟩, ⟨k_nx, V_nx, l_nx⟩, ⟨k_pv, V_pv, l_pv⟩, ⟨k_fb, V_fb, l_fb⟩, ⟨k_pd, V_pd, l_pd⟩, ⟨k_ip, V_ip, l_ip⟩, ⟨k_fi, V_fi, l_fi⟩, ⟨k_en, V_en, l_en⟩⟩, o0, o1, o2, o3, o4, o5, o6, o7, o8, o9⟩ := B
  obtain ⟨i1, i2, i3, i4, i5⟩ := own_jok_e hok
  refine Rch.body (Q := Q_rmJ Z a1 a2 bco bnx bpv bfb bpd bip bfi ben co nx pv fb pd ip cc pc p1 p2 h0 n0) (U' := s₁.setTop (mkF m 0 #[rv a1, iv p1, iv p2, uv, uv] [])) (fun _ k => castTop (ef_rmJ m a1 p1 p2) k) ?_
  refine Rch.go (U' := s₁.setTop (mkF m 1 #[rv a1, iv p1, iv p2, uv, uv] [(.ref a1)])) (fun _ k => XS.aloadN X0.here hx rfl (hb hby d55_0) rfl rfl k) ?_
  obtain ⟨T1, X1, e1, st1⟩ := getF X0 hx hZ hown (host := "") (Or.inl (wi hw 36 rfl)) Via.refl e0 FC_compoundOf (g := (mkF m 1 #[rv a1, iv p1, iv p2, uv, uv] [(.ref a1)])) rfl rfl (hb hby d55_1)
  refine Rch.go (U' := T1.setTop (mkF m 4 #[rv a1, iv p1, iv p2, uv, uv] [(.ref bco)])) st1 ?_
  refine Rch.go (U' := T1.setTop (mkF m 5 #[rv a1, iv p1, iv p2, uv, uv] [(.int p1), (.ref bco)])) (fun _ k => XS.iloadN X1.here hx rfl (hb hby d55_4) rfl  k) ?_
  obtain ⟨cl2, Ar2, qk2, Sz2, Mn2, Hs2, Gf2⟩ := id V_co
  have ib2 : ¬ (p1 < 0 ∨ cl2.slots.size ≤ (p1).toNatClampNeg) := inb_of Sz2 i1
  have ea2 : cl2.slots[(p1).toNatClampNeg]? = some (.int (own_at co p1)) := Has.at Hs2 ib2 (own_gx co p1)
  refine Rch.go (U' := T1.setTop (mkF m 6 #[rv a1, iv p1, iv p2, uv, uv] [(.int (own_at co p1))])) (fun _ k => X1.iaload hx (j := p1) (v := (.int (own_at co p1))) (by rw [e1]; exact Ar2.1) (State.isArrayOf_alike hZ.alike Ar2.2.1) Ar2.2.2 ib2 ea2 (g := (mkF m 5 #[rv a1, iv p1, iv p2, uv, uv] [(.int p1), (.ref bco)])) rfl rfl (hb hby d55_5) _ k) ?_
  generalize hq : (own_at co p1) = q
  refine Rch.go (U' := T1.setTop (mkF m 7 #[rv a1, iv p1, iv p2, iv q, uv] [])) (fun _ k => XS.istoreN X1.here hx rfl (hb hby d55_6) rfl (l' := #[rv a1, iv p1, iv p2, iv q, uv]) rfl k) ?_
  refine Rch.go (U' := T1.setTop (mkF m 8 #[rv a1, iv p1, iv p2, iv q, uv] [(.ref a1)])) (fun _ k => XS.aloadN X1.here hx rfl (hb hby d55_7) rfl rfl k) ?_
  obtain ⟨T3, X3, e3, st3⟩ := getF X1 hx hZ hown (host := "") (Or.inl (wi hw 38 rfl)) Via.refl e1 FC_nextInCompound (g := (mkF m 8 #[rv a1, iv p1, iv p2, iv q, uv] [(.ref a1)])) rfl rfl (hb hby d55_8)
  refine Rch.go (U' := T3.setTop (mkF m 11 #[rv a1, iv p1, iv p2, iv q, uv] [(.ref bnx)])) st3 ?_
  refine Rch.go (U' := T3.setTop (mkF m 12 #[rv a1, iv p1, iv p2, iv q, uv] [(.int p1), (.ref bnx)])) (fun _ k => XS.iloadN X3.here hx rfl (hb hby d55_11) rfl  k) ?_
  obtain ⟨cl4, Ar4, qk4, Sz4, Mn4, Hs4, Gf4⟩ := id V_nx
  have ib4 : ¬ (p1 < 0 ∨ cl4.slots.size ≤ (p1).toNatClampNeg) := inb_of Sz4 i1
  have ea4 : cl4.slots[(p1).toNatClampNeg]? = some (.int (own_at nx p1)) := Has.at Hs4 ib4 (own_gx nx p1)
  refine Rch.go (U' := T3.setTop (mkF m 13 #[rv a1, iv p1, iv p2, iv q, uv] [(.int (own_at nx p1))])) (fun _ k => X3.iaload hx (j := p1) (v := (.int (own_at nx p1))) (by rw [e3]; exact Ar4.1) (State.isArrayOf_alike hZ.alike Ar4.2.1) Ar4.2.2 ib4 ea4 (g := (mkF m 12 #[rv a1, iv p1, iv p2, iv q, uv] [(.int p1), (.ref bnx)])) rfl rfl (hb hby d55_12) _ k) ?_
  generalize ht : (own_at nx p1) = t
  refine Rch.go (U' := T3.setTop (mkF m 15 #[rv a1, iv p1, iv p2, iv q, iv t] [])) (fun _ k => XS.istore X3.here hx rfl (hb hby d55_13) rfl (l' := #[rv a1, iv p1, iv p2, iv q, iv t]) rfl k) ?_
  refine Rch.go (U' := T3.setTop (mkF m 16 #[rv a1, iv p1, iv p2, iv q, iv t] [(.ref a1)])) (fun _ k => XS.aloadN X3.here hx rfl (hb hby d55_15) rfl rfl k) ?_
  obtain ⟨T5, X5, e5, st5⟩ := getF X3 hx hZ hown (host := "") (Or.inl (wi hw 36 rfl)) Via.refl e3 FC_compoundOf (g := (mkF m 16 #[rv a1, iv p1, iv p2, iv q, iv t] [(.ref a1)])) rfl rfl (hb hby d55_16)
  refine Rch.go (U' := T5.setTop (mkF m 19 #[rv a1, iv p1, iv p2, iv q, iv t] [(.ref bco)])) st5 ?_
  refine Rch.go (U' := T5.setTop (mkF m 20 #[rv a1, iv p1, iv p2, iv q, iv t] [(.int p2), (.ref bco)])) (fun _ k => XS.iloadN X5.here hx rfl (hb hby d55_19) rfl  k) ?_
  refine Rch.go (U' := T5.setTop (mkF m 21 #[rv a1, iv p1, iv p2, iv q, iv t] [(.int q), (.int p2), (.ref bco)])) (fun _ k => XS.iloadN X5.here hx rfl (hb hby d55_20) rfl  k) ?_
  obtain ⟨cl6, Ar6, qk6, Sz6, Mn6, Hs6, Gf6⟩ := id V_co
  have ib6 : ¬ (p2 < 0 ∨ cl6.slots.size ≤ (p2).toNatClampNeg) := inb_of Sz6 i2
  obtain ⟨T6, h6, X6, e6, W6, st6⟩ := stI X5 hx hZ e5 Ar6 (j := p2) ib6 (g := (mkF m 21 #[rv a1, iv p1, iv p2, iv q, iv t] [(.int q), (.int p2), (.ref bco)])) rfl rfl (hb hby d55_21)
  have V6 : Arv Z h6 bco k_co .int (4 : Int32) ((own_st co p2 q).map Value.int) (.int (0 : Int32)) := own_sx (Arv.set Ar6 qk6 Sz6 Mn6 Hs6 Gf6 rfl W6 _ rfl (own_ln i2 l_co))
  have f7 := E_a1.wr W6
  have f8 := E_a2.wr W6
  have f9 := FC_blocks.other W6 (Or.inl (nN o4))
  have f10 := FC_compoundOf.other W6 (Or.inl (nN o4))
  have f11 := FC_nextInCompound.other W6 (Or.inl (nN o4))
  have f12 := FC_previousInCompound.other W6 (Or.inl (nN o4))
  have f13 := FC_firstBlock.other W6 (Or.inl (nN o4))
  have f14 := FC_pending.other W6 (Or.inl (nN o4))
  have f15 := FC_isPending.other W6 (Or.inl (nN o4))
  have f16 := FC_compoundCount.other W6 (Or.inl (nN o4))
  have f17 := FC_pendingCount.other W6 (Or.inl (nN o4))
  have f18 := FB_first.other W6 (Or.inl (nN (nT o1 (nT o2 (nT o3 o4)))))
  have f19 := FB_end.other W6 (Or.inl (nN (nT o1 (nT o2 (nT o3 o4)))))
  have f20 := V_nx.other W6 (nM o5)
  have f21 := V_pv.other W6 (nM (nT o5 o6))
  have f22 := V_fb.other W6 (nM (nT o5 (nT o6 o7)))
  have f23 := V_pd.other W6 (nM (nT o5 (nT o6 (nT o7 o8))))
  have f24 := V_ip.other W6 (nM (nT o5 (nT o6 (nT o7 (nT o8 o9)))))
  have f25 := V_fi.other W6 (nN (nT o2 (nT o3 o4)))
  have f26 := V_en.other W6 (nN (nT o3 o4))
  have N6 := Fr.snoc X6 N0 (nG o0 (nT o1 (nT o2 (nT o3 o4))))
  have z27 := Nat.le_trans Z0 (Keep.of_wr W6).1
  refine Rch.go (U' := T6.setTop (mkF m 22 #[rv a1, iv p1, iv p2, iv q, iv t] [])) st6 ?_
  refine Rch.go (U' := T6.setTop (mkF m 23 #[rv a1, iv p1, iv p2, iv q, iv t] [(.ref a1)])) (fun _ k => XS.aloadN X6.here hx rfl (hb hby d55_22) rfl rfl k) ?_
  obtain ⟨T28, X28, e28, st28⟩ := getF X6 hx hZ hown (host := "") (Or.inl (wi hw 38 rfl)) Via.refl e6 f11 (g := (mkF m 23 #[rv a1, iv p1, iv p2, iv q, iv t] [(.ref a1)])) rfl rfl (hb hby d55_23)
  refine Rch.go (U' := T28.setTop (mkF m 26 #[rv a1, iv p1, iv p2, iv q, iv t] [(.ref bnx)])) st28 ?_
  refine Rch.go (U' := T28.setTop (mkF m 27 #[rv a1, iv p1, iv p2, iv q, iv t] [(.int p2), (.ref bnx)])) (fun _ k => XS.iloadN X28.here hx rfl (hb hby d55_26) rfl  k) ?_
  refine Rch.go (U' := T28.setTop (mkF m 29 #[rv a1, iv p1, iv p2, iv q, iv t] [(.int t), (.int p2), (.ref bnx)])) (fun _ k => XS.iload X28.here hx rfl (hb hby d55_27) rfl  k) ?_
  obtain ⟨cl29, Ar29, qk29, Sz29, Mn29, Hs29, Gf29⟩ := id f20
  have ib29 : ¬ (p2 < 0 ∨ cl29.slots.size ≤ (p2).toNatClampNeg) := inb_of Sz29 i2
  obtain ⟨T29, h29, X29, e29, W29, st29⟩ := stI X28 hx hZ e28 Ar29 (j := p2) ib29 (g := (mkF m 29 #[rv a1, iv p1, iv p2, iv q, iv t] [(.int t), (.int p2), (.ref bnx)])) rfl rfl (hb hby d55_29)
  have V29 : Arv Z h29 bnx k_nx .int (4 : Int32) ((own_st nx p2 t).map Value.int) (.int (0 : Int32)) := own_sx (Arv.set Ar29 qk29 Sz29 Mn29 Hs29 Gf29 rfl W29 _ rfl (own_ln i2 l_nx))
  have f30 := f7.wr W29
  have f31 := f8.wr W29
  have f32 := f9.other W29 (Or.inl (nN (nT o4 o5)))
  have f33 := f10.other W29 (Or.inl (nN (nT o4 o5)))
  have f34 := f11.other W29 (Or.inl (nN (nT o4 o5)))
  have f35 := f12.other W29 (Or.inl (nN (nT o4 o5)))
  have f36 := f13.other W29 (Or.inl (nN (nT o4 o5)))
  have f37 := f14.other W29 (Or.inl (nN (nT o4 o5)))
  have f38 := f15.other W29 (Or.inl (nN (nT o4 o5)))
  have f39 := f16.other W29 (Or.inl (nN (nT o4 o5)))
  have f40 := f17.other W29 (Or.inl (nN (nT o4 o5)))
  have f41 := f18.other W29 (Or.inl (nN (nT o1 (nT o2 (nT o3 (nT o4 o5))))))
  have f42 := f19.other W29 (Or.inl (nN (nT o1 (nT o2 (nT o3 (nT o4 o5))))))
  have f43 := V6.other W29 (nN o5)
  have f44 := f21.other W29 (nM o6)
  have f45 := f22.other W29 (nM (nT o6 o7))
  have f46 := f23.other W29 (nM (nT o6 (nT o7 o8)))
  have f47 := f24.other W29 (nM (nT o6 (nT o7 (nT o8 o9))))
  have f48 := f25.other W29 (nN (nT o2 (nT o3 (nT o4 o5))))
  have f49 := f26.other W29 (nN (nT o3 (nT o4 o5)))
  have N29 := Fr.snoc X29 N6 (nG o0 (nT o1 (nT o2 (nT o3 (nT o4 o5)))))
  have z50 := Nat.le_trans z27 (Keep.of_wr W29).1
  refine Rch.go (U' := T29.setTop (mkF m 30 #[rv a1, iv p1, iv p2, iv q, iv t] [])) st29 ?_
  refine Rch.go (U' := T29.setTop (mkF m 31 #[rv a1, iv p1, iv p2, iv q, iv t] [(.ref a1)])) (fun _ k => XS.aloadN X29.here hx rfl (hb hby d55_30) rfl rfl k) ?_
  obtain ⟨T51, X51, e51, st51⟩ := getF X29 hx hZ hown (host := "") (Or.inl (wi hw 40 rfl)) Via.refl e29 f35 (g := (mkF m 31 #[rv a1, iv p1, iv p2, iv q, iv t] [(.ref a1)])) rfl rfl (hb hby d55_31)
  refine Rch.go (U' := T51.setTop (mkF m 34 #[rv a1, iv p1, iv p2, iv q, iv t] [(.ref bpv)])) st51 ?_
  refine Rch.go (U' := T51.setTop (mkF m 35 #[rv a1, iv p1, iv p2, iv q, iv t] [(.int p2), (.ref bpv)])) (fun _ k => XS.iloadN X51.here hx rfl (hb hby d55_34) rfl  k) ?_
  refine Rch.go (U' := T51.setTop (mkF m 36 #[rv a1, iv p1, iv p2, iv q, iv t] [(.int p1), (.int p2), (.ref bpv)])) (fun _ k => XS.iloadN X51.here hx rfl (hb hby d55_35) rfl  k) ?_
  obtain ⟨cl52, Ar52, qk52, Sz52, Mn52, Hs52, Gf52⟩ := id f44
  have ib52 : ¬ (p2 < 0 ∨ cl52.slots.size ≤ (p2).toNatClampNeg) := inb_of Sz52 i2
  obtain ⟨T52, h52, X52, e52, W52, st52⟩ := stI X51 hx hZ e51 Ar52 (j := p2) ib52 (g := (mkF m 36 #[rv a1, iv p1, iv p2, iv q, iv t] [(.int p1), (.int p2), (.ref bpv)])) rfl rfl (hb hby d55_36)
  have V52 : Arv Z h52 bpv k_pv .int (4 : Int32) ((own_st pv p2 p1).map Value.int) (.int (0 : Int32)) := own_sx (Arv.set Ar52 qk52 Sz52 Mn52 Hs52 Gf52 rfl W52 _ rfl (own_ln i2 l_pv))
  have f53 := f30.wr W52
  have f54 := f31.wr W52
  have f55 := f32.other W52 (Or.inl (nN (nT o4 (nT o5 o6))))
  have f56 := f33.other W52 (Or.inl (nN (nT o4 (nT o5 o6))))
  have f57 := f34.other W52 (Or.inl (nN (nT o4 (nT o5 o6))))
  have f58 := f35.other W52 (Or.inl (nN (nT o4 (nT o5 o6))))
  have f59 := f36.other W52 (Or.inl (nN (nT o4 (nT o5 o6))))
  have f60 := f37.other W52 (Or.inl (nN (nT o4 (nT o5 o6))))
  have f61 := f38.other W52 (Or.inl (nN (nT o4 (nT o5 o6))))
  have f62 := f39.other W52 (Or.inl (nN (nT o4 (nT o5 o6))))
  have f63 := f40.other W52 (Or.inl (nN (nT o4 (nT o5 o6))))
  have f64 := f41.other W52 (Or.inl (nN (nT o1 (nT o2 (nT o3 (nT o4 (nT o5 o6)))))))
  have f65 := f42.other W52 (Or.inl (nN (nT o1 (nT o2 (nT o3 (nT o4 (nT o5 o6)))))))
  have f66 := f43.other W52 (nN (nT o5 o6))
  have f67 := V29.other W52 (nN o6)
  have f68 := f45.other W52 (nM o7)
  have f69 := f46.other W52 (nM (nT o7 o8))
  have f70 := f47.other W52 (nM (nT o7 (nT o8 o9)))
  have f71 := f48.other W52 (nN (nT o2 (nT o3 (nT o4 (nT o5 o6)))))
  have f72 := f49.other W52 (nN (nT o3 (nT o4 (nT o5 o6))))
  have N52 := Fr.snoc X52 N29 (nG o0 (nT o1 (nT o2 (nT o3 (nT o4 (nT o5 o6))))))
  have z73 := Nat.le_trans z50 (Keep.of_wr W52).1
  refine Rch.go (U' := T52.setTop (mkF m 37 #[rv a1, iv p1, iv p2, iv q, iv t] [])) st52 ?_
  refine Rch.go (U' := T52.setTop (mkF m 39 #[rv a1, iv p1, iv p2, iv q, iv t] [(.int t)])) (fun _ k => XS.iload X52.here hx rfl (hb hby d55_37) rfl  k) ?_
  refine Rch.go (U' := T52.setTop (mkF m 40 #[rv a1, iv p1, iv p2, iv q, iv t] [(.int (-1 : Int32)), (.int t)])) (fun _ k => XS.iconst X52.here hx rfl (hb hby d55_39) k) ?_
  by_cases br74 : t = (-1 : Int32)
  ·
    refine Rch.go (U' := T52.setTop (mkF m 51 #[rv a1, iv p1, iv p2, iv q, iv t] [])) (fun _ k => XS.icmpYes X52.here hx rfl (pc0 := 40) (pc' := 51) rfl (hb hby d55_40) rfl (XT.ii_eq_t br74) (by decide) (by decide) k) ?_
    refine Rch.go (U' := T52.setTop (mkF m 52 #[rv a1, iv p1, iv p2, iv q, iv t] [(.ref a1)])) (fun _ k => XS.aloadN X52.here hx rfl (hb hby d55_51) rfl rfl k) ?_
    obtain ⟨T75, X75, e75, st75⟩ := getF X52 hx hZ hown (host := "") (Or.inl (wi hw 38 rfl)) Via.refl e52 f57 (g := (mkF m 52 #[rv a1, iv p1, iv p2, iv q, iv t] [(.ref a1)])) rfl rfl (hb hby d55_52)
    refine Rch.go (U' := T75.setTop (mkF m 55 #[rv a1, iv p1, iv p2, iv q, iv t] [(.ref bnx)])) st75 ?_
    refine Rch.go (U' := T75.setTop (mkF m 56 #[rv a1, iv p1, iv p2, iv q, iv t] [(.int p1), (.ref bnx)])) (fun _ k => XS.iloadN X75.here hx rfl (hb hby d55_55) rfl  k) ?_
    refine Rch.go (U' := T75.setTop (mkF m 57 #[rv a1, iv p1, iv p2, iv q, iv t] [(.int p2), (.int p1), (.ref bnx)])) (fun _ k => XS.iloadN X75.here hx rfl (hb hby d55_56) rfl  k) ?_
    obtain ⟨cl76, Ar76, qk76, Sz76, Mn76, Hs76, Gf76⟩ := id f67
    have ib76 : ¬ (p1 < 0 ∨ cl76.slots.size ≤ (p1).toNatClampNeg) := inb_of Sz76 i1
    obtain ⟨T76, h76, X76, e76, W76, st76⟩ := stI X75 hx hZ e75 Ar76 (j := p1) ib76 (g := (mkF m 57 #[rv a1, iv p1, iv p2, iv q, iv t] [(.int p2), (.int p1), (.ref bnx)])) rfl rfl (hb hby d55_57)
    have V76 : Arv Z h76 bnx k_nx .int (4 : Int32) ((own_st (own_st nx p2 t) p1 p2).map Value.int) (.int (0 : Int32)) := own_sx (Arv.set Ar76 qk76 Sz76 Mn76 Hs76 Gf76 rfl W76 _ rfl (own_ln i1 (own_ls l_nx)))
    have f77 := f53.wr W76
    have f78 := f54.wr W76
    have f79 := f55.other W76 (Or.inl (nN (nT o4 o5)))
    have f80 := f56.other W76 (Or.inl (nN (nT o4 o5)))
    have f81 := f57.other W76 (Or.inl (nN (nT o4 o5)))
    have f82 := f58.other W76 (Or.inl (nN (nT o4 o5)))
    have f83 := f59.other W76 (Or.inl (nN (nT o4 o5)))
    have f84 := f60.other W76 (Or.inl (nN (nT o4 o5)))
    have f85 := f61.other W76 (Or.inl (nN (nT o4 o5)))
    have f86 := f62.other W76 (Or.inl (nN (nT o4 o5)))
    have f87 := f63.other W76 (Or.inl (nN (nT o4 o5)))
    have f88 := f64.other W76 (Or.inl (nN (nT o1 (nT o2 (nT o3 (nT o4 o5))))))
    have f89 := f65.other W76 (Or.inl (nN (nT o1 (nT o2 (nT o3 (nT o4 o5))))))
    have f90 := f66.other W76 (nN o5)
    have f91 := V52.other W76 (nM o6)
    have f92 := f68.other W76 (nM (nT o6 o7))
    have f93 := f69.other W76 (nM (nT o6 (nT o7 o8)))
    have f94 := f70.other W76 (nM (nT o6 (nT o7 (nT o8 o9))))
    have f95 := f71.other W76 (nN (nT o2 (nT o3 (nT o4 o5))))
    have f96 := f72.other W76 (nN (nT o3 (nT o4 o5)))
    have N76 := Fr.snoc X76 N52 (nG o0 (nT o1 (nT o2 (nT o3 (nT o4 o5)))))
    have z97 := Nat.le_trans z73 (Keep.of_wr W76).1
    refine Rch.go (U' := T76.setTop (mkF m 58 #[rv a1, iv p1, iv p2, iv q, iv t] [])) st76 ?_
    refine Rch.go (U' := T76.setTop (mkF m 59 #[rv a1, iv p1, iv p2, iv q, iv t] [(.ref a1)])) (fun _ k => XS.aloadN X76.here hx rfl (hb hby d55_58) rfl rfl k) ?_
    obtain ⟨T98, X98, e98, st98⟩ := getF X76 hx hZ hown (host := "") (Or.inl (wi hw 47 rfl)) Via.refl e76 f85 (g := (mkF m 59 #[rv a1, iv p1, iv p2, iv q, iv t] [(.ref a1)])) rfl rfl (hb hby d55_59)
    refine Rch.go (U' := T98.setTop (mkF m 62 #[rv a1, iv p1, iv p2, iv q, iv t] [(.ref bip)])) st98 ?_
    refine Rch.go (U' := T98.setTop (mkF m 63 #[rv a1, iv p1, iv p2, iv q, iv t] [(.int q), (.ref bip)])) (fun _ k => XS.iloadN X98.here hx rfl (hb hby d55_62) rfl  k) ?_
    obtain ⟨cl99, Ar99, qk99, Sz99, Mn99, Hs99, Gf99⟩ := id f94
    have ib99 : ¬ (q < 0 ∨ cl99.slots.size ≤ (q).toNatClampNeg) := inb_of Sz99 (hq ▸ i3)
    have ea99 : cl99.slots[(q).toNatClampNeg]? = some (.int (own_at ip q)) := Has.at Hs99 ib99 (own_gx ip q)
    refine Rch.go (U' := T98.setTop (mkF m 64 #[rv a1, iv p1, iv p2, iv q, iv t] [(.int (own_at ip q))])) (fun _ k => X98.baloadBooleans hx (j := q) (v := (.int (own_at ip q))) (by rw [e98]; exact Ar99.1) (State.isArrayOf_alike hZ.alike Ar99.2.1) Ar99.2.2 ib99 ea99 (g := (mkF m 63 #[rv a1, iv p1, iv p2, iv q, iv t] [(.int q), (.ref bip)])) rfl rfl (hb hby d55_63) _ k) ?_
    by_cases br100 : (own_at ip q) = (0 : Int32)
    ·
      refine Rch.go (U' := T98.setTop (mkF m 67 #[rv a1, iv p1, iv p2, iv q, iv t] [])) (fun _ k => XS.ifNo X98.here hx rfl (hb hby d55_64) rfl (XT.i0_ne_f br100) k) ?_
      refine Rch.go (U' := T98.setTop (mkF m 68 #[rv a1, iv p1, iv p2, iv q, iv t] [(.ref a1)])) (fun _ k => XS.aloadN X98.here hx rfl (hb hby d55_67) rfl rfl k) ?_
      obtain ⟨T101, X101, e101, st101⟩ := getF X98 hx hZ hown (host := "") (Or.inl (wi hw 47 rfl)) Via.refl e98 f85 (g := (mkF m 68 #[rv a1, iv p1, iv p2, iv q, iv t] [(.ref a1)])) rfl rfl (hb hby d55_68)
      refine Rch.go (U' := T101.setTop (mkF m 71 #[rv a1, iv p1, iv p2, iv q, iv t] [(.ref bip)])) st101 ?_
      refine Rch.go (U' := T101.setTop (mkF m 72 #[rv a1, iv p1, iv p2, iv q, iv t] [(.int q), (.ref bip)])) (fun _ k => XS.iloadN X101.here hx rfl (hb hby d55_71) rfl  k) ?_
      refine Rch.go (U' := T101.setTop (mkF m 73 #[rv a1, iv p1, iv p2, iv q, iv t] [(.int (1 : Int32)), (.int q), (.ref bip)])) (fun _ k => XS.iconst X101.here hx rfl (hb hby d55_72) k) ?_
      obtain ⟨cl102, Ar102, qk102, Sz102, Mn102, Hs102, Gf102⟩ := id f94
      have ib102 : ¬ (q < 0 ∨ cl102.slots.size ≤ (q).toNatClampNeg) := inb_of Sz102 (hq ▸ i3)
      obtain ⟨T102, h102, X102, e102, W102, st102⟩ := stZ X101 hx hZ e101 Ar102 (j := q) ib102 (g := (mkF m 73 #[rv a1, iv p1, iv p2, iv q, iv t] [(.int (1 : Int32)), (.int q), (.ref bip)])) rfl rfl (hb hby d55_73)
      have V102 : Arv Z h102 bip k_ip .boolean (4 : Int32) ((own_st ip q (1 : Int32)).map Value.int) (.int (0 : Int32)) := own_sx (Arv.set Ar102 qk102 Sz102 Mn102 Hs102 Gf102 (fits_nar_bool _) W102 _ rfl (own_ln (hq ▸ i3) l_ip))
      have f103 := f77.wr W102
      have f104 := f78.wr W102
      have f105 := f79.other W102 (Or.inl (nN (nT o4 (nT o5 (nT o6 (nT o7 (nT o8 o9)))))))
      have f106 := f80.other W102 (Or.inl (nN (nT o4 (nT o5 (nT o6 (nT o7 (nT o8 o9)))))))
      have f107 := f81.other W102 (Or.inl (nN (nT o4 (nT o5 (nT o6 (nT o7 (nT o8 o9)))))))
      have f108 := f82.other W102 (Or.inl (nN (nT o4 (nT o5 (nT o6 (nT o7 (nT o8 o9)))))))
      have f109 := f83.other W102 (Or.inl (nN (nT o4 (nT o5 (nT o6 (nT o7 (nT o8 o9)))))))
      have f110 := f84.other W102 (Or.inl (nN (nT o4 (nT o5 (nT o6 (nT o7 (nT o8 o9)))))))
      have f111 := f85.other W102 (Or.inl (nN (nT o4 (nT o5 (nT o6 (nT o7 (nT o8 o9)))))))
      have f112 := f86.other W102 (Or.inl (nN (nT o4 (nT o5 (nT o6 (nT o7 (nT o8 o9)))))))
      have f113 := f87.other W102 (Or.inl (nN (nT o4 (nT o5 (nT o6 (nT o7 (nT o8 o9)))))))
      have f114 := f88.other W102 (Or.inl (nN (nT o1 (nT o2 (nT o3 (nT o4 (nT o5 (nT o6 (nT o7 (nT o8 o9))))))))))
      have f115 := f89.other W102 (Or.inl (nN (nT o1 (nT o2 (nT o3 (nT o4 (nT o5 (nT o6 (nT o7 (nT o8 o9))))))))))
      have f116 := f90.other W102 (nN (nT o5 (nT o6 (nT o7 (nT o8 o9)))))
      have f117 := V76.other W102 (nN (nT o6 (nT o7 (nT o8 o9))))
      have f118 := f91.other W102 (nN (nT o7 (nT o8 o9)))
      have f119 := f92.other W102 (nN (nT o8 o9))
      have f120 := f93.other W102 (nN o9)
      have f121 := f95.other W102 (nN (nT o2 (nT o3 (nT o4 (nT o5 (nT o6 (nT o7 (nT o8 o9))))))))
      have f122 := f96.other W102 (nN (nT o3 (nT o4 (nT o5 (nT o6 (nT o7 (nT o8 o9)))))))
      have N102 := Fr.snoc X102 N76 (nG o0 (nT o1 (nT o2 (nT o3 (nT o4 (nT o5 (nT o6 (nT o7 (nT o8 o9)))))))))
      have z123 := Nat.le_trans z97 (Keep.of_wr W102).1
      refine Rch.go (U' := T102.setTop (mkF m 74 #[rv a1, iv p1, iv p2, iv q, iv t] [])) st102 ?_
      refine Rch.go (U' := T102.setTop (mkF m 75 #[rv a1, iv p1, iv p2, iv q, iv t] [(.ref a1)])) (fun _ k => XS.aloadN X102.here hx rfl (hb hby d55_74) rfl rfl k) ?_
      obtain ⟨T124, X124, e124, st124⟩ := getF X102 hx hZ hown (host := "") (Or.inl (wi hw 44 rfl)) Via.refl e102 f110 (g := (mkF m 75 #[rv a1, iv p1, iv p2, iv q, iv t] [(.ref a1)])) rfl rfl (hb hby d55_75)
      refine Rch.go (U' := T124.setTop (mkF m 78 #[rv a1, iv p1, iv p2, iv q, iv t] [(.ref bpd)])) st124 ?_
      refine Rch.go (U' := T124.setTop (mkF m 79 #[rv a1, iv p1, iv p2, iv q, iv t] [(.ref a1), (.ref bpd)])) (fun _ k => XS.aloadN X124.here hx rfl (hb hby d55_78) rfl rfl k) ?_
      refine Rch.go (U' := T124.setTop (mkF m 80 #[rv a1, iv p1, iv p2, iv q, iv t] [(.ref a1), (.ref a1), (.ref bpd)])) (fun _ k => XS.dup X124.here hx rfl (hb hby d55_79) rfl rfl k) ?_
      obtain ⟨T125, X125, e125, st125⟩ := getF X124 hx hZ hown (host := "") (Or.inl (wi hw 56 rfl)) Via.refl e124 f113 (g := (mkF m 80 #[rv a1, iv p1, iv p2, iv q, iv t] [(.ref a1), (.ref a1), (.ref bpd)])) rfl rfl (hb hby d55_80)
      refine Rch.go (U' := T125.setTop (mkF m 83 #[rv a1, iv p1, iv p2, iv q, iv t] [(.int pc), (.ref a1), (.ref bpd)])) st125 ?_
      refine Rch.go (U' := T125.setTop (mkF m 84 #[rv a1, iv p1, iv p2, iv q, iv t] [(.int pc), (.ref a1), (.int pc), (.ref bpd)])) (fun _ k => XS.dupX1 X125.here hx rfl (hb hby d55_83) rfl rfl rfl k) ?_
      refine Rch.go (U' := T125.setTop (mkF m 85 #[rv a1, iv p1, iv p2, iv q, iv t] [(.int (1 : Int32)), (.int pc), (.ref a1), (.int pc), (.ref bpd)])) (fun _ k => XS.iconst X125.here hx rfl (hb hby d55_84) k) ?_
      refine Rch.go (U' := T125.setTop (mkF m 86 #[rv a1, iv p1, iv p2, iv q, iv t] [(.int (pc + (1 : Int32))), (.ref a1), (.int pc), (.ref bpd)])) (fun _ k => XS.iadd X125.here hx rfl (hb hby d55_85) rfl k) ?_
      obtain ⟨T126, h126, X126, e126, W126, st126⟩ := putF X125 hx hZ hown (host := "") (Or.inl (wi hw 56 rfl)) Via.refl e125 f113 f103 (Or.inl (wi hw 57 rfl)) (wi hw 28 rfl) (ty := .int) (by decide) rfl rfl (g := (mkF m 86 #[rv a1, iv p1, iv p2, iv q, iv t] [(.int (pc + (1 : Int32))), (.ref a1), (.int pc), (.ref bpd)])) rfl rfl (hb hby d55_86)
      have F126 := f113.same W126
      have f127 := f103.wr W126
      have f128 := f104.wr W126
      have f129 := f105.other W126 (Or.inr (slot_ne (Or.inr (wi hw 35 rfl)) (Or.inl (wi hw 57 rfl)) (by decide) (t := (.object cBL)) (t' := .int) (by decide) (by decide)))
      have f130 := f106.other W126 (Or.inr (slot_ne (Or.inr (wi hw 37 rfl)) (Or.inl (wi hw 57 rfl)) (by decide) (t := (.array .int)) (t' := .int) (by decide) (by decide)))
      have f131 := f107.other W126 (Or.inr (slot_ne (Or.inr (wi hw 39 rfl)) (Or.inl (wi hw 57 rfl)) (by decide) (t := (.array .int)) (t' := .int) (by decide) (by decide)))
      have f132 := f108.other W126 (Or.inr (slot_ne (Or.inr (wi hw 41 rfl)) (Or.inl (wi hw 57 rfl)) (by decide) (t := (.array .int)) (t' := .int) (by decide) (by decide)))
      have f133 := f109.other W126 (Or.inr (slot_ne (Or.inr (wi hw 43 rfl)) (Or.inl (wi hw 57 rfl)) (by decide) (t := (.array .int)) (t' := .int) (by decide) (by decide)))
      have f134 := f110.other W126 (Or.inr (slot_ne (Or.inr (wi hw 45 rfl)) (Or.inl (wi hw 57 rfl)) (by decide) (t := (.array .int)) (t' := .int) (by decide) (by decide)))
      have f135 := f111.other W126 (Or.inr (slot_ne (Or.inr (wi hw 48 rfl)) (Or.inl (wi hw 57 rfl)) (by decide) (t := (.array .boolean)) (t' := .int) (by decide) (by decide)))
      have f136 := f112.other W126 (Or.inr (slot_ne (Or.inl (wi hw 50 rfl)) (Or.inl (wi hw 57 rfl)) (by decide) (t := .int) (t' := .int) (by decide) (by decide)))
      have f137 := f114.other W126 (Or.inl (nN (nT o1 (nT o2 o3))))
      have f138 := f115.other W126 (Or.inl (nN (nT o1 (nT o2 o3))))
      have f139 := f116.other W126 (nM o4)
      have f140 := f117.other W126 (nM (nT o4 o5))
      have f141 := f118.other W126 (nM (nT o4 (nT o5 o6)))
      have f142 := f119.other W126 (nM (nT o4 (nT o5 (nT o6 o7))))
      have f143 := f120.other W126 (nM (nT o4 (nT o5 (nT o6 (nT o7 o8)))))
      have f144 := V102.other W126 (nM (nT o4 (nT o5 (nT o6 (nT o7 (nT o8 o9))))))
      have f145 := f121.other W126 (nN (nT o2 o3))
      have f146 := f122.other W126 (nN o3)
      have N126 := Fr.snoc X126 N102 (nG o0 (nT o1 (nT o2 o3)))
      have z147 := Nat.le_trans z123 (Keep.of_wr W126).1
      refine Rch.go (U' := T126.setTop (mkF m 89 #[rv a1, iv p1, iv p2, iv q, iv t] [(.int pc), (.ref bpd)])) st126 ?_
      refine Rch.go (U' := T126.setTop (mkF m 90 #[rv a1, iv p1, iv p2, iv q, iv t] [(.int q), (.int pc), (.ref bpd)])) (fun _ k => XS.iloadN X126.here hx rfl (hb hby d55_89) rfl  k) ?_
      obtain ⟨cl148, Ar148, qk148, Sz148, Mn148, Hs148, Gf148⟩ := id f143
      have ib148 : ¬ (pc < 0 ∨ cl148.slots.size ≤ (pc).toNatClampNeg) := inb_of Sz148 i5
      obtain ⟨T148, h148, X148, e148, W148, st148⟩ := stI X126 hx hZ e126 Ar148 (j := pc) ib148 (g := (mkF m 90 #[rv a1, iv p1, iv p2, iv q, iv t] [(.int q), (.int pc), (.ref bpd)])) rfl rfl (hb hby d55_90)
      have V148 : Arv Z h148 bpd k_pd .int (4 : Int32) ((own_st pd pc q).map Value.int) (.int (0 : Int32)) := own_sx (Arv.set Ar148 qk148 Sz148 Mn148 Hs148 Gf148 rfl W148 _ rfl (own_ln i5 l_pd))
      have f149 := f127.wr W148
      have f150 := f128.wr W148
      have f151 := f129.other W148 (Or.inl (nN (nT o4 (nT o5 (nT o6 (nT o7 o8))))))
      have f152 := f130.other W148 (Or.inl (nN (nT o4 (nT o5 (nT o6 (nT o7 o8))))))
      have f153 := f131.other W148 (Or.inl (nN (nT o4 (nT o5 (nT o6 (nT o7 o8))))))
      have f154 := f132.other W148 (Or.inl (nN (nT o4 (nT o5 (nT o6 (nT o7 o8))))))
      have f155 := f133.other W148 (Or.inl (nN (nT o4 (nT o5 (nT o6 (nT o7 o8))))))
      have f156 := f134.other W148 (Or.inl (nN (nT o4 (nT o5 (nT o6 (nT o7 o8))))))
      have f157 := f135.other W148 (Or.inl (nN (nT o4 (nT o5 (nT o6 (nT o7 o8))))))
      have f158 := f136.other W148 (Or.inl (nN (nT o4 (nT o5 (nT o6 (nT o7 o8))))))
      have f159 := F126.other W148 (Or.inl (nN (nT o4 (nT o5 (nT o6 (nT o7 o8))))))
      have f160 := f137.other W148 (Or.inl (nN (nT o1 (nT o2 (nT o3 (nT o4 (nT o5 (nT o6 (nT o7 o8)))))))))
      have f161 := f138.other W148 (Or.inl (nN (nT o1 (nT o2 (nT o3 (nT o4 (nT o5 (nT o6 (nT o7 o8)))))))))
      have f162 := f139.other W148 (nN (nT o5 (nT o6 (nT o7 o8))))
      have f163 := f140.other W148 (nN (nT o6 (nT o7 o8)))
      have f164 := f141.other W148 (nN (nT o7 o8))
      have f165 := f142.other W148 (nN o8)
      have f166 := f144.other W148 (nM o9)
      have f167 := f145.other W148 (nN (nT o2 (nT o3 (nT o4 (nT o5 (nT o6 (nT o7 o8)))))))
      have f168 := f146.other W148 (nN (nT o3 (nT o4 (nT o5 (nT o6 (nT o7 o8))))))
      have N148 := Fr.snoc X148 N126 (nG o0 (nT o1 (nT o2 (nT o3 (nT o4 (nT o5 (nT o6 (nT o7 o8))))))))
      have z169 := Nat.le_trans z147 (Keep.of_wr W148).1
      refine Rch.go (U' := T148.setTop (mkF m 91 #[rv a1, iv p1, iv p2, iv q, iv t] [])) st148 ?_
      refine Rch.fin X148 hlk (v := none) (fun _ => rfl) e148 (by decide) (by decide) (fun fs hr => X148.returnOut hx hret (hb hby d55_91) hr) ?_
      have e : own_join co nx pv fb pd ip cc pc p1 p2 = ((own_st co p2 q), (own_st (own_st nx p2 t) p1 p2), (own_st pv p2 p1), fb, (own_st pd pc q), (own_st ip q (1 : Int32)), cc, (pc + (1 : Int32))) := by simp only [own_join, own_jpv, hq, ht, br74, br100, ↓reduceIte]
      refine ⟨rfl, N148, z169, ?_⟩
      rw [e]
      exact ⟨⟨f149, f151, f152, f153, f154, f155, f156, f157, f158, f159⟩, ⟨f150, f160, f161⟩, ⟨⟨_, f162, (own_ls l_co)⟩, ⟨_, f163, (own_ls (own_ls l_nx))⟩, ⟨_, f164, (own_ls l_pv)⟩, ⟨_, f165, l_fb⟩, ⟨_, V148, (own_ls l_pd)⟩, ⟨_, f166, (own_ls l_ip)⟩, ⟨_, f167, l_fi⟩, ⟨_, f168, l_en⟩⟩, o0, o1, o2, o3, o4, o5, o6, o7, o8, o9⟩
    ·
      refine Rch.go (U' := T98.setTop (mkF m 91 #[rv a1, iv p1, iv p2, iv q, iv t] [])) (fun _ k => XS.ifYes X98.here hx rfl (pc0 := 64) (pc' := 91) rfl (hb hby d55_64) rfl (XT.i0_ne_t br100) (by decide) (by decide) k) ?_
      refine Rch.fin X98 hlk (v := none) (fun _ => rfl) e98 (by decide) (by decide) (fun fs hr => X98.returnOut hx hret (hb hby d55_91) hr) ?_
      have e : own_join co nx pv fb pd ip cc pc p1 p2 = ((own_st co p2 q), (own_st (own_st nx p2 t) p1 p2), (own_st pv p2 p1), fb, pd, ip, cc, pc) := by simp only [own_join, own_jpv, hq, ht, br74, br100, ↓reduceIte]
      refine ⟨rfl, N76, z97, ?_⟩
      rw [e]
      exact ⟨⟨f77, f79, f80, f81, f82, f83, f84, f85, f86, f87⟩, ⟨f78, f88, f89⟩, ⟨⟨_, f90, (own_ls l_co)⟩, ⟨_, V76, (own_ls (own_ls l_nx))⟩, ⟨_, f91, (own_ls l_pv)⟩, ⟨_, f92, l_fb⟩, ⟨_, f93, l_pd⟩, ⟨_, f94, l_ip⟩, ⟨_, f95, l_fi⟩, ⟨_, f96, l_en⟩⟩, o0, o1, o2, o3, o4, o5, o6, o7, o8, o9⟩
  ·
    refine Rch.go (U' := T52.setTop (mkF m 43 #[rv a1, iv p1, iv p2, iv q, iv t] [])) (fun _ k => XS.icmpNo X52.here hx rfl (hb hby d55_40) rfl (XT.ii_eq_f br74) k) ?_
    refine Rch.go (U' := T52.setTop (mkF m 44 #[rv a1, iv p1, iv p2, iv q, iv t] [(.ref a1)])) (fun _ k => XS.aloadN X52.here hx rfl (hb hby d55_43) rfl rfl k) ?_
    obtain ⟨T170, X170, e170, st170⟩ := getF X52 hx hZ hown (host := "") (Or.inl (wi hw 40 rfl)) Via.refl e52 f58 (g := (mkF m 44 #[rv a1, iv p1, iv p2, iv q, iv t] [(.ref a1)])) rfl rfl (hb hby d55_44)
    refine Rch.go (U' := T170.setTop (mkF m 47 #[rv a1, iv p1, iv p2, iv q, iv t] [(.ref bpv)])) st170 ?_
    refine Rch.go (U' := T170.setTop (mkF m 49 #[rv a1, iv p1, iv p2, iv q, iv t] [(.int t), (.ref bpv)])) (fun _ k => XS.iload X170.here hx rfl (hb hby d55_47) rfl  k) ?_
    refine Rch.go (U' := T170.setTop (mkF m 50 #[rv a1, iv p1, iv p2, iv q, iv t] [(.int p2), (.int t), (.ref bpv)])) (fun _ k => XS.iloadN X170.here hx rfl (hb hby d55_49) rfl  k) ?_
    obtain ⟨cl171, Ar171, qk171, Sz171, Mn171, Hs171, Gf171⟩ := id V52
    have ib171 : ¬ (t < 0 ∨ cl171.slots.size ≤ (t).toNatClampNeg) := inb_of Sz171 ((ht ▸ i4).resolve_left br74)
    obtain ⟨T171, h171, X171, e171, W171, st171⟩ := stI X170 hx hZ e170 Ar171 (j := t) ib171 (g := (mkF m 50 #[rv a1, iv p1, iv p2, iv q, iv t] [(.int p2), (.int t), (.ref bpv)])) rfl rfl (hb hby d55_50)
    have V171 : Arv Z h171 bpv k_pv .int (4 : Int32) ((own_st (own_st pv p2 p1) t p2).map Value.int) (.int (0 : Int32)) := own_sx (Arv.set Ar171 qk171 Sz171 Mn171 Hs171 Gf171 rfl W171 _ rfl (own_ln ((ht ▸ i4).resolve_left br74) (own_ls l_pv)))
    have f172 := f53.wr W171
    have f173 := f54.wr W171
    have f174 := f55.other W171 (Or.inl (nN (nT o4 (nT o5 o6))))
    have f175 := f56.other W171 (Or.inl (nN (nT o4 (nT o5 o6))))
    have f176 := f57.other W171 (Or.inl (nN (nT o4 (nT o5 o6))))
    have f177 := f58.other W171 (Or.inl (nN (nT o4 (nT o5 o6))))
    have f178 := f59.other W171 (Or.inl (nN (nT o4 (nT o5 o6))))
    have f179 := f60.other W171 (Or.inl (nN (nT o4 (nT o5 o6))))
    have f180 := f61.other W171 (Or.inl (nN (nT o4 (nT o5 o6))))
    have f181 := f62.other W171 (Or.inl (nN (nT o4 (nT o5 o6))))
    have f182 := f63.other W171 (Or.inl (nN (nT o4 (nT o5 o6))))
    have f183 := f64.other W171 (Or.inl (nN (nT o1 (nT o2 (nT o3 (nT o4 (nT o5 o6)))))))
    have f184 := f65.other W171 (Or.inl (nN (nT o1 (nT o2 (nT o3 (nT o4 (nT o5 o6)))))))
    have f185 := f66.other W171 (nN (nT o5 o6))
    have f186 := f67.other W171 (nN o6)
    have f187 := f68.other W171 (nM o7)
    have f188 := f69.other W171 (nM (nT o7 o8))
    have f189 := f70.other W171 (nM (nT o7 (nT o8 o9)))
    have f190 := f71.other W171 (nN (nT o2 (nT o3 (nT o4 (nT o5 o6)))))
    have f191 := f72.other W171 (nN (nT o3 (nT o4 (nT o5 o6))))
    have N171 := Fr.snoc X171 N52 (nG o0 (nT o1 (nT o2 (nT o3 (nT o4 (nT o5 o6))))))
    have z192 := Nat.le_trans z73 (Keep.of_wr W171).1
    refine Rch.go (U' := T171.setTop (mkF m 51 #[rv a1, iv p1, iv p2, iv q, iv t] [])) st171 ?_
    refine Rch.go (U' := T171.setTop (mkF m 52 #[rv a1, iv p1, iv p2, iv q, iv t] [(.ref a1)])) (fun _ k => XS.aloadN X171.here hx rfl (hb hby d55_51) rfl rfl k) ?_
    obtain ⟨T193, X193, e193, st193⟩ := getF X171 hx hZ hown (host := "") (Or.inl (wi hw 38 rfl)) Via.refl e171 f176 (g := (mkF m 52 #[rv a1, iv p1, iv p2, iv q, iv t] [(.ref a1)])) rfl rfl (hb hby d55_52)
    refine Rch.go (U' := T193.setTop (mkF m 55 #[rv a1, iv p1, iv p2, iv q, iv t] [(.ref bnx)])) st193 ?_
    refine Rch.go (U' := T193.setTop (mkF m 56 #[rv a1, iv p1, iv p2, iv q, iv t] [(.int p1), (.ref bnx)])) (fun _ k => XS.iloadN X193.here hx rfl (hb hby d55_55) rfl  k) ?_
    refine Rch.go (U' := T193.setTop (mkF m 57 #[rv a1, iv p1, iv p2, iv q, iv t] [(.int p2), (.int p1), (.ref bnx)])) (fun _ k => XS.iloadN X193.here hx rfl (hb hby d55_56) rfl  k) ?_
    obtain ⟨cl194, Ar194, qk194, Sz194, Mn194, Hs194, Gf194⟩ := id f186
    have ib194 : ¬ (p1 < 0 ∨ cl194.slots.size ≤ (p1).toNatClampNeg) := inb_of Sz194 i1
    obtain ⟨T194, h194, X194, e194, W194, st194⟩ := stI X193 hx hZ e193 Ar194 (j := p1) ib194 (g := (mkF m 57 #[rv a1, iv p1, iv p2, iv q, iv t] [(.int p2), (.int p1), (.ref bnx)])) rfl rfl (hb hby d55_57)
    have V194 : Arv Z h194 bnx k_nx .int (4 : Int32) ((own_st (own_st nx p2 t) p1 p2).map Value.int) (.int (0 : Int32)) := own_sx (Arv.set Ar194 qk194 Sz194 Mn194 Hs194 Gf194 rfl W194 _ rfl (own_ln i1 (own_ls l_nx)))
    have f195 := f172.wr W194
    have f196 := f173.wr W194
    have f197 := f174.other W194 (Or.inl (nN (nT o4 o5)))
    have f198 := f175.other W194 (Or.inl (nN (nT o4 o5)))
    have f199 := f176.other W194 (Or.inl (nN (nT o4 o5)))
    have f200 := f177.other W194 (Or.inl (nN (nT o4 o5)))
    have f201 := f178.other W194 (Or.inl (nN (nT o4 o5)))
    have f202 := f179.other W194 (Or.inl (nN (nT o4 o5)))
    have f203 := f180.other W194 (Or.inl (nN (nT o4 o5)))
    have f204 := f181.other W194 (Or.inl (nN (nT o4 o5)))
    have f205 := f182.other W194 (Or.inl (nN (nT o4 o5)))
    have f206 := f183.other W194 (Or.inl (nN (nT o1 (nT o2 (nT o3 (nT o4 o5))))))
    have f207 := f184.other W194 (Or.inl (nN (nT o1 (nT o2 (nT o3 (nT o4 o5))))))
    have f208 := f185.other W194 (nN o5)
    have f209 := V171.other W194 (nM o6)
    have f210 := f187.other W194 (nM (nT o6 o7))
    have f211 := f188.other W194 (nM (nT o6 (nT o7 o8)))
    have f212 := f189.other W194 (nM (nT o6 (nT o7 (nT o8 o9))))
    have f213 := f190.other W194 (nN (nT o2 (nT o3 (nT o4 o5))))
    have f214 := f191.other W194 (nN (nT o3 (nT o4 o5)))
    have N194 := Fr.snoc X194 N171 (nG o0 (nT o1 (nT o2 (nT o3 (nT o4 o5)))))
    have z215 := Nat.le_trans z192 (Keep.of_wr W194).1
    refine Rch.go (U' := T194.setTop (mkF m 58 #[rv a1, iv p1, iv p2, iv q, iv t] [])) st194 ?_
    refine Rch.go (U' := T194.setTop (mkF m 59 #[rv a1, iv p1, iv p2, iv q, iv t] [(.ref a1)])) (fun _ k => XS.aloadN X194.here hx rfl (hb hby d55_58) rfl rfl k) ?_
    obtain ⟨T216, X216, e216, st216⟩ := getF X194 hx hZ hown (host := "") (Or.inl (wi hw 47 rfl)) Via.refl e194 f203 (g := (mkF m 59 #[rv a1, iv p1, iv p2, iv q, iv t] [(.ref a1)])) rfl rfl (hb hby d55_59)
    refine Rch.go (U' := T216.setTop (mkF m 62 #[rv a1, iv p1, iv p2, iv q, iv t] [(.ref bip)])) st216 ?_
    refine Rch.go (U' := T216.setTop (mkF m 63 #[rv a1, iv p1, iv p2, iv q, iv t] [(.int q), (.ref bip)])) (fun _ k => XS.iloadN X216.here hx rfl (hb hby d55_62) rfl  k) ?_
    obtain ⟨cl217, Ar217, qk217, Sz217, Mn217, Hs217, Gf217⟩ := id f212
    have ib217 : ¬ (q < 0 ∨ cl217.slots.size ≤ (q).toNatClampNeg) := inb_of Sz217 (hq ▸ i3)
    have ea217 : cl217.slots[(q).toNatClampNeg]? = some (.int (own_at ip q)) := Has.at Hs217 ib217 (own_gx ip q)
    refine Rch.go (U' := T216.setTop (mkF m 64 #[rv a1, iv p1, iv p2, iv q, iv t] [(.int (own_at ip q))])) (fun _ k => X216.baloadBooleans hx (j := q) (v := (.int (own_at ip q))) (by rw [e216]; exact Ar217.1) (State.isArrayOf_alike hZ.alike Ar217.2.1) Ar217.2.2 ib217 ea217 (g := (mkF m 63 #[rv a1, iv p1, iv p2, iv q, iv t] [(.int q), (.ref bip)])) rfl rfl (hb hby d55_63) _ k) ?_
    by_cases br218 : (own_at ip q) = (0 : Int32)
    ·
      refine Rch.go (U' := T216.setTop (mkF m 67 #[rv a1, iv p1, iv p2, iv q, iv t] [])) (fun _ k => XS.ifNo X216.here hx rfl (hb hby d55_64) rfl (XT.i0_ne_f br218) k) ?_
      refine Rch.go (U' := T216.setTop (mkF m 68 #[rv a1, iv p1, iv p2, iv q, iv t] [(.ref a1)])) (fun _ k => XS.aloadN X216.here hx rfl (hb hby d55_67) rfl rfl k) ?_
      obtain ⟨T219, X219, e219, st219⟩ := getF X216 hx hZ hown (host := "") (Or.inl (wi hw 47 rfl)) Via.refl e216 f203 (g := (mkF m 68 #[rv a1, iv p1, iv p2, iv q, iv t] [(.ref a1)])) rfl rfl (hb hby d55_68)
      refine Rch.go (U' := T219.setTop (mkF m 71 #[rv a1, iv p1, iv p2, iv q, iv t] [(.ref bip)])) st219 ?_
      refine Rch.go (U' := T219.setTop (mkF m 72 #[rv a1, iv p1, iv p2, iv q, iv t] [(.int q), (.ref bip)])) (fun _ k => XS.iloadN X219.here hx rfl (hb hby d55_71) rfl  k) ?_
      refine Rch.go (U' := T219.setTop (mkF m 73 #[rv a1, iv p1, iv p2, iv q, iv t] [(.int (1 : Int32)), (.int q), (.ref bip)])) (fun _ k => XS.iconst X219.here hx rfl (hb hby d55_72) k) ?_
      obtain ⟨cl220, Ar220, qk220, Sz220, Mn220, Hs220, Gf220⟩ := id f212
      have ib220 : ¬ (q < 0 ∨ cl220.slots.size ≤ (q).toNatClampNeg) := inb_of Sz220 (hq ▸ i3)
      obtain ⟨T220, h220, X220, e220, W220, st220⟩ := stZ X219 hx hZ e219 Ar220 (j := q) ib220 (g := (mkF m 73 #[rv a1, iv p1, iv p2, iv q, iv t] [(.int (1 : Int32)), (.int q), (.ref bip)])) rfl rfl (hb hby d55_73)
      have V220 : Arv Z h220 bip k_ip .boolean (4 : Int32) ((own_st ip q (1 : Int32)).map Value.int) (.int (0 : Int32)) := own_sx (Arv.set Ar220 qk220 Sz220 Mn220 Hs220 Gf220 (fits_nar_bool _) W220 _ rfl (own_ln (hq ▸ i3) l_ip))
      have f221 := f195.wr W220
      have f222 := f196.wr W220
      have f223 := f197.other W220 (Or.inl (nN (nT o4 (nT o5 (nT o6 (nT o7 (nT o8 o9)))))))
      have f224 := f198.other W220 (Or.inl (nN (nT o4 (nT o5 (nT o6 (nT o7 (nT o8 o9)))))))
      have f225 := f199.other W220 (Or.inl (nN (nT o4 (nT o5 (nT o6 (nT o7 (nT o8 o9)))))))
      have f226 := f200.other W220 (Or.inl (nN (nT o4 (nT o5 (nT o6 (nT o7 (nT o8 o9)))))))
      have f227 := f201.other W220 (Or.inl (nN (nT o4 (nT o5 (nT o6 (nT o7 (nT o8 o9)))))))
      have f228 := f202.other W220 (Or.inl (nN (nT o4 (nT o5 (nT o6 (nT o7 (nT o8 o9)))))))
      have f229 := f203.other W220 (Or.inl (nN (nT o4 (nT o5 (nT o6 (nT o7 (nT o8 o9)))))))
      have f230 := f204.other W220 (Or.inl (nN (nT o4 (nT o5 (nT o6 (nT o7 (nT o8 o9)))))))
      have f231 := f205.other W220 (Or.inl (nN (nT o4 (nT o5 (nT o6 (nT o7 (nT o8 o9)))))))
      have f232 := f206.other W220 (Or.inl (nN (nT o1 (nT o2 (nT o3 (nT o4 (nT o5 (nT o6 (nT o7 (nT o8 o9))))))))))
      have f233 := f207.other W220 (Or.inl (nN (nT o1 (nT o2 (nT o3 (nT o4 (nT o5 (nT o6 (nT o7 (nT o8 o9))))))))))
      have f234 := f208.other W220 (nN (nT o5 (nT o6 (nT o7 (nT o8 o9)))))
      have f235 := V194.other W220 (nN (nT o6 (nT o7 (nT o8 o9))))
      have f236 := f209.other W220 (nN (nT o7 (nT o8 o9)))
      have f237 := f210.other W220 (nN (nT o8 o9))
      have f238 := f211.other W220 (nN o9)
      have f239 := f213.other W220 (nN (nT o2 (nT o3 (nT o4 (nT o5 (nT o6 (nT o7 (nT o8 o9))))))))
      have f240 := f214.other W220 (nN (nT o3 (nT o4 (nT o5 (nT o6 (nT o7 (nT o8 o9)))))))
      have N220 := Fr.snoc X220 N194 (nG o0 (nT o1 (nT o2 (nT o3 (nT o4 (nT o5 (nT o6 (nT o7 (nT o8 o9)))))))))
      have z241 := Nat.le_trans z215 (Keep.of_wr W220).1
      refine Rch.go (U' := T220.setTop (mkF m 74 #[rv a1, iv p1, iv p2, iv q, iv t] [])) st220 ?_
      refine Rch.go (U' := T220.setTop (mkF m 75 #[rv a1, iv p1, iv p2, iv q, iv t] [(.ref a1)])) (fun _ k => XS.aloadN X220.here hx rfl (hb hby d55_74) rfl rfl k) ?_
      obtain ⟨T242, X242, e242, st242⟩ := getF X220 hx hZ hown (host := "") (Or.inl (wi hw 44 rfl)) Via.refl e220 f228 (g := (mkF m 75 #[rv a1, iv p1, iv p2, iv q, iv t] [(.ref a1)])) rfl rfl (hb hby d55_75)
      refine Rch.go (U' := T242.setTop (mkF m 78 #[rv a1, iv p1, iv p2, iv q, iv t] [(.ref bpd)])) st242 ?_
      refine Rch.go (U' := T242.setTop (mkF m 79 #[rv a1, iv p1, iv p2, iv q, iv t] [(.ref a1), (.ref bpd)])) (fun _ k => XS.aloadN X242.here hx rfl (hb hby d55_78) rfl rfl k) ?_
      refine Rch.go (U' := T242.setTop (mkF m 80 #[rv a1, iv p1, iv p2, iv q, iv t] [(.ref a1), (.ref a1), (.ref bpd)])) (fun _ k => XS.dup X242.here hx rfl (hb hby d55_79) rfl rfl k) ?_
      obtain ⟨T243, X243, e243, st243⟩ := getF X242 hx hZ hown (host := "") (Or.inl (wi hw 56 rfl)) Via.refl e242 f231 (g := (mkF m 80 #[rv a1, iv p1, iv p2, iv q, iv t] [(.ref a1), (.ref a1), (.ref bpd)])) rfl rfl (hb hby d55_80)
      refine Rch.go (U' := T243.setTop (mkF m 83 #[rv a1, iv p1, iv p2, iv q, iv t] [(.int pc), (.ref a1), (.ref bpd)])) st243 ?_
      refine Rch.go (U' := T243.setTop (mkF m 84 #[rv a1, iv p1, iv p2, iv q, iv t] [(.int pc), (.ref a1), (.int pc), (.ref bpd)])) (fun _ k => XS.dupX1 X243.here hx rfl (hb hby d55_83) rfl rfl rfl k) ?_
      refine Rch.go (U' := T243.setTop (mkF m 85 #[rv a1, iv p1, iv p2, iv q, iv t] [(.int (1 : Int32)), (.int pc), (.ref a1), (.int pc), (.ref bpd)])) (fun _ k => XS.iconst X243.here hx rfl (hb hby d55_84) k) ?_
      refine Rch.go (U' := T243.setTop (mkF m 86 #[rv a1, iv p1, iv p2, iv q, iv t] [(.int (pc + (1 : Int32))), (.ref a1), (.int pc), (.ref bpd)])) (fun _ k => XS.iadd X243.here hx rfl (hb hby d55_85) rfl k) ?_
      obtain ⟨T244, h244, X244, e244, W244, st244⟩ := putF X243 hx hZ hown (host := "") (Or.inl (wi hw 56 rfl)) Via.refl e243 f231 f221 (Or.inl (wi hw 57 rfl)) (wi hw 28 rfl) (ty := .int) (by decide) rfl rfl (g := (mkF m 86 #[rv a1, iv p1, iv p2, iv q, iv t] [(.int (pc + (1 : Int32))), (.ref a1), (.int pc), (.ref bpd)])) rfl rfl (hb hby d55_86)
      have F244 := f231.same W244
      have f245 := f221.wr W244
      have f246 := f222.wr W244
      have f247 := f223.other W244 (Or.inr (slot_ne (Or.inr (wi hw 35 rfl)) (Or.inl (wi hw 57 rfl)) (by decide) (t := (.object cBL)) (t' := .int) (by decide) (by decide)))
      have f248 := f224.other W244 (Or.inr (slot_ne (Or.inr (wi hw 37 rfl)) (Or.inl (wi hw 57 rfl)) (by decide) (t := (.array .int)) (t' := .int) (by decide) (by decide)))
      have f249 := f225.other W244 (Or.inr (slot_ne (Or.inr (wi hw 39 rfl)) (Or.inl (wi hw 57 rfl)) (by decide) (t := (.array .int)) (t' := .int) (by decide) (by decide)))
      have f250 := f226.other W244 (Or.inr (slot_ne (Or.inr (wi hw 41 rfl)) (Or.inl (wi hw 57 rfl)) (by decide) (t := (.array .int)) (t' := .int) (by decide) (by decide)))
      have f251 := f227.other W244 (Or.inr (slot_ne (Or.inr (wi hw 43 rfl)) (Or.inl (wi hw 57 rfl)) (by decide) (t := (.array .int)) (t' := .int) (by decide) (by decide)))
      have f252 := f228.other W244 (Or.inr (slot_ne (Or.inr (wi hw 45 rfl)) (Or.inl (wi hw 57 rfl)) (by decide) (t := (.array .int)) (t' := .int) (by decide) (by decide)))
      have f253 := f229.other W244 (Or.inr (slot_ne (Or.inr (wi hw 48 rfl)) (Or.inl (wi hw 57 rfl)) (by decide) (t := (.array .boolean)) (t' := .int) (by decide) (by decide)))
      have f254 := f230.other W244 (Or.inr (slot_ne (Or.inl (wi hw 50 rfl)) (Or.inl (wi hw 57 rfl)) (by decide) (t := .int) (t' := .int) (by decide) (by decide)))
      have f255 := f232.other W244 (Or.inl (nN (nT o1 (nT o2 o3))))
      have f256 := f233.other W244 (Or.inl (nN (nT o1 (nT o2 o3))))
      have f257 := f234.other W244 (nM o4)
      have f258 := f235.other W244 (nM (nT o4 o5))
      have f259 := f236.other W244 (nM (nT o4 (nT o5 o6)))
      have f260 := f237.other W244 (nM (nT o4 (nT o5 (nT o6 o7))))
      have f261 := f238.other W244 (nM (nT o4 (nT o5 (nT o6 (nT o7 o8)))))
      have f262 := V220.other W244 (nM (nT o4 (nT o5 (nT o6 (nT o7 (nT o8 o9))))))
      have f263 := f239.other W244 (nN (nT o2 o3))
      have f264 := f240.other W244 (nN o3)
      have N244 := Fr.snoc X244 N220 (nG o0 (nT o1 (nT o2 o3)))
      have z265 := Nat.le_trans z241 (Keep.of_wr W244).1
      refine Rch.go (U' := T244.setTop (mkF m 89 #[rv a1, iv p1, iv p2, iv q, iv t] [(.int pc), (.ref bpd)])) st244 ?_
      refine Rch.go (U' := T244.setTop (mkF m 90 #[rv a1, iv p1, iv p2, iv q, iv t] [(.int q), (.int pc), (.ref bpd)])) (fun _ k => XS.iloadN X244.here hx rfl (hb hby d55_89) rfl  k) ?_
      obtain ⟨cl266, Ar266, qk266, Sz266, Mn266, Hs266, Gf266⟩ := id f261
      have ib266 : ¬ (pc < 0 ∨ cl266.slots.size ≤ (pc).toNatClampNeg) := inb_of Sz266 i5
      obtain ⟨T266, h266, X266, e266, W266, st266⟩ := stI X244 hx hZ e244 Ar266 (j := pc) ib266 (g := (mkF m 90 #[rv a1, iv p1, iv p2, iv q, iv t] [(.int q), (.int pc), (.ref bpd)])) rfl rfl (hb hby d55_90)
      have V266 : Arv Z h266 bpd k_pd .int (4 : Int32) ((own_st pd pc q).map Value.int) (.int (0 : Int32)) := own_sx (Arv.set Ar266 qk266 Sz266 Mn266 Hs266 Gf266 rfl W266 _ rfl (own_ln i5 l_pd))
      have f267 := f245.wr W266
      have f268 := f246.wr W266
      have f269 := f247.other W266 (Or.inl (nN (nT o4 (nT o5 (nT o6 (nT o7 o8))))))
      have f270 := f248.other W266 (Or.inl (nN (nT o4 (nT o5 (nT o6 (nT o7 o8))))))
      have f271 := f249.other W266 (Or.inl (nN (nT o4 (nT o5 (nT o6 (nT o7 o8))))))
      have f272 := f250.other W266 (Or.inl (nN (nT o4 (nT o5 (nT o6 (nT o7 o8))))))
      have f273 := f251.other W266 (Or.inl (nN (nT o4 (nT o5 (nT o6 (nT o7 o8))))))
      have f274 := f252.other W266 (Or.inl (nN (nT o4 (nT o5 (nT o6 (nT o7 o8))))))
      have f275 := f253.other W266 (Or.inl (nN (nT o4 (nT o5 (nT o6 (nT o7 o8))))))
      have f276 := f254.other W266 (Or.inl (nN (nT o4 (nT o5 (nT o6 (nT o7 o8))))))
      have f277 := F244.other W266 (Or.inl (nN (nT o4 (nT o5 (nT o6 (nT o7 o8))))))
      have f278 := f255.other W266 (Or.inl (nN (nT o1 (nT o2 (nT o3 (nT o4 (nT o5 (nT o6 (nT o7 o8)))))))))
      have f279 := f256.other W266 (Or.inl (nN (nT o1 (nT o2 (nT o3 (nT o4 (nT o5 (nT o6 (nT o7 o8)))))))))
      have f280 := f257.other W266 (nN (nT o5 (nT o6 (nT o7 o8))))
      have f281 := f258.other W266 (nN (nT o6 (nT o7 o8)))
      have f282 := f259.other W266 (nN (nT o7 o8))
      have f283 := f260.other W266 (nN o8)
      have f284 := f262.other W266 (nM o9)
      have f285 := f263.other W266 (nN (nT o2 (nT o3 (nT o4 (nT o5 (nT o6 (nT o7 o8)))))))
      have f286 := f264.other W266 (nN (nT o3 (nT o4 (nT o5 (nT o6 (nT o7 o8))))))
      have N266 := Fr.snoc X266 N244 (nG o0 (nT o1 (nT o2 (nT o3 (nT o4 (nT o5 (nT o6 (nT o7 o8))))))))
      have z287 := Nat.le_trans z265 (Keep.of_wr W266).1
      refine Rch.go (U' := T266.setTop (mkF m 91 #[rv a1, iv p1, iv p2, iv q, iv t] [])) st266 ?_
      refine Rch.fin X266 hlk (v := none) (fun _ => rfl) e266 (by decide) (by decide) (fun fs hr => X266.returnOut hx hret (hb hby d55_91) hr) ?_
      have e : own_join co nx pv fb pd ip cc pc p1 p2 = ((own_st co p2 q), (own_st (own_st nx p2 t) p1 p2), (own_st (own_st pv p2 p1) t p2), fb, (own_st pd pc q), (own_st ip q (1 : Int32)), cc, (pc + (1 : Int32))) := by simp only [own_join, own_jpv, hq, ht, br74, br218, ↓reduceIte]
      refine ⟨rfl, N266, z287, ?_⟩
      rw [e]
      exact ⟨⟨f267, f269, f270, f271, f272, f273, f274, f275, f276, f277⟩, ⟨f268, f278, f279⟩, ⟨⟨_, f280, (own_ls l_co)⟩, ⟨_, f281, (own_ls (own_ls l_nx))⟩, ⟨_, f282, (own_ls (own_ls l_pv))⟩, ⟨_, f283, l_fb⟩, ⟨_, V266, (own_ls l_pd)⟩, ⟨_, f284, (own_ls l_ip)⟩, ⟨_, f285, l_fi⟩, ⟨_, f286, l_en⟩⟩, o0, o1, o2, o3, o4, o5, o6, o7, o8, o9⟩
    ·
      refine Rch.go (U' := T216.setTop (mkF m 91 #[rv a1, iv p1, iv p2, iv q, iv t] [])) (fun _ k => XS.ifYes X216.here hx rfl (pc0 := 64) (pc' := 91) rfl (hb hby d55_64) rfl (XT.i0_ne_t br218) (by decide) (by decide) k) ?_
      refine Rch.fin X216 hlk (v := none) (fun _ => rfl) e216 (by decide) (by decide) (fun fs hr => X216.returnOut hx hret (hb hby d55_91) hr) ?_
      have e : own_join co nx pv fb pd ip cc pc p1 p2 = ((own_st co p2 q), (own_st (own_st nx p2 t) p1 p2), (own_st (own_st pv p2 p1) t p2), fb, pd, ip, cc, pc) := by simp only [own_join, own_jpv, hq, ht, br74, br218, ↓reduceIte]
      refine ⟨rfl, N194, z215, ?_⟩
      rw [e]
      exact ⟨⟨f195, f197, f198, f199, f200, f201, f202, f203, f204, f205⟩, ⟨f196, f206, f207⟩, ⟨⟨_, f208, (own_ls l_co)⟩, ⟨_, V194, (own_ls (own_ls l_nx))⟩, ⟨_, f209, (own_ls (own_ls l_pv))⟩, ⟨_, f210, l_fb⟩, ⟨_, f211, l_pd⟩, ⟨_, f212, l_ip⟩, ⟨_, f213, l_fi⟩, ⟨_, f214, l_en⟩⟩, o0, o1, o2, o3, o4, o5, o6, o7, o8, o9⟩
theorem d86_0 : decode prog_18_method_6_code 0 = .ok (.aload_n 0, 1) := by decide +kernel
theorem d86_1 : decode prog_18_method_6_code 1 = .ok (.getfield 20, 3) := by decide +kernel
theorem d86_4 : decode prog_18_method_6_code 4 = .ok (.iload_n 1, 1) := by decide +kernel
theorem d86_5 : decode prog_18_method_6_code 5 = .ok (.iaload, 1) := by decide +kernel
theorem d86_6 : decode prog_18_method_6_code 6 = .ok (.istore_n 3, 1) := by decide +kernel
theorem d86_7 : decode prog_18_method_6_code 7 = .ok (.aload_n 0, 1) := by decide +kernel
theorem d86_8 : decode prog_18_method_6_code 8 = .ok (.getfield 17, 3) := by decide +kernel
theorem d86_11 : decode prog_18_method_6_code 11 = .ok (.iload_n 1, 1) := by decide +kernel
theorem d86_12 : decode prog_18_method_6_code 12 = .ok (.iaload, 1) := by decide +kernel
theorem d86_13 : decode prog_18_method_6_code 13 = .ok (.istore 4, 2) := by decide +kernel
theorem d86_15 : decode prog_18_method_6_code 15 = .ok (.iload_n 3, 1) := by decide +kernel
theorem d86_16 : decode prog_18_method_6_code 16 = .ok (.iconst (-1), 1) := by decide +kernel
theorem d86_17 : decode prog_18_method_6_code 17 = .ok (.if_icmp .ne 14, 3) := by decide +kernel
theorem d86_20 : decode prog_18_method_6_code 20 = .ok (.aload_n 0, 1) := by decide +kernel
theorem d86_21 : decode prog_18_method_6_code 21 = .ok (.getfield 23, 3) := by decide +kernel
theorem d86_24 : decode prog_18_method_6_code 24 = .ok (.iload_n 2, 1) := by decide +kernel
theorem d86_25 : decode prog_18_method_6_code 25 = .ok (.iload 4, 2) := by decide +kernel
theorem d86_27 : decode prog_18_method_6_code 27 = .ok (.iastore, 1) := by decide +kernel
theorem d86_28 : decode prog_18_method_6_code 28 = .ok (.goto 11, 3) := by decide +kernel
theorem d86_31 : decode prog_18_method_6_code 31 = .ok (.aload_n 0, 1) := by decide +kernel
theorem d86_32 : decode prog_18_method_6_code 32 = .ok (.getfield 17, 3) := by decide +kernel
theorem d86_35 : decode prog_18_method_6_code 35 = .ok (.iload_n 3, 1) := by decide +kernel
theorem d86_36 : decode prog_18_method_6_code 36 = .ok (.iload 4, 2) := by decide +kernel
theorem d86_38 : decode prog_18_method_6_code 38 = .ok (.iastore, 1) := by decide +kernel
theorem d86_39 : decode prog_18_method_6_code 39 = .ok (.iload 4, 2) := by decide +kernel
theorem d86_41 : decode prog_18_method_6_code 41 = .ok (.iconst (-1), 1) := by decide +kernel
theorem d86_42 : decode prog_18_method_6_code 42 = .ok (.if_icmp .eq 11, 3) := by decide +kernel
theorem d86_45 : decode prog_18_method_6_code 45 = .ok (.aload_n 0, 1) := by decide +kernel
theorem d86_46 : decode prog_18_method_6_code 46 = .ok (.getfield 20, 3) := by decide +kernel
theorem d86_49 : decode prog_18_method_6_code 49 = .ok (.iload 4, 2) := by decide +kernel
theorem d86_51 : decode prog_18_method_6_code 51 = .ok (.iload_n 3, 1) := by decide +kernel
theorem d86_52 : decode prog_18_method_6_code 52 = .ok (.iastore, 1) := by decide +kernel
theorem d86_53 : decode prog_18_method_6_code 53 = .ok (.return_, 1) := by decide +kernel
theorem ef_rmL (m : MethodId) (a1 : Addr) (p1 : Int32) (p2 : Int32) : entryFrame m #[(.ref a1), (.int p1), (.int p2)] 5 = mkF m 0 #[rv a1, iv p1, iv p2, uv, uv] [] := by first | (simp [entryFrame, mkF, argsToLocals, Value.category]; done) | rfl
def Q_rmL (Z : State) (a1 : Addr) (a2 : Addr) (bco : Addr) (bnx : Addr) (bpv : Addr) (bfb : Addr) (bpd : Addr) (bip : Addr) (bfi : Addr) (ben : Addr) (co : List Int32) (nx : List Int32) (pv : List Int32) (fb : List Int32) (pd : List Int32) (ip : List Int32) (cc : Int32) (pc : Int32) (p1 : Int32) (p2 : Int32) (h0 : Heap) (n0 : Nat) (v : Option Value) (h : Heap) (L : List Loc) : Prop := v = none ∧ Fr n0 L ∧ Keep h0 h [bnx, bpv, bfb] ∧ ∃ nx1 pv1 fb1 : List Int32, own_lv nx pv fb p1 p2 = (nx1, pv1, fb1) ∧ Ar4 Z h bnx .int nx1 ∧ Ar4 Z h bpv .int pv1 ∧ Ar4 Z h bfb .int fb1
set_option maxRecDepth 65536 in
set_option maxHeartbeats 40000000 in
theorem rmL (l : Launch) (Z : State) (a0 : Array Value) (hw : ∀ d ∈ tables_1, d.before a0 Z = true) (ws : List Jvm.Cond) (a1 : Addr) (a2 : Addr) (bco : Addr) (bnx : Addr) (bpv : Addr) (bfb : Addr) (bpd : Addr) (bip : Addr) (bfi : Addr) (ben : Addr) (co : List Int32) (nx : List Int32) (pv : List Int32) (fb : List Int32) (pd : List Int32) (ip : List Int32) (cc : Int32) (pc : Int32) (p1 : Int32) (p2 : Int32) (h0 : Heap) (n0 : Nat) (Z0 : n0 ≤ h0.size) (B : Cb Z h0 n0 a1 a2 bco bnx bpv bfb bpd bip bfi ben co nx pv fb pd ip cc pc) (hok : own_lok nx pv p1 p2 = true) :
    MetFree l yl (head1 (Jvm.Cond.code yl prog_18_method_6_code 5 none :: ws) ({ frames := 0, cells := 0, slots := 0, locals := 0 } : Room)) (fun a_ U => a_ = #[(.ref a1), (.int p1), (.int p2)] ∧ Z.Warmed39 U.vm ∧ U.heap = h0) (fun _ _ _ _ _ => True) (fun _ U o U' => ∃ v L, o = .returned v ∧ Q_rmL Z a1 a2 bco bnx bpv bfb bpd bip bfi ben co nx pv fb pd ip cc pc p1 p2 h0 n0 v U'.heap L ∧ FrameEnd U o U' L ({ frames := 0, cells := 0, slots := 0, locals := 0 } : Room).cells ({ frames := 0, cells := 0, slots := 0, locals := 0 } : Room).slots) := by
  refine MetFree.of_bodySF (plainFor_of_name pn_com_example_fixpoints_of_behaviour_fixpointsofbehaviour_bisimulation_CompoundBlocks) hisR ?_
  intro p e s m args below meth c s₁ Bd hml0 hP hK
  obtain ⟨rfl, hZ, hh⟩ := hP
  have hx := Bd.exec
  have hby := Bd.bytes
  have hml : c.maxLocals = 5 := hml0
  have hown : s.vm.findClass cCB = some m.cls := findClass_of_methodNamed Bd.named
  have hnm := (name_of_methodNamed Bd.named Bd.method).1
  have hret := Bd.returns
  have hlk : meth.locks = false := BodyLoose.notSynchronized Bd
  have X0 : Stand p l e ({ frames := 0, cells := 0, slots := 0, locals := 0 } : Room) s m #[(.ref a1), (.int p1), (.int p2)] below meth c s₁ [] 0 0 := Stand.of_body Bd
  have e0 : s₁.heap = h0 := by rw [← hh, Bd.state]; rfl
  have N0 := Fr.nil n0
  have K0 := Keep.refl h0 [bnx, bpv, bfb]
  obtain ⟨⟨E_a1, FC_blocks, FC_compoundOf, FC_nextInCompound, FC_previousInCompound, FC_firstBlock, FC_pending, FC_isPending, FC_compoundCount, FC_pendingCount⟩, ⟨E_a2, FB_first, FB_end⟩, ⟨⟨k_co, V_co, l_co⟩, ⟨k_nx, V_nx, l_nx⟩, ⟨k_pv, V_pv, l_pv⟩, ⟨k_fb, V_fb, l_fb⟩, ⟨k_pd, V_pd, l_pd⟩, ⟨k_ip, V_ip, l_ip⟩, ⟨k_fi, V_fi, l_fi⟩, ⟨k_en, V_en, l_en⟩⟩, o0, o1, o2, o3, o4, o5, o6, o7, o8, o9⟩ := B
  obtain ⟨i1, i2, i3, i4⟩ := own_lok_e hok
  refine Rch.body (Q := Q_rmL Z a1 a2 bco bnx bpv bfb bpd bip bfi ben co nx pv fb pd ip cc pc p1 p2 h0 n0) (U' := s₁.setTop (mkF m 0 #[rv a1, iv p1, iv p2, uv, uv] [])) (fun _ k => castTop (ef_rmL m a1 p1 p2) k) ?_
  refine Rch.go (U' := s₁.setTop (mkF m 1 #[rv a1, iv p1, iv p2, uv, uv] [(.ref a1)])) (fun _ k => XS.aloadN X0.here hx rfl (hb hby d86_0) rfl rfl k) ?_
  obtain ⟨T288, X288, e288, st288⟩ := getF X0 hx hZ hown (host := "") (Or.inl (wi hw 40 rfl)) Via.refl e0 FC_previousInCompound (g := (mkF m 1 #[rv a1, iv p1, iv p2, uv, uv] [(.ref a1)])) rfl rfl (hb hby d86_1)
  refine Rch.go (U' := T288.setTop (mkF m 4 #[rv a1, iv p1, iv p2, uv, uv] [(.ref bpv)])) st288 ?_
  refine Rch.go (U' := T288.setTop (mkF m 5 #[rv a1, iv p1, iv p2, uv, uv] [(.int p1), (.ref bpv)])) (fun _ k => XS.iloadN X288.here hx rfl (hb hby d86_4) rfl  k) ?_
  obtain ⟨cl289, Ar289, qk289, Sz289, Mn289, Hs289, Gf289⟩ := id V_pv
  have ib289 : ¬ (p1 < 0 ∨ cl289.slots.size ≤ (p1).toNatClampNeg) := inb_of Sz289 i1
  have ea289 : cl289.slots[(p1).toNatClampNeg]? = some (.int (own_at pv p1)) := Has.at Hs289 ib289 (own_gx pv p1)
  refine Rch.go (U' := T288.setTop (mkF m 6 #[rv a1, iv p1, iv p2, uv, uv] [(.int (own_at pv p1))])) (fun _ k => X288.iaload hx (j := p1) (v := (.int (own_at pv p1))) (by rw [e288]; exact Ar289.1) (State.isArrayOf_alike hZ.alike Ar289.2.1) Ar289.2.2 ib289 ea289 (g := (mkF m 5 #[rv a1, iv p1, iv p2, uv, uv] [(.int p1), (.ref bpv)])) rfl rfl (hb hby d86_5) _ k) ?_
  generalize hu : (own_at pv p1) = u
  refine Rch.go (U' := T288.setTop (mkF m 7 #[rv a1, iv p1, iv p2, iv u, uv] [])) (fun _ k => XS.istoreN X288.here hx rfl (hb hby d86_6) rfl (l' := #[rv a1, iv p1, iv p2, iv u, uv]) rfl k) ?_
  refine Rch.go (U' := T288.setTop (mkF m 8 #[rv a1, iv p1, iv p2, iv u, uv] [(.ref a1)])) (fun _ k => XS.aloadN X288.here hx rfl (hb hby d86_7) rfl rfl k) ?_
  obtain ⟨T290, X290, e290, st290⟩ := getF X288 hx hZ hown (host := "") (Or.inl (wi hw 38 rfl)) Via.refl e288 FC_nextInCompound (g := (mkF m 8 #[rv a1, iv p1, iv p2, iv u, uv] [(.ref a1)])) rfl rfl (hb hby d86_8)
  refine Rch.go (U' := T290.setTop (mkF m 11 #[rv a1, iv p1, iv p2, iv u, uv] [(.ref bnx)])) st290 ?_
  refine Rch.go (U' := T290.setTop (mkF m 12 #[rv a1, iv p1, iv p2, iv u, uv] [(.int p1), (.ref bnx)])) (fun _ k => XS.iloadN X290.here hx rfl (hb hby d86_11) rfl  k) ?_
  obtain ⟨cl291, Ar291, qk291, Sz291, Mn291, Hs291, Gf291⟩ := id V_nx
  have ib291 : ¬ (p1 < 0 ∨ cl291.slots.size ≤ (p1).toNatClampNeg) := inb_of Sz291 i1
  have ea291 : cl291.slots[(p1).toNatClampNeg]? = some (.int (own_at nx p1)) := Has.at Hs291 ib291 (own_gx nx p1)
  refine Rch.go (U' := T290.setTop (mkF m 13 #[rv a1, iv p1, iv p2, iv u, uv] [(.int (own_at nx p1))])) (fun _ k => X290.iaload hx (j := p1) (v := (.int (own_at nx p1))) (by rw [e290]; exact Ar291.1) (State.isArrayOf_alike hZ.alike Ar291.2.1) Ar291.2.2 ib291 ea291 (g := (mkF m 12 #[rv a1, iv p1, iv p2, iv u, uv] [(.int p1), (.ref bnx)])) rfl rfl (hb hby d86_12) _ k) ?_
  generalize ht : (own_at nx p1) = t
  refine Rch.go (U' := T290.setTop (mkF m 15 #[rv a1, iv p1, iv p2, iv u, iv t] [])) (fun _ k => XS.istore X290.here hx rfl (hb hby d86_13) rfl (l' := #[rv a1, iv p1, iv p2, iv u, iv t]) rfl k) ?_
  refine Rch.go (U' := T290.setTop (mkF m 16 #[rv a1, iv p1, iv p2, iv u, iv t] [(.int u)])) (fun _ k => XS.iloadN X290.here hx rfl (hb hby d86_15) rfl  k) ?_
  refine Rch.go (U' := T290.setTop (mkF m 17 #[rv a1, iv p1, iv p2, iv u, iv t] [(.int (-1 : Int32)), (.int u)])) (fun _ k => XS.iconst X290.here hx rfl (hb hby d86_16) k) ?_
  by_cases br292 : u = (-1 : Int32)
  ·
    refine Rch.go (U' := T290.setTop (mkF m 20 #[rv a1, iv p1, iv p2, iv u, iv t] [])) (fun _ k => XS.icmpNo X290.here hx rfl (hb hby d86_17) rfl (XT.ii_ne_f br292) k) ?_
    refine Rch.go (U' := T290.setTop (mkF m 21 #[rv a1, iv p1, iv p2, iv u, iv t] [(.ref a1)])) (fun _ k => XS.aloadN X290.here hx rfl (hb hby d86_20) rfl rfl k) ?_
    obtain ⟨T293, X293, e293, st293⟩ := getF X290 hx hZ hown (host := "") (Or.inl (wi hw 42 rfl)) Via.refl e290 FC_firstBlock (g := (mkF m 21 #[rv a1, iv p1, iv p2, iv u, iv t] [(.ref a1)])) rfl rfl (hb hby d86_21)
    refine Rch.go (U' := T293.setTop (mkF m 24 #[rv a1, iv p1, iv p2, iv u, iv t] [(.ref bfb)])) st293 ?_
    refine Rch.go (U' := T293.setTop (mkF m 25 #[rv a1, iv p1, iv p2, iv u, iv t] [(.int p2), (.ref bfb)])) (fun _ k => XS.iloadN X293.here hx rfl (hb hby d86_24) rfl  k) ?_
    refine Rch.go (U' := T293.setTop (mkF m 27 #[rv a1, iv p1, iv p2, iv u, iv t] [(.int t), (.int p2), (.ref bfb)])) (fun _ k => XS.iload X293.here hx rfl (hb hby d86_25) rfl  k) ?_
    obtain ⟨cl294, Ar294, qk294, Sz294, Mn294, Hs294, Gf294⟩ := id V_fb
    have ib294 : ¬ (p2 < 0 ∨ cl294.slots.size ≤ (p2).toNatClampNeg) := inb_of Sz294 i2
    obtain ⟨T294, h294, X294, e294, W294, st294⟩ := stI X293 hx hZ e293 Ar294 (j := p2) ib294 (g := (mkF m 27 #[rv a1, iv p1, iv p2, iv u, iv t] [(.int t), (.int p2), (.ref bfb)])) rfl rfl (hb hby d86_27)
    have V294 : Arv Z h294 bfb k_fb .int (4 : Int32) ((own_st fb p2 t).map Value.int) (.int (0 : Int32)) := own_sx (Arv.set Ar294 qk294 Sz294 Mn294 Hs294 Gf294 rfl W294 _ rfl (own_ln i2 l_fb))
    have f295 := E_a1.wr W294
    have f296 := E_a2.wr W294
    have f297 := FC_blocks.other W294 (Or.inl (nN (nT o4 (nT o5 (nT o6 o7)))))
    have f298 := FC_compoundOf.other W294 (Or.inl (nN (nT o4 (nT o5 (nT o6 o7)))))
    have f299 := FC_nextInCompound.other W294 (Or.inl (nN (nT o4 (nT o5 (nT o6 o7)))))
    have f300 := FC_previousInCompound.other W294 (Or.inl (nN (nT o4 (nT o5 (nT o6 o7)))))
    have f301 := FC_firstBlock.other W294 (Or.inl (nN (nT o4 (nT o5 (nT o6 o7)))))
    have f302 := FC_pending.other W294 (Or.inl (nN (nT o4 (nT o5 (nT o6 o7)))))
    have f303 := FC_isPending.other W294 (Or.inl (nN (nT o4 (nT o5 (nT o6 o7)))))
    have f304 := FC_compoundCount.other W294 (Or.inl (nN (nT o4 (nT o5 (nT o6 o7)))))
    have f305 := FC_pendingCount.other W294 (Or.inl (nN (nT o4 (nT o5 (nT o6 o7)))))
    have f306 := FB_first.other W294 (Or.inl (nN (nT o1 (nT o2 (nT o3 (nT o4 (nT o5 (nT o6 o7))))))))
    have f307 := FB_end.other W294 (Or.inl (nN (nT o1 (nT o2 (nT o3 (nT o4 (nT o5 (nT o6 o7))))))))
    have f308 := V_co.other W294 (nN (nT o5 (nT o6 o7)))
    have f309 := V_nx.other W294 (nN (nT o6 o7))
    have f310 := V_pv.other W294 (nN o7)
    have f311 := V_pd.other W294 (nM o8)
    have f312 := V_ip.other W294 (nM (nT o8 o9))
    have f313 := V_fi.other W294 (nN (nT o2 (nT o3 (nT o4 (nT o5 (nT o6 o7))))))
    have f314 := V_en.other W294 (nN (nT o3 (nT o4 (nT o5 (nT o6 o7)))))
    have N294 := Fr.snoc X294 N0 (nG o0 (nT o1 (nT o2 (nT o3 (nT o4 (nT o5 (nT o6 o7)))))))
    have z315 := Nat.le_trans Z0 (Keep.of_wr W294).1
    have K316 := K0.wr W294 (Or.inl (List.mem_of_getElem? (i := 2) rfl))
    refine Rch.go (U' := T294.setTop (mkF m 28 #[rv a1, iv p1, iv p2, iv u, iv t] [])) st294 ?_
    refine Rch.go (U' := T294.setTop (mkF m 39 #[rv a1, iv p1, iv p2, iv u, iv t] [])) (fun _ k => XS.goto X294.here hx rfl (pc0 := 28) (pc' := 39) rfl (hb hby d86_28) (by decide) (by decide) k) ?_
    refine Rch.go (U' := T294.setTop (mkF m 41 #[rv a1, iv p1, iv p2, iv u, iv t] [(.int t)])) (fun _ k => XS.iload X294.here hx rfl (hb hby d86_39) rfl  k) ?_
    refine Rch.go (U' := T294.setTop (mkF m 42 #[rv a1, iv p1, iv p2, iv u, iv t] [(.int (-1 : Int32)), (.int t)])) (fun _ k => XS.iconst X294.here hx rfl (hb hby d86_41) k) ?_
    by_cases br317 : t = (-1 : Int32)
    ·
      refine Rch.go (U' := T294.setTop (mkF m 53 #[rv a1, iv p1, iv p2, iv u, iv t] [])) (fun _ k => XS.icmpYes X294.here hx rfl (pc0 := 42) (pc' := 53) rfl (hb hby d86_42) rfl (XT.ii_eq_t br317) (by decide) (by decide) k) ?_
      refine Rch.fin X294 hlk (v := none) (fun _ => rfl) e294 (by decide) (by decide) (fun fs hr => X294.returnOut hx hret (hb hby d86_53) hr) ?_
      have e : own_lv nx pv fb p1 p2 = (nx, pv, (own_st fb p2 t)) := by simp only [own_lv, own_lpv, hu, ht, br292, br317, ↓reduceIte]
      exact ⟨rfl, N294, K316, _, _, _, e, ⟨_, f309, l_nx⟩, ⟨_, f310, l_pv⟩, ⟨_, V294, (own_ls l_fb)⟩⟩
    ·
      refine Rch.go (U' := T294.setTop (mkF m 45 #[rv a1, iv p1, iv p2, iv u, iv t] [])) (fun _ k => XS.icmpNo X294.here hx rfl (hb hby d86_42) rfl (XT.ii_eq_f br317) k) ?_
      refine Rch.go (U' := T294.setTop (mkF m 46 #[rv a1, iv p1, iv p2, iv u, iv t] [(.ref a1)])) (fun _ k => XS.aloadN X294.here hx rfl (hb hby d86_45) rfl rfl k) ?_
      obtain ⟨T318, X318, e318, st318⟩ := getF X294 hx hZ hown (host := "") (Or.inl (wi hw 40 rfl)) Via.refl e294 f300 (g := (mkF m 46 #[rv a1, iv p1, iv p2, iv u, iv t] [(.ref a1)])) rfl rfl (hb hby d86_46)
      refine Rch.go (U' := T318.setTop (mkF m 49 #[rv a1, iv p1, iv p2, iv u, iv t] [(.ref bpv)])) st318 ?_
      refine Rch.go (U' := T318.setTop (mkF m 51 #[rv a1, iv p1, iv p2, iv u, iv t] [(.int t), (.ref bpv)])) (fun _ k => XS.iload X318.here hx rfl (hb hby d86_49) rfl  k) ?_
      refine Rch.go (U' := T318.setTop (mkF m 52 #[rv a1, iv p1, iv p2, iv u, iv t] [(.int u), (.int t), (.ref bpv)])) (fun _ k => XS.iloadN X318.here hx rfl (hb hby d86_51) rfl  k) ?_
      obtain ⟨cl319, Ar319, qk319, Sz319, Mn319, Hs319, Gf319⟩ := id f310
      have ib319 : ¬ (t < 0 ∨ cl319.slots.size ≤ (t).toNatClampNeg) := inb_of Sz319 ((ht ▸ i3).resolve_left br317)
      obtain ⟨T319, h319, X319, e319, W319, st319⟩ := stI X318 hx hZ e318 Ar319 (j := t) ib319 (g := (mkF m 52 #[rv a1, iv p1, iv p2, iv u, iv t] [(.int u), (.int t), (.ref bpv)])) rfl rfl (hb hby d86_52)
      have V319 : Arv Z h319 bpv k_pv .int (4 : Int32) ((own_st pv t u).map Value.int) (.int (0 : Int32)) := own_sx (Arv.set Ar319 qk319 Sz319 Mn319 Hs319 Gf319 rfl W319 _ rfl (own_ln ((ht ▸ i3).resolve_left br317) l_pv))
      have f320 := f295.wr W319
      have f321 := f296.wr W319
      have f322 := f297.other W319 (Or.inl (nN (nT o4 (nT o5 o6))))
      have f323 := f298.other W319 (Or.inl (nN (nT o4 (nT o5 o6))))
      have f324 := f299.other W319 (Or.inl (nN (nT o4 (nT o5 o6))))
      have f325 := f300.other W319 (Or.inl (nN (nT o4 (nT o5 o6))))
      have f326 := f301.other W319 (Or.inl (nN (nT o4 (nT o5 o6))))
      have f327 := f302.other W319 (Or.inl (nN (nT o4 (nT o5 o6))))
      have f328 := f303.other W319 (Or.inl (nN (nT o4 (nT o5 o6))))
      have f329 := f304.other W319 (Or.inl (nN (nT o4 (nT o5 o6))))
      have f330 := f305.other W319 (Or.inl (nN (nT o4 (nT o5 o6))))
      have f331 := f306.other W319 (Or.inl (nN (nT o1 (nT o2 (nT o3 (nT o4 (nT o5 o6)))))))
      have f332 := f307.other W319 (Or.inl (nN (nT o1 (nT o2 (nT o3 (nT o4 (nT o5 o6)))))))
      have f333 := f308.other W319 (nN (nT o5 o6))
      have f334 := f309.other W319 (nN o6)
      have f335 := V294.other W319 (nM o7)
      have f336 := f311.other W319 (nM (nT o7 o8))
      have f337 := f312.other W319 (nM (nT o7 (nT o8 o9)))
      have f338 := f313.other W319 (nN (nT o2 (nT o3 (nT o4 (nT o5 o6)))))
      have f339 := f314.other W319 (nN (nT o3 (nT o4 (nT o5 o6))))
      have N319 := Fr.snoc X319 N294 (nG o0 (nT o1 (nT o2 (nT o3 (nT o4 (nT o5 o6))))))
      have z340 := Nat.le_trans z315 (Keep.of_wr W319).1
      have K341 := K316.wr W319 (Or.inl (List.mem_of_getElem? (i := 1) rfl))
      refine Rch.go (U' := T319.setTop (mkF m 53 #[rv a1, iv p1, iv p2, iv u, iv t] [])) st319 ?_
      refine Rch.fin X319 hlk (v := none) (fun _ => rfl) e319 (by decide) (by decide) (fun fs hr => X319.returnOut hx hret (hb hby d86_53) hr) ?_
      have e : own_lv nx pv fb p1 p2 = (nx, (own_st pv t u), (own_st fb p2 t)) := by simp only [own_lv, own_lpv, hu, ht, br292, br317, ↓reduceIte]
      exact ⟨rfl, N319, K341, _, _, _, e, ⟨_, f334, l_nx⟩, ⟨_, V319, (own_ls l_pv)⟩, ⟨_, f335, (own_ls l_fb)⟩⟩
  ·
    refine Rch.go (U' := T290.setTop (mkF m 31 #[rv a1, iv p1, iv p2, iv u, iv t] [])) (fun _ k => XS.icmpYes X290.here hx rfl (pc0 := 17) (pc' := 31) rfl (hb hby d86_17) rfl (XT.ii_ne_t br292) (by decide) (by decide) k) ?_
    refine Rch.go (U' := T290.setTop (mkF m 32 #[rv a1, iv p1, iv p2, iv u, iv t] [(.ref a1)])) (fun _ k => XS.aloadN X290.here hx rfl (hb hby d86_31) rfl rfl k) ?_
    obtain ⟨T342, X342, e342, st342⟩ := getF X290 hx hZ hown (host := "") (Or.inl (wi hw 38 rfl)) Via.refl e290 FC_nextInCompound (g := (mkF m 32 #[rv a1, iv p1, iv p2, iv u, iv t] [(.ref a1)])) rfl rfl (hb hby d86_32)
    refine Rch.go (U' := T342.setTop (mkF m 35 #[rv a1, iv p1, iv p2, iv u, iv t] [(.ref bnx)])) st342 ?_
    refine Rch.go (U' := T342.setTop (mkF m 36 #[rv a1, iv p1, iv p2, iv u, iv t] [(.int u), (.ref bnx)])) (fun _ k => XS.iloadN X342.here hx rfl (hb hby d86_35) rfl  k) ?_
    refine Rch.go (U' := T342.setTop (mkF m 38 #[rv a1, iv p1, iv p2, iv u, iv t] [(.int t), (.int u), (.ref bnx)])) (fun _ k => XS.iload X342.here hx rfl (hb hby d86_36) rfl  k) ?_
    obtain ⟨cl343, Ar343, qk343, Sz343, Mn343, Hs343, Gf343⟩ := id V_nx
    have ib343 : ¬ (u < 0 ∨ cl343.slots.size ≤ (u).toNatClampNeg) := inb_of Sz343 ((hu ▸ i4).resolve_left br292)
    obtain ⟨T343, h343, X343, e343, W343, st343⟩ := stI X342 hx hZ e342 Ar343 (j := u) ib343 (g := (mkF m 38 #[rv a1, iv p1, iv p2, iv u, iv t] [(.int t), (.int u), (.ref bnx)])) rfl rfl (hb hby d86_38)
    have V343 : Arv Z h343 bnx k_nx .int (4 : Int32) ((own_st nx u t).map Value.int) (.int (0 : Int32)) := own_sx (Arv.set Ar343 qk343 Sz343 Mn343 Hs343 Gf343 rfl W343 _ rfl (own_ln ((hu ▸ i4).resolve_left br292) l_nx))
    have f344 := E_a1.wr W343
    have f345 := E_a2.wr W343
    have f346 := FC_blocks.other W343 (Or.inl (nN (nT o4 o5)))
    have f347 := FC_compoundOf.other W343 (Or.inl (nN (nT o4 o5)))
    have f348 := FC_nextInCompound.other W343 (Or.inl (nN (nT o4 o5)))
    have f349 := FC_previousInCompound.other W343 (Or.inl (nN (nT o4 o5)))
    have f350 := FC_firstBlock.other W343 (Or.inl (nN (nT o4 o5)))
    have f351 := FC_pending.other W343 (Or.inl (nN (nT o4 o5)))
    have f352 := FC_isPending.other W343 (Or.inl (nN (nT o4 o5)))
    have f353 := FC_compoundCount.other W343 (Or.inl (nN (nT o4 o5)))
    have f354 := FC_pendingCount.other W343 (Or.inl (nN (nT o4 o5)))
    have f355 := FB_first.other W343 (Or.inl (nN (nT o1 (nT o2 (nT o3 (nT o4 o5))))))
    have f356 := FB_end.other W343 (Or.inl (nN (nT o1 (nT o2 (nT o3 (nT o4 o5))))))
    have f357 := V_co.other W343 (nN o5)
    have f358 := V_pv.other W343 (nM o6)
    have f359 := V_fb.other W343 (nM (nT o6 o7))
    have f360 := V_pd.other W343 (nM (nT o6 (nT o7 o8)))
    have f361 := V_ip.other W343 (nM (nT o6 (nT o7 (nT o8 o9))))
    have f362 := V_fi.other W343 (nN (nT o2 (nT o3 (nT o4 o5))))
    have f363 := V_en.other W343 (nN (nT o3 (nT o4 o5)))
    have N343 := Fr.snoc X343 N0 (nG o0 (nT o1 (nT o2 (nT o3 (nT o4 o5)))))
    have z364 := Nat.le_trans Z0 (Keep.of_wr W343).1
    have K365 := K0.wr W343 (Or.inl (List.mem_of_getElem? (i := 0) rfl))
    refine Rch.go (U' := T343.setTop (mkF m 39 #[rv a1, iv p1, iv p2, iv u, iv t] [])) st343 ?_
    refine Rch.go (U' := T343.setTop (mkF m 41 #[rv a1, iv p1, iv p2, iv u, iv t] [(.int t)])) (fun _ k => XS.iload X343.here hx rfl (hb hby d86_39) rfl  k) ?_
    refine Rch.go (U' := T343.setTop (mkF m 42 #[rv a1, iv p1, iv p2, iv u, iv t] [(.int (-1 : Int32)), (.int t)])) (fun _ k => XS.iconst X343.here hx rfl (hb hby d86_41) k) ?_
    by_cases br366 : t = (-1 : Int32)
    ·
      refine Rch.go (U' := T343.setTop (mkF m 53 #[rv a1, iv p1, iv p2, iv u, iv t] [])) (fun _ k => XS.icmpYes X343.here hx rfl (pc0 := 42) (pc' := 53) rfl (hb hby d86_42) rfl (XT.ii_eq_t br366) (by decide) (by decide) k) ?_
      refine Rch.fin X343 hlk (v := none) (fun _ => rfl) e343 (by decide) (by decide) (fun fs hr => X343.returnOut hx hret (hb hby d86_53) hr) ?_
      have e : own_lv nx pv fb p1 p2 = ((own_st nx u t), pv, fb) := by simp only [own_lv, own_lpv, hu, ht, br292, br366, ↓reduceIte]
      exact ⟨rfl, N343, K365, _, _, _, e, ⟨_, V343, (own_ls l_nx)⟩, ⟨_, f358, l_pv⟩, ⟨_, f359, l_fb⟩⟩
    ·
      refine Rch.go (U' := T343.setTop (mkF m 45 #[rv a1, iv p1, iv p2, iv u, iv t] [])) (fun _ k => XS.icmpNo X343.here hx rfl (hb hby d86_42) rfl (XT.ii_eq_f br366) k) ?_
      refine Rch.go (U' := T343.setTop (mkF m 46 #[rv a1, iv p1, iv p2, iv u, iv t] [(.ref a1)])) (fun _ k => XS.aloadN X343.here hx rfl (hb hby d86_45) rfl rfl k) ?_
      obtain ⟨T367, X367, e367, st367⟩ := getF X343 hx hZ hown (host := "") (Or.inl (wi hw 40 rfl)) Via.refl e343 f349 (g := (mkF m 46 #[rv a1, iv p1, iv p2, iv u, iv t] [(.ref a1)])) rfl rfl (hb hby d86_46)
      refine Rch.go (U' := T367.setTop (mkF m 49 #[rv a1, iv p1, iv p2, iv u, iv t] [(.ref bpv)])) st367 ?_
      refine Rch.go (U' := T367.setTop (mkF m 51 #[rv a1, iv p1, iv p2, iv u, iv t] [(.int t), (.ref bpv)])) (fun _ k => XS.iload X367.here hx rfl (hb hby d86_49) rfl  k) ?_
      refine Rch.go (U' := T367.setTop (mkF m 52 #[rv a1, iv p1, iv p2, iv u, iv t] [(.int u), (.int t), (.ref bpv)])) (fun _ k => XS.iloadN X367.here hx rfl (hb hby d86_51) rfl  k) ?_
      obtain ⟨cl368, Ar368, qk368, Sz368, Mn368, Hs368, Gf368⟩ := id f358
      have ib368 : ¬ (t < 0 ∨ cl368.slots.size ≤ (t).toNatClampNeg) := inb_of Sz368 ((ht ▸ i3).resolve_left br366)
      obtain ⟨T368, h368, X368, e368, W368, st368⟩ := stI X367 hx hZ e367 Ar368 (j := t) ib368 (g := (mkF m 52 #[rv a1, iv p1, iv p2, iv u, iv t] [(.int u), (.int t), (.ref bpv)])) rfl rfl (hb hby d86_52)
      have V368 : Arv Z h368 bpv k_pv .int (4 : Int32) ((own_st pv t u).map Value.int) (.int (0 : Int32)) := own_sx (Arv.set Ar368 qk368 Sz368 Mn368 Hs368 Gf368 rfl W368 _ rfl (own_ln ((ht ▸ i3).resolve_left br366) l_pv))
      have f369 := f344.wr W368
      have f370 := f345.wr W368
      have f371 := f346.other W368 (Or.inl (nN (nT o4 (nT o5 o6))))
      have f372 := f347.other W368 (Or.inl (nN (nT o4 (nT o5 o6))))
      have f373 := f348.other W368 (Or.inl (nN (nT o4 (nT o5 o6))))
      have f374 := f349.other W368 (Or.inl (nN (nT o4 (nT o5 o6))))
      have f375 := f350.other W368 (Or.inl (nN (nT o4 (nT o5 o6))))
      have f376 := f351.other W368 (Or.inl (nN (nT o4 (nT o5 o6))))
      have f377 := f352.other W368 (Or.inl (nN (nT o4 (nT o5 o6))))
      have f378 := f353.other W368 (Or.inl (nN (nT o4 (nT o5 o6))))
      have f379 := f354.other W368 (Or.inl (nN (nT o4 (nT o5 o6))))
      have f380 := f355.other W368 (Or.inl (nN (nT o1 (nT o2 (nT o3 (nT o4 (nT o5 o6)))))))
      have f381 := f356.other W368 (Or.inl (nN (nT o1 (nT o2 (nT o3 (nT o4 (nT o5 o6)))))))
      have f382 := f357.other W368 (nN (nT o5 o6))
      have f383 := V343.other W368 (nN o6)
      have f384 := f359.other W368 (nM o7)
      have f385 := f360.other W368 (nM (nT o7 o8))
      have f386 := f361.other W368 (nM (nT o7 (nT o8 o9)))
      have f387 := f362.other W368 (nN (nT o2 (nT o3 (nT o4 (nT o5 o6)))))
      have f388 := f363.other W368 (nN (nT o3 (nT o4 (nT o5 o6))))
      have N368 := Fr.snoc X368 N343 (nG o0 (nT o1 (nT o2 (nT o3 (nT o4 (nT o5 o6))))))
      have z389 := Nat.le_trans z364 (Keep.of_wr W368).1
      have K390 := K365.wr W368 (Or.inl (List.mem_of_getElem? (i := 1) rfl))
      refine Rch.go (U' := T368.setTop (mkF m 53 #[rv a1, iv p1, iv p2, iv u, iv t] [])) st368 ?_
      refine Rch.fin X368 hlk (v := none) (fun _ => rfl) e368 (by decide) (by decide) (fun fs hr => X368.returnOut hx hret (hb hby d86_53) hr) ?_
      have e : own_lv nx pv fb p1 p2 = ((own_st nx u t), (own_st pv t u), fb) := by simp only [own_lv, own_lpv, hu, ht, br292, br366, ↓reduceIte]
      exact ⟨rfl, N368, K390, _, _, _, e, ⟨_, f383, (own_ls l_nx)⟩, ⟨_, V368, (own_ls l_pv)⟩, ⟨_, f384, l_fb⟩⟩
theorem d82_0 : decode prog_12_method_4_code 0 = .ok (.aload_n 0, 1) := by decide +kernel
theorem d82_1 : decode prog_12_method_4_code 1 = .ok (.getfield 22, 3) := by decide +kernel
theorem d82_4 : decode prog_12_method_4_code 4 = .ok (.iload_n 1, 1) := by decide +kernel
theorem d82_5 : decode prog_12_method_4_code 5 = .ok (.iaload, 1) := by decide +kernel
theorem d82_6 : decode prog_12_method_4_code 6 = .ok (.aload_n 0, 1) := by decide +kernel
theorem d82_7 : decode prog_12_method_4_code 7 = .ok (.getfield 19, 3) := by decide +kernel
theorem d82_10 : decode prog_12_method_4_code 10 = .ok (.iload_n 1, 1) := by decide +kernel
theorem d82_11 : decode prog_12_method_4_code 11 = .ok (.iaload, 1) := by decide +kernel
theorem d82_12 : decode prog_12_method_4_code 12 = .ok (.isub, 1) := by decide +kernel
theorem d82_13 : decode prog_12_method_4_code 13 = .ok (.ireturn, 1) := by decide +kernel
theorem pn_com_example_fixpoints_of_behaviour_fixpointsofbehaviour_bisimulation_Blocks : plainName cBL = true := by first | (simp [plainName, overriddenIn]; done) | decide +kernel
theorem ef_rmZ (m : MethodId) (a2 : Addr) (p1 : Int32) : entryFrame m #[(.ref a2), (.int p1)] 2 = mkF m 0 #[rv a2, iv p1] [] := by first | (simp [entryFrame, mkF, argsToLocals, Value.category]; done) | rfl
def Q_rmZ (Z : State) (a1 : Addr) (a2 : Addr) (bco : Addr) (bnx : Addr) (bpv : Addr) (bfb : Addr) (bpd : Addr) (bip : Addr) (bfi : Addr) (ben : Addr) (co : List Int32) (nx : List Int32) (pv : List Int32) (fb : List Int32) (pd : List Int32) (ip : List Int32) (cc : Int32) (pc : Int32) (p1 : Int32) (h0 : Heap) (n0 : Nat) (v : Option Value) (h : Heap) (L : List Loc) : Prop := v = some (.int (own_sz p1)) ∧ Fr n0 L ∧ h = h0
set_option maxRecDepth 65536 in
set_option maxHeartbeats 40000000 in
theorem rmZ (l : Launch) (Z : State) (a0 : Array Value) (hw : ∀ d ∈ tables_1, d.before a0 Z = true) (ws : List Jvm.Cond) (a1 : Addr) (a2 : Addr) (bco : Addr) (bnx : Addr) (bpv : Addr) (bfb : Addr) (bpd : Addr) (bip : Addr) (bfi : Addr) (ben : Addr) (co : List Int32) (nx : List Int32) (pv : List Int32) (fb : List Int32) (pd : List Int32) (ip : List Int32) (cc : Int32) (pc : Int32) (p1 : Int32) (h0 : Heap) (n0 : Nat) (Z0 : n0 ≤ h0.size) (B : Cb Z h0 n0 a1 a2 bco bnx bpv bfb bpd bip bfi ben co nx pv fb pd ip cc pc) (i1 : own_In p1) :
    MetFree l yz (head1 (Jvm.Cond.code yz prog_12_method_4_code 2 (some .int) :: ws) ({ frames := 0, cells := 0, slots := 0, locals := 0 } : Room)) (fun a_ U => a_ = #[(.ref a2), (.int p1)] ∧ Z.Warmed39 U.vm ∧ U.heap = h0) (fun _ _ _ _ _ => True) (fun _ U o U' => ∃ v L, o = .returned v ∧ Q_rmZ Z a1 a2 bco bnx bpv bfb bpd bip bfi ben co nx pv fb pd ip cc pc p1 h0 n0 v U'.heap L ∧ FrameEnd U o U' L ({ frames := 0, cells := 0, slots := 0, locals := 0 } : Room).cells ({ frames := 0, cells := 0, slots := 0, locals := 0 } : Room).slots) := by
  refine MetFree.of_bodySF (plainFor_of_name pn_com_example_fixpoints_of_behaviour_fixpointsofbehaviour_bisimulation_Blocks) hisR ?_
  intro p e s m args below meth c s₁ Bd hml0 hP hK
  obtain ⟨rfl, hZ, hh⟩ := hP
  have hx := Bd.exec
  have hby := Bd.bytes
  have hml : c.maxLocals = 2 := hml0
  have hown : s.vm.findClass cBL = some m.cls := findClass_of_methodNamed Bd.named
  have hnm := (name_of_methodNamed Bd.named Bd.method).1
  have hret := Bd.returns
  have hlk : meth.locks = false := BodyLoose.notSynchronized Bd
  have X0 : Stand p l e ({ frames := 0, cells := 0, slots := 0, locals := 0 } : Room) s m #[(.ref a2), (.int p1)] below meth c s₁ [] 0 0 := Stand.of_body Bd
  have e0 : s₁.heap = h0 := by rw [← hh, Bd.state]; rfl
  have N0 := Fr.nil n0
  obtain ⟨⟨E_a1, FC_blocks, FC_compoundOf, FC_nextInCompound, FC_previousInCompound, FC_firstBlock, FC_pending, FC_isPending, FC_compoundCount, FC_pendingCount⟩, ⟨E_a2, FB_first, FB_end⟩, ⟨⟨k_co, V_co, l_co⟩, ⟨k_nx, V_nx, l_nx⟩, ⟨k_pv, V_pv, l_pv⟩, ⟨k_fb, V_fb, l_fb⟩, ⟨k_pd, V_pd, l_pd⟩, ⟨k_ip, V_ip, l_ip⟩, ⟨k_fi, V_fi, l_fi⟩, ⟨k_en, V_en, l_en⟩⟩, o0, o1, o2, o3, o4, o5, o6, o7, o8, o9⟩ := B
  refine Rch.body (Q := Q_rmZ Z a1 a2 bco bnx bpv bfb bpd bip bfi ben co nx pv fb pd ip cc pc p1 h0 n0) (U' := s₁.setTop (mkF m 0 #[rv a2, iv p1] [])) (fun _ k => castTop (ef_rmZ m a2 p1) k) ?_
  refine Rch.go (U' := s₁.setTop (mkF m 1 #[rv a2, iv p1] [(.ref a2)])) (fun _ k => XS.aloadN X0.here hx rfl (hb hby d82_0) rfl rfl k) ?_
  obtain ⟨T391, X391, e391, st391⟩ := getF X0 hx hZ hown (host := "") (Or.inl (wi hw 19 rfl)) Via.refl e0 FB_end (g := (mkF m 1 #[rv a2, iv p1] [(.ref a2)])) rfl rfl (hb hby d82_1)
  refine Rch.go (U' := T391.setTop (mkF m 4 #[rv a2, iv p1] [(.ref ben)])) st391 ?_
  refine Rch.go (U' := T391.setTop (mkF m 5 #[rv a2, iv p1] [(.int p1), (.ref ben)])) (fun _ k => XS.iloadN X391.here hx rfl (hb hby d82_4) rfl  k) ?_
  obtain ⟨cl392, Ar392, qk392, Sz392, Mn392, Hs392, Gf392⟩ := id V_en
  have ib392 : ¬ (p1 < 0 ∨ cl392.slots.size ≤ (p1).toNatClampNeg) := inb_of Sz392 i1
  have ea392 : cl392.slots[(p1).toNatClampNeg]? = some (.int (own_at [4, 0, 0, 0] p1)) := Has.at Hs392 ib392 (own_gx [4, 0, 0, 0] p1)
  refine Rch.go (U' := T391.setTop (mkF m 6 #[rv a2, iv p1] [(.int (own_at [4, 0, 0, 0] p1))])) (fun _ k => X391.iaload hx (j := p1) (v := (.int (own_at [4, 0, 0, 0] p1))) (by rw [e391]; exact Ar392.1) (State.isArrayOf_alike hZ.alike Ar392.2.1) Ar392.2.2 ib392 ea392 (g := (mkF m 5 #[rv a2, iv p1] [(.int p1), (.ref ben)])) rfl rfl (hb hby d82_5) _ k) ?_
  refine Rch.go (U' := T391.setTop (mkF m 7 #[rv a2, iv p1] [(.ref a2), (.int (own_at [4, 0, 0, 0] p1))])) (fun _ k => XS.aloadN X391.here hx rfl (hb hby d82_6) rfl rfl k) ?_
  obtain ⟨T393, X393, e393, st393⟩ := getF X391 hx hZ hown (host := "") (Or.inl (wi hw 17 rfl)) Via.refl e391 FB_first (g := (mkF m 7 #[rv a2, iv p1] [(.ref a2), (.int (own_at [4, 0, 0, 0] p1))])) rfl rfl (hb hby d82_7)
  refine Rch.go (U' := T393.setTop (mkF m 10 #[rv a2, iv p1] [(.ref bfi), (.int (own_at [4, 0, 0, 0] p1))])) st393 ?_
  refine Rch.go (U' := T393.setTop (mkF m 11 #[rv a2, iv p1] [(.int p1), (.ref bfi), (.int (own_at [4, 0, 0, 0] p1))])) (fun _ k => XS.iloadN X393.here hx rfl (hb hby d82_10) rfl  k) ?_
  obtain ⟨cl394, Ar394, qk394, Sz394, Mn394, Hs394, Gf394⟩ := id V_fi
  have ib394 : ¬ (p1 < 0 ∨ cl394.slots.size ≤ (p1).toNatClampNeg) := inb_of Sz394 i1
  have ea394 : cl394.slots[(p1).toNatClampNeg]? = some (.int (own_at [0, 0, 0, 0] p1)) := Has.at Hs394 ib394 (own_gx [0, 0, 0, 0] p1)
  refine Rch.go (U' := T393.setTop (mkF m 12 #[rv a2, iv p1] [(.int (own_at [0, 0, 0, 0] p1)), (.int (own_at [4, 0, 0, 0] p1))])) (fun _ k => X393.iaload hx (j := p1) (v := (.int (own_at [0, 0, 0, 0] p1))) (by rw [e393]; exact Ar394.1) (State.isArrayOf_alike hZ.alike Ar394.2.1) Ar394.2.2 ib394 ea394 (g := (mkF m 11 #[rv a2, iv p1] [(.int p1), (.ref bfi), (.int (own_at [4, 0, 0, 0] p1))])) rfl rfl (hb hby d82_11) _ k) ?_
  refine Rch.go (U' := T393.setTop (mkF m 13 #[rv a2, iv p1] [(.int ((own_at [4, 0, 0, 0] p1) - (own_at [0, 0, 0, 0] p1)))])) (fun _ k => XS.isub X393.here hx rfl (hb hby d82_12) rfl k) ?_
  refine Rch.fin X393 hlk (v := some (.int ((own_at [4, 0, 0, 0] p1) - (own_at [0, 0, 0, 0] p1)))) (fun h => by rw [hret] at h; cases h) e393 (by decide) (by decide) (fun fs hr => retI X393 hx hret (hb hby d82_13) hr) ?_
  exact ⟨rfl, N0, rfl⟩
theorem d62_0 : decode prog_18_method_2_code 0 = .ok (.aload_n 0, 1) := by decide +kernel
theorem d62_1 : decode prog_18_method_2_code 1 = .ok (.getfield 13, 3) := by decide +kernel
theorem d62_4 : decode prog_18_method_2_code 4 = .ok (.iload_n 1, 1) := by decide +kernel
theorem d62_5 : decode prog_18_method_2_code 5 = .ok (.iaload, 1) := by decide +kernel
theorem d62_6 : decode prog_18_method_2_code 6 = .ok (.ireturn, 1) := by decide +kernel
theorem ef_rmCo (m : MethodId) (a1 : Addr) (p1 : Int32) : entryFrame m #[(.ref a1), (.int p1)] 2 = mkF m 0 #[rv a1, iv p1] [] := by first | (simp [entryFrame, mkF, argsToLocals, Value.category]; done) | rfl
def Q_rmCo (Z : State) (a1 : Addr) (a2 : Addr) (bco : Addr) (bnx : Addr) (bpv : Addr) (bfb : Addr) (bpd : Addr) (bip : Addr) (bfi : Addr) (ben : Addr) (co : List Int32) (nx : List Int32) (pv : List Int32) (fb : List Int32) (pd : List Int32) (ip : List Int32) (cc : Int32) (pc : Int32) (p1 : Int32) (h0 : Heap) (n0 : Nat) (v : Option Value) (h : Heap) (L : List Loc) : Prop := v = some (.int (own_at co p1)) ∧ Fr n0 L ∧ h = h0
set_option maxRecDepth 65536 in
set_option maxHeartbeats 40000000 in
theorem rmCo (l : Launch) (Z : State) (a0 : Array Value) (hw : ∀ d ∈ tables_1, d.before a0 Z = true) (ws : List Jvm.Cond) (a1 : Addr) (a2 : Addr) (bco : Addr) (bnx : Addr) (bpv : Addr) (bfb : Addr) (bpd : Addr) (bip : Addr) (bfi : Addr) (ben : Addr) (co : List Int32) (nx : List Int32) (pv : List Int32) (fb : List Int32) (pd : List Int32) (ip : List Int32) (cc : Int32) (pc : Int32) (p1 : Int32) (h0 : Heap) (n0 : Nat) (Z0 : n0 ≤ h0.size) (B : Cb Z h0 n0 a1 a2 bco bnx bpv bfb bpd bip bfi ben co nx pv fb pd ip cc pc) (i1 : own_In p1) :
    MetFree l yc (head1 (Jvm.Cond.code yc prog_18_method_2_code 2 (some .int) :: ws) ({ frames := 0, cells := 0, slots := 0, locals := 0 } : Room)) (fun a_ U => a_ = #[(.ref a1), (.int p1)] ∧ Z.Warmed39 U.vm ∧ U.heap = h0) (fun _ _ _ _ _ => True) (fun _ U o U' => ∃ v L, o = .returned v ∧ Q_rmCo Z a1 a2 bco bnx bpv bfb bpd bip bfi ben co nx pv fb pd ip cc pc p1 h0 n0 v U'.heap L ∧ FrameEnd U o U' L ({ frames := 0, cells := 0, slots := 0, locals := 0 } : Room).cells ({ frames := 0, cells := 0, slots := 0, locals := 0 } : Room).slots) := by
  refine MetFree.of_bodySF (plainFor_of_name pn_com_example_fixpoints_of_behaviour_fixpointsofbehaviour_bisimulation_CompoundBlocks) hisR ?_
  intro p e s m args below meth c s₁ Bd hml0 hP hK
  obtain ⟨rfl, hZ, hh⟩ := hP
  have hx := Bd.exec
  have hby := Bd.bytes
  have hml : c.maxLocals = 2 := hml0
  have hown : s.vm.findClass cCB = some m.cls := findClass_of_methodNamed Bd.named
  have hnm := (name_of_methodNamed Bd.named Bd.method).1
  have hret := Bd.returns
  have hlk : meth.locks = false := BodyLoose.notSynchronized Bd
  have X0 : Stand p l e ({ frames := 0, cells := 0, slots := 0, locals := 0 } : Room) s m #[(.ref a1), (.int p1)] below meth c s₁ [] 0 0 := Stand.of_body Bd
  have e0 : s₁.heap = h0 := by rw [← hh, Bd.state]; rfl
  have N0 := Fr.nil n0
  obtain ⟨⟨E_a1, FC_blocks, FC_compoundOf, FC_nextInCompound, FC_previousInCompound, FC_firstBlock, FC_pending, FC_isPending, FC_compoundCount, FC_pendingCount⟩, ⟨E_a2, FB_first, FB_end⟩, ⟨⟨k_co, V_co, l_co⟩, ⟨k_nx, V_nx, l_nx⟩, ⟨k_pv, V_pv, l_pv⟩, ⟨k_fb, V_fb, l_fb⟩, ⟨k_pd, V_pd, l_pd⟩, ⟨k_ip, V_ip, l_ip⟩, ⟨k_fi, V_fi, l_fi⟩, ⟨k_en, V_en, l_en⟩⟩, o0, o1, o2, o3, o4, o5, o6, o7, o8, o9⟩ := B
  refine Rch.body (Q := Q_rmCo Z a1 a2 bco bnx bpv bfb bpd bip bfi ben co nx pv fb pd ip cc pc p1 h0 n0) (U' := s₁.setTop (mkF m 0 #[rv a1, iv p1] [])) (fun _ k => castTop (ef_rmCo m a1 p1) k) ?_
  refine Rch.go (U' := s₁.setTop (mkF m 1 #[rv a1, iv p1] [(.ref a1)])) (fun _ k => XS.aloadN X0.here hx rfl (hb hby d62_0) rfl rfl k) ?_
  obtain ⟨T395, X395, e395, st395⟩ := getF X0 hx hZ hown (host := "") (Or.inl (wi hw 36 rfl)) Via.refl e0 FC_compoundOf (g := (mkF m 1 #[rv a1, iv p1] [(.ref a1)])) rfl rfl (hb hby d62_1)
  refine Rch.go (U' := T395.setTop (mkF m 4 #[rv a1, iv p1] [(.ref bco)])) st395 ?_
  refine Rch.go (U' := T395.setTop (mkF m 5 #[rv a1, iv p1] [(.int p1), (.ref bco)])) (fun _ k => XS.iloadN X395.here hx rfl (hb hby d62_4) rfl  k) ?_
  obtain ⟨cl396, Ar396, qk396, Sz396, Mn396, Hs396, Gf396⟩ := id V_co
  have ib396 : ¬ (p1 < 0 ∨ cl396.slots.size ≤ (p1).toNatClampNeg) := inb_of Sz396 i1
  have ea396 : cl396.slots[(p1).toNatClampNeg]? = some (.int (own_at co p1)) := Has.at Hs396 ib396 (own_gx co p1)
  refine Rch.go (U' := T395.setTop (mkF m 6 #[rv a1, iv p1] [(.int (own_at co p1))])) (fun _ k => X395.iaload hx (j := p1) (v := (.int (own_at co p1))) (by rw [e395]; exact Ar396.1) (State.isArrayOf_alike hZ.alike Ar396.2.1) Ar396.2.2 ib396 ea396 (g := (mkF m 5 #[rv a1, iv p1] [(.int p1), (.ref bco)])) rfl rfl (hb hby d62_5) _ k) ?_
  refine Rch.fin X395 hlk (v := some (.int (own_at co p1))) (fun h => by rw [hret] at h; cases h) e395 (by decide) (by decide) (fun fs hr => retI X395 hx hret (hb hby d62_6) hr) ?_
  exact ⟨rfl, N0, rfl⟩
theorem d67_0 : decode prog_18_method_3_code 0 = .ok (.aload_n 0, 1) := by decide +kernel
theorem d67_1 : decode prog_18_method_3_code 1 = .ok (.getfield 37, 3) := by decide +kernel
theorem d67_4 : decode prog_18_method_3_code 4 = .ok (.ifCond .le 7, 3) := by decide +kernel
theorem d67_7 : decode prog_18_method_3_code 7 = .ok (.iconst 1, 1) := by decide +kernel
theorem d67_8 : decode prog_18_method_3_code 8 = .ok (.goto 4, 3) := by decide +kernel
theorem d67_11 : decode prog_18_method_3_code 11 = .ok (.iconst 0, 1) := by decide +kernel
theorem d67_12 : decode prog_18_method_3_code 12 = .ok (.ireturn, 1) := by decide +kernel
theorem ef_rmHs (m : MethodId) (a1 : Addr) : entryFrame m #[(.ref a1)] 1 = mkF m 0 #[rv a1] [] := by first | (simp [entryFrame, mkF, argsToLocals, Value.category]; done) | rfl
def Q_rmHs (Z : State) (a1 : Addr) (a2 : Addr) (bco : Addr) (bnx : Addr) (bpv : Addr) (bfb : Addr) (bpd : Addr) (bip : Addr) (bfi : Addr) (ben : Addr) (co : List Int32) (nx : List Int32) (pv : List Int32) (fb : List Int32) (pd : List Int32) (ip : List Int32) (cc : Int32) (pc : Int32) (h0 : Heap) (n0 : Nat) (v : Option Value) (h : Heap) (L : List Loc) : Prop := v = some (.int (own_pos pc)) ∧ Fr n0 L ∧ h = h0
set_option maxRecDepth 65536 in
set_option maxHeartbeats 40000000 in
theorem rmHs (l : Launch) (Z : State) (a0 : Array Value) (hw : ∀ d ∈ tables_1, d.before a0 Z = true) (ws : List Jvm.Cond) (a1 : Addr) (a2 : Addr) (bco : Addr) (bnx : Addr) (bpv : Addr) (bfb : Addr) (bpd : Addr) (bip : Addr) (bfi : Addr) (ben : Addr) (co : List Int32) (nx : List Int32) (pv : List Int32) (fb : List Int32) (pd : List Int32) (ip : List Int32) (cc : Int32) (pc : Int32) (h0 : Heap) (n0 : Nat) (Z0 : n0 ≤ h0.size) (B : Cb Z h0 n0 a1 a2 bco bnx bpv bfb bpd bip bfi ben co nx pv fb pd ip cc pc) :
    MetFree l yhs (head1 (Jvm.Cond.code yhs prog_18_method_3_code 1 (some .boolean) :: ws) ({ frames := 0, cells := 0, slots := 0, locals := 0 } : Room)) (fun a_ U => a_ = #[(.ref a1)] ∧ Z.Warmed39 U.vm ∧ U.heap = h0) (fun _ _ _ _ _ => True) (fun _ U o U' => ∃ v L, o = .returned v ∧ Q_rmHs Z a1 a2 bco bnx bpv bfb bpd bip bfi ben co nx pv fb pd ip cc pc h0 n0 v U'.heap L ∧ FrameEnd U o U' L ({ frames := 0, cells := 0, slots := 0, locals := 0 } : Room).cells ({ frames := 0, cells := 0, slots := 0, locals := 0 } : Room).slots) := by
  refine MetFree.of_bodySF (plainFor_of_name pn_com_example_fixpoints_of_behaviour_fixpointsofbehaviour_bisimulation_CompoundBlocks) hisR ?_
  intro p e s m args below meth c s₁ Bd hml0 hP hK
  obtain ⟨rfl, hZ, hh⟩ := hP
  have hx := Bd.exec
  have hby := Bd.bytes
  have hml : c.maxLocals = 1 := hml0
  have hown : s.vm.findClass cCB = some m.cls := findClass_of_methodNamed Bd.named
  have hnm := (name_of_methodNamed Bd.named Bd.method).1
  have hret := Bd.returns
  have hlk : meth.locks = false := BodyLoose.notSynchronized Bd
  have X0 : Stand p l e ({ frames := 0, cells := 0, slots := 0, locals := 0 } : Room) s m #[(.ref a1)] below meth c s₁ [] 0 0 := Stand.of_body Bd
  have e0 : s₁.heap = h0 := by rw [← hh, Bd.state]; rfl
  have N0 := Fr.nil n0
  obtain ⟨⟨E_a1, FC_blocks, FC_compoundOf, FC_nextInCompound, FC_previousInCompound, FC_firstBlock, FC_pending, FC_isPending, FC_compoundCount, FC_pendingCount⟩, ⟨E_a2, FB_first, FB_end⟩, ⟨⟨k_co, V_co, l_co⟩, ⟨k_nx, V_nx, l_nx⟩, ⟨k_pv, V_pv, l_pv⟩, ⟨k_fb, V_fb, l_fb⟩, ⟨k_pd, V_pd, l_pd⟩, ⟨k_ip, V_ip, l_ip⟩, ⟨k_fi, V_fi, l_fi⟩, ⟨k_en, V_en, l_en⟩⟩, o0, o1, o2, o3, o4, o5, o6, o7, o8, o9⟩ := B
  refine Rch.body (Q := Q_rmHs Z a1 a2 bco bnx bpv bfb bpd bip bfi ben co nx pv fb pd ip cc pc h0 n0) (U' := s₁.setTop (mkF m 0 #[rv a1] [])) (fun _ k => castTop (ef_rmHs m a1) k) ?_
  refine Rch.go (U' := s₁.setTop (mkF m 1 #[rv a1] [(.ref a1)])) (fun _ k => XS.aloadN X0.here hx rfl (hb hby d67_0) rfl rfl k) ?_
  obtain ⟨T397, X397, e397, st397⟩ := getF X0 hx hZ hown (host := "") (Or.inl (wi hw 56 rfl)) Via.refl e0 FC_pendingCount (g := (mkF m 1 #[rv a1] [(.ref a1)])) rfl rfl (hb hby d67_1)
  refine Rch.go (U' := T397.setTop (mkF m 4 #[rv a1] [(.int pc)])) st397 ?_
  by_cases br398 : (0 : Int32) < pc
  ·
    refine Rch.go (U' := T397.setTop (mkF m 7 #[rv a1] [])) (fun _ k => XS.ifNo X397.here hx rfl (hb hby d67_4) rfl (XT.i0_le_f br398) k) ?_
    refine Rch.go (U' := T397.setTop (mkF m 8 #[rv a1] [(.int (1 : Int32))])) (fun _ k => XS.iconst X397.here hx rfl (hb hby d67_7) k) ?_
    refine Rch.go (U' := T397.setTop (mkF m 12 #[rv a1] [(.int (1 : Int32))])) (fun _ k => XS.goto X397.here hx rfl (pc0 := 8) (pc' := 12) rfl (hb hby d67_8) (by decide) (by decide) k) ?_
    refine Rch.fin X397 hlk (v := some (.int (nar .boolean (1 : Int32)))) (fun h => by rw [hret] at h; cases h) e397 (by decide) (by decide) (fun fs hr => retN X397 hx (t := .boolean) hret (by simp) (hb hby d67_12) hr) ?_
    exact ⟨by simp only [own_pos, br398, nar_1, nar_0, ↓reduceIte], N0, rfl⟩
  ·
    refine Rch.go (U' := T397.setTop (mkF m 11 #[rv a1] [])) (fun _ k => XS.ifYes X397.here hx rfl (pc0 := 4) (pc' := 11) rfl (hb hby d67_4) rfl (XT.i0_le_t br398) (by decide) (by decide) k) ?_
    refine Rch.go (U' := T397.setTop (mkF m 12 #[rv a1] [(.int (0 : Int32))])) (fun _ k => XS.iconst X397.here hx rfl (hb hby d67_11) k) ?_
    refine Rch.fin X397 hlk (v := some (.int (nar .boolean (0 : Int32)))) (fun h => by rw [hret] at h; cases h) e397 (by decide) (by decide) (fun fs hr => retN X397 hx (t := .boolean) hret (by simp) (hb hby d67_12) hr) ?_
    exact ⟨by simp only [own_pos, br398, nar_1, nar_0, ↓reduceIte], N0, rfl⟩
theorem d72_0 : decode prog_18_method_4_code 0 = .ok (.aload_n 0, 1) := by decide +kernel
theorem d72_1 : decode prog_18_method_4_code 1 = .ok (.getfield 26, 3) := by decide +kernel
theorem d72_4 : decode prog_18_method_4_code 4 = .ok (.aload_n 0, 1) := by decide +kernel
theorem d72_5 : decode prog_18_method_4_code 5 = .ok (.getfield 37, 3) := by decide +kernel
theorem d72_8 : decode prog_18_method_4_code 8 = .ok (.iconst 1, 1) := by decide +kernel
theorem d72_9 : decode prog_18_method_4_code 9 = .ok (.isub, 1) := by decide +kernel
theorem d72_10 : decode prog_18_method_4_code 10 = .ok (.iaload, 1) := by decide +kernel
theorem d72_11 : decode prog_18_method_4_code 11 = .ok (.ireturn, 1) := by decide +kernel
theorem ef_rmNs (m : MethodId) (a1 : Addr) : entryFrame m #[(.ref a1)] 1 = mkF m 0 #[rv a1] [] := by first | (simp [entryFrame, mkF, argsToLocals, Value.category]; done) | rfl
def Q_rmNs (Z : State) (a1 : Addr) (a2 : Addr) (bco : Addr) (bnx : Addr) (bpv : Addr) (bfb : Addr) (bpd : Addr) (bip : Addr) (bfi : Addr) (ben : Addr) (co : List Int32) (nx : List Int32) (pv : List Int32) (fb : List Int32) (pd : List Int32) (ip : List Int32) (cc : Int32) (pc : Int32) (h0 : Heap) (n0 : Nat) (v : Option Value) (h : Heap) (L : List Loc) : Prop := v = some (.int (own_at pd (pc - (1 : Int32)))) ∧ Fr n0 L ∧ h = h0
set_option maxRecDepth 65536 in
set_option maxHeartbeats 40000000 in
theorem rmNs (l : Launch) (Z : State) (a0 : Array Value) (hw : ∀ d ∈ tables_1, d.before a0 Z = true) (ws : List Jvm.Cond) (a1 : Addr) (a2 : Addr) (bco : Addr) (bnx : Addr) (bpv : Addr) (bfb : Addr) (bpd : Addr) (bip : Addr) (bfi : Addr) (ben : Addr) (co : List Int32) (nx : List Int32) (pv : List Int32) (fb : List Int32) (pd : List Int32) (ip : List Int32) (cc : Int32) (pc : Int32) (h0 : Heap) (n0 : Nat) (Z0 : n0 ≤ h0.size) (B : Cb Z h0 n0 a1 a2 bco bnx bpv bfb bpd bip bfi ben co nx pv fb pd ip cc pc) (i1 : own_In (pc - (1 : Int32))) :
    MetFree l yns (head1 (Jvm.Cond.code yns prog_18_method_4_code 1 (some .int) :: ws) ({ frames := 0, cells := 0, slots := 0, locals := 0 } : Room)) (fun a_ U => a_ = #[(.ref a1)] ∧ Z.Warmed39 U.vm ∧ U.heap = h0) (fun _ _ _ _ _ => True) (fun _ U o U' => ∃ v L, o = .returned v ∧ Q_rmNs Z a1 a2 bco bnx bpv bfb bpd bip bfi ben co nx pv fb pd ip cc pc h0 n0 v U'.heap L ∧ FrameEnd U o U' L ({ frames := 0, cells := 0, slots := 0, locals := 0 } : Room).cells ({ frames := 0, cells := 0, slots := 0, locals := 0 } : Room).slots) := by
  refine MetFree.of_bodySF (plainFor_of_name pn_com_example_fixpoints_of_behaviour_fixpointsofbehaviour_bisimulation_CompoundBlocks) hisR ?_
  intro p e s m args below meth c s₁ Bd hml0 hP hK
  obtain ⟨rfl, hZ, hh⟩ := hP
  have hx := Bd.exec
  have hby := Bd.bytes
  have hml : c.maxLocals = 1 := hml0
  have hown : s.vm.findClass cCB = some m.cls := findClass_of_methodNamed Bd.named
  have hnm := (name_of_methodNamed Bd.named Bd.method).1
  have hret := Bd.returns
  have hlk : meth.locks = false := BodyLoose.notSynchronized Bd
  have X0 : Stand p l e ({ frames := 0, cells := 0, slots := 0, locals := 0 } : Room) s m #[(.ref a1)] below meth c s₁ [] 0 0 := Stand.of_body Bd
  have e0 : s₁.heap = h0 := by rw [← hh, Bd.state]; rfl
  have N0 := Fr.nil n0
  obtain ⟨⟨E_a1, FC_blocks, FC_compoundOf, FC_nextInCompound, FC_previousInCompound, FC_firstBlock, FC_pending, FC_isPending, FC_compoundCount, FC_pendingCount⟩, ⟨E_a2, FB_first, FB_end⟩, ⟨⟨k_co, V_co, l_co⟩, ⟨k_nx, V_nx, l_nx⟩, ⟨k_pv, V_pv, l_pv⟩, ⟨k_fb, V_fb, l_fb⟩, ⟨k_pd, V_pd, l_pd⟩, ⟨k_ip, V_ip, l_ip⟩, ⟨k_fi, V_fi, l_fi⟩, ⟨k_en, V_en, l_en⟩⟩, o0, o1, o2, o3, o4, o5, o6, o7, o8, o9⟩ := B
  refine Rch.body (Q := Q_rmNs Z a1 a2 bco bnx bpv bfb bpd bip bfi ben co nx pv fb pd ip cc pc h0 n0) (U' := s₁.setTop (mkF m 0 #[rv a1] [])) (fun _ k => castTop (ef_rmNs m a1) k) ?_
  refine Rch.go (U' := s₁.setTop (mkF m 1 #[rv a1] [(.ref a1)])) (fun _ k => XS.aloadN X0.here hx rfl (hb hby d72_0) rfl rfl k) ?_
  obtain ⟨T399, X399, e399, st399⟩ := getF X0 hx hZ hown (host := "") (Or.inl (wi hw 44 rfl)) Via.refl e0 FC_pending (g := (mkF m 1 #[rv a1] [(.ref a1)])) rfl rfl (hb hby d72_1)
  refine Rch.go (U' := T399.setTop (mkF m 4 #[rv a1] [(.ref bpd)])) st399 ?_
  refine Rch.go (U' := T399.setTop (mkF m 5 #[rv a1] [(.ref a1), (.ref bpd)])) (fun _ k => XS.aloadN X399.here hx rfl (hb hby d72_4) rfl rfl k) ?_
  obtain ⟨T400, X400, e400, st400⟩ := getF X399 hx hZ hown (host := "") (Or.inl (wi hw 56 rfl)) Via.refl e399 FC_pendingCount (g := (mkF m 5 #[rv a1] [(.ref a1), (.ref bpd)])) rfl rfl (hb hby d72_5)
  refine Rch.go (U' := T400.setTop (mkF m 8 #[rv a1] [(.int pc), (.ref bpd)])) st400 ?_
  refine Rch.go (U' := T400.setTop (mkF m 9 #[rv a1] [(.int (1 : Int32)), (.int pc), (.ref bpd)])) (fun _ k => XS.iconst X400.here hx rfl (hb hby d72_8) k) ?_
  refine Rch.go (U' := T400.setTop (mkF m 10 #[rv a1] [(.int (pc - (1 : Int32))), (.ref bpd)])) (fun _ k => XS.isub X400.here hx rfl (hb hby d72_9) rfl k) ?_
  obtain ⟨cl401, Ar401, qk401, Sz401, Mn401, Hs401, Gf401⟩ := id V_pd
  have ib401 : ¬ ((pc - (1 : Int32)) < 0 ∨ cl401.slots.size ≤ ((pc - (1 : Int32))).toNatClampNeg) := inb_of Sz401 i1
  have ea401 : cl401.slots[((pc - (1 : Int32))).toNatClampNeg]? = some (.int (own_at pd (pc - (1 : Int32)))) := Has.at Hs401 ib401 (own_gx pd (pc - (1 : Int32)))
  refine Rch.go (U' := T400.setTop (mkF m 11 #[rv a1] [(.int (own_at pd (pc - (1 : Int32))))])) (fun _ k => X400.iaload hx (j := (pc - (1 : Int32))) (v := (.int (own_at pd (pc - (1 : Int32))))) (by rw [e400]; exact Ar401.1) (State.isArrayOf_alike hZ.alike Ar401.2.1) Ar401.2.2 ib401 ea401 (g := (mkF m 10 #[rv a1] [(.int (pc - (1 : Int32))), (.ref bpd)])) rfl rfl (hb hby d72_10) _ k) ?_
  refine Rch.fin X400 hlk (v := some (.int (own_at pd (pc - (1 : Int32))))) (fun h => by rw [hret] at h; cases h) e400 (by decide) (by decide) (fun fs hr => retI X400 hx hret (hb hby d72_11) hr) ?_
  exact ⟨rfl, N0, rfl⟩
theorem d77_0 : decode prog_18_method_5_code 0 = .ok (.aload_n 0, 1) := by decide +kernel
theorem d77_1 : decode prog_18_method_5_code 1 = .ok (.getfield 26, 3) := by decide +kernel
theorem d77_4 : decode prog_18_method_5_code 4 = .ok (.aload_n 0, 1) := by decide +kernel
theorem d77_5 : decode prog_18_method_5_code 5 = .ok (.getfield 37, 3) := by decide +kernel
theorem d77_8 : decode prog_18_method_5_code 8 = .ok (.iconst 1, 1) := by decide +kernel
theorem d77_9 : decode prog_18_method_5_code 9 = .ok (.isub, 1) := by decide +kernel
theorem d77_10 : decode prog_18_method_5_code 10 = .ok (.iaload, 1) := by decide +kernel
theorem d77_11 : decode prog_18_method_5_code 11 = .ok (.istore_n 1, 1) := by decide +kernel
theorem d77_12 : decode prog_18_method_5_code 12 = .ok (.aload_n 0, 1) := by decide +kernel
theorem d77_13 : decode prog_18_method_5_code 13 = .ok (.getfield 23, 3) := by decide +kernel
theorem d77_16 : decode prog_18_method_5_code 16 = .ok (.iload_n 1, 1) := by decide +kernel
theorem d77_17 : decode prog_18_method_5_code 17 = .ok (.iaload, 1) := by decide +kernel
theorem d77_18 : decode prog_18_method_5_code 18 = .ok (.istore_n 2, 1) := by decide +kernel
theorem d77_19 : decode prog_18_method_5_code 19 = .ok (.aload_n 0, 1) := by decide +kernel
theorem d77_20 : decode prog_18_method_5_code 20 = .ok (.getfield 17, 3) := by decide +kernel
theorem d77_23 : decode prog_18_method_5_code 23 = .ok (.iload_n 2, 1) := by decide +kernel
theorem d77_24 : decode prog_18_method_5_code 24 = .ok (.iaload, 1) := by decide +kernel
theorem d77_25 : decode prog_18_method_5_code 25 = .ok (.istore_n 3, 1) := by decide +kernel
theorem d77_26 : decode prog_18_method_5_code 26 = .ok (.aload_n 0, 1) := by decide +kernel
theorem d77_27 : decode prog_18_method_5_code 27 = .ok (.getfield 7, 3) := by decide +kernel
theorem d77_30 : decode prog_18_method_5_code 30 = .ok (.iload_n 2, 1) := by decide +kernel
theorem d77_31 : decode prog_18_method_5_code 31 = .ok (.invokevirtual 40, 3) := by decide +kernel
theorem d77_34 : decode prog_18_method_5_code 34 = .ok (.aload_n 0, 1) := by decide +kernel
theorem d77_35 : decode prog_18_method_5_code 35 = .ok (.getfield 7, 3) := by decide +kernel
theorem d77_38 : decode prog_18_method_5_code 38 = .ok (.iload_n 3, 1) := by decide +kernel
theorem d77_39 : decode prog_18_method_5_code 39 = .ok (.invokevirtual 40, 3) := by decide +kernel
theorem d77_42 : decode prog_18_method_5_code 42 = .ok (.if_icmp .gt 7, 3) := by decide +kernel
theorem d77_45 : decode prog_18_method_5_code 45 = .ok (.iload_n 2, 1) := by decide +kernel
theorem d77_46 : decode prog_18_method_5_code 46 = .ok (.goto 4, 3) := by decide +kernel
theorem d77_49 : decode prog_18_method_5_code 49 = .ok (.iload_n 3, 1) := by decide +kernel
theorem d77_50 : decode prog_18_method_5_code 50 = .ok (.istore 4, 2) := by decide +kernel
theorem d77_52 : decode prog_18_method_5_code 52 = .ok (.aload_n 0, 1) := by decide +kernel
theorem d77_53 : decode prog_18_method_5_code 53 = .ok (.iload 4, 2) := by decide +kernel
theorem d77_55 : decode prog_18_method_5_code 55 = .ok (.iload_n 1, 1) := by decide +kernel
theorem d77_56 : decode prog_18_method_5_code 56 = .ok (.invokevirtual 46, 3) := by decide +kernel
theorem d77_59 : decode prog_18_method_5_code 59 = .ok (.aload_n 0, 1) := by decide +kernel
theorem d77_60 : decode prog_18_method_5_code 60 = .ok (.getfield 17, 3) := by decide +kernel
theorem d77_63 : decode prog_18_method_5_code 63 = .ok (.aload_n 0, 1) := by decide +kernel
theorem d77_64 : decode prog_18_method_5_code 64 = .ok (.getfield 23, 3) := by decide +kernel
theorem d77_67 : decode prog_18_method_5_code 67 = .ok (.iload_n 1, 1) := by decide +kernel
theorem d77_68 : decode prog_18_method_5_code 68 = .ok (.iaload, 1) := by decide +kernel
theorem d77_69 : decode prog_18_method_5_code 69 = .ok (.iaload, 1) := by decide +kernel
theorem d77_70 : decode prog_18_method_5_code 70 = .ok (.iconst (-1), 1) := by decide +kernel
theorem d77_71 : decode prog_18_method_5_code 71 = .ok (.if_icmp .ne 20, 3) := by decide +kernel
theorem d77_74 : decode prog_18_method_5_code 74 = .ok (.aload_n 0, 1) := by decide +kernel
theorem d77_75 : decode prog_18_method_5_code 75 = .ok (.dup, 1) := by decide +kernel
theorem d77_76 : decode prog_18_method_5_code 76 = .ok (.getfield 37, 3) := by decide +kernel
theorem d77_79 : decode prog_18_method_5_code 79 = .ok (.iconst 1, 1) := by decide +kernel
theorem d77_80 : decode prog_18_method_5_code 80 = .ok (.isub, 1) := by decide +kernel
theorem d77_81 : decode prog_18_method_5_code 81 = .ok (.putfield 37, 3) := by decide +kernel
theorem d77_84 : decode prog_18_method_5_code 84 = .ok (.aload_n 0, 1) := by decide +kernel
theorem d77_85 : decode prog_18_method_5_code 85 = .ok (.getfield 29, 3) := by decide +kernel
theorem d77_88 : decode prog_18_method_5_code 88 = .ok (.iload_n 1, 1) := by decide +kernel
theorem d77_89 : decode prog_18_method_5_code 89 = .ok (.iconst 0, 1) := by decide +kernel
theorem d77_90 : decode prog_18_method_5_code 90 = .ok (.bastore, 1) := by decide +kernel
theorem d77_91 : decode prog_18_method_5_code 91 = .ok (.aload_n 0, 1) := by decide +kernel
theorem d77_92 : decode prog_18_method_5_code 92 = .ok (.dup, 1) := by decide +kernel
theorem d77_93 : decode prog_18_method_5_code 93 = .ok (.getfield 33, 3) := by decide +kernel
theorem d77_96 : decode prog_18_method_5_code 96 = .ok (.dup_x1, 1) := by decide +kernel
theorem d77_97 : decode prog_18_method_5_code 97 = .ok (.iconst 1, 1) := by decide +kernel
theorem d77_98 : decode prog_18_method_5_code 98 = .ok (.iadd, 1) := by decide +kernel
theorem d77_99 : decode prog_18_method_5_code 99 = .ok (.putfield 33, 3) := by decide +kernel
theorem d77_102 : decode prog_18_method_5_code 102 = .ok (.istore 5, 2) := by decide +kernel
theorem d77_104 : decode prog_18_method_5_code 104 = .ok (.aload_n 0, 1) := by decide +kernel
theorem d77_105 : decode prog_18_method_5_code 105 = .ok (.getfield 13, 3) := by decide +kernel
theorem d77_108 : decode prog_18_method_5_code 108 = .ok (.iload 4, 2) := by decide +kernel
theorem d77_110 : decode prog_18_method_5_code 110 = .ok (.iload 5, 2) := by decide +kernel
theorem d77_112 : decode prog_18_method_5_code 112 = .ok (.iastore, 1) := by decide +kernel
theorem d77_113 : decode prog_18_method_5_code 113 = .ok (.aload_n 0, 1) := by decide +kernel
theorem d77_114 : decode prog_18_method_5_code 114 = .ok (.getfield 23, 3) := by decide +kernel
theorem d77_117 : decode prog_18_method_5_code 117 = .ok (.iload 5, 2) := by decide +kernel
theorem d77_119 : decode prog_18_method_5_code 119 = .ok (.iload 4, 2) := by decide +kernel
theorem d77_121 : decode prog_18_method_5_code 121 = .ok (.iastore, 1) := by decide +kernel
theorem d77_122 : decode prog_18_method_5_code 122 = .ok (.aload_n 0, 1) := by decide +kernel
theorem d77_123 : decode prog_18_method_5_code 123 = .ok (.getfield 17, 3) := by decide +kernel
theorem d77_126 : decode prog_18_method_5_code 126 = .ok (.iload 4, 2) := by decide +kernel
theorem d77_128 : decode prog_18_method_5_code 128 = .ok (.iconst (-1), 1) := by decide +kernel
theorem d77_129 : decode prog_18_method_5_code 129 = .ok (.iastore, 1) := by decide +kernel
theorem d77_130 : decode prog_18_method_5_code 130 = .ok (.aload_n 0, 1) := by decide +kernel
theorem d77_131 : decode prog_18_method_5_code 131 = .ok (.getfield 20, 3) := by decide +kernel
theorem d77_134 : decode prog_18_method_5_code 134 = .ok (.iload 4, 2) := by decide +kernel
theorem d77_136 : decode prog_18_method_5_code 136 = .ok (.iconst (-1), 1) := by decide +kernel
theorem d77_137 : decode prog_18_method_5_code 137 = .ok (.iastore, 1) := by decide +kernel
theorem d77_138 : decode prog_18_method_5_code 138 = .ok (.iload 4, 2) := by decide +kernel
theorem d77_140 : decode prog_18_method_5_code 140 = .ok (.ireturn, 1) := by decide +kernel
theorem pd_7 : parseMethodDescriptor "(I)I" = some ⟨[.int], some .int⟩ := by decide +kernel
theorem pd_8 : parseMethodDescriptor "(II)V" = some ⟨[.int, .int], none⟩ := by decide +kernel
theorem ef_rmT (m : MethodId) (a1 : Addr) : entryFrame m #[(.ref a1)] 6 = mkF m 0 #[rv a1, uv, uv, uv, uv, uv] [] := by first | (simp [entryFrame, mkF, argsToLocals, Value.category]; done) | rfl
def Q_rmT (Z : State) (a1 : Addr) (a2 : Addr) (bco : Addr) (bnx : Addr) (bpv : Addr) (bfb : Addr) (bpd : Addr) (bip : Addr) (bfi : Addr) (ben : Addr) (co : List Int32) (nx : List Int32) (pv : List Int32) (fb : List Int32) (pd : List Int32) (ip : List Int32) (cc : Int32) (pc : Int32) (h0 : Heap) (n0 : Nat) (v : Option Value) (h : Heap) (L : List Loc) : Prop := v = some (.int (own_sp nx fb pd pc)) ∧ Fr n0 L ∧ n0 ≤ h.size ∧ Cbs Z h n0 a1 a2 bco bnx bpv bfb bpd bip bfi ben (own_take co nx pv fb pd ip cc pc)
set_option maxRecDepth 65536 in
set_option maxHeartbeats 40000000 in
theorem rmT (l : Launch) (Z : State) (a0 : Array Value) (hw : ∀ d ∈ tables_1, d.before a0 Z = true) (ws : List Jvm.Cond) (a1 : Addr) (a2 : Addr) (bco : Addr) (bnx : Addr) (bpv : Addr) (bfb : Addr) (bpd : Addr) (bip : Addr) (bfi : Addr) (ben : Addr) (co : List Int32) (nx : List Int32) (pv : List Int32) (fb : List Int32) (pd : List Int32) (ip : List Int32) (cc : Int32) (pc : Int32) (h0 : Heap) (n0 : Nat) (Z0 : n0 ≤ h0.size) (B : Cb Z h0 n0 a1 a2 bco bnx bpv bfb bpd bip bfi ben co nx pv fb pd ip cc pc) (hok : own_tok nx pv fb pd cc pc = true) :
    MetFree l yt (head1 (Jvm.Cond.code yt prog_18_method_5_code 6 (some .int) :: ws) ({ frames := 1, cells := 0, slots := 0, locals := 16 } : Room)) (fun a_ U => a_ = #[(.ref a1)] ∧ Z.Warmed39 U.vm ∧ U.heap = h0) (fun _ _ _ _ _ => True) (fun _ U o U' => ∃ v L, o = .returned v ∧ Q_rmT Z a1 a2 bco bnx bpv bfb bpd bip bfi ben co nx pv fb pd ip cc pc h0 n0 v U'.heap L ∧ FrameEnd U o U' L ({ frames := 1, cells := 0, slots := 0, locals := 16 } : Room).cells ({ frames := 1, cells := 0, slots := 0, locals := 16 } : Room).slots) := by
  refine MetFree.of_bodySF (plainFor_of_name pn_com_example_fixpoints_of_behaviour_fixpointsofbehaviour_bisimulation_CompoundBlocks) hisR ?_
  intro p e s m args below meth c s₁ Bd hml0 hP hK
  obtain ⟨rfl, hZ, hh⟩ := hP
  have hx := Bd.exec
  have hby := Bd.bytes
  have hml : c.maxLocals = 6 := hml0
  have hown : s.vm.findClass cCB = some m.cls := findClass_of_methodNamed Bd.named
  have hnm := (name_of_methodNamed Bd.named Bd.method).1
  have hret := Bd.returns
  have hlk : meth.locks = false := BodyLoose.notSynchronized Bd
  have X0 : Stand p l e ({ frames := 1, cells := 0, slots := 0, locals := 16 } : Room) s m #[(.ref a1)] below meth c s₁ [] 0 0 := Stand.of_body Bd
  have e0 : s₁.heap = h0 := by rw [← hh, Bd.state]; rfl
  have N0 := Fr.nil n0
  obtain ⟨⟨E_a1, FC_blocks, FC_compoundOf, FC_nextInCompound, FC_previousInCompound, FC_firstBlock, FC_pending, FC_isPending, FC_compoundCount, FC_pendingCount⟩, ⟨E_a2, FB_first, FB_end⟩, ⟨⟨k_co, V_co, l_co⟩, ⟨k_nx, V_nx, l_nx⟩, ⟨k_pv, V_pv, l_pv⟩, ⟨k_fb, V_fb, l_fb⟩, ⟨k_pd, V_pd, l_pd⟩, ⟨k_ip, V_ip, l_ip⟩, ⟨k_fi, V_fi, l_fi⟩, ⟨k_en, V_en, l_en⟩⟩, o0, o1, o2, o3, o4, o5, o6, o7, o8, o9⟩ := B
  obtain ⟨i1, i2, i3, i4, i5, i6, i7⟩ := own_tok_e hok
  refine Rch.body (Q := Q_rmT Z a1 a2 bco bnx bpv bfb bpd bip bfi ben co nx pv fb pd ip cc pc h0 n0) (U' := s₁.setTop (mkF m 0 #[rv a1, uv, uv, uv, uv, uv] [])) (fun _ k => castTop (ef_rmT m a1) k) ?_
  refine Rch.go (U' := s₁.setTop (mkF m 1 #[rv a1, uv, uv, uv, uv, uv] [(.ref a1)])) (fun _ k => XS.aloadN X0.here hx rfl (hb hby d77_0) rfl rfl k) ?_
  obtain ⟨T402, X402, e402, st402⟩ := getF X0 hx hZ hown (host := "") (Or.inl (wi hw 44 rfl)) Via.refl e0 FC_pending (g := (mkF m 1 #[rv a1, uv, uv, uv, uv, uv] [(.ref a1)])) rfl rfl (hb hby d77_1)
  refine Rch.go (U' := T402.setTop (mkF m 4 #[rv a1, uv, uv, uv, uv, uv] [(.ref bpd)])) st402 ?_
  refine Rch.go (U' := T402.setTop (mkF m 5 #[rv a1, uv, uv, uv, uv, uv] [(.ref a1), (.ref bpd)])) (fun _ k => XS.aloadN X402.here hx rfl (hb hby d77_4) rfl rfl k) ?_
  obtain ⟨T403, X403, e403, st403⟩ := getF X402 hx hZ hown (host := "") (Or.inl (wi hw 56 rfl)) Via.refl e402 FC_pendingCount (g := (mkF m 5 #[rv a1, uv, uv, uv, uv, uv] [(.ref a1), (.ref bpd)])) rfl rfl (hb hby d77_5)
  refine Rch.go (U' := T403.setTop (mkF m 8 #[rv a1, uv, uv, uv, uv, uv] [(.int pc), (.ref bpd)])) st403 ?_
  refine Rch.go (U' := T403.setTop (mkF m 9 #[rv a1, uv, uv, uv, uv, uv] [(.int (1 : Int32)), (.int pc), (.ref bpd)])) (fun _ k => XS.iconst X403.here hx rfl (hb hby d77_8) k) ?_
  refine Rch.go (U' := T403.setTop (mkF m 10 #[rv a1, uv, uv, uv, uv, uv] [(.int (pc - (1 : Int32))), (.ref bpd)])) (fun _ k => XS.isub X403.here hx rfl (hb hby d77_9) rfl k) ?_
  obtain ⟨cl404, Ar404, qk404, Sz404, Mn404, Hs404, Gf404⟩ := id V_pd
  have ib404 : ¬ ((pc - (1 : Int32)) < 0 ∨ cl404.slots.size ≤ ((pc - (1 : Int32))).toNatClampNeg) := inb_of Sz404 i1
  have ea404 : cl404.slots[((pc - (1 : Int32))).toNatClampNeg]? = some (.int (own_at pd (pc - (1 : Int32)))) := Has.at Hs404 ib404 (own_gx pd (pc - (1 : Int32)))
  refine Rch.go (U' := T403.setTop (mkF m 11 #[rv a1, uv, uv, uv, uv, uv] [(.int (own_at pd (pc - (1 : Int32))))])) (fun _ k => X403.iaload hx (j := (pc - (1 : Int32))) (v := (.int (own_at pd (pc - (1 : Int32))))) (by rw [e403]; exact Ar404.1) (State.isArrayOf_alike hZ.alike Ar404.2.1) Ar404.2.2 ib404 ea404 (g := (mkF m 10 #[rv a1, uv, uv, uv, uv, uv] [(.int (pc - (1 : Int32))), (.ref bpd)])) rfl rfl (hb hby d77_10) _ k) ?_
  generalize hq1 : (own_at pd (pc - (1 : Int32))) = q1
  refine Rch.go (U' := T403.setTop (mkF m 12 #[rv a1, iv q1, uv, uv, uv, uv] [])) (fun _ k => XS.istoreN X403.here hx rfl (hb hby d77_11) rfl (l' := #[rv a1, iv q1, uv, uv, uv, uv]) rfl k) ?_
  rw [hq1] at i2 i3 i4 i5 i6
  refine Rch.go (U' := T403.setTop (mkF m 13 #[rv a1, iv q1, uv, uv, uv, uv] [(.ref a1)])) (fun _ k => XS.aloadN X403.here hx rfl (hb hby d77_12) rfl rfl k) ?_
  obtain ⟨T405, X405, e405, st405⟩ := getF X403 hx hZ hown (host := "") (Or.inl (wi hw 42 rfl)) Via.refl e403 FC_firstBlock (g := (mkF m 13 #[rv a1, iv q1, uv, uv, uv, uv] [(.ref a1)])) rfl rfl (hb hby d77_13)
  refine Rch.go (U' := T405.setTop (mkF m 16 #[rv a1, iv q1, uv, uv, uv, uv] [(.ref bfb)])) st405 ?_
  refine Rch.go (U' := T405.setTop (mkF m 17 #[rv a1, iv q1, uv, uv, uv, uv] [(.int q1), (.ref bfb)])) (fun _ k => XS.iloadN X405.here hx rfl (hb hby d77_16) rfl  k) ?_
  obtain ⟨cl406, Ar406, qk406, Sz406, Mn406, Hs406, Gf406⟩ := id V_fb
  have ib406 : ¬ (q1 < 0 ∨ cl406.slots.size ≤ (q1).toNatClampNeg) := inb_of Sz406 (hq1 ▸ i2)
  have ea406 : cl406.slots[(q1).toNatClampNeg]? = some (.int (own_at fb q1)) := Has.at Hs406 ib406 (own_gx fb q1)
  refine Rch.go (U' := T405.setTop (mkF m 18 #[rv a1, iv q1, uv, uv, uv, uv] [(.int (own_at fb q1))])) (fun _ k => X405.iaload hx (j := q1) (v := (.int (own_at fb q1))) (by rw [e405]; exact Ar406.1) (State.isArrayOf_alike hZ.alike Ar406.2.1) Ar406.2.2 ib406 ea406 (g := (mkF m 17 #[rv a1, iv q1, uv, uv, uv, uv] [(.int q1), (.ref bfb)])) rfl rfl (hb hby d77_17) _ k) ?_
  generalize hq2 : (own_at fb q1) = q2
  refine Rch.go (U' := T405.setTop (mkF m 19 #[rv a1, iv q1, iv q2, uv, uv, uv] [])) (fun _ k => XS.istoreN X405.here hx rfl (hb hby d77_18) rfl (l' := #[rv a1, iv q1, iv q2, uv, uv, uv]) rfl k) ?_
  rw [hq2] at i3 i4
  refine Rch.go (U' := T405.setTop (mkF m 20 #[rv a1, iv q1, iv q2, uv, uv, uv] [(.ref a1)])) (fun _ k => XS.aloadN X405.here hx rfl (hb hby d77_19) rfl rfl k) ?_
  obtain ⟨T407, X407, e407, st407⟩ := getF X405 hx hZ hown (host := "") (Or.inl (wi hw 38 rfl)) Via.refl e405 FC_nextInCompound (g := (mkF m 20 #[rv a1, iv q1, iv q2, uv, uv, uv] [(.ref a1)])) rfl rfl (hb hby d77_20)
  refine Rch.go (U' := T407.setTop (mkF m 23 #[rv a1, iv q1, iv q2, uv, uv, uv] [(.ref bnx)])) st407 ?_
  refine Rch.go (U' := T407.setTop (mkF m 24 #[rv a1, iv q1, iv q2, uv, uv, uv] [(.int q2), (.ref bnx)])) (fun _ k => XS.iloadN X407.here hx rfl (hb hby d77_23) rfl  k) ?_
  obtain ⟨cl408, Ar408, qk408, Sz408, Mn408, Hs408, Gf408⟩ := id V_nx
  have ib408 : ¬ (q2 < 0 ∨ cl408.slots.size ≤ (q2).toNatClampNeg) := inb_of Sz408 i3
  have ea408 : cl408.slots[(q2).toNatClampNeg]? = some (.int (own_at nx q2)) := Has.at Hs408 ib408 (own_gx nx q2)
  refine Rch.go (U' := T407.setTop (mkF m 25 #[rv a1, iv q1, iv q2, uv, uv, uv] [(.int (own_at nx q2))])) (fun _ k => X407.iaload hx (j := q2) (v := (.int (own_at nx q2))) (by rw [e407]; exact Ar408.1) (State.isArrayOf_alike hZ.alike Ar408.2.1) Ar408.2.2 ib408 ea408 (g := (mkF m 24 #[rv a1, iv q1, iv q2, uv, uv, uv] [(.int q2), (.ref bnx)])) rfl rfl (hb hby d77_24) _ k) ?_
  generalize hq3 : (own_at nx q2) = q3
  refine Rch.go (U' := T407.setTop (mkF m 26 #[rv a1, iv q1, iv q2, iv q3, uv, uv] [])) (fun _ k => XS.istoreN X407.here hx rfl (hb hby d77_25) rfl (l' := #[rv a1, iv q1, iv q2, iv q3, uv, uv]) rfl k) ?_
  rw [hq3] at i4
  refine Rch.go (U' := T407.setTop (mkF m 27 #[rv a1, iv q1, iv q2, iv q3, uv, uv] [(.ref a1)])) (fun _ k => XS.aloadN X407.here hx rfl (hb hby d77_26) rfl rfl k) ?_
  obtain ⟨T409, X409, e409, st409⟩ := getF X407 hx hZ hown (host := "") (Or.inl (wi hw 34 rfl)) Via.refl e407 FC_blocks (g := (mkF m 27 #[rv a1, iv q1, iv q2, iv q3, uv, uv] [(.ref a1)])) rfl rfl (hb hby d77_27)
  refine Rch.go (U' := T409.setTop (mkF m 30 #[rv a1, iv q1, iv q2, iv q3, uv, uv] [(.ref a2)])) st409 ?_
  refine Rch.go (U' := T409.setTop (mkF m 31 #[rv a1, iv q1, iv q2, iv q3, uv, uv] [(.int q2), (.ref a2)])) (fun _ k => XS.iloadN X409.here hx rfl (hb hby d77_30) rfl  k) ?_
  obtain ⟨cq410, kq410, q410a, q410b, q410c⟩ := isOf hZ e409 E_a2
  obtain ⟨_, _, ⟨T410, L410, k410, n410⟩, -, X410, ⟨Lc410, hQ410, l410, y410, z410⟩, st410⟩ := X409.virtualBack hx (y := yz) (z := yz) hown (mvT hZ (wi hw 78 rfl)) (mvT hZ (wi hw 79 rfl)) (notFace_of_selects (args := #[]) (mvT hZ (wi hw 81 rfl))) (mvT hZ (wi hw 81 rfl)) (mvT hZ (wi hw 80 rfl)) (by decide) (backOf (W := 0) (rmZ l Z a0 hw [] a1 a2 bco bnx bpv bfb bpd bip bfi ben co nx pv fb pd ip cc pc q2 h0 n0 Z0 ⟨⟨E_a1, FC_blocks, FC_compoundOf, FC_nextInCompound, FC_previousInCompound, FC_firstBlock, FC_pending, FC_isPending, FC_compoundCount, FC_pendingCount⟩, ⟨E_a2, FB_first, FB_end⟩, ⟨⟨_, V_co, l_co⟩, ⟨_, V_nx, l_nx⟩, ⟨_, V_pv, l_pv⟩, ⟨_, V_fb, l_fb⟩, ⟨_, V_pd, l_pd⟩, ⟨_, V_ip, l_ip⟩, ⟨_, V_fi, l_fi⟩, ⟨_, V_en, l_en⟩⟩, o0, o1, o2, o3, o4, o5, o6, o7, o8, o9⟩ i3) hZ (wi hw 82 rfl) (wi hw 3 rfl) (by decide) (by decide)) q410a q410c (g := (mkF m 31 #[rv a1, iv q1, iv q2, iv q3, uv, uv] [(.int q2), (.ref a2)])) rfl (by rw [hml]; rfl) (Steps.refl _) (argsL := [(.int q2)]) (rest := []) (lenOf pd_7 rfl) rfl (by show 2 * 0 + _ ≤ _; exact Nat.le_of_eq rfl) (hb hby d77_31) (fun _ _ => ⟨rfl, e409, (by decide : 0 + 0 ≤ _), (by decide : 0 + 0 ≤ _)⟩)
  dsimp only [Pt.U, Pt.locs, Pt.cells, Pt.slots] at X410 l410 y410 z410 st410 hQ410
  subst l410 y410 z410
  obtain ⟨rfl, N410q, e410⟩ := hQ410
  have N410 := Fr.app N0 N410q
  refine Rch.to (U' := T410.setTop (mkF m 34 #[rv a1, iv q1, iv q2, iv q3, uv, uv] [(.int (own_sz q2))])) st410 ?_
  refine Rch.go (U' := T410.setTop (mkF m 35 #[rv a1, iv q1, iv q2, iv q3, uv, uv] [(.ref a1), (.int (own_sz q2))])) (fun _ k => XS.aloadN X410.here hx rfl (hb hby d77_34) rfl rfl k) ?_
  obtain ⟨T411, X411, e411, st411⟩ := getF X410 hx hZ hown (host := "") (Or.inl (wi hw 34 rfl)) Via.refl e410 FC_blocks (g := (mkF m 35 #[rv a1, iv q1, iv q2, iv q3, uv, uv] [(.ref a1), (.int (own_sz q2))])) rfl rfl (hb hby d77_35)
  refine Rch.go (U' := T411.setTop (mkF m 38 #[rv a1, iv q1, iv q2, iv q3, uv, uv] [(.ref a2), (.int (own_sz q2))])) st411 ?_
  refine Rch.go (U' := T411.setTop (mkF m 39 #[rv a1, iv q1, iv q2, iv q3, uv, uv] [(.int q3), (.ref a2), (.int (own_sz q2))])) (fun _ k => XS.iloadN X411.here hx rfl (hb hby d77_38) rfl  k) ?_
  obtain ⟨cq412, kq412, q412a, q412b, q412c⟩ := isOf hZ e411 E_a2
  obtain ⟨_, _, ⟨T412, L412, k412, n412⟩, -, X412, ⟨Lc412, hQ412, l412, y412, z412⟩, st412⟩ := X411.virtualBack hx (y := yz) (z := yz) hown (mvT hZ (wi hw 78 rfl)) (mvT hZ (wi hw 79 rfl)) (notFace_of_selects (args := #[]) (mvT hZ (wi hw 81 rfl))) (mvT hZ (wi hw 81 rfl)) (mvT hZ (wi hw 80 rfl)) (by decide) (backOf (W := 1) (rmZ l Z a0 hw [] a1 a2 bco bnx bpv bfb bpd bip bfi ben co nx pv fb pd ip cc pc q3 h0 n0 Z0 ⟨⟨E_a1, FC_blocks, FC_compoundOf, FC_nextInCompound, FC_previousInCompound, FC_firstBlock, FC_pending, FC_isPending, FC_compoundCount, FC_pendingCount⟩, ⟨E_a2, FB_first, FB_end⟩, ⟨⟨_, V_co, l_co⟩, ⟨_, V_nx, l_nx⟩, ⟨_, V_pv, l_pv⟩, ⟨_, V_fb, l_fb⟩, ⟨_, V_pd, l_pd⟩, ⟨_, V_ip, l_ip⟩, ⟨_, V_fi, l_fi⟩, ⟨_, V_en, l_en⟩⟩, o0, o1, o2, o3, o4, o5, o6, o7, o8, o9⟩ i4) hZ (wi hw 82 rfl) (wi hw 3 rfl) (by decide) (by decide)) q412a q412c (g := (mkF m 39 #[rv a1, iv q1, iv q2, iv q3, uv, uv] [(.int q3), (.ref a2), (.int (own_sz q2))])) rfl (by rw [hml]; rfl) (Steps.refl _) (argsL := [(.int q3)]) (rest := [(.int (own_sz q2))]) (lenOf pd_7 rfl) rfl (by show 2 * 0 + _ ≤ _; exact Nat.le_of_eq rfl) (hb hby d77_39) (fun _ _ => ⟨rfl, e411, (by decide : 0 + 0 ≤ _), (by decide : 0 + 0 ≤ _)⟩)
  dsimp only [Pt.U, Pt.locs, Pt.cells, Pt.slots] at X412 l412 y412 z412 st412 hQ412
  subst l412 y412 z412
  obtain ⟨rfl, N412q, e412⟩ := hQ412
  have N412 := Fr.app N410 N412q
  refine Rch.to (U' := T412.setTop (mkF m 42 #[rv a1, iv q1, iv q2, iv q3, uv, uv] [(.int (own_sz q3)), (.int (own_sz q2))])) st412 ?_
  by_cases br413 : (own_sz q3) < (own_sz q2)
  ·
    refine Rch.go (U' := T412.setTop (mkF m 49 #[rv a1, iv q1, iv q2, iv q3, uv, uv] [])) (fun _ k => XS.icmpYes X412.here hx rfl (pc0 := 42) (pc' := 49) rfl (hb hby d77_42) rfl (XT.ii_gt_t br413) (by decide) (by decide) k) ?_
    refine Rch.go (U' := T412.setTop (mkF m 50 #[rv a1, iv q1, iv q2, iv q3, uv, uv] [(.int q3)])) (fun _ k => XS.iloadN X412.here hx rfl (hb hby d77_49) rfl  k) ?_
    refine Rch.go (U' := T412.setTop (mkF m 52 #[rv a1, iv q1, iv q2, iv q3, iv q3, uv] [])) (fun _ k => XS.istore X412.here hx rfl (hb hby d77_50) rfl (l' := #[rv a1, iv q1, iv q2, iv q3, iv q3, uv]) rfl k) ?_
    have hsp : own_sp nx fb pd pc = q3 := by simp only [own_sp, hq1, hq2, hq3, br413, ↓reduceIte]
    rw [hsp] at i5 i6
    refine Rch.go (U' := T412.setTop (mkF m 53 #[rv a1, iv q1, iv q2, iv q3, iv q3, uv] [(.ref a1)])) (fun _ k => XS.aloadN X412.here hx rfl (hb hby d77_52) rfl rfl k) ?_
    refine Rch.go (U' := T412.setTop (mkF m 55 #[rv a1, iv q1, iv q2, iv q3, iv q3, uv] [(.int q3), (.ref a1)])) (fun _ k => XS.iload X412.here hx rfl (hb hby d77_53) rfl  k) ?_
    refine Rch.go (U' := T412.setTop (mkF m 56 #[rv a1, iv q1, iv q2, iv q3, iv q3, uv] [(.int q1), (.int q3), (.ref a1)])) (fun _ k => XS.iloadN X412.here hx rfl (hb hby d77_55) rfl  k) ?_
    obtain ⟨cq414, q414, q414'⟩ := E_a1.cell
    obtain ⟨_, _, ⟨T414, L414, k414, n414⟩, -, X414, ⟨Lc414, hQ414, l414, y414, z414⟩, st414⟩ := X412.privateBack hx (y := yl) hown (mvT hZ (wi hw 83 rfl)) (mvT hZ (wi hw 84 rfl)) (own_selp (by decide) (mvT hZ (wi hw 28 rfl)) (mvP hZ (wi hw 85 rfl)) (mvT hZ (wi hw 84 rfl))) (Cond.privateMethod_at (mvP hZ (wi hw 85 rfl) (args := #[]))) (mvT hZ (wi hw 86 rfl)) (by decide) (backOf (W := 0) (rmL l Z a0 hw [] a1 a2 bco bnx bpv bfb bpd bip bfi ben co nx pv fb pd ip cc pc q3 q1 h0 n0 Z0 ⟨⟨E_a1, FC_blocks, FC_compoundOf, FC_nextInCompound, FC_previousInCompound, FC_firstBlock, FC_pending, FC_isPending, FC_compoundCount, FC_pendingCount⟩, ⟨E_a2, FB_first, FB_end⟩, ⟨⟨_, V_co, l_co⟩, ⟨_, V_nx, l_nx⟩, ⟨_, V_pv, l_pv⟩, ⟨_, V_fb, l_fb⟩, ⟨_, V_pd, l_pd⟩, ⟨_, V_ip, l_ip⟩, ⟨_, V_fi, l_fi⟩, ⟨_, V_en, l_en⟩⟩, o0, o1, o2, o3, o4, o5, o6, o7, o8, o9⟩ i5) hZ (wi hw 86 rfl) (wi hw 29 rfl) (by decide) (by decide)) (g := (mkF m 56 #[rv a1, iv q1, iv q2, iv q3, iv q3, uv] [(.int q1), (.int q3), (.ref a1)])) rfl (by rw [hml]; rfl) (Steps.refl _) (a := a1) (by rw [e412]; exact q414) q414' (argsL := [(.int q3), (.int q1)]) (rest := []) (lenOf pd_8 rfl) rfl (by show 2 * 0 + _ ≤ _; exact Nat.le_of_eq rfl) (hb hby d77_56) (fun _ _ => ⟨rfl, e412, (by decide : 0 + 0 ≤ _), (by decide : 0 + 0 ≤ _)⟩)
    dsimp only [Pt.U, Pt.locs, Pt.cells, Pt.slots] at X414 l414 y414 z414 st414 hQ414
    subst l414 y414 z414
    obtain ⟨rfl, N414q, K414q, nx1, pv1, fb1, hlv, ⟨k414_nx, V414_nx, l414_nx⟩, ⟨k414_pv, V414_pv, l414_pv⟩, ⟨k414_fb, V414_fb, l414_fb⟩⟩ := hQ414
    have N414 := Fr.app N412 N414q
    have z415 := Nat.le_trans Z0 K414q.1
    have f416 := E_a1.keep K414q
    have f417 := E_a2.keep K414q
    have f418 := FC_blocks.keep K414q (ninS (nN (nT o4 o5)) (ninS (nN (nT o4 (nT o5 o6))) (ninS (nN (nT o4 (nT o5 (nT o6 o7)))) nin0)))
    have f419 := FC_compoundOf.keep K414q (ninS (nN (nT o4 o5)) (ninS (nN (nT o4 (nT o5 o6))) (ninS (nN (nT o4 (nT o5 (nT o6 o7)))) nin0)))
    have f420 := FC_nextInCompound.keep K414q (ninS (nN (nT o4 o5)) (ninS (nN (nT o4 (nT o5 o6))) (ninS (nN (nT o4 (nT o5 (nT o6 o7)))) nin0)))
    have f421 := FC_previousInCompound.keep K414q (ninS (nN (nT o4 o5)) (ninS (nN (nT o4 (nT o5 o6))) (ninS (nN (nT o4 (nT o5 (nT o6 o7)))) nin0)))
    have f422 := FC_firstBlock.keep K414q (ninS (nN (nT o4 o5)) (ninS (nN (nT o4 (nT o5 o6))) (ninS (nN (nT o4 (nT o5 (nT o6 o7)))) nin0)))
    have f423 := FC_pending.keep K414q (ninS (nN (nT o4 o5)) (ninS (nN (nT o4 (nT o5 o6))) (ninS (nN (nT o4 (nT o5 (nT o6 o7)))) nin0)))
    have f424 := FC_isPending.keep K414q (ninS (nN (nT o4 o5)) (ninS (nN (nT o4 (nT o5 o6))) (ninS (nN (nT o4 (nT o5 (nT o6 o7)))) nin0)))
    have f425 := FC_compoundCount.keep K414q (ninS (nN (nT o4 o5)) (ninS (nN (nT o4 (nT o5 o6))) (ninS (nN (nT o4 (nT o5 (nT o6 o7)))) nin0)))
    have f426 := FC_pendingCount.keep K414q (ninS (nN (nT o4 o5)) (ninS (nN (nT o4 (nT o5 o6))) (ninS (nN (nT o4 (nT o5 (nT o6 o7)))) nin0)))
    have f427 := FB_first.keep K414q (ninS (nN (nT o1 (nT o2 (nT o3 (nT o4 o5))))) (ninS (nN (nT o1 (nT o2 (nT o3 (nT o4 (nT o5 o6)))))) (ninS (nN (nT o1 (nT o2 (nT o3 (nT o4 (nT o5 (nT o6 o7))))))) nin0)))
    have f428 := FB_end.keep K414q (ninS (nN (nT o1 (nT o2 (nT o3 (nT o4 o5))))) (ninS (nN (nT o1 (nT o2 (nT o3 (nT o4 (nT o5 o6)))))) (ninS (nN (nT o1 (nT o2 (nT o3 (nT o4 (nT o5 (nT o6 o7))))))) nin0)))
    have f429 := V_co.keep K414q (ninS (nN o5) (ninS (nN (nT o5 o6)) (ninS (nN (nT o5 (nT o6 o7))) nin0)))
    have f430 := V_pd.keep K414q (ninS (nM (nT o6 (nT o7 o8))) (ninS (nM (nT o7 o8)) (ninS (nM o8) nin0)))
    have f431 := V_ip.keep K414q (ninS (nM (nT o6 (nT o7 (nT o8 o9)))) (ninS (nM (nT o7 (nT o8 o9))) (ninS (nM (nT o8 o9)) nin0)))
    have f432 := V_fi.keep K414q (ninS (nN (nT o2 (nT o3 (nT o4 o5)))) (ninS (nN (nT o2 (nT o3 (nT o4 (nT o5 o6))))) (ninS (nN (nT o2 (nT o3 (nT o4 (nT o5 (nT o6 o7)))))) nin0)))
    have f433 := V_en.keep K414q (ninS (nN (nT o3 (nT o4 o5))) (ninS (nN (nT o3 (nT o4 (nT o5 o6)))) (ninS (nN (nT o3 (nT o4 (nT o5 (nT o6 o7))))) nin0)))
    refine Rch.to (U' := T414.setTop (mkF m 59 #[rv a1, iv q1, iv q2, iv q3, iv q3, uv] [])) st414 ?_
    rw [hlv] at i6
    refine Rch.go (U' := T414.setTop (mkF m 60 #[rv a1, iv q1, iv q2, iv q3, iv q3, uv] [(.ref a1)])) (fun _ k => XS.aloadN X414.here hx rfl (hb hby d77_59) rfl rfl k) ?_
    obtain ⟨T434, X434, e434, st434⟩ := getF X414 hx hZ hown (host := "") (Or.inl (wi hw 38 rfl)) Via.refl rfl f420 (g := (mkF m 60 #[rv a1, iv q1, iv q2, iv q3, iv q3, uv] [(.ref a1)])) rfl rfl (hb hby d77_60)
    refine Rch.go (U' := T434.setTop (mkF m 63 #[rv a1, iv q1, iv q2, iv q3, iv q3, uv] [(.ref bnx)])) st434 ?_
    refine Rch.go (U' := T434.setTop (mkF m 64 #[rv a1, iv q1, iv q2, iv q3, iv q3, uv] [(.ref a1), (.ref bnx)])) (fun _ k => XS.aloadN X434.here hx rfl (hb hby d77_63) rfl rfl k) ?_
    obtain ⟨T435, X435, e435, st435⟩ := getF X434 hx hZ hown (host := "") (Or.inl (wi hw 42 rfl)) Via.refl e434 f422 (g := (mkF m 64 #[rv a1, iv q1, iv q2, iv q3, iv q3, uv] [(.ref a1), (.ref bnx)])) rfl rfl (hb hby d77_64)
    refine Rch.go (U' := T435.setTop (mkF m 67 #[rv a1, iv q1, iv q2, iv q3, iv q3, uv] [(.ref bfb), (.ref bnx)])) st435 ?_
    refine Rch.go (U' := T435.setTop (mkF m 68 #[rv a1, iv q1, iv q2, iv q3, iv q3, uv] [(.int q1), (.ref bfb), (.ref bnx)])) (fun _ k => XS.iloadN X435.here hx rfl (hb hby d77_67) rfl  k) ?_
    obtain ⟨cl436, Ar436, qk436, Sz436, Mn436, Hs436, Gf436⟩ := id V414_fb
    have ib436 : ¬ (q1 < 0 ∨ cl436.slots.size ≤ (q1).toNatClampNeg) := inb_of Sz436 (hq1 ▸ i2)
    have ea436 : cl436.slots[(q1).toNatClampNeg]? = some (.int (own_at fb1 q1)) := Has.at Hs436 ib436 (own_gx fb1 q1)
    refine Rch.go (U' := T435.setTop (mkF m 69 #[rv a1, iv q1, iv q2, iv q3, iv q3, uv] [(.int (own_at fb1 q1)), (.ref bnx)])) (fun _ k => X435.iaload hx (j := q1) (v := (.int (own_at fb1 q1))) (by rw [e435]; exact Ar436.1) (State.isArrayOf_alike hZ.alike Ar436.2.1) Ar436.2.2 ib436 ea436 (g := (mkF m 68 #[rv a1, iv q1, iv q2, iv q3, iv q3, uv] [(.int q1), (.ref bfb), (.ref bnx)])) rfl rfl (hb hby d77_68) _ k) ?_
    obtain ⟨cl437, Ar437, qk437, Sz437, Mn437, Hs437, Gf437⟩ := id V414_nx
    have ib437 : ¬ ((own_at fb1 q1) < 0 ∨ cl437.slots.size ≤ ((own_at fb1 q1)).toNatClampNeg) := inb_of Sz437 i6
    have ea437 : cl437.slots[((own_at fb1 q1)).toNatClampNeg]? = some (.int (own_at nx1 (own_at fb1 q1))) := Has.at Hs437 ib437 (own_gx nx1 (own_at fb1 q1))
    refine Rch.go (U' := T435.setTop (mkF m 70 #[rv a1, iv q1, iv q2, iv q3, iv q3, uv] [(.int (own_at nx1 (own_at fb1 q1)))])) (fun _ k => X435.iaload hx (j := (own_at fb1 q1)) (v := (.int (own_at nx1 (own_at fb1 q1)))) (by rw [e435]; exact Ar437.1) (State.isArrayOf_alike hZ.alike Ar437.2.1) Ar437.2.2 ib437 ea437 (g := (mkF m 69 #[rv a1, iv q1, iv q2, iv q3, iv q3, uv] [(.int (own_at fb1 q1)), (.ref bnx)])) rfl rfl (hb hby d77_69) _ k) ?_
    refine Rch.go (U' := T435.setTop (mkF m 71 #[rv a1, iv q1, iv q2, iv q3, iv q3, uv] [(.int (-1 : Int32)), (.int (own_at nx1 (own_at fb1 q1)))])) (fun _ k => XS.iconst X435.here hx rfl (hb hby d77_70) k) ?_
    by_cases br438 : (own_at nx1 (own_at fb1 q1)) = (-1 : Int32)
    ·
      refine Rch.go (U' := T435.setTop (mkF m 74 #[rv a1, iv q1, iv q2, iv q3, iv q3, uv] [])) (fun _ k => XS.icmpNo X435.here hx rfl (hb hby d77_71) rfl (XT.ii_ne_f br438) k) ?_
      refine Rch.go (U' := T435.setTop (mkF m 75 #[rv a1, iv q1, iv q2, iv q3, iv q3, uv] [(.ref a1)])) (fun _ k => XS.aloadN X435.here hx rfl (hb hby d77_74) rfl rfl k) ?_
      refine Rch.go (U' := T435.setTop (mkF m 76 #[rv a1, iv q1, iv q2, iv q3, iv q3, uv] [(.ref a1), (.ref a1)])) (fun _ k => XS.dup X435.here hx rfl (hb hby d77_75) rfl rfl k) ?_
      obtain ⟨T439, X439, e439, st439⟩ := getF X435 hx hZ hown (host := "") (Or.inl (wi hw 56 rfl)) Via.refl e435 f426 (g := (mkF m 76 #[rv a1, iv q1, iv q2, iv q3, iv q3, uv] [(.ref a1), (.ref a1)])) rfl rfl (hb hby d77_76)
      refine Rch.go (U' := T439.setTop (mkF m 79 #[rv a1, iv q1, iv q2, iv q3, iv q3, uv] [(.int pc), (.ref a1)])) st439 ?_
      refine Rch.go (U' := T439.setTop (mkF m 80 #[rv a1, iv q1, iv q2, iv q3, iv q3, uv] [(.int (1 : Int32)), (.int pc), (.ref a1)])) (fun _ k => XS.iconst X439.here hx rfl (hb hby d77_79) k) ?_
      refine Rch.go (U' := T439.setTop (mkF m 81 #[rv a1, iv q1, iv q2, iv q3, iv q3, uv] [(.int (pc - (1 : Int32))), (.ref a1)])) (fun _ k => XS.isub X439.here hx rfl (hb hby d77_80) rfl k) ?_
      obtain ⟨T440, h440, X440, e440, W440, st440⟩ := putF X439 hx hZ hown (host := "") (Or.inl (wi hw 56 rfl)) Via.refl e439 f426 f416 (Or.inl (wi hw 57 rfl)) (wi hw 28 rfl) (ty := .int) (by decide) rfl rfl (g := (mkF m 81 #[rv a1, iv q1, iv q2, iv q3, iv q3, uv] [(.int (pc - (1 : Int32))), (.ref a1)])) rfl rfl (hb hby d77_81)
      have F440 := f426.same W440
      have f441 := f416.wr W440
      have f442 := f417.wr W440
      have f443 := f418.other W440 (Or.inr (slot_ne (Or.inr (wi hw 35 rfl)) (Or.inl (wi hw 57 rfl)) (by decide) (t := (.object cBL)) (t' := .int) (by decide) (by decide)))
      have f444 := f419.other W440 (Or.inr (slot_ne (Or.inr (wi hw 37 rfl)) (Or.inl (wi hw 57 rfl)) (by decide) (t := (.array .int)) (t' := .int) (by decide) (by decide)))
      have f445 := f420.other W440 (Or.inr (slot_ne (Or.inr (wi hw 39 rfl)) (Or.inl (wi hw 57 rfl)) (by decide) (t := (.array .int)) (t' := .int) (by decide) (by decide)))
      have f446 := f421.other W440 (Or.inr (slot_ne (Or.inr (wi hw 41 rfl)) (Or.inl (wi hw 57 rfl)) (by decide) (t := (.array .int)) (t' := .int) (by decide) (by decide)))
      have f447 := f422.other W440 (Or.inr (slot_ne (Or.inr (wi hw 43 rfl)) (Or.inl (wi hw 57 rfl)) (by decide) (t := (.array .int)) (t' := .int) (by decide) (by decide)))
      have f448 := f423.other W440 (Or.inr (slot_ne (Or.inr (wi hw 45 rfl)) (Or.inl (wi hw 57 rfl)) (by decide) (t := (.array .int)) (t' := .int) (by decide) (by decide)))
      have f449 := f424.other W440 (Or.inr (slot_ne (Or.inr (wi hw 48 rfl)) (Or.inl (wi hw 57 rfl)) (by decide) (t := (.array .boolean)) (t' := .int) (by decide) (by decide)))
      have f450 := f425.other W440 (Or.inr (slot_ne (Or.inl (wi hw 50 rfl)) (Or.inl (wi hw 57 rfl)) (by decide) (t := .int) (t' := .int) (by decide) (by decide)))
      have f451 := f427.other W440 (Or.inl (nN (nT o1 (nT o2 o3))))
      have f452 := f428.other W440 (Or.inl (nN (nT o1 (nT o2 o3))))
      have f453 := f429.other W440 (nM o4)
      have f454 := f430.other W440 (nM (nT o4 (nT o5 (nT o6 (nT o7 o8)))))
      have f455 := f431.other W440 (nM (nT o4 (nT o5 (nT o6 (nT o7 (nT o8 o9))))))
      have f456 := f432.other W440 (nN (nT o2 o3))
      have f457 := f433.other W440 (nN o3)
      have f458 := V414_nx.other W440 (nM (nT o4 o5))
      have f459 := V414_pv.other W440 (nM (nT o4 (nT o5 o6)))
      have f460 := V414_fb.other W440 (nM (nT o4 (nT o5 (nT o6 o7))))
      have N440 := Fr.snoc X440 N414 (nG o0 (nT o1 (nT o2 o3)))
      have z461 := Nat.le_trans z415 (Keep.of_wr W440).1
      refine Rch.go (U' := T440.setTop (mkF m 84 #[rv a1, iv q1, iv q2, iv q3, iv q3, uv] [])) st440 ?_
      refine Rch.go (U' := T440.setTop (mkF m 85 #[rv a1, iv q1, iv q2, iv q3, iv q3, uv] [(.ref a1)])) (fun _ k => XS.aloadN X440.here hx rfl (hb hby d77_84) rfl rfl k) ?_
      obtain ⟨T462, X462, e462, st462⟩ := getF X440 hx hZ hown (host := "") (Or.inl (wi hw 47 rfl)) Via.refl e440 f449 (g := (mkF m 85 #[rv a1, iv q1, iv q2, iv q3, iv q3, uv] [(.ref a1)])) rfl rfl (hb hby d77_85)
      refine Rch.go (U' := T462.setTop (mkF m 88 #[rv a1, iv q1, iv q2, iv q3, iv q3, uv] [(.ref bip)])) st462 ?_
      refine Rch.go (U' := T462.setTop (mkF m 89 #[rv a1, iv q1, iv q2, iv q3, iv q3, uv] [(.int q1), (.ref bip)])) (fun _ k => XS.iloadN X462.here hx rfl (hb hby d77_88) rfl  k) ?_
      refine Rch.go (U' := T462.setTop (mkF m 90 #[rv a1, iv q1, iv q2, iv q3, iv q3, uv] [(.int (0 : Int32)), (.int q1), (.ref bip)])) (fun _ k => XS.iconst X462.here hx rfl (hb hby d77_89) k) ?_
      obtain ⟨cl463, Ar463, qk463, Sz463, Mn463, Hs463, Gf463⟩ := id f455
      have ib463 : ¬ (q1 < 0 ∨ cl463.slots.size ≤ (q1).toNatClampNeg) := inb_of Sz463 (hq1 ▸ i2)
      obtain ⟨T463, h463, X463, e463, W463, st463⟩ := stZ X462 hx hZ e462 Ar463 (j := q1) ib463 (g := (mkF m 90 #[rv a1, iv q1, iv q2, iv q3, iv q3, uv] [(.int (0 : Int32)), (.int q1), (.ref bip)])) rfl rfl (hb hby d77_90)
      have V463 : Arv Z h463 bip k_ip .boolean (4 : Int32) ((own_st ip q1 (0 : Int32)).map Value.int) (.int (0 : Int32)) := own_sx (Arv.set Ar463 qk463 Sz463 Mn463 Hs463 Gf463 (fits_nar_bool _) W463 _ rfl (own_ln (hq1 ▸ i2) l_ip))
      have f464 := f441.wr W463
      have f465 := f442.wr W463
      have f466 := f443.other W463 (Or.inl (nN (nT o4 (nT o5 (nT o6 (nT o7 (nT o8 o9)))))))
      have f467 := f444.other W463 (Or.inl (nN (nT o4 (nT o5 (nT o6 (nT o7 (nT o8 o9)))))))
      have f468 := f445.other W463 (Or.inl (nN (nT o4 (nT o5 (nT o6 (nT o7 (nT o8 o9)))))))
      have f469 := f446.other W463 (Or.inl (nN (nT o4 (nT o5 (nT o6 (nT o7 (nT o8 o9)))))))
      have f470 := f447.other W463 (Or.inl (nN (nT o4 (nT o5 (nT o6 (nT o7 (nT o8 o9)))))))
      have f471 := f448.other W463 (Or.inl (nN (nT o4 (nT o5 (nT o6 (nT o7 (nT o8 o9)))))))
      have f472 := f449.other W463 (Or.inl (nN (nT o4 (nT o5 (nT o6 (nT o7 (nT o8 o9)))))))
      have f473 := f450.other W463 (Or.inl (nN (nT o4 (nT o5 (nT o6 (nT o7 (nT o8 o9)))))))
      have f474 := F440.other W463 (Or.inl (nN (nT o4 (nT o5 (nT o6 (nT o7 (nT o8 o9)))))))
      have f475 := f451.other W463 (Or.inl (nN (nT o1 (nT o2 (nT o3 (nT o4 (nT o5 (nT o6 (nT o7 (nT o8 o9))))))))))
      have f476 := f452.other W463 (Or.inl (nN (nT o1 (nT o2 (nT o3 (nT o4 (nT o5 (nT o6 (nT o7 (nT o8 o9))))))))))
      have f477 := f453.other W463 (nN (nT o5 (nT o6 (nT o7 (nT o8 o9)))))
      have f478 := f454.other W463 (nN o9)
      have f479 := f456.other W463 (nN (nT o2 (nT o3 (nT o4 (nT o5 (nT o6 (nT o7 (nT o8 o9))))))))
      have f480 := f457.other W463 (nN (nT o3 (nT o4 (nT o5 (nT o6 (nT o7 (nT o8 o9)))))))
      have f481 := f458.other W463 (nN (nT o6 (nT o7 (nT o8 o9))))
      have f482 := f459.other W463 (nN (nT o7 (nT o8 o9)))
      have f483 := f460.other W463 (nN (nT o8 o9))
      have N463 := Fr.snoc X463 N440 (nG o0 (nT o1 (nT o2 (nT o3 (nT o4 (nT o5 (nT o6 (nT o7 (nT o8 o9)))))))))
      have z484 := Nat.le_trans z461 (Keep.of_wr W463).1
      refine Rch.go (U' := T463.setTop (mkF m 91 #[rv a1, iv q1, iv q2, iv q3, iv q3, uv] [])) st463 ?_
      refine Rch.go (U' := T463.setTop (mkF m 92 #[rv a1, iv q1, iv q2, iv q3, iv q3, uv] [(.ref a1)])) (fun _ k => XS.aloadN X463.here hx rfl (hb hby d77_91) rfl rfl k) ?_
      refine Rch.go (U' := T463.setTop (mkF m 93 #[rv a1, iv q1, iv q2, iv q3, iv q3, uv] [(.ref a1), (.ref a1)])) (fun _ k => XS.dup X463.here hx rfl (hb hby d77_92) rfl rfl k) ?_
      obtain ⟨T485, X485, e485, st485⟩ := getF X463 hx hZ hown (host := "") (Or.inl (wi hw 49 rfl)) Via.refl e463 f473 (g := (mkF m 93 #[rv a1, iv q1, iv q2, iv q3, iv q3, uv] [(.ref a1), (.ref a1)])) rfl rfl (hb hby d77_93)
      refine Rch.go (U' := T485.setTop (mkF m 96 #[rv a1, iv q1, iv q2, iv q3, iv q3, uv] [(.int cc), (.ref a1)])) st485 ?_
      refine Rch.go (U' := T485.setTop (mkF m 97 #[rv a1, iv q1, iv q2, iv q3, iv q3, uv] [(.int cc), (.ref a1), (.int cc)])) (fun _ k => XS.dupX1 X485.here hx rfl (hb hby d77_96) rfl rfl rfl k) ?_
      refine Rch.go (U' := T485.setTop (mkF m 98 #[rv a1, iv q1, iv q2, iv q3, iv q3, uv] [(.int (1 : Int32)), (.int cc), (.ref a1), (.int cc)])) (fun _ k => XS.iconst X485.here hx rfl (hb hby d77_97) k) ?_
      refine Rch.go (U' := T485.setTop (mkF m 99 #[rv a1, iv q1, iv q2, iv q3, iv q3, uv] [(.int (cc + (1 : Int32))), (.ref a1), (.int cc)])) (fun _ k => XS.iadd X485.here hx rfl (hb hby d77_98) rfl k) ?_
      obtain ⟨T486, h486, X486, e486, W486, st486⟩ := putF X485 hx hZ hown (host := "") (Or.inl (wi hw 49 rfl)) Via.refl e485 f473 f464 (Or.inl (wi hw 50 rfl)) (wi hw 28 rfl) (ty := .int) (by decide) rfl rfl (g := (mkF m 99 #[rv a1, iv q1, iv q2, iv q3, iv q3, uv] [(.int (cc + (1 : Int32))), (.ref a1), (.int cc)])) rfl rfl (hb hby d77_99)
      have F486 := f473.same W486
      have f487 := f464.wr W486
      have f488 := f465.wr W486
      have f489 := f466.other W486 (Or.inr (slot_ne (Or.inr (wi hw 35 rfl)) (Or.inl (wi hw 50 rfl)) (by decide) (t := (.object cBL)) (t' := .int) (by decide) (by decide)))
      have f490 := f467.other W486 (Or.inr (slot_ne (Or.inr (wi hw 37 rfl)) (Or.inl (wi hw 50 rfl)) (by decide) (t := (.array .int)) (t' := .int) (by decide) (by decide)))
      have f491 := f468.other W486 (Or.inr (slot_ne (Or.inr (wi hw 39 rfl)) (Or.inl (wi hw 50 rfl)) (by decide) (t := (.array .int)) (t' := .int) (by decide) (by decide)))
      have f492 := f469.other W486 (Or.inr (slot_ne (Or.inr (wi hw 41 rfl)) (Or.inl (wi hw 50 rfl)) (by decide) (t := (.array .int)) (t' := .int) (by decide) (by decide)))
      have f493 := f470.other W486 (Or.inr (slot_ne (Or.inr (wi hw 43 rfl)) (Or.inl (wi hw 50 rfl)) (by decide) (t := (.array .int)) (t' := .int) (by decide) (by decide)))
      have f494 := f471.other W486 (Or.inr (slot_ne (Or.inr (wi hw 45 rfl)) (Or.inl (wi hw 50 rfl)) (by decide) (t := (.array .int)) (t' := .int) (by decide) (by decide)))
      have f495 := f472.other W486 (Or.inr (slot_ne (Or.inr (wi hw 48 rfl)) (Or.inl (wi hw 50 rfl)) (by decide) (t := (.array .boolean)) (t' := .int) (by decide) (by decide)))
      have f496 := f474.other W486 (Or.inr (slot_ne (Or.inl (wi hw 57 rfl)) (Or.inl (wi hw 50 rfl)) (by decide) (t := .int) (t' := .int) (by decide) (by decide)))
      have f497 := f475.other W486 (Or.inl (nN (nT o1 (nT o2 o3))))
      have f498 := f476.other W486 (Or.inl (nN (nT o1 (nT o2 o3))))
      have f499 := f477.other W486 (nM o4)
      have f500 := f478.other W486 (nM (nT o4 (nT o5 (nT o6 (nT o7 o8)))))
      have f501 := V463.other W486 (nM (nT o4 (nT o5 (nT o6 (nT o7 (nT o8 o9))))))
      have f502 := f479.other W486 (nN (nT o2 o3))
      have f503 := f480.other W486 (nN o3)
      have f504 := f481.other W486 (nM (nT o4 o5))
      have f505 := f482.other W486 (nM (nT o4 (nT o5 o6)))
      have f506 := f483.other W486 (nM (nT o4 (nT o5 (nT o6 o7))))
      have N486 := Fr.snoc X486 N463 (nG o0 (nT o1 (nT o2 o3)))
      have z507 := Nat.le_trans z484 (Keep.of_wr W486).1
      refine Rch.go (U' := T486.setTop (mkF m 102 #[rv a1, iv q1, iv q2, iv q3, iv q3, uv] [(.int cc)])) st486 ?_
      refine Rch.go (U' := T486.setTop (mkF m 104 #[rv a1, iv q1, iv q2, iv q3, iv q3, iv cc] [])) (fun _ k => XS.istore X486.here hx rfl (hb hby d77_102) rfl (l' := #[rv a1, iv q1, iv q2, iv q3, iv q3, iv cc]) rfl k) ?_
      refine Rch.go (U' := T486.setTop (mkF m 105 #[rv a1, iv q1, iv q2, iv q3, iv q3, iv cc] [(.ref a1)])) (fun _ k => XS.aloadN X486.here hx rfl (hb hby d77_104) rfl rfl k) ?_
      obtain ⟨T508, X508, e508, st508⟩ := getF X486 hx hZ hown (host := "") (Or.inl (wi hw 36 rfl)) Via.refl e486 f490 (g := (mkF m 105 #[rv a1, iv q1, iv q2, iv q3, iv q3, iv cc] [(.ref a1)])) rfl rfl (hb hby d77_105)
      refine Rch.go (U' := T508.setTop (mkF m 108 #[rv a1, iv q1, iv q2, iv q3, iv q3, iv cc] [(.ref bco)])) st508 ?_
      refine Rch.go (U' := T508.setTop (mkF m 110 #[rv a1, iv q1, iv q2, iv q3, iv q3, iv cc] [(.int q3), (.ref bco)])) (fun _ k => XS.iload X508.here hx rfl (hb hby d77_108) rfl  k) ?_
      refine Rch.go (U' := T508.setTop (mkF m 112 #[rv a1, iv q1, iv q2, iv q3, iv q3, iv cc] [(.int cc), (.int q3), (.ref bco)])) (fun _ k => XS.iload X508.here hx rfl (hb hby d77_110) rfl  k) ?_
      obtain ⟨cl509, Ar509, qk509, Sz509, Mn509, Hs509, Gf509⟩ := id f499
      have ib509 : ¬ (q3 < 0 ∨ cl509.slots.size ≤ (q3).toNatClampNeg) := inb_of Sz509 i4
      obtain ⟨T509, h509, X509, e509, W509, st509⟩ := stI X508 hx hZ e508 Ar509 (j := q3) ib509 (g := (mkF m 112 #[rv a1, iv q1, iv q2, iv q3, iv q3, iv cc] [(.int cc), (.int q3), (.ref bco)])) rfl rfl (hb hby d77_112)
      have V509 : Arv Z h509 bco k_co .int (4 : Int32) ((own_st co q3 cc).map Value.int) (.int (0 : Int32)) := own_sx (Arv.set Ar509 qk509 Sz509 Mn509 Hs509 Gf509 rfl W509 _ rfl (own_ln i4 l_co))
      have f510 := f487.wr W509
      have f511 := f488.wr W509
      have f512 := f489.other W509 (Or.inl (nN o4))
      have f513 := f490.other W509 (Or.inl (nN o4))
      have f514 := f491.other W509 (Or.inl (nN o4))
      have f515 := f492.other W509 (Or.inl (nN o4))
      have f516 := f493.other W509 (Or.inl (nN o4))
      have f517 := f494.other W509 (Or.inl (nN o4))
      have f518 := f495.other W509 (Or.inl (nN o4))
      have f519 := F486.other W509 (Or.inl (nN o4))
      have f520 := f496.other W509 (Or.inl (nN o4))
      have f521 := f497.other W509 (Or.inl (nN (nT o1 (nT o2 (nT o3 o4)))))
      have f522 := f498.other W509 (Or.inl (nN (nT o1 (nT o2 (nT o3 o4)))))
      have f523 := f500.other W509 (nM (nT o5 (nT o6 (nT o7 o8))))
      have f524 := f501.other W509 (nM (nT o5 (nT o6 (nT o7 (nT o8 o9)))))
      have f525 := f502.other W509 (nN (nT o2 (nT o3 o4)))
      have f526 := f503.other W509 (nN (nT o3 o4))
      have f527 := f504.other W509 (nM o5)
      have f528 := f505.other W509 (nM (nT o5 o6))
      have f529 := f506.other W509 (nM (nT o5 (nT o6 o7)))
      have N509 := Fr.snoc X509 N486 (nG o0 (nT o1 (nT o2 (nT o3 o4))))
      have z530 := Nat.le_trans z507 (Keep.of_wr W509).1
      refine Rch.go (U' := T509.setTop (mkF m 113 #[rv a1, iv q1, iv q2, iv q3, iv q3, iv cc] [])) st509 ?_
      refine Rch.go (U' := T509.setTop (mkF m 114 #[rv a1, iv q1, iv q2, iv q3, iv q3, iv cc] [(.ref a1)])) (fun _ k => XS.aloadN X509.here hx rfl (hb hby d77_113) rfl rfl k) ?_
      obtain ⟨T531, X531, e531, st531⟩ := getF X509 hx hZ hown (host := "") (Or.inl (wi hw 42 rfl)) Via.refl e509 f516 (g := (mkF m 114 #[rv a1, iv q1, iv q2, iv q3, iv q3, iv cc] [(.ref a1)])) rfl rfl (hb hby d77_114)
      refine Rch.go (U' := T531.setTop (mkF m 117 #[rv a1, iv q1, iv q2, iv q3, iv q3, iv cc] [(.ref bfb)])) st531 ?_
      refine Rch.go (U' := T531.setTop (mkF m 119 #[rv a1, iv q1, iv q2, iv q3, iv q3, iv cc] [(.int cc), (.ref bfb)])) (fun _ k => XS.iload X531.here hx rfl (hb hby d77_117) rfl  k) ?_
      refine Rch.go (U' := T531.setTop (mkF m 121 #[rv a1, iv q1, iv q2, iv q3, iv q3, iv cc] [(.int q3), (.int cc), (.ref bfb)])) (fun _ k => XS.iload X531.here hx rfl (hb hby d77_119) rfl  k) ?_
      obtain ⟨cl532, Ar532, qk532, Sz532, Mn532, Hs532, Gf532⟩ := id f529
      have ib532 : ¬ (cc < 0 ∨ cl532.slots.size ≤ (cc).toNatClampNeg) := inb_of Sz532 i7
      obtain ⟨T532, h532, X532, e532, W532, st532⟩ := stI X531 hx hZ e531 Ar532 (j := cc) ib532 (g := (mkF m 121 #[rv a1, iv q1, iv q2, iv q3, iv q3, iv cc] [(.int q3), (.int cc), (.ref bfb)])) rfl rfl (hb hby d77_121)
      have V532 : Arv Z h532 bfb k414_fb .int (4 : Int32) ((own_st fb1 cc q3).map Value.int) (.int (0 : Int32)) := own_sx (Arv.set Ar532 qk532 Sz532 Mn532 Hs532 Gf532 rfl W532 _ rfl (own_ln i7 l414_fb))
      have f533 := f510.wr W532
      have f534 := f511.wr W532
      have f535 := f512.other W532 (Or.inl (nN (nT o4 (nT o5 (nT o6 o7)))))
      have f536 := f513.other W532 (Or.inl (nN (nT o4 (nT o5 (nT o6 o7)))))
      have f537 := f514.other W532 (Or.inl (nN (nT o4 (nT o5 (nT o6 o7)))))
      have f538 := f515.other W532 (Or.inl (nN (nT o4 (nT o5 (nT o6 o7)))))
      have f539 := f516.other W532 (Or.inl (nN (nT o4 (nT o5 (nT o6 o7)))))
      have f540 := f517.other W532 (Or.inl (nN (nT o4 (nT o5 (nT o6 o7)))))
      have f541 := f518.other W532 (Or.inl (nN (nT o4 (nT o5 (nT o6 o7)))))
      have f542 := f519.other W532 (Or.inl (nN (nT o4 (nT o5 (nT o6 o7)))))
      have f543 := f520.other W532 (Or.inl (nN (nT o4 (nT o5 (nT o6 o7)))))
      have f544 := f521.other W532 (Or.inl (nN (nT o1 (nT o2 (nT o3 (nT o4 (nT o5 (nT o6 o7))))))))
      have f545 := f522.other W532 (Or.inl (nN (nT o1 (nT o2 (nT o3 (nT o4 (nT o5 (nT o6 o7))))))))
      have f546 := V509.other W532 (nN (nT o5 (nT o6 o7)))
      have f547 := f523.other W532 (nM o8)
      have f548 := f524.other W532 (nM (nT o8 o9))
      have f549 := f525.other W532 (nN (nT o2 (nT o3 (nT o4 (nT o5 (nT o6 o7))))))
      have f550 := f526.other W532 (nN (nT o3 (nT o4 (nT o5 (nT o6 o7)))))
      have f551 := f527.other W532 (nN (nT o6 o7))
      have f552 := f528.other W532 (nN o7)
      have N532 := Fr.snoc X532 N509 (nG o0 (nT o1 (nT o2 (nT o3 (nT o4 (nT o5 (nT o6 o7)))))))
      have z553 := Nat.le_trans z530 (Keep.of_wr W532).1
      refine Rch.go (U' := T532.setTop (mkF m 122 #[rv a1, iv q1, iv q2, iv q3, iv q3, iv cc] [])) st532 ?_
      refine Rch.go (U' := T532.setTop (mkF m 123 #[rv a1, iv q1, iv q2, iv q3, iv q3, iv cc] [(.ref a1)])) (fun _ k => XS.aloadN X532.here hx rfl (hb hby d77_122) rfl rfl k) ?_
      obtain ⟨T554, X554, e554, st554⟩ := getF X532 hx hZ hown (host := "") (Or.inl (wi hw 38 rfl)) Via.refl e532 f537 (g := (mkF m 123 #[rv a1, iv q1, iv q2, iv q3, iv q3, iv cc] [(.ref a1)])) rfl rfl (hb hby d77_123)
      refine Rch.go (U' := T554.setTop (mkF m 126 #[rv a1, iv q1, iv q2, iv q3, iv q3, iv cc] [(.ref bnx)])) st554 ?_
      refine Rch.go (U' := T554.setTop (mkF m 128 #[rv a1, iv q1, iv q2, iv q3, iv q3, iv cc] [(.int q3), (.ref bnx)])) (fun _ k => XS.iload X554.here hx rfl (hb hby d77_126) rfl  k) ?_
      refine Rch.go (U' := T554.setTop (mkF m 129 #[rv a1, iv q1, iv q2, iv q3, iv q3, iv cc] [(.int (-1 : Int32)), (.int q3), (.ref bnx)])) (fun _ k => XS.iconst X554.here hx rfl (hb hby d77_128) k) ?_
      obtain ⟨cl555, Ar555, qk555, Sz555, Mn555, Hs555, Gf555⟩ := id f551
      have ib555 : ¬ (q3 < 0 ∨ cl555.slots.size ≤ (q3).toNatClampNeg) := inb_of Sz555 i4
      obtain ⟨T555, h555, X555, e555, W555, st555⟩ := stI X554 hx hZ e554 Ar555 (j := q3) ib555 (g := (mkF m 129 #[rv a1, iv q1, iv q2, iv q3, iv q3, iv cc] [(.int (-1 : Int32)), (.int q3), (.ref bnx)])) rfl rfl (hb hby d77_129)
      have V555 : Arv Z h555 bnx k414_nx .int (4 : Int32) ((own_st nx1 q3 (-1 : Int32)).map Value.int) (.int (0 : Int32)) := own_sx (Arv.set Ar555 qk555 Sz555 Mn555 Hs555 Gf555 rfl W555 _ rfl (own_ln i4 l414_nx))
      have f556 := f533.wr W555
      have f557 := f534.wr W555
      have f558 := f535.other W555 (Or.inl (nN (nT o4 o5)))
      have f559 := f536.other W555 (Or.inl (nN (nT o4 o5)))
      have f560 := f537.other W555 (Or.inl (nN (nT o4 o5)))
      have f561 := f538.other W555 (Or.inl (nN (nT o4 o5)))
      have f562 := f539.other W555 (Or.inl (nN (nT o4 o5)))
      have f563 := f540.other W555 (Or.inl (nN (nT o4 o5)))
      have f564 := f541.other W555 (Or.inl (nN (nT o4 o5)))
      have f565 := f542.other W555 (Or.inl (nN (nT o4 o5)))
      have f566 := f543.other W555 (Or.inl (nN (nT o4 o5)))
      have f567 := f544.other W555 (Or.inl (nN (nT o1 (nT o2 (nT o3 (nT o4 o5))))))
      have f568 := f545.other W555 (Or.inl (nN (nT o1 (nT o2 (nT o3 (nT o4 o5))))))
      have f569 := f546.other W555 (nN o5)
      have f570 := f547.other W555 (nM (nT o6 (nT o7 o8)))
      have f571 := f548.other W555 (nM (nT o6 (nT o7 (nT o8 o9))))
      have f572 := f549.other W555 (nN (nT o2 (nT o3 (nT o4 o5))))
      have f573 := f550.other W555 (nN (nT o3 (nT o4 o5)))
      have f574 := f552.other W555 (nM o6)
      have f575 := V532.other W555 (nM (nT o6 o7))
      have N555 := Fr.snoc X555 N532 (nG o0 (nT o1 (nT o2 (nT o3 (nT o4 o5)))))
      have z576 := Nat.le_trans z553 (Keep.of_wr W555).1
      refine Rch.go (U' := T555.setTop (mkF m 130 #[rv a1, iv q1, iv q2, iv q3, iv q3, iv cc] [])) st555 ?_
      refine Rch.go (U' := T555.setTop (mkF m 131 #[rv a1, iv q1, iv q2, iv q3, iv q3, iv cc] [(.ref a1)])) (fun _ k => XS.aloadN X555.here hx rfl (hb hby d77_130) rfl rfl k) ?_
      obtain ⟨T577, X577, e577, st577⟩ := getF X555 hx hZ hown (host := "") (Or.inl (wi hw 40 rfl)) Via.refl e555 f561 (g := (mkF m 131 #[rv a1, iv q1, iv q2, iv q3, iv q3, iv cc] [(.ref a1)])) rfl rfl (hb hby d77_131)
      refine Rch.go (U' := T577.setTop (mkF m 134 #[rv a1, iv q1, iv q2, iv q3, iv q3, iv cc] [(.ref bpv)])) st577 ?_
      refine Rch.go (U' := T577.setTop (mkF m 136 #[rv a1, iv q1, iv q2, iv q3, iv q3, iv cc] [(.int q3), (.ref bpv)])) (fun _ k => XS.iload X577.here hx rfl (hb hby d77_134) rfl  k) ?_
      refine Rch.go (U' := T577.setTop (mkF m 137 #[rv a1, iv q1, iv q2, iv q3, iv q3, iv cc] [(.int (-1 : Int32)), (.int q3), (.ref bpv)])) (fun _ k => XS.iconst X577.here hx rfl (hb hby d77_136) k) ?_
      obtain ⟨cl578, Ar578, qk578, Sz578, Mn578, Hs578, Gf578⟩ := id f574
      have ib578 : ¬ (q3 < 0 ∨ cl578.slots.size ≤ (q3).toNatClampNeg) := inb_of Sz578 i4
      obtain ⟨T578, h578, X578, e578, W578, st578⟩ := stI X577 hx hZ e577 Ar578 (j := q3) ib578 (g := (mkF m 137 #[rv a1, iv q1, iv q2, iv q3, iv q3, iv cc] [(.int (-1 : Int32)), (.int q3), (.ref bpv)])) rfl rfl (hb hby d77_137)
      have V578 : Arv Z h578 bpv k414_pv .int (4 : Int32) ((own_st pv1 q3 (-1 : Int32)).map Value.int) (.int (0 : Int32)) := own_sx (Arv.set Ar578 qk578 Sz578 Mn578 Hs578 Gf578 rfl W578 _ rfl (own_ln i4 l414_pv))
      have f579 := f556.wr W578
      have f580 := f557.wr W578
      have f581 := f558.other W578 (Or.inl (nN (nT o4 (nT o5 o6))))
      have f582 := f559.other W578 (Or.inl (nN (nT o4 (nT o5 o6))))
      have f583 := f560.other W578 (Or.inl (nN (nT o4 (nT o5 o6))))
      have f584 := f561.other W578 (Or.inl (nN (nT o4 (nT o5 o6))))
      have f585 := f562.other W578 (Or.inl (nN (nT o4 (nT o5 o6))))
      have f586 := f563.other W578 (Or.inl (nN (nT o4 (nT o5 o6))))
      have f587 := f564.other W578 (Or.inl (nN (nT o4 (nT o5 o6))))
      have f588 := f565.other W578 (Or.inl (nN (nT o4 (nT o5 o6))))
      have f589 := f566.other W578 (Or.inl (nN (nT o4 (nT o5 o6))))
      have f590 := f567.other W578 (Or.inl (nN (nT o1 (nT o2 (nT o3 (nT o4 (nT o5 o6)))))))
      have f591 := f568.other W578 (Or.inl (nN (nT o1 (nT o2 (nT o3 (nT o4 (nT o5 o6)))))))
      have f592 := f569.other W578 (nN (nT o5 o6))
      have f593 := f570.other W578 (nM (nT o7 o8))
      have f594 := f571.other W578 (nM (nT o7 (nT o8 o9)))
      have f595 := f572.other W578 (nN (nT o2 (nT o3 (nT o4 (nT o5 o6)))))
      have f596 := f573.other W578 (nN (nT o3 (nT o4 (nT o5 o6))))
      have f597 := V555.other W578 (nN o6)
      have f598 := f575.other W578 (nM o7)
      have N578 := Fr.snoc X578 N555 (nG o0 (nT o1 (nT o2 (nT o3 (nT o4 (nT o5 o6))))))
      have z599 := Nat.le_trans z576 (Keep.of_wr W578).1
      refine Rch.go (U' := T578.setTop (mkF m 138 #[rv a1, iv q1, iv q2, iv q3, iv q3, iv cc] [])) st578 ?_
      refine Rch.go (U' := T578.setTop (mkF m 140 #[rv a1, iv q1, iv q2, iv q3, iv q3, iv cc] [(.int q3)])) (fun _ k => XS.iload X578.here hx rfl (hb hby d77_138) rfl  k) ?_
      refine Rch.fin X578 hlk (v := some (.int q3)) (fun h => by rw [hret] at h; cases h) e578 (by decide) (by decide) (fun fs hr => retI X578 hx hret (hb hby d77_140) hr) ?_
      have e : own_take co nx pv fb pd ip cc pc = ((own_st co q3 cc), (own_st nx1 q3 (-1 : Int32)), (own_st pv1 q3 (-1 : Int32)), (own_st fb1 cc q3), pd, (own_st ip q1 (0 : Int32)), (cc + (1 : Int32)), (pc - (1 : Int32))) := by simp only [own_take, own_tk, hsp, hq1, hlv, br438, ↓reduceIte]
      refine ⟨by rw [hsp], N578, z599, ?_⟩
      rw [e]
      exact ⟨⟨f579, f581, f582, f583, f584, f585, f586, f587, f588, f589⟩, ⟨f580, f590, f591⟩, ⟨⟨_, f592, (own_ls l_co)⟩, ⟨_, f597, (own_ls l414_nx)⟩, ⟨_, V578, (own_ls l414_pv)⟩, ⟨_, f598, (own_ls l414_fb)⟩, ⟨_, f593, l_pd⟩, ⟨_, f594, (own_ls l_ip)⟩, ⟨_, f595, l_fi⟩, ⟨_, f596, l_en⟩⟩, o0, o1, o2, o3, o4, o5, o6, o7, o8, o9⟩
    ·
      refine Rch.go (U' := T435.setTop (mkF m 91 #[rv a1, iv q1, iv q2, iv q3, iv q3, uv] [])) (fun _ k => XS.icmpYes X435.here hx rfl (pc0 := 71) (pc' := 91) rfl (hb hby d77_71) rfl (XT.ii_ne_t br438) (by decide) (by decide) k) ?_
      refine Rch.go (U' := T435.setTop (mkF m 92 #[rv a1, iv q1, iv q2, iv q3, iv q3, uv] [(.ref a1)])) (fun _ k => XS.aloadN X435.here hx rfl (hb hby d77_91) rfl rfl k) ?_
      refine Rch.go (U' := T435.setTop (mkF m 93 #[rv a1, iv q1, iv q2, iv q3, iv q3, uv] [(.ref a1), (.ref a1)])) (fun _ k => XS.dup X435.here hx rfl (hb hby d77_92) rfl rfl k) ?_
      obtain ⟨T600, X600, e600, st600⟩ := getF X435 hx hZ hown (host := "") (Or.inl (wi hw 49 rfl)) Via.refl e435 f425 (g := (mkF m 93 #[rv a1, iv q1, iv q2, iv q3, iv q3, uv] [(.ref a1), (.ref a1)])) rfl rfl (hb hby d77_93)
      refine Rch.go (U' := T600.setTop (mkF m 96 #[rv a1, iv q1, iv q2, iv q3, iv q3, uv] [(.int cc), (.ref a1)])) st600 ?_
      refine Rch.go (U' := T600.setTop (mkF m 97 #[rv a1, iv q1, iv q2, iv q3, iv q3, uv] [(.int cc), (.ref a1), (.int cc)])) (fun _ k => XS.dupX1 X600.here hx rfl (hb hby d77_96) rfl rfl rfl k) ?_
      refine Rch.go (U' := T600.setTop (mkF m 98 #[rv a1, iv q1, iv q2, iv q3, iv q3, uv] [(.int (1 : Int32)), (.int cc), (.ref a1), (.int cc)])) (fun _ k => XS.iconst X600.here hx rfl (hb hby d77_97) k) ?_
      refine Rch.go (U' := T600.setTop (mkF m 99 #[rv a1, iv q1, iv q2, iv q3, iv q3, uv] [(.int (cc + (1 : Int32))), (.ref a1), (.int cc)])) (fun _ k => XS.iadd X600.here hx rfl (hb hby d77_98) rfl k) ?_
      obtain ⟨T601, h601, X601, e601, W601, st601⟩ := putF X600 hx hZ hown (host := "") (Or.inl (wi hw 49 rfl)) Via.refl e600 f425 f416 (Or.inl (wi hw 50 rfl)) (wi hw 28 rfl) (ty := .int) (by decide) rfl rfl (g := (mkF m 99 #[rv a1, iv q1, iv q2, iv q3, iv q3, uv] [(.int (cc + (1 : Int32))), (.ref a1), (.int cc)])) rfl rfl (hb hby d77_99)
      have F601 := f425.same W601
      have f602 := f416.wr W601
      have f603 := f417.wr W601
      have f604 := f418.other W601 (Or.inr (slot_ne (Or.inr (wi hw 35 rfl)) (Or.inl (wi hw 50 rfl)) (by decide) (t := (.object cBL)) (t' := .int) (by decide) (by decide)))
      have f605 := f419.other W601 (Or.inr (slot_ne (Or.inr (wi hw 37 rfl)) (Or.inl (wi hw 50 rfl)) (by decide) (t := (.array .int)) (t' := .int) (by decide) (by decide)))
      have f606 := f420.other W601 (Or.inr (slot_ne (Or.inr (wi hw 39 rfl)) (Or.inl (wi hw 50 rfl)) (by decide) (t := (.array .int)) (t' := .int) (by decide) (by decide)))
      have f607 := f421.other W601 (Or.inr (slot_ne (Or.inr (wi hw 41 rfl)) (Or.inl (wi hw 50 rfl)) (by decide) (t := (.array .int)) (t' := .int) (by decide) (by decide)))
      have f608 := f422.other W601 (Or.inr (slot_ne (Or.inr (wi hw 43 rfl)) (Or.inl (wi hw 50 rfl)) (by decide) (t := (.array .int)) (t' := .int) (by decide) (by decide)))
      have f609 := f423.other W601 (Or.inr (slot_ne (Or.inr (wi hw 45 rfl)) (Or.inl (wi hw 50 rfl)) (by decide) (t := (.array .int)) (t' := .int) (by decide) (by decide)))
      have f610 := f424.other W601 (Or.inr (slot_ne (Or.inr (wi hw 48 rfl)) (Or.inl (wi hw 50 rfl)) (by decide) (t := (.array .boolean)) (t' := .int) (by decide) (by decide)))
      have f611 := f426.other W601 (Or.inr (slot_ne (Or.inl (wi hw 57 rfl)) (Or.inl (wi hw 50 rfl)) (by decide) (t := .int) (t' := .int) (by decide) (by decide)))
      have f612 := f427.other W601 (Or.inl (nN (nT o1 (nT o2 o3))))
      have f613 := f428.other W601 (Or.inl (nN (nT o1 (nT o2 o3))))
      have f614 := f429.other W601 (nM o4)
      have f615 := f430.other W601 (nM (nT o4 (nT o5 (nT o6 (nT o7 o8)))))
      have f616 := f431.other W601 (nM (nT o4 (nT o5 (nT o6 (nT o7 (nT o8 o9))))))
      have f617 := f432.other W601 (nN (nT o2 o3))
      have f618 := f433.other W601 (nN o3)
      have f619 := V414_nx.other W601 (nM (nT o4 o5))
      have f620 := V414_pv.other W601 (nM (nT o4 (nT o5 o6)))
      have f621 := V414_fb.other W601 (nM (nT o4 (nT o5 (nT o6 o7))))
      have N601 := Fr.snoc X601 N414 (nG o0 (nT o1 (nT o2 o3)))
      have z622 := Nat.le_trans z415 (Keep.of_wr W601).1
      refine Rch.go (U' := T601.setTop (mkF m 102 #[rv a1, iv q1, iv q2, iv q3, iv q3, uv] [(.int cc)])) st601 ?_
      refine Rch.go (U' := T601.setTop (mkF m 104 #[rv a1, iv q1, iv q2, iv q3, iv q3, iv cc] [])) (fun _ k => XS.istore X601.here hx rfl (hb hby d77_102) rfl (l' := #[rv a1, iv q1, iv q2, iv q3, iv q3, iv cc]) rfl k) ?_
      refine Rch.go (U' := T601.setTop (mkF m 105 #[rv a1, iv q1, iv q2, iv q3, iv q3, iv cc] [(.ref a1)])) (fun _ k => XS.aloadN X601.here hx rfl (hb hby d77_104) rfl rfl k) ?_
      obtain ⟨T623, X623, e623, st623⟩ := getF X601 hx hZ hown (host := "") (Or.inl (wi hw 36 rfl)) Via.refl e601 f605 (g := (mkF m 105 #[rv a1, iv q1, iv q2, iv q3, iv q3, iv cc] [(.ref a1)])) rfl rfl (hb hby d77_105)
      refine Rch.go (U' := T623.setTop (mkF m 108 #[rv a1, iv q1, iv q2, iv q3, iv q3, iv cc] [(.ref bco)])) st623 ?_
      refine Rch.go (U' := T623.setTop (mkF m 110 #[rv a1, iv q1, iv q2, iv q3, iv q3, iv cc] [(.int q3), (.ref bco)])) (fun _ k => XS.iload X623.here hx rfl (hb hby d77_108) rfl  k) ?_
      refine Rch.go (U' := T623.setTop (mkF m 112 #[rv a1, iv q1, iv q2, iv q3, iv q3, iv cc] [(.int cc), (.int q3), (.ref bco)])) (fun _ k => XS.iload X623.here hx rfl (hb hby d77_110) rfl  k) ?_
      obtain ⟨cl624, Ar624, qk624, Sz624, Mn624, Hs624, Gf624⟩ := id f614
      have ib624 : ¬ (q3 < 0 ∨ cl624.slots.size ≤ (q3).toNatClampNeg) := inb_of Sz624 i4
      obtain ⟨T624, h624, X624, e624, W624, st624⟩ := stI X623 hx hZ e623 Ar624 (j := q3) ib624 (g := (mkF m 112 #[rv a1, iv q1, iv q2, iv q3, iv q3, iv cc] [(.int cc), (.int q3), (.ref bco)])) rfl rfl (hb hby d77_112)
      have V624 : Arv Z h624 bco k_co .int (4 : Int32) ((own_st co q3 cc).map Value.int) (.int (0 : Int32)) := own_sx (Arv.set Ar624 qk624 Sz624 Mn624 Hs624 Gf624 rfl W624 _ rfl (own_ln i4 l_co))
      have f625 := f602.wr W624
      have f626 := f603.wr W624
      have f627 := f604.other W624 (Or.inl (nN o4))
      have f628 := f605.other W624 (Or.inl (nN o4))
      have f629 := f606.other W624 (Or.inl (nN o4))
      have f630 := f607.other W624 (Or.inl (nN o4))
      have f631 := f608.other W624 (Or.inl (nN o4))
      have f632 := f609.other W624 (Or.inl (nN o4))
      have f633 := f610.other W624 (Or.inl (nN o4))
      have f634 := F601.other W624 (Or.inl (nN o4))
      have f635 := f611.other W624 (Or.inl (nN o4))
      have f636 := f612.other W624 (Or.inl (nN (nT o1 (nT o2 (nT o3 o4)))))
      have f637 := f613.other W624 (Or.inl (nN (nT o1 (nT o2 (nT o3 o4)))))
      have f638 := f615.other W624 (nM (nT o5 (nT o6 (nT o7 o8))))
      have f639 := f616.other W624 (nM (nT o5 (nT o6 (nT o7 (nT o8 o9)))))
      have f640 := f617.other W624 (nN (nT o2 (nT o3 o4)))
      have f641 := f618.other W624 (nN (nT o3 o4))
      have f642 := f619.other W624 (nM o5)
      have f643 := f620.other W624 (nM (nT o5 o6))
      have f644 := f621.other W624 (nM (nT o5 (nT o6 o7)))
      have N624 := Fr.snoc X624 N601 (nG o0 (nT o1 (nT o2 (nT o3 o4))))
      have z645 := Nat.le_trans z622 (Keep.of_wr W624).1
      refine Rch.go (U' := T624.setTop (mkF m 113 #[rv a1, iv q1, iv q2, iv q3, iv q3, iv cc] [])) st624 ?_
      refine Rch.go (U' := T624.setTop (mkF m 114 #[rv a1, iv q1, iv q2, iv q3, iv q3, iv cc] [(.ref a1)])) (fun _ k => XS.aloadN X624.here hx rfl (hb hby d77_113) rfl rfl k) ?_
      obtain ⟨T646, X646, e646, st646⟩ := getF X624 hx hZ hown (host := "") (Or.inl (wi hw 42 rfl)) Via.refl e624 f631 (g := (mkF m 114 #[rv a1, iv q1, iv q2, iv q3, iv q3, iv cc] [(.ref a1)])) rfl rfl (hb hby d77_114)
      refine Rch.go (U' := T646.setTop (mkF m 117 #[rv a1, iv q1, iv q2, iv q3, iv q3, iv cc] [(.ref bfb)])) st646 ?_
      refine Rch.go (U' := T646.setTop (mkF m 119 #[rv a1, iv q1, iv q2, iv q3, iv q3, iv cc] [(.int cc), (.ref bfb)])) (fun _ k => XS.iload X646.here hx rfl (hb hby d77_117) rfl  k) ?_
      refine Rch.go (U' := T646.setTop (mkF m 121 #[rv a1, iv q1, iv q2, iv q3, iv q3, iv cc] [(.int q3), (.int cc), (.ref bfb)])) (fun _ k => XS.iload X646.here hx rfl (hb hby d77_119) rfl  k) ?_
      obtain ⟨cl647, Ar647, qk647, Sz647, Mn647, Hs647, Gf647⟩ := id f644
      have ib647 : ¬ (cc < 0 ∨ cl647.slots.size ≤ (cc).toNatClampNeg) := inb_of Sz647 i7
      obtain ⟨T647, h647, X647, e647, W647, st647⟩ := stI X646 hx hZ e646 Ar647 (j := cc) ib647 (g := (mkF m 121 #[rv a1, iv q1, iv q2, iv q3, iv q3, iv cc] [(.int q3), (.int cc), (.ref bfb)])) rfl rfl (hb hby d77_121)
      have V647 : Arv Z h647 bfb k414_fb .int (4 : Int32) ((own_st fb1 cc q3).map Value.int) (.int (0 : Int32)) := own_sx (Arv.set Ar647 qk647 Sz647 Mn647 Hs647 Gf647 rfl W647 _ rfl (own_ln i7 l414_fb))
      have f648 := f625.wr W647
      have f649 := f626.wr W647
      have f650 := f627.other W647 (Or.inl (nN (nT o4 (nT o5 (nT o6 o7)))))
      have f651 := f628.other W647 (Or.inl (nN (nT o4 (nT o5 (nT o6 o7)))))
      have f652 := f629.other W647 (Or.inl (nN (nT o4 (nT o5 (nT o6 o7)))))
      have f653 := f630.other W647 (Or.inl (nN (nT o4 (nT o5 (nT o6 o7)))))
      have f654 := f631.other W647 (Or.inl (nN (nT o4 (nT o5 (nT o6 o7)))))
      have f655 := f632.other W647 (Or.inl (nN (nT o4 (nT o5 (nT o6 o7)))))
      have f656 := f633.other W647 (Or.inl (nN (nT o4 (nT o5 (nT o6 o7)))))
      have f657 := f634.other W647 (Or.inl (nN (nT o4 (nT o5 (nT o6 o7)))))
      have f658 := f635.other W647 (Or.inl (nN (nT o4 (nT o5 (nT o6 o7)))))
      have f659 := f636.other W647 (Or.inl (nN (nT o1 (nT o2 (nT o3 (nT o4 (nT o5 (nT o6 o7))))))))
      have f660 := f637.other W647 (Or.inl (nN (nT o1 (nT o2 (nT o3 (nT o4 (nT o5 (nT o6 o7))))))))
      have f661 := V624.other W647 (nN (nT o5 (nT o6 o7)))
      have f662 := f638.other W647 (nM o8)
      have f663 := f639.other W647 (nM (nT o8 o9))
      have f664 := f640.other W647 (nN (nT o2 (nT o3 (nT o4 (nT o5 (nT o6 o7))))))
      have f665 := f641.other W647 (nN (nT o3 (nT o4 (nT o5 (nT o6 o7)))))
      have f666 := f642.other W647 (nN (nT o6 o7))
      have f667 := f643.other W647 (nN o7)
      have N647 := Fr.snoc X647 N624 (nG o0 (nT o1 (nT o2 (nT o3 (nT o4 (nT o5 (nT o6 o7)))))))
      have z668 := Nat.le_trans z645 (Keep.of_wr W647).1
      refine Rch.go (U' := T647.setTop (mkF m 122 #[rv a1, iv q1, iv q2, iv q3, iv q3, iv cc] [])) st647 ?_
      refine Rch.go (U' := T647.setTop (mkF m 123 #[rv a1, iv q1, iv q2, iv q3, iv q3, iv cc] [(.ref a1)])) (fun _ k => XS.aloadN X647.here hx rfl (hb hby d77_122) rfl rfl k) ?_
      obtain ⟨T669, X669, e669, st669⟩ := getF X647 hx hZ hown (host := "") (Or.inl (wi hw 38 rfl)) Via.refl e647 f652 (g := (mkF m 123 #[rv a1, iv q1, iv q2, iv q3, iv q3, iv cc] [(.ref a1)])) rfl rfl (hb hby d77_123)
      refine Rch.go (U' := T669.setTop (mkF m 126 #[rv a1, iv q1, iv q2, iv q3, iv q3, iv cc] [(.ref bnx)])) st669 ?_
      refine Rch.go (U' := T669.setTop (mkF m 128 #[rv a1, iv q1, iv q2, iv q3, iv q3, iv cc] [(.int q3), (.ref bnx)])) (fun _ k => XS.iload X669.here hx rfl (hb hby d77_126) rfl  k) ?_
      refine Rch.go (U' := T669.setTop (mkF m 129 #[rv a1, iv q1, iv q2, iv q3, iv q3, iv cc] [(.int (-1 : Int32)), (.int q3), (.ref bnx)])) (fun _ k => XS.iconst X669.here hx rfl (hb hby d77_128) k) ?_
      obtain ⟨cl670, Ar670, qk670, Sz670, Mn670, Hs670, Gf670⟩ := id f666
      have ib670 : ¬ (q3 < 0 ∨ cl670.slots.size ≤ (q3).toNatClampNeg) := inb_of Sz670 i4
      obtain ⟨T670, h670, X670, e670, W670, st670⟩ := stI X669 hx hZ e669 Ar670 (j := q3) ib670 (g := (mkF m 129 #[rv a1, iv q1, iv q2, iv q3, iv q3, iv cc] [(.int (-1 : Int32)), (.int q3), (.ref bnx)])) rfl rfl (hb hby d77_129)
      have V670 : Arv Z h670 bnx k414_nx .int (4 : Int32) ((own_st nx1 q3 (-1 : Int32)).map Value.int) (.int (0 : Int32)) := own_sx (Arv.set Ar670 qk670 Sz670 Mn670 Hs670 Gf670 rfl W670 _ rfl (own_ln i4 l414_nx))
      have f671 := f648.wr W670
      have f672 := f649.wr W670
      have f673 := f650.other W670 (Or.inl (nN (nT o4 o5)))
      have f674 := f651.other W670 (Or.inl (nN (nT o4 o5)))
      have f675 := f652.other W670 (Or.inl (nN (nT o4 o5)))
      have f676 := f653.other W670 (Or.inl (nN (nT o4 o5)))
      have f677 := f654.other W670 (Or.inl (nN (nT o4 o5)))
      have f678 := f655.other W670 (Or.inl (nN (nT o4 o5)))
      have f679 := f656.other W670 (Or.inl (nN (nT o4 o5)))
      have f680 := f657.other W670 (Or.inl (nN (nT o4 o5)))
      have f681 := f658.other W670 (Or.inl (nN (nT o4 o5)))
      have f682 := f659.other W670 (Or.inl (nN (nT o1 (nT o2 (nT o3 (nT o4 o5))))))
      have f683 := f660.other W670 (Or.inl (nN (nT o1 (nT o2 (nT o3 (nT o4 o5))))))
      have f684 := f661.other W670 (nN o5)
      have f685 := f662.other W670 (nM (nT o6 (nT o7 o8)))
      have f686 := f663.other W670 (nM (nT o6 (nT o7 (nT o8 o9))))
      have f687 := f664.other W670 (nN (nT o2 (nT o3 (nT o4 o5))))
      have f688 := f665.other W670 (nN (nT o3 (nT o4 o5)))
      have f689 := f667.other W670 (nM o6)
      have f690 := V647.other W670 (nM (nT o6 o7))
      have N670 := Fr.snoc X670 N647 (nG o0 (nT o1 (nT o2 (nT o3 (nT o4 o5)))))
      have z691 := Nat.le_trans z668 (Keep.of_wr W670).1
      refine Rch.go (U' := T670.setTop (mkF m 130 #[rv a1, iv q1, iv q2, iv q3, iv q3, iv cc] [])) st670 ?_
      refine Rch.go (U' := T670.setTop (mkF m 131 #[rv a1, iv q1, iv q2, iv q3, iv q3, iv cc] [(.ref a1)])) (fun _ k => XS.aloadN X670.here hx rfl (hb hby d77_130) rfl rfl k) ?_
      obtain ⟨T692, X692, e692, st692⟩ := getF X670 hx hZ hown (host := "") (Or.inl (wi hw 40 rfl)) Via.refl e670 f676 (g := (mkF m 131 #[rv a1, iv q1, iv q2, iv q3, iv q3, iv cc] [(.ref a1)])) rfl rfl (hb hby d77_131)
      refine Rch.go (U' := T692.setTop (mkF m 134 #[rv a1, iv q1, iv q2, iv q3, iv q3, iv cc] [(.ref bpv)])) st692 ?_
      refine Rch.go (U' := T692.setTop (mkF m 136 #[rv a1, iv q1, iv q2, iv q3, iv q3, iv cc] [(.int q3), (.ref bpv)])) (fun _ k => XS.iload X692.here hx rfl (hb hby d77_134) rfl  k) ?_
      refine Rch.go (U' := T692.setTop (mkF m 137 #[rv a1, iv q1, iv q2, iv q3, iv q3, iv cc] [(.int (-1 : Int32)), (.int q3), (.ref bpv)])) (fun _ k => XS.iconst X692.here hx rfl (hb hby d77_136) k) ?_
      obtain ⟨cl693, Ar693, qk693, Sz693, Mn693, Hs693, Gf693⟩ := id f689
      have ib693 : ¬ (q3 < 0 ∨ cl693.slots.size ≤ (q3).toNatClampNeg) := inb_of Sz693 i4
      obtain ⟨T693, h693, X693, e693, W693, st693⟩ := stI X692 hx hZ e692 Ar693 (j := q3) ib693 (g := (mkF m 137 #[rv a1, iv q1, iv q2, iv q3, iv q3, iv cc] [(.int (-1 : Int32)), (.int q3), (.ref bpv)])) rfl rfl (hb hby d77_137)
      have V693 : Arv Z h693 bpv k414_pv .int (4 : Int32) ((own_st pv1 q3 (-1 : Int32)).map Value.int) (.int (0 : Int32)) := own_sx (Arv.set Ar693 qk693 Sz693 Mn693 Hs693 Gf693 rfl W693 _ rfl (own_ln i4 l414_pv))
      have f694 := f671.wr W693
      have f695 := f672.wr W693
      have f696 := f673.other W693 (Or.inl (nN (nT o4 (nT o5 o6))))
      have f697 := f674.other W693 (Or.inl (nN (nT o4 (nT o5 o6))))
      have f698 := f675.other W693 (Or.inl (nN (nT o4 (nT o5 o6))))
      have f699 := f676.other W693 (Or.inl (nN (nT o4 (nT o5 o6))))
      have f700 := f677.other W693 (Or.inl (nN (nT o4 (nT o5 o6))))
      have f701 := f678.other W693 (Or.inl (nN (nT o4 (nT o5 o6))))
      have f702 := f679.other W693 (Or.inl (nN (nT o4 (nT o5 o6))))
      have f703 := f680.other W693 (Or.inl (nN (nT o4 (nT o5 o6))))
      have f704 := f681.other W693 (Or.inl (nN (nT o4 (nT o5 o6))))
      have f705 := f682.other W693 (Or.inl (nN (nT o1 (nT o2 (nT o3 (nT o4 (nT o5 o6)))))))
      have f706 := f683.other W693 (Or.inl (nN (nT o1 (nT o2 (nT o3 (nT o4 (nT o5 o6)))))))
      have f707 := f684.other W693 (nN (nT o5 o6))
      have f708 := f685.other W693 (nM (nT o7 o8))
      have f709 := f686.other W693 (nM (nT o7 (nT o8 o9)))
      have f710 := f687.other W693 (nN (nT o2 (nT o3 (nT o4 (nT o5 o6)))))
      have f711 := f688.other W693 (nN (nT o3 (nT o4 (nT o5 o6))))
      have f712 := V670.other W693 (nN o6)
      have f713 := f690.other W693 (nM o7)
      have N693 := Fr.snoc X693 N670 (nG o0 (nT o1 (nT o2 (nT o3 (nT o4 (nT o5 o6))))))
      have z714 := Nat.le_trans z691 (Keep.of_wr W693).1
      refine Rch.go (U' := T693.setTop (mkF m 138 #[rv a1, iv q1, iv q2, iv q3, iv q3, iv cc] [])) st693 ?_
      refine Rch.go (U' := T693.setTop (mkF m 140 #[rv a1, iv q1, iv q2, iv q3, iv q3, iv cc] [(.int q3)])) (fun _ k => XS.iload X693.here hx rfl (hb hby d77_138) rfl  k) ?_
      refine Rch.fin X693 hlk (v := some (.int q3)) (fun h => by rw [hret] at h; cases h) e693 (by decide) (by decide) (fun fs hr => retI X693 hx hret (hb hby d77_140) hr) ?_
      have e : own_take co nx pv fb pd ip cc pc = ((own_st co q3 cc), (own_st nx1 q3 (-1 : Int32)), (own_st pv1 q3 (-1 : Int32)), (own_st fb1 cc q3), pd, ip, (cc + (1 : Int32)), pc) := by simp only [own_take, own_tk, hsp, hq1, hlv, br438, ↓reduceIte]
      refine ⟨by rw [hsp], N693, z714, ?_⟩
      rw [e]
      exact ⟨⟨f694, f696, f697, f698, f699, f700, f701, f702, f703, f704⟩, ⟨f695, f705, f706⟩, ⟨⟨_, f707, (own_ls l_co)⟩, ⟨_, f712, (own_ls l414_nx)⟩, ⟨_, V693, (own_ls l414_pv)⟩, ⟨_, f713, (own_ls l414_fb)⟩, ⟨_, f708, l_pd⟩, ⟨_, f709, l_ip⟩, ⟨_, f710, l_fi⟩, ⟨_, f711, l_en⟩⟩, o0, o1, o2, o3, o4, o5, o6, o7, o8, o9⟩
  ·
    refine Rch.go (U' := T412.setTop (mkF m 45 #[rv a1, iv q1, iv q2, iv q3, uv, uv] [])) (fun _ k => XS.icmpNo X412.here hx rfl (hb hby d77_42) rfl (XT.ii_gt_f br413) k) ?_
    refine Rch.go (U' := T412.setTop (mkF m 46 #[rv a1, iv q1, iv q2, iv q3, uv, uv] [(.int q2)])) (fun _ k => XS.iloadN X412.here hx rfl (hb hby d77_45) rfl  k) ?_
    refine Rch.go (U' := T412.setTop (mkF m 50 #[rv a1, iv q1, iv q2, iv q3, uv, uv] [(.int q2)])) (fun _ k => XS.goto X412.here hx rfl (pc0 := 46) (pc' := 50) rfl (hb hby d77_46) (by decide) (by decide) k) ?_
    refine Rch.go (U' := T412.setTop (mkF m 52 #[rv a1, iv q1, iv q2, iv q3, iv q2, uv] [])) (fun _ k => XS.istore X412.here hx rfl (hb hby d77_50) rfl (l' := #[rv a1, iv q1, iv q2, iv q3, iv q2, uv]) rfl k) ?_
    have hsp : own_sp nx fb pd pc = q2 := by simp only [own_sp, hq1, hq2, hq3, br413, ↓reduceIte]
    rw [hsp] at i5 i6
    refine Rch.go (U' := T412.setTop (mkF m 53 #[rv a1, iv q1, iv q2, iv q3, iv q2, uv] [(.ref a1)])) (fun _ k => XS.aloadN X412.here hx rfl (hb hby d77_52) rfl rfl k) ?_
    refine Rch.go (U' := T412.setTop (mkF m 55 #[rv a1, iv q1, iv q2, iv q3, iv q2, uv] [(.int q2), (.ref a1)])) (fun _ k => XS.iload X412.here hx rfl (hb hby d77_53) rfl  k) ?_
    refine Rch.go (U' := T412.setTop (mkF m 56 #[rv a1, iv q1, iv q2, iv q3, iv q2, uv] [(.int q1), (.int q2), (.ref a1)])) (fun _ k => XS.iloadN X412.here hx rfl (hb hby d77_55) rfl  k) ?_
    obtain ⟨cq715, q715, q715'⟩ := E_a1.cell
    obtain ⟨_, _, ⟨T715, L715, k715, n715⟩, -, X715, ⟨Lc715, hQ715, l715, y715, z715⟩, st715⟩ := X412.privateBack hx (y := yl) hown (mvT hZ (wi hw 83 rfl)) (mvT hZ (wi hw 84 rfl)) (own_selp (by decide) (mvT hZ (wi hw 28 rfl)) (mvP hZ (wi hw 85 rfl)) (mvT hZ (wi hw 84 rfl))) (Cond.privateMethod_at (mvP hZ (wi hw 85 rfl) (args := #[]))) (mvT hZ (wi hw 86 rfl)) (by decide) (backOf (W := 0) (rmL l Z a0 hw [] a1 a2 bco bnx bpv bfb bpd bip bfi ben co nx pv fb pd ip cc pc q2 q1 h0 n0 Z0 ⟨⟨E_a1, FC_blocks, FC_compoundOf, FC_nextInCompound, FC_previousInCompound, FC_firstBlock, FC_pending, FC_isPending, FC_compoundCount, FC_pendingCount⟩, ⟨E_a2, FB_first, FB_end⟩, ⟨⟨_, V_co, l_co⟩, ⟨_, V_nx, l_nx⟩, ⟨_, V_pv, l_pv⟩, ⟨_, V_fb, l_fb⟩, ⟨_, V_pd, l_pd⟩, ⟨_, V_ip, l_ip⟩, ⟨_, V_fi, l_fi⟩, ⟨_, V_en, l_en⟩⟩, o0, o1, o2, o3, o4, o5, o6, o7, o8, o9⟩ i5) hZ (wi hw 86 rfl) (wi hw 29 rfl) (by decide) (by decide)) (g := (mkF m 56 #[rv a1, iv q1, iv q2, iv q3, iv q2, uv] [(.int q1), (.int q2), (.ref a1)])) rfl (by rw [hml]; rfl) (Steps.refl _) (a := a1) (by rw [e412]; exact q715) q715' (argsL := [(.int q2), (.int q1)]) (rest := []) (lenOf pd_8 rfl) rfl (by show 2 * 0 + _ ≤ _; exact Nat.le_of_eq rfl) (hb hby d77_56) (fun _ _ => ⟨rfl, e412, (by decide : 0 + 0 ≤ _), (by decide : 0 + 0 ≤ _)⟩)
    dsimp only [Pt.U, Pt.locs, Pt.cells, Pt.slots] at X715 l715 y715 z715 st715 hQ715
    subst l715 y715 z715
    obtain ⟨rfl, N715q, K715q, nx1, pv1, fb1, hlv, ⟨k715_nx, V715_nx, l715_nx⟩, ⟨k715_pv, V715_pv, l715_pv⟩, ⟨k715_fb, V715_fb, l715_fb⟩⟩ := hQ715
    have N715 := Fr.app N412 N715q
    have z716 := Nat.le_trans Z0 K715q.1
    have f717 := E_a1.keep K715q
    have f718 := E_a2.keep K715q
    have f719 := FC_blocks.keep K715q (ninS (nN (nT o4 o5)) (ninS (nN (nT o4 (nT o5 o6))) (ninS (nN (nT o4 (nT o5 (nT o6 o7)))) nin0)))
    have f720 := FC_compoundOf.keep K715q (ninS (nN (nT o4 o5)) (ninS (nN (nT o4 (nT o5 o6))) (ninS (nN (nT o4 (nT o5 (nT o6 o7)))) nin0)))
    have f721 := FC_nextInCompound.keep K715q (ninS (nN (nT o4 o5)) (ninS (nN (nT o4 (nT o5 o6))) (ninS (nN (nT o4 (nT o5 (nT o6 o7)))) nin0)))
    have f722 := FC_previousInCompound.keep K715q (ninS (nN (nT o4 o5)) (ninS (nN (nT o4 (nT o5 o6))) (ninS (nN (nT o4 (nT o5 (nT o6 o7)))) nin0)))
    have f723 := FC_firstBlock.keep K715q (ninS (nN (nT o4 o5)) (ninS (nN (nT o4 (nT o5 o6))) (ninS (nN (nT o4 (nT o5 (nT o6 o7)))) nin0)))
    have f724 := FC_pending.keep K715q (ninS (nN (nT o4 o5)) (ninS (nN (nT o4 (nT o5 o6))) (ninS (nN (nT o4 (nT o5 (nT o6 o7)))) nin0)))
    have f725 := FC_isPending.keep K715q (ninS (nN (nT o4 o5)) (ninS (nN (nT o4 (nT o5 o6))) (ninS (nN (nT o4 (nT o5 (nT o6 o7)))) nin0)))
    have f726 := FC_compoundCount.keep K715q (ninS (nN (nT o4 o5)) (ninS (nN (nT o4 (nT o5 o6))) (ninS (nN (nT o4 (nT o5 (nT o6 o7)))) nin0)))
    have f727 := FC_pendingCount.keep K715q (ninS (nN (nT o4 o5)) (ninS (nN (nT o4 (nT o5 o6))) (ninS (nN (nT o4 (nT o5 (nT o6 o7)))) nin0)))
    have f728 := FB_first.keep K715q (ninS (nN (nT o1 (nT o2 (nT o3 (nT o4 o5))))) (ninS (nN (nT o1 (nT o2 (nT o3 (nT o4 (nT o5 o6)))))) (ninS (nN (nT o1 (nT o2 (nT o3 (nT o4 (nT o5 (nT o6 o7))))))) nin0)))
    have f729 := FB_end.keep K715q (ninS (nN (nT o1 (nT o2 (nT o3 (nT o4 o5))))) (ninS (nN (nT o1 (nT o2 (nT o3 (nT o4 (nT o5 o6)))))) (ninS (nN (nT o1 (nT o2 (nT o3 (nT o4 (nT o5 (nT o6 o7))))))) nin0)))
    have f730 := V_co.keep K715q (ninS (nN o5) (ninS (nN (nT o5 o6)) (ninS (nN (nT o5 (nT o6 o7))) nin0)))
    have f731 := V_pd.keep K715q (ninS (nM (nT o6 (nT o7 o8))) (ninS (nM (nT o7 o8)) (ninS (nM o8) nin0)))
    have f732 := V_ip.keep K715q (ninS (nM (nT o6 (nT o7 (nT o8 o9)))) (ninS (nM (nT o7 (nT o8 o9))) (ninS (nM (nT o8 o9)) nin0)))
    have f733 := V_fi.keep K715q (ninS (nN (nT o2 (nT o3 (nT o4 o5)))) (ninS (nN (nT o2 (nT o3 (nT o4 (nT o5 o6))))) (ninS (nN (nT o2 (nT o3 (nT o4 (nT o5 (nT o6 o7)))))) nin0)))
    have f734 := V_en.keep K715q (ninS (nN (nT o3 (nT o4 o5))) (ninS (nN (nT o3 (nT o4 (nT o5 o6)))) (ninS (nN (nT o3 (nT o4 (nT o5 (nT o6 o7))))) nin0)))
    refine Rch.to (U' := T715.setTop (mkF m 59 #[rv a1, iv q1, iv q2, iv q3, iv q2, uv] [])) st715 ?_
    rw [hlv] at i6
    refine Rch.go (U' := T715.setTop (mkF m 60 #[rv a1, iv q1, iv q2, iv q3, iv q2, uv] [(.ref a1)])) (fun _ k => XS.aloadN X715.here hx rfl (hb hby d77_59) rfl rfl k) ?_
    obtain ⟨T735, X735, e735, st735⟩ := getF X715 hx hZ hown (host := "") (Or.inl (wi hw 38 rfl)) Via.refl rfl f721 (g := (mkF m 60 #[rv a1, iv q1, iv q2, iv q3, iv q2, uv] [(.ref a1)])) rfl rfl (hb hby d77_60)
    refine Rch.go (U' := T735.setTop (mkF m 63 #[rv a1, iv q1, iv q2, iv q3, iv q2, uv] [(.ref bnx)])) st735 ?_
    refine Rch.go (U' := T735.setTop (mkF m 64 #[rv a1, iv q1, iv q2, iv q3, iv q2, uv] [(.ref a1), (.ref bnx)])) (fun _ k => XS.aloadN X735.here hx rfl (hb hby d77_63) rfl rfl k) ?_
    obtain ⟨T736, X736, e736, st736⟩ := getF X735 hx hZ hown (host := "") (Or.inl (wi hw 42 rfl)) Via.refl e735 f723 (g := (mkF m 64 #[rv a1, iv q1, iv q2, iv q3, iv q2, uv] [(.ref a1), (.ref bnx)])) rfl rfl (hb hby d77_64)
    refine Rch.go (U' := T736.setTop (mkF m 67 #[rv a1, iv q1, iv q2, iv q3, iv q2, uv] [(.ref bfb), (.ref bnx)])) st736 ?_
    refine Rch.go (U' := T736.setTop (mkF m 68 #[rv a1, iv q1, iv q2, iv q3, iv q2, uv] [(.int q1), (.ref bfb), (.ref bnx)])) (fun _ k => XS.iloadN X736.here hx rfl (hb hby d77_67) rfl  k) ?_
    obtain ⟨cl737, Ar737, qk737, Sz737, Mn737, Hs737, Gf737⟩ := id V715_fb
    have ib737 : ¬ (q1 < 0 ∨ cl737.slots.size ≤ (q1).toNatClampNeg) := inb_of Sz737 (hq1 ▸ i2)
    have ea737 : cl737.slots[(q1).toNatClampNeg]? = some (.int (own_at fb1 q1)) := Has.at Hs737 ib737 (own_gx fb1 q1)
    refine Rch.go (U' := T736.setTop (mkF m 69 #[rv a1, iv q1, iv q2, iv q3, iv q2, uv] [(.int (own_at fb1 q1)), (.ref bnx)])) (fun _ k => X736.iaload hx (j := q1) (v := (.int (own_at fb1 q1))) (by rw [e736]; exact Ar737.1) (State.isArrayOf_alike hZ.alike Ar737.2.1) Ar737.2.2 ib737 ea737 (g := (mkF m 68 #[rv a1, iv q1, iv q2, iv q3, iv q2, uv] [(.int q1), (.ref bfb), (.ref bnx)])) rfl rfl (hb hby d77_68) _ k) ?_
    obtain ⟨cl738, Ar738, qk738, Sz738, Mn738, Hs738, Gf738⟩ := id V715_nx
    have ib738 : ¬ ((own_at fb1 q1) < 0 ∨ cl738.slots.size ≤ ((own_at fb1 q1)).toNatClampNeg) := inb_of Sz738 i6
    have ea738 : cl738.slots[((own_at fb1 q1)).toNatClampNeg]? = some (.int (own_at nx1 (own_at fb1 q1))) := Has.at Hs738 ib738 (own_gx nx1 (own_at fb1 q1))
    refine Rch.go (U' := T736.setTop (mkF m 70 #[rv a1, iv q1, iv q2, iv q3, iv q2, uv] [(.int (own_at nx1 (own_at fb1 q1)))])) (fun _ k => X736.iaload hx (j := (own_at fb1 q1)) (v := (.int (own_at nx1 (own_at fb1 q1)))) (by rw [e736]; exact Ar738.1) (State.isArrayOf_alike hZ.alike Ar738.2.1) Ar738.2.2 ib738 ea738 (g := (mkF m 69 #[rv a1, iv q1, iv q2, iv q3, iv q2, uv] [(.int (own_at fb1 q1)), (.ref bnx)])) rfl rfl (hb hby d77_69) _ k) ?_
    refine Rch.go (U' := T736.setTop (mkF m 71 #[rv a1, iv q1, iv q2, iv q3, iv q2, uv] [(.int (-1 : Int32)), (.int (own_at nx1 (own_at fb1 q1)))])) (fun _ k => XS.iconst X736.here hx rfl (hb hby d77_70) k) ?_
    by_cases br739 : (own_at nx1 (own_at fb1 q1)) = (-1 : Int32)
    ·
      refine Rch.go (U' := T736.setTop (mkF m 74 #[rv a1, iv q1, iv q2, iv q3, iv q2, uv] [])) (fun _ k => XS.icmpNo X736.here hx rfl (hb hby d77_71) rfl (XT.ii_ne_f br739) k) ?_
      refine Rch.go (U' := T736.setTop (mkF m 75 #[rv a1, iv q1, iv q2, iv q3, iv q2, uv] [(.ref a1)])) (fun _ k => XS.aloadN X736.here hx rfl (hb hby d77_74) rfl rfl k) ?_
      refine Rch.go (U' := T736.setTop (mkF m 76 #[rv a1, iv q1, iv q2, iv q3, iv q2, uv] [(.ref a1), (.ref a1)])) (fun _ k => XS.dup X736.here hx rfl (hb hby d77_75) rfl rfl k) ?_
      obtain ⟨T740, X740, e740, st740⟩ := getF X736 hx hZ hown (host := "") (Or.inl (wi hw 56 rfl)) Via.refl e736 f727 (g := (mkF m 76 #[rv a1, iv q1, iv q2, iv q3, iv q2, uv] [(.ref a1), (.ref a1)])) rfl rfl (hb hby d77_76)
      refine Rch.go (U' := T740.setTop (mkF m 79 #[rv a1, iv q1, iv q2, iv q3, iv q2, uv] [(.int pc), (.ref a1)])) st740 ?_
      refine Rch.go (U' := T740.setTop (mkF m 80 #[rv a1, iv q1, iv q2, iv q3, iv q2, uv] [(.int (1 : Int32)), (.int pc), (.ref a1)])) (fun _ k => XS.iconst X740.here hx rfl (hb hby d77_79) k) ?_
      refine Rch.go (U' := T740.setTop (mkF m 81 #[rv a1, iv q1, iv q2, iv q3, iv q2, uv] [(.int (pc - (1 : Int32))), (.ref a1)])) (fun _ k => XS.isub X740.here hx rfl (hb hby d77_80) rfl k) ?_
      obtain ⟨T741, h741, X741, e741, W741, st741⟩ := putF X740 hx hZ hown (host := "") (Or.inl (wi hw 56 rfl)) Via.refl e740 f727 f717 (Or.inl (wi hw 57 rfl)) (wi hw 28 rfl) (ty := .int) (by decide) rfl rfl (g := (mkF m 81 #[rv a1, iv q1, iv q2, iv q3, iv q2, uv] [(.int (pc - (1 : Int32))), (.ref a1)])) rfl rfl (hb hby d77_81)
      have F741 := f727.same W741
      have f742 := f717.wr W741
      have f743 := f718.wr W741
      have f744 := f719.other W741 (Or.inr (slot_ne (Or.inr (wi hw 35 rfl)) (Or.inl (wi hw 57 rfl)) (by decide) (t := (.object cBL)) (t' := .int) (by decide) (by decide)))
      have f745 := f720.other W741 (Or.inr (slot_ne (Or.inr (wi hw 37 rfl)) (Or.inl (wi hw 57 rfl)) (by decide) (t := (.array .int)) (t' := .int) (by decide) (by decide)))
      have f746 := f721.other W741 (Or.inr (slot_ne (Or.inr (wi hw 39 rfl)) (Or.inl (wi hw 57 rfl)) (by decide) (t := (.array .int)) (t' := .int) (by decide) (by decide)))
      have f747 := f722.other W741 (Or.inr (slot_ne (Or.inr (wi hw 41 rfl)) (Or.inl (wi hw 57 rfl)) (by decide) (t := (.array .int)) (t' := .int) (by decide) (by decide)))
      have f748 := f723.other W741 (Or.inr (slot_ne (Or.inr (wi hw 43 rfl)) (Or.inl (wi hw 57 rfl)) (by decide) (t := (.array .int)) (t' := .int) (by decide) (by decide)))
      have f749 := f724.other W741 (Or.inr (slot_ne (Or.inr (wi hw 45 rfl)) (Or.inl (wi hw 57 rfl)) (by decide) (t := (.array .int)) (t' := .int) (by decide) (by decide)))
      have f750 := f725.other W741 (Or.inr (slot_ne (Or.inr (wi hw 48 rfl)) (Or.inl (wi hw 57 rfl)) (by decide) (t := (.array .boolean)) (t' := .int) (by decide) (by decide)))
      have f751 := f726.other W741 (Or.inr (slot_ne (Or.inl (wi hw 50 rfl)) (Or.inl (wi hw 57 rfl)) (by decide) (t := .int) (t' := .int) (by decide) (by decide)))
      have f752 := f728.other W741 (Or.inl (nN (nT o1 (nT o2 o3))))
      have f753 := f729.other W741 (Or.inl (nN (nT o1 (nT o2 o3))))
      have f754 := f730.other W741 (nM o4)
      have f755 := f731.other W741 (nM (nT o4 (nT o5 (nT o6 (nT o7 o8)))))
      have f756 := f732.other W741 (nM (nT o4 (nT o5 (nT o6 (nT o7 (nT o8 o9))))))
      have f757 := f733.other W741 (nN (nT o2 o3))
      have f758 := f734.other W741 (nN o3)
      have f759 := V715_nx.other W741 (nM (nT o4 o5))
      have f760 := V715_pv.other W741 (nM (nT o4 (nT o5 o6)))
      have f761 := V715_fb.other W741 (nM (nT o4 (nT o5 (nT o6 o7))))
      have N741 := Fr.snoc X741 N715 (nG o0 (nT o1 (nT o2 o3)))
      have z762 := Nat.le_trans z716 (Keep.of_wr W741).1
      refine Rch.go (U' := T741.setTop (mkF m 84 #[rv a1, iv q1, iv q2, iv q3, iv q2, uv] [])) st741 ?_
      refine Rch.go (U' := T741.setTop (mkF m 85 #[rv a1, iv q1, iv q2, iv q3, iv q2, uv] [(.ref a1)])) (fun _ k => XS.aloadN X741.here hx rfl (hb hby d77_84) rfl rfl k) ?_
      obtain ⟨T763, X763, e763, st763⟩ := getF X741 hx hZ hown (host := "") (Or.inl (wi hw 47 rfl)) Via.refl e741 f750 (g := (mkF m 85 #[rv a1, iv q1, iv q2, iv q3, iv q2, uv] [(.ref a1)])) rfl rfl (hb hby d77_85)
      refine Rch.go (U' := T763.setTop (mkF m 88 #[rv a1, iv q1, iv q2, iv q3, iv q2, uv] [(.ref bip)])) st763 ?_
      refine Rch.go (U' := T763.setTop (mkF m 89 #[rv a1, iv q1, iv q2, iv q3, iv q2, uv] [(.int q1), (.ref bip)])) (fun _ k => XS.iloadN X763.here hx rfl (hb hby d77_88) rfl  k) ?_
      refine Rch.go (U' := T763.setTop (mkF m 90 #[rv a1, iv q1, iv q2, iv q3, iv q2, uv] [(.int (0 : Int32)), (.int q1), (.ref bip)])) (fun _ k => XS.iconst X763.here hx rfl (hb hby d77_89) k) ?_
      obtain ⟨cl764, Ar764, qk764, Sz764, Mn764, Hs764, Gf764⟩ := id f756
      have ib764 : ¬ (q1 < 0 ∨ cl764.slots.size ≤ (q1).toNatClampNeg) := inb_of Sz764 (hq1 ▸ i2)
      obtain ⟨T764, h764, X764, e764, W764, st764⟩ := stZ X763 hx hZ e763 Ar764 (j := q1) ib764 (g := (mkF m 90 #[rv a1, iv q1, iv q2, iv q3, iv q2, uv] [(.int (0 : Int32)), (.int q1), (.ref bip)])) rfl rfl (hb hby d77_90)
      have V764 : Arv Z h764 bip k_ip .boolean (4 : Int32) ((own_st ip q1 (0 : Int32)).map Value.int) (.int (0 : Int32)) := own_sx (Arv.set Ar764 qk764 Sz764 Mn764 Hs764 Gf764 (fits_nar_bool _) W764 _ rfl (own_ln (hq1 ▸ i2) l_ip))
      have f765 := f742.wr W764
      have f766 := f743.wr W764
      have f767 := f744.other W764 (Or.inl (nN (nT o4 (nT o5 (nT o6 (nT o7 (nT o8 o9)))))))
      have f768 := f745.other W764 (Or.inl (nN (nT o4 (nT o5 (nT o6 (nT o7 (nT o8 o9)))))))
      have f769 := f746.other W764 (Or.inl (nN (nT o4 (nT o5 (nT o6 (nT o7 (nT o8 o9)))))))
      have f770 := f747.other W764 (Or.inl (nN (nT o4 (nT o5 (nT o6 (nT o7 (nT o8 o9)))))))
      have f771 := f748.other W764 (Or.inl (nN (nT o4 (nT o5 (nT o6 (nT o7 (nT o8 o9)))))))
      have f772 := f749.other W764 (Or.inl (nN (nT o4 (nT o5 (nT o6 (nT o7 (nT o8 o9)))))))
      have f773 := f750.other W764 (Or.inl (nN (nT o4 (nT o5 (nT o6 (nT o7 (nT o8 o9)))))))
      have f774 := f751.other W764 (Or.inl (nN (nT o4 (nT o5 (nT o6 (nT o7 (nT o8 o9)))))))
      have f775 := F741.other W764 (Or.inl (nN (nT o4 (nT o5 (nT o6 (nT o7 (nT o8 o9)))))))
      have f776 := f752.other W764 (Or.inl (nN (nT o1 (nT o2 (nT o3 (nT o4 (nT o5 (nT o6 (nT o7 (nT o8 o9))))))))))
      have f777 := f753.other W764 (Or.inl (nN (nT o1 (nT o2 (nT o3 (nT o4 (nT o5 (nT o6 (nT o7 (nT o8 o9))))))))))
      have f778 := f754.other W764 (nN (nT o5 (nT o6 (nT o7 (nT o8 o9)))))
      have f779 := f755.other W764 (nN o9)
      have f780 := f757.other W764 (nN (nT o2 (nT o3 (nT o4 (nT o5 (nT o6 (nT o7 (nT o8 o9))))))))
      have f781 := f758.other W764 (nN (nT o3 (nT o4 (nT o5 (nT o6 (nT o7 (nT o8 o9)))))))
      have f782 := f759.other W764 (nN (nT o6 (nT o7 (nT o8 o9))))
      have f783 := f760.other W764 (nN (nT o7 (nT o8 o9)))
      have f784 := f761.other W764 (nN (nT o8 o9))
      have N764 := Fr.snoc X764 N741 (nG o0 (nT o1 (nT o2 (nT o3 (nT o4 (nT o5 (nT o6 (nT o7 (nT o8 o9)))))))))
      have z785 := Nat.le_trans z762 (Keep.of_wr W764).1
      refine Rch.go (U' := T764.setTop (mkF m 91 #[rv a1, iv q1, iv q2, iv q3, iv q2, uv] [])) st764 ?_
      refine Rch.go (U' := T764.setTop (mkF m 92 #[rv a1, iv q1, iv q2, iv q3, iv q2, uv] [(.ref a1)])) (fun _ k => XS.aloadN X764.here hx rfl (hb hby d77_91) rfl rfl k) ?_
      refine Rch.go (U' := T764.setTop (mkF m 93 #[rv a1, iv q1, iv q2, iv q3, iv q2, uv] [(.ref a1), (.ref a1)])) (fun _ k => XS.dup X764.here hx rfl (hb hby d77_92) rfl rfl k) ?_
      obtain ⟨T786, X786, e786, st786⟩ := getF X764 hx hZ hown (host := "") (Or.inl (wi hw 49 rfl)) Via.refl e764 f774 (g := (mkF m 93 #[rv a1, iv q1, iv q2, iv q3, iv q2, uv] [(.ref a1), (.ref a1)])) rfl rfl (hb hby d77_93)
      refine Rch.go (U' := T786.setTop (mkF m 96 #[rv a1, iv q1, iv q2, iv q3, iv q2, uv] [(.int cc), (.ref a1)])) st786 ?_
      refine Rch.go (U' := T786.setTop (mkF m 97 #[rv a1, iv q1, iv q2, iv q3, iv q2, uv] [(.int cc), (.ref a1), (.int cc)])) (fun _ k => XS.dupX1 X786.here hx rfl (hb hby d77_96) rfl rfl rfl k) ?_
      refine Rch.go (U' := T786.setTop (mkF m 98 #[rv a1, iv q1, iv q2, iv q3, iv q2, uv] [(.int (1 : Int32)), (.int cc), (.ref a1), (.int cc)])) (fun _ k => XS.iconst X786.here hx rfl (hb hby d77_97) k) ?_
      refine Rch.go (U' := T786.setTop (mkF m 99 #[rv a1, iv q1, iv q2, iv q3, iv q2, uv] [(.int (cc + (1 : Int32))), (.ref a1), (.int cc)])) (fun _ k => XS.iadd X786.here hx rfl (hb hby d77_98) rfl k) ?_
      obtain ⟨T787, h787, X787, e787, W787, st787⟩ := putF X786 hx hZ hown (host := "") (Or.inl (wi hw 49 rfl)) Via.refl e786 f774 f765 (Or.inl (wi hw 50 rfl)) (wi hw 28 rfl) (ty := .int) (by decide) rfl rfl (g := (mkF m 99 #[rv a1, iv q1, iv q2, iv q3, iv q2, uv] [(.int (cc + (1 : Int32))), (.ref a1), (.int cc)])) rfl rfl (hb hby d77_99)
      have F787 := f774.same W787
      have f788 := f765.wr W787
      have f789 := f766.wr W787
      have f790 := f767.other W787 (Or.inr (slot_ne (Or.inr (wi hw 35 rfl)) (Or.inl (wi hw 50 rfl)) (by decide) (t := (.object cBL)) (t' := .int) (by decide) (by decide)))
      have f791 := f768.other W787 (Or.inr (slot_ne (Or.inr (wi hw 37 rfl)) (Or.inl (wi hw 50 rfl)) (by decide) (t := (.array .int)) (t' := .int) (by decide) (by decide)))
      have f792 := f769.other W787 (Or.inr (slot_ne (Or.inr (wi hw 39 rfl)) (Or.inl (wi hw 50 rfl)) (by decide) (t := (.array .int)) (t' := .int) (by decide) (by decide)))
      have f793 := f770.other W787 (Or.inr (slot_ne (Or.inr (wi hw 41 rfl)) (Or.inl (wi hw 50 rfl)) (by decide) (t := (.array .int)) (t' := .int) (by decide) (by decide)))
      have f794 := f771.other W787 (Or.inr (slot_ne (Or.inr (wi hw 43 rfl)) (Or.inl (wi hw 50 rfl)) (by decide) (t := (.array .int)) (t' := .int) (by decide) (by decide)))
      have f795 := f772.other W787 (Or.inr (slot_ne (Or.inr (wi hw 45 rfl)) (Or.inl (wi hw 50 rfl)) (by decide) (t := (.array .int)) (t' := .int) (by decide) (by decide)))
      have f796 := f773.other W787 (Or.inr (slot_ne (Or.inr (wi hw 48 rfl)) (Or.inl (wi hw 50 rfl)) (by decide) (t := (.array .boolean)) (t' := .int) (by decide) (by decide)))
      have f797 := f775.other W787 (Or.inr (slot_ne (Or.inl (wi hw 57 rfl)) (Or.inl (wi hw 50 rfl)) (by decide) (t := .int) (t' := .int) (by decide) (by decide)))
      have f798 := f776.other W787 (Or.inl (nN (nT o1 (nT o2 o3))))
      have f799 := f777.other W787 (Or.inl (nN (nT o1 (nT o2 o3))))
      have f800 := f778.other W787 (nM o4)
      have f801 := f779.other W787 (nM (nT o4 (nT o5 (nT o6 (nT o7 o8)))))
      have f802 := V764.other W787 (nM (nT o4 (nT o5 (nT o6 (nT o7 (nT o8 o9))))))
      have f803 := f780.other W787 (nN (nT o2 o3))
      have f804 := f781.other W787 (nN o3)
      have f805 := f782.other W787 (nM (nT o4 o5))
      have f806 := f783.other W787 (nM (nT o4 (nT o5 o6)))
      have f807 := f784.other W787 (nM (nT o4 (nT o5 (nT o6 o7))))
      have N787 := Fr.snoc X787 N764 (nG o0 (nT o1 (nT o2 o3)))
      have z808 := Nat.le_trans z785 (Keep.of_wr W787).1
      refine Rch.go (U' := T787.setTop (mkF m 102 #[rv a1, iv q1, iv q2, iv q3, iv q2, uv] [(.int cc)])) st787 ?_
      refine Rch.go (U' := T787.setTop (mkF m 104 #[rv a1, iv q1, iv q2, iv q3, iv q2, iv cc] [])) (fun _ k => XS.istore X787.here hx rfl (hb hby d77_102) rfl (l' := #[rv a1, iv q1, iv q2, iv q3, iv q2, iv cc]) rfl k) ?_
      refine Rch.go (U' := T787.setTop (mkF m 105 #[rv a1, iv q1, iv q2, iv q3, iv q2, iv cc] [(.ref a1)])) (fun _ k => XS.aloadN X787.here hx rfl (hb hby d77_104) rfl rfl k) ?_
      obtain ⟨T809, X809, e809, st809⟩ := getF X787 hx hZ hown (host := "") (Or.inl (wi hw 36 rfl)) Via.refl e787 f791 (g := (mkF m 105 #[rv a1, iv q1, iv q2, iv q3, iv q2, iv cc] [(.ref a1)])) rfl rfl (hb hby d77_105)
      refine Rch.go (U' := T809.setTop (mkF m 108 #[rv a1, iv q1, iv q2, iv q3, iv q2, iv cc] [(.ref bco)])) st809 ?_
      refine Rch.go (U' := T809.setTop (mkF m 110 #[rv a1, iv q1, iv q2, iv q3, iv q2, iv cc] [(.int q2), (.ref bco)])) (fun _ k => XS.iload X809.here hx rfl (hb hby d77_108) rfl  k) ?_
      refine Rch.go (U' := T809.setTop (mkF m 112 #[rv a1, iv q1, iv q2, iv q3, iv q2, iv cc] [(.int cc), (.int q2), (.ref bco)])) (fun _ k => XS.iload X809.here hx rfl (hb hby d77_110) rfl  k) ?_
      obtain ⟨cl810, Ar810, qk810, Sz810, Mn810, Hs810, Gf810⟩ := id f800
      have ib810 : ¬ (q2 < 0 ∨ cl810.slots.size ≤ (q2).toNatClampNeg) := inb_of Sz810 i3
      obtain ⟨T810, h810, X810, e810, W810, st810⟩ := stI X809 hx hZ e809 Ar810 (j := q2) ib810 (g := (mkF m 112 #[rv a1, iv q1, iv q2, iv q3, iv q2, iv cc] [(.int cc), (.int q2), (.ref bco)])) rfl rfl (hb hby d77_112)
      have V810 : Arv Z h810 bco k_co .int (4 : Int32) ((own_st co q2 cc).map Value.int) (.int (0 : Int32)) := own_sx (Arv.set Ar810 qk810 Sz810 Mn810 Hs810 Gf810 rfl W810 _ rfl (own_ln i3 l_co))
      have f811 := f788.wr W810
      have f812 := f789.wr W810
      have f813 := f790.other W810 (Or.inl (nN o4))
      have f814 := f791.other W810 (Or.inl (nN o4))
      have f815 := f792.other W810 (Or.inl (nN o4))
      have f816 := f793.other W810 (Or.inl (nN o4))
      have f817 := f794.other W810 (Or.inl (nN o4))
      have f818 := f795.other W810 (Or.inl (nN o4))
      have f819 := f796.other W810 (Or.inl (nN o4))
      have f820 := F787.other W810 (Or.inl (nN o4))
      have f821 := f797.other W810 (Or.inl (nN o4))
      have f822 := f798.other W810 (Or.inl (nN (nT o1 (nT o2 (nT o3 o4)))))
      have f823 := f799.other W810 (Or.inl (nN (nT o1 (nT o2 (nT o3 o4)))))
      have f824 := f801.other W810 (nM (nT o5 (nT o6 (nT o7 o8))))
      have f825 := f802.other W810 (nM (nT o5 (nT o6 (nT o7 (nT o8 o9)))))
      have f826 := f803.other W810 (nN (nT o2 (nT o3 o4)))
      have f827 := f804.other W810 (nN (nT o3 o4))
      have f828 := f805.other W810 (nM o5)
      have f829 := f806.other W810 (nM (nT o5 o6))
      have f830 := f807.other W810 (nM (nT o5 (nT o6 o7)))
      have N810 := Fr.snoc X810 N787 (nG o0 (nT o1 (nT o2 (nT o3 o4))))
      have z831 := Nat.le_trans z808 (Keep.of_wr W810).1
      refine Rch.go (U' := T810.setTop (mkF m 113 #[rv a1, iv q1, iv q2, iv q3, iv q2, iv cc] [])) st810 ?_
      refine Rch.go (U' := T810.setTop (mkF m 114 #[rv a1, iv q1, iv q2, iv q3, iv q2, iv cc] [(.ref a1)])) (fun _ k => XS.aloadN X810.here hx rfl (hb hby d77_113) rfl rfl k) ?_
      obtain ⟨T832, X832, e832, st832⟩ := getF X810 hx hZ hown (host := "") (Or.inl (wi hw 42 rfl)) Via.refl e810 f817 (g := (mkF m 114 #[rv a1, iv q1, iv q2, iv q3, iv q2, iv cc] [(.ref a1)])) rfl rfl (hb hby d77_114)
      refine Rch.go (U' := T832.setTop (mkF m 117 #[rv a1, iv q1, iv q2, iv q3, iv q2, iv cc] [(.ref bfb)])) st832 ?_
      refine Rch.go (U' := T832.setTop (mkF m 119 #[rv a1, iv q1, iv q2, iv q3, iv q2, iv cc] [(.int cc), (.ref bfb)])) (fun _ k => XS.iload X832.here hx rfl (hb hby d77_117) rfl  k) ?_
      refine Rch.go (U' := T832.setTop (mkF m 121 #[rv a1, iv q1, iv q2, iv q3, iv q2, iv cc] [(.int q2), (.int cc), (.ref bfb)])) (fun _ k => XS.iload X832.here hx rfl (hb hby d77_119) rfl  k) ?_
      obtain ⟨cl833, Ar833, qk833, Sz833, Mn833, Hs833, Gf833⟩ := id f830
      have ib833 : ¬ (cc < 0 ∨ cl833.slots.size ≤ (cc).toNatClampNeg) := inb_of Sz833 i7
      obtain ⟨T833, h833, X833, e833, W833, st833⟩ := stI X832 hx hZ e832 Ar833 (j := cc) ib833 (g := (mkF m 121 #[rv a1, iv q1, iv q2, iv q3, iv q2, iv cc] [(.int q2), (.int cc), (.ref bfb)])) rfl rfl (hb hby d77_121)
      have V833 : Arv Z h833 bfb k715_fb .int (4 : Int32) ((own_st fb1 cc q2).map Value.int) (.int (0 : Int32)) := own_sx (Arv.set Ar833 qk833 Sz833 Mn833 Hs833 Gf833 rfl W833 _ rfl (own_ln i7 l715_fb))
      have f834 := f811.wr W833
      have f835 := f812.wr W833
      have f836 := f813.other W833 (Or.inl (nN (nT o4 (nT o5 (nT o6 o7)))))
      have f837 := f814.other W833 (Or.inl (nN (nT o4 (nT o5 (nT o6 o7)))))
      have f838 := f815.other W833 (Or.inl (nN (nT o4 (nT o5 (nT o6 o7)))))
      have f839 := f816.other W833 (Or.inl (nN (nT o4 (nT o5 (nT o6 o7)))))
      have f840 := f817.other W833 (Or.inl (nN (nT o4 (nT o5 (nT o6 o7)))))
      have f841 := f818.other W833 (Or.inl (nN (nT o4 (nT o5 (nT o6 o7)))))
      have f842 := f819.other W833 (Or.inl (nN (nT o4 (nT o5 (nT o6 o7)))))
      have f843 := f820.other W833 (Or.inl (nN (nT o4 (nT o5 (nT o6 o7)))))
      have f844 := f821.other W833 (Or.inl (nN (nT o4 (nT o5 (nT o6 o7)))))
      have f845 := f822.other W833 (Or.inl (nN (nT o1 (nT o2 (nT o3 (nT o4 (nT o5 (nT o6 o7))))))))
      have f846 := f823.other W833 (Or.inl (nN (nT o1 (nT o2 (nT o3 (nT o4 (nT o5 (nT o6 o7))))))))
      have f847 := V810.other W833 (nN (nT o5 (nT o6 o7)))
      have f848 := f824.other W833 (nM o8)
      have f849 := f825.other W833 (nM (nT o8 o9))
      have f850 := f826.other W833 (nN (nT o2 (nT o3 (nT o4 (nT o5 (nT o6 o7))))))
      have f851 := f827.other W833 (nN (nT o3 (nT o4 (nT o5 (nT o6 o7)))))
      have f852 := f828.other W833 (nN (nT o6 o7))
      have f853 := f829.other W833 (nN o7)
      have N833 := Fr.snoc X833 N810 (nG o0 (nT o1 (nT o2 (nT o3 (nT o4 (nT o5 (nT o6 o7)))))))
      have z854 := Nat.le_trans z831 (Keep.of_wr W833).1
      refine Rch.go (U' := T833.setTop (mkF m 122 #[rv a1, iv q1, iv q2, iv q3, iv q2, iv cc] [])) st833 ?_
      refine Rch.go (U' := T833.setTop (mkF m 123 #[rv a1, iv q1, iv q2, iv q3, iv q2, iv cc] [(.ref a1)])) (fun _ k => XS.aloadN X833.here hx rfl (hb hby d77_122) rfl rfl k) ?_
      obtain ⟨T855, X855, e855, st855⟩ := getF X833 hx hZ hown (host := "") (Or.inl (wi hw 38 rfl)) Via.refl e833 f838 (g := (mkF m 123 #[rv a1, iv q1, iv q2, iv q3, iv q2, iv cc] [(.ref a1)])) rfl rfl (hb hby d77_123)
      refine Rch.go (U' := T855.setTop (mkF m 126 #[rv a1, iv q1, iv q2, iv q3, iv q2, iv cc] [(.ref bnx)])) st855 ?_
      refine Rch.go (U' := T855.setTop (mkF m 128 #[rv a1, iv q1, iv q2, iv q3, iv q2, iv cc] [(.int q2), (.ref bnx)])) (fun _ k => XS.iload X855.here hx rfl (hb hby d77_126) rfl  k) ?_
      refine Rch.go (U' := T855.setTop (mkF m 129 #[rv a1, iv q1, iv q2, iv q3, iv q2, iv cc] [(.int (-1 : Int32)), (.int q2), (.ref bnx)])) (fun _ k => XS.iconst X855.here hx rfl (hb hby d77_128) k) ?_
      obtain ⟨cl856, Ar856, qk856, Sz856, Mn856, Hs856, Gf856⟩ := id f852
      have ib856 : ¬ (q2 < 0 ∨ cl856.slots.size ≤ (q2).toNatClampNeg) := inb_of Sz856 i3
      obtain ⟨T856, h856, X856, e856, W856, st856⟩ := stI X855 hx hZ e855 Ar856 (j := q2) ib856 (g := (mkF m 129 #[rv a1, iv q1, iv q2, iv q3, iv q2, iv cc] [(.int (-1 : Int32)), (.int q2), (.ref bnx)])) rfl rfl (hb hby d77_129)
      have V856 : Arv Z h856 bnx k715_nx .int (4 : Int32) ((own_st nx1 q2 (-1 : Int32)).map Value.int) (.int (0 : Int32)) := own_sx (Arv.set Ar856 qk856 Sz856 Mn856 Hs856 Gf856 rfl W856 _ rfl (own_ln i3 l715_nx))
      have f857 := f834.wr W856
      have f858 := f835.wr W856
      have f859 := f836.other W856 (Or.inl (nN (nT o4 o5)))
      have f860 := f837.other W856 (Or.inl (nN (nT o4 o5)))
      have f861 := f838.other W856 (Or.inl (nN (nT o4 o5)))
      have f862 := f839.other W856 (Or.inl (nN (nT o4 o5)))
      have f863 := f840.other W856 (Or.inl (nN (nT o4 o5)))
      have f864 := f841.other W856 (Or.inl (nN (nT o4 o5)))
      have f865 := f842.other W856 (Or.inl (nN (nT o4 o5)))
      have f866 := f843.other W856 (Or.inl (nN (nT o4 o5)))
      have f867 := f844.other W856 (Or.inl (nN (nT o4 o5)))
      have f868 := f845.other W856 (Or.inl (nN (nT o1 (nT o2 (nT o3 (nT o4 o5))))))
      have f869 := f846.other W856 (Or.inl (nN (nT o1 (nT o2 (nT o3 (nT o4 o5))))))
      have f870 := f847.other W856 (nN o5)
      have f871 := f848.other W856 (nM (nT o6 (nT o7 o8)))
      have f872 := f849.other W856 (nM (nT o6 (nT o7 (nT o8 o9))))
      have f873 := f850.other W856 (nN (nT o2 (nT o3 (nT o4 o5))))
      have f874 := f851.other W856 (nN (nT o3 (nT o4 o5)))
      have f875 := f853.other W856 (nM o6)
      have f876 := V833.other W856 (nM (nT o6 o7))
      have N856 := Fr.snoc X856 N833 (nG o0 (nT o1 (nT o2 (nT o3 (nT o4 o5)))))
      have z877 := Nat.le_trans z854 (Keep.of_wr W856).1
      refine Rch.go (U' := T856.setTop (mkF m 130 #[rv a1, iv q1, iv q2, iv q3, iv q2, iv cc] [])) st856 ?_
      refine Rch.go (U' := T856.setTop (mkF m 131 #[rv a1, iv q1, iv q2, iv q3, iv q2, iv cc] [(.ref a1)])) (fun _ k => XS.aloadN X856.here hx rfl (hb hby d77_130) rfl rfl k) ?_
      obtain ⟨T878, X878, e878, st878⟩ := getF X856 hx hZ hown (host := "") (Or.inl (wi hw 40 rfl)) Via.refl e856 f862 (g := (mkF m 131 #[rv a1, iv q1, iv q2, iv q3, iv q2, iv cc] [(.ref a1)])) rfl rfl (hb hby d77_131)
      refine Rch.go (U' := T878.setTop (mkF m 134 #[rv a1, iv q1, iv q2, iv q3, iv q2, iv cc] [(.ref bpv)])) st878 ?_
      refine Rch.go (U' := T878.setTop (mkF m 136 #[rv a1, iv q1, iv q2, iv q3, iv q2, iv cc] [(.int q2), (.ref bpv)])) (fun _ k => XS.iload X878.here hx rfl (hb hby d77_134) rfl  k) ?_
      refine Rch.go (U' := T878.setTop (mkF m 137 #[rv a1, iv q1, iv q2, iv q3, iv q2, iv cc] [(.int (-1 : Int32)), (.int q2), (.ref bpv)])) (fun _ k => XS.iconst X878.here hx rfl (hb hby d77_136) k) ?_
      obtain ⟨cl879, Ar879, qk879, Sz879, Mn879, Hs879, Gf879⟩ := id f875
      have ib879 : ¬ (q2 < 0 ∨ cl879.slots.size ≤ (q2).toNatClampNeg) := inb_of Sz879 i3
      obtain ⟨T879, h879, X879, e879, W879, st879⟩ := stI X878 hx hZ e878 Ar879 (j := q2) ib879 (g := (mkF m 137 #[rv a1, iv q1, iv q2, iv q3, iv q2, iv cc] [(.int (-1 : Int32)), (.int q2), (.ref bpv)])) rfl rfl (hb hby d77_137)
      have V879 : Arv Z h879 bpv k715_pv .int (4 : Int32) ((own_st pv1 q2 (-1 : Int32)).map Value.int) (.int (0 : Int32)) := own_sx (Arv.set Ar879 qk879 Sz879 Mn879 Hs879 Gf879 rfl W879 _ rfl (own_ln i3 l715_pv))
      have f880 := f857.wr W879
      have f881 := f858.wr W879
      have f882 := f859.other W879 (Or.inl (nN (nT o4 (nT o5 o6))))
      have f883 := f860.other W879 (Or.inl (nN (nT o4 (nT o5 o6))))
      have f884 := f861.other W879 (Or.inl (nN (nT o4 (nT o5 o6))))
      have f885 := f862.other W879 (Or.inl (nN (nT o4 (nT o5 o6))))
      have f886 := f863.other W879 (Or.inl (nN (nT o4 (nT o5 o6))))
      have f887 := f864.other W879 (Or.inl (nN (nT o4 (nT o5 o6))))
      have f888 := f865.other W879 (Or.inl (nN (nT o4 (nT o5 o6))))
      have f889 := f866.other W879 (Or.inl (nN (nT o4 (nT o5 o6))))
      have f890 := f867.other W879 (Or.inl (nN (nT o4 (nT o5 o6))))
      have f891 := f868.other W879 (Or.inl (nN (nT o1 (nT o2 (nT o3 (nT o4 (nT o5 o6)))))))
      have f892 := f869.other W879 (Or.inl (nN (nT o1 (nT o2 (nT o3 (nT o4 (nT o5 o6)))))))
      have f893 := f870.other W879 (nN (nT o5 o6))
      have f894 := f871.other W879 (nM (nT o7 o8))
      have f895 := f872.other W879 (nM (nT o7 (nT o8 o9)))
      have f896 := f873.other W879 (nN (nT o2 (nT o3 (nT o4 (nT o5 o6)))))
      have f897 := f874.other W879 (nN (nT o3 (nT o4 (nT o5 o6))))
      have f898 := V856.other W879 (nN o6)
      have f899 := f876.other W879 (nM o7)
      have N879 := Fr.snoc X879 N856 (nG o0 (nT o1 (nT o2 (nT o3 (nT o4 (nT o5 o6))))))
      have z900 := Nat.le_trans z877 (Keep.of_wr W879).1
      refine Rch.go (U' := T879.setTop (mkF m 138 #[rv a1, iv q1, iv q2, iv q3, iv q2, iv cc] [])) st879 ?_
      refine Rch.go (U' := T879.setTop (mkF m 140 #[rv a1, iv q1, iv q2, iv q3, iv q2, iv cc] [(.int q2)])) (fun _ k => XS.iload X879.here hx rfl (hb hby d77_138) rfl  k) ?_
      refine Rch.fin X879 hlk (v := some (.int q2)) (fun h => by rw [hret] at h; cases h) e879 (by decide) (by decide) (fun fs hr => retI X879 hx hret (hb hby d77_140) hr) ?_
      have e : own_take co nx pv fb pd ip cc pc = ((own_st co q2 cc), (own_st nx1 q2 (-1 : Int32)), (own_st pv1 q2 (-1 : Int32)), (own_st fb1 cc q2), pd, (own_st ip q1 (0 : Int32)), (cc + (1 : Int32)), (pc - (1 : Int32))) := by simp only [own_take, own_tk, hsp, hq1, hlv, br739, ↓reduceIte]
      refine ⟨by rw [hsp], N879, z900, ?_⟩
      rw [e]
      exact ⟨⟨f880, f882, f883, f884, f885, f886, f887, f888, f889, f890⟩, ⟨f881, f891, f892⟩, ⟨⟨_, f893, (own_ls l_co)⟩, ⟨_, f898, (own_ls l715_nx)⟩, ⟨_, V879, (own_ls l715_pv)⟩, ⟨_, f899, (own_ls l715_fb)⟩, ⟨_, f894, l_pd⟩, ⟨_, f895, (own_ls l_ip)⟩, ⟨_, f896, l_fi⟩, ⟨_, f897, l_en⟩⟩, o0, o1, o2, o3, o4, o5, o6, o7, o8, o9⟩
    ·
      refine Rch.go (U' := T736.setTop (mkF m 91 #[rv a1, iv q1, iv q2, iv q3, iv q2, uv] [])) (fun _ k => XS.icmpYes X736.here hx rfl (pc0 := 71) (pc' := 91) rfl (hb hby d77_71) rfl (XT.ii_ne_t br739) (by decide) (by decide) k) ?_
      refine Rch.go (U' := T736.setTop (mkF m 92 #[rv a1, iv q1, iv q2, iv q3, iv q2, uv] [(.ref a1)])) (fun _ k => XS.aloadN X736.here hx rfl (hb hby d77_91) rfl rfl k) ?_
      refine Rch.go (U' := T736.setTop (mkF m 93 #[rv a1, iv q1, iv q2, iv q3, iv q2, uv] [(.ref a1), (.ref a1)])) (fun _ k => XS.dup X736.here hx rfl (hb hby d77_92) rfl rfl k) ?_
      obtain ⟨T901, X901, e901, st901⟩ := getF X736 hx hZ hown (host := "") (Or.inl (wi hw 49 rfl)) Via.refl e736 f726 (g := (mkF m 93 #[rv a1, iv q1, iv q2, iv q3, iv q2, uv] [(.ref a1), (.ref a1)])) rfl rfl (hb hby d77_93)
      refine Rch.go (U' := T901.setTop (mkF m 96 #[rv a1, iv q1, iv q2, iv q3, iv q2, uv] [(.int cc), (.ref a1)])) st901 ?_
      refine Rch.go (U' := T901.setTop (mkF m 97 #[rv a1, iv q1, iv q2, iv q3, iv q2, uv] [(.int cc), (.ref a1), (.int cc)])) (fun _ k => XS.dupX1 X901.here hx rfl (hb hby d77_96) rfl rfl rfl k) ?_
      refine Rch.go (U' := T901.setTop (mkF m 98 #[rv a1, iv q1, iv q2, iv q3, iv q2, uv] [(.int (1 : Int32)), (.int cc), (.ref a1), (.int cc)])) (fun _ k => XS.iconst X901.here hx rfl (hb hby d77_97) k) ?_
      refine Rch.go (U' := T901.setTop (mkF m 99 #[rv a1, iv q1, iv q2, iv q3, iv q2, uv] [(.int (cc + (1 : Int32))), (.ref a1), (.int cc)])) (fun _ k => XS.iadd X901.here hx rfl (hb hby d77_98) rfl k) ?_
      obtain ⟨T902, h902, X902, e902, W902, st902⟩ := putF X901 hx hZ hown (host := "") (Or.inl (wi hw 49 rfl)) Via.refl e901 f726 f717 (Or.inl (wi hw 50 rfl)) (wi hw 28 rfl) (ty := .int) (by decide) rfl rfl (g := (mkF m 99 #[rv a1, iv q1, iv q2, iv q3, iv q2, uv] [(.int (cc + (1 : Int32))), (.ref a1), (.int cc)])) rfl rfl (hb hby d77_99)
      have F902 := f726.same W902
      have f903 := f717.wr W902
      have f904 := f718.wr W902
      have f905 := f719.other W902 (Or.inr (slot_ne (Or.inr (wi hw 35 rfl)) (Or.inl (wi hw 50 rfl)) (by decide) (t := (.object cBL)) (t' := .int) (by decide) (by decide)))
      have f906 := f720.other W902 (Or.inr (slot_ne (Or.inr (wi hw 37 rfl)) (Or.inl (wi hw 50 rfl)) (by decide) (t := (.array .int)) (t' := .int) (by decide) (by decide)))
      have f907 := f721.other W902 (Or.inr (slot_ne (Or.inr (wi hw 39 rfl)) (Or.inl (wi hw 50 rfl)) (by decide) (t := (.array .int)) (t' := .int) (by decide) (by decide)))
      have f908 := f722.other W902 (Or.inr (slot_ne (Or.inr (wi hw 41 rfl)) (Or.inl (wi hw 50 rfl)) (by decide) (t := (.array .int)) (t' := .int) (by decide) (by decide)))
      have f909 := f723.other W902 (Or.inr (slot_ne (Or.inr (wi hw 43 rfl)) (Or.inl (wi hw 50 rfl)) (by decide) (t := (.array .int)) (t' := .int) (by decide) (by decide)))
      have f910 := f724.other W902 (Or.inr (slot_ne (Or.inr (wi hw 45 rfl)) (Or.inl (wi hw 50 rfl)) (by decide) (t := (.array .int)) (t' := .int) (by decide) (by decide)))
      have f911 := f725.other W902 (Or.inr (slot_ne (Or.inr (wi hw 48 rfl)) (Or.inl (wi hw 50 rfl)) (by decide) (t := (.array .boolean)) (t' := .int) (by decide) (by decide)))
      have f912 := f727.other W902 (Or.inr (slot_ne (Or.inl (wi hw 57 rfl)) (Or.inl (wi hw 50 rfl)) (by decide) (t := .int) (t' := .int) (by decide) (by decide)))
      have f913 := f728.other W902 (Or.inl (nN (nT o1 (nT o2 o3))))
      have f914 := f729.other W902 (Or.inl (nN (nT o1 (nT o2 o3))))
      have f915 := f730.other W902 (nM o4)
      have f916 := f731.other W902 (nM (nT o4 (nT o5 (nT o6 (nT o7 o8)))))
      have f917 := f732.other W902 (nM (nT o4 (nT o5 (nT o6 (nT o7 (nT o8 o9))))))
      have f918 := f733.other W902 (nN (nT o2 o3))
      have f919 := f734.other W902 (nN o3)
      have f920 := V715_nx.other W902 (nM (nT o4 o5))
      have f921 := V715_pv.other W902 (nM (nT o4 (nT o5 o6)))
      have f922 := V715_fb.other W902 (nM (nT o4 (nT o5 (nT o6 o7))))
      have N902 := Fr.snoc X902 N715 (nG o0 (nT o1 (nT o2 o3)))
      have z923 := Nat.le_trans z716 (Keep.of_wr W902).1
      refine Rch.go (U' := T902.setTop (mkF m 102 #[rv a1, iv q1, iv q2, iv q3, iv q2, uv] [(.int cc)])) st902 ?_
      refine Rch.go (U' := T902.setTop (mkF m 104 #[rv a1, iv q1, iv q2, iv q3, iv q2, iv cc] [])) (fun _ k => XS.istore X902.here hx rfl (hb hby d77_102) rfl (l' := #[rv a1, iv q1, iv q2, iv q3, iv q2, iv cc]) rfl k) ?_
      refine Rch.go (U' := T902.setTop (mkF m 105 #[rv a1, iv q1, iv q2, iv q3, iv q2, iv cc] [(.ref a1)])) (fun _ k => XS.aloadN X902.here hx rfl (hb hby d77_104) rfl rfl k) ?_
      obtain ⟨T924, X924, e924, st924⟩ := getF X902 hx hZ hown (host := "") (Or.inl (wi hw 36 rfl)) Via.refl e902 f906 (g := (mkF m 105 #[rv a1, iv q1, iv q2, iv q3, iv q2, iv cc] [(.ref a1)])) rfl rfl (hb hby d77_105)
      refine Rch.go (U' := T924.setTop (mkF m 108 #[rv a1, iv q1, iv q2, iv q3, iv q2, iv cc] [(.ref bco)])) st924 ?_
      refine Rch.go (U' := T924.setTop (mkF m 110 #[rv a1, iv q1, iv q2, iv q3, iv q2, iv cc] [(.int q2), (.ref bco)])) (fun _ k => XS.iload X924.here hx rfl (hb hby d77_108) rfl  k) ?_
      refine Rch.go (U' := T924.setTop (mkF m 112 #[rv a1, iv q1, iv q2, iv q3, iv q2, iv cc] [(.int cc), (.int q2), (.ref bco)])) (fun _ k => XS.iload X924.here hx rfl (hb hby d77_110) rfl  k) ?_
      obtain ⟨cl925, Ar925, qk925, Sz925, Mn925, Hs925, Gf925⟩ := id f915
      have ib925 : ¬ (q2 < 0 ∨ cl925.slots.size ≤ (q2).toNatClampNeg) := inb_of Sz925 i3
      obtain ⟨T925, h925, X925, e925, W925, st925⟩ := stI X924 hx hZ e924 Ar925 (j := q2) ib925 (g := (mkF m 112 #[rv a1, iv q1, iv q2, iv q3, iv q2, iv cc] [(.int cc), (.int q2), (.ref bco)])) rfl rfl (hb hby d77_112)
      have V925 : Arv Z h925 bco k_co .int (4 : Int32) ((own_st co q2 cc).map Value.int) (.int (0 : Int32)) := own_sx (Arv.set Ar925 qk925 Sz925 Mn925 Hs925 Gf925 rfl W925 _ rfl (own_ln i3 l_co))
      have f926 := f903.wr W925
      have f927 := f904.wr W925
      have f928 := f905.other W925 (Or.inl (nN o4))
      have f929 := f906.other W925 (Or.inl (nN o4))
      have f930 := f907.other W925 (Or.inl (nN o4))
      have f931 := f908.other W925 (Or.inl (nN o4))
      have f932 := f909.other W925 (Or.inl (nN o4))
      have f933 := f910.other W925 (Or.inl (nN o4))
      have f934 := f911.other W925 (Or.inl (nN o4))
      have f935 := F902.other W925 (Or.inl (nN o4))
      have f936 := f912.other W925 (Or.inl (nN o4))
      have f937 := f913.other W925 (Or.inl (nN (nT o1 (nT o2 (nT o3 o4)))))
      have f938 := f914.other W925 (Or.inl (nN (nT o1 (nT o2 (nT o3 o4)))))
      have f939 := f916.other W925 (nM (nT o5 (nT o6 (nT o7 o8))))
      have f940 := f917.other W925 (nM (nT o5 (nT o6 (nT o7 (nT o8 o9)))))
      have f941 := f918.other W925 (nN (nT o2 (nT o3 o4)))
      have f942 := f919.other W925 (nN (nT o3 o4))
      have f943 := f920.other W925 (nM o5)
      have f944 := f921.other W925 (nM (nT o5 o6))
      have f945 := f922.other W925 (nM (nT o5 (nT o6 o7)))
      have N925 := Fr.snoc X925 N902 (nG o0 (nT o1 (nT o2 (nT o3 o4))))
      have z946 := Nat.le_trans z923 (Keep.of_wr W925).1
      refine Rch.go (U' := T925.setTop (mkF m 113 #[rv a1, iv q1, iv q2, iv q3, iv q2, iv cc] [])) st925 ?_
      refine Rch.go (U' := T925.setTop (mkF m 114 #[rv a1, iv q1, iv q2, iv q3, iv q2, iv cc] [(.ref a1)])) (fun _ k => XS.aloadN X925.here hx rfl (hb hby d77_113) rfl rfl k) ?_
      obtain ⟨T947, X947, e947, st947⟩ := getF X925 hx hZ hown (host := "") (Or.inl (wi hw 42 rfl)) Via.refl e925 f932 (g := (mkF m 114 #[rv a1, iv q1, iv q2, iv q3, iv q2, iv cc] [(.ref a1)])) rfl rfl (hb hby d77_114)
      refine Rch.go (U' := T947.setTop (mkF m 117 #[rv a1, iv q1, iv q2, iv q3, iv q2, iv cc] [(.ref bfb)])) st947 ?_
      refine Rch.go (U' := T947.setTop (mkF m 119 #[rv a1, iv q1, iv q2, iv q3, iv q2, iv cc] [(.int cc), (.ref bfb)])) (fun _ k => XS.iload X947.here hx rfl (hb hby d77_117) rfl  k) ?_
      refine Rch.go (U' := T947.setTop (mkF m 121 #[rv a1, iv q1, iv q2, iv q3, iv q2, iv cc] [(.int q2), (.int cc), (.ref bfb)])) (fun _ k => XS.iload X947.here hx rfl (hb hby d77_119) rfl  k) ?_
      obtain ⟨cl948, Ar948, qk948, Sz948, Mn948, Hs948, Gf948⟩ := id f945
      have ib948 : ¬ (cc < 0 ∨ cl948.slots.size ≤ (cc).toNatClampNeg) := inb_of Sz948 i7
      obtain ⟨T948, h948, X948, e948, W948, st948⟩ := stI X947 hx hZ e947 Ar948 (j := cc) ib948 (g := (mkF m 121 #[rv a1, iv q1, iv q2, iv q3, iv q2, iv cc] [(.int q2), (.int cc), (.ref bfb)])) rfl rfl (hb hby d77_121)
      have V948 : Arv Z h948 bfb k715_fb .int (4 : Int32) ((own_st fb1 cc q2).map Value.int) (.int (0 : Int32)) := own_sx (Arv.set Ar948 qk948 Sz948 Mn948 Hs948 Gf948 rfl W948 _ rfl (own_ln i7 l715_fb))
      have f949 := f926.wr W948
      have f950 := f927.wr W948
      have f951 := f928.other W948 (Or.inl (nN (nT o4 (nT o5 (nT o6 o7)))))
      have f952 := f929.other W948 (Or.inl (nN (nT o4 (nT o5 (nT o6 o7)))))
      have f953 := f930.other W948 (Or.inl (nN (nT o4 (nT o5 (nT o6 o7)))))
      have f954 := f931.other W948 (Or.inl (nN (nT o4 (nT o5 (nT o6 o7)))))
      have f955 := f932.other W948 (Or.inl (nN (nT o4 (nT o5 (nT o6 o7)))))
      have f956 := f933.other W948 (Or.inl (nN (nT o4 (nT o5 (nT o6 o7)))))
      have f957 := f934.other W948 (Or.inl (nN (nT o4 (nT o5 (nT o6 o7)))))
      have f958 := f935.other W948 (Or.inl (nN (nT o4 (nT o5 (nT o6 o7)))))
      have f959 := f936.other W948 (Or.inl (nN (nT o4 (nT o5 (nT o6 o7)))))
      have f960 := f937.other W948 (Or.inl (nN (nT o1 (nT o2 (nT o3 (nT o4 (nT o5 (nT o6 o7))))))))
      have f961 := f938.other W948 (Or.inl (nN (nT o1 (nT o2 (nT o3 (nT o4 (nT o5 (nT o6 o7))))))))
      have f962 := V925.other W948 (nN (nT o5 (nT o6 o7)))
      have f963 := f939.other W948 (nM o8)
      have f964 := f940.other W948 (nM (nT o8 o9))
      have f965 := f941.other W948 (nN (nT o2 (nT o3 (nT o4 (nT o5 (nT o6 o7))))))
      have f966 := f942.other W948 (nN (nT o3 (nT o4 (nT o5 (nT o6 o7)))))
      have f967 := f943.other W948 (nN (nT o6 o7))
      have f968 := f944.other W948 (nN o7)
      have N948 := Fr.snoc X948 N925 (nG o0 (nT o1 (nT o2 (nT o3 (nT o4 (nT o5 (nT o6 o7)))))))
      have z969 := Nat.le_trans z946 (Keep.of_wr W948).1
      refine Rch.go (U' := T948.setTop (mkF m 122 #[rv a1, iv q1, iv q2, iv q3, iv q2, iv cc] [])) st948 ?_
      refine Rch.go (U' := T948.setTop (mkF m 123 #[rv a1, iv q1, iv q2, iv q3, iv q2, iv cc] [(.ref a1)])) (fun _ k => XS.aloadN X948.here hx rfl (hb hby d77_122) rfl rfl k) ?_
      obtain ⟨T970, X970, e970, st970⟩ := getF X948 hx hZ hown (host := "") (Or.inl (wi hw 38 rfl)) Via.refl e948 f953 (g := (mkF m 123 #[rv a1, iv q1, iv q2, iv q3, iv q2, iv cc] [(.ref a1)])) rfl rfl (hb hby d77_123)
      refine Rch.go (U' := T970.setTop (mkF m 126 #[rv a1, iv q1, iv q2, iv q3, iv q2, iv cc] [(.ref bnx)])) st970 ?_
      refine Rch.go (U' := T970.setTop (mkF m 128 #[rv a1, iv q1, iv q2, iv q3, iv q2, iv cc] [(.int q2), (.ref bnx)])) (fun _ k => XS.iload X970.here hx rfl (hb hby d77_126) rfl  k) ?_
      refine Rch.go (U' := T970.setTop (mkF m 129 #[rv a1, iv q1, iv q2, iv q3, iv q2, iv cc] [(.int (-1 : Int32)), (.int q2), (.ref bnx)])) (fun _ k => XS.iconst X970.here hx rfl (hb hby d77_128) k) ?_
      obtain ⟨cl971, Ar971, qk971, Sz971, Mn971, Hs971, Gf971⟩ := id f967
      have ib971 : ¬ (q2 < 0 ∨ cl971.slots.size ≤ (q2).toNatClampNeg) := inb_of Sz971 i3
      obtain ⟨T971, h971, X971, e971, W971, st971⟩ := stI X970 hx hZ e970 Ar971 (j := q2) ib971 (g := (mkF m 129 #[rv a1, iv q1, iv q2, iv q3, iv q2, iv cc] [(.int (-1 : Int32)), (.int q2), (.ref bnx)])) rfl rfl (hb hby d77_129)
      have V971 : Arv Z h971 bnx k715_nx .int (4 : Int32) ((own_st nx1 q2 (-1 : Int32)).map Value.int) (.int (0 : Int32)) := own_sx (Arv.set Ar971 qk971 Sz971 Mn971 Hs971 Gf971 rfl W971 _ rfl (own_ln i3 l715_nx))
      have f972 := f949.wr W971
      have f973 := f950.wr W971
      have f974 := f951.other W971 (Or.inl (nN (nT o4 o5)))
      have f975 := f952.other W971 (Or.inl (nN (nT o4 o5)))
      have f976 := f953.other W971 (Or.inl (nN (nT o4 o5)))
      have f977 := f954.other W971 (Or.inl (nN (nT o4 o5)))
      have f978 := f955.other W971 (Or.inl (nN (nT o4 o5)))
      have f979 := f956.other W971 (Or.inl (nN (nT o4 o5)))
      have f980 := f957.other W971 (Or.inl (nN (nT o4 o5)))
      have f981 := f958.other W971 (Or.inl (nN (nT o4 o5)))
      have f982 := f959.other W971 (Or.inl (nN (nT o4 o5)))
      have f983 := f960.other W971 (Or.inl (nN (nT o1 (nT o2 (nT o3 (nT o4 o5))))))
      have f984 := f961.other W971 (Or.inl (nN (nT o1 (nT o2 (nT o3 (nT o4 o5))))))
      have f985 := f962.other W971 (nN o5)
      have f986 := f963.other W971 (nM (nT o6 (nT o7 o8)))
      have f987 := f964.other W971 (nM (nT o6 (nT o7 (nT o8 o9))))
      have f988 := f965.other W971 (nN (nT o2 (nT o3 (nT o4 o5))))
      have f989 := f966.other W971 (nN (nT o3 (nT o4 o5)))
      have f990 := f968.other W971 (nM o6)
      have f991 := V948.other W971 (nM (nT o6 o7))
      have N971 := Fr.snoc X971 N948 (nG o0 (nT o1 (nT o2 (nT o3 (nT o4 o5)))))
      have z992 := Nat.le_trans z969 (Keep.of_wr W971).1
      refine Rch.go (U' := T971.setTop (mkF m 130 #[rv a1, iv q1, iv q2, iv q3, iv q2, iv cc] [])) st971 ?_
      refine Rch.go (U' := T971.setTop (mkF m 131 #[rv a1, iv q1, iv q2, iv q3, iv q2, iv cc] [(.ref a1)])) (fun _ k => XS.aloadN X971.here hx rfl (hb hby d77_130) rfl rfl k) ?_
      obtain ⟨T993, X993, e993, st993⟩ := getF X971 hx hZ hown (host := "") (Or.inl (wi hw 40 rfl)) Via.refl e971 f977 (g := (mkF m 131 #[rv a1, iv q1, iv q2, iv q3, iv q2, iv cc] [(.ref a1)])) rfl rfl (hb hby d77_131)
      refine Rch.go (U' := T993.setTop (mkF m 134 #[rv a1, iv q1, iv q2, iv q3, iv q2, iv cc] [(.ref bpv)])) st993 ?_
      refine Rch.go (U' := T993.setTop (mkF m 136 #[rv a1, iv q1, iv q2, iv q3, iv q2, iv cc] [(.int q2), (.ref bpv)])) (fun _ k => XS.iload X993.here hx rfl (hb hby d77_134) rfl  k) ?_
      refine Rch.go (U' := T993.setTop (mkF m 137 #[rv a1, iv q1, iv q2, iv q3, iv q2, iv cc] [(.int (-1 : Int32)), (.int q2), (.ref bpv)])) (fun _ k => XS.iconst X993.here hx rfl (hb hby d77_136) k) ?_
      obtain ⟨cl994, Ar994, qk994, Sz994, Mn994, Hs994, Gf994⟩ := id f990
      have ib994 : ¬ (q2 < 0 ∨ cl994.slots.size ≤ (q2).toNatClampNeg) := inb_of Sz994 i3
      obtain ⟨T994, h994, X994, e994, W994, st994⟩ := stI X993 hx hZ e993 Ar994 (j := q2) ib994 (g := (mkF m 137 #[rv a1, iv q1, iv q2, iv q3, iv q2, iv cc] [(.int (-1 : Int32)), (.int q2), (.ref bpv)])) rfl rfl (hb hby d77_137)
      have V994 : Arv Z h994 bpv k715_pv .int (4 : Int32) ((own_st pv1 q2 (-1 : Int32)).map Value.int) (.int (0 : Int32)) := own_sx (Arv.set Ar994 qk994 Sz994 Mn994 Hs994 Gf994 rfl W994 _ rfl (own_ln i3 l715_pv))
      have f995 := f972.wr W994
      have f996 := f973.wr W994
      have f997 := f974.other W994 (Or.inl (nN (nT o4 (nT o5 o6))))
      have f998 := f975.other W994 (Or.inl (nN (nT o4 (nT o5 o6))))
      have f999 := f976.other W994 (Or.inl (nN (nT o4 (nT o5 o6))))
      have f1000 := f977.other W994 (Or.inl (nN (nT o4 (nT o5 o6))))
      have f1001 := f978.other W994 (Or.inl (nN (nT o4 (nT o5 o6))))
      have f1002 := f979.other W994 (Or.inl (nN (nT o4 (nT o5 o6))))
      have f1003 := f980.other W994 (Or.inl (nN (nT o4 (nT o5 o6))))
      have f1004 := f981.other W994 (Or.inl (nN (nT o4 (nT o5 o6))))
      have f1005 := f982.other W994 (Or.inl (nN (nT o4 (nT o5 o6))))
      have f1006 := f983.other W994 (Or.inl (nN (nT o1 (nT o2 (nT o3 (nT o4 (nT o5 o6)))))))
      have f1007 := f984.other W994 (Or.inl (nN (nT o1 (nT o2 (nT o3 (nT o4 (nT o5 o6)))))))
      have f1008 := f985.other W994 (nN (nT o5 o6))
      have f1009 := f986.other W994 (nM (nT o7 o8))
      have f1010 := f987.other W994 (nM (nT o7 (nT o8 o9)))
      have f1011 := f988.other W994 (nN (nT o2 (nT o3 (nT o4 (nT o5 o6)))))
      have f1012 := f989.other W994 (nN (nT o3 (nT o4 (nT o5 o6))))
      have f1013 := V971.other W994 (nN o6)
      have f1014 := f991.other W994 (nM o7)
      have N994 := Fr.snoc X994 N971 (nG o0 (nT o1 (nT o2 (nT o3 (nT o4 (nT o5 o6))))))
      have z1015 := Nat.le_trans z992 (Keep.of_wr W994).1
      refine Rch.go (U' := T994.setTop (mkF m 138 #[rv a1, iv q1, iv q2, iv q3, iv q2, iv cc] [])) st994 ?_
      refine Rch.go (U' := T994.setTop (mkF m 140 #[rv a1, iv q1, iv q2, iv q3, iv q2, iv cc] [(.int q2)])) (fun _ k => XS.iload X994.here hx rfl (hb hby d77_138) rfl  k) ?_
      refine Rch.fin X994 hlk (v := some (.int q2)) (fun h => by rw [hret] at h; cases h) e994 (by decide) (by decide) (fun fs hr => retI X994 hx hret (hb hby d77_140) hr) ?_
      have e : own_take co nx pv fb pd ip cc pc = ((own_st co q2 cc), (own_st nx1 q2 (-1 : Int32)), (own_st pv1 q2 (-1 : Int32)), (own_st fb1 cc q2), pd, ip, (cc + (1 : Int32)), pc) := by simp only [own_take, own_tk, hsp, hq1, hlv, br739, ↓reduceIte]
      refine ⟨by rw [hsp], N994, z1015, ?_⟩
      rw [e]
      exact ⟨⟨f995, f997, f998, f999, f1000, f1001, f1002, f1003, f1004, f1005⟩, ⟨f996, f1006, f1007⟩, ⟨⟨_, f1008, (own_ls l_co)⟩, ⟨_, f1013, (own_ls l715_nx)⟩, ⟨_, V994, (own_ls l715_pv)⟩, ⟨_, f1014, (own_ls l715_fb)⟩, ⟨_, f1009, l_pd⟩, ⟨_, f1010, l_ip⟩, ⟨_, f1011, l_fi⟩, ⟨_, f1012, l_en⟩⟩, o0, o1, o2, o3, o4, o5, o6, o7, o8, o9⟩
theorem d6_0 : decode prog_12_method_1_code 0 = .ok (.aload_n 0, 1) := by decide +kernel
theorem d6_1 : decode prog_12_method_1_code 1 = .ok (.invokespecial 1, 3) := by decide +kernel
theorem d6_4 : decode prog_12_method_1_code 4 = .ok (.aload_n 0, 1) := by decide +kernel
theorem d6_5 : decode prog_12_method_1_code 5 = .ok (.iload_n 1, 1) := by decide +kernel
theorem d6_6 : decode prog_12_method_1_code 6 = .ok (.newarray .int, 2) := by decide +kernel
theorem d6_8 : decode prog_12_method_1_code 8 = .ok (.putfield 7, 3) := by decide +kernel
theorem d6_11 : decode prog_12_method_1_code 11 = .ok (.aload_n 0, 1) := by decide +kernel
theorem d6_12 : decode prog_12_method_1_code 12 = .ok (.iload_n 1, 1) := by decide +kernel
theorem d6_13 : decode prog_12_method_1_code 13 = .ok (.newarray .int, 2) := by decide +kernel
theorem d6_15 : decode prog_12_method_1_code 15 = .ok (.putfield 13, 3) := by decide +kernel
theorem d6_18 : decode prog_12_method_1_code 18 = .ok (.aload_n 0, 1) := by decide +kernel
theorem d6_19 : decode prog_12_method_1_code 19 = .ok (.iload_n 1, 1) := by decide +kernel
theorem d6_20 : decode prog_12_method_1_code 20 = .ok (.newarray .int, 2) := by decide +kernel
theorem d6_22 : decode prog_12_method_1_code 22 = .ok (.putfield 16, 3) := by decide +kernel
theorem d6_25 : decode prog_12_method_1_code 25 = .ok (.iconst 0, 1) := by decide +kernel
theorem d6_26 : decode prog_12_method_1_code 26 = .ok (.istore_n 2, 1) := by decide +kernel
theorem d6_27 : decode prog_12_method_1_code 27 = .ok (.iload_n 2, 1) := by decide +kernel
theorem d6_28 : decode prog_12_method_1_code 28 = .ok (.iload_n 1, 1) := by decide +kernel
theorem d6_29 : decode prog_12_method_1_code 29 = .ok (.if_icmp .ge 23, 3) := by decide +kernel
theorem d6_32 : decode prog_12_method_1_code 32 = .ok (.aload_n 0, 1) := by decide +kernel
theorem d6_33 : decode prog_12_method_1_code 33 = .ok (.getfield 7, 3) := by decide +kernel
theorem d6_36 : decode prog_12_method_1_code 36 = .ok (.iload_n 2, 1) := by decide +kernel
theorem d6_37 : decode prog_12_method_1_code 37 = .ok (.iload_n 2, 1) := by decide +kernel
theorem d6_38 : decode prog_12_method_1_code 38 = .ok (.iastore, 1) := by decide +kernel
theorem d6_39 : decode prog_12_method_1_code 39 = .ok (.aload_n 0, 1) := by decide +kernel
theorem d6_40 : decode prog_12_method_1_code 40 = .ok (.getfield 13, 3) := by decide +kernel
theorem d6_43 : decode prog_12_method_1_code 43 = .ok (.iload_n 2, 1) := by decide +kernel
theorem d6_44 : decode prog_12_method_1_code 44 = .ok (.iload_n 2, 1) := by decide +kernel
theorem d6_45 : decode prog_12_method_1_code 45 = .ok (.iastore, 1) := by decide +kernel
theorem d6_46 : decode prog_12_method_1_code 46 = .ok (.iinc 2 1, 3) := by decide +kernel
theorem d6_49 : decode prog_12_method_1_code 49 = .ok (.goto (-22), 3) := by decide +kernel
theorem d6_52 : decode prog_12_method_1_code 52 = .ok (.aload_n 0, 1) := by decide +kernel
theorem d6_53 : decode prog_12_method_1_code 53 = .ok (.iload_n 1, 1) := by decide +kernel
theorem d6_54 : decode prog_12_method_1_code 54 = .ok (.newarray .int, 2) := by decide +kernel
theorem d6_56 : decode prog_12_method_1_code 56 = .ok (.putfield 19, 3) := by decide +kernel
theorem d6_59 : decode prog_12_method_1_code 59 = .ok (.aload_n 0, 1) := by decide +kernel
theorem d6_60 : decode prog_12_method_1_code 60 = .ok (.iload_n 1, 1) := by decide +kernel
theorem d6_61 : decode prog_12_method_1_code 61 = .ok (.newarray .int, 2) := by decide +kernel
theorem d6_63 : decode prog_12_method_1_code 63 = .ok (.putfield 22, 3) := by decide +kernel
theorem d6_66 : decode prog_12_method_1_code 66 = .ok (.aload_n 0, 1) := by decide +kernel
theorem d6_67 : decode prog_12_method_1_code 67 = .ok (.iload_n 1, 1) := by decide +kernel
theorem d6_68 : decode prog_12_method_1_code 68 = .ok (.newarray .int, 2) := by decide +kernel
theorem d6_70 : decode prog_12_method_1_code 70 = .ok (.putfield 25, 3) := by decide +kernel
theorem d6_73 : decode prog_12_method_1_code 73 = .ok (.aload_n 0, 1) := by decide +kernel
theorem d6_74 : decode prog_12_method_1_code 74 = .ok (.iload_n 1, 1) := by decide +kernel
theorem d6_75 : decode prog_12_method_1_code 75 = .ok (.newarray .int, 2) := by decide +kernel
theorem d6_77 : decode prog_12_method_1_code 77 = .ok (.putfield 28, 3) := by decide +kernel
theorem d6_80 : decode prog_12_method_1_code 80 = .ok (.iload_n 1, 1) := by decide +kernel
theorem d6_81 : decode prog_12_method_1_code 81 = .ok (.ifCond .le 15, 3) := by decide +kernel
theorem d6_84 : decode prog_12_method_1_code 84 = .ok (.aload_n 0, 1) := by decide +kernel
theorem d6_85 : decode prog_12_method_1_code 85 = .ok (.getfield 22, 3) := by decide +kernel
theorem d6_88 : decode prog_12_method_1_code 88 = .ok (.iconst 0, 1) := by decide +kernel
theorem d6_89 : decode prog_12_method_1_code 89 = .ok (.iload_n 1, 1) := by decide +kernel
theorem d6_90 : decode prog_12_method_1_code 90 = .ok (.iastore, 1) := by decide +kernel
theorem d6_91 : decode prog_12_method_1_code 91 = .ok (.aload_n 0, 1) := by decide +kernel
theorem d6_92 : decode prog_12_method_1_code 92 = .ok (.iconst 1, 1) := by decide +kernel
theorem d6_93 : decode prog_12_method_1_code 93 = .ok (.putfield 31, 3) := by decide +kernel
theorem d6_96 : decode prog_12_method_1_code 96 = .ok (.return_, 1) := by decide +kernel
theorem pd_10 : parseMethodDescriptor "()V" = some ⟨[], none⟩ := by decide +kernel
theorem ef_rmB (m : MethodId) (a2 : Addr) : entryFrame m #[(.ref a2), (.int (4 : Int32))] 3 = mkF m 0 #[rv a2, iv (4 : Int32), uv] [] := by first | (simp [entryFrame, mkF, argsToLocals, Value.category]; done) | rfl
def Q_rmB (Z : State) (a2 : Addr) (h0 : Heap) (n0 : Nat) (v : Option Value) (h : Heap) (L : List Loc) : Prop := ∃ bfi ben : Addr, v = none ∧ Fr n0 L ∧ n0 ≤ h.size ∧ Exa Z h a2 cBL ∧ Fld Z h a2 cBL "first" "[I" (.ref bfi) ∧ Fld Z h a2 cBL "end" "[I" (.ref ben) ∧ Ar4 Z h bfi .int [0, 0, 0, 0] ∧ Ar4 Z h ben .int [4, 0, 0, 0] ∧ @LT.lt Nat _ a2 bfi ∧ @LT.lt Nat _ bfi ben ∧ @LT.lt Nat _ ben h.size
set_option maxRecDepth 65536 in
set_option maxHeartbeats 40000000 in
theorem rmB (l : Launch) (Z : State) (a0 : Array Value) (hw : ∀ d ∈ tables_1, d.before a0 Z = true) (ws : List Jvm.Cond) (a2 : Addr) (h0 : Heap) (n0 : Nat) (Z0 : n0 ≤ h0.size) (E_a2 : Exa Z h0 a2 cBL) (F_a2_elements : Fld Z h0 a2 cBL "elements" "[I" .null) (F_a2_location : Fld Z h0 a2 cBL "location" "[I" .null) (F_a2_blockOf : Fld Z h0 a2 cBL "blockOf" "[I" .null) (F_a2_first : Fld Z h0 a2 cBL "first" "[I" .null) (F_a2_end : Fld Z h0 a2 cBL "end" "[I" .null) (F_a2_markedEnd : Fld Z h0 a2 cBL "markedEnd" "[I" .null) (F_a2_touched : Fld Z h0 a2 cBL "touched" "[I" .null) (F_a2_blockCount : Fld Z h0 a2 cBL "blockCount" "I" (.int (0 : Int32))) (g_a2 : n0 ≤ a2) :
    MetFree l yb (head1 (Jvm.Cond.code yb prog_12_method_1_code 3 none :: ws) ({ frames := 1, cells := 7, slots := 28, locals := 12 } : Room)) (fun a_ U => a_ = #[(.ref a2), (.int (4 : Int32))] ∧ Z.Warmed39 U.vm ∧ U.heap = h0) (fun _ _ _ _ _ => True) (fun _ U o U' => ∃ v L, o = .returned v ∧ Q_rmB Z a2 h0 n0 v U'.heap L ∧ FrameEnd U o U' L ({ frames := 1, cells := 7, slots := 28, locals := 12 } : Room).cells ({ frames := 1, cells := 7, slots := 28, locals := 12 } : Room).slots) := by
  refine MetFree.of_bodySF (plainFor_of_name pn_com_example_fixpoints_of_behaviour_fixpointsofbehaviour_bisimulation_Blocks) hisR ?_
  intro p e s m args below meth c s₁ Bd hml0 hP hK
  obtain ⟨rfl, hZ, hh⟩ := hP
  have hx := Bd.exec
  have hby := Bd.bytes
  have hml : c.maxLocals = 3 := hml0
  have hown : s.vm.findClass cBL = some m.cls := findClass_of_methodNamed Bd.named
  have hnm := (name_of_methodNamed Bd.named Bd.method).1
  have hret := Bd.returns
  have hlk : meth.locks = false := BodyLoose.notSynchronized Bd
  have X0 : Stand p l e ({ frames := 1, cells := 7, slots := 28, locals := 12 } : Room) s m #[(.ref a2), (.int (4 : Int32))] below meth c s₁ [] 0 0 := Stand.of_body Bd
  have e0 : s₁.heap = h0 := by rw [← hh, Bd.state]; rfl
  have N0 := Fr.nil n0
  refine Rch.body (Q := Q_rmB Z a2 h0 n0) (U' := s₁.setTop (mkF m 0 #[rv a2, iv (4 : Int32), uv] [])) (fun _ k => castTop (ef_rmB m a2) k) ?_
  refine Rch.go (U' := s₁.setTop (mkF m 1 #[rv a2, iv (4 : Int32), uv] [(.ref a2)])) (fun _ k => XS.aloadN X0.here hx rfl (hb hby d6_0) rfl rfl k) ?_
  obtain ⟨T1016, X1016, e1016, st1016⟩ := initO X0 hx hZ hown (wi hw 7 rfl) (wi hw 8 rfl) (wi hw 9 rfl) e0 (g := (mkF m 1 #[rv a2, iv (4 : Int32), uv] [(.ref a2)])) rfl (by rw [hml]; rfl) rfl (hb hby d6_1) (by decide) (W := 0) (by show 2 * 0 + _ ≤ _; exact Nat.le_of_eq rfl) (by decide)
  refine Rch.go (U' := T1016.setTop (mkF m 4 #[rv a2, iv (4 : Int32), uv] [])) st1016 ?_
  refine Rch.go (U' := T1016.setTop (mkF m 5 #[rv a2, iv (4 : Int32), uv] [(.ref a2)])) (fun _ k => XS.aloadN X1016.here hx rfl (hb hby d6_4) rfl rfl k) ?_
  refine Rch.go (U' := T1016.setTop (mkF m 6 #[rv a2, iv (4 : Int32), uv] [(.int (4 : Int32)), (.ref a2)])) (fun _ k => XS.iloadN X1016.here hx rfl (hb hby d6_5) rfl  k) ?_
  obtain ⟨T1017, h1017, k1017, X1017, e1017, E1017, A1017, st1017⟩ := newP X1016 hx hZ (wi hw 10 rfl) e1016 (g := (mkF m 6 #[rv a2, iv (4 : Int32), uv] [(.int (4 : Int32)), (.ref a2)])) rfl (hb hby d6_6) rfl (by decide) (cap := 4) (by decide) (by decide) (by decide) (by decide)
  obtain ⟨b1017, g1017⟩ : ∃ z, z = h0.size := ⟨_, rfl⟩
  rw [← g1017] at A1017 st1017
  have lne1018 : @LT.lt Nat _ a2 b1017 := Nat.lt_of_lt_of_le E_a2.lt (Nat.le_of_eq g1017.symm)
  have ne1018 : a2 ≠ b1017 := Nat.ne_of_lt lne1018
  have n0b1017 : n0 ≤ b1017 := Nat.le_trans Z0 (Nat.le_of_eq g1017.symm)
  have f1019 := E_a2.ext E1017
  have f1020 := F_a2_elements.ext E1017
  have f1021 := F_a2_location.ext E1017
  have f1022 := F_a2_blockOf.ext E1017
  have f1023 := F_a2_first.ext E1017
  have f1024 := F_a2_end.ext E1017
  have f1025 := F_a2_markedEnd.ext E1017
  have f1026 := F_a2_touched.ext E1017
  have f1027 := F_a2_blockCount.ext E1017
  have z1028 := Nat.le_trans Z0 E1017.1
  have V1017 : Arv Z h1017 b1017 k1017 .int (4 : Int32) [(.int (0 : Int32)), (.int (0 : Int32)), (.int (0 : Int32)), (.int (0 : Int32))] (.int (0 : Int32)) := (Arv.new A1017 (by decide)).pad (pad_rep [] (.int (0 : Int32)) 4)
  refine Rch.go (U' := T1017.setTop (mkF m 8 #[rv a2, iv (4 : Int32), uv] [(.ref b1017), (.ref a2)])) st1017 ?_
  obtain ⟨T1029, h1029, X1029, e1029, W1029, st1029⟩ := putF X1017 hx hZ hown (host := "") (Or.inl (wi hw 11 rfl)) Via.refl e1017 f1020 f1019 (Or.inr ⟨(wi hw 12 rfl), rfl, hnm⟩) (wi hw 2 rfl) (ty := (.array .int)) (by decide) rfl rfl (g := (mkF m 8 #[rv a2, iv (4 : Int32), uv] [(.ref b1017), (.ref a2)])) rfl rfl (hb hby d6_8)
  have F1029 := f1020.same W1029
  have f1030 := f1019.wr W1029
  have f1031 := f1021.other W1029 (Or.inr (slot_ne (Or.inr (wi hw 14 rfl)) (Or.inr (wi hw 12 rfl)) (by decide) (t := (.array .int)) (t' := (.array .int)) (by decide) (by decide)))
  have f1032 := f1022.other W1029 (Or.inr (slot_ne (Or.inr (wi hw 16 rfl)) (Or.inr (wi hw 12 rfl)) (by decide) (t := (.array .int)) (t' := (.array .int)) (by decide) (by decide)))
  have f1033 := f1023.other W1029 (Or.inr (slot_ne (Or.inr (wi hw 18 rfl)) (Or.inr (wi hw 12 rfl)) (by decide) (t := (.array .int)) (t' := (.array .int)) (by decide) (by decide)))
  have f1034 := f1024.other W1029 (Or.inr (slot_ne (Or.inr (wi hw 20 rfl)) (Or.inr (wi hw 12 rfl)) (by decide) (t := (.array .int)) (t' := (.array .int)) (by decide) (by decide)))
  have f1035 := f1025.other W1029 (Or.inr (slot_ne (Or.inr (wi hw 22 rfl)) (Or.inr (wi hw 12 rfl)) (by decide) (t := (.array .int)) (t' := (.array .int)) (by decide) (by decide)))
  have f1036 := f1026.other W1029 (Or.inr (slot_ne (Or.inr (wi hw 24 rfl)) (Or.inr (wi hw 12 rfl)) (by decide) (t := (.array .int)) (t' := (.array .int)) (by decide) (by decide)))
  have f1037 := f1027.other W1029 (Or.inr (slot_ne (Or.inl (wi hw 26 rfl)) (Or.inr (wi hw 12 rfl)) (by decide) (t := .int) (t' := (.array .int)) (by decide) (by decide)))
  have f1038 := V1017.other W1029 (Ne.symm ne1018)
  have N1029 := Fr.snoc X1029 N0 g_a2
  have z1039 := Nat.le_trans z1028 (Keep.of_wr W1029).1
  refine Rch.go (U' := T1029.setTop (mkF m 11 #[rv a2, iv (4 : Int32), uv] [])) st1029 ?_
  refine Rch.go (U' := T1029.setTop (mkF m 12 #[rv a2, iv (4 : Int32), uv] [(.ref a2)])) (fun _ k => XS.aloadN X1029.here hx rfl (hb hby d6_11) rfl rfl k) ?_
  refine Rch.go (U' := T1029.setTop (mkF m 13 #[rv a2, iv (4 : Int32), uv] [(.int (4 : Int32)), (.ref a2)])) (fun _ k => XS.iloadN X1029.here hx rfl (hb hby d6_12) rfl  k) ?_
  obtain ⟨T1040, h1040, k1040, X1040, e1040, E1040, A1040, st1040⟩ := newP X1029 hx hZ (wi hw 10 rfl) e1029 (g := (mkF m 13 #[rv a2, iv (4 : Int32), uv] [(.int (4 : Int32)), (.ref a2)])) rfl (hb hby d6_13) rfl (by decide) (cap := 4) (by decide) (by decide) (by decide) (by decide)
  obtain ⟨b1040, g1040⟩ : ∃ z, z = h1029.size := ⟨_, rfl⟩
  rw [← g1040] at A1040 st1040
  have lne1041 : @LT.lt Nat _ a2 b1040 := Nat.lt_of_lt_of_le f1030.lt (Nat.le_of_eq g1040.symm)
  have ne1041 : a2 ≠ b1040 := Nat.ne_of_lt lne1041
  have lne1042 : @LT.lt Nat _ b1017 b1040 := Nat.lt_of_lt_of_le f1038.lt (Nat.le_of_eq g1040.symm)
  have ne1042 : b1017 ≠ b1040 := Nat.ne_of_lt lne1042
  have n0b1040 : n0 ≤ b1040 := Nat.le_trans z1039 (Nat.le_of_eq g1040.symm)
  have f1043 := f1030.ext E1040
  have f1044 := F1029.ext E1040
  have f1045 := f1031.ext E1040
  have f1046 := f1032.ext E1040
  have f1047 := f1033.ext E1040
  have f1048 := f1034.ext E1040
  have f1049 := f1035.ext E1040
  have f1050 := f1036.ext E1040
  have f1051 := f1037.ext E1040
  have f1052 := f1038.ext E1040
  have z1053 := Nat.le_trans z1039 E1040.1
  have V1040 : Arv Z h1040 b1040 k1040 .int (4 : Int32) [(.int (0 : Int32)), (.int (0 : Int32)), (.int (0 : Int32)), (.int (0 : Int32))] (.int (0 : Int32)) := (Arv.new A1040 (by decide)).pad (pad_rep [] (.int (0 : Int32)) 4)
  refine Rch.go (U' := T1040.setTop (mkF m 15 #[rv a2, iv (4 : Int32), uv] [(.ref b1040), (.ref a2)])) st1040 ?_
  obtain ⟨T1054, h1054, X1054, e1054, W1054, st1054⟩ := putF X1040 hx hZ hown (host := "") (Or.inl (wi hw 13 rfl)) Via.refl e1040 f1045 f1043 (Or.inr ⟨(wi hw 14 rfl), rfl, hnm⟩) (wi hw 2 rfl) (ty := (.array .int)) (by decide) rfl rfl (g := (mkF m 15 #[rv a2, iv (4 : Int32), uv] [(.ref b1040), (.ref a2)])) rfl rfl (hb hby d6_15)
  have F1054 := f1045.same W1054
  have f1055 := f1043.wr W1054
  have f1056 := f1044.other W1054 (Or.inr (slot_ne (Or.inr (wi hw 12 rfl)) (Or.inr (wi hw 14 rfl)) (by decide) (t := (.array .int)) (t' := (.array .int)) (by decide) (by decide)))
  have f1057 := f1046.other W1054 (Or.inr (slot_ne (Or.inr (wi hw 16 rfl)) (Or.inr (wi hw 14 rfl)) (by decide) (t := (.array .int)) (t' := (.array .int)) (by decide) (by decide)))
  have f1058 := f1047.other W1054 (Or.inr (slot_ne (Or.inr (wi hw 18 rfl)) (Or.inr (wi hw 14 rfl)) (by decide) (t := (.array .int)) (t' := (.array .int)) (by decide) (by decide)))
  have f1059 := f1048.other W1054 (Or.inr (slot_ne (Or.inr (wi hw 20 rfl)) (Or.inr (wi hw 14 rfl)) (by decide) (t := (.array .int)) (t' := (.array .int)) (by decide) (by decide)))
  have f1060 := f1049.other W1054 (Or.inr (slot_ne (Or.inr (wi hw 22 rfl)) (Or.inr (wi hw 14 rfl)) (by decide) (t := (.array .int)) (t' := (.array .int)) (by decide) (by decide)))
  have f1061 := f1050.other W1054 (Or.inr (slot_ne (Or.inr (wi hw 24 rfl)) (Or.inr (wi hw 14 rfl)) (by decide) (t := (.array .int)) (t' := (.array .int)) (by decide) (by decide)))
  have f1062 := f1051.other W1054 (Or.inr (slot_ne (Or.inl (wi hw 26 rfl)) (Or.inr (wi hw 14 rfl)) (by decide) (t := .int) (t' := (.array .int)) (by decide) (by decide)))
  have f1063 := f1052.other W1054 (Ne.symm ne1018)
  have f1064 := V1040.other W1054 (Ne.symm ne1041)
  have N1054 := Fr.snoc X1054 N1029 g_a2
  have z1065 := Nat.le_trans z1053 (Keep.of_wr W1054).1
  refine Rch.go (U' := T1054.setTop (mkF m 18 #[rv a2, iv (4 : Int32), uv] [])) st1054 ?_
  refine Rch.go (U' := T1054.setTop (mkF m 19 #[rv a2, iv (4 : Int32), uv] [(.ref a2)])) (fun _ k => XS.aloadN X1054.here hx rfl (hb hby d6_18) rfl rfl k) ?_
  refine Rch.go (U' := T1054.setTop (mkF m 20 #[rv a2, iv (4 : Int32), uv] [(.int (4 : Int32)), (.ref a2)])) (fun _ k => XS.iloadN X1054.here hx rfl (hb hby d6_19) rfl  k) ?_
  obtain ⟨T1066, h1066, k1066, X1066, e1066, E1066, A1066, st1066⟩ := newP X1054 hx hZ (wi hw 10 rfl) e1054 (g := (mkF m 20 #[rv a2, iv (4 : Int32), uv] [(.int (4 : Int32)), (.ref a2)])) rfl (hb hby d6_20) rfl (by decide) (cap := 4) (by decide) (by decide) (by decide) (by decide)
  obtain ⟨b1066, g1066⟩ : ∃ z, z = h1054.size := ⟨_, rfl⟩
  rw [← g1066] at A1066 st1066
  have lne1067 : @LT.lt Nat _ a2 b1066 := Nat.lt_of_lt_of_le f1055.lt (Nat.le_of_eq g1066.symm)
  have ne1067 : a2 ≠ b1066 := Nat.ne_of_lt lne1067
  have lne1068 : @LT.lt Nat _ b1017 b1066 := Nat.lt_of_lt_of_le f1063.lt (Nat.le_of_eq g1066.symm)
  have ne1068 : b1017 ≠ b1066 := Nat.ne_of_lt lne1068
  have lne1069 : @LT.lt Nat _ b1040 b1066 := Nat.lt_of_lt_of_le f1064.lt (Nat.le_of_eq g1066.symm)
  have ne1069 : b1040 ≠ b1066 := Nat.ne_of_lt lne1069
  have n0b1066 : n0 ≤ b1066 := Nat.le_trans z1065 (Nat.le_of_eq g1066.symm)
  have f1070 := f1055.ext E1066
  have f1071 := f1056.ext E1066
  have f1072 := F1054.ext E1066
  have f1073 := f1057.ext E1066
  have f1074 := f1058.ext E1066
  have f1075 := f1059.ext E1066
  have f1076 := f1060.ext E1066
  have f1077 := f1061.ext E1066
  have f1078 := f1062.ext E1066
  have f1079 := f1063.ext E1066
  have f1080 := f1064.ext E1066
  have z1081 := Nat.le_trans z1065 E1066.1
  have V1066 : Arv Z h1066 b1066 k1066 .int (4 : Int32) [(.int (0 : Int32)), (.int (0 : Int32)), (.int (0 : Int32)), (.int (0 : Int32))] (.int (0 : Int32)) := (Arv.new A1066 (by decide)).pad (pad_rep [] (.int (0 : Int32)) 4)
  refine Rch.go (U' := T1066.setTop (mkF m 22 #[rv a2, iv (4 : Int32), uv] [(.ref b1066), (.ref a2)])) st1066 ?_
  obtain ⟨T1082, h1082, X1082, e1082, W1082, st1082⟩ := putF X1066 hx hZ hown (host := "") (Or.inl (wi hw 15 rfl)) Via.refl e1066 f1073 f1070 (Or.inr ⟨(wi hw 16 rfl), rfl, hnm⟩) (wi hw 2 rfl) (ty := (.array .int)) (by decide) rfl rfl (g := (mkF m 22 #[rv a2, iv (4 : Int32), uv] [(.ref b1066), (.ref a2)])) rfl rfl (hb hby d6_22)
  have F1082 := f1073.same W1082
  have f1083 := f1070.wr W1082
  have f1084 := f1071.other W1082 (Or.inr (slot_ne (Or.inr (wi hw 12 rfl)) (Or.inr (wi hw 16 rfl)) (by decide) (t := (.array .int)) (t' := (.array .int)) (by decide) (by decide)))
  have f1085 := f1072.other W1082 (Or.inr (slot_ne (Or.inr (wi hw 14 rfl)) (Or.inr (wi hw 16 rfl)) (by decide) (t := (.array .int)) (t' := (.array .int)) (by decide) (by decide)))
  have f1086 := f1074.other W1082 (Or.inr (slot_ne (Or.inr (wi hw 18 rfl)) (Or.inr (wi hw 16 rfl)) (by decide) (t := (.array .int)) (t' := (.array .int)) (by decide) (by decide)))
  have f1087 := f1075.other W1082 (Or.inr (slot_ne (Or.inr (wi hw 20 rfl)) (Or.inr (wi hw 16 rfl)) (by decide) (t := (.array .int)) (t' := (.array .int)) (by decide) (by decide)))
  have f1088 := f1076.other W1082 (Or.inr (slot_ne (Or.inr (wi hw 22 rfl)) (Or.inr (wi hw 16 rfl)) (by decide) (t := (.array .int)) (t' := (.array .int)) (by decide) (by decide)))
  have f1089 := f1077.other W1082 (Or.inr (slot_ne (Or.inr (wi hw 24 rfl)) (Or.inr (wi hw 16 rfl)) (by decide) (t := (.array .int)) (t' := (.array .int)) (by decide) (by decide)))
  have f1090 := f1078.other W1082 (Or.inr (slot_ne (Or.inl (wi hw 26 rfl)) (Or.inr (wi hw 16 rfl)) (by decide) (t := .int) (t' := (.array .int)) (by decide) (by decide)))
  have f1091 := f1079.other W1082 (Ne.symm ne1018)
  have f1092 := f1080.other W1082 (Ne.symm ne1041)
  have f1093 := V1066.other W1082 (Ne.symm ne1067)
  have N1082 := Fr.snoc X1082 N1054 g_a2
  have z1094 := Nat.le_trans z1081 (Keep.of_wr W1082).1
  refine Rch.go (U' := T1082.setTop (mkF m 25 #[rv a2, iv (4 : Int32), uv] [])) st1082 ?_
  refine Rch.go (U' := T1082.setTop (mkF m 26 #[rv a2, iv (4 : Int32), uv] [(.int (0 : Int32))])) (fun _ k => XS.iconst X1082.here hx rfl (hb hby d6_25) k) ?_
  refine Rch.go (U' := T1082.setTop (mkF m 27 #[rv a2, iv (4 : Int32), iv (0 : Int32)] [])) (fun _ k => XS.istoreN X1082.here hx rfl (hb hby d6_26) rfl (l' := #[rv a2, iv (4 : Int32), iv (0 : Int32)]) rfl k) ?_
  refine Rch.go (U' := T1082.setTop (mkF m 28 #[rv a2, iv (4 : Int32), iv (0 : Int32)] [(.int (0 : Int32))])) (fun _ k => XS.iloadN X1082.here hx rfl (hb hby d6_27) rfl  k) ?_
  refine Rch.go (U' := T1082.setTop (mkF m 29 #[rv a2, iv (4 : Int32), iv (0 : Int32)] [(.int (4 : Int32)), (.int (0 : Int32))])) (fun _ k => XS.iloadN X1082.here hx rfl (hb hby d6_28) rfl  k) ?_
  have br1095 : (0 : Int32) < (4 : Int32) := (by decide)
  refine Rch.go (U' := T1082.setTop (mkF m 32 #[rv a2, iv (4 : Int32), iv (0 : Int32)] [])) (fun _ k => XS.icmpNo X1082.here hx rfl (hb hby d6_29) rfl (XT.ii_ge_f br1095) k) ?_
  refine Rch.go (U' := T1082.setTop (mkF m 33 #[rv a2, iv (4 : Int32), iv (0 : Int32)] [(.ref a2)])) (fun _ k => XS.aloadN X1082.here hx rfl (hb hby d6_32) rfl rfl k) ?_
  obtain ⟨T1096, X1096, e1096, st1096⟩ := getF X1082 hx hZ hown (host := "") (Or.inl (wi hw 11 rfl)) Via.refl e1082 f1084 (g := (mkF m 33 #[rv a2, iv (4 : Int32), iv (0 : Int32)] [(.ref a2)])) rfl rfl (hb hby d6_33)
  refine Rch.go (U' := T1096.setTop (mkF m 36 #[rv a2, iv (4 : Int32), iv (0 : Int32)] [(.ref b1017)])) st1096 ?_
  refine Rch.go (U' := T1096.setTop (mkF m 37 #[rv a2, iv (4 : Int32), iv (0 : Int32)] [(.int (0 : Int32)), (.ref b1017)])) (fun _ k => XS.iloadN X1096.here hx rfl (hb hby d6_36) rfl  k) ?_
  refine Rch.go (U' := T1096.setTop (mkF m 38 #[rv a2, iv (4 : Int32), iv (0 : Int32)] [(.int (0 : Int32)), (.int (0 : Int32)), (.ref b1017)])) (fun _ k => XS.iloadN X1096.here hx rfl (hb hby d6_37) rfl  k) ?_
  obtain ⟨cl1097, Ar1097, qk1097, Sz1097, Mn1097, Hs1097, Gf1097⟩ := id f1091
  have ib1097 : ¬ ((0 : Int32) < 0 ∨ cl1097.slots.size ≤ ((0 : Int32)).toNatClampNeg) := inb_of Sz1097 ⟨by decide, by decide⟩
  obtain ⟨T1097, h1097, X1097, e1097, W1097, st1097⟩ := stI X1096 hx hZ e1096 Ar1097 (j := (0 : Int32)) ib1097 (g := (mkF m 38 #[rv a2, iv (4 : Int32), iv (0 : Int32)] [(.int (0 : Int32)), (.int (0 : Int32)), (.ref b1017)])) rfl rfl (hb hby d6_38)
  have V1097 : Arv Z h1097 b1017 k1017 .int (4 : Int32) [(.int (0 : Int32)), (.int (0 : Int32)), (.int (0 : Int32)), (.int (0 : Int32))] (.int (0 : Int32)) := Arv.set Ar1097 qk1097 Sz1097 Mn1097 Hs1097 Gf1097 rfl W1097 0 rfl (Nat.le_of_ble_eq_true rfl)
  have f1098 := f1083.wr W1097
  have f1099 := f1084.other W1097 (Or.inl ne1018)
  have f1100 := f1085.other W1097 (Or.inl ne1018)
  have f1101 := F1082.other W1097 (Or.inl ne1018)
  have f1102 := f1086.other W1097 (Or.inl ne1018)
  have f1103 := f1087.other W1097 (Or.inl ne1018)
  have f1104 := f1088.other W1097 (Or.inl ne1018)
  have f1105 := f1089.other W1097 (Or.inl ne1018)
  have f1106 := f1090.other W1097 (Or.inl ne1018)
  have f1107 := f1092.other W1097 (Ne.symm ne1042)
  have f1108 := f1093.other W1097 (Ne.symm ne1068)
  have N1097 := Fr.snoc X1097 N1082 n0b1017
  have z1109 := Nat.le_trans z1094 (Keep.of_wr W1097).1
  refine Rch.go (U' := T1097.setTop (mkF m 39 #[rv a2, iv (4 : Int32), iv (0 : Int32)] [])) st1097 ?_
  refine Rch.go (U' := T1097.setTop (mkF m 40 #[rv a2, iv (4 : Int32), iv (0 : Int32)] [(.ref a2)])) (fun _ k => XS.aloadN X1097.here hx rfl (hb hby d6_39) rfl rfl k) ?_
  obtain ⟨T1110, X1110, e1110, st1110⟩ := getF X1097 hx hZ hown (host := "") (Or.inl (wi hw 13 rfl)) Via.refl e1097 f1100 (g := (mkF m 40 #[rv a2, iv (4 : Int32), iv (0 : Int32)] [(.ref a2)])) rfl rfl (hb hby d6_40)
  refine Rch.go (U' := T1110.setTop (mkF m 43 #[rv a2, iv (4 : Int32), iv (0 : Int32)] [(.ref b1040)])) st1110 ?_
  refine Rch.go (U' := T1110.setTop (mkF m 44 #[rv a2, iv (4 : Int32), iv (0 : Int32)] [(.int (0 : Int32)), (.ref b1040)])) (fun _ k => XS.iloadN X1110.here hx rfl (hb hby d6_43) rfl  k) ?_
  refine Rch.go (U' := T1110.setTop (mkF m 45 #[rv a2, iv (4 : Int32), iv (0 : Int32)] [(.int (0 : Int32)), (.int (0 : Int32)), (.ref b1040)])) (fun _ k => XS.iloadN X1110.here hx rfl (hb hby d6_44) rfl  k) ?_
  obtain ⟨cl1111, Ar1111, qk1111, Sz1111, Mn1111, Hs1111, Gf1111⟩ := id f1107
  have ib1111 : ¬ ((0 : Int32) < 0 ∨ cl1111.slots.size ≤ ((0 : Int32)).toNatClampNeg) := inb_of Sz1111 ⟨by decide, by decide⟩
  obtain ⟨T1111, h1111, X1111, e1111, W1111, st1111⟩ := stI X1110 hx hZ e1110 Ar1111 (j := (0 : Int32)) ib1111 (g := (mkF m 45 #[rv a2, iv (4 : Int32), iv (0 : Int32)] [(.int (0 : Int32)), (.int (0 : Int32)), (.ref b1040)])) rfl rfl (hb hby d6_45)
  have V1111 : Arv Z h1111 b1040 k1040 .int (4 : Int32) [(.int (0 : Int32)), (.int (0 : Int32)), (.int (0 : Int32)), (.int (0 : Int32))] (.int (0 : Int32)) := Arv.set Ar1111 qk1111 Sz1111 Mn1111 Hs1111 Gf1111 rfl W1111 0 rfl (Nat.le_of_ble_eq_true rfl)
  have f1112 := f1098.wr W1111
  have f1113 := f1099.other W1111 (Or.inl ne1041)
  have f1114 := f1100.other W1111 (Or.inl ne1041)
  have f1115 := f1101.other W1111 (Or.inl ne1041)
  have f1116 := f1102.other W1111 (Or.inl ne1041)
  have f1117 := f1103.other W1111 (Or.inl ne1041)
  have f1118 := f1104.other W1111 (Or.inl ne1041)
  have f1119 := f1105.other W1111 (Or.inl ne1041)
  have f1120 := f1106.other W1111 (Or.inl ne1041)
  have f1121 := V1097.other W1111 ne1042
  have f1122 := f1108.other W1111 (Ne.symm ne1069)
  have N1111 := Fr.snoc X1111 N1097 n0b1040
  have z1123 := Nat.le_trans z1109 (Keep.of_wr W1111).1
  refine Rch.go (U' := T1111.setTop (mkF m 46 #[rv a2, iv (4 : Int32), iv (0 : Int32)] [])) st1111 ?_
  refine Rch.go (U' := T1111.setTop (mkF m 49 #[rv a2, iv (4 : Int32), iv ((0 : Int32) + (1 : Int32))] [])) (fun _ k => XS.iinc X1111.here hx rfl (hb hby d6_46) rfl (l' := #[rv a2, iv (4 : Int32), iv ((0 : Int32) + (1 : Int32))]) rfl k) ?_
  rw [(by decide : ((0 : Int32) + (1 : Int32)) = (1 : Int32))]
  refine Rch.go (U' := T1111.setTop (mkF m 27 #[rv a2, iv (4 : Int32), iv (1 : Int32)] [])) (fun _ k => XS.goto X1111.here hx rfl (pc0 := 49) (pc' := 27) rfl (hb hby d6_49) (by decide) (by decide) k) ?_
  refine Rch.go (U' := T1111.setTop (mkF m 28 #[rv a2, iv (4 : Int32), iv (1 : Int32)] [(.int (1 : Int32))])) (fun _ k => XS.iloadN X1111.here hx rfl (hb hby d6_27) rfl  k) ?_
  refine Rch.go (U' := T1111.setTop (mkF m 29 #[rv a2, iv (4 : Int32), iv (1 : Int32)] [(.int (4 : Int32)), (.int (1 : Int32))])) (fun _ k => XS.iloadN X1111.here hx rfl (hb hby d6_28) rfl  k) ?_
  have br1124 : (1 : Int32) < (4 : Int32) := (by decide)
  refine Rch.go (U' := T1111.setTop (mkF m 32 #[rv a2, iv (4 : Int32), iv (1 : Int32)] [])) (fun _ k => XS.icmpNo X1111.here hx rfl (hb hby d6_29) rfl (XT.ii_ge_f br1124) k) ?_
  refine Rch.go (U' := T1111.setTop (mkF m 33 #[rv a2, iv (4 : Int32), iv (1 : Int32)] [(.ref a2)])) (fun _ k => XS.aloadN X1111.here hx rfl (hb hby d6_32) rfl rfl k) ?_
  obtain ⟨T1125, X1125, e1125, st1125⟩ := getF X1111 hx hZ hown (host := "") (Or.inl (wi hw 11 rfl)) Via.refl e1111 f1113 (g := (mkF m 33 #[rv a2, iv (4 : Int32), iv (1 : Int32)] [(.ref a2)])) rfl rfl (hb hby d6_33)
  refine Rch.go (U' := T1125.setTop (mkF m 36 #[rv a2, iv (4 : Int32), iv (1 : Int32)] [(.ref b1017)])) st1125 ?_
  refine Rch.go (U' := T1125.setTop (mkF m 37 #[rv a2, iv (4 : Int32), iv (1 : Int32)] [(.int (1 : Int32)), (.ref b1017)])) (fun _ k => XS.iloadN X1125.here hx rfl (hb hby d6_36) rfl  k) ?_
  refine Rch.go (U' := T1125.setTop (mkF m 38 #[rv a2, iv (4 : Int32), iv (1 : Int32)] [(.int (1 : Int32)), (.int (1 : Int32)), (.ref b1017)])) (fun _ k => XS.iloadN X1125.here hx rfl (hb hby d6_37) rfl  k) ?_
  obtain ⟨cl1126, Ar1126, qk1126, Sz1126, Mn1126, Hs1126, Gf1126⟩ := id f1121
  have ib1126 : ¬ ((1 : Int32) < 0 ∨ cl1126.slots.size ≤ ((1 : Int32)).toNatClampNeg) := inb_of Sz1126 ⟨by decide, by decide⟩
  obtain ⟨T1126, h1126, X1126, e1126, W1126, st1126⟩ := stI X1125 hx hZ e1125 Ar1126 (j := (1 : Int32)) ib1126 (g := (mkF m 38 #[rv a2, iv (4 : Int32), iv (1 : Int32)] [(.int (1 : Int32)), (.int (1 : Int32)), (.ref b1017)])) rfl rfl (hb hby d6_38)
  have V1126 : Arv Z h1126 b1017 k1017 .int (4 : Int32) [(.int (0 : Int32)), (.int (1 : Int32)), (.int (0 : Int32)), (.int (0 : Int32))] (.int (0 : Int32)) := Arv.set Ar1126 qk1126 Sz1126 Mn1126 Hs1126 Gf1126 rfl W1126 1 rfl (Nat.le_of_ble_eq_true rfl)
  have f1127 := f1112.wr W1126
  have f1128 := f1113.other W1126 (Or.inl ne1018)
  have f1129 := f1114.other W1126 (Or.inl ne1018)
  have f1130 := f1115.other W1126 (Or.inl ne1018)
  have f1131 := f1116.other W1126 (Or.inl ne1018)
  have f1132 := f1117.other W1126 (Or.inl ne1018)
  have f1133 := f1118.other W1126 (Or.inl ne1018)
  have f1134 := f1119.other W1126 (Or.inl ne1018)
  have f1135 := f1120.other W1126 (Or.inl ne1018)
  have f1136 := V1111.other W1126 (Ne.symm ne1042)
  have f1137 := f1122.other W1126 (Ne.symm ne1068)
  have N1126 := Fr.snoc X1126 N1111 n0b1017
  have z1138 := Nat.le_trans z1123 (Keep.of_wr W1126).1
  refine Rch.go (U' := T1126.setTop (mkF m 39 #[rv a2, iv (4 : Int32), iv (1 : Int32)] [])) st1126 ?_
  refine Rch.go (U' := T1126.setTop (mkF m 40 #[rv a2, iv (4 : Int32), iv (1 : Int32)] [(.ref a2)])) (fun _ k => XS.aloadN X1126.here hx rfl (hb hby d6_39) rfl rfl k) ?_
  obtain ⟨T1139, X1139, e1139, st1139⟩ := getF X1126 hx hZ hown (host := "") (Or.inl (wi hw 13 rfl)) Via.refl e1126 f1129 (g := (mkF m 40 #[rv a2, iv (4 : Int32), iv (1 : Int32)] [(.ref a2)])) rfl rfl (hb hby d6_40)
  refine Rch.go (U' := T1139.setTop (mkF m 43 #[rv a2, iv (4 : Int32), iv (1 : Int32)] [(.ref b1040)])) st1139 ?_
  refine Rch.go (U' := T1139.setTop (mkF m 44 #[rv a2, iv (4 : Int32), iv (1 : Int32)] [(.int (1 : Int32)), (.ref b1040)])) (fun _ k => XS.iloadN X1139.here hx rfl (hb hby d6_43) rfl  k) ?_
  refine Rch.go (U' := T1139.setTop (mkF m 45 #[rv a2, iv (4 : Int32), iv (1 : Int32)] [(.int (1 : Int32)), (.int (1 : Int32)), (.ref b1040)])) (fun _ k => XS.iloadN X1139.here hx rfl (hb hby d6_44) rfl  k) ?_
  obtain ⟨cl1140, Ar1140, qk1140, Sz1140, Mn1140, Hs1140, Gf1140⟩ := id f1136
  have ib1140 : ¬ ((1 : Int32) < 0 ∨ cl1140.slots.size ≤ ((1 : Int32)).toNatClampNeg) := inb_of Sz1140 ⟨by decide, by decide⟩
  obtain ⟨T1140, h1140, X1140, e1140, W1140, st1140⟩ := stI X1139 hx hZ e1139 Ar1140 (j := (1 : Int32)) ib1140 (g := (mkF m 45 #[rv a2, iv (4 : Int32), iv (1 : Int32)] [(.int (1 : Int32)), (.int (1 : Int32)), (.ref b1040)])) rfl rfl (hb hby d6_45)
  have V1140 : Arv Z h1140 b1040 k1040 .int (4 : Int32) [(.int (0 : Int32)), (.int (1 : Int32)), (.int (0 : Int32)), (.int (0 : Int32))] (.int (0 : Int32)) := Arv.set Ar1140 qk1140 Sz1140 Mn1140 Hs1140 Gf1140 rfl W1140 1 rfl (Nat.le_of_ble_eq_true rfl)
  have f1141 := f1127.wr W1140
  have f1142 := f1128.other W1140 (Or.inl ne1041)
  have f1143 := f1129.other W1140 (Or.inl ne1041)
  have f1144 := f1130.other W1140 (Or.inl ne1041)
  have f1145 := f1131.other W1140 (Or.inl ne1041)
  have f1146 := f1132.other W1140 (Or.inl ne1041)
  have f1147 := f1133.other W1140 (Or.inl ne1041)
  have f1148 := f1134.other W1140 (Or.inl ne1041)
  have f1149 := f1135.other W1140 (Or.inl ne1041)
  have f1150 := V1126.other W1140 ne1042
  have f1151 := f1137.other W1140 (Ne.symm ne1069)
  have N1140 := Fr.snoc X1140 N1126 n0b1040
  have z1152 := Nat.le_trans z1138 (Keep.of_wr W1140).1
  refine Rch.go (U' := T1140.setTop (mkF m 46 #[rv a2, iv (4 : Int32), iv (1 : Int32)] [])) st1140 ?_
  refine Rch.go (U' := T1140.setTop (mkF m 49 #[rv a2, iv (4 : Int32), iv ((1 : Int32) + (1 : Int32))] [])) (fun _ k => XS.iinc X1140.here hx rfl (hb hby d6_46) rfl (l' := #[rv a2, iv (4 : Int32), iv ((1 : Int32) + (1 : Int32))]) rfl k) ?_
  rw [(by decide : ((1 : Int32) + (1 : Int32)) = (2 : Int32))]
  refine Rch.go (U' := T1140.setTop (mkF m 27 #[rv a2, iv (4 : Int32), iv (2 : Int32)] [])) (fun _ k => XS.goto X1140.here hx rfl (pc0 := 49) (pc' := 27) rfl (hb hby d6_49) (by decide) (by decide) k) ?_
  refine Rch.go (U' := T1140.setTop (mkF m 28 #[rv a2, iv (4 : Int32), iv (2 : Int32)] [(.int (2 : Int32))])) (fun _ k => XS.iloadN X1140.here hx rfl (hb hby d6_27) rfl  k) ?_
  refine Rch.go (U' := T1140.setTop (mkF m 29 #[rv a2, iv (4 : Int32), iv (2 : Int32)] [(.int (4 : Int32)), (.int (2 : Int32))])) (fun _ k => XS.iloadN X1140.here hx rfl (hb hby d6_28) rfl  k) ?_
  have br1153 : (2 : Int32) < (4 : Int32) := (by decide)
  refine Rch.go (U' := T1140.setTop (mkF m 32 #[rv a2, iv (4 : Int32), iv (2 : Int32)] [])) (fun _ k => XS.icmpNo X1140.here hx rfl (hb hby d6_29) rfl (XT.ii_ge_f br1153) k) ?_
  refine Rch.go (U' := T1140.setTop (mkF m 33 #[rv a2, iv (4 : Int32), iv (2 : Int32)] [(.ref a2)])) (fun _ k => XS.aloadN X1140.here hx rfl (hb hby d6_32) rfl rfl k) ?_
  obtain ⟨T1154, X1154, e1154, st1154⟩ := getF X1140 hx hZ hown (host := "") (Or.inl (wi hw 11 rfl)) Via.refl e1140 f1142 (g := (mkF m 33 #[rv a2, iv (4 : Int32), iv (2 : Int32)] [(.ref a2)])) rfl rfl (hb hby d6_33)
  refine Rch.go (U' := T1154.setTop (mkF m 36 #[rv a2, iv (4 : Int32), iv (2 : Int32)] [(.ref b1017)])) st1154 ?_
  refine Rch.go (U' := T1154.setTop (mkF m 37 #[rv a2, iv (4 : Int32), iv (2 : Int32)] [(.int (2 : Int32)), (.ref b1017)])) (fun _ k => XS.iloadN X1154.here hx rfl (hb hby d6_36) rfl  k) ?_
  refine Rch.go (U' := T1154.setTop (mkF m 38 #[rv a2, iv (4 : Int32), iv (2 : Int32)] [(.int (2 : Int32)), (.int (2 : Int32)), (.ref b1017)])) (fun _ k => XS.iloadN X1154.here hx rfl (hb hby d6_37) rfl  k) ?_
  obtain ⟨cl1155, Ar1155, qk1155, Sz1155, Mn1155, Hs1155, Gf1155⟩ := id f1150
  have ib1155 : ¬ ((2 : Int32) < 0 ∨ cl1155.slots.size ≤ ((2 : Int32)).toNatClampNeg) := inb_of Sz1155 ⟨by decide, by decide⟩
  obtain ⟨T1155, h1155, X1155, e1155, W1155, st1155⟩ := stI X1154 hx hZ e1154 Ar1155 (j := (2 : Int32)) ib1155 (g := (mkF m 38 #[rv a2, iv (4 : Int32), iv (2 : Int32)] [(.int (2 : Int32)), (.int (2 : Int32)), (.ref b1017)])) rfl rfl (hb hby d6_38)
  have V1155 : Arv Z h1155 b1017 k1017 .int (4 : Int32) [(.int (0 : Int32)), (.int (1 : Int32)), (.int (2 : Int32)), (.int (0 : Int32))] (.int (0 : Int32)) := Arv.set Ar1155 qk1155 Sz1155 Mn1155 Hs1155 Gf1155 rfl W1155 2 rfl (Nat.le_of_ble_eq_true rfl)
  have f1156 := f1141.wr W1155
  have f1157 := f1142.other W1155 (Or.inl ne1018)
  have f1158 := f1143.other W1155 (Or.inl ne1018)
  have f1159 := f1144.other W1155 (Or.inl ne1018)
  have f1160 := f1145.other W1155 (Or.inl ne1018)
  have f1161 := f1146.other W1155 (Or.inl ne1018)
  have f1162 := f1147.other W1155 (Or.inl ne1018)
  have f1163 := f1148.other W1155 (Or.inl ne1018)
  have f1164 := f1149.other W1155 (Or.inl ne1018)
  have f1165 := V1140.other W1155 (Ne.symm ne1042)
  have f1166 := f1151.other W1155 (Ne.symm ne1068)
  have N1155 := Fr.snoc X1155 N1140 n0b1017
  have z1167 := Nat.le_trans z1152 (Keep.of_wr W1155).1
  refine Rch.go (U' := T1155.setTop (mkF m 39 #[rv a2, iv (4 : Int32), iv (2 : Int32)] [])) st1155 ?_
  refine Rch.go (U' := T1155.setTop (mkF m 40 #[rv a2, iv (4 : Int32), iv (2 : Int32)] [(.ref a2)])) (fun _ k => XS.aloadN X1155.here hx rfl (hb hby d6_39) rfl rfl k) ?_
  obtain ⟨T1168, X1168, e1168, st1168⟩ := getF X1155 hx hZ hown (host := "") (Or.inl (wi hw 13 rfl)) Via.refl e1155 f1158 (g := (mkF m 40 #[rv a2, iv (4 : Int32), iv (2 : Int32)] [(.ref a2)])) rfl rfl (hb hby d6_40)
  refine Rch.go (U' := T1168.setTop (mkF m 43 #[rv a2, iv (4 : Int32), iv (2 : Int32)] [(.ref b1040)])) st1168 ?_
  refine Rch.go (U' := T1168.setTop (mkF m 44 #[rv a2, iv (4 : Int32), iv (2 : Int32)] [(.int (2 : Int32)), (.ref b1040)])) (fun _ k => XS.iloadN X1168.here hx rfl (hb hby d6_43) rfl  k) ?_
  refine Rch.go (U' := T1168.setTop (mkF m 45 #[rv a2, iv (4 : Int32), iv (2 : Int32)] [(.int (2 : Int32)), (.int (2 : Int32)), (.ref b1040)])) (fun _ k => XS.iloadN X1168.here hx rfl (hb hby d6_44) rfl  k) ?_
  obtain ⟨cl1169, Ar1169, qk1169, Sz1169, Mn1169, Hs1169, Gf1169⟩ := id f1165
  have ib1169 : ¬ ((2 : Int32) < 0 ∨ cl1169.slots.size ≤ ((2 : Int32)).toNatClampNeg) := inb_of Sz1169 ⟨by decide, by decide⟩
  obtain ⟨T1169, h1169, X1169, e1169, W1169, st1169⟩ := stI X1168 hx hZ e1168 Ar1169 (j := (2 : Int32)) ib1169 (g := (mkF m 45 #[rv a2, iv (4 : Int32), iv (2 : Int32)] [(.int (2 : Int32)), (.int (2 : Int32)), (.ref b1040)])) rfl rfl (hb hby d6_45)
  have V1169 : Arv Z h1169 b1040 k1040 .int (4 : Int32) [(.int (0 : Int32)), (.int (1 : Int32)), (.int (2 : Int32)), (.int (0 : Int32))] (.int (0 : Int32)) := Arv.set Ar1169 qk1169 Sz1169 Mn1169 Hs1169 Gf1169 rfl W1169 2 rfl (Nat.le_of_ble_eq_true rfl)
  have f1170 := f1156.wr W1169
  have f1171 := f1157.other W1169 (Or.inl ne1041)
  have f1172 := f1158.other W1169 (Or.inl ne1041)
  have f1173 := f1159.other W1169 (Or.inl ne1041)
  have f1174 := f1160.other W1169 (Or.inl ne1041)
  have f1175 := f1161.other W1169 (Or.inl ne1041)
  have f1176 := f1162.other W1169 (Or.inl ne1041)
  have f1177 := f1163.other W1169 (Or.inl ne1041)
  have f1178 := f1164.other W1169 (Or.inl ne1041)
  have f1179 := V1155.other W1169 ne1042
  have f1180 := f1166.other W1169 (Ne.symm ne1069)
  have N1169 := Fr.snoc X1169 N1155 n0b1040
  have z1181 := Nat.le_trans z1167 (Keep.of_wr W1169).1
  refine Rch.go (U' := T1169.setTop (mkF m 46 #[rv a2, iv (4 : Int32), iv (2 : Int32)] [])) st1169 ?_
  refine Rch.go (U' := T1169.setTop (mkF m 49 #[rv a2, iv (4 : Int32), iv ((2 : Int32) + (1 : Int32))] [])) (fun _ k => XS.iinc X1169.here hx rfl (hb hby d6_46) rfl (l' := #[rv a2, iv (4 : Int32), iv ((2 : Int32) + (1 : Int32))]) rfl k) ?_
  rw [(by decide : ((2 : Int32) + (1 : Int32)) = (3 : Int32))]
  refine Rch.go (U' := T1169.setTop (mkF m 27 #[rv a2, iv (4 : Int32), iv (3 : Int32)] [])) (fun _ k => XS.goto X1169.here hx rfl (pc0 := 49) (pc' := 27) rfl (hb hby d6_49) (by decide) (by decide) k) ?_
  refine Rch.go (U' := T1169.setTop (mkF m 28 #[rv a2, iv (4 : Int32), iv (3 : Int32)] [(.int (3 : Int32))])) (fun _ k => XS.iloadN X1169.here hx rfl (hb hby d6_27) rfl  k) ?_
  refine Rch.go (U' := T1169.setTop (mkF m 29 #[rv a2, iv (4 : Int32), iv (3 : Int32)] [(.int (4 : Int32)), (.int (3 : Int32))])) (fun _ k => XS.iloadN X1169.here hx rfl (hb hby d6_28) rfl  k) ?_
  have br1182 : (3 : Int32) < (4 : Int32) := (by decide)
  refine Rch.go (U' := T1169.setTop (mkF m 32 #[rv a2, iv (4 : Int32), iv (3 : Int32)] [])) (fun _ k => XS.icmpNo X1169.here hx rfl (hb hby d6_29) rfl (XT.ii_ge_f br1182) k) ?_
  refine Rch.go (U' := T1169.setTop (mkF m 33 #[rv a2, iv (4 : Int32), iv (3 : Int32)] [(.ref a2)])) (fun _ k => XS.aloadN X1169.here hx rfl (hb hby d6_32) rfl rfl k) ?_
  obtain ⟨T1183, X1183, e1183, st1183⟩ := getF X1169 hx hZ hown (host := "") (Or.inl (wi hw 11 rfl)) Via.refl e1169 f1171 (g := (mkF m 33 #[rv a2, iv (4 : Int32), iv (3 : Int32)] [(.ref a2)])) rfl rfl (hb hby d6_33)
  refine Rch.go (U' := T1183.setTop (mkF m 36 #[rv a2, iv (4 : Int32), iv (3 : Int32)] [(.ref b1017)])) st1183 ?_
  refine Rch.go (U' := T1183.setTop (mkF m 37 #[rv a2, iv (4 : Int32), iv (3 : Int32)] [(.int (3 : Int32)), (.ref b1017)])) (fun _ k => XS.iloadN X1183.here hx rfl (hb hby d6_36) rfl  k) ?_
  refine Rch.go (U' := T1183.setTop (mkF m 38 #[rv a2, iv (4 : Int32), iv (3 : Int32)] [(.int (3 : Int32)), (.int (3 : Int32)), (.ref b1017)])) (fun _ k => XS.iloadN X1183.here hx rfl (hb hby d6_37) rfl  k) ?_
  obtain ⟨cl1184, Ar1184, qk1184, Sz1184, Mn1184, Hs1184, Gf1184⟩ := id f1179
  have ib1184 : ¬ ((3 : Int32) < 0 ∨ cl1184.slots.size ≤ ((3 : Int32)).toNatClampNeg) := inb_of Sz1184 ⟨by decide, by decide⟩
  obtain ⟨T1184, h1184, X1184, e1184, W1184, st1184⟩ := stI X1183 hx hZ e1183 Ar1184 (j := (3 : Int32)) ib1184 (g := (mkF m 38 #[rv a2, iv (4 : Int32), iv (3 : Int32)] [(.int (3 : Int32)), (.int (3 : Int32)), (.ref b1017)])) rfl rfl (hb hby d6_38)
  have V1184 : Arv Z h1184 b1017 k1017 .int (4 : Int32) [(.int (0 : Int32)), (.int (1 : Int32)), (.int (2 : Int32)), (.int (3 : Int32))] (.int (0 : Int32)) := Arv.set Ar1184 qk1184 Sz1184 Mn1184 Hs1184 Gf1184 rfl W1184 3 rfl (Nat.le_of_ble_eq_true rfl)
  have f1185 := f1170.wr W1184
  have f1186 := f1171.other W1184 (Or.inl ne1018)
  have f1187 := f1172.other W1184 (Or.inl ne1018)
  have f1188 := f1173.other W1184 (Or.inl ne1018)
  have f1189 := f1174.other W1184 (Or.inl ne1018)
  have f1190 := f1175.other W1184 (Or.inl ne1018)
  have f1191 := f1176.other W1184 (Or.inl ne1018)
  have f1192 := f1177.other W1184 (Or.inl ne1018)
  have f1193 := f1178.other W1184 (Or.inl ne1018)
  have f1194 := V1169.other W1184 (Ne.symm ne1042)
  have f1195 := f1180.other W1184 (Ne.symm ne1068)
  have N1184 := Fr.snoc X1184 N1169 n0b1017
  have z1196 := Nat.le_trans z1181 (Keep.of_wr W1184).1
  refine Rch.go (U' := T1184.setTop (mkF m 39 #[rv a2, iv (4 : Int32), iv (3 : Int32)] [])) st1184 ?_
  refine Rch.go (U' := T1184.setTop (mkF m 40 #[rv a2, iv (4 : Int32), iv (3 : Int32)] [(.ref a2)])) (fun _ k => XS.aloadN X1184.here hx rfl (hb hby d6_39) rfl rfl k) ?_
  obtain ⟨T1197, X1197, e1197, st1197⟩ := getF X1184 hx hZ hown (host := "") (Or.inl (wi hw 13 rfl)) Via.refl e1184 f1187 (g := (mkF m 40 #[rv a2, iv (4 : Int32), iv (3 : Int32)] [(.ref a2)])) rfl rfl (hb hby d6_40)
  refine Rch.go (U' := T1197.setTop (mkF m 43 #[rv a2, iv (4 : Int32), iv (3 : Int32)] [(.ref b1040)])) st1197 ?_
  refine Rch.go (U' := T1197.setTop (mkF m 44 #[rv a2, iv (4 : Int32), iv (3 : Int32)] [(.int (3 : Int32)), (.ref b1040)])) (fun _ k => XS.iloadN X1197.here hx rfl (hb hby d6_43) rfl  k) ?_
  refine Rch.go (U' := T1197.setTop (mkF m 45 #[rv a2, iv (4 : Int32), iv (3 : Int32)] [(.int (3 : Int32)), (.int (3 : Int32)), (.ref b1040)])) (fun _ k => XS.iloadN X1197.here hx rfl (hb hby d6_44) rfl  k) ?_
  obtain ⟨cl1198, Ar1198, qk1198, Sz1198, Mn1198, Hs1198, Gf1198⟩ := id f1194
  have ib1198 : ¬ ((3 : Int32) < 0 ∨ cl1198.slots.size ≤ ((3 : Int32)).toNatClampNeg) := inb_of Sz1198 ⟨by decide, by decide⟩
  obtain ⟨T1198, h1198, X1198, e1198, W1198, st1198⟩ := stI X1197 hx hZ e1197 Ar1198 (j := (3 : Int32)) ib1198 (g := (mkF m 45 #[rv a2, iv (4 : Int32), iv (3 : Int32)] [(.int (3 : Int32)), (.int (3 : Int32)), (.ref b1040)])) rfl rfl (hb hby d6_45)
  have V1198 : Arv Z h1198 b1040 k1040 .int (4 : Int32) [(.int (0 : Int32)), (.int (1 : Int32)), (.int (2 : Int32)), (.int (3 : Int32))] (.int (0 : Int32)) := Arv.set Ar1198 qk1198 Sz1198 Mn1198 Hs1198 Gf1198 rfl W1198 3 rfl (Nat.le_of_ble_eq_true rfl)
  have f1199 := f1185.wr W1198
  have f1200 := f1186.other W1198 (Or.inl ne1041)
  have f1201 := f1187.other W1198 (Or.inl ne1041)
  have f1202 := f1188.other W1198 (Or.inl ne1041)
  have f1203 := f1189.other W1198 (Or.inl ne1041)
  have f1204 := f1190.other W1198 (Or.inl ne1041)
  have f1205 := f1191.other W1198 (Or.inl ne1041)
  have f1206 := f1192.other W1198 (Or.inl ne1041)
  have f1207 := f1193.other W1198 (Or.inl ne1041)
  have f1208 := V1184.other W1198 ne1042
  have f1209 := f1195.other W1198 (Ne.symm ne1069)
  have N1198 := Fr.snoc X1198 N1184 n0b1040
  have z1210 := Nat.le_trans z1196 (Keep.of_wr W1198).1
  refine Rch.go (U' := T1198.setTop (mkF m 46 #[rv a2, iv (4 : Int32), iv (3 : Int32)] [])) st1198 ?_
  refine Rch.go (U' := T1198.setTop (mkF m 49 #[rv a2, iv (4 : Int32), iv ((3 : Int32) + (1 : Int32))] [])) (fun _ k => XS.iinc X1198.here hx rfl (hb hby d6_46) rfl (l' := #[rv a2, iv (4 : Int32), iv ((3 : Int32) + (1 : Int32))]) rfl k) ?_
  rw [(by decide : ((3 : Int32) + (1 : Int32)) = (4 : Int32))]
  refine Rch.go (U' := T1198.setTop (mkF m 27 #[rv a2, iv (4 : Int32), iv (4 : Int32)] [])) (fun _ k => XS.goto X1198.here hx rfl (pc0 := 49) (pc' := 27) rfl (hb hby d6_49) (by decide) (by decide) k) ?_
  refine Rch.go (U' := T1198.setTop (mkF m 28 #[rv a2, iv (4 : Int32), iv (4 : Int32)] [(.int (4 : Int32))])) (fun _ k => XS.iloadN X1198.here hx rfl (hb hby d6_27) rfl  k) ?_
  refine Rch.go (U' := T1198.setTop (mkF m 29 #[rv a2, iv (4 : Int32), iv (4 : Int32)] [(.int (4 : Int32)), (.int (4 : Int32))])) (fun _ k => XS.iloadN X1198.here hx rfl (hb hby d6_28) rfl  k) ?_
  have br1211 : ¬ ((4 : Int32) < (4 : Int32)) := (by decide)
  refine Rch.go (U' := T1198.setTop (mkF m 52 #[rv a2, iv (4 : Int32), iv (4 : Int32)] [])) (fun _ k => XS.icmpYes X1198.here hx rfl (pc0 := 29) (pc' := 52) rfl (hb hby d6_29) rfl (XT.ii_ge_t br1211) (by decide) (by decide) k) ?_
  refine Rch.go (U' := T1198.setTop (mkF m 53 #[rv a2, iv (4 : Int32), iv (4 : Int32)] [(.ref a2)])) (fun _ k => XS.aloadN X1198.here hx rfl (hb hby d6_52) rfl rfl k) ?_
  refine Rch.go (U' := T1198.setTop (mkF m 54 #[rv a2, iv (4 : Int32), iv (4 : Int32)] [(.int (4 : Int32)), (.ref a2)])) (fun _ k => XS.iloadN X1198.here hx rfl (hb hby d6_53) rfl  k) ?_
  obtain ⟨T1212, h1212, k1212, X1212, e1212, E1212, A1212, st1212⟩ := newP X1198 hx hZ (wi hw 10 rfl) e1198 (g := (mkF m 54 #[rv a2, iv (4 : Int32), iv (4 : Int32)] [(.int (4 : Int32)), (.ref a2)])) rfl (hb hby d6_54) rfl (by decide) (cap := 4) (by decide) (by decide) (by decide) (by decide)
  obtain ⟨b1212, g1212⟩ : ∃ z, z = h1198.size := ⟨_, rfl⟩
  rw [← g1212] at A1212 st1212
  have lne1213 : @LT.lt Nat _ a2 b1212 := Nat.lt_of_lt_of_le f1199.lt (Nat.le_of_eq g1212.symm)
  have ne1213 : a2 ≠ b1212 := Nat.ne_of_lt lne1213
  have lne1214 : @LT.lt Nat _ b1017 b1212 := Nat.lt_of_lt_of_le f1208.lt (Nat.le_of_eq g1212.symm)
  have ne1214 : b1017 ≠ b1212 := Nat.ne_of_lt lne1214
  have lne1215 : @LT.lt Nat _ b1040 b1212 := Nat.lt_of_lt_of_le V1198.lt (Nat.le_of_eq g1212.symm)
  have ne1215 : b1040 ≠ b1212 := Nat.ne_of_lt lne1215
  have lne1216 : @LT.lt Nat _ b1066 b1212 := Nat.lt_of_lt_of_le f1209.lt (Nat.le_of_eq g1212.symm)
  have ne1216 : b1066 ≠ b1212 := Nat.ne_of_lt lne1216
  have n0b1212 : n0 ≤ b1212 := Nat.le_trans z1210 (Nat.le_of_eq g1212.symm)
  have f1217 := f1199.ext E1212
  have f1218 := f1200.ext E1212
  have f1219 := f1201.ext E1212
  have f1220 := f1202.ext E1212
  have f1221 := f1203.ext E1212
  have f1222 := f1204.ext E1212
  have f1223 := f1205.ext E1212
  have f1224 := f1206.ext E1212
  have f1225 := f1207.ext E1212
  have f1226 := f1208.ext E1212
  have f1227 := V1198.ext E1212
  have f1228 := f1209.ext E1212
  have z1229 := Nat.le_trans z1210 E1212.1
  have V1212 : Arv Z h1212 b1212 k1212 .int (4 : Int32) [(.int (0 : Int32)), (.int (0 : Int32)), (.int (0 : Int32)), (.int (0 : Int32))] (.int (0 : Int32)) := (Arv.new A1212 (by decide)).pad (pad_rep [] (.int (0 : Int32)) 4)
  refine Rch.go (U' := T1212.setTop (mkF m 56 #[rv a2, iv (4 : Int32), iv (4 : Int32)] [(.ref b1212), (.ref a2)])) st1212 ?_
  obtain ⟨T1230, h1230, X1230, e1230, W1230, st1230⟩ := putF X1212 hx hZ hown (host := "") (Or.inl (wi hw 17 rfl)) Via.refl e1212 f1221 f1217 (Or.inr ⟨(wi hw 18 rfl), rfl, hnm⟩) (wi hw 2 rfl) (ty := (.array .int)) (by decide) rfl rfl (g := (mkF m 56 #[rv a2, iv (4 : Int32), iv (4 : Int32)] [(.ref b1212), (.ref a2)])) rfl rfl (hb hby d6_56)
  have F1230 := f1221.same W1230
  have f1231 := f1217.wr W1230
  have f1232 := f1218.other W1230 (Or.inr (slot_ne (Or.inr (wi hw 12 rfl)) (Or.inr (wi hw 18 rfl)) (by decide) (t := (.array .int)) (t' := (.array .int)) (by decide) (by decide)))
  have f1233 := f1219.other W1230 (Or.inr (slot_ne (Or.inr (wi hw 14 rfl)) (Or.inr (wi hw 18 rfl)) (by decide) (t := (.array .int)) (t' := (.array .int)) (by decide) (by decide)))
  have f1234 := f1220.other W1230 (Or.inr (slot_ne (Or.inr (wi hw 16 rfl)) (Or.inr (wi hw 18 rfl)) (by decide) (t := (.array .int)) (t' := (.array .int)) (by decide) (by decide)))
  have f1235 := f1222.other W1230 (Or.inr (slot_ne (Or.inr (wi hw 20 rfl)) (Or.inr (wi hw 18 rfl)) (by decide) (t := (.array .int)) (t' := (.array .int)) (by decide) (by decide)))
  have f1236 := f1223.other W1230 (Or.inr (slot_ne (Or.inr (wi hw 22 rfl)) (Or.inr (wi hw 18 rfl)) (by decide) (t := (.array .int)) (t' := (.array .int)) (by decide) (by decide)))
  have f1237 := f1224.other W1230 (Or.inr (slot_ne (Or.inr (wi hw 24 rfl)) (Or.inr (wi hw 18 rfl)) (by decide) (t := (.array .int)) (t' := (.array .int)) (by decide) (by decide)))
  have f1238 := f1225.other W1230 (Or.inr (slot_ne (Or.inl (wi hw 26 rfl)) (Or.inr (wi hw 18 rfl)) (by decide) (t := .int) (t' := (.array .int)) (by decide) (by decide)))
  have f1239 := f1226.other W1230 (Ne.symm ne1018)
  have f1240 := f1227.other W1230 (Ne.symm ne1041)
  have f1241 := f1228.other W1230 (Ne.symm ne1067)
  have f1242 := V1212.other W1230 (Ne.symm ne1213)
  have N1230 := Fr.snoc X1230 N1198 g_a2
  have z1243 := Nat.le_trans z1229 (Keep.of_wr W1230).1
  refine Rch.go (U' := T1230.setTop (mkF m 59 #[rv a2, iv (4 : Int32), iv (4 : Int32)] [])) st1230 ?_
  refine Rch.go (U' := T1230.setTop (mkF m 60 #[rv a2, iv (4 : Int32), iv (4 : Int32)] [(.ref a2)])) (fun _ k => XS.aloadN X1230.here hx rfl (hb hby d6_59) rfl rfl k) ?_
  refine Rch.go (U' := T1230.setTop (mkF m 61 #[rv a2, iv (4 : Int32), iv (4 : Int32)] [(.int (4 : Int32)), (.ref a2)])) (fun _ k => XS.iloadN X1230.here hx rfl (hb hby d6_60) rfl  k) ?_
  obtain ⟨T1244, h1244, k1244, X1244, e1244, E1244, A1244, st1244⟩ := newP X1230 hx hZ (wi hw 10 rfl) e1230 (g := (mkF m 61 #[rv a2, iv (4 : Int32), iv (4 : Int32)] [(.int (4 : Int32)), (.ref a2)])) rfl (hb hby d6_61) rfl (by decide) (cap := 4) (by decide) (by decide) (by decide) (by decide)
  obtain ⟨b1244, g1244⟩ : ∃ z, z = h1230.size := ⟨_, rfl⟩
  rw [← g1244] at A1244 st1244
  have lne1245 : @LT.lt Nat _ a2 b1244 := Nat.lt_of_lt_of_le f1231.lt (Nat.le_of_eq g1244.symm)
  have ne1245 : a2 ≠ b1244 := Nat.ne_of_lt lne1245
  have lne1246 : @LT.lt Nat _ b1017 b1244 := Nat.lt_of_lt_of_le f1239.lt (Nat.le_of_eq g1244.symm)
  have ne1246 : b1017 ≠ b1244 := Nat.ne_of_lt lne1246
  have lne1247 : @LT.lt Nat _ b1040 b1244 := Nat.lt_of_lt_of_le f1240.lt (Nat.le_of_eq g1244.symm)
  have ne1247 : b1040 ≠ b1244 := Nat.ne_of_lt lne1247
  have lne1248 : @LT.lt Nat _ b1066 b1244 := Nat.lt_of_lt_of_le f1241.lt (Nat.le_of_eq g1244.symm)
  have ne1248 : b1066 ≠ b1244 := Nat.ne_of_lt lne1248
  have lne1249 : @LT.lt Nat _ b1212 b1244 := Nat.lt_of_lt_of_le f1242.lt (Nat.le_of_eq g1244.symm)
  have ne1249 : b1212 ≠ b1244 := Nat.ne_of_lt lne1249
  have n0b1244 : n0 ≤ b1244 := Nat.le_trans z1243 (Nat.le_of_eq g1244.symm)
  have f1250 := f1231.ext E1244
  have f1251 := f1232.ext E1244
  have f1252 := f1233.ext E1244
  have f1253 := f1234.ext E1244
  have f1254 := F1230.ext E1244
  have f1255 := f1235.ext E1244
  have f1256 := f1236.ext E1244
  have f1257 := f1237.ext E1244
  have f1258 := f1238.ext E1244
  have f1259 := f1239.ext E1244
  have f1260 := f1240.ext E1244
  have f1261 := f1241.ext E1244
  have f1262 := f1242.ext E1244
  have z1263 := Nat.le_trans z1243 E1244.1
  have V1244 : Arv Z h1244 b1244 k1244 .int (4 : Int32) [(.int (0 : Int32)), (.int (0 : Int32)), (.int (0 : Int32)), (.int (0 : Int32))] (.int (0 : Int32)) := (Arv.new A1244 (by decide)).pad (pad_rep [] (.int (0 : Int32)) 4)
  refine Rch.go (U' := T1244.setTop (mkF m 63 #[rv a2, iv (4 : Int32), iv (4 : Int32)] [(.ref b1244), (.ref a2)])) st1244 ?_
  obtain ⟨T1264, h1264, X1264, e1264, W1264, st1264⟩ := putF X1244 hx hZ hown (host := "") (Or.inl (wi hw 19 rfl)) Via.refl e1244 f1255 f1250 (Or.inr ⟨(wi hw 20 rfl), rfl, hnm⟩) (wi hw 2 rfl) (ty := (.array .int)) (by decide) rfl rfl (g := (mkF m 63 #[rv a2, iv (4 : Int32), iv (4 : Int32)] [(.ref b1244), (.ref a2)])) rfl rfl (hb hby d6_63)
  have F1264 := f1255.same W1264
  have f1265 := f1250.wr W1264
  have f1266 := f1251.other W1264 (Or.inr (slot_ne (Or.inr (wi hw 12 rfl)) (Or.inr (wi hw 20 rfl)) (by decide) (t := (.array .int)) (t' := (.array .int)) (by decide) (by decide)))
  have f1267 := f1252.other W1264 (Or.inr (slot_ne (Or.inr (wi hw 14 rfl)) (Or.inr (wi hw 20 rfl)) (by decide) (t := (.array .int)) (t' := (.array .int)) (by decide) (by decide)))
  have f1268 := f1253.other W1264 (Or.inr (slot_ne (Or.inr (wi hw 16 rfl)) (Or.inr (wi hw 20 rfl)) (by decide) (t := (.array .int)) (t' := (.array .int)) (by decide) (by decide)))
  have f1269 := f1254.other W1264 (Or.inr (slot_ne (Or.inr (wi hw 18 rfl)) (Or.inr (wi hw 20 rfl)) (by decide) (t := (.array .int)) (t' := (.array .int)) (by decide) (by decide)))
  have f1270 := f1256.other W1264 (Or.inr (slot_ne (Or.inr (wi hw 22 rfl)) (Or.inr (wi hw 20 rfl)) (by decide) (t := (.array .int)) (t' := (.array .int)) (by decide) (by decide)))
  have f1271 := f1257.other W1264 (Or.inr (slot_ne (Or.inr (wi hw 24 rfl)) (Or.inr (wi hw 20 rfl)) (by decide) (t := (.array .int)) (t' := (.array .int)) (by decide) (by decide)))
  have f1272 := f1258.other W1264 (Or.inr (slot_ne (Or.inl (wi hw 26 rfl)) (Or.inr (wi hw 20 rfl)) (by decide) (t := .int) (t' := (.array .int)) (by decide) (by decide)))
  have f1273 := f1259.other W1264 (Ne.symm ne1018)
  have f1274 := f1260.other W1264 (Ne.symm ne1041)
  have f1275 := f1261.other W1264 (Ne.symm ne1067)
  have f1276 := f1262.other W1264 (Ne.symm ne1213)
  have f1277 := V1244.other W1264 (Ne.symm ne1245)
  have N1264 := Fr.snoc X1264 N1230 g_a2
  have z1278 := Nat.le_trans z1263 (Keep.of_wr W1264).1
  refine Rch.go (U' := T1264.setTop (mkF m 66 #[rv a2, iv (4 : Int32), iv (4 : Int32)] [])) st1264 ?_
  refine Rch.go (U' := T1264.setTop (mkF m 67 #[rv a2, iv (4 : Int32), iv (4 : Int32)] [(.ref a2)])) (fun _ k => XS.aloadN X1264.here hx rfl (hb hby d6_66) rfl rfl k) ?_
  refine Rch.go (U' := T1264.setTop (mkF m 68 #[rv a2, iv (4 : Int32), iv (4 : Int32)] [(.int (4 : Int32)), (.ref a2)])) (fun _ k => XS.iloadN X1264.here hx rfl (hb hby d6_67) rfl  k) ?_
  obtain ⟨T1279, h1279, k1279, X1279, e1279, E1279, A1279, st1279⟩ := newP X1264 hx hZ (wi hw 10 rfl) e1264 (g := (mkF m 68 #[rv a2, iv (4 : Int32), iv (4 : Int32)] [(.int (4 : Int32)), (.ref a2)])) rfl (hb hby d6_68) rfl (by decide) (cap := 4) (by decide) (by decide) (by decide) (by decide)
  obtain ⟨b1279, g1279⟩ : ∃ z, z = h1264.size := ⟨_, rfl⟩
  rw [← g1279] at A1279 st1279
  have lne1280 : @LT.lt Nat _ a2 b1279 := Nat.lt_of_lt_of_le f1265.lt (Nat.le_of_eq g1279.symm)
  have ne1280 : a2 ≠ b1279 := Nat.ne_of_lt lne1280
  have lne1281 : @LT.lt Nat _ b1017 b1279 := Nat.lt_of_lt_of_le f1273.lt (Nat.le_of_eq g1279.symm)
  have ne1281 : b1017 ≠ b1279 := Nat.ne_of_lt lne1281
  have lne1282 : @LT.lt Nat _ b1040 b1279 := Nat.lt_of_lt_of_le f1274.lt (Nat.le_of_eq g1279.symm)
  have ne1282 : b1040 ≠ b1279 := Nat.ne_of_lt lne1282
  have lne1283 : @LT.lt Nat _ b1066 b1279 := Nat.lt_of_lt_of_le f1275.lt (Nat.le_of_eq g1279.symm)
  have ne1283 : b1066 ≠ b1279 := Nat.ne_of_lt lne1283
  have lne1284 : @LT.lt Nat _ b1212 b1279 := Nat.lt_of_lt_of_le f1276.lt (Nat.le_of_eq g1279.symm)
  have ne1284 : b1212 ≠ b1279 := Nat.ne_of_lt lne1284
  have lne1285 : @LT.lt Nat _ b1244 b1279 := Nat.lt_of_lt_of_le f1277.lt (Nat.le_of_eq g1279.symm)
  have ne1285 : b1244 ≠ b1279 := Nat.ne_of_lt lne1285
  have n0b1279 : n0 ≤ b1279 := Nat.le_trans z1278 (Nat.le_of_eq g1279.symm)
  have f1286 := f1265.ext E1279
  have f1287 := f1266.ext E1279
  have f1288 := f1267.ext E1279
  have f1289 := f1268.ext E1279
  have f1290 := f1269.ext E1279
  have f1291 := F1264.ext E1279
  have f1292 := f1270.ext E1279
  have f1293 := f1271.ext E1279
  have f1294 := f1272.ext E1279
  have f1295 := f1273.ext E1279
  have f1296 := f1274.ext E1279
  have f1297 := f1275.ext E1279
  have f1298 := f1276.ext E1279
  have f1299 := f1277.ext E1279
  have z1300 := Nat.le_trans z1278 E1279.1
  have V1279 : Arv Z h1279 b1279 k1279 .int (4 : Int32) [(.int (0 : Int32)), (.int (0 : Int32)), (.int (0 : Int32)), (.int (0 : Int32))] (.int (0 : Int32)) := (Arv.new A1279 (by decide)).pad (pad_rep [] (.int (0 : Int32)) 4)
  refine Rch.go (U' := T1279.setTop (mkF m 70 #[rv a2, iv (4 : Int32), iv (4 : Int32)] [(.ref b1279), (.ref a2)])) st1279 ?_
  obtain ⟨T1301, h1301, X1301, e1301, W1301, st1301⟩ := putF X1279 hx hZ hown (host := "") (Or.inl (wi hw 21 rfl)) Via.refl e1279 f1292 f1286 (Or.inr ⟨(wi hw 22 rfl), rfl, hnm⟩) (wi hw 2 rfl) (ty := (.array .int)) (by decide) rfl rfl (g := (mkF m 70 #[rv a2, iv (4 : Int32), iv (4 : Int32)] [(.ref b1279), (.ref a2)])) rfl rfl (hb hby d6_70)
  have F1301 := f1292.same W1301
  have f1302 := f1286.wr W1301
  have f1303 := f1287.other W1301 (Or.inr (slot_ne (Or.inr (wi hw 12 rfl)) (Or.inr (wi hw 22 rfl)) (by decide) (t := (.array .int)) (t' := (.array .int)) (by decide) (by decide)))
  have f1304 := f1288.other W1301 (Or.inr (slot_ne (Or.inr (wi hw 14 rfl)) (Or.inr (wi hw 22 rfl)) (by decide) (t := (.array .int)) (t' := (.array .int)) (by decide) (by decide)))
  have f1305 := f1289.other W1301 (Or.inr (slot_ne (Or.inr (wi hw 16 rfl)) (Or.inr (wi hw 22 rfl)) (by decide) (t := (.array .int)) (t' := (.array .int)) (by decide) (by decide)))
  have f1306 := f1290.other W1301 (Or.inr (slot_ne (Or.inr (wi hw 18 rfl)) (Or.inr (wi hw 22 rfl)) (by decide) (t := (.array .int)) (t' := (.array .int)) (by decide) (by decide)))
  have f1307 := f1291.other W1301 (Or.inr (slot_ne (Or.inr (wi hw 20 rfl)) (Or.inr (wi hw 22 rfl)) (by decide) (t := (.array .int)) (t' := (.array .int)) (by decide) (by decide)))
  have f1308 := f1293.other W1301 (Or.inr (slot_ne (Or.inr (wi hw 24 rfl)) (Or.inr (wi hw 22 rfl)) (by decide) (t := (.array .int)) (t' := (.array .int)) (by decide) (by decide)))
  have f1309 := f1294.other W1301 (Or.inr (slot_ne (Or.inl (wi hw 26 rfl)) (Or.inr (wi hw 22 rfl)) (by decide) (t := .int) (t' := (.array .int)) (by decide) (by decide)))
  have f1310 := f1295.other W1301 (Ne.symm ne1018)
  have f1311 := f1296.other W1301 (Ne.symm ne1041)
  have f1312 := f1297.other W1301 (Ne.symm ne1067)
  have f1313 := f1298.other W1301 (Ne.symm ne1213)
  have f1314 := f1299.other W1301 (Ne.symm ne1245)
  have f1315 := V1279.other W1301 (Ne.symm ne1280)
  have N1301 := Fr.snoc X1301 N1264 g_a2
  have z1316 := Nat.le_trans z1300 (Keep.of_wr W1301).1
  refine Rch.go (U' := T1301.setTop (mkF m 73 #[rv a2, iv (4 : Int32), iv (4 : Int32)] [])) st1301 ?_
  refine Rch.go (U' := T1301.setTop (mkF m 74 #[rv a2, iv (4 : Int32), iv (4 : Int32)] [(.ref a2)])) (fun _ k => XS.aloadN X1301.here hx rfl (hb hby d6_73) rfl rfl k) ?_
  refine Rch.go (U' := T1301.setTop (mkF m 75 #[rv a2, iv (4 : Int32), iv (4 : Int32)] [(.int (4 : Int32)), (.ref a2)])) (fun _ k => XS.iloadN X1301.here hx rfl (hb hby d6_74) rfl  k) ?_
  obtain ⟨T1317, h1317, k1317, X1317, e1317, E1317, A1317, st1317⟩ := newP X1301 hx hZ (wi hw 10 rfl) e1301 (g := (mkF m 75 #[rv a2, iv (4 : Int32), iv (4 : Int32)] [(.int (4 : Int32)), (.ref a2)])) rfl (hb hby d6_75) rfl (by decide) (cap := 4) (by decide) (by decide) (by decide) (by decide)
  obtain ⟨b1317, g1317⟩ : ∃ z, z = h1301.size := ⟨_, rfl⟩
  rw [← g1317] at A1317 st1317
  have lne1318 : @LT.lt Nat _ a2 b1317 := Nat.lt_of_lt_of_le f1302.lt (Nat.le_of_eq g1317.symm)
  have ne1318 : a2 ≠ b1317 := Nat.ne_of_lt lne1318
  have lne1319 : @LT.lt Nat _ b1017 b1317 := Nat.lt_of_lt_of_le f1310.lt (Nat.le_of_eq g1317.symm)
  have ne1319 : b1017 ≠ b1317 := Nat.ne_of_lt lne1319
  have lne1320 : @LT.lt Nat _ b1040 b1317 := Nat.lt_of_lt_of_le f1311.lt (Nat.le_of_eq g1317.symm)
  have ne1320 : b1040 ≠ b1317 := Nat.ne_of_lt lne1320
  have lne1321 : @LT.lt Nat _ b1066 b1317 := Nat.lt_of_lt_of_le f1312.lt (Nat.le_of_eq g1317.symm)
  have ne1321 : b1066 ≠ b1317 := Nat.ne_of_lt lne1321
  have lne1322 : @LT.lt Nat _ b1212 b1317 := Nat.lt_of_lt_of_le f1313.lt (Nat.le_of_eq g1317.symm)
  have ne1322 : b1212 ≠ b1317 := Nat.ne_of_lt lne1322
  have lne1323 : @LT.lt Nat _ b1244 b1317 := Nat.lt_of_lt_of_le f1314.lt (Nat.le_of_eq g1317.symm)
  have ne1323 : b1244 ≠ b1317 := Nat.ne_of_lt lne1323
  have lne1324 : @LT.lt Nat _ b1279 b1317 := Nat.lt_of_lt_of_le f1315.lt (Nat.le_of_eq g1317.symm)
  have ne1324 : b1279 ≠ b1317 := Nat.ne_of_lt lne1324
  have n0b1317 : n0 ≤ b1317 := Nat.le_trans z1316 (Nat.le_of_eq g1317.symm)
  have f1325 := f1302.ext E1317
  have f1326 := f1303.ext E1317
  have f1327 := f1304.ext E1317
  have f1328 := f1305.ext E1317
  have f1329 := f1306.ext E1317
  have f1330 := f1307.ext E1317
  have f1331 := F1301.ext E1317
  have f1332 := f1308.ext E1317
  have f1333 := f1309.ext E1317
  have f1334 := f1310.ext E1317
  have f1335 := f1311.ext E1317
  have f1336 := f1312.ext E1317
  have f1337 := f1313.ext E1317
  have f1338 := f1314.ext E1317
  have f1339 := f1315.ext E1317
  have z1340 := Nat.le_trans z1316 E1317.1
  have V1317 : Arv Z h1317 b1317 k1317 .int (4 : Int32) [(.int (0 : Int32)), (.int (0 : Int32)), (.int (0 : Int32)), (.int (0 : Int32))] (.int (0 : Int32)) := (Arv.new A1317 (by decide)).pad (pad_rep [] (.int (0 : Int32)) 4)
  refine Rch.go (U' := T1317.setTop (mkF m 77 #[rv a2, iv (4 : Int32), iv (4 : Int32)] [(.ref b1317), (.ref a2)])) st1317 ?_
  obtain ⟨T1341, h1341, X1341, e1341, W1341, st1341⟩ := putF X1317 hx hZ hown (host := "") (Or.inl (wi hw 23 rfl)) Via.refl e1317 f1332 f1325 (Or.inr ⟨(wi hw 24 rfl), rfl, hnm⟩) (wi hw 2 rfl) (ty := (.array .int)) (by decide) rfl rfl (g := (mkF m 77 #[rv a2, iv (4 : Int32), iv (4 : Int32)] [(.ref b1317), (.ref a2)])) rfl rfl (hb hby d6_77)
  have F1341 := f1332.same W1341
  have f1342 := f1325.wr W1341
  have f1343 := f1326.other W1341 (Or.inr (slot_ne (Or.inr (wi hw 12 rfl)) (Or.inr (wi hw 24 rfl)) (by decide) (t := (.array .int)) (t' := (.array .int)) (by decide) (by decide)))
  have f1344 := f1327.other W1341 (Or.inr (slot_ne (Or.inr (wi hw 14 rfl)) (Or.inr (wi hw 24 rfl)) (by decide) (t := (.array .int)) (t' := (.array .int)) (by decide) (by decide)))
  have f1345 := f1328.other W1341 (Or.inr (slot_ne (Or.inr (wi hw 16 rfl)) (Or.inr (wi hw 24 rfl)) (by decide) (t := (.array .int)) (t' := (.array .int)) (by decide) (by decide)))
  have f1346 := f1329.other W1341 (Or.inr (slot_ne (Or.inr (wi hw 18 rfl)) (Or.inr (wi hw 24 rfl)) (by decide) (t := (.array .int)) (t' := (.array .int)) (by decide) (by decide)))
  have f1347 := f1330.other W1341 (Or.inr (slot_ne (Or.inr (wi hw 20 rfl)) (Or.inr (wi hw 24 rfl)) (by decide) (t := (.array .int)) (t' := (.array .int)) (by decide) (by decide)))
  have f1348 := f1331.other W1341 (Or.inr (slot_ne (Or.inr (wi hw 22 rfl)) (Or.inr (wi hw 24 rfl)) (by decide) (t := (.array .int)) (t' := (.array .int)) (by decide) (by decide)))
  have f1349 := f1333.other W1341 (Or.inr (slot_ne (Or.inl (wi hw 26 rfl)) (Or.inr (wi hw 24 rfl)) (by decide) (t := .int) (t' := (.array .int)) (by decide) (by decide)))
  have f1350 := f1334.other W1341 (Ne.symm ne1018)
  have f1351 := f1335.other W1341 (Ne.symm ne1041)
  have f1352 := f1336.other W1341 (Ne.symm ne1067)
  have f1353 := f1337.other W1341 (Ne.symm ne1213)
  have f1354 := f1338.other W1341 (Ne.symm ne1245)
  have f1355 := f1339.other W1341 (Ne.symm ne1280)
  have f1356 := V1317.other W1341 (Ne.symm ne1318)
  have N1341 := Fr.snoc X1341 N1301 g_a2
  have z1357 := Nat.le_trans z1340 (Keep.of_wr W1341).1
  refine Rch.go (U' := T1341.setTop (mkF m 80 #[rv a2, iv (4 : Int32), iv (4 : Int32)] [])) st1341 ?_
  refine Rch.go (U' := T1341.setTop (mkF m 81 #[rv a2, iv (4 : Int32), iv (4 : Int32)] [(.int (4 : Int32))])) (fun _ k => XS.iloadN X1341.here hx rfl (hb hby d6_80) rfl  k) ?_
  have br1358 : (0 : Int32) < (4 : Int32) := (by decide)
  refine Rch.go (U' := T1341.setTop (mkF m 84 #[rv a2, iv (4 : Int32), iv (4 : Int32)] [])) (fun _ k => XS.ifNo X1341.here hx rfl (hb hby d6_81) rfl (XT.i0_le_f br1358) k) ?_
  refine Rch.go (U' := T1341.setTop (mkF m 85 #[rv a2, iv (4 : Int32), iv (4 : Int32)] [(.ref a2)])) (fun _ k => XS.aloadN X1341.here hx rfl (hb hby d6_84) rfl rfl k) ?_
  obtain ⟨T1359, X1359, e1359, st1359⟩ := getF X1341 hx hZ hown (host := "") (Or.inl (wi hw 19 rfl)) Via.refl e1341 f1347 (g := (mkF m 85 #[rv a2, iv (4 : Int32), iv (4 : Int32)] [(.ref a2)])) rfl rfl (hb hby d6_85)
  refine Rch.go (U' := T1359.setTop (mkF m 88 #[rv a2, iv (4 : Int32), iv (4 : Int32)] [(.ref b1244)])) st1359 ?_
  refine Rch.go (U' := T1359.setTop (mkF m 89 #[rv a2, iv (4 : Int32), iv (4 : Int32)] [(.int (0 : Int32)), (.ref b1244)])) (fun _ k => XS.iconst X1359.here hx rfl (hb hby d6_88) k) ?_
  refine Rch.go (U' := T1359.setTop (mkF m 90 #[rv a2, iv (4 : Int32), iv (4 : Int32)] [(.int (4 : Int32)), (.int (0 : Int32)), (.ref b1244)])) (fun _ k => XS.iloadN X1359.here hx rfl (hb hby d6_89) rfl  k) ?_
  obtain ⟨cl1360, Ar1360, qk1360, Sz1360, Mn1360, Hs1360, Gf1360⟩ := id f1354
  have ib1360 : ¬ ((0 : Int32) < 0 ∨ cl1360.slots.size ≤ ((0 : Int32)).toNatClampNeg) := inb_of Sz1360 ⟨by decide, by decide⟩
  obtain ⟨T1360, h1360, X1360, e1360, W1360, st1360⟩ := stI X1359 hx hZ e1359 Ar1360 (j := (0 : Int32)) ib1360 (g := (mkF m 90 #[rv a2, iv (4 : Int32), iv (4 : Int32)] [(.int (4 : Int32)), (.int (0 : Int32)), (.ref b1244)])) rfl rfl (hb hby d6_90)
  have V1360 : Arv Z h1360 b1244 k1244 .int (4 : Int32) [(.int (4 : Int32)), (.int (0 : Int32)), (.int (0 : Int32)), (.int (0 : Int32))] (.int (0 : Int32)) := Arv.set Ar1360 qk1360 Sz1360 Mn1360 Hs1360 Gf1360 rfl W1360 0 rfl (Nat.le_of_ble_eq_true rfl)
  have f1361 := f1342.wr W1360
  have f1362 := f1343.other W1360 (Or.inl ne1245)
  have f1363 := f1344.other W1360 (Or.inl ne1245)
  have f1364 := f1345.other W1360 (Or.inl ne1245)
  have f1365 := f1346.other W1360 (Or.inl ne1245)
  have f1366 := f1347.other W1360 (Or.inl ne1245)
  have f1367 := f1348.other W1360 (Or.inl ne1245)
  have f1368 := F1341.other W1360 (Or.inl ne1245)
  have f1369 := f1349.other W1360 (Or.inl ne1245)
  have f1370 := f1350.other W1360 ne1246
  have f1371 := f1351.other W1360 ne1247
  have f1372 := f1352.other W1360 ne1248
  have f1373 := f1353.other W1360 ne1249
  have f1374 := f1355.other W1360 (Ne.symm ne1285)
  have f1375 := f1356.other W1360 (Ne.symm ne1323)
  have N1360 := Fr.snoc X1360 N1341 n0b1244
  have z1376 := Nat.le_trans z1357 (Keep.of_wr W1360).1
  refine Rch.go (U' := T1360.setTop (mkF m 91 #[rv a2, iv (4 : Int32), iv (4 : Int32)] [])) st1360 ?_
  refine Rch.go (U' := T1360.setTop (mkF m 92 #[rv a2, iv (4 : Int32), iv (4 : Int32)] [(.ref a2)])) (fun _ k => XS.aloadN X1360.here hx rfl (hb hby d6_91) rfl rfl k) ?_
  refine Rch.go (U' := T1360.setTop (mkF m 93 #[rv a2, iv (4 : Int32), iv (4 : Int32)] [(.int (1 : Int32)), (.ref a2)])) (fun _ k => XS.iconst X1360.here hx rfl (hb hby d6_92) k) ?_
  obtain ⟨T1377, h1377, X1377, e1377, W1377, st1377⟩ := putF X1360 hx hZ hown (host := "") (Or.inl (wi hw 25 rfl)) Via.refl e1360 f1369 f1361 (Or.inl (wi hw 26 rfl)) (wi hw 2 rfl) (ty := .int) (by decide) rfl rfl (g := (mkF m 93 #[rv a2, iv (4 : Int32), iv (4 : Int32)] [(.int (1 : Int32)), (.ref a2)])) rfl rfl (hb hby d6_93)
  have F1377 := f1369.same W1377
  have f1378 := f1361.wr W1377
  have f1379 := f1362.other W1377 (Or.inr (slot_ne (Or.inr (wi hw 12 rfl)) (Or.inl (wi hw 26 rfl)) (by decide) (t := (.array .int)) (t' := .int) (by decide) (by decide)))
  have f1380 := f1363.other W1377 (Or.inr (slot_ne (Or.inr (wi hw 14 rfl)) (Or.inl (wi hw 26 rfl)) (by decide) (t := (.array .int)) (t' := .int) (by decide) (by decide)))
  have f1381 := f1364.other W1377 (Or.inr (slot_ne (Or.inr (wi hw 16 rfl)) (Or.inl (wi hw 26 rfl)) (by decide) (t := (.array .int)) (t' := .int) (by decide) (by decide)))
  have f1382 := f1365.other W1377 (Or.inr (slot_ne (Or.inr (wi hw 18 rfl)) (Or.inl (wi hw 26 rfl)) (by decide) (t := (.array .int)) (t' := .int) (by decide) (by decide)))
  have f1383 := f1366.other W1377 (Or.inr (slot_ne (Or.inr (wi hw 20 rfl)) (Or.inl (wi hw 26 rfl)) (by decide) (t := (.array .int)) (t' := .int) (by decide) (by decide)))
  have f1384 := f1367.other W1377 (Or.inr (slot_ne (Or.inr (wi hw 22 rfl)) (Or.inl (wi hw 26 rfl)) (by decide) (t := (.array .int)) (t' := .int) (by decide) (by decide)))
  have f1385 := f1368.other W1377 (Or.inr (slot_ne (Or.inr (wi hw 24 rfl)) (Or.inl (wi hw 26 rfl)) (by decide) (t := (.array .int)) (t' := .int) (by decide) (by decide)))
  have f1386 := f1370.other W1377 (Ne.symm ne1018)
  have f1387 := f1371.other W1377 (Ne.symm ne1041)
  have f1388 := f1372.other W1377 (Ne.symm ne1067)
  have f1389 := f1373.other W1377 (Ne.symm ne1213)
  have f1390 := V1360.other W1377 (Ne.symm ne1245)
  have f1391 := f1374.other W1377 (Ne.symm ne1280)
  have f1392 := f1375.other W1377 (Ne.symm ne1318)
  have N1377 := Fr.snoc X1377 N1360 g_a2
  have z1393 := Nat.le_trans z1376 (Keep.of_wr W1377).1
  refine Rch.go (U' := T1377.setTop (mkF m 96 #[rv a2, iv (4 : Int32), iv (4 : Int32)] [])) st1377 ?_
  refine Rch.fin X1377 hlk (v := none) (fun _ => rfl) e1377 (by decide) (by decide) (fun fs hr => X1377.returnOut hx hret (hb hby d6_96) hr) ?_
  exact ⟨b1212, b1244, rfl, N1377, z1393, f1378, f1382, f1383, ⟨_, f1389, rfl⟩, ⟨_, f1390, rfl⟩, lne1213, lne1249, (f1390).lt⟩
theorem d32_0 : decode prog_18_method_1_code 0 = .ok (.aload_n 0, 1) := by decide +kernel
theorem d32_1 : decode prog_18_method_1_code 1 = .ok (.invokespecial 1, 3) := by decide +kernel
theorem d32_4 : decode prog_18_method_1_code 4 = .ok (.aload_n 0, 1) := by decide +kernel
theorem d32_5 : decode prog_18_method_1_code 5 = .ok (.aload_n 1, 1) := by decide +kernel
theorem d32_6 : decode prog_18_method_1_code 6 = .ok (.putfield 7, 3) := by decide +kernel
theorem d32_9 : decode prog_18_method_1_code 9 = .ok (.aload_n 0, 1) := by decide +kernel
theorem d32_10 : decode prog_18_method_1_code 10 = .ok (.iload_n 2, 1) := by decide +kernel
theorem d32_11 : decode prog_18_method_1_code 11 = .ok (.newarray .int, 2) := by decide +kernel
theorem d32_13 : decode prog_18_method_1_code 13 = .ok (.putfield 13, 3) := by decide +kernel
theorem d32_16 : decode prog_18_method_1_code 16 = .ok (.aload_n 0, 1) := by decide +kernel
theorem d32_17 : decode prog_18_method_1_code 17 = .ok (.iload_n 2, 1) := by decide +kernel
theorem d32_18 : decode prog_18_method_1_code 18 = .ok (.newarray .int, 2) := by decide +kernel
theorem d32_20 : decode prog_18_method_1_code 20 = .ok (.putfield 17, 3) := by decide +kernel
theorem d32_23 : decode prog_18_method_1_code 23 = .ok (.aload_n 0, 1) := by decide +kernel
theorem d32_24 : decode prog_18_method_1_code 24 = .ok (.iload_n 2, 1) := by decide +kernel
theorem d32_25 : decode prog_18_method_1_code 25 = .ok (.newarray .int, 2) := by decide +kernel
theorem d32_27 : decode prog_18_method_1_code 27 = .ok (.putfield 20, 3) := by decide +kernel
theorem d32_30 : decode prog_18_method_1_code 30 = .ok (.aload_n 0, 1) := by decide +kernel
theorem d32_31 : decode prog_18_method_1_code 31 = .ok (.iload_n 2, 1) := by decide +kernel
theorem d32_32 : decode prog_18_method_1_code 32 = .ok (.newarray .int, 2) := by decide +kernel
theorem d32_34 : decode prog_18_method_1_code 34 = .ok (.putfield 23, 3) := by decide +kernel
theorem d32_37 : decode prog_18_method_1_code 37 = .ok (.aload_n 0, 1) := by decide +kernel
theorem d32_38 : decode prog_18_method_1_code 38 = .ok (.iload_n 2, 1) := by decide +kernel
theorem d32_39 : decode prog_18_method_1_code 39 = .ok (.newarray .int, 2) := by decide +kernel
theorem d32_41 : decode prog_18_method_1_code 41 = .ok (.putfield 26, 3) := by decide +kernel
theorem d32_44 : decode prog_18_method_1_code 44 = .ok (.aload_n 0, 1) := by decide +kernel
theorem d32_45 : decode prog_18_method_1_code 45 = .ok (.iload_n 2, 1) := by decide +kernel
theorem d32_46 : decode prog_18_method_1_code 46 = .ok (.newarray .boolean, 2) := by decide +kernel
theorem d32_48 : decode prog_18_method_1_code 48 = .ok (.putfield 29, 3) := by decide +kernel
theorem d32_51 : decode prog_18_method_1_code 51 = .ok (.iload_n 2, 1) := by decide +kernel
theorem d32_52 : decode prog_18_method_1_code 52 = .ok (.ifCond .le 29, 3) := by decide +kernel
theorem d32_55 : decode prog_18_method_1_code 55 = .ok (.aload_n 0, 1) := by decide +kernel
theorem d32_56 : decode prog_18_method_1_code 56 = .ok (.iconst 1, 1) := by decide +kernel
theorem d32_57 : decode prog_18_method_1_code 57 = .ok (.putfield 33, 3) := by decide +kernel
theorem d32_60 : decode prog_18_method_1_code 60 = .ok (.aload_n 0, 1) := by decide +kernel
theorem d32_61 : decode prog_18_method_1_code 61 = .ok (.getfield 23, 3) := by decide +kernel
theorem d32_64 : decode prog_18_method_1_code 64 = .ok (.iconst 0, 1) := by decide +kernel
theorem d32_65 : decode prog_18_method_1_code 65 = .ok (.iconst 0, 1) := by decide +kernel
theorem d32_66 : decode prog_18_method_1_code 66 = .ok (.iastore, 1) := by decide +kernel
theorem d32_67 : decode prog_18_method_1_code 67 = .ok (.aload_n 0, 1) := by decide +kernel
theorem d32_68 : decode prog_18_method_1_code 68 = .ok (.getfield 17, 3) := by decide +kernel
theorem d32_71 : decode prog_18_method_1_code 71 = .ok (.iconst 0, 1) := by decide +kernel
theorem d32_72 : decode prog_18_method_1_code 72 = .ok (.iconst (-1), 1) := by decide +kernel
theorem d32_73 : decode prog_18_method_1_code 73 = .ok (.iastore, 1) := by decide +kernel
theorem d32_74 : decode prog_18_method_1_code 74 = .ok (.aload_n 0, 1) := by decide +kernel
theorem d32_75 : decode prog_18_method_1_code 75 = .ok (.getfield 20, 3) := by decide +kernel
theorem d32_78 : decode prog_18_method_1_code 78 = .ok (.iconst 0, 1) := by decide +kernel
theorem d32_79 : decode prog_18_method_1_code 79 = .ok (.iconst (-1), 1) := by decide +kernel
theorem d32_80 : decode prog_18_method_1_code 80 = .ok (.iastore, 1) := by decide +kernel
theorem d32_81 : decode prog_18_method_1_code 81 = .ok (.return_, 1) := by decide +kernel
theorem ef_rmI (m : MethodId) (a1 : Addr) (a2 : Addr) : entryFrame m #[(.ref a1), (.ref a2), (.int (4 : Int32))] 3 = mkF m 0 #[rv a1, rv a2, iv (4 : Int32)] [] := by first | (simp [entryFrame, mkF, argsToLocals, Value.category]; done) | rfl
def Q_rmI (Z : State) (a1 : Addr) (a2 : Addr) (bfi : Addr) (ben : Addr) (k_fi : ClassId) (k_en : ClassId) (h0 : Heap) (n0 : Nat) (v : Option Value) (h : Heap) (L : List Loc) : Prop := ∃ bco bnx bpv bfb bpd bip : Addr, v = none ∧ Fr n0 L ∧ n0 ≤ h.size ∧ Cb Z h n0 a1 a2 bco bnx bpv bfb bpd bip bfi ben [0, 0, 0, 0] [-1, 0, 0, 0] [-1, 0, 0, 0] [0, 0, 0, 0] [0, 0, 0, 0] [0, 0, 0, 0] (1 : Int32) (0 : Int32)
set_option maxRecDepth 65536 in
set_option maxHeartbeats 40000000 in
theorem rmI (l : Launch) (Z : State) (a0 : Array Value) (hw : ∀ d ∈ tables_1, d.before a0 Z = true) (ws : List Jvm.Cond) (a1 : Addr) (a2 : Addr) (bfi : Addr) (ben : Addr) (k_fi : ClassId) (k_en : ClassId) (h0 : Heap) (n0 : Nat) (Z0 : n0 ≤ h0.size) (E_a1 : Exa Z h0 a1 cCB) (F_a1_blocks : Fld Z h0 a1 cCB "blocks" "Lcom/example/fixpoints_of_behaviour/fixpointsofbehaviour/bisimulation/Blocks;" .null) (F_a1_compoundOf : Fld Z h0 a1 cCB "compoundOf" "[I" .null) (F_a1_nextInCompound : Fld Z h0 a1 cCB "nextInCompound" "[I" .null) (F_a1_previousInCompound : Fld Z h0 a1 cCB "previousInCompound" "[I" .null) (F_a1_firstBlock : Fld Z h0 a1 cCB "firstBlock" "[I" .null) (F_a1_pending : Fld Z h0 a1 cCB "pending" "[I" .null) (F_a1_isPending : Fld Z h0 a1 cCB "isPending" "[Z" .null) (F_a1_compoundCount : Fld Z h0 a1 cCB "compoundCount" "I" (.int (0 : Int32))) (F_a1_pendingCount : Fld Z h0 a1 cCB "pendingCount" "I" (.int (0 : Int32))) (E_a2 : Exa Z h0 a2 cBL) (FB_first : Fld Z h0 a2 cBL "first" "[I" (.ref bfi)) (FB_end : Fld Z h0 a2 cBL "end" "[I" (.ref ben)) (V_fi : Arv Z h0 bfi k_fi .int (4 : Int32) (([0, 0, 0, 0] : List Int32).map Value.int) (.int (0 : Int32))) (V_en : Arv Z h0 ben k_en .int (4 : Int32) (([4, 0, 0, 0] : List Int32).map Value.int) (.int (0 : Int32))) (g_a2 : n0 ≤ a2) (hg1 : @LT.lt Nat _ a2 bfi) (hg2 : @LT.lt Nat _ bfi ben) (hg3 : @LT.lt Nat _ ben a1) (g_a1 : n0 ≤ a1) :
    MetFree l yi (head1 (Jvm.Cond.code yi prog_18_method_1_code 3 none :: ws) ({ frames := 1, cells := 6, slots := 24, locals := 12 } : Room)) (fun a_ U => a_ = #[(.ref a1), (.ref a2), (.int (4 : Int32))] ∧ Z.Warmed39 U.vm ∧ U.heap = h0) (fun _ _ _ _ _ => True) (fun _ U o U' => ∃ v L, o = .returned v ∧ Q_rmI Z a1 a2 bfi ben k_fi k_en h0 n0 v U'.heap L ∧ FrameEnd U o U' L ({ frames := 1, cells := 6, slots := 24, locals := 12 } : Room).cells ({ frames := 1, cells := 6, slots := 24, locals := 12 } : Room).slots) := by
  refine MetFree.of_bodySF (plainFor_of_name pn_com_example_fixpoints_of_behaviour_fixpointsofbehaviour_bisimulation_CompoundBlocks) hisR ?_
  intro p e s m args below meth c s₁ Bd hml0 hP hK
  obtain ⟨rfl, hZ, hh⟩ := hP
  have hx := Bd.exec
  have hby := Bd.bytes
  have hml : c.maxLocals = 3 := hml0
  have hown : s.vm.findClass cCB = some m.cls := findClass_of_methodNamed Bd.named
  have hnm := (name_of_methodNamed Bd.named Bd.method).1
  have hret := Bd.returns
  have hlk : meth.locks = false := BodyLoose.notSynchronized Bd
  have X0 : Stand p l e ({ frames := 1, cells := 6, slots := 24, locals := 12 } : Room) s m #[(.ref a1), (.ref a2), (.int (4 : Int32))] below meth c s₁ [] 0 0 := Stand.of_body Bd
  have e0 : s₁.heap = h0 := by rw [← hh, Bd.state]; rfl
  have N0 := Fr.nil n0
  refine Rch.body (Q := Q_rmI Z a1 a2 bfi ben k_fi k_en h0 n0) (U' := s₁.setTop (mkF m 0 #[rv a1, rv a2, iv (4 : Int32)] [])) (fun _ k => castTop (ef_rmI m a1 a2) k) ?_
  refine Rch.go (U' := s₁.setTop (mkF m 1 #[rv a1, rv a2, iv (4 : Int32)] [(.ref a1)])) (fun _ k => XS.aloadN X0.here hx rfl (hb hby d32_0) rfl rfl k) ?_
  obtain ⟨T1394, X1394, e1394, st1394⟩ := initO X0 hx hZ hown (wi hw 33 rfl) (wi hw 8 rfl) (wi hw 9 rfl) e0 (g := (mkF m 1 #[rv a1, rv a2, iv (4 : Int32)] [(.ref a1)])) rfl (by rw [hml]; rfl) rfl (hb hby d32_1) (by decide) (W := 0) (by show 2 * 0 + _ ≤ _; exact Nat.le_of_eq rfl) (by decide)
  refine Rch.go (U' := T1394.setTop (mkF m 4 #[rv a1, rv a2, iv (4 : Int32)] [])) st1394 ?_
  refine Rch.go (U' := T1394.setTop (mkF m 5 #[rv a1, rv a2, iv (4 : Int32)] [(.ref a1)])) (fun _ k => XS.aloadN X1394.here hx rfl (hb hby d32_4) rfl rfl k) ?_
  refine Rch.go (U' := T1394.setTop (mkF m 6 #[rv a1, rv a2, iv (4 : Int32)] [(.ref a2), (.ref a1)])) (fun _ k => XS.aloadN X1394.here hx rfl (hb hby d32_5) rfl rfl k) ?_
  obtain ⟨T1395, h1395, X1395, e1395, W1395, st1395⟩ := putF X1394 hx hZ hown (host := "") (Or.inl (wi hw 34 rfl)) Via.refl e1394 F_a1_blocks E_a1 (Or.inr ⟨(wi hw 35 rfl), rfl, hnm⟩) (wi hw 28 rfl) (ty := (.object cBL)) (by decide) rfl rfl (g := (mkF m 6 #[rv a1, rv a2, iv (4 : Int32)] [(.ref a2), (.ref a1)])) rfl rfl (hb hby d32_6)
  have F1395 := F_a1_blocks.same W1395
  have f1396 := E_a1.wr W1395
  have f1397 := F_a1_compoundOf.other W1395 (Or.inr (slot_ne (Or.inr (wi hw 37 rfl)) (Or.inr (wi hw 35 rfl)) (by decide) (t := (.array .int)) (t' := (.object cBL)) (by decide) (by decide)))
  have f1398 := F_a1_nextInCompound.other W1395 (Or.inr (slot_ne (Or.inr (wi hw 39 rfl)) (Or.inr (wi hw 35 rfl)) (by decide) (t := (.array .int)) (t' := (.object cBL)) (by decide) (by decide)))
  have f1399 := F_a1_previousInCompound.other W1395 (Or.inr (slot_ne (Or.inr (wi hw 41 rfl)) (Or.inr (wi hw 35 rfl)) (by decide) (t := (.array .int)) (t' := (.object cBL)) (by decide) (by decide)))
  have f1400 := F_a1_firstBlock.other W1395 (Or.inr (slot_ne (Or.inr (wi hw 43 rfl)) (Or.inr (wi hw 35 rfl)) (by decide) (t := (.array .int)) (t' := (.object cBL)) (by decide) (by decide)))
  have f1401 := F_a1_pending.other W1395 (Or.inr (slot_ne (Or.inr (wi hw 45 rfl)) (Or.inr (wi hw 35 rfl)) (by decide) (t := (.array .int)) (t' := (.object cBL)) (by decide) (by decide)))
  have f1402 := F_a1_isPending.other W1395 (Or.inr (slot_ne (Or.inr (wi hw 48 rfl)) (Or.inr (wi hw 35 rfl)) (by decide) (t := (.array .boolean)) (t' := (.object cBL)) (by decide) (by decide)))
  have f1403 := F_a1_compoundCount.other W1395 (Or.inr (slot_ne (Or.inl (wi hw 50 rfl)) (Or.inr (wi hw 35 rfl)) (by decide) (t := .int) (t' := (.object cBL)) (by decide) (by decide)))
  have f1404 := F_a1_pendingCount.other W1395 (Or.inr (slot_ne (Or.inl (wi hw 57 rfl)) (Or.inr (wi hw 35 rfl)) (by decide) (t := .int) (t' := (.object cBL)) (by decide) (by decide)))
  have f1405 := E_a2.wr W1395
  have f1406 := FB_first.other W1395 (Or.inl (nN (nT hg1 (nT hg2 hg3))))
  have f1407 := FB_end.other W1395 (Or.inl (nN (nT hg1 (nT hg2 hg3))))
  have f1408 := V_fi.other W1395 (nN (nT hg2 hg3))
  have f1409 := V_en.other W1395 (nN hg3)
  have N1395 := Fr.snoc X1395 N0 g_a1
  have z1410 := Nat.le_trans Z0 (Keep.of_wr W1395).1
  refine Rch.go (U' := T1395.setTop (mkF m 9 #[rv a1, rv a2, iv (4 : Int32)] [])) st1395 ?_
  refine Rch.go (U' := T1395.setTop (mkF m 10 #[rv a1, rv a2, iv (4 : Int32)] [(.ref a1)])) (fun _ k => XS.aloadN X1395.here hx rfl (hb hby d32_9) rfl rfl k) ?_
  refine Rch.go (U' := T1395.setTop (mkF m 11 #[rv a1, rv a2, iv (4 : Int32)] [(.int (4 : Int32)), (.ref a1)])) (fun _ k => XS.iloadN X1395.here hx rfl (hb hby d32_10) rfl  k) ?_
  obtain ⟨T1411, h1411, k1411, X1411, e1411, E1411, A1411, st1411⟩ := newP X1395 hx hZ (wi hw 10 rfl) e1395 (g := (mkF m 11 #[rv a1, rv a2, iv (4 : Int32)] [(.int (4 : Int32)), (.ref a1)])) rfl (hb hby d32_11) rfl (by decide) (cap := 4) (by decide) (by decide) (by decide) (by decide)
  obtain ⟨b1411, g1411⟩ : ∃ z, z = h1395.size := ⟨_, rfl⟩
  rw [← g1411] at A1411 st1411
  have lne1412 : @LT.lt Nat _ a1 b1411 := Nat.lt_of_lt_of_le f1396.lt (Nat.le_of_eq g1411.symm)
  have ne1412 : a1 ≠ b1411 := Nat.ne_of_lt lne1412
  have lne1413 : @LT.lt Nat _ a2 b1411 := Nat.lt_of_lt_of_le f1405.lt (Nat.le_of_eq g1411.symm)
  have ne1413 : a2 ≠ b1411 := Nat.ne_of_lt lne1413
  have lne1414 : @LT.lt Nat _ bfi b1411 := Nat.lt_of_lt_of_le f1408.lt (Nat.le_of_eq g1411.symm)
  have ne1414 : bfi ≠ b1411 := Nat.ne_of_lt lne1414
  have lne1415 : @LT.lt Nat _ ben b1411 := Nat.lt_of_lt_of_le f1409.lt (Nat.le_of_eq g1411.symm)
  have ne1415 : ben ≠ b1411 := Nat.ne_of_lt lne1415
  have n0b1411 : n0 ≤ b1411 := Nat.le_trans z1410 (Nat.le_of_eq g1411.symm)
  have f1416 := f1396.ext E1411
  have f1417 := F1395.ext E1411
  have f1418 := f1397.ext E1411
  have f1419 := f1398.ext E1411
  have f1420 := f1399.ext E1411
  have f1421 := f1400.ext E1411
  have f1422 := f1401.ext E1411
  have f1423 := f1402.ext E1411
  have f1424 := f1403.ext E1411
  have f1425 := f1404.ext E1411
  have f1426 := f1405.ext E1411
  have f1427 := f1406.ext E1411
  have f1428 := f1407.ext E1411
  have f1429 := f1408.ext E1411
  have f1430 := f1409.ext E1411
  have z1431 := Nat.le_trans z1410 E1411.1
  have V1411 : Arv Z h1411 b1411 k1411 .int (4 : Int32) [(.int (0 : Int32)), (.int (0 : Int32)), (.int (0 : Int32)), (.int (0 : Int32))] (.int (0 : Int32)) := (Arv.new A1411 (by decide)).pad (pad_rep [] (.int (0 : Int32)) 4)
  refine Rch.go (U' := T1411.setTop (mkF m 13 #[rv a1, rv a2, iv (4 : Int32)] [(.ref b1411), (.ref a1)])) st1411 ?_
  obtain ⟨T1432, h1432, X1432, e1432, W1432, st1432⟩ := putF X1411 hx hZ hown (host := "") (Or.inl (wi hw 36 rfl)) Via.refl e1411 f1418 f1416 (Or.inr ⟨(wi hw 37 rfl), rfl, hnm⟩) (wi hw 28 rfl) (ty := (.array .int)) (by decide) rfl rfl (g := (mkF m 13 #[rv a1, rv a2, iv (4 : Int32)] [(.ref b1411), (.ref a1)])) rfl rfl (hb hby d32_13)
  have F1432 := f1418.same W1432
  have f1433 := f1416.wr W1432
  have f1434 := f1417.other W1432 (Or.inr (slot_ne (Or.inr (wi hw 35 rfl)) (Or.inr (wi hw 37 rfl)) (by decide) (t := (.object cBL)) (t' := (.array .int)) (by decide) (by decide)))
  have f1435 := f1419.other W1432 (Or.inr (slot_ne (Or.inr (wi hw 39 rfl)) (Or.inr (wi hw 37 rfl)) (by decide) (t := (.array .int)) (t' := (.array .int)) (by decide) (by decide)))
  have f1436 := f1420.other W1432 (Or.inr (slot_ne (Or.inr (wi hw 41 rfl)) (Or.inr (wi hw 37 rfl)) (by decide) (t := (.array .int)) (t' := (.array .int)) (by decide) (by decide)))
  have f1437 := f1421.other W1432 (Or.inr (slot_ne (Or.inr (wi hw 43 rfl)) (Or.inr (wi hw 37 rfl)) (by decide) (t := (.array .int)) (t' := (.array .int)) (by decide) (by decide)))
  have f1438 := f1422.other W1432 (Or.inr (slot_ne (Or.inr (wi hw 45 rfl)) (Or.inr (wi hw 37 rfl)) (by decide) (t := (.array .int)) (t' := (.array .int)) (by decide) (by decide)))
  have f1439 := f1423.other W1432 (Or.inr (slot_ne (Or.inr (wi hw 48 rfl)) (Or.inr (wi hw 37 rfl)) (by decide) (t := (.array .boolean)) (t' := (.array .int)) (by decide) (by decide)))
  have f1440 := f1424.other W1432 (Or.inr (slot_ne (Or.inl (wi hw 50 rfl)) (Or.inr (wi hw 37 rfl)) (by decide) (t := .int) (t' := (.array .int)) (by decide) (by decide)))
  have f1441 := f1425.other W1432 (Or.inr (slot_ne (Or.inl (wi hw 57 rfl)) (Or.inr (wi hw 37 rfl)) (by decide) (t := .int) (t' := (.array .int)) (by decide) (by decide)))
  have f1442 := f1426.wr W1432
  have f1443 := f1427.other W1432 (Or.inl (nN (nT hg1 (nT hg2 hg3))))
  have f1444 := f1428.other W1432 (Or.inl (nN (nT hg1 (nT hg2 hg3))))
  have f1445 := f1429.other W1432 (nN (nT hg2 hg3))
  have f1446 := f1430.other W1432 (nN hg3)
  have f1447 := V1411.other W1432 (Ne.symm ne1412)
  have N1432 := Fr.snoc X1432 N1395 g_a1
  have z1448 := Nat.le_trans z1431 (Keep.of_wr W1432).1
  refine Rch.go (U' := T1432.setTop (mkF m 16 #[rv a1, rv a2, iv (4 : Int32)] [])) st1432 ?_
  refine Rch.go (U' := T1432.setTop (mkF m 17 #[rv a1, rv a2, iv (4 : Int32)] [(.ref a1)])) (fun _ k => XS.aloadN X1432.here hx rfl (hb hby d32_16) rfl rfl k) ?_
  refine Rch.go (U' := T1432.setTop (mkF m 18 #[rv a1, rv a2, iv (4 : Int32)] [(.int (4 : Int32)), (.ref a1)])) (fun _ k => XS.iloadN X1432.here hx rfl (hb hby d32_17) rfl  k) ?_
  obtain ⟨T1449, h1449, k1449, X1449, e1449, E1449, A1449, st1449⟩ := newP X1432 hx hZ (wi hw 10 rfl) e1432 (g := (mkF m 18 #[rv a1, rv a2, iv (4 : Int32)] [(.int (4 : Int32)), (.ref a1)])) rfl (hb hby d32_18) rfl (by decide) (cap := 4) (by decide) (by decide) (by decide) (by decide)
  obtain ⟨b1449, g1449⟩ : ∃ z, z = h1432.size := ⟨_, rfl⟩
  rw [← g1449] at A1449 st1449
  have lne1450 : @LT.lt Nat _ a1 b1449 := Nat.lt_of_lt_of_le f1433.lt (Nat.le_of_eq g1449.symm)
  have ne1450 : a1 ≠ b1449 := Nat.ne_of_lt lne1450
  have lne1451 : @LT.lt Nat _ a2 b1449 := Nat.lt_of_lt_of_le f1442.lt (Nat.le_of_eq g1449.symm)
  have ne1451 : a2 ≠ b1449 := Nat.ne_of_lt lne1451
  have lne1452 : @LT.lt Nat _ bfi b1449 := Nat.lt_of_lt_of_le f1445.lt (Nat.le_of_eq g1449.symm)
  have ne1452 : bfi ≠ b1449 := Nat.ne_of_lt lne1452
  have lne1453 : @LT.lt Nat _ ben b1449 := Nat.lt_of_lt_of_le f1446.lt (Nat.le_of_eq g1449.symm)
  have ne1453 : ben ≠ b1449 := Nat.ne_of_lt lne1453
  have lne1454 : @LT.lt Nat _ b1411 b1449 := Nat.lt_of_lt_of_le f1447.lt (Nat.le_of_eq g1449.symm)
  have ne1454 : b1411 ≠ b1449 := Nat.ne_of_lt lne1454
  have n0b1449 : n0 ≤ b1449 := Nat.le_trans z1448 (Nat.le_of_eq g1449.symm)
  have f1455 := f1433.ext E1449
  have f1456 := f1434.ext E1449
  have f1457 := F1432.ext E1449
  have f1458 := f1435.ext E1449
  have f1459 := f1436.ext E1449
  have f1460 := f1437.ext E1449
  have f1461 := f1438.ext E1449
  have f1462 := f1439.ext E1449
  have f1463 := f1440.ext E1449
  have f1464 := f1441.ext E1449
  have f1465 := f1442.ext E1449
  have f1466 := f1443.ext E1449
  have f1467 := f1444.ext E1449
  have f1468 := f1445.ext E1449
  have f1469 := f1446.ext E1449
  have f1470 := f1447.ext E1449
  have z1471 := Nat.le_trans z1448 E1449.1
  have V1449 : Arv Z h1449 b1449 k1449 .int (4 : Int32) [(.int (0 : Int32)), (.int (0 : Int32)), (.int (0 : Int32)), (.int (0 : Int32))] (.int (0 : Int32)) := (Arv.new A1449 (by decide)).pad (pad_rep [] (.int (0 : Int32)) 4)
  refine Rch.go (U' := T1449.setTop (mkF m 20 #[rv a1, rv a2, iv (4 : Int32)] [(.ref b1449), (.ref a1)])) st1449 ?_
  obtain ⟨T1472, h1472, X1472, e1472, W1472, st1472⟩ := putF X1449 hx hZ hown (host := "") (Or.inl (wi hw 38 rfl)) Via.refl e1449 f1458 f1455 (Or.inr ⟨(wi hw 39 rfl), rfl, hnm⟩) (wi hw 28 rfl) (ty := (.array .int)) (by decide) rfl rfl (g := (mkF m 20 #[rv a1, rv a2, iv (4 : Int32)] [(.ref b1449), (.ref a1)])) rfl rfl (hb hby d32_20)
  have F1472 := f1458.same W1472
  have f1473 := f1455.wr W1472
  have f1474 := f1456.other W1472 (Or.inr (slot_ne (Or.inr (wi hw 35 rfl)) (Or.inr (wi hw 39 rfl)) (by decide) (t := (.object cBL)) (t' := (.array .int)) (by decide) (by decide)))
  have f1475 := f1457.other W1472 (Or.inr (slot_ne (Or.inr (wi hw 37 rfl)) (Or.inr (wi hw 39 rfl)) (by decide) (t := (.array .int)) (t' := (.array .int)) (by decide) (by decide)))
  have f1476 := f1459.other W1472 (Or.inr (slot_ne (Or.inr (wi hw 41 rfl)) (Or.inr (wi hw 39 rfl)) (by decide) (t := (.array .int)) (t' := (.array .int)) (by decide) (by decide)))
  have f1477 := f1460.other W1472 (Or.inr (slot_ne (Or.inr (wi hw 43 rfl)) (Or.inr (wi hw 39 rfl)) (by decide) (t := (.array .int)) (t' := (.array .int)) (by decide) (by decide)))
  have f1478 := f1461.other W1472 (Or.inr (slot_ne (Or.inr (wi hw 45 rfl)) (Or.inr (wi hw 39 rfl)) (by decide) (t := (.array .int)) (t' := (.array .int)) (by decide) (by decide)))
  have f1479 := f1462.other W1472 (Or.inr (slot_ne (Or.inr (wi hw 48 rfl)) (Or.inr (wi hw 39 rfl)) (by decide) (t := (.array .boolean)) (t' := (.array .int)) (by decide) (by decide)))
  have f1480 := f1463.other W1472 (Or.inr (slot_ne (Or.inl (wi hw 50 rfl)) (Or.inr (wi hw 39 rfl)) (by decide) (t := .int) (t' := (.array .int)) (by decide) (by decide)))
  have f1481 := f1464.other W1472 (Or.inr (slot_ne (Or.inl (wi hw 57 rfl)) (Or.inr (wi hw 39 rfl)) (by decide) (t := .int) (t' := (.array .int)) (by decide) (by decide)))
  have f1482 := f1465.wr W1472
  have f1483 := f1466.other W1472 (Or.inl (nN (nT hg1 (nT hg2 hg3))))
  have f1484 := f1467.other W1472 (Or.inl (nN (nT hg1 (nT hg2 hg3))))
  have f1485 := f1468.other W1472 (nN (nT hg2 hg3))
  have f1486 := f1469.other W1472 (nN hg3)
  have f1487 := f1470.other W1472 (Ne.symm ne1412)
  have f1488 := V1449.other W1472 (Ne.symm ne1450)
  have N1472 := Fr.snoc X1472 N1432 g_a1
  have z1489 := Nat.le_trans z1471 (Keep.of_wr W1472).1
  refine Rch.go (U' := T1472.setTop (mkF m 23 #[rv a1, rv a2, iv (4 : Int32)] [])) st1472 ?_
  refine Rch.go (U' := T1472.setTop (mkF m 24 #[rv a1, rv a2, iv (4 : Int32)] [(.ref a1)])) (fun _ k => XS.aloadN X1472.here hx rfl (hb hby d32_23) rfl rfl k) ?_
  refine Rch.go (U' := T1472.setTop (mkF m 25 #[rv a1, rv a2, iv (4 : Int32)] [(.int (4 : Int32)), (.ref a1)])) (fun _ k => XS.iloadN X1472.here hx rfl (hb hby d32_24) rfl  k) ?_
  obtain ⟨T1490, h1490, k1490, X1490, e1490, E1490, A1490, st1490⟩ := newP X1472 hx hZ (wi hw 10 rfl) e1472 (g := (mkF m 25 #[rv a1, rv a2, iv (4 : Int32)] [(.int (4 : Int32)), (.ref a1)])) rfl (hb hby d32_25) rfl (by decide) (cap := 4) (by decide) (by decide) (by decide) (by decide)
  obtain ⟨b1490, g1490⟩ : ∃ z, z = h1472.size := ⟨_, rfl⟩
  rw [← g1490] at A1490 st1490
  have lne1491 : @LT.lt Nat _ a1 b1490 := Nat.lt_of_lt_of_le f1473.lt (Nat.le_of_eq g1490.symm)
  have ne1491 : a1 ≠ b1490 := Nat.ne_of_lt lne1491
  have lne1492 : @LT.lt Nat _ a2 b1490 := Nat.lt_of_lt_of_le f1482.lt (Nat.le_of_eq g1490.symm)
  have ne1492 : a2 ≠ b1490 := Nat.ne_of_lt lne1492
  have lne1493 : @LT.lt Nat _ bfi b1490 := Nat.lt_of_lt_of_le f1485.lt (Nat.le_of_eq g1490.symm)
  have ne1493 : bfi ≠ b1490 := Nat.ne_of_lt lne1493
  have lne1494 : @LT.lt Nat _ ben b1490 := Nat.lt_of_lt_of_le f1486.lt (Nat.le_of_eq g1490.symm)
  have ne1494 : ben ≠ b1490 := Nat.ne_of_lt lne1494
  have lne1495 : @LT.lt Nat _ b1411 b1490 := Nat.lt_of_lt_of_le f1487.lt (Nat.le_of_eq g1490.symm)
  have ne1495 : b1411 ≠ b1490 := Nat.ne_of_lt lne1495
  have lne1496 : @LT.lt Nat _ b1449 b1490 := Nat.lt_of_lt_of_le f1488.lt (Nat.le_of_eq g1490.symm)
  have ne1496 : b1449 ≠ b1490 := Nat.ne_of_lt lne1496
  have n0b1490 : n0 ≤ b1490 := Nat.le_trans z1489 (Nat.le_of_eq g1490.symm)
  have f1497 := f1473.ext E1490
  have f1498 := f1474.ext E1490
  have f1499 := f1475.ext E1490
  have f1500 := F1472.ext E1490
  have f1501 := f1476.ext E1490
  have f1502 := f1477.ext E1490
  have f1503 := f1478.ext E1490
  have f1504 := f1479.ext E1490
  have f1505 := f1480.ext E1490
  have f1506 := f1481.ext E1490
  have f1507 := f1482.ext E1490
  have f1508 := f1483.ext E1490
  have f1509 := f1484.ext E1490
  have f1510 := f1485.ext E1490
  have f1511 := f1486.ext E1490
  have f1512 := f1487.ext E1490
  have f1513 := f1488.ext E1490
  have z1514 := Nat.le_trans z1489 E1490.1
  have V1490 : Arv Z h1490 b1490 k1490 .int (4 : Int32) [(.int (0 : Int32)), (.int (0 : Int32)), (.int (0 : Int32)), (.int (0 : Int32))] (.int (0 : Int32)) := (Arv.new A1490 (by decide)).pad (pad_rep [] (.int (0 : Int32)) 4)
  refine Rch.go (U' := T1490.setTop (mkF m 27 #[rv a1, rv a2, iv (4 : Int32)] [(.ref b1490), (.ref a1)])) st1490 ?_
  obtain ⟨T1515, h1515, X1515, e1515, W1515, st1515⟩ := putF X1490 hx hZ hown (host := "") (Or.inl (wi hw 40 rfl)) Via.refl e1490 f1501 f1497 (Or.inr ⟨(wi hw 41 rfl), rfl, hnm⟩) (wi hw 28 rfl) (ty := (.array .int)) (by decide) rfl rfl (g := (mkF m 27 #[rv a1, rv a2, iv (4 : Int32)] [(.ref b1490), (.ref a1)])) rfl rfl (hb hby d32_27)
  have F1515 := f1501.same W1515
  have f1516 := f1497.wr W1515
  have f1517 := f1498.other W1515 (Or.inr (slot_ne (Or.inr (wi hw 35 rfl)) (Or.inr (wi hw 41 rfl)) (by decide) (t := (.object cBL)) (t' := (.array .int)) (by decide) (by decide)))
  have f1518 := f1499.other W1515 (Or.inr (slot_ne (Or.inr (wi hw 37 rfl)) (Or.inr (wi hw 41 rfl)) (by decide) (t := (.array .int)) (t' := (.array .int)) (by decide) (by decide)))
  have f1519 := f1500.other W1515 (Or.inr (slot_ne (Or.inr (wi hw 39 rfl)) (Or.inr (wi hw 41 rfl)) (by decide) (t := (.array .int)) (t' := (.array .int)) (by decide) (by decide)))
  have f1520 := f1502.other W1515 (Or.inr (slot_ne (Or.inr (wi hw 43 rfl)) (Or.inr (wi hw 41 rfl)) (by decide) (t := (.array .int)) (t' := (.array .int)) (by decide) (by decide)))
  have f1521 := f1503.other W1515 (Or.inr (slot_ne (Or.inr (wi hw 45 rfl)) (Or.inr (wi hw 41 rfl)) (by decide) (t := (.array .int)) (t' := (.array .int)) (by decide) (by decide)))
  have f1522 := f1504.other W1515 (Or.inr (slot_ne (Or.inr (wi hw 48 rfl)) (Or.inr (wi hw 41 rfl)) (by decide) (t := (.array .boolean)) (t' := (.array .int)) (by decide) (by decide)))
  have f1523 := f1505.other W1515 (Or.inr (slot_ne (Or.inl (wi hw 50 rfl)) (Or.inr (wi hw 41 rfl)) (by decide) (t := .int) (t' := (.array .int)) (by decide) (by decide)))
  have f1524 := f1506.other W1515 (Or.inr (slot_ne (Or.inl (wi hw 57 rfl)) (Or.inr (wi hw 41 rfl)) (by decide) (t := .int) (t' := (.array .int)) (by decide) (by decide)))
  have f1525 := f1507.wr W1515
  have f1526 := f1508.other W1515 (Or.inl (nN (nT hg1 (nT hg2 hg3))))
  have f1527 := f1509.other W1515 (Or.inl (nN (nT hg1 (nT hg2 hg3))))
  have f1528 := f1510.other W1515 (nN (nT hg2 hg3))
  have f1529 := f1511.other W1515 (nN hg3)
  have f1530 := f1512.other W1515 (Ne.symm ne1412)
  have f1531 := f1513.other W1515 (Ne.symm ne1450)
  have f1532 := V1490.other W1515 (Ne.symm ne1491)
  have N1515 := Fr.snoc X1515 N1472 g_a1
  have z1533 := Nat.le_trans z1514 (Keep.of_wr W1515).1
  refine Rch.go (U' := T1515.setTop (mkF m 30 #[rv a1, rv a2, iv (4 : Int32)] [])) st1515 ?_
  refine Rch.go (U' := T1515.setTop (mkF m 31 #[rv a1, rv a2, iv (4 : Int32)] [(.ref a1)])) (fun _ k => XS.aloadN X1515.here hx rfl (hb hby d32_30) rfl rfl k) ?_
  refine Rch.go (U' := T1515.setTop (mkF m 32 #[rv a1, rv a2, iv (4 : Int32)] [(.int (4 : Int32)), (.ref a1)])) (fun _ k => XS.iloadN X1515.here hx rfl (hb hby d32_31) rfl  k) ?_
  obtain ⟨T1534, h1534, k1534, X1534, e1534, E1534, A1534, st1534⟩ := newP X1515 hx hZ (wi hw 10 rfl) e1515 (g := (mkF m 32 #[rv a1, rv a2, iv (4 : Int32)] [(.int (4 : Int32)), (.ref a1)])) rfl (hb hby d32_32) rfl (by decide) (cap := 4) (by decide) (by decide) (by decide) (by decide)
  obtain ⟨b1534, g1534⟩ : ∃ z, z = h1515.size := ⟨_, rfl⟩
  rw [← g1534] at A1534 st1534
  have lne1535 : @LT.lt Nat _ a1 b1534 := Nat.lt_of_lt_of_le f1516.lt (Nat.le_of_eq g1534.symm)
  have ne1535 : a1 ≠ b1534 := Nat.ne_of_lt lne1535
  have lne1536 : @LT.lt Nat _ a2 b1534 := Nat.lt_of_lt_of_le f1525.lt (Nat.le_of_eq g1534.symm)
  have ne1536 : a2 ≠ b1534 := Nat.ne_of_lt lne1536
  have lne1537 : @LT.lt Nat _ bfi b1534 := Nat.lt_of_lt_of_le f1528.lt (Nat.le_of_eq g1534.symm)
  have ne1537 : bfi ≠ b1534 := Nat.ne_of_lt lne1537
  have lne1538 : @LT.lt Nat _ ben b1534 := Nat.lt_of_lt_of_le f1529.lt (Nat.le_of_eq g1534.symm)
  have ne1538 : ben ≠ b1534 := Nat.ne_of_lt lne1538
  have lne1539 : @LT.lt Nat _ b1411 b1534 := Nat.lt_of_lt_of_le f1530.lt (Nat.le_of_eq g1534.symm)
  have ne1539 : b1411 ≠ b1534 := Nat.ne_of_lt lne1539
  have lne1540 : @LT.lt Nat _ b1449 b1534 := Nat.lt_of_lt_of_le f1531.lt (Nat.le_of_eq g1534.symm)
  have ne1540 : b1449 ≠ b1534 := Nat.ne_of_lt lne1540
  have lne1541 : @LT.lt Nat _ b1490 b1534 := Nat.lt_of_lt_of_le f1532.lt (Nat.le_of_eq g1534.symm)
  have ne1541 : b1490 ≠ b1534 := Nat.ne_of_lt lne1541
  have n0b1534 : n0 ≤ b1534 := Nat.le_trans z1533 (Nat.le_of_eq g1534.symm)
  have f1542 := f1516.ext E1534
  have f1543 := f1517.ext E1534
  have f1544 := f1518.ext E1534
  have f1545 := f1519.ext E1534
  have f1546 := F1515.ext E1534
  have f1547 := f1520.ext E1534
  have f1548 := f1521.ext E1534
  have f1549 := f1522.ext E1534
  have f1550 := f1523.ext E1534
  have f1551 := f1524.ext E1534
  have f1552 := f1525.ext E1534
  have f1553 := f1526.ext E1534
  have f1554 := f1527.ext E1534
  have f1555 := f1528.ext E1534
  have f1556 := f1529.ext E1534
  have f1557 := f1530.ext E1534
  have f1558 := f1531.ext E1534
  have f1559 := f1532.ext E1534
  have z1560 := Nat.le_trans z1533 E1534.1
  have V1534 : Arv Z h1534 b1534 k1534 .int (4 : Int32) [(.int (0 : Int32)), (.int (0 : Int32)), (.int (0 : Int32)), (.int (0 : Int32))] (.int (0 : Int32)) := (Arv.new A1534 (by decide)).pad (pad_rep [] (.int (0 : Int32)) 4)
  refine Rch.go (U' := T1534.setTop (mkF m 34 #[rv a1, rv a2, iv (4 : Int32)] [(.ref b1534), (.ref a1)])) st1534 ?_
  obtain ⟨T1561, h1561, X1561, e1561, W1561, st1561⟩ := putF X1534 hx hZ hown (host := "") (Or.inl (wi hw 42 rfl)) Via.refl e1534 f1547 f1542 (Or.inr ⟨(wi hw 43 rfl), rfl, hnm⟩) (wi hw 28 rfl) (ty := (.array .int)) (by decide) rfl rfl (g := (mkF m 34 #[rv a1, rv a2, iv (4 : Int32)] [(.ref b1534), (.ref a1)])) rfl rfl (hb hby d32_34)
  have F1561 := f1547.same W1561
  have f1562 := f1542.wr W1561
  have f1563 := f1543.other W1561 (Or.inr (slot_ne (Or.inr (wi hw 35 rfl)) (Or.inr (wi hw 43 rfl)) (by decide) (t := (.object cBL)) (t' := (.array .int)) (by decide) (by decide)))
  have f1564 := f1544.other W1561 (Or.inr (slot_ne (Or.inr (wi hw 37 rfl)) (Or.inr (wi hw 43 rfl)) (by decide) (t := (.array .int)) (t' := (.array .int)) (by decide) (by decide)))
  have f1565 := f1545.other W1561 (Or.inr (slot_ne (Or.inr (wi hw 39 rfl)) (Or.inr (wi hw 43 rfl)) (by decide) (t := (.array .int)) (t' := (.array .int)) (by decide) (by decide)))
  have f1566 := f1546.other W1561 (Or.inr (slot_ne (Or.inr (wi hw 41 rfl)) (Or.inr (wi hw 43 rfl)) (by decide) (t := (.array .int)) (t' := (.array .int)) (by decide) (by decide)))
  have f1567 := f1548.other W1561 (Or.inr (slot_ne (Or.inr (wi hw 45 rfl)) (Or.inr (wi hw 43 rfl)) (by decide) (t := (.array .int)) (t' := (.array .int)) (by decide) (by decide)))
  have f1568 := f1549.other W1561 (Or.inr (slot_ne (Or.inr (wi hw 48 rfl)) (Or.inr (wi hw 43 rfl)) (by decide) (t := (.array .boolean)) (t' := (.array .int)) (by decide) (by decide)))
  have f1569 := f1550.other W1561 (Or.inr (slot_ne (Or.inl (wi hw 50 rfl)) (Or.inr (wi hw 43 rfl)) (by decide) (t := .int) (t' := (.array .int)) (by decide) (by decide)))
  have f1570 := f1551.other W1561 (Or.inr (slot_ne (Or.inl (wi hw 57 rfl)) (Or.inr (wi hw 43 rfl)) (by decide) (t := .int) (t' := (.array .int)) (by decide) (by decide)))
  have f1571 := f1552.wr W1561
  have f1572 := f1553.other W1561 (Or.inl (nN (nT hg1 (nT hg2 hg3))))
  have f1573 := f1554.other W1561 (Or.inl (nN (nT hg1 (nT hg2 hg3))))
  have f1574 := f1555.other W1561 (nN (nT hg2 hg3))
  have f1575 := f1556.other W1561 (nN hg3)
  have f1576 := f1557.other W1561 (Ne.symm ne1412)
  have f1577 := f1558.other W1561 (Ne.symm ne1450)
  have f1578 := f1559.other W1561 (Ne.symm ne1491)
  have f1579 := V1534.other W1561 (Ne.symm ne1535)
  have N1561 := Fr.snoc X1561 N1515 g_a1
  have z1580 := Nat.le_trans z1560 (Keep.of_wr W1561).1
  refine Rch.go (U' := T1561.setTop (mkF m 37 #[rv a1, rv a2, iv (4 : Int32)] [])) st1561 ?_
  refine Rch.go (U' := T1561.setTop (mkF m 38 #[rv a1, rv a2, iv (4 : Int32)] [(.ref a1)])) (fun _ k => XS.aloadN X1561.here hx rfl (hb hby d32_37) rfl rfl k) ?_
  refine Rch.go (U' := T1561.setTop (mkF m 39 #[rv a1, rv a2, iv (4 : Int32)] [(.int (4 : Int32)), (.ref a1)])) (fun _ k => XS.iloadN X1561.here hx rfl (hb hby d32_38) rfl  k) ?_
  obtain ⟨T1581, h1581, k1581, X1581, e1581, E1581, A1581, st1581⟩ := newP X1561 hx hZ (wi hw 10 rfl) e1561 (g := (mkF m 39 #[rv a1, rv a2, iv (4 : Int32)] [(.int (4 : Int32)), (.ref a1)])) rfl (hb hby d32_39) rfl (by decide) (cap := 4) (by decide) (by decide) (by decide) (by decide)
  obtain ⟨b1581, g1581⟩ : ∃ z, z = h1561.size := ⟨_, rfl⟩
  rw [← g1581] at A1581 st1581
  have lne1582 : @LT.lt Nat _ a1 b1581 := Nat.lt_of_lt_of_le f1562.lt (Nat.le_of_eq g1581.symm)
  have ne1582 : a1 ≠ b1581 := Nat.ne_of_lt lne1582
  have lne1583 : @LT.lt Nat _ a2 b1581 := Nat.lt_of_lt_of_le f1571.lt (Nat.le_of_eq g1581.symm)
  have ne1583 : a2 ≠ b1581 := Nat.ne_of_lt lne1583
  have lne1584 : @LT.lt Nat _ bfi b1581 := Nat.lt_of_lt_of_le f1574.lt (Nat.le_of_eq g1581.symm)
  have ne1584 : bfi ≠ b1581 := Nat.ne_of_lt lne1584
  have lne1585 : @LT.lt Nat _ ben b1581 := Nat.lt_of_lt_of_le f1575.lt (Nat.le_of_eq g1581.symm)
  have ne1585 : ben ≠ b1581 := Nat.ne_of_lt lne1585
  have lne1586 : @LT.lt Nat _ b1411 b1581 := Nat.lt_of_lt_of_le f1576.lt (Nat.le_of_eq g1581.symm)
  have ne1586 : b1411 ≠ b1581 := Nat.ne_of_lt lne1586
  have lne1587 : @LT.lt Nat _ b1449 b1581 := Nat.lt_of_lt_of_le f1577.lt (Nat.le_of_eq g1581.symm)
  have ne1587 : b1449 ≠ b1581 := Nat.ne_of_lt lne1587
  have lne1588 : @LT.lt Nat _ b1490 b1581 := Nat.lt_of_lt_of_le f1578.lt (Nat.le_of_eq g1581.symm)
  have ne1588 : b1490 ≠ b1581 := Nat.ne_of_lt lne1588
  have lne1589 : @LT.lt Nat _ b1534 b1581 := Nat.lt_of_lt_of_le f1579.lt (Nat.le_of_eq g1581.symm)
  have ne1589 : b1534 ≠ b1581 := Nat.ne_of_lt lne1589
  have n0b1581 : n0 ≤ b1581 := Nat.le_trans z1580 (Nat.le_of_eq g1581.symm)
  have f1590 := f1562.ext E1581
  have f1591 := f1563.ext E1581
  have f1592 := f1564.ext E1581
  have f1593 := f1565.ext E1581
  have f1594 := f1566.ext E1581
  have f1595 := F1561.ext E1581
  have f1596 := f1567.ext E1581
  have f1597 := f1568.ext E1581
  have f1598 := f1569.ext E1581
  have f1599 := f1570.ext E1581
  have f1600 := f1571.ext E1581
  have f1601 := f1572.ext E1581
  have f1602 := f1573.ext E1581
  have f1603 := f1574.ext E1581
  have f1604 := f1575.ext E1581
  have f1605 := f1576.ext E1581
  have f1606 := f1577.ext E1581
  have f1607 := f1578.ext E1581
  have f1608 := f1579.ext E1581
  have z1609 := Nat.le_trans z1580 E1581.1
  have V1581 : Arv Z h1581 b1581 k1581 .int (4 : Int32) [(.int (0 : Int32)), (.int (0 : Int32)), (.int (0 : Int32)), (.int (0 : Int32))] (.int (0 : Int32)) := (Arv.new A1581 (by decide)).pad (pad_rep [] (.int (0 : Int32)) 4)
  refine Rch.go (U' := T1581.setTop (mkF m 41 #[rv a1, rv a2, iv (4 : Int32)] [(.ref b1581), (.ref a1)])) st1581 ?_
  obtain ⟨T1610, h1610, X1610, e1610, W1610, st1610⟩ := putF X1581 hx hZ hown (host := "") (Or.inl (wi hw 44 rfl)) Via.refl e1581 f1596 f1590 (Or.inr ⟨(wi hw 45 rfl), rfl, hnm⟩) (wi hw 28 rfl) (ty := (.array .int)) (by decide) rfl rfl (g := (mkF m 41 #[rv a1, rv a2, iv (4 : Int32)] [(.ref b1581), (.ref a1)])) rfl rfl (hb hby d32_41)
  have F1610 := f1596.same W1610
  have f1611 := f1590.wr W1610
  have f1612 := f1591.other W1610 (Or.inr (slot_ne (Or.inr (wi hw 35 rfl)) (Or.inr (wi hw 45 rfl)) (by decide) (t := (.object cBL)) (t' := (.array .int)) (by decide) (by decide)))
  have f1613 := f1592.other W1610 (Or.inr (slot_ne (Or.inr (wi hw 37 rfl)) (Or.inr (wi hw 45 rfl)) (by decide) (t := (.array .int)) (t' := (.array .int)) (by decide) (by decide)))
  have f1614 := f1593.other W1610 (Or.inr (slot_ne (Or.inr (wi hw 39 rfl)) (Or.inr (wi hw 45 rfl)) (by decide) (t := (.array .int)) (t' := (.array .int)) (by decide) (by decide)))
  have f1615 := f1594.other W1610 (Or.inr (slot_ne (Or.inr (wi hw 41 rfl)) (Or.inr (wi hw 45 rfl)) (by decide) (t := (.array .int)) (t' := (.array .int)) (by decide) (by decide)))
  have f1616 := f1595.other W1610 (Or.inr (slot_ne (Or.inr (wi hw 43 rfl)) (Or.inr (wi hw 45 rfl)) (by decide) (t := (.array .int)) (t' := (.array .int)) (by decide) (by decide)))
  have f1617 := f1597.other W1610 (Or.inr (slot_ne (Or.inr (wi hw 48 rfl)) (Or.inr (wi hw 45 rfl)) (by decide) (t := (.array .boolean)) (t' := (.array .int)) (by decide) (by decide)))
  have f1618 := f1598.other W1610 (Or.inr (slot_ne (Or.inl (wi hw 50 rfl)) (Or.inr (wi hw 45 rfl)) (by decide) (t := .int) (t' := (.array .int)) (by decide) (by decide)))
  have f1619 := f1599.other W1610 (Or.inr (slot_ne (Or.inl (wi hw 57 rfl)) (Or.inr (wi hw 45 rfl)) (by decide) (t := .int) (t' := (.array .int)) (by decide) (by decide)))
  have f1620 := f1600.wr W1610
  have f1621 := f1601.other W1610 (Or.inl (nN (nT hg1 (nT hg2 hg3))))
  have f1622 := f1602.other W1610 (Or.inl (nN (nT hg1 (nT hg2 hg3))))
  have f1623 := f1603.other W1610 (nN (nT hg2 hg3))
  have f1624 := f1604.other W1610 (nN hg3)
  have f1625 := f1605.other W1610 (Ne.symm ne1412)
  have f1626 := f1606.other W1610 (Ne.symm ne1450)
  have f1627 := f1607.other W1610 (Ne.symm ne1491)
  have f1628 := f1608.other W1610 (Ne.symm ne1535)
  have f1629 := V1581.other W1610 (Ne.symm ne1582)
  have N1610 := Fr.snoc X1610 N1561 g_a1
  have z1630 := Nat.le_trans z1609 (Keep.of_wr W1610).1
  refine Rch.go (U' := T1610.setTop (mkF m 44 #[rv a1, rv a2, iv (4 : Int32)] [])) st1610 ?_
  refine Rch.go (U' := T1610.setTop (mkF m 45 #[rv a1, rv a2, iv (4 : Int32)] [(.ref a1)])) (fun _ k => XS.aloadN X1610.here hx rfl (hb hby d32_44) rfl rfl k) ?_
  refine Rch.go (U' := T1610.setTop (mkF m 46 #[rv a1, rv a2, iv (4 : Int32)] [(.int (4 : Int32)), (.ref a1)])) (fun _ k => XS.iloadN X1610.here hx rfl (hb hby d32_45) rfl  k) ?_
  obtain ⟨T1631, h1631, k1631, X1631, e1631, E1631, A1631, st1631⟩ := newP X1610 hx hZ (wi hw 46 rfl) e1610 (g := (mkF m 46 #[rv a1, rv a2, iv (4 : Int32)] [(.int (4 : Int32)), (.ref a1)])) rfl (hb hby d32_46) rfl (by decide) (cap := 4) (by decide) (by decide) (by decide) (by decide)
  obtain ⟨b1631, g1631⟩ : ∃ z, z = h1610.size := ⟨_, rfl⟩
  rw [← g1631] at A1631 st1631
  have lne1632 : @LT.lt Nat _ a1 b1631 := Nat.lt_of_lt_of_le f1611.lt (Nat.le_of_eq g1631.symm)
  have ne1632 : a1 ≠ b1631 := Nat.ne_of_lt lne1632
  have lne1633 : @LT.lt Nat _ a2 b1631 := Nat.lt_of_lt_of_le f1620.lt (Nat.le_of_eq g1631.symm)
  have ne1633 : a2 ≠ b1631 := Nat.ne_of_lt lne1633
  have lne1634 : @LT.lt Nat _ bfi b1631 := Nat.lt_of_lt_of_le f1623.lt (Nat.le_of_eq g1631.symm)
  have ne1634 : bfi ≠ b1631 := Nat.ne_of_lt lne1634
  have lne1635 : @LT.lt Nat _ ben b1631 := Nat.lt_of_lt_of_le f1624.lt (Nat.le_of_eq g1631.symm)
  have ne1635 : ben ≠ b1631 := Nat.ne_of_lt lne1635
  have lne1636 : @LT.lt Nat _ b1411 b1631 := Nat.lt_of_lt_of_le f1625.lt (Nat.le_of_eq g1631.symm)
  have ne1636 : b1411 ≠ b1631 := Nat.ne_of_lt lne1636
  have lne1637 : @LT.lt Nat _ b1449 b1631 := Nat.lt_of_lt_of_le f1626.lt (Nat.le_of_eq g1631.symm)
  have ne1637 : b1449 ≠ b1631 := Nat.ne_of_lt lne1637
  have lne1638 : @LT.lt Nat _ b1490 b1631 := Nat.lt_of_lt_of_le f1627.lt (Nat.le_of_eq g1631.symm)
  have ne1638 : b1490 ≠ b1631 := Nat.ne_of_lt lne1638
  have lne1639 : @LT.lt Nat _ b1534 b1631 := Nat.lt_of_lt_of_le f1628.lt (Nat.le_of_eq g1631.symm)
  have ne1639 : b1534 ≠ b1631 := Nat.ne_of_lt lne1639
  have lne1640 : @LT.lt Nat _ b1581 b1631 := Nat.lt_of_lt_of_le f1629.lt (Nat.le_of_eq g1631.symm)
  have ne1640 : b1581 ≠ b1631 := Nat.ne_of_lt lne1640
  have n0b1631 : n0 ≤ b1631 := Nat.le_trans z1630 (Nat.le_of_eq g1631.symm)
  have f1641 := f1611.ext E1631
  have f1642 := f1612.ext E1631
  have f1643 := f1613.ext E1631
  have f1644 := f1614.ext E1631
  have f1645 := f1615.ext E1631
  have f1646 := f1616.ext E1631
  have f1647 := F1610.ext E1631
  have f1648 := f1617.ext E1631
  have f1649 := f1618.ext E1631
  have f1650 := f1619.ext E1631
  have f1651 := f1620.ext E1631
  have f1652 := f1621.ext E1631
  have f1653 := f1622.ext E1631
  have f1654 := f1623.ext E1631
  have f1655 := f1624.ext E1631
  have f1656 := f1625.ext E1631
  have f1657 := f1626.ext E1631
  have f1658 := f1627.ext E1631
  have f1659 := f1628.ext E1631
  have f1660 := f1629.ext E1631
  have z1661 := Nat.le_trans z1630 E1631.1
  have V1631 : Arv Z h1631 b1631 k1631 .boolean (4 : Int32) [(.int (0 : Int32)), (.int (0 : Int32)), (.int (0 : Int32)), (.int (0 : Int32))] (.int (0 : Int32)) := (Arv.new A1631 (by decide)).pad (pad_rep [] (.int (0 : Int32)) 4)
  refine Rch.go (U' := T1631.setTop (mkF m 48 #[rv a1, rv a2, iv (4 : Int32)] [(.ref b1631), (.ref a1)])) st1631 ?_
  obtain ⟨T1662, h1662, X1662, e1662, W1662, st1662⟩ := putF X1631 hx hZ hown (host := "") (Or.inl (wi hw 47 rfl)) Via.refl e1631 f1648 f1641 (Or.inr ⟨(wi hw 48 rfl), rfl, hnm⟩) (wi hw 28 rfl) (ty := (.array .boolean)) (by decide) rfl rfl (g := (mkF m 48 #[rv a1, rv a2, iv (4 : Int32)] [(.ref b1631), (.ref a1)])) rfl rfl (hb hby d32_48)
  have F1662 := f1648.same W1662
  have f1663 := f1641.wr W1662
  have f1664 := f1642.other W1662 (Or.inr (slot_ne (Or.inr (wi hw 35 rfl)) (Or.inr (wi hw 48 rfl)) (by decide) (t := (.object cBL)) (t' := (.array .boolean)) (by decide) (by decide)))
  have f1665 := f1643.other W1662 (Or.inr (slot_ne (Or.inr (wi hw 37 rfl)) (Or.inr (wi hw 48 rfl)) (by decide) (t := (.array .int)) (t' := (.array .boolean)) (by decide) (by decide)))
  have f1666 := f1644.other W1662 (Or.inr (slot_ne (Or.inr (wi hw 39 rfl)) (Or.inr (wi hw 48 rfl)) (by decide) (t := (.array .int)) (t' := (.array .boolean)) (by decide) (by decide)))
  have f1667 := f1645.other W1662 (Or.inr (slot_ne (Or.inr (wi hw 41 rfl)) (Or.inr (wi hw 48 rfl)) (by decide) (t := (.array .int)) (t' := (.array .boolean)) (by decide) (by decide)))
  have f1668 := f1646.other W1662 (Or.inr (slot_ne (Or.inr (wi hw 43 rfl)) (Or.inr (wi hw 48 rfl)) (by decide) (t := (.array .int)) (t' := (.array .boolean)) (by decide) (by decide)))
  have f1669 := f1647.other W1662 (Or.inr (slot_ne (Or.inr (wi hw 45 rfl)) (Or.inr (wi hw 48 rfl)) (by decide) (t := (.array .int)) (t' := (.array .boolean)) (by decide) (by decide)))
  have f1670 := f1649.other W1662 (Or.inr (slot_ne (Or.inl (wi hw 50 rfl)) (Or.inr (wi hw 48 rfl)) (by decide) (t := .int) (t' := (.array .boolean)) (by decide) (by decide)))
  have f1671 := f1650.other W1662 (Or.inr (slot_ne (Or.inl (wi hw 57 rfl)) (Or.inr (wi hw 48 rfl)) (by decide) (t := .int) (t' := (.array .boolean)) (by decide) (by decide)))
  have f1672 := f1651.wr W1662
  have f1673 := f1652.other W1662 (Or.inl (nN (nT hg1 (nT hg2 hg3))))
  have f1674 := f1653.other W1662 (Or.inl (nN (nT hg1 (nT hg2 hg3))))
  have f1675 := f1654.other W1662 (nN (nT hg2 hg3))
  have f1676 := f1655.other W1662 (nN hg3)
  have f1677 := f1656.other W1662 (Ne.symm ne1412)
  have f1678 := f1657.other W1662 (Ne.symm ne1450)
  have f1679 := f1658.other W1662 (Ne.symm ne1491)
  have f1680 := f1659.other W1662 (Ne.symm ne1535)
  have f1681 := f1660.other W1662 (Ne.symm ne1582)
  have f1682 := V1631.other W1662 (Ne.symm ne1632)
  have N1662 := Fr.snoc X1662 N1610 g_a1
  have z1683 := Nat.le_trans z1661 (Keep.of_wr W1662).1
  refine Rch.go (U' := T1662.setTop (mkF m 51 #[rv a1, rv a2, iv (4 : Int32)] [])) st1662 ?_
  refine Rch.go (U' := T1662.setTop (mkF m 52 #[rv a1, rv a2, iv (4 : Int32)] [(.int (4 : Int32))])) (fun _ k => XS.iloadN X1662.here hx rfl (hb hby d32_51) rfl  k) ?_
  have br1684 : (0 : Int32) < (4 : Int32) := (by decide)
  refine Rch.go (U' := T1662.setTop (mkF m 55 #[rv a1, rv a2, iv (4 : Int32)] [])) (fun _ k => XS.ifNo X1662.here hx rfl (hb hby d32_52) rfl (XT.i0_le_f br1684) k) ?_
  refine Rch.go (U' := T1662.setTop (mkF m 56 #[rv a1, rv a2, iv (4 : Int32)] [(.ref a1)])) (fun _ k => XS.aloadN X1662.here hx rfl (hb hby d32_55) rfl rfl k) ?_
  refine Rch.go (U' := T1662.setTop (mkF m 57 #[rv a1, rv a2, iv (4 : Int32)] [(.int (1 : Int32)), (.ref a1)])) (fun _ k => XS.iconst X1662.here hx rfl (hb hby d32_56) k) ?_
  obtain ⟨T1685, h1685, X1685, e1685, W1685, st1685⟩ := putF X1662 hx hZ hown (host := "") (Or.inl (wi hw 49 rfl)) Via.refl e1662 f1670 f1663 (Or.inl (wi hw 50 rfl)) (wi hw 28 rfl) (ty := .int) (by decide) rfl rfl (g := (mkF m 57 #[rv a1, rv a2, iv (4 : Int32)] [(.int (1 : Int32)), (.ref a1)])) rfl rfl (hb hby d32_57)
  have F1685 := f1670.same W1685
  have f1686 := f1663.wr W1685
  have f1687 := f1664.other W1685 (Or.inr (slot_ne (Or.inr (wi hw 35 rfl)) (Or.inl (wi hw 50 rfl)) (by decide) (t := (.object cBL)) (t' := .int) (by decide) (by decide)))
  have f1688 := f1665.other W1685 (Or.inr (slot_ne (Or.inr (wi hw 37 rfl)) (Or.inl (wi hw 50 rfl)) (by decide) (t := (.array .int)) (t' := .int) (by decide) (by decide)))
  have f1689 := f1666.other W1685 (Or.inr (slot_ne (Or.inr (wi hw 39 rfl)) (Or.inl (wi hw 50 rfl)) (by decide) (t := (.array .int)) (t' := .int) (by decide) (by decide)))
  have f1690 := f1667.other W1685 (Or.inr (slot_ne (Or.inr (wi hw 41 rfl)) (Or.inl (wi hw 50 rfl)) (by decide) (t := (.array .int)) (t' := .int) (by decide) (by decide)))
  have f1691 := f1668.other W1685 (Or.inr (slot_ne (Or.inr (wi hw 43 rfl)) (Or.inl (wi hw 50 rfl)) (by decide) (t := (.array .int)) (t' := .int) (by decide) (by decide)))
  have f1692 := f1669.other W1685 (Or.inr (slot_ne (Or.inr (wi hw 45 rfl)) (Or.inl (wi hw 50 rfl)) (by decide) (t := (.array .int)) (t' := .int) (by decide) (by decide)))
  have f1693 := F1662.other W1685 (Or.inr (slot_ne (Or.inr (wi hw 48 rfl)) (Or.inl (wi hw 50 rfl)) (by decide) (t := (.array .boolean)) (t' := .int) (by decide) (by decide)))
  have f1694 := f1671.other W1685 (Or.inr (slot_ne (Or.inl (wi hw 57 rfl)) (Or.inl (wi hw 50 rfl)) (by decide) (t := .int) (t' := .int) (by decide) (by decide)))
  have f1695 := f1672.wr W1685
  have f1696 := f1673.other W1685 (Or.inl (nN (nT hg1 (nT hg2 hg3))))
  have f1697 := f1674.other W1685 (Or.inl (nN (nT hg1 (nT hg2 hg3))))
  have f1698 := f1675.other W1685 (nN (nT hg2 hg3))
  have f1699 := f1676.other W1685 (nN hg3)
  have f1700 := f1677.other W1685 (Ne.symm ne1412)
  have f1701 := f1678.other W1685 (Ne.symm ne1450)
  have f1702 := f1679.other W1685 (Ne.symm ne1491)
  have f1703 := f1680.other W1685 (Ne.symm ne1535)
  have f1704 := f1681.other W1685 (Ne.symm ne1582)
  have f1705 := f1682.other W1685 (Ne.symm ne1632)
  have N1685 := Fr.snoc X1685 N1662 g_a1
  have z1706 := Nat.le_trans z1683 (Keep.of_wr W1685).1
  refine Rch.go (U' := T1685.setTop (mkF m 60 #[rv a1, rv a2, iv (4 : Int32)] [])) st1685 ?_
  refine Rch.go (U' := T1685.setTop (mkF m 61 #[rv a1, rv a2, iv (4 : Int32)] [(.ref a1)])) (fun _ k => XS.aloadN X1685.here hx rfl (hb hby d32_60) rfl rfl k) ?_
  obtain ⟨T1707, X1707, e1707, st1707⟩ := getF X1685 hx hZ hown (host := "") (Or.inl (wi hw 42 rfl)) Via.refl e1685 f1691 (g := (mkF m 61 #[rv a1, rv a2, iv (4 : Int32)] [(.ref a1)])) rfl rfl (hb hby d32_61)
  refine Rch.go (U' := T1707.setTop (mkF m 64 #[rv a1, rv a2, iv (4 : Int32)] [(.ref b1534)])) st1707 ?_
  refine Rch.go (U' := T1707.setTop (mkF m 65 #[rv a1, rv a2, iv (4 : Int32)] [(.int (0 : Int32)), (.ref b1534)])) (fun _ k => XS.iconst X1707.here hx rfl (hb hby d32_64) k) ?_
  refine Rch.go (U' := T1707.setTop (mkF m 66 #[rv a1, rv a2, iv (4 : Int32)] [(.int (0 : Int32)), (.int (0 : Int32)), (.ref b1534)])) (fun _ k => XS.iconst X1707.here hx rfl (hb hby d32_65) k) ?_
  obtain ⟨cl1708, Ar1708, qk1708, Sz1708, Mn1708, Hs1708, Gf1708⟩ := id f1703
  have ib1708 : ¬ ((0 : Int32) < 0 ∨ cl1708.slots.size ≤ ((0 : Int32)).toNatClampNeg) := inb_of Sz1708 ⟨by decide, by decide⟩
  obtain ⟨T1708, h1708, X1708, e1708, W1708, st1708⟩ := stI X1707 hx hZ e1707 Ar1708 (j := (0 : Int32)) ib1708 (g := (mkF m 66 #[rv a1, rv a2, iv (4 : Int32)] [(.int (0 : Int32)), (.int (0 : Int32)), (.ref b1534)])) rfl rfl (hb hby d32_66)
  have V1708 : Arv Z h1708 b1534 k1534 .int (4 : Int32) [(.int (0 : Int32)), (.int (0 : Int32)), (.int (0 : Int32)), (.int (0 : Int32))] (.int (0 : Int32)) := Arv.set Ar1708 qk1708 Sz1708 Mn1708 Hs1708 Gf1708 rfl W1708 0 rfl (Nat.le_of_ble_eq_true rfl)
  have f1709 := f1686.wr W1708
  have f1710 := f1687.other W1708 (Or.inl ne1535)
  have f1711 := f1688.other W1708 (Or.inl ne1535)
  have f1712 := f1689.other W1708 (Or.inl ne1535)
  have f1713 := f1690.other W1708 (Or.inl ne1535)
  have f1714 := f1691.other W1708 (Or.inl ne1535)
  have f1715 := f1692.other W1708 (Or.inl ne1535)
  have f1716 := f1693.other W1708 (Or.inl ne1535)
  have f1717 := F1685.other W1708 (Or.inl ne1535)
  have f1718 := f1694.other W1708 (Or.inl ne1535)
  have f1719 := f1695.wr W1708
  have f1720 := f1696.other W1708 (Or.inl ne1536)
  have f1721 := f1697.other W1708 (Or.inl ne1536)
  have f1722 := f1698.other W1708 ne1537
  have f1723 := f1699.other W1708 ne1538
  have f1724 := f1700.other W1708 ne1539
  have f1725 := f1701.other W1708 ne1540
  have f1726 := f1702.other W1708 ne1541
  have f1727 := f1704.other W1708 (Ne.symm ne1589)
  have f1728 := f1705.other W1708 (Ne.symm ne1639)
  have N1708 := Fr.snoc X1708 N1685 n0b1534
  have z1729 := Nat.le_trans z1706 (Keep.of_wr W1708).1
  refine Rch.go (U' := T1708.setTop (mkF m 67 #[rv a1, rv a2, iv (4 : Int32)] [])) st1708 ?_
  refine Rch.go (U' := T1708.setTop (mkF m 68 #[rv a1, rv a2, iv (4 : Int32)] [(.ref a1)])) (fun _ k => XS.aloadN X1708.here hx rfl (hb hby d32_67) rfl rfl k) ?_
  obtain ⟨T1730, X1730, e1730, st1730⟩ := getF X1708 hx hZ hown (host := "") (Or.inl (wi hw 38 rfl)) Via.refl e1708 f1712 (g := (mkF m 68 #[rv a1, rv a2, iv (4 : Int32)] [(.ref a1)])) rfl rfl (hb hby d32_68)
  refine Rch.go (U' := T1730.setTop (mkF m 71 #[rv a1, rv a2, iv (4 : Int32)] [(.ref b1449)])) st1730 ?_
  refine Rch.go (U' := T1730.setTop (mkF m 72 #[rv a1, rv a2, iv (4 : Int32)] [(.int (0 : Int32)), (.ref b1449)])) (fun _ k => XS.iconst X1730.here hx rfl (hb hby d32_71) k) ?_
  refine Rch.go (U' := T1730.setTop (mkF m 73 #[rv a1, rv a2, iv (4 : Int32)] [(.int (-1 : Int32)), (.int (0 : Int32)), (.ref b1449)])) (fun _ k => XS.iconst X1730.here hx rfl (hb hby d32_72) k) ?_
  obtain ⟨cl1731, Ar1731, qk1731, Sz1731, Mn1731, Hs1731, Gf1731⟩ := id f1725
  have ib1731 : ¬ ((0 : Int32) < 0 ∨ cl1731.slots.size ≤ ((0 : Int32)).toNatClampNeg) := inb_of Sz1731 ⟨by decide, by decide⟩
  obtain ⟨T1731, h1731, X1731, e1731, W1731, st1731⟩ := stI X1730 hx hZ e1730 Ar1731 (j := (0 : Int32)) ib1731 (g := (mkF m 73 #[rv a1, rv a2, iv (4 : Int32)] [(.int (-1 : Int32)), (.int (0 : Int32)), (.ref b1449)])) rfl rfl (hb hby d32_73)
  have V1731 : Arv Z h1731 b1449 k1449 .int (4 : Int32) [(.int (-1 : Int32)), (.int (0 : Int32)), (.int (0 : Int32)), (.int (0 : Int32))] (.int (0 : Int32)) := Arv.set Ar1731 qk1731 Sz1731 Mn1731 Hs1731 Gf1731 rfl W1731 0 rfl (Nat.le_of_ble_eq_true rfl)
  have f1732 := f1709.wr W1731
  have f1733 := f1710.other W1731 (Or.inl ne1450)
  have f1734 := f1711.other W1731 (Or.inl ne1450)
  have f1735 := f1712.other W1731 (Or.inl ne1450)
  have f1736 := f1713.other W1731 (Or.inl ne1450)
  have f1737 := f1714.other W1731 (Or.inl ne1450)
  have f1738 := f1715.other W1731 (Or.inl ne1450)
  have f1739 := f1716.other W1731 (Or.inl ne1450)
  have f1740 := f1717.other W1731 (Or.inl ne1450)
  have f1741 := f1718.other W1731 (Or.inl ne1450)
  have f1742 := f1719.wr W1731
  have f1743 := f1720.other W1731 (Or.inl ne1451)
  have f1744 := f1721.other W1731 (Or.inl ne1451)
  have f1745 := f1722.other W1731 ne1452
  have f1746 := f1723.other W1731 ne1453
  have f1747 := f1724.other W1731 ne1454
  have f1748 := f1726.other W1731 (Ne.symm ne1496)
  have f1749 := V1708.other W1731 (Ne.symm ne1540)
  have f1750 := f1727.other W1731 (Ne.symm ne1587)
  have f1751 := f1728.other W1731 (Ne.symm ne1637)
  have N1731 := Fr.snoc X1731 N1708 n0b1449
  have z1752 := Nat.le_trans z1729 (Keep.of_wr W1731).1
  refine Rch.go (U' := T1731.setTop (mkF m 74 #[rv a1, rv a2, iv (4 : Int32)] [])) st1731 ?_
  refine Rch.go (U' := T1731.setTop (mkF m 75 #[rv a1, rv a2, iv (4 : Int32)] [(.ref a1)])) (fun _ k => XS.aloadN X1731.here hx rfl (hb hby d32_74) rfl rfl k) ?_
  obtain ⟨T1753, X1753, e1753, st1753⟩ := getF X1731 hx hZ hown (host := "") (Or.inl (wi hw 40 rfl)) Via.refl e1731 f1736 (g := (mkF m 75 #[rv a1, rv a2, iv (4 : Int32)] [(.ref a1)])) rfl rfl (hb hby d32_75)
  refine Rch.go (U' := T1753.setTop (mkF m 78 #[rv a1, rv a2, iv (4 : Int32)] [(.ref b1490)])) st1753 ?_
  refine Rch.go (U' := T1753.setTop (mkF m 79 #[rv a1, rv a2, iv (4 : Int32)] [(.int (0 : Int32)), (.ref b1490)])) (fun _ k => XS.iconst X1753.here hx rfl (hb hby d32_78) k) ?_
  refine Rch.go (U' := T1753.setTop (mkF m 80 #[rv a1, rv a2, iv (4 : Int32)] [(.int (-1 : Int32)), (.int (0 : Int32)), (.ref b1490)])) (fun _ k => XS.iconst X1753.here hx rfl (hb hby d32_79) k) ?_
  obtain ⟨cl1754, Ar1754, qk1754, Sz1754, Mn1754, Hs1754, Gf1754⟩ := id f1748
  have ib1754 : ¬ ((0 : Int32) < 0 ∨ cl1754.slots.size ≤ ((0 : Int32)).toNatClampNeg) := inb_of Sz1754 ⟨by decide, by decide⟩
  obtain ⟨T1754, h1754, X1754, e1754, W1754, st1754⟩ := stI X1753 hx hZ e1753 Ar1754 (j := (0 : Int32)) ib1754 (g := (mkF m 80 #[rv a1, rv a2, iv (4 : Int32)] [(.int (-1 : Int32)), (.int (0 : Int32)), (.ref b1490)])) rfl rfl (hb hby d32_80)
  have V1754 : Arv Z h1754 b1490 k1490 .int (4 : Int32) [(.int (-1 : Int32)), (.int (0 : Int32)), (.int (0 : Int32)), (.int (0 : Int32))] (.int (0 : Int32)) := Arv.set Ar1754 qk1754 Sz1754 Mn1754 Hs1754 Gf1754 rfl W1754 0 rfl (Nat.le_of_ble_eq_true rfl)
  have f1755 := f1732.wr W1754
  have f1756 := f1733.other W1754 (Or.inl ne1491)
  have f1757 := f1734.other W1754 (Or.inl ne1491)
  have f1758 := f1735.other W1754 (Or.inl ne1491)
  have f1759 := f1736.other W1754 (Or.inl ne1491)
  have f1760 := f1737.other W1754 (Or.inl ne1491)
  have f1761 := f1738.other W1754 (Or.inl ne1491)
  have f1762 := f1739.other W1754 (Or.inl ne1491)
  have f1763 := f1740.other W1754 (Or.inl ne1491)
  have f1764 := f1741.other W1754 (Or.inl ne1491)
  have f1765 := f1742.wr W1754
  have f1766 := f1743.other W1754 (Or.inl ne1492)
  have f1767 := f1744.other W1754 (Or.inl ne1492)
  have f1768 := f1745.other W1754 ne1493
  have f1769 := f1746.other W1754 ne1494
  have f1770 := f1747.other W1754 ne1495
  have f1771 := V1731.other W1754 ne1496
  have f1772 := f1749.other W1754 (Ne.symm ne1541)
  have f1773 := f1750.other W1754 (Ne.symm ne1588)
  have f1774 := f1751.other W1754 (Ne.symm ne1638)
  have N1754 := Fr.snoc X1754 N1731 n0b1490
  have z1775 := Nat.le_trans z1752 (Keep.of_wr W1754).1
  refine Rch.go (U' := T1754.setTop (mkF m 81 #[rv a1, rv a2, iv (4 : Int32)] [])) st1754 ?_
  refine Rch.fin X1754 hlk (v := none) (fun _ => rfl) e1754 (by decide) (by decide) (fun fs hr => X1754.returnOut hx hret (hb hby d32_81) hr) ?_
  exact ⟨b1411, b1449, b1490, b1534, b1581, b1631, rfl, N1754, z1775, ⟨⟨f1755, f1756, f1757, f1758, f1759, f1760, f1761, f1762, f1763, f1764⟩, ⟨f1765, f1766, f1767⟩, ⟨⟨_, f1770, rfl⟩, ⟨_, f1771, rfl⟩, ⟨_, V1754, rfl⟩, ⟨_, f1772, rfl⟩, ⟨_, f1773, rfl⟩, ⟨_, f1774, rfl⟩, ⟨_, f1768, rfl⟩, ⟨_, f1769, rfl⟩⟩, g_a2, hg1, hg2, hg3, lne1412, lne1454, lne1496, lne1541, lne1589, lne1640⟩⟩
theorem pd_12 : parseMethodDescriptor "(I)V" = some ⟨[.int], none⟩ := by decide +kernel
theorem pd_13 : parseMethodDescriptor "(Lcom/example/fixpoints_of_behaviour/fixpointsofbehaviour/bisimulation/Blocks;I)V" = some ⟨[(.object cBL), .int], none⟩ := by decide +kernel
theorem pd_14 : parseMethodDescriptor "()I" = some ⟨[], some .int⟩ := by decide +kernel
theorem pd_15 : parseMethodDescriptor "()Z" = some ⟨[], some .boolean⟩ := by decide +kernel
set_option maxRecDepth 65536 in
set_option maxHeartbeats 40000000 in
theorem cut54_000 {p : Program} {l : Launch} {e : Env} {s : State} {m : MethodId} {args : Array Value} {below : List Frame} {meth : Method} {c : Code} {T0 : State} {locs : List Loc} {Z : State} {a0 : Array Value} {h0 : Heap} {n0 : Nat}  (p1 : Int32) (p2 : Int32) (p3 : Int32) (a1 : Addr) (a2 : Addr) (bco : Addr) (bnx : Addr) (bpv : Addr) (bfb : Addr) (bpd : Addr) (bip : Addr) (bfi : Addr) (ben : Addr)
    (X0 : Stand p l e room_1 s m args below meth c T0 locs 15 70) (hx : p.tables.exec = Jvm.exec) (hZ : Z.Warmed39 s.vm) (hw : ∀ d ∈ tables_1, d.before a0 Z = true) (hby : c.code = code) (hml : c.maxLocals = 18) (hown : s.vm.findClass cLW = some m.cls) (hret : meth.sig.returnType = some .boolean) (hlk : meth.locks = false) (e0 : T0.heap = h0) (N0 : Fr n0 locs) (Z0 : n0 ≤ h0.size) (B : Cb Z h0 n0 a1 a2 bco bnx bpv bfb bpd bip bfi ben [0, 0, 0, 0] [1, -1, 0, 0] [-1, 0, 0, 0] [0, 0, 0, 0] [0, 0, 0, 0] [1, 0, 0, 0] (1 : Int32) (1 : Int32)) :
    Rch p e below (Fin s below (fun v h L => v = some (.int 1) ∧ Fr n0 L) 40 256) (T0.setTop (mkF m 54 #[iv p1, iv p2, iv p3, iv (0 : Int32), iv (0 : Int32), iv (0 : Int32), rv a2, rv a1, uv, uv, uv, uv, uv, uv, uv, uv, uv, uv] [])) := by
  refine Rch.go (U' := T0.setTop (mkF m 55 #[iv p1, iv p2, iv p3, iv (0 : Int32), iv (0 : Int32), iv (0 : Int32), rv a2, rv a1, uv, uv, uv, uv, uv, uv, uv, uv, uv, uv] [(.int (0 : Int32))])) (fun _ k => XS.iloadN X0.here hx rfl (hb hby at_54) rfl  k) ?_
  have br1776 : (0 : Int32) = (0 : Int32) := (by decide)
  refine Rch.go (U' := T0.setTop (mkF m 255 #[iv p1, iv p2, iv p3, iv (0 : Int32), iv (0 : Int32), iv (0 : Int32), rv a2, rv a1, uv, uv, uv, uv, uv, uv, uv, uv, uv, uv] [])) (fun _ k => XS.ifYes X0.here hx rfl (pc0 := 55) (pc' := 255) rfl (hb hby at_55) rfl (XT.i0_eq_t br1776) (by decide) (by decide) k) ?_
  refine Rch.go (U' := T0.setTop (mkF m 257 #[iv p1, iv p2, iv p3, iv (0 : Int32), iv (0 : Int32), iv (0 : Int32), rv a2, rv a1, uv, uv, uv, uv, uv, uv, uv, uv, uv, uv] [(.ref a1)])) (fun _ k => XS.aload X0.here hx rfl (hb hby at_255) rfl rfl k) ?_
  refine Rch.go (U' := T0.setTop (mkF m 259 #[iv p1, iv p2, iv p3, iv (0 : Int32), iv (0 : Int32), iv (0 : Int32), rv a2, rv a1, uv, uv, uv, uv, uv, uv, uv, uv, uv, uv] [(.int (0 : Int32)), (.ref a1)])) (fun _ k => XS.iload X0.here hx rfl (hb hby at_257) rfl  k) ?_
  refine Rch.go (U' := T0.setTop (mkF m 260 #[iv p1, iv p2, iv p3, iv (0 : Int32), iv (0 : Int32), iv (0 : Int32), rv a2, rv a1, uv, uv, uv, uv, uv, uv, uv, uv, uv, uv] [(.int (2 : Int32)), (.int (0 : Int32)), (.ref a1)])) (fun _ k => XS.iconst X0.here hx rfl (hb hby at_259) k) ?_
  obtain ⟨cq1777, kq1777, q1777a, q1777b, q1777c⟩ := isOf hZ e0 B.1.1
  obtain ⟨_, _, ⟨T1777, L1777, k1777, n1777⟩, -, X1777, ⟨Lc1777, hQ1777, l1777, y1777, z1777⟩, st1777⟩ := X0.virtualBack hx (y := yj) (z := yj) hown (mvT hZ (wi hw 51 rfl)) (mvT hZ (wi hw 52 rfl)) (notFace_of_selects (args := #[]) (mvT hZ (wi hw 54 rfl))) (mvT hZ (wi hw 54 rfl)) (mvT hZ (wi hw 53 rfl)) (by decide) (backOf (W := 0) (rmJ l Z a0 hw [] a1 a2 bco bnx bpv bfb bpd bip bfi ben [0, 0, 0, 0] [1, -1, 0, 0] [-1, 0, 0, 0] [0, 0, 0, 0] [0, 0, 0, 0] [1, 0, 0, 0] (1 : Int32) (1 : Int32) (0 : Int32) (2 : Int32) h0 n0 Z0 B (by decide)) hZ (wi hw 55 rfl) (wi hw 29 rfl) (by decide) (by decide)) q1777a q1777c (g := (mkF m 260 #[iv p1, iv p2, iv p3, iv (0 : Int32), iv (0 : Int32), iv (0 : Int32), rv a2, rv a1, uv, uv, uv, uv, uv, uv, uv, uv, uv, uv] [(.int (2 : Int32)), (.int (0 : Int32)), (.ref a1)])) rfl (by rw [hml]; rfl) (Steps.refl _) (argsL := [(.int (0 : Int32)), (.int (2 : Int32))]) (rest := []) (lenOf pd_8 rfl) rfl (by show 2 * 0 + _ ≤ _; exact Nat.le_of_eq rfl) (hb hby at_260) (fun _ _ => ⟨rfl, e0, (by decide : 15 + 0 ≤ _), (by decide : 70 + 0 ≤ _)⟩)
  dsimp only [Pt.U, Pt.locs, Pt.cells, Pt.slots] at X1777 l1777 y1777 z1777 st1777 hQ1777
  subst l1777 y1777 z1777
  obtain ⟨rfl, N1777q, z1777, C1777⟩ := hQ1777
  have N1777 := Fr.app N0 N1777q
  rw [(by rfl : own_join [0, 0, 0, 0] [1, -1, 0, 0] [-1, 0, 0, 0] [0, 0, 0, 0] [0, 0, 0, 0] [1, 0, 0, 0] (1 : Int32) (1 : Int32) (0 : Int32) (2 : Int32) = ([0, 0, 0, 0], [2, -1, 1, 0], [-1, 2, 0, 0], [0, 0, 0, 0], [0, 0, 0, 0], [1, 0, 0, 0], (1 : Int32), (1 : Int32)))] at C1777
  have B1777 : Cb Z T1777.heap n0 a1 a2 bco bnx bpv bfb bpd bip bfi ben [0, 0, 0, 0] [2, -1, 1, 0] [-1, 2, 0, 0] [0, 0, 0, 0] [0, 0, 0, 0] [1, 0, 0, 0] (1 : Int32) (1 : Int32) := C1777
  refine Rch.to (U' := T1777.setTop (mkF m 263 #[iv p1, iv p2, iv p3, iv (0 : Int32), iv (0 : Int32), iv (0 : Int32), rv a2, rv a1, uv, uv, uv, uv, uv, uv, uv, uv, uv, uv] [])) st1777 ?_
  refine Rch.go (U' := T1777.setTop (mkF m 265 #[iv p1, iv p2, iv p3, iv (0 : Int32), iv (0 : Int32), iv (0 : Int32), rv a2, rv a1, uv, uv, uv, uv, uv, uv, uv, uv, uv, uv] [(.ref a1)])) (fun _ k => XS.aload X1777.here hx rfl (hb hby at_263) rfl rfl k) ?_
  refine Rch.go (U' := T1777.setTop (mkF m 267 #[iv p1, iv p2, iv p3, iv (0 : Int32), iv (0 : Int32), iv (0 : Int32), rv a2, rv a1, uv, uv, uv, uv, uv, uv, uv, uv, uv, uv] [(.int (0 : Int32)), (.ref a1)])) (fun _ k => XS.iload X1777.here hx rfl (hb hby at_265) rfl  k) ?_
  refine Rch.go (U' := T1777.setTop (mkF m 268 #[iv p1, iv p2, iv p3, iv (0 : Int32), iv (0 : Int32), iv (0 : Int32), rv a2, rv a1, uv, uv, uv, uv, uv, uv, uv, uv, uv, uv] [(.int (3 : Int32)), (.int (0 : Int32)), (.ref a1)])) (fun _ k => XS.iconst X1777.here hx rfl (hb hby at_267) k) ?_
  obtain ⟨cq1778, kq1778, q1778a, q1778b, q1778c⟩ := isOf hZ rfl B1777.1.1
  obtain ⟨_, _, ⟨T1778, L1778, k1778, n1778⟩, -, X1778, ⟨Lc1778, hQ1778, l1778, y1778, z1778⟩, st1778⟩ := X1777.virtualBack hx (y := yj) (z := yj) hown (mvT hZ (wi hw 51 rfl)) (mvT hZ (wi hw 52 rfl)) (notFace_of_selects (args := #[]) (mvT hZ (wi hw 54 rfl))) (mvT hZ (wi hw 54 rfl)) (mvT hZ (wi hw 53 rfl)) (by decide) (backOf (W := 0) (rmJ l Z a0 hw [] a1 a2 bco bnx bpv bfb bpd bip bfi ben [0, 0, 0, 0] [2, -1, 1, 0] [-1, 2, 0, 0] [0, 0, 0, 0] [0, 0, 0, 0] [1, 0, 0, 0] (1 : Int32) (1 : Int32) (0 : Int32) (3 : Int32) T1777.heap n0 z1777 B1777 (by decide)) hZ (wi hw 55 rfl) (wi hw 29 rfl) (by decide) (by decide)) q1778a q1778c (g := (mkF m 268 #[iv p1, iv p2, iv p3, iv (0 : Int32), iv (0 : Int32), iv (0 : Int32), rv a2, rv a1, uv, uv, uv, uv, uv, uv, uv, uv, uv, uv] [(.int (3 : Int32)), (.int (0 : Int32)), (.ref a1)])) rfl (by rw [hml]; rfl) (Steps.refl _) (argsL := [(.int (0 : Int32)), (.int (3 : Int32))]) (rest := []) (lenOf pd_8 rfl) rfl (by show 2 * 0 + _ ≤ _; exact Nat.le_of_eq rfl) (hb hby at_268) (fun _ _ => ⟨rfl, rfl, (by decide : 15 + 0 ≤ _), (by decide : 70 + 0 ≤ _)⟩)
  dsimp only [Pt.U, Pt.locs, Pt.cells, Pt.slots] at X1778 l1778 y1778 z1778 st1778 hQ1778
  subst l1778 y1778 z1778
  obtain ⟨rfl, N1778q, z1778, C1778⟩ := hQ1778
  have N1778 := Fr.app N1777 N1778q
  rw [(by rfl : own_join [0, 0, 0, 0] [2, -1, 1, 0] [-1, 2, 0, 0] [0, 0, 0, 0] [0, 0, 0, 0] [1, 0, 0, 0] (1 : Int32) (1 : Int32) (0 : Int32) (3 : Int32) = ([0, 0, 0, 0], [3, -1, 1, 2], [-1, 2, 3, 0], [0, 0, 0, 0], [0, 0, 0, 0], [1, 0, 0, 0], (1 : Int32), (1 : Int32)))] at C1778
  have B1778 : Cb Z T1778.heap n0 a1 a2 bco bnx bpv bfb bpd bip bfi ben [0, 0, 0, 0] [3, -1, 1, 2] [-1, 2, 3, 0] [0, 0, 0, 0] [0, 0, 0, 0] [1, 0, 0, 0] (1 : Int32) (1 : Int32) := C1778
  refine Rch.to (U' := T1778.setTop (mkF m 271 #[iv p1, iv p2, iv p3, iv (0 : Int32), iv (0 : Int32), iv (0 : Int32), rv a2, rv a1, uv, uv, uv, uv, uv, uv, uv, uv, uv, uv] [])) st1778 ?_
  refine Rch.go (U' := T1778.setTop (mkF m 273 #[iv p1, iv p2, iv p3, iv (0 : Int32), iv (0 : Int32), iv (0 : Int32), rv a2, rv a1, uv, uv, uv, uv, uv, uv, uv, uv, uv, uv] [(.int (0 : Int32))])) (fun _ k => XS.iload X1778.here hx rfl (hb hby at_271) rfl  k) ?_
  have br1779 : (0 : Int32) = (0 : Int32) := (by decide)
  refine Rch.go (U' := T1778.setTop (mkF m 276 #[iv p1, iv p2, iv p3, iv (0 : Int32), iv (0 : Int32), iv (0 : Int32), rv a2, rv a1, uv, uv, uv, uv, uv, uv, uv, uv, uv, uv] [])) (fun _ k => XS.ifNo X1778.here hx rfl (hb hby at_273) rfl (XT.i0_ne_f br1779) k) ?_
  refine Rch.go (U' := T1778.setTop (mkF m 277 #[iv p1, iv p2, iv p3, iv (0 : Int32), iv (0 : Int32), iv (0 : Int32), rv a2, rv a1, uv, uv, uv, uv, uv, uv, uv, uv, uv, uv] [(.int (2 : Int32))])) (fun _ k => XS.iconst X1778.here hx rfl (hb hby at_276) k) ?_
  refine Rch.go (U' := T1778.setTop (mkF m 281 #[iv p1, iv p2, iv p3, iv (0 : Int32), iv (0 : Int32), iv (0 : Int32), rv a2, rv a1, uv, uv, uv, uv, uv, uv, uv, uv, uv, uv] [(.int (2 : Int32))])) (fun _ k => XS.goto X1778.here hx rfl (pc0 := 277) (pc' := 281) rfl (hb hby at_277) (by decide) (by decide) k) ?_
  refine Rch.go (U' := T1778.setTop (mkF m 283 #[iv p1, iv p2, iv p3, iv (0 : Int32), iv (0 : Int32), iv (0 : Int32), rv a2, rv a1, iv (2 : Int32), uv, uv, uv, uv, uv, uv, uv, uv, uv] [])) (fun _ k => XS.istore X1778.here hx rfl (hb hby at_281) rfl (l' := #[iv p1, iv p2, iv p3, iv (0 : Int32), iv (0 : Int32), iv (0 : Int32), rv a2, rv a1, iv (2 : Int32), uv, uv, uv, uv, uv, uv, uv, uv, uv]) rfl k) ?_
  refine Rch.go (U' := T1778.setTop (mkF m 285 #[iv p1, iv p2, iv p3, iv (0 : Int32), iv (0 : Int32), iv (0 : Int32), rv a2, rv a1, iv (2 : Int32), uv, uv, uv, uv, uv, uv, uv, uv, uv] [(.int (0 : Int32))])) (fun _ k => XS.iload X1778.here hx rfl (hb hby at_283) rfl  k) ?_
  have br1780 : (0 : Int32) = (0 : Int32) := (by decide)
  refine Rch.go (U' := T1778.setTop (mkF m 288 #[iv p1, iv p2, iv p3, iv (0 : Int32), iv (0 : Int32), iv (0 : Int32), rv a2, rv a1, iv (2 : Int32), uv, uv, uv, uv, uv, uv, uv, uv, uv] [])) (fun _ k => XS.ifNo X1778.here hx rfl (hb hby at_285) rfl (XT.i0_ne_f br1780) k) ?_
  refine Rch.go (U' := T1778.setTop (mkF m 289 #[iv p1, iv p2, iv p3, iv (0 : Int32), iv (0 : Int32), iv (0 : Int32), rv a2, rv a1, iv (2 : Int32), uv, uv, uv, uv, uv, uv, uv, uv, uv] [(.int (1 : Int32))])) (fun _ k => XS.iconst X1778.here hx rfl (hb hby at_288) k) ?_
  refine Rch.go (U' := T1778.setTop (mkF m 293 #[iv p1, iv p2, iv p3, iv (0 : Int32), iv (0 : Int32), iv (0 : Int32), rv a2, rv a1, iv (2 : Int32), uv, uv, uv, uv, uv, uv, uv, uv, uv] [(.int (1 : Int32))])) (fun _ k => XS.goto X1778.here hx rfl (pc0 := 289) (pc' := 293) rfl (hb hby at_289) (by decide) (by decide) k) ?_
  refine Rch.go (U' := T1778.setTop (mkF m 295 #[iv p1, iv p2, iv p3, iv (0 : Int32), iv (0 : Int32), iv (0 : Int32), rv a2, rv a1, iv (2 : Int32), iv (1 : Int32), uv, uv, uv, uv, uv, uv, uv, uv] [])) (fun _ k => XS.istore X1778.here hx rfl (hb hby at_293) rfl (l' := #[iv p1, iv p2, iv p3, iv (0 : Int32), iv (0 : Int32), iv (0 : Int32), rv a2, rv a1, iv (2 : Int32), iv (1 : Int32), uv, uv, uv, uv, uv, uv, uv, uv]) rfl k) ?_
  refine Rch.go (U' := T1778.setTop (mkF m 297 #[iv p1, iv p2, iv p3, iv (0 : Int32), iv (0 : Int32), iv (0 : Int32), rv a2, rv a1, iv (2 : Int32), iv (1 : Int32), uv, uv, uv, uv, uv, uv, uv, uv] [(.int (0 : Int32))])) (fun _ k => XS.iload X1778.here hx rfl (hb hby at_295) rfl  k) ?_
  have br1781 : (0 : Int32) = (0 : Int32) := (by decide)
  refine Rch.go (U' := T1778.setTop (mkF m 300 #[iv p1, iv p2, iv p3, iv (0 : Int32), iv (0 : Int32), iv (0 : Int32), rv a2, rv a1, iv (2 : Int32), iv (1 : Int32), uv, uv, uv, uv, uv, uv, uv, uv] [])) (fun _ k => XS.ifNo X1778.here hx rfl (hb hby at_297) rfl (XT.i0_ne_f br1781) k) ?_
  refine Rch.go (U' := T1778.setTop (mkF m 301 #[iv p1, iv p2, iv p3, iv (0 : Int32), iv (0 : Int32), iv (0 : Int32), rv a2, rv a1, iv (2 : Int32), iv (1 : Int32), uv, uv, uv, uv, uv, uv, uv, uv] [(.int (0 : Int32))])) (fun _ k => XS.iconst X1778.here hx rfl (hb hby at_300) k) ?_
  refine Rch.go (U' := T1778.setTop (mkF m 316 #[iv p1, iv p2, iv p3, iv (0 : Int32), iv (0 : Int32), iv (0 : Int32), rv a2, rv a1, iv (2 : Int32), iv (1 : Int32), uv, uv, uv, uv, uv, uv, uv, uv] [(.int (0 : Int32))])) (fun _ k => XS.goto X1778.here hx rfl (pc0 := 301) (pc' := 316) rfl (hb hby at_301) (by decide) (by decide) k) ?_
  refine Rch.go (U' := T1778.setTop (mkF m 318 #[iv p1, iv p2, iv p3, iv (0 : Int32), iv (0 : Int32), iv (0 : Int32), rv a2, rv a1, iv (2 : Int32), iv (1 : Int32), iv (0 : Int32), uv, uv, uv, uv, uv, uv, uv] [])) (fun _ k => XS.istore X1778.here hx rfl (hb hby at_316) rfl (l' := #[iv p1, iv p2, iv p3, iv (0 : Int32), iv (0 : Int32), iv (0 : Int32), rv a2, rv a1, iv (2 : Int32), iv (1 : Int32), iv (0 : Int32), uv, uv, uv, uv, uv, uv, uv]) rfl k) ?_
  refine Rch.go (U' := T1778.setTop (mkF m 320 #[iv p1, iv p2, iv p3, iv (0 : Int32), iv (0 : Int32), iv (0 : Int32), rv a2, rv a1, iv (2 : Int32), iv (1 : Int32), iv (0 : Int32), uv, uv, uv, uv, uv, uv, uv] [(.int (0 : Int32))])) (fun _ k => XS.iload X1778.here hx rfl (hb hby at_318) rfl  k) ?_
  have br1782 : (0 : Int32) = (0 : Int32) := (by decide)
  refine Rch.go (U' := T1778.setTop (mkF m 323 #[iv p1, iv p2, iv p3, iv (0 : Int32), iv (0 : Int32), iv (0 : Int32), rv a2, rv a1, iv (2 : Int32), iv (1 : Int32), iv (0 : Int32), uv, uv, uv, uv, uv, uv, uv] [])) (fun _ k => XS.ifNo X1778.here hx rfl (hb hby at_320) rfl (XT.i0_ne_f br1782) k) ?_
  refine Rch.go (U' := T1778.setTop (mkF m 324 #[iv p1, iv p2, iv p3, iv (0 : Int32), iv (0 : Int32), iv (0 : Int32), rv a2, rv a1, iv (2 : Int32), iv (1 : Int32), iv (0 : Int32), uv, uv, uv, uv, uv, uv, uv] [(.int (3 : Int32))])) (fun _ k => XS.iconst X1778.here hx rfl (hb hby at_323) k) ?_
  refine Rch.go (U' := T1778.setTop (mkF m 326 #[iv p1, iv p2, iv p3, iv (0 : Int32), iv (0 : Int32), iv (0 : Int32), rv a2, rv a1, iv (2 : Int32), iv (1 : Int32), iv (0 : Int32), iv (3 : Int32), uv, uv, uv, uv, uv, uv] [])) (fun _ k => XS.istore X1778.here hx rfl (hb hby at_324) rfl (l' := #[iv p1, iv p2, iv p3, iv (0 : Int32), iv (0 : Int32), iv (0 : Int32), rv a2, rv a1, iv (2 : Int32), iv (1 : Int32), iv (0 : Int32), iv (3 : Int32), uv, uv, uv, uv, uv, uv]) rfl k) ?_
  refine Rch.go (U' := T1778.setTop (mkF m 328 #[iv p1, iv p2, iv p3, iv (0 : Int32), iv (0 : Int32), iv (0 : Int32), rv a2, rv a1, iv (2 : Int32), iv (1 : Int32), iv (0 : Int32), iv (3 : Int32), uv, uv, uv, uv, uv, uv] [(.int (2 : Int32))])) (fun _ k => XS.iload X1778.here hx rfl (hb hby at_326) rfl  k) ?_
  refine Rch.go (U' := T1778.setTop (mkF m 330 #[iv p1, iv p2, iv p3, iv (0 : Int32), iv (0 : Int32), iv (0 : Int32), rv a2, rv a1, iv (2 : Int32), iv (1 : Int32), iv (0 : Int32), iv (3 : Int32), iv (2 : Int32), uv, uv, uv, uv, uv] [])) (fun _ k => XS.istore X1778.here hx rfl (hb hby at_328) rfl (l' := #[iv p1, iv p2, iv p3, iv (0 : Int32), iv (0 : Int32), iv (0 : Int32), rv a2, rv a1, iv (2 : Int32), iv (1 : Int32), iv (0 : Int32), iv (3 : Int32), iv (2 : Int32), uv, uv, uv, uv, uv]) rfl k) ?_
  refine Rch.go (U' := T1778.setTop (mkF m 332 #[iv p1, iv p2, iv p3, iv (0 : Int32), iv (0 : Int32), iv (0 : Int32), rv a2, rv a1, iv (2 : Int32), iv (1 : Int32), iv (0 : Int32), iv (3 : Int32), iv (2 : Int32), uv, uv, uv, uv, uv] [(.int (1 : Int32))])) (fun _ k => XS.iload X1778.here hx rfl (hb hby at_330) rfl  k) ?_
  refine Rch.go (U' := T1778.setTop (mkF m 334 #[iv p1, iv p2, iv p3, iv (0 : Int32), iv (0 : Int32), iv (0 : Int32), rv a2, rv a1, iv (2 : Int32), iv (1 : Int32), iv (0 : Int32), iv (3 : Int32), iv (2 : Int32), iv (1 : Int32), uv, uv, uv, uv] [])) (fun _ k => XS.istore X1778.here hx rfl (hb hby at_332) rfl (l' := #[iv p1, iv p2, iv p3, iv (0 : Int32), iv (0 : Int32), iv (0 : Int32), rv a2, rv a1, iv (2 : Int32), iv (1 : Int32), iv (0 : Int32), iv (3 : Int32), iv (2 : Int32), iv (1 : Int32), uv, uv, uv, uv]) rfl k) ?_
  refine Rch.go (U' := T1778.setTop (mkF m 368 #[iv p1, iv p2, iv p3, iv (0 : Int32), iv (0 : Int32), iv (0 : Int32), rv a2, rv a1, iv (2 : Int32), iv (1 : Int32), iv (0 : Int32), iv (3 : Int32), iv (2 : Int32), iv (1 : Int32), uv, uv, uv, uv] [])) (fun _ k => XS.goto X1778.here hx rfl (pc0 := 334) (pc' := 368) rfl (hb hby at_334) (by decide) (by decide) k) ?_
  refine Rch.go (U' := T1778.setTop (mkF m 370 #[iv p1, iv p2, iv p3, iv (0 : Int32), iv (0 : Int32), iv (0 : Int32), rv a2, rv a1, iv (2 : Int32), iv (1 : Int32), iv (0 : Int32), iv (3 : Int32), iv (2 : Int32), iv (1 : Int32), uv, uv, uv, uv] [(.ref a1)])) (fun _ k => XS.aload X1778.here hx rfl (hb hby at_368) rfl rfl k) ?_
  refine Rch.go (U' := T1778.setTop (mkF m 371 #[iv p1, iv p2, iv p3, iv (0 : Int32), iv (0 : Int32), iv (0 : Int32), rv a2, rv a1, iv (2 : Int32), iv (1 : Int32), iv (0 : Int32), iv (3 : Int32), iv (2 : Int32), iv (1 : Int32), uv, uv, uv, uv] [(.int (2 : Int32)), (.ref a1)])) (fun _ k => XS.iconst X1778.here hx rfl (hb hby at_370) k) ?_
  obtain ⟨cq1783, kq1783, q1783a, q1783b, q1783c⟩ := isOf hZ rfl B1778.1.1
  obtain ⟨_, _, ⟨T1783, L1783, k1783, n1783⟩, -, X1783, ⟨Lc1783, hQ1783, l1783, y1783, z1783⟩, st1783⟩ := X1778.virtualBack hx (y := yc) (z := yc) hown (mvT hZ (wi hw 58 rfl)) (mvT hZ (wi hw 59 rfl)) (notFace_of_selects (args := #[]) (mvT hZ (wi hw 61 rfl))) (mvT hZ (wi hw 61 rfl)) (mvT hZ (wi hw 60 rfl)) (by decide) (backOf (W := 0) (rmCo l Z a0 hw [] a1 a2 bco bnx bpv bfb bpd bip bfi ben [0, 0, 0, 0] [3, -1, 1, 2] [-1, 2, 3, 0] [0, 0, 0, 0] [0, 0, 0, 0] [1, 0, 0, 0] (1 : Int32) (1 : Int32) (2 : Int32) T1778.heap n0 z1778 B1778 (by decide)) hZ (wi hw 62 rfl) (wi hw 29 rfl) (by decide) (by decide)) q1783a q1783c (g := (mkF m 371 #[iv p1, iv p2, iv p3, iv (0 : Int32), iv (0 : Int32), iv (0 : Int32), rv a2, rv a1, iv (2 : Int32), iv (1 : Int32), iv (0 : Int32), iv (3 : Int32), iv (2 : Int32), iv (1 : Int32), uv, uv, uv, uv] [(.int (2 : Int32)), (.ref a1)])) rfl (by rw [hml]; rfl) (Steps.refl _) (argsL := [(.int (2 : Int32))]) (rest := []) (lenOf pd_7 rfl) rfl (by show 2 * 0 + _ ≤ _; exact Nat.le_of_eq rfl) (hb hby at_371) (fun _ _ => ⟨rfl, rfl, (by decide : 15 + 0 ≤ _), (by decide : 70 + 0 ≤ _)⟩)
  dsimp only [Pt.U, Pt.locs, Pt.cells, Pt.slots] at X1783 l1783 y1783 z1783 st1783 hQ1783
  subst l1783 y1783 z1783
  obtain ⟨rfl, N1783q, e1783⟩ := hQ1783
  have N1783 := Fr.app N1778 N1783q
  refine Rch.to (U' := T1783.setTop (mkF m 374 #[iv p1, iv p2, iv p3, iv (0 : Int32), iv (0 : Int32), iv (0 : Int32), rv a2, rv a1, iv (2 : Int32), iv (1 : Int32), iv (0 : Int32), iv (3 : Int32), iv (2 : Int32), iv (1 : Int32), uv, uv, uv, uv] [(.int (own_at [0, 0, 0, 0] (2 : Int32)))])) st1783 ?_
  rw [(by decide : (own_at [0, 0, 0, 0] (2 : Int32)) = (0 : Int32))]
  have br1784 : (0 : Int32) = (0 : Int32) := (by decide)
  refine Rch.go (U' := T1783.setTop (mkF m 377 #[iv p1, iv p2, iv p3, iv (0 : Int32), iv (0 : Int32), iv (0 : Int32), rv a2, rv a1, iv (2 : Int32), iv (1 : Int32), iv (0 : Int32), iv (3 : Int32), iv (2 : Int32), iv (1 : Int32), uv, uv, uv, uv] [])) (fun _ k => XS.ifNo X1783.here hx rfl (hb hby at_374) rfl (XT.i0_ne_f br1784) k) ?_
  refine Rch.go (U' := T1783.setTop (mkF m 379 #[iv p1, iv p2, iv p3, iv (0 : Int32), iv (0 : Int32), iv (0 : Int32), rv a2, rv a1, iv (2 : Int32), iv (1 : Int32), iv (0 : Int32), iv (3 : Int32), iv (2 : Int32), iv (1 : Int32), uv, uv, uv, uv] [(.ref a1)])) (fun _ k => XS.aload X1783.here hx rfl (hb hby at_377) rfl rfl k) ?_
  refine Rch.go (U' := T1783.setTop (mkF m 380 #[iv p1, iv p2, iv p3, iv (0 : Int32), iv (0 : Int32), iv (0 : Int32), rv a2, rv a1, iv (2 : Int32), iv (1 : Int32), iv (0 : Int32), iv (3 : Int32), iv (2 : Int32), iv (1 : Int32), uv, uv, uv, uv] [(.int (3 : Int32)), (.ref a1)])) (fun _ k => XS.iconst X1783.here hx rfl (hb hby at_379) k) ?_
  obtain ⟨cq1785, kq1785, q1785a, q1785b, q1785c⟩ := isOf hZ e1783 B1778.1.1
  obtain ⟨_, _, ⟨T1785, L1785, k1785, n1785⟩, -, X1785, ⟨Lc1785, hQ1785, l1785, y1785, z1785⟩, st1785⟩ := X1783.virtualBack hx (y := yc) (z := yc) hown (mvT hZ (wi hw 58 rfl)) (mvT hZ (wi hw 59 rfl)) (notFace_of_selects (args := #[]) (mvT hZ (wi hw 61 rfl))) (mvT hZ (wi hw 61 rfl)) (mvT hZ (wi hw 60 rfl)) (by decide) (backOf (W := 0) (rmCo l Z a0 hw [] a1 a2 bco bnx bpv bfb bpd bip bfi ben [0, 0, 0, 0] [3, -1, 1, 2] [-1, 2, 3, 0] [0, 0, 0, 0] [0, 0, 0, 0] [1, 0, 0, 0] (1 : Int32) (1 : Int32) (3 : Int32) T1778.heap n0 z1778 B1778 (by decide)) hZ (wi hw 62 rfl) (wi hw 29 rfl) (by decide) (by decide)) q1785a q1785c (g := (mkF m 380 #[iv p1, iv p2, iv p3, iv (0 : Int32), iv (0 : Int32), iv (0 : Int32), rv a2, rv a1, iv (2 : Int32), iv (1 : Int32), iv (0 : Int32), iv (3 : Int32), iv (2 : Int32), iv (1 : Int32), uv, uv, uv, uv] [(.int (3 : Int32)), (.ref a1)])) rfl (by rw [hml]; rfl) (Steps.refl _) (argsL := [(.int (3 : Int32))]) (rest := []) (lenOf pd_7 rfl) rfl (by show 2 * 0 + _ ≤ _; exact Nat.le_of_eq rfl) (hb hby at_380) (fun _ _ => ⟨rfl, e1783, (by decide : 15 + 0 ≤ _), (by decide : 70 + 0 ≤ _)⟩)
  dsimp only [Pt.U, Pt.locs, Pt.cells, Pt.slots] at X1785 l1785 y1785 z1785 st1785 hQ1785
  subst l1785 y1785 z1785
  obtain ⟨rfl, N1785q, e1785⟩ := hQ1785
  have N1785 := Fr.app N1783 N1785q
  refine Rch.to (U' := T1785.setTop (mkF m 383 #[iv p1, iv p2, iv p3, iv (0 : Int32), iv (0 : Int32), iv (0 : Int32), rv a2, rv a1, iv (2 : Int32), iv (1 : Int32), iv (0 : Int32), iv (3 : Int32), iv (2 : Int32), iv (1 : Int32), uv, uv, uv, uv] [(.int (own_at [0, 0, 0, 0] (3 : Int32)))])) st1785 ?_
  rw [(by decide : (own_at [0, 0, 0, 0] (3 : Int32)) = (0 : Int32))]
  have br1786 : (0 : Int32) = (0 : Int32) := (by decide)
  refine Rch.go (U' := T1785.setTop (mkF m 386 #[iv p1, iv p2, iv p3, iv (0 : Int32), iv (0 : Int32), iv (0 : Int32), rv a2, rv a1, iv (2 : Int32), iv (1 : Int32), iv (0 : Int32), iv (3 : Int32), iv (2 : Int32), iv (1 : Int32), uv, uv, uv, uv] [])) (fun _ k => XS.ifNo X1785.here hx rfl (hb hby at_383) rfl (XT.i0_ne_f br1786) k) ?_
  refine Rch.go (U' := T1785.setTop (mkF m 388 #[iv p1, iv p2, iv p3, iv (0 : Int32), iv (0 : Int32), iv (0 : Int32), rv a2, rv a1, iv (2 : Int32), iv (1 : Int32), iv (0 : Int32), iv (3 : Int32), iv (2 : Int32), iv (1 : Int32), uv, uv, uv, uv] [(.ref a1)])) (fun _ k => XS.aload X1785.here hx rfl (hb hby at_386) rfl rfl k) ?_
  obtain ⟨cq1787, kq1787, q1787a, q1787b, q1787c⟩ := isOf hZ e1785 B1778.1.1
  obtain ⟨_, _, ⟨T1787, L1787, k1787, n1787⟩, -, X1787, ⟨Lc1787, hQ1787, l1787, y1787, z1787⟩, st1787⟩ := X1785.virtualBack hx (y := yhs) (z := yhs) hown (mvT hZ (wi hw 63 rfl)) (mvT hZ (wi hw 64 rfl)) (notFace_of_selects (args := #[]) (mvT hZ (wi hw 66 rfl))) (mvT hZ (wi hw 66 rfl)) (mvT hZ (wi hw 65 rfl)) (by decide) (backOf (W := 0) (rmHs l Z a0 hw [] a1 a2 bco bnx bpv bfb bpd bip bfi ben [0, 0, 0, 0] [3, -1, 1, 2] [-1, 2, 3, 0] [0, 0, 0, 0] [0, 0, 0, 0] [1, 0, 0, 0] (1 : Int32) (1 : Int32)  T1778.heap n0 z1778 B1778 ) hZ (wi hw 67 rfl) (wi hw 29 rfl) (by decide) (by decide)) q1787a q1787c (g := (mkF m 388 #[iv p1, iv p2, iv p3, iv (0 : Int32), iv (0 : Int32), iv (0 : Int32), rv a2, rv a1, iv (2 : Int32), iv (1 : Int32), iv (0 : Int32), iv (3 : Int32), iv (2 : Int32), iv (1 : Int32), uv, uv, uv, uv] [(.ref a1)])) rfl (by rw [hml]; rfl) (Steps.refl _) (argsL := []) (rest := []) (lenOf pd_15 rfl) rfl (by show 2 * 0 + _ ≤ _; exact Nat.le_of_eq rfl) (hb hby at_388) (fun _ _ => ⟨rfl, e1785, (by decide : 15 + 0 ≤ _), (by decide : 70 + 0 ≤ _)⟩)
  dsimp only [Pt.U, Pt.locs, Pt.cells, Pt.slots] at X1787 l1787 y1787 z1787 st1787 hQ1787
  subst l1787 y1787 z1787
  obtain ⟨rfl, N1787q, e1787⟩ := hQ1787
  have N1787 := Fr.app N1785 N1787q
  refine Rch.to (U' := T1787.setTop (mkF m 391 #[iv p1, iv p2, iv p3, iv (0 : Int32), iv (0 : Int32), iv (0 : Int32), rv a2, rv a1, iv (2 : Int32), iv (1 : Int32), iv (0 : Int32), iv (3 : Int32), iv (2 : Int32), iv (1 : Int32), uv, uv, uv, uv] [(.int (own_pos (1 : Int32)))])) st1787 ?_
  rw [(by decide : (own_pos (1 : Int32)) = (1 : Int32))]
  have br1788 : ¬ ((1 : Int32) = (0 : Int32)) := (by decide)
  refine Rch.go (U' := T1787.setTop (mkF m 394 #[iv p1, iv p2, iv p3, iv (0 : Int32), iv (0 : Int32), iv (0 : Int32), rv a2, rv a1, iv (2 : Int32), iv (1 : Int32), iv (0 : Int32), iv (3 : Int32), iv (2 : Int32), iv (1 : Int32), uv, uv, uv, uv] [])) (fun _ k => XS.ifNo X1787.here hx rfl (hb hby at_391) rfl (XT.i0_eq_f br1788) k) ?_
  refine Rch.go (U' := T1787.setTop (mkF m 396 #[iv p1, iv p2, iv p3, iv (0 : Int32), iv (0 : Int32), iv (0 : Int32), rv a2, rv a1, iv (2 : Int32), iv (1 : Int32), iv (0 : Int32), iv (3 : Int32), iv (2 : Int32), iv (1 : Int32), uv, uv, uv, uv] [(.ref a1)])) (fun _ k => XS.aload X1787.here hx rfl (hb hby at_394) rfl rfl k) ?_
  obtain ⟨cq1789, kq1789, q1789a, q1789b, q1789c⟩ := isOf hZ e1787 B1778.1.1
  obtain ⟨_, _, ⟨T1789, L1789, k1789, n1789⟩, -, X1789, ⟨Lc1789, hQ1789, l1789, y1789, z1789⟩, st1789⟩ := X1787.virtualBack hx (y := yns) (z := yns) hown (mvT hZ (wi hw 68 rfl)) (mvT hZ (wi hw 69 rfl)) (notFace_of_selects (args := #[]) (mvT hZ (wi hw 71 rfl))) (mvT hZ (wi hw 71 rfl)) (mvT hZ (wi hw 70 rfl)) (by decide) (backOf (W := 0) (rmNs l Z a0 hw [] a1 a2 bco bnx bpv bfb bpd bip bfi ben [0, 0, 0, 0] [3, -1, 1, 2] [-1, 2, 3, 0] [0, 0, 0, 0] [0, 0, 0, 0] [1, 0, 0, 0] (1 : Int32) (1 : Int32)  T1778.heap n0 z1778 B1778 (by decide)) hZ (wi hw 72 rfl) (wi hw 29 rfl) (by decide) (by decide)) q1789a q1789c (g := (mkF m 396 #[iv p1, iv p2, iv p3, iv (0 : Int32), iv (0 : Int32), iv (0 : Int32), rv a2, rv a1, iv (2 : Int32), iv (1 : Int32), iv (0 : Int32), iv (3 : Int32), iv (2 : Int32), iv (1 : Int32), uv, uv, uv, uv] [(.ref a1)])) rfl (by rw [hml]; rfl) (Steps.refl _) (argsL := []) (rest := []) (lenOf pd_14 rfl) rfl (by show 2 * 0 + _ ≤ _; exact Nat.le_of_eq rfl) (hb hby at_396) (fun _ _ => ⟨rfl, e1787, (by decide : 15 + 0 ≤ _), (by decide : 70 + 0 ≤ _)⟩)
  dsimp only [Pt.U, Pt.locs, Pt.cells, Pt.slots] at X1789 l1789 y1789 z1789 st1789 hQ1789
  subst l1789 y1789 z1789
  obtain ⟨rfl, N1789q, e1789⟩ := hQ1789
  have N1789 := Fr.app N1787 N1789q
  refine Rch.to (U' := T1789.setTop (mkF m 399 #[iv p1, iv p2, iv p3, iv (0 : Int32), iv (0 : Int32), iv (0 : Int32), rv a2, rv a1, iv (2 : Int32), iv (1 : Int32), iv (0 : Int32), iv (3 : Int32), iv (2 : Int32), iv (1 : Int32), uv, uv, uv, uv] [(.int (own_at [0, 0, 0, 0] ((1 : Int32) - (1 : Int32))))])) st1789 ?_
  rw [(by decide : (own_at [0, 0, 0, 0] ((1 : Int32) - (1 : Int32))) = (0 : Int32))]
  have br1790 : (0 : Int32) = (0 : Int32) := (by decide)
  refine Rch.go (U' := T1789.setTop (mkF m 402 #[iv p1, iv p2, iv p3, iv (0 : Int32), iv (0 : Int32), iv (0 : Int32), rv a2, rv a1, iv (2 : Int32), iv (1 : Int32), iv (0 : Int32), iv (3 : Int32), iv (2 : Int32), iv (1 : Int32), uv, uv, uv, uv] [])) (fun _ k => XS.ifNo X1789.here hx rfl (hb hby at_399) rfl (XT.i0_ne_f br1790) k) ?_
  refine Rch.go (U' := T1789.setTop (mkF m 403 #[iv p1, iv p2, iv p3, iv (0 : Int32), iv (0 : Int32), iv (0 : Int32), rv a2, rv a1, iv (2 : Int32), iv (1 : Int32), iv (0 : Int32), iv (3 : Int32), iv (2 : Int32), iv (1 : Int32), uv, uv, uv, uv] [(.int (1 : Int32))])) (fun _ k => XS.iconst X1789.here hx rfl (hb hby at_402) k) ?_
  refine Rch.go (U' := T1789.setTop (mkF m 407 #[iv p1, iv p2, iv p3, iv (0 : Int32), iv (0 : Int32), iv (0 : Int32), rv a2, rv a1, iv (2 : Int32), iv (1 : Int32), iv (0 : Int32), iv (3 : Int32), iv (2 : Int32), iv (1 : Int32), uv, uv, uv, uv] [(.int (1 : Int32))])) (fun _ k => XS.goto X1789.here hx rfl (pc0 := 403) (pc' := 407) rfl (hb hby at_403) (by decide) (by decide) k) ?_
  refine Rch.go (U' := T1789.setTop (mkF m 409 #[iv p1, iv p2, iv p3, iv (0 : Int32), iv (0 : Int32), iv (0 : Int32), rv a2, rv a1, iv (2 : Int32), iv (1 : Int32), iv (0 : Int32), iv (3 : Int32), iv (2 : Int32), iv (1 : Int32), iv (1 : Int32), uv, uv, uv] [])) (fun _ k => XS.istore X1789.here hx rfl (hb hby at_407) rfl (l' := #[iv p1, iv p2, iv p3, iv (0 : Int32), iv (0 : Int32), iv (0 : Int32), rv a2, rv a1, iv (2 : Int32), iv (1 : Int32), iv (0 : Int32), iv (3 : Int32), iv (2 : Int32), iv (1 : Int32), iv (1 : Int32), uv, uv, uv]) rfl k) ?_
  refine Rch.go (U' := T1789.setTop (mkF m 411 #[iv p1, iv p2, iv p3, iv (0 : Int32), iv (0 : Int32), iv (0 : Int32), rv a2, rv a1, iv (2 : Int32), iv (1 : Int32), iv (0 : Int32), iv (3 : Int32), iv (2 : Int32), iv (1 : Int32), iv (1 : Int32), uv, uv, uv] [(.int (1 : Int32))])) (fun _ k => XS.iload X1789.here hx rfl (hb hby at_409) rfl  k) ?_
  have br1791 : ¬ ((1 : Int32) = (0 : Int32)) := (by decide)
  refine Rch.go (U' := T1789.setTop (mkF m 416 #[iv p1, iv p2, iv p3, iv (0 : Int32), iv (0 : Int32), iv (0 : Int32), rv a2, rv a1, iv (2 : Int32), iv (1 : Int32), iv (0 : Int32), iv (3 : Int32), iv (2 : Int32), iv (1 : Int32), iv (1 : Int32), uv, uv, uv] [])) (fun _ k => XS.ifYes X1789.here hx rfl (pc0 := 411) (pc' := 416) rfl (hb hby at_411) rfl (XT.i0_ne_t br1791) (by decide) (by decide) k) ?_
  refine Rch.go (U' := T1789.setTop (mkF m 418 #[iv p1, iv p2, iv p3, iv (0 : Int32), iv (0 : Int32), iv (0 : Int32), rv a2, rv a1, iv (2 : Int32), iv (1 : Int32), iv (0 : Int32), iv (3 : Int32), iv (2 : Int32), iv (1 : Int32), iv (1 : Int32), uv, uv, uv] [(.ref a1)])) (fun _ k => XS.aload X1789.here hx rfl (hb hby at_416) rfl rfl k) ?_
  obtain ⟨cq1792, kq1792, q1792a, q1792b, q1792c⟩ := isOf hZ e1789 B1778.1.1
  obtain ⟨_, _, ⟨T1792, L1792, k1792, n1792⟩, -, X1792, ⟨Lc1792, hQ1792, l1792, y1792, z1792⟩, st1792⟩ := X1789.virtualBack hx (y := yt) (z := yt) hown (mvT hZ (wi hw 73 rfl)) (mvT hZ (wi hw 74 rfl)) (notFace_of_selects (args := #[]) (mvT hZ (wi hw 76 rfl))) (mvT hZ (wi hw 76 rfl)) (mvT hZ (wi hw 75 rfl)) (by decide) (backOf (W := 0) (rmT l Z a0 hw [] a1 a2 bco bnx bpv bfb bpd bip bfi ben [0, 0, 0, 0] [3, -1, 1, 2] [-1, 2, 3, 0] [0, 0, 0, 0] [0, 0, 0, 0] [1, 0, 0, 0] (1 : Int32) (1 : Int32) T1778.heap n0 z1778 B1778 (by decide)) hZ (wi hw 77 rfl) (wi hw 29 rfl) (by decide) (by decide)) q1792a q1792c (g := (mkF m 418 #[iv p1, iv p2, iv p3, iv (0 : Int32), iv (0 : Int32), iv (0 : Int32), rv a2, rv a1, iv (2 : Int32), iv (1 : Int32), iv (0 : Int32), iv (3 : Int32), iv (2 : Int32), iv (1 : Int32), iv (1 : Int32), uv, uv, uv] [(.ref a1)])) rfl (by rw [hml]; rfl) (Steps.refl _) (argsL := []) (rest := []) (lenOf pd_14 rfl) rfl (by show 2 * 0 + _ ≤ _; exact Nat.le_of_eq rfl) (hb hby at_418) (fun _ _ => ⟨rfl, e1789, (by decide : 15 + 0 ≤ _), (by decide : 70 + 0 ≤ _)⟩)
  dsimp only [Pt.U, Pt.locs, Pt.cells, Pt.slots] at X1792 l1792 y1792 z1792 st1792 hQ1792
  subst l1792 y1792 z1792
  obtain ⟨rfl, N1792q, z1792, C1792⟩ := hQ1792
  have N1792 := Fr.app N1789 N1792q
  rw [(by rfl : own_take [0, 0, 0, 0] [3, -1, 1, 2] [-1, 2, 3, 0] [0, 0, 0, 0] [0, 0, 0, 0] [1, 0, 0, 0] (1 : Int32) (1 : Int32) = ([0, 0, 0, 1], [2, -1, 1, -1], [-1, 2, 0, -1], [0, 3, 0, 0], [0, 0, 0, 0], [1, 0, 0, 0], (2 : Int32), (1 : Int32)))] at C1792
  have B1792 : Cb Z T1792.heap n0 a1 a2 bco bnx bpv bfb bpd bip bfi ben [0, 0, 0, 1] [2, -1, 1, -1] [-1, 2, 0, -1] [0, 3, 0, 0] [0, 0, 0, 0] [1, 0, 0, 0] (2 : Int32) (1 : Int32) := C1792
  refine Rch.to (U' := T1792.setTop (mkF m 421 #[iv p1, iv p2, iv p3, iv (0 : Int32), iv (0 : Int32), iv (0 : Int32), rv a2, rv a1, iv (2 : Int32), iv (1 : Int32), iv (0 : Int32), iv (3 : Int32), iv (2 : Int32), iv (1 : Int32), iv (1 : Int32), uv, uv, uv] [(.int (own_sp [3, -1, 1, 2] [0, 0, 0, 0] [0, 0, 0, 0] (1 : Int32)))])) st1792 ?_
  rw [(by decide : own_sp [3, -1, 1, 2] [0, 0, 0, 0] [0, 0, 0, 0] (1 : Int32) = (3 : Int32))]
  refine Rch.go (U' := T1792.setTop (mkF m 423 #[iv p1, iv p2, iv p3, iv (0 : Int32), iv (0 : Int32), iv (0 : Int32), rv a2, rv a1, iv (2 : Int32), iv (1 : Int32), iv (0 : Int32), iv (3 : Int32), iv (2 : Int32), iv (1 : Int32), iv (1 : Int32), iv (3 : Int32), uv, uv] [])) (fun _ k => XS.istore X1792.here hx rfl (hb hby at_421) rfl (l' := #[iv p1, iv p2, iv p3, iv (0 : Int32), iv (0 : Int32), iv (0 : Int32), rv a2, rv a1, iv (2 : Int32), iv (1 : Int32), iv (0 : Int32), iv (3 : Int32), iv (2 : Int32), iv (1 : Int32), iv (1 : Int32), iv (3 : Int32), uv, uv]) rfl k) ?_
  refine Rch.go (U' := T1792.setTop (mkF m 425 #[iv p1, iv p2, iv p3, iv (0 : Int32), iv (0 : Int32), iv (0 : Int32), rv a2, rv a1, iv (2 : Int32), iv (1 : Int32), iv (0 : Int32), iv (3 : Int32), iv (2 : Int32), iv (1 : Int32), iv (1 : Int32), iv (3 : Int32), uv, uv] [(.ref a1)])) (fun _ k => XS.aload X1792.here hx rfl (hb hby at_423) rfl rfl k) ?_
  obtain ⟨cq1793, kq1793, q1793a, q1793b, q1793c⟩ := isOf hZ rfl B1792.1.1
  obtain ⟨_, _, ⟨T1793, L1793, k1793, n1793⟩, -, X1793, ⟨Lc1793, hQ1793, l1793, y1793, z1793⟩, st1793⟩ := X1792.virtualBack hx (y := yt) (z := yt) hown (mvT hZ (wi hw 73 rfl)) (mvT hZ (wi hw 74 rfl)) (notFace_of_selects (args := #[]) (mvT hZ (wi hw 76 rfl))) (mvT hZ (wi hw 76 rfl)) (mvT hZ (wi hw 75 rfl)) (by decide) (backOf (W := 0) (rmT l Z a0 hw [] a1 a2 bco bnx bpv bfb bpd bip bfi ben [0, 0, 0, 1] [2, -1, 1, -1] [-1, 2, 0, -1] [0, 3, 0, 0] [0, 0, 0, 0] [1, 0, 0, 0] (2 : Int32) (1 : Int32) T1792.heap n0 z1792 B1792 (by decide)) hZ (wi hw 77 rfl) (wi hw 29 rfl) (by decide) (by decide)) q1793a q1793c (g := (mkF m 425 #[iv p1, iv p2, iv p3, iv (0 : Int32), iv (0 : Int32), iv (0 : Int32), rv a2, rv a1, iv (2 : Int32), iv (1 : Int32), iv (0 : Int32), iv (3 : Int32), iv (2 : Int32), iv (1 : Int32), iv (1 : Int32), iv (3 : Int32), uv, uv] [(.ref a1)])) rfl (by rw [hml]; rfl) (Steps.refl _) (argsL := []) (rest := []) (lenOf pd_14 rfl) rfl (by show 2 * 0 + _ ≤ _; exact Nat.le_of_eq rfl) (hb hby at_425) (fun _ _ => ⟨rfl, rfl, (by decide : 15 + 0 ≤ _), (by decide : 70 + 0 ≤ _)⟩)
  dsimp only [Pt.U, Pt.locs, Pt.cells, Pt.slots] at X1793 l1793 y1793 z1793 st1793 hQ1793
  subst l1793 y1793 z1793
  obtain ⟨rfl, N1793q, z1793, C1793⟩ := hQ1793
  have N1793 := Fr.app N1792 N1793q
  rw [(by rfl : own_take [0, 0, 0, 1] [2, -1, 1, -1] [-1, 2, 0, -1] [0, 3, 0, 0] [0, 0, 0, 0] [1, 0, 0, 0] (2 : Int32) (1 : Int32) = ([0, 0, 2, 1], [1, -1, -1, -1], [-1, 0, -1, -1], [0, 3, 2, 0], [0, 0, 0, 0], [1, 0, 0, 0], (3 : Int32), (1 : Int32)))] at C1793
  have B1793 : Cb Z T1793.heap n0 a1 a2 bco bnx bpv bfb bpd bip bfi ben [0, 0, 2, 1] [1, -1, -1, -1] [-1, 0, -1, -1] [0, 3, 2, 0] [0, 0, 0, 0] [1, 0, 0, 0] (3 : Int32) (1 : Int32) := C1793
  refine Rch.to (U' := T1793.setTop (mkF m 428 #[iv p1, iv p2, iv p3, iv (0 : Int32), iv (0 : Int32), iv (0 : Int32), rv a2, rv a1, iv (2 : Int32), iv (1 : Int32), iv (0 : Int32), iv (3 : Int32), iv (2 : Int32), iv (1 : Int32), iv (1 : Int32), iv (3 : Int32), uv, uv] [(.int (own_sp [2, -1, 1, -1] [0, 3, 0, 0] [0, 0, 0, 0] (1 : Int32)))])) st1793 ?_
  rw [(by decide : own_sp [2, -1, 1, -1] [0, 3, 0, 0] [0, 0, 0, 0] (1 : Int32) = (2 : Int32))]
  refine Rch.go (U' := T1793.setTop (mkF m 430 #[iv p1, iv p2, iv p3, iv (0 : Int32), iv (0 : Int32), iv (0 : Int32), rv a2, rv a1, iv (2 : Int32), iv (1 : Int32), iv (0 : Int32), iv (3 : Int32), iv (2 : Int32), iv (1 : Int32), iv (1 : Int32), iv (3 : Int32), iv (2 : Int32), uv] [])) (fun _ k => XS.istore X1793.here hx rfl (hb hby at_428) rfl (l' := #[iv p1, iv p2, iv p3, iv (0 : Int32), iv (0 : Int32), iv (0 : Int32), rv a2, rv a1, iv (2 : Int32), iv (1 : Int32), iv (0 : Int32), iv (3 : Int32), iv (2 : Int32), iv (1 : Int32), iv (1 : Int32), iv (3 : Int32), iv (2 : Int32), uv]) rfl k) ?_
  refine Rch.go (U' := T1793.setTop (mkF m 432 #[iv p1, iv p2, iv p3, iv (0 : Int32), iv (0 : Int32), iv (0 : Int32), rv a2, rv a1, iv (2 : Int32), iv (1 : Int32), iv (0 : Int32), iv (3 : Int32), iv (2 : Int32), iv (1 : Int32), iv (1 : Int32), iv (3 : Int32), iv (2 : Int32), uv] [(.ref a1)])) (fun _ k => XS.aload X1793.here hx rfl (hb hby at_430) rfl rfl k) ?_
  obtain ⟨cq1794, kq1794, q1794a, q1794b, q1794c⟩ := isOf hZ rfl B1793.1.1
  obtain ⟨_, _, ⟨T1794, L1794, k1794, n1794⟩, -, X1794, ⟨Lc1794, hQ1794, l1794, y1794, z1794⟩, st1794⟩ := X1793.virtualBack hx (y := yt) (z := yt) hown (mvT hZ (wi hw 73 rfl)) (mvT hZ (wi hw 74 rfl)) (notFace_of_selects (args := #[]) (mvT hZ (wi hw 76 rfl))) (mvT hZ (wi hw 76 rfl)) (mvT hZ (wi hw 75 rfl)) (by decide) (backOf (W := 0) (rmT l Z a0 hw [] a1 a2 bco bnx bpv bfb bpd bip bfi ben [0, 0, 2, 1] [1, -1, -1, -1] [-1, 0, -1, -1] [0, 3, 2, 0] [0, 0, 0, 0] [1, 0, 0, 0] (3 : Int32) (1 : Int32) T1793.heap n0 z1793 B1793 (by decide)) hZ (wi hw 77 rfl) (wi hw 29 rfl) (by decide) (by decide)) q1794a q1794c (g := (mkF m 432 #[iv p1, iv p2, iv p3, iv (0 : Int32), iv (0 : Int32), iv (0 : Int32), rv a2, rv a1, iv (2 : Int32), iv (1 : Int32), iv (0 : Int32), iv (3 : Int32), iv (2 : Int32), iv (1 : Int32), iv (1 : Int32), iv (3 : Int32), iv (2 : Int32), uv] [(.ref a1)])) rfl (by rw [hml]; rfl) (Steps.refl _) (argsL := []) (rest := []) (lenOf pd_14 rfl) rfl (by show 2 * 0 + _ ≤ _; exact Nat.le_of_eq rfl) (hb hby at_432) (fun _ _ => ⟨rfl, rfl, (by decide : 15 + 0 ≤ _), (by decide : 70 + 0 ≤ _)⟩)
  dsimp only [Pt.U, Pt.locs, Pt.cells, Pt.slots] at X1794 l1794 y1794 z1794 st1794 hQ1794
  subst l1794 y1794 z1794
  obtain ⟨rfl, N1794q, z1794, C1794⟩ := hQ1794
  have N1794 := Fr.app N1793 N1794q
  rw [(by rfl : own_take [0, 0, 2, 1] [1, -1, -1, -1] [-1, 0, -1, -1] [0, 3, 2, 0] [0, 0, 0, 0] [1, 0, 0, 0] (3 : Int32) (1 : Int32) = ([0, 3, 2, 1], [-1, -1, -1, -1], [-1, -1, -1, -1], [0, 3, 2, 1], [0, 0, 0, 0], [0, 0, 0, 0], (4 : Int32), (0 : Int32)))] at C1794
  have B1794 : Cb Z T1794.heap n0 a1 a2 bco bnx bpv bfb bpd bip bfi ben [0, 3, 2, 1] [-1, -1, -1, -1] [-1, -1, -1, -1] [0, 3, 2, 1] [0, 0, 0, 0] [0, 0, 0, 0] (4 : Int32) (0 : Int32) := C1794
  refine Rch.to (U' := T1794.setTop (mkF m 435 #[iv p1, iv p2, iv p3, iv (0 : Int32), iv (0 : Int32), iv (0 : Int32), rv a2, rv a1, iv (2 : Int32), iv (1 : Int32), iv (0 : Int32), iv (3 : Int32), iv (2 : Int32), iv (1 : Int32), iv (1 : Int32), iv (3 : Int32), iv (2 : Int32), uv] [(.int (own_sp [1, -1, -1, -1] [0, 3, 2, 0] [0, 0, 0, 0] (1 : Int32)))])) st1794 ?_
  rw [(by decide : own_sp [1, -1, -1, -1] [0, 3, 2, 0] [0, 0, 0, 0] (1 : Int32) = (1 : Int32))]
  refine Rch.go (U' := T1794.setTop (mkF m 437 #[iv p1, iv p2, iv p3, iv (0 : Int32), iv (0 : Int32), iv (0 : Int32), rv a2, rv a1, iv (2 : Int32), iv (1 : Int32), iv (0 : Int32), iv (3 : Int32), iv (2 : Int32), iv (1 : Int32), iv (1 : Int32), iv (3 : Int32), iv (2 : Int32), iv (1 : Int32)] [])) (fun _ k => XS.istore X1794.here hx rfl (hb hby at_435) rfl (l' := #[iv p1, iv p2, iv p3, iv (0 : Int32), iv (0 : Int32), iv (0 : Int32), rv a2, rv a1, iv (2 : Int32), iv (1 : Int32), iv (0 : Int32), iv (3 : Int32), iv (2 : Int32), iv (1 : Int32), iv (1 : Int32), iv (3 : Int32), iv (2 : Int32), iv (1 : Int32)]) rfl k) ?_
  refine Rch.go (U' := T1794.setTop (mkF m 439 #[iv p1, iv p2, iv p3, iv (0 : Int32), iv (0 : Int32), iv (0 : Int32), rv a2, rv a1, iv (2 : Int32), iv (1 : Int32), iv (0 : Int32), iv (3 : Int32), iv (2 : Int32), iv (1 : Int32), iv (1 : Int32), iv (3 : Int32), iv (2 : Int32), iv (1 : Int32)] [(.int (3 : Int32))])) (fun _ k => XS.iload X1794.here hx rfl (hb hby at_437) rfl  k) ?_
  refine Rch.go (U' := T1794.setTop (mkF m 441 #[iv p1, iv p2, iv p3, iv (0 : Int32), iv (0 : Int32), iv (0 : Int32), rv a2, rv a1, iv (2 : Int32), iv (1 : Int32), iv (0 : Int32), iv (3 : Int32), iv (2 : Int32), iv (1 : Int32), iv (1 : Int32), iv (3 : Int32), iv (2 : Int32), iv (1 : Int32)] [(.int (3 : Int32)), (.int (3 : Int32))])) (fun _ k => XS.iload X1794.here hx rfl (hb hby at_439) rfl  k) ?_
  have br1795 : (3 : Int32) = (3 : Int32) := (by decide)
  refine Rch.go (U' := T1794.setTop (mkF m 444 #[iv p1, iv p2, iv p3, iv (0 : Int32), iv (0 : Int32), iv (0 : Int32), rv a2, rv a1, iv (2 : Int32), iv (1 : Int32), iv (0 : Int32), iv (3 : Int32), iv (2 : Int32), iv (1 : Int32), iv (1 : Int32), iv (3 : Int32), iv (2 : Int32), iv (1 : Int32)] [])) (fun _ k => XS.icmpNo X1794.here hx rfl (hb hby at_441) rfl (XT.ii_ne_f br1795) k) ?_
  refine Rch.go (U' := T1794.setTop (mkF m 446 #[iv p1, iv p2, iv p3, iv (0 : Int32), iv (0 : Int32), iv (0 : Int32), rv a2, rv a1, iv (2 : Int32), iv (1 : Int32), iv (0 : Int32), iv (3 : Int32), iv (2 : Int32), iv (1 : Int32), iv (1 : Int32), iv (3 : Int32), iv (2 : Int32), iv (1 : Int32)] [(.int (2 : Int32))])) (fun _ k => XS.iload X1794.here hx rfl (hb hby at_444) rfl  k) ?_
  refine Rch.go (U' := T1794.setTop (mkF m 448 #[iv p1, iv p2, iv p3, iv (0 : Int32), iv (0 : Int32), iv (0 : Int32), rv a2, rv a1, iv (2 : Int32), iv (1 : Int32), iv (0 : Int32), iv (3 : Int32), iv (2 : Int32), iv (1 : Int32), iv (1 : Int32), iv (3 : Int32), iv (2 : Int32), iv (1 : Int32)] [(.int (2 : Int32)), (.int (2 : Int32))])) (fun _ k => XS.iload X1794.here hx rfl (hb hby at_446) rfl  k) ?_
  have br1796 : (2 : Int32) = (2 : Int32) := (by decide)
  refine Rch.go (U' := T1794.setTop (mkF m 451 #[iv p1, iv p2, iv p3, iv (0 : Int32), iv (0 : Int32), iv (0 : Int32), rv a2, rv a1, iv (2 : Int32), iv (1 : Int32), iv (0 : Int32), iv (3 : Int32), iv (2 : Int32), iv (1 : Int32), iv (1 : Int32), iv (3 : Int32), iv (2 : Int32), iv (1 : Int32)] [])) (fun _ k => XS.icmpNo X1794.here hx rfl (hb hby at_448) rfl (XT.ii_ne_f br1796) k) ?_
  refine Rch.go (U' := T1794.setTop (mkF m 453 #[iv p1, iv p2, iv p3, iv (0 : Int32), iv (0 : Int32), iv (0 : Int32), rv a2, rv a1, iv (2 : Int32), iv (1 : Int32), iv (0 : Int32), iv (3 : Int32), iv (2 : Int32), iv (1 : Int32), iv (1 : Int32), iv (3 : Int32), iv (2 : Int32), iv (1 : Int32)] [(.int (1 : Int32))])) (fun _ k => XS.iload X1794.here hx rfl (hb hby at_451) rfl  k) ?_
  refine Rch.go (U' := T1794.setTop (mkF m 455 #[iv p1, iv p2, iv p3, iv (0 : Int32), iv (0 : Int32), iv (0 : Int32), rv a2, rv a1, iv (2 : Int32), iv (1 : Int32), iv (0 : Int32), iv (3 : Int32), iv (2 : Int32), iv (1 : Int32), iv (1 : Int32), iv (3 : Int32), iv (2 : Int32), iv (1 : Int32)] [(.int (1 : Int32)), (.int (1 : Int32))])) (fun _ k => XS.iload X1794.here hx rfl (hb hby at_453) rfl  k) ?_
  have br1797 : (1 : Int32) = (1 : Int32) := (by decide)
  refine Rch.go (U' := T1794.setTop (mkF m 458 #[iv p1, iv p2, iv p3, iv (0 : Int32), iv (0 : Int32), iv (0 : Int32), rv a2, rv a1, iv (2 : Int32), iv (1 : Int32), iv (0 : Int32), iv (3 : Int32), iv (2 : Int32), iv (1 : Int32), iv (1 : Int32), iv (3 : Int32), iv (2 : Int32), iv (1 : Int32)] [])) (fun _ k => XS.icmpNo X1794.here hx rfl (hb hby at_455) rfl (XT.ii_ne_f br1797) k) ?_
  refine Rch.go (U' := T1794.setTop (mkF m 460 #[iv p1, iv p2, iv p3, iv (0 : Int32), iv (0 : Int32), iv (0 : Int32), rv a2, rv a1, iv (2 : Int32), iv (1 : Int32), iv (0 : Int32), iv (3 : Int32), iv (2 : Int32), iv (1 : Int32), iv (1 : Int32), iv (3 : Int32), iv (2 : Int32), iv (1 : Int32)] [(.ref a1)])) (fun _ k => XS.aload X1794.here hx rfl (hb hby at_458) rfl rfl k) ?_
  obtain ⟨cq1798, kq1798, q1798a, q1798b, q1798c⟩ := isOf hZ rfl B1794.1.1
  obtain ⟨_, _, ⟨T1798, L1798, k1798, n1798⟩, -, X1798, ⟨Lc1798, hQ1798, l1798, y1798, z1798⟩, st1798⟩ := X1794.virtualBack hx (y := yhs) (z := yhs) hown (mvT hZ (wi hw 63 rfl)) (mvT hZ (wi hw 64 rfl)) (notFace_of_selects (args := #[]) (mvT hZ (wi hw 66 rfl))) (mvT hZ (wi hw 66 rfl)) (mvT hZ (wi hw 65 rfl)) (by decide) (backOf (W := 0) (rmHs l Z a0 hw [] a1 a2 bco bnx bpv bfb bpd bip bfi ben [0, 3, 2, 1] [-1, -1, -1, -1] [-1, -1, -1, -1] [0, 3, 2, 1] [0, 0, 0, 0] [0, 0, 0, 0] (4 : Int32) (0 : Int32)  T1794.heap n0 z1794 B1794 ) hZ (wi hw 67 rfl) (wi hw 29 rfl) (by decide) (by decide)) q1798a q1798c (g := (mkF m 460 #[iv p1, iv p2, iv p3, iv (0 : Int32), iv (0 : Int32), iv (0 : Int32), rv a2, rv a1, iv (2 : Int32), iv (1 : Int32), iv (0 : Int32), iv (3 : Int32), iv (2 : Int32), iv (1 : Int32), iv (1 : Int32), iv (3 : Int32), iv (2 : Int32), iv (1 : Int32)] [(.ref a1)])) rfl (by rw [hml]; rfl) (Steps.refl _) (argsL := []) (rest := []) (lenOf pd_15 rfl) rfl (by show 2 * 0 + _ ≤ _; exact Nat.le_of_eq rfl) (hb hby at_460) (fun _ _ => ⟨rfl, rfl, (by decide : 15 + 0 ≤ _), (by decide : 70 + 0 ≤ _)⟩)
  dsimp only [Pt.U, Pt.locs, Pt.cells, Pt.slots] at X1798 l1798 y1798 z1798 st1798 hQ1798
  subst l1798 y1798 z1798
  obtain ⟨rfl, N1798q, e1798⟩ := hQ1798
  have N1798 := Fr.app N1794 N1798q
  refine Rch.to (U' := T1798.setTop (mkF m 463 #[iv p1, iv p2, iv p3, iv (0 : Int32), iv (0 : Int32), iv (0 : Int32), rv a2, rv a1, iv (2 : Int32), iv (1 : Int32), iv (0 : Int32), iv (3 : Int32), iv (2 : Int32), iv (1 : Int32), iv (1 : Int32), iv (3 : Int32), iv (2 : Int32), iv (1 : Int32)] [(.int (own_pos (0 : Int32)))])) st1798 ?_
  rw [(by decide : (own_pos (0 : Int32)) = (0 : Int32))]
  have br1799 : (0 : Int32) = (0 : Int32) := (by decide)
  refine Rch.go (U' := T1798.setTop (mkF m 466 #[iv p1, iv p2, iv p3, iv (0 : Int32), iv (0 : Int32), iv (0 : Int32), rv a2, rv a1, iv (2 : Int32), iv (1 : Int32), iv (0 : Int32), iv (3 : Int32), iv (2 : Int32), iv (1 : Int32), iv (1 : Int32), iv (3 : Int32), iv (2 : Int32), iv (1 : Int32)] [])) (fun _ k => XS.ifNo X1798.here hx rfl (hb hby at_463) rfl (XT.i0_ne_f br1799) k) ?_
  refine Rch.go (U' := T1798.setTop (mkF m 467 #[iv p1, iv p2, iv p3, iv (0 : Int32), iv (0 : Int32), iv (0 : Int32), rv a2, rv a1, iv (2 : Int32), iv (1 : Int32), iv (0 : Int32), iv (3 : Int32), iv (2 : Int32), iv (1 : Int32), iv (1 : Int32), iv (3 : Int32), iv (2 : Int32), iv (1 : Int32)] [(.int (1 : Int32))])) (fun _ k => XS.iconst X1798.here hx rfl (hb hby at_466) k) ?_
  refine Rch.go (U' := T1798.setTop (mkF m 471 #[iv p1, iv p2, iv p3, iv (0 : Int32), iv (0 : Int32), iv (0 : Int32), rv a2, rv a1, iv (2 : Int32), iv (1 : Int32), iv (0 : Int32), iv (3 : Int32), iv (2 : Int32), iv (1 : Int32), iv (1 : Int32), iv (3 : Int32), iv (2 : Int32), iv (1 : Int32)] [(.int (1 : Int32))])) (fun _ k => XS.goto X1798.here hx rfl (pc0 := 467) (pc' := 471) rfl (hb hby at_467) (by decide) (by decide) k) ?_
  refine Rch.fin X1798 hlk (v := some (.int (nar .boolean (1 : Int32)))) (fun h => by rw [hret] at h; cases h) e1798 (by decide) (by decide) (fun fs hr => retN X1798 hx (t := .boolean) hret (by simp) (hb hby at_471) hr) ?_
  exact ⟨rfl, N1798⟩
set_option maxRecDepth 65536 in
set_option maxHeartbeats 40000000 in
theorem cut54_001 {p : Program} {l : Launch} {e : Env} {s : State} {m : MethodId} {args : Array Value} {below : List Frame} {meth : Method} {c : Code} {T0 : State} {locs : List Loc} {Z : State} {a0 : Array Value} {h0 : Heap} {n0 : Nat}  (p1 : Int32) (p2 : Int32) (p3 : Int32) (a1 : Addr) (a2 : Addr) (bco : Addr) (bnx : Addr) (bpv : Addr) (bfb : Addr) (bpd : Addr) (bip : Addr) (bfi : Addr) (ben : Addr)
    (X0 : Stand p l e room_1 s m args below meth c T0 locs 15 70) (hx : p.tables.exec = Jvm.exec) (hZ : Z.Warmed39 s.vm) (hw : ∀ d ∈ tables_1, d.before a0 Z = true) (hby : c.code = code) (hml : c.maxLocals = 18) (hown : s.vm.findClass cLW = some m.cls) (hret : meth.sig.returnType = some .boolean) (hlk : meth.locks = false) (e0 : T0.heap = h0) (N0 : Fr n0 locs) (Z0 : n0 ≤ h0.size) (B : Cb Z h0 n0 a1 a2 bco bnx bpv bfb bpd bip bfi ben [0, 0, 0, 0] [1, -1, 0, 0] [-1, 0, 0, 0] [0, 0, 0, 0] [0, 0, 0, 0] [1, 0, 0, 0] (1 : Int32) (1 : Int32)) :
    Rch p e below (Fin s below (fun v h L => v = some (.int 1) ∧ Fr n0 L) 40 256) (T0.setTop (mkF m 54 #[iv p1, iv p2, iv p3, iv (0 : Int32), iv (0 : Int32), iv (1 : Int32), rv a2, rv a1, uv, uv, uv, uv, uv, uv, uv, uv, uv, uv] [])) := by
  refine Rch.go (U' := T0.setTop (mkF m 55 #[iv p1, iv p2, iv p3, iv (0 : Int32), iv (0 : Int32), iv (1 : Int32), rv a2, rv a1, uv, uv, uv, uv, uv, uv, uv, uv, uv, uv] [(.int (0 : Int32))])) (fun _ k => XS.iloadN X0.here hx rfl (hb hby at_54) rfl  k) ?_
  have br1800 : (0 : Int32) = (0 : Int32) := (by decide)
  refine Rch.go (U' := T0.setTop (mkF m 255 #[iv p1, iv p2, iv p3, iv (0 : Int32), iv (0 : Int32), iv (1 : Int32), rv a2, rv a1, uv, uv, uv, uv, uv, uv, uv, uv, uv, uv] [])) (fun _ k => XS.ifYes X0.here hx rfl (pc0 := 55) (pc' := 255) rfl (hb hby at_55) rfl (XT.i0_eq_t br1800) (by decide) (by decide) k) ?_
  refine Rch.go (U' := T0.setTop (mkF m 257 #[iv p1, iv p2, iv p3, iv (0 : Int32), iv (0 : Int32), iv (1 : Int32), rv a2, rv a1, uv, uv, uv, uv, uv, uv, uv, uv, uv, uv] [(.ref a1)])) (fun _ k => XS.aload X0.here hx rfl (hb hby at_255) rfl rfl k) ?_
  refine Rch.go (U' := T0.setTop (mkF m 259 #[iv p1, iv p2, iv p3, iv (0 : Int32), iv (0 : Int32), iv (1 : Int32), rv a2, rv a1, uv, uv, uv, uv, uv, uv, uv, uv, uv, uv] [(.int (0 : Int32)), (.ref a1)])) (fun _ k => XS.iload X0.here hx rfl (hb hby at_257) rfl  k) ?_
  refine Rch.go (U' := T0.setTop (mkF m 260 #[iv p1, iv p2, iv p3, iv (0 : Int32), iv (0 : Int32), iv (1 : Int32), rv a2, rv a1, uv, uv, uv, uv, uv, uv, uv, uv, uv, uv] [(.int (2 : Int32)), (.int (0 : Int32)), (.ref a1)])) (fun _ k => XS.iconst X0.here hx rfl (hb hby at_259) k) ?_
  obtain ⟨cq1801, kq1801, q1801a, q1801b, q1801c⟩ := isOf hZ e0 B.1.1
  obtain ⟨_, _, ⟨T1801, L1801, k1801, n1801⟩, -, X1801, ⟨Lc1801, hQ1801, l1801, y1801, z1801⟩, st1801⟩ := X0.virtualBack hx (y := yj) (z := yj) hown (mvT hZ (wi hw 51 rfl)) (mvT hZ (wi hw 52 rfl)) (notFace_of_selects (args := #[]) (mvT hZ (wi hw 54 rfl))) (mvT hZ (wi hw 54 rfl)) (mvT hZ (wi hw 53 rfl)) (by decide) (backOf (W := 0) (rmJ l Z a0 hw [] a1 a2 bco bnx bpv bfb bpd bip bfi ben [0, 0, 0, 0] [1, -1, 0, 0] [-1, 0, 0, 0] [0, 0, 0, 0] [0, 0, 0, 0] [1, 0, 0, 0] (1 : Int32) (1 : Int32) (0 : Int32) (2 : Int32) h0 n0 Z0 B (by decide)) hZ (wi hw 55 rfl) (wi hw 29 rfl) (by decide) (by decide)) q1801a q1801c (g := (mkF m 260 #[iv p1, iv p2, iv p3, iv (0 : Int32), iv (0 : Int32), iv (1 : Int32), rv a2, rv a1, uv, uv, uv, uv, uv, uv, uv, uv, uv, uv] [(.int (2 : Int32)), (.int (0 : Int32)), (.ref a1)])) rfl (by rw [hml]; rfl) (Steps.refl _) (argsL := [(.int (0 : Int32)), (.int (2 : Int32))]) (rest := []) (lenOf pd_8 rfl) rfl (by show 2 * 0 + _ ≤ _; exact Nat.le_of_eq rfl) (hb hby at_260) (fun _ _ => ⟨rfl, e0, (by decide : 15 + 0 ≤ _), (by decide : 70 + 0 ≤ _)⟩)
  dsimp only [Pt.U, Pt.locs, Pt.cells, Pt.slots] at X1801 l1801 y1801 z1801 st1801 hQ1801
  subst l1801 y1801 z1801
  obtain ⟨rfl, N1801q, z1801, C1801⟩ := hQ1801
  have N1801 := Fr.app N0 N1801q
  rw [(by rfl : own_join [0, 0, 0, 0] [1, -1, 0, 0] [-1, 0, 0, 0] [0, 0, 0, 0] [0, 0, 0, 0] [1, 0, 0, 0] (1 : Int32) (1 : Int32) (0 : Int32) (2 : Int32) = ([0, 0, 0, 0], [2, -1, 1, 0], [-1, 2, 0, 0], [0, 0, 0, 0], [0, 0, 0, 0], [1, 0, 0, 0], (1 : Int32), (1 : Int32)))] at C1801
  have B1801 : Cb Z T1801.heap n0 a1 a2 bco bnx bpv bfb bpd bip bfi ben [0, 0, 0, 0] [2, -1, 1, 0] [-1, 2, 0, 0] [0, 0, 0, 0] [0, 0, 0, 0] [1, 0, 0, 0] (1 : Int32) (1 : Int32) := C1801
  refine Rch.to (U' := T1801.setTop (mkF m 263 #[iv p1, iv p2, iv p3, iv (0 : Int32), iv (0 : Int32), iv (1 : Int32), rv a2, rv a1, uv, uv, uv, uv, uv, uv, uv, uv, uv, uv] [])) st1801 ?_
  refine Rch.go (U' := T1801.setTop (mkF m 265 #[iv p1, iv p2, iv p3, iv (0 : Int32), iv (0 : Int32), iv (1 : Int32), rv a2, rv a1, uv, uv, uv, uv, uv, uv, uv, uv, uv, uv] [(.ref a1)])) (fun _ k => XS.aload X1801.here hx rfl (hb hby at_263) rfl rfl k) ?_
  refine Rch.go (U' := T1801.setTop (mkF m 267 #[iv p1, iv p2, iv p3, iv (0 : Int32), iv (0 : Int32), iv (1 : Int32), rv a2, rv a1, uv, uv, uv, uv, uv, uv, uv, uv, uv, uv] [(.int (1 : Int32)), (.ref a1)])) (fun _ k => XS.iload X1801.here hx rfl (hb hby at_265) rfl  k) ?_
  refine Rch.go (U' := T1801.setTop (mkF m 268 #[iv p1, iv p2, iv p3, iv (0 : Int32), iv (0 : Int32), iv (1 : Int32), rv a2, rv a1, uv, uv, uv, uv, uv, uv, uv, uv, uv, uv] [(.int (3 : Int32)), (.int (1 : Int32)), (.ref a1)])) (fun _ k => XS.iconst X1801.here hx rfl (hb hby at_267) k) ?_
  obtain ⟨cq1802, kq1802, q1802a, q1802b, q1802c⟩ := isOf hZ rfl B1801.1.1
  obtain ⟨_, _, ⟨T1802, L1802, k1802, n1802⟩, -, X1802, ⟨Lc1802, hQ1802, l1802, y1802, z1802⟩, st1802⟩ := X1801.virtualBack hx (y := yj) (z := yj) hown (mvT hZ (wi hw 51 rfl)) (mvT hZ (wi hw 52 rfl)) (notFace_of_selects (args := #[]) (mvT hZ (wi hw 54 rfl))) (mvT hZ (wi hw 54 rfl)) (mvT hZ (wi hw 53 rfl)) (by decide) (backOf (W := 0) (rmJ l Z a0 hw [] a1 a2 bco bnx bpv bfb bpd bip bfi ben [0, 0, 0, 0] [2, -1, 1, 0] [-1, 2, 0, 0] [0, 0, 0, 0] [0, 0, 0, 0] [1, 0, 0, 0] (1 : Int32) (1 : Int32) (1 : Int32) (3 : Int32) T1801.heap n0 z1801 B1801 (by decide)) hZ (wi hw 55 rfl) (wi hw 29 rfl) (by decide) (by decide)) q1802a q1802c (g := (mkF m 268 #[iv p1, iv p2, iv p3, iv (0 : Int32), iv (0 : Int32), iv (1 : Int32), rv a2, rv a1, uv, uv, uv, uv, uv, uv, uv, uv, uv, uv] [(.int (3 : Int32)), (.int (1 : Int32)), (.ref a1)])) rfl (by rw [hml]; rfl) (Steps.refl _) (argsL := [(.int (1 : Int32)), (.int (3 : Int32))]) (rest := []) (lenOf pd_8 rfl) rfl (by show 2 * 0 + _ ≤ _; exact Nat.le_of_eq rfl) (hb hby at_268) (fun _ _ => ⟨rfl, rfl, (by decide : 15 + 0 ≤ _), (by decide : 70 + 0 ≤ _)⟩)
  dsimp only [Pt.U, Pt.locs, Pt.cells, Pt.slots] at X1802 l1802 y1802 z1802 st1802 hQ1802
  subst l1802 y1802 z1802
  obtain ⟨rfl, N1802q, z1802, C1802⟩ := hQ1802
  have N1802 := Fr.app N1801 N1802q
  rw [(by rfl : own_join [0, 0, 0, 0] [2, -1, 1, 0] [-1, 2, 0, 0] [0, 0, 0, 0] [0, 0, 0, 0] [1, 0, 0, 0] (1 : Int32) (1 : Int32) (1 : Int32) (3 : Int32) = ([0, 0, 0, 0], [2, 3, 1, -1], [-1, 2, 0, 1], [0, 0, 0, 0], [0, 0, 0, 0], [1, 0, 0, 0], (1 : Int32), (1 : Int32)))] at C1802
  have B1802 : Cb Z T1802.heap n0 a1 a2 bco bnx bpv bfb bpd bip bfi ben [0, 0, 0, 0] [2, 3, 1, -1] [-1, 2, 0, 1] [0, 0, 0, 0] [0, 0, 0, 0] [1, 0, 0, 0] (1 : Int32) (1 : Int32) := C1802
  refine Rch.to (U' := T1802.setTop (mkF m 271 #[iv p1, iv p2, iv p3, iv (0 : Int32), iv (0 : Int32), iv (1 : Int32), rv a2, rv a1, uv, uv, uv, uv, uv, uv, uv, uv, uv, uv] [])) st1802 ?_
  refine Rch.go (U' := T1802.setTop (mkF m 273 #[iv p1, iv p2, iv p3, iv (0 : Int32), iv (0 : Int32), iv (1 : Int32), rv a2, rv a1, uv, uv, uv, uv, uv, uv, uv, uv, uv, uv] [(.int (0 : Int32))])) (fun _ k => XS.iload X1802.here hx rfl (hb hby at_271) rfl  k) ?_
  have br1803 : (0 : Int32) = (0 : Int32) := (by decide)
  refine Rch.go (U' := T1802.setTop (mkF m 276 #[iv p1, iv p2, iv p3, iv (0 : Int32), iv (0 : Int32), iv (1 : Int32), rv a2, rv a1, uv, uv, uv, uv, uv, uv, uv, uv, uv, uv] [])) (fun _ k => XS.ifNo X1802.here hx rfl (hb hby at_273) rfl (XT.i0_ne_f br1803) k) ?_
  refine Rch.go (U' := T1802.setTop (mkF m 277 #[iv p1, iv p2, iv p3, iv (0 : Int32), iv (0 : Int32), iv (1 : Int32), rv a2, rv a1, uv, uv, uv, uv, uv, uv, uv, uv, uv, uv] [(.int (2 : Int32))])) (fun _ k => XS.iconst X1802.here hx rfl (hb hby at_276) k) ?_
  refine Rch.go (U' := T1802.setTop (mkF m 281 #[iv p1, iv p2, iv p3, iv (0 : Int32), iv (0 : Int32), iv (1 : Int32), rv a2, rv a1, uv, uv, uv, uv, uv, uv, uv, uv, uv, uv] [(.int (2 : Int32))])) (fun _ k => XS.goto X1802.here hx rfl (pc0 := 277) (pc' := 281) rfl (hb hby at_277) (by decide) (by decide) k) ?_
  refine Rch.go (U' := T1802.setTop (mkF m 283 #[iv p1, iv p2, iv p3, iv (0 : Int32), iv (0 : Int32), iv (1 : Int32), rv a2, rv a1, iv (2 : Int32), uv, uv, uv, uv, uv, uv, uv, uv, uv] [])) (fun _ k => XS.istore X1802.here hx rfl (hb hby at_281) rfl (l' := #[iv p1, iv p2, iv p3, iv (0 : Int32), iv (0 : Int32), iv (1 : Int32), rv a2, rv a1, iv (2 : Int32), uv, uv, uv, uv, uv, uv, uv, uv, uv]) rfl k) ?_
  refine Rch.go (U' := T1802.setTop (mkF m 285 #[iv p1, iv p2, iv p3, iv (0 : Int32), iv (0 : Int32), iv (1 : Int32), rv a2, rv a1, iv (2 : Int32), uv, uv, uv, uv, uv, uv, uv, uv, uv] [(.int (0 : Int32))])) (fun _ k => XS.iload X1802.here hx rfl (hb hby at_283) rfl  k) ?_
  have br1804 : (0 : Int32) = (0 : Int32) := (by decide)
  refine Rch.go (U' := T1802.setTop (mkF m 288 #[iv p1, iv p2, iv p3, iv (0 : Int32), iv (0 : Int32), iv (1 : Int32), rv a2, rv a1, iv (2 : Int32), uv, uv, uv, uv, uv, uv, uv, uv, uv] [])) (fun _ k => XS.ifNo X1802.here hx rfl (hb hby at_285) rfl (XT.i0_ne_f br1804) k) ?_
  refine Rch.go (U' := T1802.setTop (mkF m 289 #[iv p1, iv p2, iv p3, iv (0 : Int32), iv (0 : Int32), iv (1 : Int32), rv a2, rv a1, iv (2 : Int32), uv, uv, uv, uv, uv, uv, uv, uv, uv] [(.int (1 : Int32))])) (fun _ k => XS.iconst X1802.here hx rfl (hb hby at_288) k) ?_
  refine Rch.go (U' := T1802.setTop (mkF m 293 #[iv p1, iv p2, iv p3, iv (0 : Int32), iv (0 : Int32), iv (1 : Int32), rv a2, rv a1, iv (2 : Int32), uv, uv, uv, uv, uv, uv, uv, uv, uv] [(.int (1 : Int32))])) (fun _ k => XS.goto X1802.here hx rfl (pc0 := 289) (pc' := 293) rfl (hb hby at_289) (by decide) (by decide) k) ?_
  refine Rch.go (U' := T1802.setTop (mkF m 295 #[iv p1, iv p2, iv p3, iv (0 : Int32), iv (0 : Int32), iv (1 : Int32), rv a2, rv a1, iv (2 : Int32), iv (1 : Int32), uv, uv, uv, uv, uv, uv, uv, uv] [])) (fun _ k => XS.istore X1802.here hx rfl (hb hby at_293) rfl (l' := #[iv p1, iv p2, iv p3, iv (0 : Int32), iv (0 : Int32), iv (1 : Int32), rv a2, rv a1, iv (2 : Int32), iv (1 : Int32), uv, uv, uv, uv, uv, uv, uv, uv]) rfl k) ?_
  refine Rch.go (U' := T1802.setTop (mkF m 297 #[iv p1, iv p2, iv p3, iv (0 : Int32), iv (0 : Int32), iv (1 : Int32), rv a2, rv a1, iv (2 : Int32), iv (1 : Int32), uv, uv, uv, uv, uv, uv, uv, uv] [(.int (1 : Int32))])) (fun _ k => XS.iload X1802.here hx rfl (hb hby at_295) rfl  k) ?_
  have br1805 : ¬ ((1 : Int32) = (0 : Int32)) := (by decide)
  refine Rch.go (U' := T1802.setTop (mkF m 304 #[iv p1, iv p2, iv p3, iv (0 : Int32), iv (0 : Int32), iv (1 : Int32), rv a2, rv a1, iv (2 : Int32), iv (1 : Int32), uv, uv, uv, uv, uv, uv, uv, uv] [])) (fun _ k => XS.ifYes X1802.here hx rfl (pc0 := 297) (pc' := 304) rfl (hb hby at_297) rfl (XT.i0_ne_t br1805) (by decide) (by decide) k) ?_
  refine Rch.go (U' := T1802.setTop (mkF m 306 #[iv p1, iv p2, iv p3, iv (0 : Int32), iv (0 : Int32), iv (1 : Int32), rv a2, rv a1, iv (2 : Int32), iv (1 : Int32), uv, uv, uv, uv, uv, uv, uv, uv] [(.int (1 : Int32))])) (fun _ k => XS.iload X1802.here hx rfl (hb hby at_304) rfl  k) ?_
  refine Rch.go (U' := T1802.setTop (mkF m 308 #[iv p1, iv p2, iv p3, iv (0 : Int32), iv (0 : Int32), iv (1 : Int32), rv a2, rv a1, iv (2 : Int32), iv (1 : Int32), uv, uv, uv, uv, uv, uv, uv, uv] [(.int (2 : Int32)), (.int (1 : Int32))])) (fun _ k => XS.iload X1802.here hx rfl (hb hby at_306) rfl  k) ?_
  have br1806 : ¬ ((1 : Int32) = (2 : Int32)) := (by decide)
  refine Rch.go (U' := T1802.setTop (mkF m 315 #[iv p1, iv p2, iv p3, iv (0 : Int32), iv (0 : Int32), iv (1 : Int32), rv a2, rv a1, iv (2 : Int32), iv (1 : Int32), uv, uv, uv, uv, uv, uv, uv, uv] [])) (fun _ k => XS.icmpYes X1802.here hx rfl (pc0 := 308) (pc' := 315) rfl (hb hby at_308) rfl (XT.ii_ne_t br1806) (by decide) (by decide) k) ?_
  refine Rch.go (U' := T1802.setTop (mkF m 316 #[iv p1, iv p2, iv p3, iv (0 : Int32), iv (0 : Int32), iv (1 : Int32), rv a2, rv a1, iv (2 : Int32), iv (1 : Int32), uv, uv, uv, uv, uv, uv, uv, uv] [(.int (2 : Int32))])) (fun _ k => XS.iconst X1802.here hx rfl (hb hby at_315) k) ?_
  refine Rch.go (U' := T1802.setTop (mkF m 318 #[iv p1, iv p2, iv p3, iv (0 : Int32), iv (0 : Int32), iv (1 : Int32), rv a2, rv a1, iv (2 : Int32), iv (1 : Int32), iv (2 : Int32), uv, uv, uv, uv, uv, uv, uv] [])) (fun _ k => XS.istore X1802.here hx rfl (hb hby at_316) rfl (l' := #[iv p1, iv p2, iv p3, iv (0 : Int32), iv (0 : Int32), iv (1 : Int32), rv a2, rv a1, iv (2 : Int32), iv (1 : Int32), iv (2 : Int32), uv, uv, uv, uv, uv, uv, uv]) rfl k) ?_
  refine Rch.go (U' := T1802.setTop (mkF m 320 #[iv p1, iv p2, iv p3, iv (0 : Int32), iv (0 : Int32), iv (1 : Int32), rv a2, rv a1, iv (2 : Int32), iv (1 : Int32), iv (2 : Int32), uv, uv, uv, uv, uv, uv, uv] [(.int (2 : Int32))])) (fun _ k => XS.iload X1802.here hx rfl (hb hby at_318) rfl  k) ?_
  have br1807 : ¬ ((2 : Int32) = (0 : Int32)) := (by decide)
  refine Rch.go (U' := T1802.setTop (mkF m 337 #[iv p1, iv p2, iv p3, iv (0 : Int32), iv (0 : Int32), iv (1 : Int32), rv a2, rv a1, iv (2 : Int32), iv (1 : Int32), iv (2 : Int32), uv, uv, uv, uv, uv, uv, uv] [])) (fun _ k => XS.ifYes X1802.here hx rfl (pc0 := 320) (pc' := 337) rfl (hb hby at_320) rfl (XT.i0_ne_t br1807) (by decide) (by decide) k) ?_
  refine Rch.go (U' := T1802.setTop (mkF m 339 #[iv p1, iv p2, iv p3, iv (0 : Int32), iv (0 : Int32), iv (1 : Int32), rv a2, rv a1, iv (2 : Int32), iv (1 : Int32), iv (2 : Int32), uv, uv, uv, uv, uv, uv, uv] [(.int (2 : Int32))])) (fun _ k => XS.iload X1802.here hx rfl (hb hby at_337) rfl  k) ?_
  refine Rch.go (U' := T1802.setTop (mkF m 340 #[iv p1, iv p2, iv p3, iv (0 : Int32), iv (0 : Int32), iv (1 : Int32), rv a2, rv a1, iv (2 : Int32), iv (1 : Int32), iv (2 : Int32), uv, uv, uv, uv, uv, uv, uv] [(.int (1 : Int32)), (.int (2 : Int32))])) (fun _ k => XS.iconst X1802.here hx rfl (hb hby at_339) k) ?_
  have br1808 : ¬ ((2 : Int32) = (1 : Int32)) := (by decide)
  refine Rch.go (U' := T1802.setTop (mkF m 357 #[iv p1, iv p2, iv p3, iv (0 : Int32), iv (0 : Int32), iv (1 : Int32), rv a2, rv a1, iv (2 : Int32), iv (1 : Int32), iv (2 : Int32), uv, uv, uv, uv, uv, uv, uv] [])) (fun _ k => XS.icmpYes X1802.here hx rfl (pc0 := 340) (pc' := 357) rfl (hb hby at_340) rfl (XT.ii_ne_t br1808) (by decide) (by decide) k) ?_
  refine Rch.go (U' := T1802.setTop (mkF m 359 #[iv p1, iv p2, iv p3, iv (0 : Int32), iv (0 : Int32), iv (1 : Int32), rv a2, rv a1, iv (2 : Int32), iv (1 : Int32), iv (2 : Int32), uv, uv, uv, uv, uv, uv, uv] [(.int (2 : Int32))])) (fun _ k => XS.iload X1802.here hx rfl (hb hby at_357) rfl  k) ?_
  refine Rch.go (U' := T1802.setTop (mkF m 361 #[iv p1, iv p2, iv p3, iv (0 : Int32), iv (0 : Int32), iv (1 : Int32), rv a2, rv a1, iv (2 : Int32), iv (1 : Int32), iv (2 : Int32), iv (2 : Int32), uv, uv, uv, uv, uv, uv] [])) (fun _ k => XS.istore X1802.here hx rfl (hb hby at_359) rfl (l' := #[iv p1, iv p2, iv p3, iv (0 : Int32), iv (0 : Int32), iv (1 : Int32), rv a2, rv a1, iv (2 : Int32), iv (1 : Int32), iv (2 : Int32), iv (2 : Int32), uv, uv, uv, uv, uv, uv]) rfl k) ?_
  refine Rch.go (U' := T1802.setTop (mkF m 363 #[iv p1, iv p2, iv p3, iv (0 : Int32), iv (0 : Int32), iv (1 : Int32), rv a2, rv a1, iv (2 : Int32), iv (1 : Int32), iv (2 : Int32), iv (2 : Int32), uv, uv, uv, uv, uv, uv] [(.int (1 : Int32))])) (fun _ k => XS.iload X1802.here hx rfl (hb hby at_361) rfl  k) ?_
  refine Rch.go (U' := T1802.setTop (mkF m 365 #[iv p1, iv p2, iv p3, iv (0 : Int32), iv (0 : Int32), iv (1 : Int32), rv a2, rv a1, iv (2 : Int32), iv (1 : Int32), iv (2 : Int32), iv (2 : Int32), iv (1 : Int32), uv, uv, uv, uv, uv] [])) (fun _ k => XS.istore X1802.here hx rfl (hb hby at_363) rfl (l' := #[iv p1, iv p2, iv p3, iv (0 : Int32), iv (0 : Int32), iv (1 : Int32), rv a2, rv a1, iv (2 : Int32), iv (1 : Int32), iv (2 : Int32), iv (2 : Int32), iv (1 : Int32), uv, uv, uv, uv, uv]) rfl k) ?_
  refine Rch.go (U' := T1802.setTop (mkF m 366 #[iv p1, iv p2, iv p3, iv (0 : Int32), iv (0 : Int32), iv (1 : Int32), rv a2, rv a1, iv (2 : Int32), iv (1 : Int32), iv (2 : Int32), iv (2 : Int32), iv (1 : Int32), uv, uv, uv, uv, uv] [(.int (3 : Int32))])) (fun _ k => XS.iconst X1802.here hx rfl (hb hby at_365) k) ?_
  refine Rch.go (U' := T1802.setTop (mkF m 368 #[iv p1, iv p2, iv p3, iv (0 : Int32), iv (0 : Int32), iv (1 : Int32), rv a2, rv a1, iv (2 : Int32), iv (1 : Int32), iv (2 : Int32), iv (2 : Int32), iv (1 : Int32), iv (3 : Int32), uv, uv, uv, uv] [])) (fun _ k => XS.istore X1802.here hx rfl (hb hby at_366) rfl (l' := #[iv p1, iv p2, iv p3, iv (0 : Int32), iv (0 : Int32), iv (1 : Int32), rv a2, rv a1, iv (2 : Int32), iv (1 : Int32), iv (2 : Int32), iv (2 : Int32), iv (1 : Int32), iv (3 : Int32), uv, uv, uv, uv]) rfl k) ?_
  refine Rch.go (U' := T1802.setTop (mkF m 370 #[iv p1, iv p2, iv p3, iv (0 : Int32), iv (0 : Int32), iv (1 : Int32), rv a2, rv a1, iv (2 : Int32), iv (1 : Int32), iv (2 : Int32), iv (2 : Int32), iv (1 : Int32), iv (3 : Int32), uv, uv, uv, uv] [(.ref a1)])) (fun _ k => XS.aload X1802.here hx rfl (hb hby at_368) rfl rfl k) ?_
  refine Rch.go (U' := T1802.setTop (mkF m 371 #[iv p1, iv p2, iv p3, iv (0 : Int32), iv (0 : Int32), iv (1 : Int32), rv a2, rv a1, iv (2 : Int32), iv (1 : Int32), iv (2 : Int32), iv (2 : Int32), iv (1 : Int32), iv (3 : Int32), uv, uv, uv, uv] [(.int (2 : Int32)), (.ref a1)])) (fun _ k => XS.iconst X1802.here hx rfl (hb hby at_370) k) ?_
  obtain ⟨cq1809, kq1809, q1809a, q1809b, q1809c⟩ := isOf hZ rfl B1802.1.1
  obtain ⟨_, _, ⟨T1809, L1809, k1809, n1809⟩, -, X1809, ⟨Lc1809, hQ1809, l1809, y1809, z1809⟩, st1809⟩ := X1802.virtualBack hx (y := yc) (z := yc) hown (mvT hZ (wi hw 58 rfl)) (mvT hZ (wi hw 59 rfl)) (notFace_of_selects (args := #[]) (mvT hZ (wi hw 61 rfl))) (mvT hZ (wi hw 61 rfl)) (mvT hZ (wi hw 60 rfl)) (by decide) (backOf (W := 0) (rmCo l Z a0 hw [] a1 a2 bco bnx bpv bfb bpd bip bfi ben [0, 0, 0, 0] [2, 3, 1, -1] [-1, 2, 0, 1] [0, 0, 0, 0] [0, 0, 0, 0] [1, 0, 0, 0] (1 : Int32) (1 : Int32) (2 : Int32) T1802.heap n0 z1802 B1802 (by decide)) hZ (wi hw 62 rfl) (wi hw 29 rfl) (by decide) (by decide)) q1809a q1809c (g := (mkF m 371 #[iv p1, iv p2, iv p3, iv (0 : Int32), iv (0 : Int32), iv (1 : Int32), rv a2, rv a1, iv (2 : Int32), iv (1 : Int32), iv (2 : Int32), iv (2 : Int32), iv (1 : Int32), iv (3 : Int32), uv, uv, uv, uv] [(.int (2 : Int32)), (.ref a1)])) rfl (by rw [hml]; rfl) (Steps.refl _) (argsL := [(.int (2 : Int32))]) (rest := []) (lenOf pd_7 rfl) rfl (by show 2 * 0 + _ ≤ _; exact Nat.le_of_eq rfl) (hb hby at_371) (fun _ _ => ⟨rfl, rfl, (by decide : 15 + 0 ≤ _), (by decide : 70 + 0 ≤ _)⟩)
  dsimp only [Pt.U, Pt.locs, Pt.cells, Pt.slots] at X1809 l1809 y1809 z1809 st1809 hQ1809
  subst l1809 y1809 z1809
  obtain ⟨rfl, N1809q, e1809⟩ := hQ1809
  have N1809 := Fr.app N1802 N1809q
  refine Rch.to (U' := T1809.setTop (mkF m 374 #[iv p1, iv p2, iv p3, iv (0 : Int32), iv (0 : Int32), iv (1 : Int32), rv a2, rv a1, iv (2 : Int32), iv (1 : Int32), iv (2 : Int32), iv (2 : Int32), iv (1 : Int32), iv (3 : Int32), uv, uv, uv, uv] [(.int (own_at [0, 0, 0, 0] (2 : Int32)))])) st1809 ?_
  rw [(by decide : (own_at [0, 0, 0, 0] (2 : Int32)) = (0 : Int32))]
  have br1810 : (0 : Int32) = (0 : Int32) := (by decide)
  refine Rch.go (U' := T1809.setTop (mkF m 377 #[iv p1, iv p2, iv p3, iv (0 : Int32), iv (0 : Int32), iv (1 : Int32), rv a2, rv a1, iv (2 : Int32), iv (1 : Int32), iv (2 : Int32), iv (2 : Int32), iv (1 : Int32), iv (3 : Int32), uv, uv, uv, uv] [])) (fun _ k => XS.ifNo X1809.here hx rfl (hb hby at_374) rfl (XT.i0_ne_f br1810) k) ?_
  refine Rch.go (U' := T1809.setTop (mkF m 379 #[iv p1, iv p2, iv p3, iv (0 : Int32), iv (0 : Int32), iv (1 : Int32), rv a2, rv a1, iv (2 : Int32), iv (1 : Int32), iv (2 : Int32), iv (2 : Int32), iv (1 : Int32), iv (3 : Int32), uv, uv, uv, uv] [(.ref a1)])) (fun _ k => XS.aload X1809.here hx rfl (hb hby at_377) rfl rfl k) ?_
  refine Rch.go (U' := T1809.setTop (mkF m 380 #[iv p1, iv p2, iv p3, iv (0 : Int32), iv (0 : Int32), iv (1 : Int32), rv a2, rv a1, iv (2 : Int32), iv (1 : Int32), iv (2 : Int32), iv (2 : Int32), iv (1 : Int32), iv (3 : Int32), uv, uv, uv, uv] [(.int (3 : Int32)), (.ref a1)])) (fun _ k => XS.iconst X1809.here hx rfl (hb hby at_379) k) ?_
  obtain ⟨cq1811, kq1811, q1811a, q1811b, q1811c⟩ := isOf hZ e1809 B1802.1.1
  obtain ⟨_, _, ⟨T1811, L1811, k1811, n1811⟩, -, X1811, ⟨Lc1811, hQ1811, l1811, y1811, z1811⟩, st1811⟩ := X1809.virtualBack hx (y := yc) (z := yc) hown (mvT hZ (wi hw 58 rfl)) (mvT hZ (wi hw 59 rfl)) (notFace_of_selects (args := #[]) (mvT hZ (wi hw 61 rfl))) (mvT hZ (wi hw 61 rfl)) (mvT hZ (wi hw 60 rfl)) (by decide) (backOf (W := 0) (rmCo l Z a0 hw [] a1 a2 bco bnx bpv bfb bpd bip bfi ben [0, 0, 0, 0] [2, 3, 1, -1] [-1, 2, 0, 1] [0, 0, 0, 0] [0, 0, 0, 0] [1, 0, 0, 0] (1 : Int32) (1 : Int32) (3 : Int32) T1802.heap n0 z1802 B1802 (by decide)) hZ (wi hw 62 rfl) (wi hw 29 rfl) (by decide) (by decide)) q1811a q1811c (g := (mkF m 380 #[iv p1, iv p2, iv p3, iv (0 : Int32), iv (0 : Int32), iv (1 : Int32), rv a2, rv a1, iv (2 : Int32), iv (1 : Int32), iv (2 : Int32), iv (2 : Int32), iv (1 : Int32), iv (3 : Int32), uv, uv, uv, uv] [(.int (3 : Int32)), (.ref a1)])) rfl (by rw [hml]; rfl) (Steps.refl _) (argsL := [(.int (3 : Int32))]) (rest := []) (lenOf pd_7 rfl) rfl (by show 2 * 0 + _ ≤ _; exact Nat.le_of_eq rfl) (hb hby at_380) (fun _ _ => ⟨rfl, e1809, (by decide : 15 + 0 ≤ _), (by decide : 70 + 0 ≤ _)⟩)
  dsimp only [Pt.U, Pt.locs, Pt.cells, Pt.slots] at X1811 l1811 y1811 z1811 st1811 hQ1811
  subst l1811 y1811 z1811
  obtain ⟨rfl, N1811q, e1811⟩ := hQ1811
  have N1811 := Fr.app N1809 N1811q
  refine Rch.to (U' := T1811.setTop (mkF m 383 #[iv p1, iv p2, iv p3, iv (0 : Int32), iv (0 : Int32), iv (1 : Int32), rv a2, rv a1, iv (2 : Int32), iv (1 : Int32), iv (2 : Int32), iv (2 : Int32), iv (1 : Int32), iv (3 : Int32), uv, uv, uv, uv] [(.int (own_at [0, 0, 0, 0] (3 : Int32)))])) st1811 ?_
  rw [(by decide : (own_at [0, 0, 0, 0] (3 : Int32)) = (0 : Int32))]
  have br1812 : (0 : Int32) = (0 : Int32) := (by decide)
  refine Rch.go (U' := T1811.setTop (mkF m 386 #[iv p1, iv p2, iv p3, iv (0 : Int32), iv (0 : Int32), iv (1 : Int32), rv a2, rv a1, iv (2 : Int32), iv (1 : Int32), iv (2 : Int32), iv (2 : Int32), iv (1 : Int32), iv (3 : Int32), uv, uv, uv, uv] [])) (fun _ k => XS.ifNo X1811.here hx rfl (hb hby at_383) rfl (XT.i0_ne_f br1812) k) ?_
  refine Rch.go (U' := T1811.setTop (mkF m 388 #[iv p1, iv p2, iv p3, iv (0 : Int32), iv (0 : Int32), iv (1 : Int32), rv a2, rv a1, iv (2 : Int32), iv (1 : Int32), iv (2 : Int32), iv (2 : Int32), iv (1 : Int32), iv (3 : Int32), uv, uv, uv, uv] [(.ref a1)])) (fun _ k => XS.aload X1811.here hx rfl (hb hby at_386) rfl rfl k) ?_
  obtain ⟨cq1813, kq1813, q1813a, q1813b, q1813c⟩ := isOf hZ e1811 B1802.1.1
  obtain ⟨_, _, ⟨T1813, L1813, k1813, n1813⟩, -, X1813, ⟨Lc1813, hQ1813, l1813, y1813, z1813⟩, st1813⟩ := X1811.virtualBack hx (y := yhs) (z := yhs) hown (mvT hZ (wi hw 63 rfl)) (mvT hZ (wi hw 64 rfl)) (notFace_of_selects (args := #[]) (mvT hZ (wi hw 66 rfl))) (mvT hZ (wi hw 66 rfl)) (mvT hZ (wi hw 65 rfl)) (by decide) (backOf (W := 0) (rmHs l Z a0 hw [] a1 a2 bco bnx bpv bfb bpd bip bfi ben [0, 0, 0, 0] [2, 3, 1, -1] [-1, 2, 0, 1] [0, 0, 0, 0] [0, 0, 0, 0] [1, 0, 0, 0] (1 : Int32) (1 : Int32)  T1802.heap n0 z1802 B1802 ) hZ (wi hw 67 rfl) (wi hw 29 rfl) (by decide) (by decide)) q1813a q1813c (g := (mkF m 388 #[iv p1, iv p2, iv p3, iv (0 : Int32), iv (0 : Int32), iv (1 : Int32), rv a2, rv a1, iv (2 : Int32), iv (1 : Int32), iv (2 : Int32), iv (2 : Int32), iv (1 : Int32), iv (3 : Int32), uv, uv, uv, uv] [(.ref a1)])) rfl (by rw [hml]; rfl) (Steps.refl _) (argsL := []) (rest := []) (lenOf pd_15 rfl) rfl (by show 2 * 0 + _ ≤ _; exact Nat.le_of_eq rfl) (hb hby at_388) (fun _ _ => ⟨rfl, e1811, (by decide : 15 + 0 ≤ _), (by decide : 70 + 0 ≤ _)⟩)
  dsimp only [Pt.U, Pt.locs, Pt.cells, Pt.slots] at X1813 l1813 y1813 z1813 st1813 hQ1813
  subst l1813 y1813 z1813
  obtain ⟨rfl, N1813q, e1813⟩ := hQ1813
  have N1813 := Fr.app N1811 N1813q
  refine Rch.to (U' := T1813.setTop (mkF m 391 #[iv p1, iv p2, iv p3, iv (0 : Int32), iv (0 : Int32), iv (1 : Int32), rv a2, rv a1, iv (2 : Int32), iv (1 : Int32), iv (2 : Int32), iv (2 : Int32), iv (1 : Int32), iv (3 : Int32), uv, uv, uv, uv] [(.int (own_pos (1 : Int32)))])) st1813 ?_
  rw [(by decide : (own_pos (1 : Int32)) = (1 : Int32))]
  have br1814 : ¬ ((1 : Int32) = (0 : Int32)) := (by decide)
  refine Rch.go (U' := T1813.setTop (mkF m 394 #[iv p1, iv p2, iv p3, iv (0 : Int32), iv (0 : Int32), iv (1 : Int32), rv a2, rv a1, iv (2 : Int32), iv (1 : Int32), iv (2 : Int32), iv (2 : Int32), iv (1 : Int32), iv (3 : Int32), uv, uv, uv, uv] [])) (fun _ k => XS.ifNo X1813.here hx rfl (hb hby at_391) rfl (XT.i0_eq_f br1814) k) ?_
  refine Rch.go (U' := T1813.setTop (mkF m 396 #[iv p1, iv p2, iv p3, iv (0 : Int32), iv (0 : Int32), iv (1 : Int32), rv a2, rv a1, iv (2 : Int32), iv (1 : Int32), iv (2 : Int32), iv (2 : Int32), iv (1 : Int32), iv (3 : Int32), uv, uv, uv, uv] [(.ref a1)])) (fun _ k => XS.aload X1813.here hx rfl (hb hby at_394) rfl rfl k) ?_
  obtain ⟨cq1815, kq1815, q1815a, q1815b, q1815c⟩ := isOf hZ e1813 B1802.1.1
  obtain ⟨_, _, ⟨T1815, L1815, k1815, n1815⟩, -, X1815, ⟨Lc1815, hQ1815, l1815, y1815, z1815⟩, st1815⟩ := X1813.virtualBack hx (y := yns) (z := yns) hown (mvT hZ (wi hw 68 rfl)) (mvT hZ (wi hw 69 rfl)) (notFace_of_selects (args := #[]) (mvT hZ (wi hw 71 rfl))) (mvT hZ (wi hw 71 rfl)) (mvT hZ (wi hw 70 rfl)) (by decide) (backOf (W := 0) (rmNs l Z a0 hw [] a1 a2 bco bnx bpv bfb bpd bip bfi ben [0, 0, 0, 0] [2, 3, 1, -1] [-1, 2, 0, 1] [0, 0, 0, 0] [0, 0, 0, 0] [1, 0, 0, 0] (1 : Int32) (1 : Int32)  T1802.heap n0 z1802 B1802 (by decide)) hZ (wi hw 72 rfl) (wi hw 29 rfl) (by decide) (by decide)) q1815a q1815c (g := (mkF m 396 #[iv p1, iv p2, iv p3, iv (0 : Int32), iv (0 : Int32), iv (1 : Int32), rv a2, rv a1, iv (2 : Int32), iv (1 : Int32), iv (2 : Int32), iv (2 : Int32), iv (1 : Int32), iv (3 : Int32), uv, uv, uv, uv] [(.ref a1)])) rfl (by rw [hml]; rfl) (Steps.refl _) (argsL := []) (rest := []) (lenOf pd_14 rfl) rfl (by show 2 * 0 + _ ≤ _; exact Nat.le_of_eq rfl) (hb hby at_396) (fun _ _ => ⟨rfl, e1813, (by decide : 15 + 0 ≤ _), (by decide : 70 + 0 ≤ _)⟩)
  dsimp only [Pt.U, Pt.locs, Pt.cells, Pt.slots] at X1815 l1815 y1815 z1815 st1815 hQ1815
  subst l1815 y1815 z1815
  obtain ⟨rfl, N1815q, e1815⟩ := hQ1815
  have N1815 := Fr.app N1813 N1815q
  refine Rch.to (U' := T1815.setTop (mkF m 399 #[iv p1, iv p2, iv p3, iv (0 : Int32), iv (0 : Int32), iv (1 : Int32), rv a2, rv a1, iv (2 : Int32), iv (1 : Int32), iv (2 : Int32), iv (2 : Int32), iv (1 : Int32), iv (3 : Int32), uv, uv, uv, uv] [(.int (own_at [0, 0, 0, 0] ((1 : Int32) - (1 : Int32))))])) st1815 ?_
  rw [(by decide : (own_at [0, 0, 0, 0] ((1 : Int32) - (1 : Int32))) = (0 : Int32))]
  have br1816 : (0 : Int32) = (0 : Int32) := (by decide)
  refine Rch.go (U' := T1815.setTop (mkF m 402 #[iv p1, iv p2, iv p3, iv (0 : Int32), iv (0 : Int32), iv (1 : Int32), rv a2, rv a1, iv (2 : Int32), iv (1 : Int32), iv (2 : Int32), iv (2 : Int32), iv (1 : Int32), iv (3 : Int32), uv, uv, uv, uv] [])) (fun _ k => XS.ifNo X1815.here hx rfl (hb hby at_399) rfl (XT.i0_ne_f br1816) k) ?_
  refine Rch.go (U' := T1815.setTop (mkF m 403 #[iv p1, iv p2, iv p3, iv (0 : Int32), iv (0 : Int32), iv (1 : Int32), rv a2, rv a1, iv (2 : Int32), iv (1 : Int32), iv (2 : Int32), iv (2 : Int32), iv (1 : Int32), iv (3 : Int32), uv, uv, uv, uv] [(.int (1 : Int32))])) (fun _ k => XS.iconst X1815.here hx rfl (hb hby at_402) k) ?_
  refine Rch.go (U' := T1815.setTop (mkF m 407 #[iv p1, iv p2, iv p3, iv (0 : Int32), iv (0 : Int32), iv (1 : Int32), rv a2, rv a1, iv (2 : Int32), iv (1 : Int32), iv (2 : Int32), iv (2 : Int32), iv (1 : Int32), iv (3 : Int32), uv, uv, uv, uv] [(.int (1 : Int32))])) (fun _ k => XS.goto X1815.here hx rfl (pc0 := 403) (pc' := 407) rfl (hb hby at_403) (by decide) (by decide) k) ?_
  refine Rch.go (U' := T1815.setTop (mkF m 409 #[iv p1, iv p2, iv p3, iv (0 : Int32), iv (0 : Int32), iv (1 : Int32), rv a2, rv a1, iv (2 : Int32), iv (1 : Int32), iv (2 : Int32), iv (2 : Int32), iv (1 : Int32), iv (3 : Int32), iv (1 : Int32), uv, uv, uv] [])) (fun _ k => XS.istore X1815.here hx rfl (hb hby at_407) rfl (l' := #[iv p1, iv p2, iv p3, iv (0 : Int32), iv (0 : Int32), iv (1 : Int32), rv a2, rv a1, iv (2 : Int32), iv (1 : Int32), iv (2 : Int32), iv (2 : Int32), iv (1 : Int32), iv (3 : Int32), iv (1 : Int32), uv, uv, uv]) rfl k) ?_
  refine Rch.go (U' := T1815.setTop (mkF m 411 #[iv p1, iv p2, iv p3, iv (0 : Int32), iv (0 : Int32), iv (1 : Int32), rv a2, rv a1, iv (2 : Int32), iv (1 : Int32), iv (2 : Int32), iv (2 : Int32), iv (1 : Int32), iv (3 : Int32), iv (1 : Int32), uv, uv, uv] [(.int (1 : Int32))])) (fun _ k => XS.iload X1815.here hx rfl (hb hby at_409) rfl  k) ?_
  have br1817 : ¬ ((1 : Int32) = (0 : Int32)) := (by decide)
  refine Rch.go (U' := T1815.setTop (mkF m 416 #[iv p1, iv p2, iv p3, iv (0 : Int32), iv (0 : Int32), iv (1 : Int32), rv a2, rv a1, iv (2 : Int32), iv (1 : Int32), iv (2 : Int32), iv (2 : Int32), iv (1 : Int32), iv (3 : Int32), iv (1 : Int32), uv, uv, uv] [])) (fun _ k => XS.ifYes X1815.here hx rfl (pc0 := 411) (pc' := 416) rfl (hb hby at_411) rfl (XT.i0_ne_t br1817) (by decide) (by decide) k) ?_
  refine Rch.go (U' := T1815.setTop (mkF m 418 #[iv p1, iv p2, iv p3, iv (0 : Int32), iv (0 : Int32), iv (1 : Int32), rv a2, rv a1, iv (2 : Int32), iv (1 : Int32), iv (2 : Int32), iv (2 : Int32), iv (1 : Int32), iv (3 : Int32), iv (1 : Int32), uv, uv, uv] [(.ref a1)])) (fun _ k => XS.aload X1815.here hx rfl (hb hby at_416) rfl rfl k) ?_
  obtain ⟨cq1818, kq1818, q1818a, q1818b, q1818c⟩ := isOf hZ e1815 B1802.1.1
  obtain ⟨_, _, ⟨T1818, L1818, k1818, n1818⟩, -, X1818, ⟨Lc1818, hQ1818, l1818, y1818, z1818⟩, st1818⟩ := X1815.virtualBack hx (y := yt) (z := yt) hown (mvT hZ (wi hw 73 rfl)) (mvT hZ (wi hw 74 rfl)) (notFace_of_selects (args := #[]) (mvT hZ (wi hw 76 rfl))) (mvT hZ (wi hw 76 rfl)) (mvT hZ (wi hw 75 rfl)) (by decide) (backOf (W := 0) (rmT l Z a0 hw [] a1 a2 bco bnx bpv bfb bpd bip bfi ben [0, 0, 0, 0] [2, 3, 1, -1] [-1, 2, 0, 1] [0, 0, 0, 0] [0, 0, 0, 0] [1, 0, 0, 0] (1 : Int32) (1 : Int32) T1802.heap n0 z1802 B1802 (by decide)) hZ (wi hw 77 rfl) (wi hw 29 rfl) (by decide) (by decide)) q1818a q1818c (g := (mkF m 418 #[iv p1, iv p2, iv p3, iv (0 : Int32), iv (0 : Int32), iv (1 : Int32), rv a2, rv a1, iv (2 : Int32), iv (1 : Int32), iv (2 : Int32), iv (2 : Int32), iv (1 : Int32), iv (3 : Int32), iv (1 : Int32), uv, uv, uv] [(.ref a1)])) rfl (by rw [hml]; rfl) (Steps.refl _) (argsL := []) (rest := []) (lenOf pd_14 rfl) rfl (by show 2 * 0 + _ ≤ _; exact Nat.le_of_eq rfl) (hb hby at_418) (fun _ _ => ⟨rfl, e1815, (by decide : 15 + 0 ≤ _), (by decide : 70 + 0 ≤ _)⟩)
  dsimp only [Pt.U, Pt.locs, Pt.cells, Pt.slots] at X1818 l1818 y1818 z1818 st1818 hQ1818
  subst l1818 y1818 z1818
  obtain ⟨rfl, N1818q, z1818, C1818⟩ := hQ1818
  have N1818 := Fr.app N1815 N1818q
  rw [(by rfl : own_take [0, 0, 0, 0] [2, 3, 1, -1] [-1, 2, 0, 1] [0, 0, 0, 0] [0, 0, 0, 0] [1, 0, 0, 0] (1 : Int32) (1 : Int32) = ([0, 0, 1, 0], [1, 3, -1, -1], [-1, 0, -1, 1], [0, 2, 0, 0], [0, 0, 0, 0], [1, 0, 0, 0], (2 : Int32), (1 : Int32)))] at C1818
  have B1818 : Cb Z T1818.heap n0 a1 a2 bco bnx bpv bfb bpd bip bfi ben [0, 0, 1, 0] [1, 3, -1, -1] [-1, 0, -1, 1] [0, 2, 0, 0] [0, 0, 0, 0] [1, 0, 0, 0] (2 : Int32) (1 : Int32) := C1818
  refine Rch.to (U' := T1818.setTop (mkF m 421 #[iv p1, iv p2, iv p3, iv (0 : Int32), iv (0 : Int32), iv (1 : Int32), rv a2, rv a1, iv (2 : Int32), iv (1 : Int32), iv (2 : Int32), iv (2 : Int32), iv (1 : Int32), iv (3 : Int32), iv (1 : Int32), uv, uv, uv] [(.int (own_sp [2, 3, 1, -1] [0, 0, 0, 0] [0, 0, 0, 0] (1 : Int32)))])) st1818 ?_
  rw [(by decide : own_sp [2, 3, 1, -1] [0, 0, 0, 0] [0, 0, 0, 0] (1 : Int32) = (2 : Int32))]
  refine Rch.go (U' := T1818.setTop (mkF m 423 #[iv p1, iv p2, iv p3, iv (0 : Int32), iv (0 : Int32), iv (1 : Int32), rv a2, rv a1, iv (2 : Int32), iv (1 : Int32), iv (2 : Int32), iv (2 : Int32), iv (1 : Int32), iv (3 : Int32), iv (1 : Int32), iv (2 : Int32), uv, uv] [])) (fun _ k => XS.istore X1818.here hx rfl (hb hby at_421) rfl (l' := #[iv p1, iv p2, iv p3, iv (0 : Int32), iv (0 : Int32), iv (1 : Int32), rv a2, rv a1, iv (2 : Int32), iv (1 : Int32), iv (2 : Int32), iv (2 : Int32), iv (1 : Int32), iv (3 : Int32), iv (1 : Int32), iv (2 : Int32), uv, uv]) rfl k) ?_
  refine Rch.go (U' := T1818.setTop (mkF m 425 #[iv p1, iv p2, iv p3, iv (0 : Int32), iv (0 : Int32), iv (1 : Int32), rv a2, rv a1, iv (2 : Int32), iv (1 : Int32), iv (2 : Int32), iv (2 : Int32), iv (1 : Int32), iv (3 : Int32), iv (1 : Int32), iv (2 : Int32), uv, uv] [(.ref a1)])) (fun _ k => XS.aload X1818.here hx rfl (hb hby at_423) rfl rfl k) ?_
  obtain ⟨cq1819, kq1819, q1819a, q1819b, q1819c⟩ := isOf hZ rfl B1818.1.1
  obtain ⟨_, _, ⟨T1819, L1819, k1819, n1819⟩, -, X1819, ⟨Lc1819, hQ1819, l1819, y1819, z1819⟩, st1819⟩ := X1818.virtualBack hx (y := yt) (z := yt) hown (mvT hZ (wi hw 73 rfl)) (mvT hZ (wi hw 74 rfl)) (notFace_of_selects (args := #[]) (mvT hZ (wi hw 76 rfl))) (mvT hZ (wi hw 76 rfl)) (mvT hZ (wi hw 75 rfl)) (by decide) (backOf (W := 0) (rmT l Z a0 hw [] a1 a2 bco bnx bpv bfb bpd bip bfi ben [0, 0, 1, 0] [1, 3, -1, -1] [-1, 0, -1, 1] [0, 2, 0, 0] [0, 0, 0, 0] [1, 0, 0, 0] (2 : Int32) (1 : Int32) T1818.heap n0 z1818 B1818 (by decide)) hZ (wi hw 77 rfl) (wi hw 29 rfl) (by decide) (by decide)) q1819a q1819c (g := (mkF m 425 #[iv p1, iv p2, iv p3, iv (0 : Int32), iv (0 : Int32), iv (1 : Int32), rv a2, rv a1, iv (2 : Int32), iv (1 : Int32), iv (2 : Int32), iv (2 : Int32), iv (1 : Int32), iv (3 : Int32), iv (1 : Int32), iv (2 : Int32), uv, uv] [(.ref a1)])) rfl (by rw [hml]; rfl) (Steps.refl _) (argsL := []) (rest := []) (lenOf pd_14 rfl) rfl (by show 2 * 0 + _ ≤ _; exact Nat.le_of_eq rfl) (hb hby at_425) (fun _ _ => ⟨rfl, rfl, (by decide : 15 + 0 ≤ _), (by decide : 70 + 0 ≤ _)⟩)
  dsimp only [Pt.U, Pt.locs, Pt.cells, Pt.slots] at X1819 l1819 y1819 z1819 st1819 hQ1819
  subst l1819 y1819 z1819
  obtain ⟨rfl, N1819q, z1819, C1819⟩ := hQ1819
  have N1819 := Fr.app N1818 N1819q
  rw [(by rfl : own_take [0, 0, 1, 0] [1, 3, -1, -1] [-1, 0, -1, 1] [0, 2, 0, 0] [0, 0, 0, 0] [1, 0, 0, 0] (2 : Int32) (1 : Int32) = ([0, 2, 1, 0], [3, -1, -1, -1], [-1, -1, -1, 0], [0, 2, 1, 0], [0, 0, 0, 0], [1, 0, 0, 0], (3 : Int32), (1 : Int32)))] at C1819
  have B1819 : Cb Z T1819.heap n0 a1 a2 bco bnx bpv bfb bpd bip bfi ben [0, 2, 1, 0] [3, -1, -1, -1] [-1, -1, -1, 0] [0, 2, 1, 0] [0, 0, 0, 0] [1, 0, 0, 0] (3 : Int32) (1 : Int32) := C1819
  refine Rch.to (U' := T1819.setTop (mkF m 428 #[iv p1, iv p2, iv p3, iv (0 : Int32), iv (0 : Int32), iv (1 : Int32), rv a2, rv a1, iv (2 : Int32), iv (1 : Int32), iv (2 : Int32), iv (2 : Int32), iv (1 : Int32), iv (3 : Int32), iv (1 : Int32), iv (2 : Int32), uv, uv] [(.int (own_sp [1, 3, -1, -1] [0, 2, 0, 0] [0, 0, 0, 0] (1 : Int32)))])) st1819 ?_
  rw [(by decide : own_sp [1, 3, -1, -1] [0, 2, 0, 0] [0, 0, 0, 0] (1 : Int32) = (1 : Int32))]
  refine Rch.go (U' := T1819.setTop (mkF m 430 #[iv p1, iv p2, iv p3, iv (0 : Int32), iv (0 : Int32), iv (1 : Int32), rv a2, rv a1, iv (2 : Int32), iv (1 : Int32), iv (2 : Int32), iv (2 : Int32), iv (1 : Int32), iv (3 : Int32), iv (1 : Int32), iv (2 : Int32), iv (1 : Int32), uv] [])) (fun _ k => XS.istore X1819.here hx rfl (hb hby at_428) rfl (l' := #[iv p1, iv p2, iv p3, iv (0 : Int32), iv (0 : Int32), iv (1 : Int32), rv a2, rv a1, iv (2 : Int32), iv (1 : Int32), iv (2 : Int32), iv (2 : Int32), iv (1 : Int32), iv (3 : Int32), iv (1 : Int32), iv (2 : Int32), iv (1 : Int32), uv]) rfl k) ?_
  refine Rch.go (U' := T1819.setTop (mkF m 432 #[iv p1, iv p2, iv p3, iv (0 : Int32), iv (0 : Int32), iv (1 : Int32), rv a2, rv a1, iv (2 : Int32), iv (1 : Int32), iv (2 : Int32), iv (2 : Int32), iv (1 : Int32), iv (3 : Int32), iv (1 : Int32), iv (2 : Int32), iv (1 : Int32), uv] [(.ref a1)])) (fun _ k => XS.aload X1819.here hx rfl (hb hby at_430) rfl rfl k) ?_
  obtain ⟨cq1820, kq1820, q1820a, q1820b, q1820c⟩ := isOf hZ rfl B1819.1.1
  obtain ⟨_, _, ⟨T1820, L1820, k1820, n1820⟩, -, X1820, ⟨Lc1820, hQ1820, l1820, y1820, z1820⟩, st1820⟩ := X1819.virtualBack hx (y := yt) (z := yt) hown (mvT hZ (wi hw 73 rfl)) (mvT hZ (wi hw 74 rfl)) (notFace_of_selects (args := #[]) (mvT hZ (wi hw 76 rfl))) (mvT hZ (wi hw 76 rfl)) (mvT hZ (wi hw 75 rfl)) (by decide) (backOf (W := 0) (rmT l Z a0 hw [] a1 a2 bco bnx bpv bfb bpd bip bfi ben [0, 2, 1, 0] [3, -1, -1, -1] [-1, -1, -1, 0] [0, 2, 1, 0] [0, 0, 0, 0] [1, 0, 0, 0] (3 : Int32) (1 : Int32) T1819.heap n0 z1819 B1819 (by decide)) hZ (wi hw 77 rfl) (wi hw 29 rfl) (by decide) (by decide)) q1820a q1820c (g := (mkF m 432 #[iv p1, iv p2, iv p3, iv (0 : Int32), iv (0 : Int32), iv (1 : Int32), rv a2, rv a1, iv (2 : Int32), iv (1 : Int32), iv (2 : Int32), iv (2 : Int32), iv (1 : Int32), iv (3 : Int32), iv (1 : Int32), iv (2 : Int32), iv (1 : Int32), uv] [(.ref a1)])) rfl (by rw [hml]; rfl) (Steps.refl _) (argsL := []) (rest := []) (lenOf pd_14 rfl) rfl (by show 2 * 0 + _ ≤ _; exact Nat.le_of_eq rfl) (hb hby at_432) (fun _ _ => ⟨rfl, rfl, (by decide : 15 + 0 ≤ _), (by decide : 70 + 0 ≤ _)⟩)
  dsimp only [Pt.U, Pt.locs, Pt.cells, Pt.slots] at X1820 l1820 y1820 z1820 st1820 hQ1820
  subst l1820 y1820 z1820
  obtain ⟨rfl, N1820q, z1820, C1820⟩ := hQ1820
  have N1820 := Fr.app N1819 N1820q
  rw [(by rfl : own_take [0, 2, 1, 0] [3, -1, -1, -1] [-1, -1, -1, 0] [0, 2, 1, 0] [0, 0, 0, 0] [1, 0, 0, 0] (3 : Int32) (1 : Int32) = ([0, 2, 1, 3], [-1, -1, -1, -1], [-1, -1, -1, -1], [0, 2, 1, 3], [0, 0, 0, 0], [0, 0, 0, 0], (4 : Int32), (0 : Int32)))] at C1820
  have B1820 : Cb Z T1820.heap n0 a1 a2 bco bnx bpv bfb bpd bip bfi ben [0, 2, 1, 3] [-1, -1, -1, -1] [-1, -1, -1, -1] [0, 2, 1, 3] [0, 0, 0, 0] [0, 0, 0, 0] (4 : Int32) (0 : Int32) := C1820
  refine Rch.to (U' := T1820.setTop (mkF m 435 #[iv p1, iv p2, iv p3, iv (0 : Int32), iv (0 : Int32), iv (1 : Int32), rv a2, rv a1, iv (2 : Int32), iv (1 : Int32), iv (2 : Int32), iv (2 : Int32), iv (1 : Int32), iv (3 : Int32), iv (1 : Int32), iv (2 : Int32), iv (1 : Int32), uv] [(.int (own_sp [3, -1, -1, -1] [0, 2, 1, 0] [0, 0, 0, 0] (1 : Int32)))])) st1820 ?_
  rw [(by decide : own_sp [3, -1, -1, -1] [0, 2, 1, 0] [0, 0, 0, 0] (1 : Int32) = (3 : Int32))]
  refine Rch.go (U' := T1820.setTop (mkF m 437 #[iv p1, iv p2, iv p3, iv (0 : Int32), iv (0 : Int32), iv (1 : Int32), rv a2, rv a1, iv (2 : Int32), iv (1 : Int32), iv (2 : Int32), iv (2 : Int32), iv (1 : Int32), iv (3 : Int32), iv (1 : Int32), iv (2 : Int32), iv (1 : Int32), iv (3 : Int32)] [])) (fun _ k => XS.istore X1820.here hx rfl (hb hby at_435) rfl (l' := #[iv p1, iv p2, iv p3, iv (0 : Int32), iv (0 : Int32), iv (1 : Int32), rv a2, rv a1, iv (2 : Int32), iv (1 : Int32), iv (2 : Int32), iv (2 : Int32), iv (1 : Int32), iv (3 : Int32), iv (1 : Int32), iv (2 : Int32), iv (1 : Int32), iv (3 : Int32)]) rfl k) ?_
  refine Rch.go (U' := T1820.setTop (mkF m 439 #[iv p1, iv p2, iv p3, iv (0 : Int32), iv (0 : Int32), iv (1 : Int32), rv a2, rv a1, iv (2 : Int32), iv (1 : Int32), iv (2 : Int32), iv (2 : Int32), iv (1 : Int32), iv (3 : Int32), iv (1 : Int32), iv (2 : Int32), iv (1 : Int32), iv (3 : Int32)] [(.int (2 : Int32))])) (fun _ k => XS.iload X1820.here hx rfl (hb hby at_437) rfl  k) ?_
  refine Rch.go (U' := T1820.setTop (mkF m 441 #[iv p1, iv p2, iv p3, iv (0 : Int32), iv (0 : Int32), iv (1 : Int32), rv a2, rv a1, iv (2 : Int32), iv (1 : Int32), iv (2 : Int32), iv (2 : Int32), iv (1 : Int32), iv (3 : Int32), iv (1 : Int32), iv (2 : Int32), iv (1 : Int32), iv (3 : Int32)] [(.int (2 : Int32)), (.int (2 : Int32))])) (fun _ k => XS.iload X1820.here hx rfl (hb hby at_439) rfl  k) ?_
  have br1821 : (2 : Int32) = (2 : Int32) := (by decide)
  refine Rch.go (U' := T1820.setTop (mkF m 444 #[iv p1, iv p2, iv p3, iv (0 : Int32), iv (0 : Int32), iv (1 : Int32), rv a2, rv a1, iv (2 : Int32), iv (1 : Int32), iv (2 : Int32), iv (2 : Int32), iv (1 : Int32), iv (3 : Int32), iv (1 : Int32), iv (2 : Int32), iv (1 : Int32), iv (3 : Int32)] [])) (fun _ k => XS.icmpNo X1820.here hx rfl (hb hby at_441) rfl (XT.ii_ne_f br1821) k) ?_
  refine Rch.go (U' := T1820.setTop (mkF m 446 #[iv p1, iv p2, iv p3, iv (0 : Int32), iv (0 : Int32), iv (1 : Int32), rv a2, rv a1, iv (2 : Int32), iv (1 : Int32), iv (2 : Int32), iv (2 : Int32), iv (1 : Int32), iv (3 : Int32), iv (1 : Int32), iv (2 : Int32), iv (1 : Int32), iv (3 : Int32)] [(.int (1 : Int32))])) (fun _ k => XS.iload X1820.here hx rfl (hb hby at_444) rfl  k) ?_
  refine Rch.go (U' := T1820.setTop (mkF m 448 #[iv p1, iv p2, iv p3, iv (0 : Int32), iv (0 : Int32), iv (1 : Int32), rv a2, rv a1, iv (2 : Int32), iv (1 : Int32), iv (2 : Int32), iv (2 : Int32), iv (1 : Int32), iv (3 : Int32), iv (1 : Int32), iv (2 : Int32), iv (1 : Int32), iv (3 : Int32)] [(.int (1 : Int32)), (.int (1 : Int32))])) (fun _ k => XS.iload X1820.here hx rfl (hb hby at_446) rfl  k) ?_
  have br1822 : (1 : Int32) = (1 : Int32) := (by decide)
  refine Rch.go (U' := T1820.setTop (mkF m 451 #[iv p1, iv p2, iv p3, iv (0 : Int32), iv (0 : Int32), iv (1 : Int32), rv a2, rv a1, iv (2 : Int32), iv (1 : Int32), iv (2 : Int32), iv (2 : Int32), iv (1 : Int32), iv (3 : Int32), iv (1 : Int32), iv (2 : Int32), iv (1 : Int32), iv (3 : Int32)] [])) (fun _ k => XS.icmpNo X1820.here hx rfl (hb hby at_448) rfl (XT.ii_ne_f br1822) k) ?_
  refine Rch.go (U' := T1820.setTop (mkF m 453 #[iv p1, iv p2, iv p3, iv (0 : Int32), iv (0 : Int32), iv (1 : Int32), rv a2, rv a1, iv (2 : Int32), iv (1 : Int32), iv (2 : Int32), iv (2 : Int32), iv (1 : Int32), iv (3 : Int32), iv (1 : Int32), iv (2 : Int32), iv (1 : Int32), iv (3 : Int32)] [(.int (3 : Int32))])) (fun _ k => XS.iload X1820.here hx rfl (hb hby at_451) rfl  k) ?_
  refine Rch.go (U' := T1820.setTop (mkF m 455 #[iv p1, iv p2, iv p3, iv (0 : Int32), iv (0 : Int32), iv (1 : Int32), rv a2, rv a1, iv (2 : Int32), iv (1 : Int32), iv (2 : Int32), iv (2 : Int32), iv (1 : Int32), iv (3 : Int32), iv (1 : Int32), iv (2 : Int32), iv (1 : Int32), iv (3 : Int32)] [(.int (3 : Int32)), (.int (3 : Int32))])) (fun _ k => XS.iload X1820.here hx rfl (hb hby at_453) rfl  k) ?_
  have br1823 : (3 : Int32) = (3 : Int32) := (by decide)
  refine Rch.go (U' := T1820.setTop (mkF m 458 #[iv p1, iv p2, iv p3, iv (0 : Int32), iv (0 : Int32), iv (1 : Int32), rv a2, rv a1, iv (2 : Int32), iv (1 : Int32), iv (2 : Int32), iv (2 : Int32), iv (1 : Int32), iv (3 : Int32), iv (1 : Int32), iv (2 : Int32), iv (1 : Int32), iv (3 : Int32)] [])) (fun _ k => XS.icmpNo X1820.here hx rfl (hb hby at_455) rfl (XT.ii_ne_f br1823) k) ?_
  refine Rch.go (U' := T1820.setTop (mkF m 460 #[iv p1, iv p2, iv p3, iv (0 : Int32), iv (0 : Int32), iv (1 : Int32), rv a2, rv a1, iv (2 : Int32), iv (1 : Int32), iv (2 : Int32), iv (2 : Int32), iv (1 : Int32), iv (3 : Int32), iv (1 : Int32), iv (2 : Int32), iv (1 : Int32), iv (3 : Int32)] [(.ref a1)])) (fun _ k => XS.aload X1820.here hx rfl (hb hby at_458) rfl rfl k) ?_
  obtain ⟨cq1824, kq1824, q1824a, q1824b, q1824c⟩ := isOf hZ rfl B1820.1.1
  obtain ⟨_, _, ⟨T1824, L1824, k1824, n1824⟩, -, X1824, ⟨Lc1824, hQ1824, l1824, y1824, z1824⟩, st1824⟩ := X1820.virtualBack hx (y := yhs) (z := yhs) hown (mvT hZ (wi hw 63 rfl)) (mvT hZ (wi hw 64 rfl)) (notFace_of_selects (args := #[]) (mvT hZ (wi hw 66 rfl))) (mvT hZ (wi hw 66 rfl)) (mvT hZ (wi hw 65 rfl)) (by decide) (backOf (W := 0) (rmHs l Z a0 hw [] a1 a2 bco bnx bpv bfb bpd bip bfi ben [0, 2, 1, 3] [-1, -1, -1, -1] [-1, -1, -1, -1] [0, 2, 1, 3] [0, 0, 0, 0] [0, 0, 0, 0] (4 : Int32) (0 : Int32)  T1820.heap n0 z1820 B1820 ) hZ (wi hw 67 rfl) (wi hw 29 rfl) (by decide) (by decide)) q1824a q1824c (g := (mkF m 460 #[iv p1, iv p2, iv p3, iv (0 : Int32), iv (0 : Int32), iv (1 : Int32), rv a2, rv a1, iv (2 : Int32), iv (1 : Int32), iv (2 : Int32), iv (2 : Int32), iv (1 : Int32), iv (3 : Int32), iv (1 : Int32), iv (2 : Int32), iv (1 : Int32), iv (3 : Int32)] [(.ref a1)])) rfl (by rw [hml]; rfl) (Steps.refl _) (argsL := []) (rest := []) (lenOf pd_15 rfl) rfl (by show 2 * 0 + _ ≤ _; exact Nat.le_of_eq rfl) (hb hby at_460) (fun _ _ => ⟨rfl, rfl, (by decide : 15 + 0 ≤ _), (by decide : 70 + 0 ≤ _)⟩)
  dsimp only [Pt.U, Pt.locs, Pt.cells, Pt.slots] at X1824 l1824 y1824 z1824 st1824 hQ1824
  subst l1824 y1824 z1824
  obtain ⟨rfl, N1824q, e1824⟩ := hQ1824
  have N1824 := Fr.app N1820 N1824q
  refine Rch.to (U' := T1824.setTop (mkF m 463 #[iv p1, iv p2, iv p3, iv (0 : Int32), iv (0 : Int32), iv (1 : Int32), rv a2, rv a1, iv (2 : Int32), iv (1 : Int32), iv (2 : Int32), iv (2 : Int32), iv (1 : Int32), iv (3 : Int32), iv (1 : Int32), iv (2 : Int32), iv (1 : Int32), iv (3 : Int32)] [(.int (own_pos (0 : Int32)))])) st1824 ?_
  rw [(by decide : (own_pos (0 : Int32)) = (0 : Int32))]
  have br1825 : (0 : Int32) = (0 : Int32) := (by decide)
  refine Rch.go (U' := T1824.setTop (mkF m 466 #[iv p1, iv p2, iv p3, iv (0 : Int32), iv (0 : Int32), iv (1 : Int32), rv a2, rv a1, iv (2 : Int32), iv (1 : Int32), iv (2 : Int32), iv (2 : Int32), iv (1 : Int32), iv (3 : Int32), iv (1 : Int32), iv (2 : Int32), iv (1 : Int32), iv (3 : Int32)] [])) (fun _ k => XS.ifNo X1824.here hx rfl (hb hby at_463) rfl (XT.i0_ne_f br1825) k) ?_
  refine Rch.go (U' := T1824.setTop (mkF m 467 #[iv p1, iv p2, iv p3, iv (0 : Int32), iv (0 : Int32), iv (1 : Int32), rv a2, rv a1, iv (2 : Int32), iv (1 : Int32), iv (2 : Int32), iv (2 : Int32), iv (1 : Int32), iv (3 : Int32), iv (1 : Int32), iv (2 : Int32), iv (1 : Int32), iv (3 : Int32)] [(.int (1 : Int32))])) (fun _ k => XS.iconst X1824.here hx rfl (hb hby at_466) k) ?_
  refine Rch.go (U' := T1824.setTop (mkF m 471 #[iv p1, iv p2, iv p3, iv (0 : Int32), iv (0 : Int32), iv (1 : Int32), rv a2, rv a1, iv (2 : Int32), iv (1 : Int32), iv (2 : Int32), iv (2 : Int32), iv (1 : Int32), iv (3 : Int32), iv (1 : Int32), iv (2 : Int32), iv (1 : Int32), iv (3 : Int32)] [(.int (1 : Int32))])) (fun _ k => XS.goto X1824.here hx rfl (pc0 := 467) (pc' := 471) rfl (hb hby at_467) (by decide) (by decide) k) ?_
  refine Rch.fin X1824 hlk (v := some (.int (nar .boolean (1 : Int32)))) (fun h => by rw [hret] at h; cases h) e1824 (by decide) (by decide) (fun fs hr => retN X1824 hx (t := .boolean) hret (by simp) (hb hby at_471) hr) ?_
  exact ⟨rfl, N1824⟩
set_option maxRecDepth 65536 in
set_option maxHeartbeats 40000000 in
theorem cut54_002 {p : Program} {l : Launch} {e : Env} {s : State} {m : MethodId} {args : Array Value} {below : List Frame} {meth : Method} {c : Code} {T0 : State} {locs : List Loc} {Z : State} {a0 : Array Value} {h0 : Heap} {n0 : Nat}  (p1 : Int32) (p2 : Int32) (p3 : Int32) (a1 : Addr) (a2 : Addr) (bco : Addr) (bnx : Addr) (bpv : Addr) (bfb : Addr) (bpd : Addr) (bip : Addr) (bfi : Addr) (ben : Addr)
    (X0 : Stand p l e room_1 s m args below meth c T0 locs 15 70) (hx : p.tables.exec = Jvm.exec) (hZ : Z.Warmed39 s.vm) (hw : ∀ d ∈ tables_1, d.before a0 Z = true) (hby : c.code = code) (hml : c.maxLocals = 18) (hown : s.vm.findClass cLW = some m.cls) (hret : meth.sig.returnType = some .boolean) (hlk : meth.locks = false) (e0 : T0.heap = h0) (N0 : Fr n0 locs) (Z0 : n0 ≤ h0.size) (B : Cb Z h0 n0 a1 a2 bco bnx bpv bfb bpd bip bfi ben [0, 0, 0, 0] [1, -1, 0, 0] [-1, 0, 0, 0] [0, 0, 0, 0] [0, 0, 0, 0] [1, 0, 0, 0] (1 : Int32) (1 : Int32)) :
    Rch p e below (Fin s below (fun v h L => v = some (.int 1) ∧ Fr n0 L) 40 256) (T0.setTop (mkF m 54 #[iv p1, iv p2, iv p3, iv (0 : Int32), iv (0 : Int32), iv (2 : Int32), rv a2, rv a1, uv, uv, uv, uv, uv, uv, uv, uv, uv, uv] [])) := by
  refine Rch.go (U' := T0.setTop (mkF m 55 #[iv p1, iv p2, iv p3, iv (0 : Int32), iv (0 : Int32), iv (2 : Int32), rv a2, rv a1, uv, uv, uv, uv, uv, uv, uv, uv, uv, uv] [(.int (0 : Int32))])) (fun _ k => XS.iloadN X0.here hx rfl (hb hby at_54) rfl  k) ?_
  have br1826 : (0 : Int32) = (0 : Int32) := (by decide)
  refine Rch.go (U' := T0.setTop (mkF m 255 #[iv p1, iv p2, iv p3, iv (0 : Int32), iv (0 : Int32), iv (2 : Int32), rv a2, rv a1, uv, uv, uv, uv, uv, uv, uv, uv, uv, uv] [])) (fun _ k => XS.ifYes X0.here hx rfl (pc0 := 55) (pc' := 255) rfl (hb hby at_55) rfl (XT.i0_eq_t br1826) (by decide) (by decide) k) ?_
  refine Rch.go (U' := T0.setTop (mkF m 257 #[iv p1, iv p2, iv p3, iv (0 : Int32), iv (0 : Int32), iv (2 : Int32), rv a2, rv a1, uv, uv, uv, uv, uv, uv, uv, uv, uv, uv] [(.ref a1)])) (fun _ k => XS.aload X0.here hx rfl (hb hby at_255) rfl rfl k) ?_
  refine Rch.go (U' := T0.setTop (mkF m 259 #[iv p1, iv p2, iv p3, iv (0 : Int32), iv (0 : Int32), iv (2 : Int32), rv a2, rv a1, uv, uv, uv, uv, uv, uv, uv, uv, uv, uv] [(.int (0 : Int32)), (.ref a1)])) (fun _ k => XS.iload X0.here hx rfl (hb hby at_257) rfl  k) ?_
  refine Rch.go (U' := T0.setTop (mkF m 260 #[iv p1, iv p2, iv p3, iv (0 : Int32), iv (0 : Int32), iv (2 : Int32), rv a2, rv a1, uv, uv, uv, uv, uv, uv, uv, uv, uv, uv] [(.int (2 : Int32)), (.int (0 : Int32)), (.ref a1)])) (fun _ k => XS.iconst X0.here hx rfl (hb hby at_259) k) ?_
  obtain ⟨cq1827, kq1827, q1827a, q1827b, q1827c⟩ := isOf hZ e0 B.1.1
  obtain ⟨_, _, ⟨T1827, L1827, k1827, n1827⟩, -, X1827, ⟨Lc1827, hQ1827, l1827, y1827, z1827⟩, st1827⟩ := X0.virtualBack hx (y := yj) (z := yj) hown (mvT hZ (wi hw 51 rfl)) (mvT hZ (wi hw 52 rfl)) (notFace_of_selects (args := #[]) (mvT hZ (wi hw 54 rfl))) (mvT hZ (wi hw 54 rfl)) (mvT hZ (wi hw 53 rfl)) (by decide) (backOf (W := 0) (rmJ l Z a0 hw [] a1 a2 bco bnx bpv bfb bpd bip bfi ben [0, 0, 0, 0] [1, -1, 0, 0] [-1, 0, 0, 0] [0, 0, 0, 0] [0, 0, 0, 0] [1, 0, 0, 0] (1 : Int32) (1 : Int32) (0 : Int32) (2 : Int32) h0 n0 Z0 B (by decide)) hZ (wi hw 55 rfl) (wi hw 29 rfl) (by decide) (by decide)) q1827a q1827c (g := (mkF m 260 #[iv p1, iv p2, iv p3, iv (0 : Int32), iv (0 : Int32), iv (2 : Int32), rv a2, rv a1, uv, uv, uv, uv, uv, uv, uv, uv, uv, uv] [(.int (2 : Int32)), (.int (0 : Int32)), (.ref a1)])) rfl (by rw [hml]; rfl) (Steps.refl _) (argsL := [(.int (0 : Int32)), (.int (2 : Int32))]) (rest := []) (lenOf pd_8 rfl) rfl (by show 2 * 0 + _ ≤ _; exact Nat.le_of_eq rfl) (hb hby at_260) (fun _ _ => ⟨rfl, e0, (by decide : 15 + 0 ≤ _), (by decide : 70 + 0 ≤ _)⟩)
  dsimp only [Pt.U, Pt.locs, Pt.cells, Pt.slots] at X1827 l1827 y1827 z1827 st1827 hQ1827
  subst l1827 y1827 z1827
  obtain ⟨rfl, N1827q, z1827, C1827⟩ := hQ1827
  have N1827 := Fr.app N0 N1827q
  rw [(by rfl : own_join [0, 0, 0, 0] [1, -1, 0, 0] [-1, 0, 0, 0] [0, 0, 0, 0] [0, 0, 0, 0] [1, 0, 0, 0] (1 : Int32) (1 : Int32) (0 : Int32) (2 : Int32) = ([0, 0, 0, 0], [2, -1, 1, 0], [-1, 2, 0, 0], [0, 0, 0, 0], [0, 0, 0, 0], [1, 0, 0, 0], (1 : Int32), (1 : Int32)))] at C1827
  have B1827 : Cb Z T1827.heap n0 a1 a2 bco bnx bpv bfb bpd bip bfi ben [0, 0, 0, 0] [2, -1, 1, 0] [-1, 2, 0, 0] [0, 0, 0, 0] [0, 0, 0, 0] [1, 0, 0, 0] (1 : Int32) (1 : Int32) := C1827
  refine Rch.to (U' := T1827.setTop (mkF m 263 #[iv p1, iv p2, iv p3, iv (0 : Int32), iv (0 : Int32), iv (2 : Int32), rv a2, rv a1, uv, uv, uv, uv, uv, uv, uv, uv, uv, uv] [])) st1827 ?_
  refine Rch.go (U' := T1827.setTop (mkF m 265 #[iv p1, iv p2, iv p3, iv (0 : Int32), iv (0 : Int32), iv (2 : Int32), rv a2, rv a1, uv, uv, uv, uv, uv, uv, uv, uv, uv, uv] [(.ref a1)])) (fun _ k => XS.aload X1827.here hx rfl (hb hby at_263) rfl rfl k) ?_
  refine Rch.go (U' := T1827.setTop (mkF m 267 #[iv p1, iv p2, iv p3, iv (0 : Int32), iv (0 : Int32), iv (2 : Int32), rv a2, rv a1, uv, uv, uv, uv, uv, uv, uv, uv, uv, uv] [(.int (2 : Int32)), (.ref a1)])) (fun _ k => XS.iload X1827.here hx rfl (hb hby at_265) rfl  k) ?_
  refine Rch.go (U' := T1827.setTop (mkF m 268 #[iv p1, iv p2, iv p3, iv (0 : Int32), iv (0 : Int32), iv (2 : Int32), rv a2, rv a1, uv, uv, uv, uv, uv, uv, uv, uv, uv, uv] [(.int (3 : Int32)), (.int (2 : Int32)), (.ref a1)])) (fun _ k => XS.iconst X1827.here hx rfl (hb hby at_267) k) ?_
  obtain ⟨cq1828, kq1828, q1828a, q1828b, q1828c⟩ := isOf hZ rfl B1827.1.1
  obtain ⟨_, _, ⟨T1828, L1828, k1828, n1828⟩, -, X1828, ⟨Lc1828, hQ1828, l1828, y1828, z1828⟩, st1828⟩ := X1827.virtualBack hx (y := yj) (z := yj) hown (mvT hZ (wi hw 51 rfl)) (mvT hZ (wi hw 52 rfl)) (notFace_of_selects (args := #[]) (mvT hZ (wi hw 54 rfl))) (mvT hZ (wi hw 54 rfl)) (mvT hZ (wi hw 53 rfl)) (by decide) (backOf (W := 0) (rmJ l Z a0 hw [] a1 a2 bco bnx bpv bfb bpd bip bfi ben [0, 0, 0, 0] [2, -1, 1, 0] [-1, 2, 0, 0] [0, 0, 0, 0] [0, 0, 0, 0] [1, 0, 0, 0] (1 : Int32) (1 : Int32) (2 : Int32) (3 : Int32) T1827.heap n0 z1827 B1827 (by decide)) hZ (wi hw 55 rfl) (wi hw 29 rfl) (by decide) (by decide)) q1828a q1828c (g := (mkF m 268 #[iv p1, iv p2, iv p3, iv (0 : Int32), iv (0 : Int32), iv (2 : Int32), rv a2, rv a1, uv, uv, uv, uv, uv, uv, uv, uv, uv, uv] [(.int (3 : Int32)), (.int (2 : Int32)), (.ref a1)])) rfl (by rw [hml]; rfl) (Steps.refl _) (argsL := [(.int (2 : Int32)), (.int (3 : Int32))]) (rest := []) (lenOf pd_8 rfl) rfl (by show 2 * 0 + _ ≤ _; exact Nat.le_of_eq rfl) (hb hby at_268) (fun _ _ => ⟨rfl, rfl, (by decide : 15 + 0 ≤ _), (by decide : 70 + 0 ≤ _)⟩)
  dsimp only [Pt.U, Pt.locs, Pt.cells, Pt.slots] at X1828 l1828 y1828 z1828 st1828 hQ1828
  subst l1828 y1828 z1828
  obtain ⟨rfl, N1828q, z1828, C1828⟩ := hQ1828
  have N1828 := Fr.app N1827 N1828q
  rw [(by rfl : own_join [0, 0, 0, 0] [2, -1, 1, 0] [-1, 2, 0, 0] [0, 0, 0, 0] [0, 0, 0, 0] [1, 0, 0, 0] (1 : Int32) (1 : Int32) (2 : Int32) (3 : Int32) = ([0, 0, 0, 0], [2, -1, 3, 1], [-1, 3, 0, 2], [0, 0, 0, 0], [0, 0, 0, 0], [1, 0, 0, 0], (1 : Int32), (1 : Int32)))] at C1828
  have B1828 : Cb Z T1828.heap n0 a1 a2 bco bnx bpv bfb bpd bip bfi ben [0, 0, 0, 0] [2, -1, 3, 1] [-1, 3, 0, 2] [0, 0, 0, 0] [0, 0, 0, 0] [1, 0, 0, 0] (1 : Int32) (1 : Int32) := C1828
  refine Rch.to (U' := T1828.setTop (mkF m 271 #[iv p1, iv p2, iv p3, iv (0 : Int32), iv (0 : Int32), iv (2 : Int32), rv a2, rv a1, uv, uv, uv, uv, uv, uv, uv, uv, uv, uv] [])) st1828 ?_
  refine Rch.go (U' := T1828.setTop (mkF m 273 #[iv p1, iv p2, iv p3, iv (0 : Int32), iv (0 : Int32), iv (2 : Int32), rv a2, rv a1, uv, uv, uv, uv, uv, uv, uv, uv, uv, uv] [(.int (0 : Int32))])) (fun _ k => XS.iload X1828.here hx rfl (hb hby at_271) rfl  k) ?_
  have br1829 : (0 : Int32) = (0 : Int32) := (by decide)
  refine Rch.go (U' := T1828.setTop (mkF m 276 #[iv p1, iv p2, iv p3, iv (0 : Int32), iv (0 : Int32), iv (2 : Int32), rv a2, rv a1, uv, uv, uv, uv, uv, uv, uv, uv, uv, uv] [])) (fun _ k => XS.ifNo X1828.here hx rfl (hb hby at_273) rfl (XT.i0_ne_f br1829) k) ?_
  refine Rch.go (U' := T1828.setTop (mkF m 277 #[iv p1, iv p2, iv p3, iv (0 : Int32), iv (0 : Int32), iv (2 : Int32), rv a2, rv a1, uv, uv, uv, uv, uv, uv, uv, uv, uv, uv] [(.int (2 : Int32))])) (fun _ k => XS.iconst X1828.here hx rfl (hb hby at_276) k) ?_
  refine Rch.go (U' := T1828.setTop (mkF m 281 #[iv p1, iv p2, iv p3, iv (0 : Int32), iv (0 : Int32), iv (2 : Int32), rv a2, rv a1, uv, uv, uv, uv, uv, uv, uv, uv, uv, uv] [(.int (2 : Int32))])) (fun _ k => XS.goto X1828.here hx rfl (pc0 := 277) (pc' := 281) rfl (hb hby at_277) (by decide) (by decide) k) ?_
  refine Rch.go (U' := T1828.setTop (mkF m 283 #[iv p1, iv p2, iv p3, iv (0 : Int32), iv (0 : Int32), iv (2 : Int32), rv a2, rv a1, iv (2 : Int32), uv, uv, uv, uv, uv, uv, uv, uv, uv] [])) (fun _ k => XS.istore X1828.here hx rfl (hb hby at_281) rfl (l' := #[iv p1, iv p2, iv p3, iv (0 : Int32), iv (0 : Int32), iv (2 : Int32), rv a2, rv a1, iv (2 : Int32), uv, uv, uv, uv, uv, uv, uv, uv, uv]) rfl k) ?_
  refine Rch.go (U' := T1828.setTop (mkF m 285 #[iv p1, iv p2, iv p3, iv (0 : Int32), iv (0 : Int32), iv (2 : Int32), rv a2, rv a1, iv (2 : Int32), uv, uv, uv, uv, uv, uv, uv, uv, uv] [(.int (0 : Int32))])) (fun _ k => XS.iload X1828.here hx rfl (hb hby at_283) rfl  k) ?_
  have br1830 : (0 : Int32) = (0 : Int32) := (by decide)
  refine Rch.go (U' := T1828.setTop (mkF m 288 #[iv p1, iv p2, iv p3, iv (0 : Int32), iv (0 : Int32), iv (2 : Int32), rv a2, rv a1, iv (2 : Int32), uv, uv, uv, uv, uv, uv, uv, uv, uv] [])) (fun _ k => XS.ifNo X1828.here hx rfl (hb hby at_285) rfl (XT.i0_ne_f br1830) k) ?_
  refine Rch.go (U' := T1828.setTop (mkF m 289 #[iv p1, iv p2, iv p3, iv (0 : Int32), iv (0 : Int32), iv (2 : Int32), rv a2, rv a1, iv (2 : Int32), uv, uv, uv, uv, uv, uv, uv, uv, uv] [(.int (1 : Int32))])) (fun _ k => XS.iconst X1828.here hx rfl (hb hby at_288) k) ?_
  refine Rch.go (U' := T1828.setTop (mkF m 293 #[iv p1, iv p2, iv p3, iv (0 : Int32), iv (0 : Int32), iv (2 : Int32), rv a2, rv a1, iv (2 : Int32), uv, uv, uv, uv, uv, uv, uv, uv, uv] [(.int (1 : Int32))])) (fun _ k => XS.goto X1828.here hx rfl (pc0 := 289) (pc' := 293) rfl (hb hby at_289) (by decide) (by decide) k) ?_
  refine Rch.go (U' := T1828.setTop (mkF m 295 #[iv p1, iv p2, iv p3, iv (0 : Int32), iv (0 : Int32), iv (2 : Int32), rv a2, rv a1, iv (2 : Int32), iv (1 : Int32), uv, uv, uv, uv, uv, uv, uv, uv] [])) (fun _ k => XS.istore X1828.here hx rfl (hb hby at_293) rfl (l' := #[iv p1, iv p2, iv p3, iv (0 : Int32), iv (0 : Int32), iv (2 : Int32), rv a2, rv a1, iv (2 : Int32), iv (1 : Int32), uv, uv, uv, uv, uv, uv, uv, uv]) rfl k) ?_
  refine Rch.go (U' := T1828.setTop (mkF m 297 #[iv p1, iv p2, iv p3, iv (0 : Int32), iv (0 : Int32), iv (2 : Int32), rv a2, rv a1, iv (2 : Int32), iv (1 : Int32), uv, uv, uv, uv, uv, uv, uv, uv] [(.int (2 : Int32))])) (fun _ k => XS.iload X1828.here hx rfl (hb hby at_295) rfl  k) ?_
  have br1831 : ¬ ((2 : Int32) = (0 : Int32)) := (by decide)
  refine Rch.go (U' := T1828.setTop (mkF m 304 #[iv p1, iv p2, iv p3, iv (0 : Int32), iv (0 : Int32), iv (2 : Int32), rv a2, rv a1, iv (2 : Int32), iv (1 : Int32), uv, uv, uv, uv, uv, uv, uv, uv] [])) (fun _ k => XS.ifYes X1828.here hx rfl (pc0 := 297) (pc' := 304) rfl (hb hby at_297) rfl (XT.i0_ne_t br1831) (by decide) (by decide) k) ?_
  refine Rch.go (U' := T1828.setTop (mkF m 306 #[iv p1, iv p2, iv p3, iv (0 : Int32), iv (0 : Int32), iv (2 : Int32), rv a2, rv a1, iv (2 : Int32), iv (1 : Int32), uv, uv, uv, uv, uv, uv, uv, uv] [(.int (2 : Int32))])) (fun _ k => XS.iload X1828.here hx rfl (hb hby at_304) rfl  k) ?_
  refine Rch.go (U' := T1828.setTop (mkF m 308 #[iv p1, iv p2, iv p3, iv (0 : Int32), iv (0 : Int32), iv (2 : Int32), rv a2, rv a1, iv (2 : Int32), iv (1 : Int32), uv, uv, uv, uv, uv, uv, uv, uv] [(.int (2 : Int32)), (.int (2 : Int32))])) (fun _ k => XS.iload X1828.here hx rfl (hb hby at_306) rfl  k) ?_
  have br1832 : (2 : Int32) = (2 : Int32) := (by decide)
  refine Rch.go (U' := T1828.setTop (mkF m 311 #[iv p1, iv p2, iv p3, iv (0 : Int32), iv (0 : Int32), iv (2 : Int32), rv a2, rv a1, iv (2 : Int32), iv (1 : Int32), uv, uv, uv, uv, uv, uv, uv, uv] [])) (fun _ k => XS.icmpNo X1828.here hx rfl (hb hby at_308) rfl (XT.ii_ne_f br1832) k) ?_
  refine Rch.go (U' := T1828.setTop (mkF m 312 #[iv p1, iv p2, iv p3, iv (0 : Int32), iv (0 : Int32), iv (2 : Int32), rv a2, rv a1, iv (2 : Int32), iv (1 : Int32), uv, uv, uv, uv, uv, uv, uv, uv] [(.int (1 : Int32))])) (fun _ k => XS.iconst X1828.here hx rfl (hb hby at_311) k) ?_
  refine Rch.go (U' := T1828.setTop (mkF m 316 #[iv p1, iv p2, iv p3, iv (0 : Int32), iv (0 : Int32), iv (2 : Int32), rv a2, rv a1, iv (2 : Int32), iv (1 : Int32), uv, uv, uv, uv, uv, uv, uv, uv] [(.int (1 : Int32))])) (fun _ k => XS.goto X1828.here hx rfl (pc0 := 312) (pc' := 316) rfl (hb hby at_312) (by decide) (by decide) k) ?_
  refine Rch.go (U' := T1828.setTop (mkF m 318 #[iv p1, iv p2, iv p3, iv (0 : Int32), iv (0 : Int32), iv (2 : Int32), rv a2, rv a1, iv (2 : Int32), iv (1 : Int32), iv (1 : Int32), uv, uv, uv, uv, uv, uv, uv] [])) (fun _ k => XS.istore X1828.here hx rfl (hb hby at_316) rfl (l' := #[iv p1, iv p2, iv p3, iv (0 : Int32), iv (0 : Int32), iv (2 : Int32), rv a2, rv a1, iv (2 : Int32), iv (1 : Int32), iv (1 : Int32), uv, uv, uv, uv, uv, uv, uv]) rfl k) ?_
  refine Rch.go (U' := T1828.setTop (mkF m 320 #[iv p1, iv p2, iv p3, iv (0 : Int32), iv (0 : Int32), iv (2 : Int32), rv a2, rv a1, iv (2 : Int32), iv (1 : Int32), iv (1 : Int32), uv, uv, uv, uv, uv, uv, uv] [(.int (1 : Int32))])) (fun _ k => XS.iload X1828.here hx rfl (hb hby at_318) rfl  k) ?_
  have br1833 : ¬ ((1 : Int32) = (0 : Int32)) := (by decide)
  refine Rch.go (U' := T1828.setTop (mkF m 337 #[iv p1, iv p2, iv p3, iv (0 : Int32), iv (0 : Int32), iv (2 : Int32), rv a2, rv a1, iv (2 : Int32), iv (1 : Int32), iv (1 : Int32), uv, uv, uv, uv, uv, uv, uv] [])) (fun _ k => XS.ifYes X1828.here hx rfl (pc0 := 320) (pc' := 337) rfl (hb hby at_320) rfl (XT.i0_ne_t br1833) (by decide) (by decide) k) ?_
  refine Rch.go (U' := T1828.setTop (mkF m 339 #[iv p1, iv p2, iv p3, iv (0 : Int32), iv (0 : Int32), iv (2 : Int32), rv a2, rv a1, iv (2 : Int32), iv (1 : Int32), iv (1 : Int32), uv, uv, uv, uv, uv, uv, uv] [(.int (1 : Int32))])) (fun _ k => XS.iload X1828.here hx rfl (hb hby at_337) rfl  k) ?_
  refine Rch.go (U' := T1828.setTop (mkF m 340 #[iv p1, iv p2, iv p3, iv (0 : Int32), iv (0 : Int32), iv (2 : Int32), rv a2, rv a1, iv (2 : Int32), iv (1 : Int32), iv (1 : Int32), uv, uv, uv, uv, uv, uv, uv] [(.int (1 : Int32)), (.int (1 : Int32))])) (fun _ k => XS.iconst X1828.here hx rfl (hb hby at_339) k) ?_
  have br1834 : (1 : Int32) = (1 : Int32) := (by decide)
  refine Rch.go (U' := T1828.setTop (mkF m 343 #[iv p1, iv p2, iv p3, iv (0 : Int32), iv (0 : Int32), iv (2 : Int32), rv a2, rv a1, iv (2 : Int32), iv (1 : Int32), iv (1 : Int32), uv, uv, uv, uv, uv, uv, uv] [])) (fun _ k => XS.icmpNo X1828.here hx rfl (hb hby at_340) rfl (XT.ii_ne_f br1834) k) ?_
  refine Rch.go (U' := T1828.setTop (mkF m 345 #[iv p1, iv p2, iv p3, iv (0 : Int32), iv (0 : Int32), iv (2 : Int32), rv a2, rv a1, iv (2 : Int32), iv (1 : Int32), iv (1 : Int32), uv, uv, uv, uv, uv, uv, uv] [(.int (2 : Int32))])) (fun _ k => XS.iload X1828.here hx rfl (hb hby at_343) rfl  k) ?_
  refine Rch.go (U' := T1828.setTop (mkF m 347 #[iv p1, iv p2, iv p3, iv (0 : Int32), iv (0 : Int32), iv (2 : Int32), rv a2, rv a1, iv (2 : Int32), iv (1 : Int32), iv (1 : Int32), iv (2 : Int32), uv, uv, uv, uv, uv, uv] [])) (fun _ k => XS.istore X1828.here hx rfl (hb hby at_345) rfl (l' := #[iv p1, iv p2, iv p3, iv (0 : Int32), iv (0 : Int32), iv (2 : Int32), rv a2, rv a1, iv (2 : Int32), iv (1 : Int32), iv (1 : Int32), iv (2 : Int32), uv, uv, uv, uv, uv, uv]) rfl k) ?_
  refine Rch.go (U' := T1828.setTop (mkF m 348 #[iv p1, iv p2, iv p3, iv (0 : Int32), iv (0 : Int32), iv (2 : Int32), rv a2, rv a1, iv (2 : Int32), iv (1 : Int32), iv (1 : Int32), iv (2 : Int32), uv, uv, uv, uv, uv, uv] [(.int (3 : Int32))])) (fun _ k => XS.iconst X1828.here hx rfl (hb hby at_347) k) ?_
  refine Rch.go (U' := T1828.setTop (mkF m 350 #[iv p1, iv p2, iv p3, iv (0 : Int32), iv (0 : Int32), iv (2 : Int32), rv a2, rv a1, iv (2 : Int32), iv (1 : Int32), iv (1 : Int32), iv (2 : Int32), iv (3 : Int32), uv, uv, uv, uv, uv] [])) (fun _ k => XS.istore X1828.here hx rfl (hb hby at_348) rfl (l' := #[iv p1, iv p2, iv p3, iv (0 : Int32), iv (0 : Int32), iv (2 : Int32), rv a2, rv a1, iv (2 : Int32), iv (1 : Int32), iv (1 : Int32), iv (2 : Int32), iv (3 : Int32), uv, uv, uv, uv, uv]) rfl k) ?_
  refine Rch.go (U' := T1828.setTop (mkF m 352 #[iv p1, iv p2, iv p3, iv (0 : Int32), iv (0 : Int32), iv (2 : Int32), rv a2, rv a1, iv (2 : Int32), iv (1 : Int32), iv (1 : Int32), iv (2 : Int32), iv (3 : Int32), uv, uv, uv, uv, uv] [(.int (1 : Int32))])) (fun _ k => XS.iload X1828.here hx rfl (hb hby at_350) rfl  k) ?_
  refine Rch.go (U' := T1828.setTop (mkF m 354 #[iv p1, iv p2, iv p3, iv (0 : Int32), iv (0 : Int32), iv (2 : Int32), rv a2, rv a1, iv (2 : Int32), iv (1 : Int32), iv (1 : Int32), iv (2 : Int32), iv (3 : Int32), iv (1 : Int32), uv, uv, uv, uv] [])) (fun _ k => XS.istore X1828.here hx rfl (hb hby at_352) rfl (l' := #[iv p1, iv p2, iv p3, iv (0 : Int32), iv (0 : Int32), iv (2 : Int32), rv a2, rv a1, iv (2 : Int32), iv (1 : Int32), iv (1 : Int32), iv (2 : Int32), iv (3 : Int32), iv (1 : Int32), uv, uv, uv, uv]) rfl k) ?_
  refine Rch.go (U' := T1828.setTop (mkF m 368 #[iv p1, iv p2, iv p3, iv (0 : Int32), iv (0 : Int32), iv (2 : Int32), rv a2, rv a1, iv (2 : Int32), iv (1 : Int32), iv (1 : Int32), iv (2 : Int32), iv (3 : Int32), iv (1 : Int32), uv, uv, uv, uv] [])) (fun _ k => XS.goto X1828.here hx rfl (pc0 := 354) (pc' := 368) rfl (hb hby at_354) (by decide) (by decide) k) ?_
  refine Rch.go (U' := T1828.setTop (mkF m 370 #[iv p1, iv p2, iv p3, iv (0 : Int32), iv (0 : Int32), iv (2 : Int32), rv a2, rv a1, iv (2 : Int32), iv (1 : Int32), iv (1 : Int32), iv (2 : Int32), iv (3 : Int32), iv (1 : Int32), uv, uv, uv, uv] [(.ref a1)])) (fun _ k => XS.aload X1828.here hx rfl (hb hby at_368) rfl rfl k) ?_
  refine Rch.go (U' := T1828.setTop (mkF m 371 #[iv p1, iv p2, iv p3, iv (0 : Int32), iv (0 : Int32), iv (2 : Int32), rv a2, rv a1, iv (2 : Int32), iv (1 : Int32), iv (1 : Int32), iv (2 : Int32), iv (3 : Int32), iv (1 : Int32), uv, uv, uv, uv] [(.int (2 : Int32)), (.ref a1)])) (fun _ k => XS.iconst X1828.here hx rfl (hb hby at_370) k) ?_
  obtain ⟨cq1835, kq1835, q1835a, q1835b, q1835c⟩ := isOf hZ rfl B1828.1.1
  obtain ⟨_, _, ⟨T1835, L1835, k1835, n1835⟩, -, X1835, ⟨Lc1835, hQ1835, l1835, y1835, z1835⟩, st1835⟩ := X1828.virtualBack hx (y := yc) (z := yc) hown (mvT hZ (wi hw 58 rfl)) (mvT hZ (wi hw 59 rfl)) (notFace_of_selects (args := #[]) (mvT hZ (wi hw 61 rfl))) (mvT hZ (wi hw 61 rfl)) (mvT hZ (wi hw 60 rfl)) (by decide) (backOf (W := 0) (rmCo l Z a0 hw [] a1 a2 bco bnx bpv bfb bpd bip bfi ben [0, 0, 0, 0] [2, -1, 3, 1] [-1, 3, 0, 2] [0, 0, 0, 0] [0, 0, 0, 0] [1, 0, 0, 0] (1 : Int32) (1 : Int32) (2 : Int32) T1828.heap n0 z1828 B1828 (by decide)) hZ (wi hw 62 rfl) (wi hw 29 rfl) (by decide) (by decide)) q1835a q1835c (g := (mkF m 371 #[iv p1, iv p2, iv p3, iv (0 : Int32), iv (0 : Int32), iv (2 : Int32), rv a2, rv a1, iv (2 : Int32), iv (1 : Int32), iv (1 : Int32), iv (2 : Int32), iv (3 : Int32), iv (1 : Int32), uv, uv, uv, uv] [(.int (2 : Int32)), (.ref a1)])) rfl (by rw [hml]; rfl) (Steps.refl _) (argsL := [(.int (2 : Int32))]) (rest := []) (lenOf pd_7 rfl) rfl (by show 2 * 0 + _ ≤ _; exact Nat.le_of_eq rfl) (hb hby at_371) (fun _ _ => ⟨rfl, rfl, (by decide : 15 + 0 ≤ _), (by decide : 70 + 0 ≤ _)⟩)
  dsimp only [Pt.U, Pt.locs, Pt.cells, Pt.slots] at X1835 l1835 y1835 z1835 st1835 hQ1835
  subst l1835 y1835 z1835
  obtain ⟨rfl, N1835q, e1835⟩ := hQ1835
  have N1835 := Fr.app N1828 N1835q
  refine Rch.to (U' := T1835.setTop (mkF m 374 #[iv p1, iv p2, iv p3, iv (0 : Int32), iv (0 : Int32), iv (2 : Int32), rv a2, rv a1, iv (2 : Int32), iv (1 : Int32), iv (1 : Int32), iv (2 : Int32), iv (3 : Int32), iv (1 : Int32), uv, uv, uv, uv] [(.int (own_at [0, 0, 0, 0] (2 : Int32)))])) st1835 ?_
  rw [(by decide : (own_at [0, 0, 0, 0] (2 : Int32)) = (0 : Int32))]
  have br1836 : (0 : Int32) = (0 : Int32) := (by decide)
  refine Rch.go (U' := T1835.setTop (mkF m 377 #[iv p1, iv p2, iv p3, iv (0 : Int32), iv (0 : Int32), iv (2 : Int32), rv a2, rv a1, iv (2 : Int32), iv (1 : Int32), iv (1 : Int32), iv (2 : Int32), iv (3 : Int32), iv (1 : Int32), uv, uv, uv, uv] [])) (fun _ k => XS.ifNo X1835.here hx rfl (hb hby at_374) rfl (XT.i0_ne_f br1836) k) ?_
  refine Rch.go (U' := T1835.setTop (mkF m 379 #[iv p1, iv p2, iv p3, iv (0 : Int32), iv (0 : Int32), iv (2 : Int32), rv a2, rv a1, iv (2 : Int32), iv (1 : Int32), iv (1 : Int32), iv (2 : Int32), iv (3 : Int32), iv (1 : Int32), uv, uv, uv, uv] [(.ref a1)])) (fun _ k => XS.aload X1835.here hx rfl (hb hby at_377) rfl rfl k) ?_
  refine Rch.go (U' := T1835.setTop (mkF m 380 #[iv p1, iv p2, iv p3, iv (0 : Int32), iv (0 : Int32), iv (2 : Int32), rv a2, rv a1, iv (2 : Int32), iv (1 : Int32), iv (1 : Int32), iv (2 : Int32), iv (3 : Int32), iv (1 : Int32), uv, uv, uv, uv] [(.int (3 : Int32)), (.ref a1)])) (fun _ k => XS.iconst X1835.here hx rfl (hb hby at_379) k) ?_
  obtain ⟨cq1837, kq1837, q1837a, q1837b, q1837c⟩ := isOf hZ e1835 B1828.1.1
  obtain ⟨_, _, ⟨T1837, L1837, k1837, n1837⟩, -, X1837, ⟨Lc1837, hQ1837, l1837, y1837, z1837⟩, st1837⟩ := X1835.virtualBack hx (y := yc) (z := yc) hown (mvT hZ (wi hw 58 rfl)) (mvT hZ (wi hw 59 rfl)) (notFace_of_selects (args := #[]) (mvT hZ (wi hw 61 rfl))) (mvT hZ (wi hw 61 rfl)) (mvT hZ (wi hw 60 rfl)) (by decide) (backOf (W := 0) (rmCo l Z a0 hw [] a1 a2 bco bnx bpv bfb bpd bip bfi ben [0, 0, 0, 0] [2, -1, 3, 1] [-1, 3, 0, 2] [0, 0, 0, 0] [0, 0, 0, 0] [1, 0, 0, 0] (1 : Int32) (1 : Int32) (3 : Int32) T1828.heap n0 z1828 B1828 (by decide)) hZ (wi hw 62 rfl) (wi hw 29 rfl) (by decide) (by decide)) q1837a q1837c (g := (mkF m 380 #[iv p1, iv p2, iv p3, iv (0 : Int32), iv (0 : Int32), iv (2 : Int32), rv a2, rv a1, iv (2 : Int32), iv (1 : Int32), iv (1 : Int32), iv (2 : Int32), iv (3 : Int32), iv (1 : Int32), uv, uv, uv, uv] [(.int (3 : Int32)), (.ref a1)])) rfl (by rw [hml]; rfl) (Steps.refl _) (argsL := [(.int (3 : Int32))]) (rest := []) (lenOf pd_7 rfl) rfl (by show 2 * 0 + _ ≤ _; exact Nat.le_of_eq rfl) (hb hby at_380) (fun _ _ => ⟨rfl, e1835, (by decide : 15 + 0 ≤ _), (by decide : 70 + 0 ≤ _)⟩)
  dsimp only [Pt.U, Pt.locs, Pt.cells, Pt.slots] at X1837 l1837 y1837 z1837 st1837 hQ1837
  subst l1837 y1837 z1837
  obtain ⟨rfl, N1837q, e1837⟩ := hQ1837
  have N1837 := Fr.app N1835 N1837q
  refine Rch.to (U' := T1837.setTop (mkF m 383 #[iv p1, iv p2, iv p3, iv (0 : Int32), iv (0 : Int32), iv (2 : Int32), rv a2, rv a1, iv (2 : Int32), iv (1 : Int32), iv (1 : Int32), iv (2 : Int32), iv (3 : Int32), iv (1 : Int32), uv, uv, uv, uv] [(.int (own_at [0, 0, 0, 0] (3 : Int32)))])) st1837 ?_
  rw [(by decide : (own_at [0, 0, 0, 0] (3 : Int32)) = (0 : Int32))]
  have br1838 : (0 : Int32) = (0 : Int32) := (by decide)
  refine Rch.go (U' := T1837.setTop (mkF m 386 #[iv p1, iv p2, iv p3, iv (0 : Int32), iv (0 : Int32), iv (2 : Int32), rv a2, rv a1, iv (2 : Int32), iv (1 : Int32), iv (1 : Int32), iv (2 : Int32), iv (3 : Int32), iv (1 : Int32), uv, uv, uv, uv] [])) (fun _ k => XS.ifNo X1837.here hx rfl (hb hby at_383) rfl (XT.i0_ne_f br1838) k) ?_
  refine Rch.go (U' := T1837.setTop (mkF m 388 #[iv p1, iv p2, iv p3, iv (0 : Int32), iv (0 : Int32), iv (2 : Int32), rv a2, rv a1, iv (2 : Int32), iv (1 : Int32), iv (1 : Int32), iv (2 : Int32), iv (3 : Int32), iv (1 : Int32), uv, uv, uv, uv] [(.ref a1)])) (fun _ k => XS.aload X1837.here hx rfl (hb hby at_386) rfl rfl k) ?_
  obtain ⟨cq1839, kq1839, q1839a, q1839b, q1839c⟩ := isOf hZ e1837 B1828.1.1
  obtain ⟨_, _, ⟨T1839, L1839, k1839, n1839⟩, -, X1839, ⟨Lc1839, hQ1839, l1839, y1839, z1839⟩, st1839⟩ := X1837.virtualBack hx (y := yhs) (z := yhs) hown (mvT hZ (wi hw 63 rfl)) (mvT hZ (wi hw 64 rfl)) (notFace_of_selects (args := #[]) (mvT hZ (wi hw 66 rfl))) (mvT hZ (wi hw 66 rfl)) (mvT hZ (wi hw 65 rfl)) (by decide) (backOf (W := 0) (rmHs l Z a0 hw [] a1 a2 bco bnx bpv bfb bpd bip bfi ben [0, 0, 0, 0] [2, -1, 3, 1] [-1, 3, 0, 2] [0, 0, 0, 0] [0, 0, 0, 0] [1, 0, 0, 0] (1 : Int32) (1 : Int32)  T1828.heap n0 z1828 B1828 ) hZ (wi hw 67 rfl) (wi hw 29 rfl) (by decide) (by decide)) q1839a q1839c (g := (mkF m 388 #[iv p1, iv p2, iv p3, iv (0 : Int32), iv (0 : Int32), iv (2 : Int32), rv a2, rv a1, iv (2 : Int32), iv (1 : Int32), iv (1 : Int32), iv (2 : Int32), iv (3 : Int32), iv (1 : Int32), uv, uv, uv, uv] [(.ref a1)])) rfl (by rw [hml]; rfl) (Steps.refl _) (argsL := []) (rest := []) (lenOf pd_15 rfl) rfl (by show 2 * 0 + _ ≤ _; exact Nat.le_of_eq rfl) (hb hby at_388) (fun _ _ => ⟨rfl, e1837, (by decide : 15 + 0 ≤ _), (by decide : 70 + 0 ≤ _)⟩)
  dsimp only [Pt.U, Pt.locs, Pt.cells, Pt.slots] at X1839 l1839 y1839 z1839 st1839 hQ1839
  subst l1839 y1839 z1839
  obtain ⟨rfl, N1839q, e1839⟩ := hQ1839
  have N1839 := Fr.app N1837 N1839q
  refine Rch.to (U' := T1839.setTop (mkF m 391 #[iv p1, iv p2, iv p3, iv (0 : Int32), iv (0 : Int32), iv (2 : Int32), rv a2, rv a1, iv (2 : Int32), iv (1 : Int32), iv (1 : Int32), iv (2 : Int32), iv (3 : Int32), iv (1 : Int32), uv, uv, uv, uv] [(.int (own_pos (1 : Int32)))])) st1839 ?_
  rw [(by decide : (own_pos (1 : Int32)) = (1 : Int32))]
  have br1840 : ¬ ((1 : Int32) = (0 : Int32)) := (by decide)
  refine Rch.go (U' := T1839.setTop (mkF m 394 #[iv p1, iv p2, iv p3, iv (0 : Int32), iv (0 : Int32), iv (2 : Int32), rv a2, rv a1, iv (2 : Int32), iv (1 : Int32), iv (1 : Int32), iv (2 : Int32), iv (3 : Int32), iv (1 : Int32), uv, uv, uv, uv] [])) (fun _ k => XS.ifNo X1839.here hx rfl (hb hby at_391) rfl (XT.i0_eq_f br1840) k) ?_
  refine Rch.go (U' := T1839.setTop (mkF m 396 #[iv p1, iv p2, iv p3, iv (0 : Int32), iv (0 : Int32), iv (2 : Int32), rv a2, rv a1, iv (2 : Int32), iv (1 : Int32), iv (1 : Int32), iv (2 : Int32), iv (3 : Int32), iv (1 : Int32), uv, uv, uv, uv] [(.ref a1)])) (fun _ k => XS.aload X1839.here hx rfl (hb hby at_394) rfl rfl k) ?_
  obtain ⟨cq1841, kq1841, q1841a, q1841b, q1841c⟩ := isOf hZ e1839 B1828.1.1
  obtain ⟨_, _, ⟨T1841, L1841, k1841, n1841⟩, -, X1841, ⟨Lc1841, hQ1841, l1841, y1841, z1841⟩, st1841⟩ := X1839.virtualBack hx (y := yns) (z := yns) hown (mvT hZ (wi hw 68 rfl)) (mvT hZ (wi hw 69 rfl)) (notFace_of_selects (args := #[]) (mvT hZ (wi hw 71 rfl))) (mvT hZ (wi hw 71 rfl)) (mvT hZ (wi hw 70 rfl)) (by decide) (backOf (W := 0) (rmNs l Z a0 hw [] a1 a2 bco bnx bpv bfb bpd bip bfi ben [0, 0, 0, 0] [2, -1, 3, 1] [-1, 3, 0, 2] [0, 0, 0, 0] [0, 0, 0, 0] [1, 0, 0, 0] (1 : Int32) (1 : Int32)  T1828.heap n0 z1828 B1828 (by decide)) hZ (wi hw 72 rfl) (wi hw 29 rfl) (by decide) (by decide)) q1841a q1841c (g := (mkF m 396 #[iv p1, iv p2, iv p3, iv (0 : Int32), iv (0 : Int32), iv (2 : Int32), rv a2, rv a1, iv (2 : Int32), iv (1 : Int32), iv (1 : Int32), iv (2 : Int32), iv (3 : Int32), iv (1 : Int32), uv, uv, uv, uv] [(.ref a1)])) rfl (by rw [hml]; rfl) (Steps.refl _) (argsL := []) (rest := []) (lenOf pd_14 rfl) rfl (by show 2 * 0 + _ ≤ _; exact Nat.le_of_eq rfl) (hb hby at_396) (fun _ _ => ⟨rfl, e1839, (by decide : 15 + 0 ≤ _), (by decide : 70 + 0 ≤ _)⟩)
  dsimp only [Pt.U, Pt.locs, Pt.cells, Pt.slots] at X1841 l1841 y1841 z1841 st1841 hQ1841
  subst l1841 y1841 z1841
  obtain ⟨rfl, N1841q, e1841⟩ := hQ1841
  have N1841 := Fr.app N1839 N1841q
  refine Rch.to (U' := T1841.setTop (mkF m 399 #[iv p1, iv p2, iv p3, iv (0 : Int32), iv (0 : Int32), iv (2 : Int32), rv a2, rv a1, iv (2 : Int32), iv (1 : Int32), iv (1 : Int32), iv (2 : Int32), iv (3 : Int32), iv (1 : Int32), uv, uv, uv, uv] [(.int (own_at [0, 0, 0, 0] ((1 : Int32) - (1 : Int32))))])) st1841 ?_
  rw [(by decide : (own_at [0, 0, 0, 0] ((1 : Int32) - (1 : Int32))) = (0 : Int32))]
  have br1842 : (0 : Int32) = (0 : Int32) := (by decide)
  refine Rch.go (U' := T1841.setTop (mkF m 402 #[iv p1, iv p2, iv p3, iv (0 : Int32), iv (0 : Int32), iv (2 : Int32), rv a2, rv a1, iv (2 : Int32), iv (1 : Int32), iv (1 : Int32), iv (2 : Int32), iv (3 : Int32), iv (1 : Int32), uv, uv, uv, uv] [])) (fun _ k => XS.ifNo X1841.here hx rfl (hb hby at_399) rfl (XT.i0_ne_f br1842) k) ?_
  refine Rch.go (U' := T1841.setTop (mkF m 403 #[iv p1, iv p2, iv p3, iv (0 : Int32), iv (0 : Int32), iv (2 : Int32), rv a2, rv a1, iv (2 : Int32), iv (1 : Int32), iv (1 : Int32), iv (2 : Int32), iv (3 : Int32), iv (1 : Int32), uv, uv, uv, uv] [(.int (1 : Int32))])) (fun _ k => XS.iconst X1841.here hx rfl (hb hby at_402) k) ?_
  refine Rch.go (U' := T1841.setTop (mkF m 407 #[iv p1, iv p2, iv p3, iv (0 : Int32), iv (0 : Int32), iv (2 : Int32), rv a2, rv a1, iv (2 : Int32), iv (1 : Int32), iv (1 : Int32), iv (2 : Int32), iv (3 : Int32), iv (1 : Int32), uv, uv, uv, uv] [(.int (1 : Int32))])) (fun _ k => XS.goto X1841.here hx rfl (pc0 := 403) (pc' := 407) rfl (hb hby at_403) (by decide) (by decide) k) ?_
  refine Rch.go (U' := T1841.setTop (mkF m 409 #[iv p1, iv p2, iv p3, iv (0 : Int32), iv (0 : Int32), iv (2 : Int32), rv a2, rv a1, iv (2 : Int32), iv (1 : Int32), iv (1 : Int32), iv (2 : Int32), iv (3 : Int32), iv (1 : Int32), iv (1 : Int32), uv, uv, uv] [])) (fun _ k => XS.istore X1841.here hx rfl (hb hby at_407) rfl (l' := #[iv p1, iv p2, iv p3, iv (0 : Int32), iv (0 : Int32), iv (2 : Int32), rv a2, rv a1, iv (2 : Int32), iv (1 : Int32), iv (1 : Int32), iv (2 : Int32), iv (3 : Int32), iv (1 : Int32), iv (1 : Int32), uv, uv, uv]) rfl k) ?_
  refine Rch.go (U' := T1841.setTop (mkF m 411 #[iv p1, iv p2, iv p3, iv (0 : Int32), iv (0 : Int32), iv (2 : Int32), rv a2, rv a1, iv (2 : Int32), iv (1 : Int32), iv (1 : Int32), iv (2 : Int32), iv (3 : Int32), iv (1 : Int32), iv (1 : Int32), uv, uv, uv] [(.int (1 : Int32))])) (fun _ k => XS.iload X1841.here hx rfl (hb hby at_409) rfl  k) ?_
  have br1843 : ¬ ((1 : Int32) = (0 : Int32)) := (by decide)
  refine Rch.go (U' := T1841.setTop (mkF m 416 #[iv p1, iv p2, iv p3, iv (0 : Int32), iv (0 : Int32), iv (2 : Int32), rv a2, rv a1, iv (2 : Int32), iv (1 : Int32), iv (1 : Int32), iv (2 : Int32), iv (3 : Int32), iv (1 : Int32), iv (1 : Int32), uv, uv, uv] [])) (fun _ k => XS.ifYes X1841.here hx rfl (pc0 := 411) (pc' := 416) rfl (hb hby at_411) rfl (XT.i0_ne_t br1843) (by decide) (by decide) k) ?_
  refine Rch.go (U' := T1841.setTop (mkF m 418 #[iv p1, iv p2, iv p3, iv (0 : Int32), iv (0 : Int32), iv (2 : Int32), rv a2, rv a1, iv (2 : Int32), iv (1 : Int32), iv (1 : Int32), iv (2 : Int32), iv (3 : Int32), iv (1 : Int32), iv (1 : Int32), uv, uv, uv] [(.ref a1)])) (fun _ k => XS.aload X1841.here hx rfl (hb hby at_416) rfl rfl k) ?_
  obtain ⟨cq1844, kq1844, q1844a, q1844b, q1844c⟩ := isOf hZ e1841 B1828.1.1
  obtain ⟨_, _, ⟨T1844, L1844, k1844, n1844⟩, -, X1844, ⟨Lc1844, hQ1844, l1844, y1844, z1844⟩, st1844⟩ := X1841.virtualBack hx (y := yt) (z := yt) hown (mvT hZ (wi hw 73 rfl)) (mvT hZ (wi hw 74 rfl)) (notFace_of_selects (args := #[]) (mvT hZ (wi hw 76 rfl))) (mvT hZ (wi hw 76 rfl)) (mvT hZ (wi hw 75 rfl)) (by decide) (backOf (W := 0) (rmT l Z a0 hw [] a1 a2 bco bnx bpv bfb bpd bip bfi ben [0, 0, 0, 0] [2, -1, 3, 1] [-1, 3, 0, 2] [0, 0, 0, 0] [0, 0, 0, 0] [1, 0, 0, 0] (1 : Int32) (1 : Int32) T1828.heap n0 z1828 B1828 (by decide)) hZ (wi hw 77 rfl) (wi hw 29 rfl) (by decide) (by decide)) q1844a q1844c (g := (mkF m 418 #[iv p1, iv p2, iv p3, iv (0 : Int32), iv (0 : Int32), iv (2 : Int32), rv a2, rv a1, iv (2 : Int32), iv (1 : Int32), iv (1 : Int32), iv (2 : Int32), iv (3 : Int32), iv (1 : Int32), iv (1 : Int32), uv, uv, uv] [(.ref a1)])) rfl (by rw [hml]; rfl) (Steps.refl _) (argsL := []) (rest := []) (lenOf pd_14 rfl) rfl (by show 2 * 0 + _ ≤ _; exact Nat.le_of_eq rfl) (hb hby at_418) (fun _ _ => ⟨rfl, e1841, (by decide : 15 + 0 ≤ _), (by decide : 70 + 0 ≤ _)⟩)
  dsimp only [Pt.U, Pt.locs, Pt.cells, Pt.slots] at X1844 l1844 y1844 z1844 st1844 hQ1844
  subst l1844 y1844 z1844
  obtain ⟨rfl, N1844q, z1844, C1844⟩ := hQ1844
  have N1844 := Fr.app N1841 N1844q
  rw [(by rfl : own_take [0, 0, 0, 0] [2, -1, 3, 1] [-1, 3, 0, 2] [0, 0, 0, 0] [0, 0, 0, 0] [1, 0, 0, 0] (1 : Int32) (1 : Int32) = ([0, 0, 1, 0], [3, -1, -1, 1], [-1, 3, -1, 0], [0, 2, 0, 0], [0, 0, 0, 0], [1, 0, 0, 0], (2 : Int32), (1 : Int32)))] at C1844
  have B1844 : Cb Z T1844.heap n0 a1 a2 bco bnx bpv bfb bpd bip bfi ben [0, 0, 1, 0] [3, -1, -1, 1] [-1, 3, -1, 0] [0, 2, 0, 0] [0, 0, 0, 0] [1, 0, 0, 0] (2 : Int32) (1 : Int32) := C1844
  refine Rch.to (U' := T1844.setTop (mkF m 421 #[iv p1, iv p2, iv p3, iv (0 : Int32), iv (0 : Int32), iv (2 : Int32), rv a2, rv a1, iv (2 : Int32), iv (1 : Int32), iv (1 : Int32), iv (2 : Int32), iv (3 : Int32), iv (1 : Int32), iv (1 : Int32), uv, uv, uv] [(.int (own_sp [2, -1, 3, 1] [0, 0, 0, 0] [0, 0, 0, 0] (1 : Int32)))])) st1844 ?_
  rw [(by decide : own_sp [2, -1, 3, 1] [0, 0, 0, 0] [0, 0, 0, 0] (1 : Int32) = (2 : Int32))]
  refine Rch.go (U' := T1844.setTop (mkF m 423 #[iv p1, iv p2, iv p3, iv (0 : Int32), iv (0 : Int32), iv (2 : Int32), rv a2, rv a1, iv (2 : Int32), iv (1 : Int32), iv (1 : Int32), iv (2 : Int32), iv (3 : Int32), iv (1 : Int32), iv (1 : Int32), iv (2 : Int32), uv, uv] [])) (fun _ k => XS.istore X1844.here hx rfl (hb hby at_421) rfl (l' := #[iv p1, iv p2, iv p3, iv (0 : Int32), iv (0 : Int32), iv (2 : Int32), rv a2, rv a1, iv (2 : Int32), iv (1 : Int32), iv (1 : Int32), iv (2 : Int32), iv (3 : Int32), iv (1 : Int32), iv (1 : Int32), iv (2 : Int32), uv, uv]) rfl k) ?_
  refine Rch.go (U' := T1844.setTop (mkF m 425 #[iv p1, iv p2, iv p3, iv (0 : Int32), iv (0 : Int32), iv (2 : Int32), rv a2, rv a1, iv (2 : Int32), iv (1 : Int32), iv (1 : Int32), iv (2 : Int32), iv (3 : Int32), iv (1 : Int32), iv (1 : Int32), iv (2 : Int32), uv, uv] [(.ref a1)])) (fun _ k => XS.aload X1844.here hx rfl (hb hby at_423) rfl rfl k) ?_
  obtain ⟨cq1845, kq1845, q1845a, q1845b, q1845c⟩ := isOf hZ rfl B1844.1.1
  obtain ⟨_, _, ⟨T1845, L1845, k1845, n1845⟩, -, X1845, ⟨Lc1845, hQ1845, l1845, y1845, z1845⟩, st1845⟩ := X1844.virtualBack hx (y := yt) (z := yt) hown (mvT hZ (wi hw 73 rfl)) (mvT hZ (wi hw 74 rfl)) (notFace_of_selects (args := #[]) (mvT hZ (wi hw 76 rfl))) (mvT hZ (wi hw 76 rfl)) (mvT hZ (wi hw 75 rfl)) (by decide) (backOf (W := 0) (rmT l Z a0 hw [] a1 a2 bco bnx bpv bfb bpd bip bfi ben [0, 0, 1, 0] [3, -1, -1, 1] [-1, 3, -1, 0] [0, 2, 0, 0] [0, 0, 0, 0] [1, 0, 0, 0] (2 : Int32) (1 : Int32) T1844.heap n0 z1844 B1844 (by decide)) hZ (wi hw 77 rfl) (wi hw 29 rfl) (by decide) (by decide)) q1845a q1845c (g := (mkF m 425 #[iv p1, iv p2, iv p3, iv (0 : Int32), iv (0 : Int32), iv (2 : Int32), rv a2, rv a1, iv (2 : Int32), iv (1 : Int32), iv (1 : Int32), iv (2 : Int32), iv (3 : Int32), iv (1 : Int32), iv (1 : Int32), iv (2 : Int32), uv, uv] [(.ref a1)])) rfl (by rw [hml]; rfl) (Steps.refl _) (argsL := []) (rest := []) (lenOf pd_14 rfl) rfl (by show 2 * 0 + _ ≤ _; exact Nat.le_of_eq rfl) (hb hby at_425) (fun _ _ => ⟨rfl, rfl, (by decide : 15 + 0 ≤ _), (by decide : 70 + 0 ≤ _)⟩)
  dsimp only [Pt.U, Pt.locs, Pt.cells, Pt.slots] at X1845 l1845 y1845 z1845 st1845 hQ1845
  subst l1845 y1845 z1845
  obtain ⟨rfl, N1845q, z1845, C1845⟩ := hQ1845
  have N1845 := Fr.app N1844 N1845q
  rw [(by rfl : own_take [0, 0, 1, 0] [3, -1, -1, 1] [-1, 3, -1, 0] [0, 2, 0, 0] [0, 0, 0, 0] [1, 0, 0, 0] (2 : Int32) (1 : Int32) = ([0, 0, 1, 2], [1, -1, -1, -1], [-1, 0, -1, -1], [0, 2, 3, 0], [0, 0, 0, 0], [1, 0, 0, 0], (3 : Int32), (1 : Int32)))] at C1845
  have B1845 : Cb Z T1845.heap n0 a1 a2 bco bnx bpv bfb bpd bip bfi ben [0, 0, 1, 2] [1, -1, -1, -1] [-1, 0, -1, -1] [0, 2, 3, 0] [0, 0, 0, 0] [1, 0, 0, 0] (3 : Int32) (1 : Int32) := C1845
  refine Rch.to (U' := T1845.setTop (mkF m 428 #[iv p1, iv p2, iv p3, iv (0 : Int32), iv (0 : Int32), iv (2 : Int32), rv a2, rv a1, iv (2 : Int32), iv (1 : Int32), iv (1 : Int32), iv (2 : Int32), iv (3 : Int32), iv (1 : Int32), iv (1 : Int32), iv (2 : Int32), uv, uv] [(.int (own_sp [3, -1, -1, 1] [0, 2, 0, 0] [0, 0, 0, 0] (1 : Int32)))])) st1845 ?_
  rw [(by decide : own_sp [3, -1, -1, 1] [0, 2, 0, 0] [0, 0, 0, 0] (1 : Int32) = (3 : Int32))]
  refine Rch.go (U' := T1845.setTop (mkF m 430 #[iv p1, iv p2, iv p3, iv (0 : Int32), iv (0 : Int32), iv (2 : Int32), rv a2, rv a1, iv (2 : Int32), iv (1 : Int32), iv (1 : Int32), iv (2 : Int32), iv (3 : Int32), iv (1 : Int32), iv (1 : Int32), iv (2 : Int32), iv (3 : Int32), uv] [])) (fun _ k => XS.istore X1845.here hx rfl (hb hby at_428) rfl (l' := #[iv p1, iv p2, iv p3, iv (0 : Int32), iv (0 : Int32), iv (2 : Int32), rv a2, rv a1, iv (2 : Int32), iv (1 : Int32), iv (1 : Int32), iv (2 : Int32), iv (3 : Int32), iv (1 : Int32), iv (1 : Int32), iv (2 : Int32), iv (3 : Int32), uv]) rfl k) ?_
  refine Rch.go (U' := T1845.setTop (mkF m 432 #[iv p1, iv p2, iv p3, iv (0 : Int32), iv (0 : Int32), iv (2 : Int32), rv a2, rv a1, iv (2 : Int32), iv (1 : Int32), iv (1 : Int32), iv (2 : Int32), iv (3 : Int32), iv (1 : Int32), iv (1 : Int32), iv (2 : Int32), iv (3 : Int32), uv] [(.ref a1)])) (fun _ k => XS.aload X1845.here hx rfl (hb hby at_430) rfl rfl k) ?_
  obtain ⟨cq1846, kq1846, q1846a, q1846b, q1846c⟩ := isOf hZ rfl B1845.1.1
  obtain ⟨_, _, ⟨T1846, L1846, k1846, n1846⟩, -, X1846, ⟨Lc1846, hQ1846, l1846, y1846, z1846⟩, st1846⟩ := X1845.virtualBack hx (y := yt) (z := yt) hown (mvT hZ (wi hw 73 rfl)) (mvT hZ (wi hw 74 rfl)) (notFace_of_selects (args := #[]) (mvT hZ (wi hw 76 rfl))) (mvT hZ (wi hw 76 rfl)) (mvT hZ (wi hw 75 rfl)) (by decide) (backOf (W := 0) (rmT l Z a0 hw [] a1 a2 bco bnx bpv bfb bpd bip bfi ben [0, 0, 1, 2] [1, -1, -1, -1] [-1, 0, -1, -1] [0, 2, 3, 0] [0, 0, 0, 0] [1, 0, 0, 0] (3 : Int32) (1 : Int32) T1845.heap n0 z1845 B1845 (by decide)) hZ (wi hw 77 rfl) (wi hw 29 rfl) (by decide) (by decide)) q1846a q1846c (g := (mkF m 432 #[iv p1, iv p2, iv p3, iv (0 : Int32), iv (0 : Int32), iv (2 : Int32), rv a2, rv a1, iv (2 : Int32), iv (1 : Int32), iv (1 : Int32), iv (2 : Int32), iv (3 : Int32), iv (1 : Int32), iv (1 : Int32), iv (2 : Int32), iv (3 : Int32), uv] [(.ref a1)])) rfl (by rw [hml]; rfl) (Steps.refl _) (argsL := []) (rest := []) (lenOf pd_14 rfl) rfl (by show 2 * 0 + _ ≤ _; exact Nat.le_of_eq rfl) (hb hby at_432) (fun _ _ => ⟨rfl, rfl, (by decide : 15 + 0 ≤ _), (by decide : 70 + 0 ≤ _)⟩)
  dsimp only [Pt.U, Pt.locs, Pt.cells, Pt.slots] at X1846 l1846 y1846 z1846 st1846 hQ1846
  subst l1846 y1846 z1846
  obtain ⟨rfl, N1846q, z1846, C1846⟩ := hQ1846
  have N1846 := Fr.app N1845 N1846q
  rw [(by rfl : own_take [0, 0, 1, 2] [1, -1, -1, -1] [-1, 0, -1, -1] [0, 2, 3, 0] [0, 0, 0, 0] [1, 0, 0, 0] (3 : Int32) (1 : Int32) = ([0, 3, 1, 2], [-1, -1, -1, -1], [-1, -1, -1, -1], [0, 2, 3, 1], [0, 0, 0, 0], [0, 0, 0, 0], (4 : Int32), (0 : Int32)))] at C1846
  have B1846 : Cb Z T1846.heap n0 a1 a2 bco bnx bpv bfb bpd bip bfi ben [0, 3, 1, 2] [-1, -1, -1, -1] [-1, -1, -1, -1] [0, 2, 3, 1] [0, 0, 0, 0] [0, 0, 0, 0] (4 : Int32) (0 : Int32) := C1846
  refine Rch.to (U' := T1846.setTop (mkF m 435 #[iv p1, iv p2, iv p3, iv (0 : Int32), iv (0 : Int32), iv (2 : Int32), rv a2, rv a1, iv (2 : Int32), iv (1 : Int32), iv (1 : Int32), iv (2 : Int32), iv (3 : Int32), iv (1 : Int32), iv (1 : Int32), iv (2 : Int32), iv (3 : Int32), uv] [(.int (own_sp [1, -1, -1, -1] [0, 2, 3, 0] [0, 0, 0, 0] (1 : Int32)))])) st1846 ?_
  rw [(by decide : own_sp [1, -1, -1, -1] [0, 2, 3, 0] [0, 0, 0, 0] (1 : Int32) = (1 : Int32))]
  refine Rch.go (U' := T1846.setTop (mkF m 437 #[iv p1, iv p2, iv p3, iv (0 : Int32), iv (0 : Int32), iv (2 : Int32), rv a2, rv a1, iv (2 : Int32), iv (1 : Int32), iv (1 : Int32), iv (2 : Int32), iv (3 : Int32), iv (1 : Int32), iv (1 : Int32), iv (2 : Int32), iv (3 : Int32), iv (1 : Int32)] [])) (fun _ k => XS.istore X1846.here hx rfl (hb hby at_435) rfl (l' := #[iv p1, iv p2, iv p3, iv (0 : Int32), iv (0 : Int32), iv (2 : Int32), rv a2, rv a1, iv (2 : Int32), iv (1 : Int32), iv (1 : Int32), iv (2 : Int32), iv (3 : Int32), iv (1 : Int32), iv (1 : Int32), iv (2 : Int32), iv (3 : Int32), iv (1 : Int32)]) rfl k) ?_
  refine Rch.go (U' := T1846.setTop (mkF m 439 #[iv p1, iv p2, iv p3, iv (0 : Int32), iv (0 : Int32), iv (2 : Int32), rv a2, rv a1, iv (2 : Int32), iv (1 : Int32), iv (1 : Int32), iv (2 : Int32), iv (3 : Int32), iv (1 : Int32), iv (1 : Int32), iv (2 : Int32), iv (3 : Int32), iv (1 : Int32)] [(.int (2 : Int32))])) (fun _ k => XS.iload X1846.here hx rfl (hb hby at_437) rfl  k) ?_
  refine Rch.go (U' := T1846.setTop (mkF m 441 #[iv p1, iv p2, iv p3, iv (0 : Int32), iv (0 : Int32), iv (2 : Int32), rv a2, rv a1, iv (2 : Int32), iv (1 : Int32), iv (1 : Int32), iv (2 : Int32), iv (3 : Int32), iv (1 : Int32), iv (1 : Int32), iv (2 : Int32), iv (3 : Int32), iv (1 : Int32)] [(.int (2 : Int32)), (.int (2 : Int32))])) (fun _ k => XS.iload X1846.here hx rfl (hb hby at_439) rfl  k) ?_
  have br1847 : (2 : Int32) = (2 : Int32) := (by decide)
  refine Rch.go (U' := T1846.setTop (mkF m 444 #[iv p1, iv p2, iv p3, iv (0 : Int32), iv (0 : Int32), iv (2 : Int32), rv a2, rv a1, iv (2 : Int32), iv (1 : Int32), iv (1 : Int32), iv (2 : Int32), iv (3 : Int32), iv (1 : Int32), iv (1 : Int32), iv (2 : Int32), iv (3 : Int32), iv (1 : Int32)] [])) (fun _ k => XS.icmpNo X1846.here hx rfl (hb hby at_441) rfl (XT.ii_ne_f br1847) k) ?_
  refine Rch.go (U' := T1846.setTop (mkF m 446 #[iv p1, iv p2, iv p3, iv (0 : Int32), iv (0 : Int32), iv (2 : Int32), rv a2, rv a1, iv (2 : Int32), iv (1 : Int32), iv (1 : Int32), iv (2 : Int32), iv (3 : Int32), iv (1 : Int32), iv (1 : Int32), iv (2 : Int32), iv (3 : Int32), iv (1 : Int32)] [(.int (3 : Int32))])) (fun _ k => XS.iload X1846.here hx rfl (hb hby at_444) rfl  k) ?_
  refine Rch.go (U' := T1846.setTop (mkF m 448 #[iv p1, iv p2, iv p3, iv (0 : Int32), iv (0 : Int32), iv (2 : Int32), rv a2, rv a1, iv (2 : Int32), iv (1 : Int32), iv (1 : Int32), iv (2 : Int32), iv (3 : Int32), iv (1 : Int32), iv (1 : Int32), iv (2 : Int32), iv (3 : Int32), iv (1 : Int32)] [(.int (3 : Int32)), (.int (3 : Int32))])) (fun _ k => XS.iload X1846.here hx rfl (hb hby at_446) rfl  k) ?_
  have br1848 : (3 : Int32) = (3 : Int32) := (by decide)
  refine Rch.go (U' := T1846.setTop (mkF m 451 #[iv p1, iv p2, iv p3, iv (0 : Int32), iv (0 : Int32), iv (2 : Int32), rv a2, rv a1, iv (2 : Int32), iv (1 : Int32), iv (1 : Int32), iv (2 : Int32), iv (3 : Int32), iv (1 : Int32), iv (1 : Int32), iv (2 : Int32), iv (3 : Int32), iv (1 : Int32)] [])) (fun _ k => XS.icmpNo X1846.here hx rfl (hb hby at_448) rfl (XT.ii_ne_f br1848) k) ?_
  refine Rch.go (U' := T1846.setTop (mkF m 453 #[iv p1, iv p2, iv p3, iv (0 : Int32), iv (0 : Int32), iv (2 : Int32), rv a2, rv a1, iv (2 : Int32), iv (1 : Int32), iv (1 : Int32), iv (2 : Int32), iv (3 : Int32), iv (1 : Int32), iv (1 : Int32), iv (2 : Int32), iv (3 : Int32), iv (1 : Int32)] [(.int (1 : Int32))])) (fun _ k => XS.iload X1846.here hx rfl (hb hby at_451) rfl  k) ?_
  refine Rch.go (U' := T1846.setTop (mkF m 455 #[iv p1, iv p2, iv p3, iv (0 : Int32), iv (0 : Int32), iv (2 : Int32), rv a2, rv a1, iv (2 : Int32), iv (1 : Int32), iv (1 : Int32), iv (2 : Int32), iv (3 : Int32), iv (1 : Int32), iv (1 : Int32), iv (2 : Int32), iv (3 : Int32), iv (1 : Int32)] [(.int (1 : Int32)), (.int (1 : Int32))])) (fun _ k => XS.iload X1846.here hx rfl (hb hby at_453) rfl  k) ?_
  have br1849 : (1 : Int32) = (1 : Int32) := (by decide)
  refine Rch.go (U' := T1846.setTop (mkF m 458 #[iv p1, iv p2, iv p3, iv (0 : Int32), iv (0 : Int32), iv (2 : Int32), rv a2, rv a1, iv (2 : Int32), iv (1 : Int32), iv (1 : Int32), iv (2 : Int32), iv (3 : Int32), iv (1 : Int32), iv (1 : Int32), iv (2 : Int32), iv (3 : Int32), iv (1 : Int32)] [])) (fun _ k => XS.icmpNo X1846.here hx rfl (hb hby at_455) rfl (XT.ii_ne_f br1849) k) ?_
  refine Rch.go (U' := T1846.setTop (mkF m 460 #[iv p1, iv p2, iv p3, iv (0 : Int32), iv (0 : Int32), iv (2 : Int32), rv a2, rv a1, iv (2 : Int32), iv (1 : Int32), iv (1 : Int32), iv (2 : Int32), iv (3 : Int32), iv (1 : Int32), iv (1 : Int32), iv (2 : Int32), iv (3 : Int32), iv (1 : Int32)] [(.ref a1)])) (fun _ k => XS.aload X1846.here hx rfl (hb hby at_458) rfl rfl k) ?_
  obtain ⟨cq1850, kq1850, q1850a, q1850b, q1850c⟩ := isOf hZ rfl B1846.1.1
  obtain ⟨_, _, ⟨T1850, L1850, k1850, n1850⟩, -, X1850, ⟨Lc1850, hQ1850, l1850, y1850, z1850⟩, st1850⟩ := X1846.virtualBack hx (y := yhs) (z := yhs) hown (mvT hZ (wi hw 63 rfl)) (mvT hZ (wi hw 64 rfl)) (notFace_of_selects (args := #[]) (mvT hZ (wi hw 66 rfl))) (mvT hZ (wi hw 66 rfl)) (mvT hZ (wi hw 65 rfl)) (by decide) (backOf (W := 0) (rmHs l Z a0 hw [] a1 a2 bco bnx bpv bfb bpd bip bfi ben [0, 3, 1, 2] [-1, -1, -1, -1] [-1, -1, -1, -1] [0, 2, 3, 1] [0, 0, 0, 0] [0, 0, 0, 0] (4 : Int32) (0 : Int32)  T1846.heap n0 z1846 B1846 ) hZ (wi hw 67 rfl) (wi hw 29 rfl) (by decide) (by decide)) q1850a q1850c (g := (mkF m 460 #[iv p1, iv p2, iv p3, iv (0 : Int32), iv (0 : Int32), iv (2 : Int32), rv a2, rv a1, iv (2 : Int32), iv (1 : Int32), iv (1 : Int32), iv (2 : Int32), iv (3 : Int32), iv (1 : Int32), iv (1 : Int32), iv (2 : Int32), iv (3 : Int32), iv (1 : Int32)] [(.ref a1)])) rfl (by rw [hml]; rfl) (Steps.refl _) (argsL := []) (rest := []) (lenOf pd_15 rfl) rfl (by show 2 * 0 + _ ≤ _; exact Nat.le_of_eq rfl) (hb hby at_460) (fun _ _ => ⟨rfl, rfl, (by decide : 15 + 0 ≤ _), (by decide : 70 + 0 ≤ _)⟩)
  dsimp only [Pt.U, Pt.locs, Pt.cells, Pt.slots] at X1850 l1850 y1850 z1850 st1850 hQ1850
  subst l1850 y1850 z1850
  obtain ⟨rfl, N1850q, e1850⟩ := hQ1850
  have N1850 := Fr.app N1846 N1850q
  refine Rch.to (U' := T1850.setTop (mkF m 463 #[iv p1, iv p2, iv p3, iv (0 : Int32), iv (0 : Int32), iv (2 : Int32), rv a2, rv a1, iv (2 : Int32), iv (1 : Int32), iv (1 : Int32), iv (2 : Int32), iv (3 : Int32), iv (1 : Int32), iv (1 : Int32), iv (2 : Int32), iv (3 : Int32), iv (1 : Int32)] [(.int (own_pos (0 : Int32)))])) st1850 ?_
  rw [(by decide : (own_pos (0 : Int32)) = (0 : Int32))]
  have br1851 : (0 : Int32) = (0 : Int32) := (by decide)
  refine Rch.go (U' := T1850.setTop (mkF m 466 #[iv p1, iv p2, iv p3, iv (0 : Int32), iv (0 : Int32), iv (2 : Int32), rv a2, rv a1, iv (2 : Int32), iv (1 : Int32), iv (1 : Int32), iv (2 : Int32), iv (3 : Int32), iv (1 : Int32), iv (1 : Int32), iv (2 : Int32), iv (3 : Int32), iv (1 : Int32)] [])) (fun _ k => XS.ifNo X1850.here hx rfl (hb hby at_463) rfl (XT.i0_ne_f br1851) k) ?_
  refine Rch.go (U' := T1850.setTop (mkF m 467 #[iv p1, iv p2, iv p3, iv (0 : Int32), iv (0 : Int32), iv (2 : Int32), rv a2, rv a1, iv (2 : Int32), iv (1 : Int32), iv (1 : Int32), iv (2 : Int32), iv (3 : Int32), iv (1 : Int32), iv (1 : Int32), iv (2 : Int32), iv (3 : Int32), iv (1 : Int32)] [(.int (1 : Int32))])) (fun _ k => XS.iconst X1850.here hx rfl (hb hby at_466) k) ?_
  refine Rch.go (U' := T1850.setTop (mkF m 471 #[iv p1, iv p2, iv p3, iv (0 : Int32), iv (0 : Int32), iv (2 : Int32), rv a2, rv a1, iv (2 : Int32), iv (1 : Int32), iv (1 : Int32), iv (2 : Int32), iv (3 : Int32), iv (1 : Int32), iv (1 : Int32), iv (2 : Int32), iv (3 : Int32), iv (1 : Int32)] [(.int (1 : Int32))])) (fun _ k => XS.goto X1850.here hx rfl (pc0 := 467) (pc' := 471) rfl (hb hby at_467) (by decide) (by decide) k) ?_
  refine Rch.fin X1850 hlk (v := some (.int (nar .boolean (1 : Int32)))) (fun h => by rw [hret] at h; cases h) e1850 (by decide) (by decide) (fun fs hr => retN X1850 hx (t := .boolean) hret (by simp) (hb hby at_471) hr) ?_
  exact ⟨rfl, N1850⟩
set_option maxRecDepth 65536 in
set_option maxHeartbeats 40000000 in
theorem cut54_010 {p : Program} {l : Launch} {e : Env} {s : State} {m : MethodId} {args : Array Value} {below : List Frame} {meth : Method} {c : Code} {T0 : State} {locs : List Loc} {Z : State} {a0 : Array Value} {h0 : Heap} {n0 : Nat}  (p1 : Int32) (p2 : Int32) (p3 : Int32) (a1 : Addr) (a2 : Addr) (bco : Addr) (bnx : Addr) (bpv : Addr) (bfb : Addr) (bpd : Addr) (bip : Addr) (bfi : Addr) (ben : Addr)
    (X0 : Stand p l e room_1 s m args below meth c T0 locs 15 70) (hx : p.tables.exec = Jvm.exec) (hZ : Z.Warmed39 s.vm) (hw : ∀ d ∈ tables_1, d.before a0 Z = true) (hby : c.code = code) (hml : c.maxLocals = 18) (hown : s.vm.findClass cLW = some m.cls) (hret : meth.sig.returnType = some .boolean) (hlk : meth.locks = false) (e0 : T0.heap = h0) (N0 : Fr n0 locs) (Z0 : n0 ≤ h0.size) (B : Cb Z h0 n0 a1 a2 bco bnx bpv bfb bpd bip bfi ben [0, 0, 0, 0] [1, -1, 0, 0] [-1, 0, 0, 0] [0, 0, 0, 0] [0, 0, 0, 0] [1, 0, 0, 0] (1 : Int32) (1 : Int32)) :
    Rch p e below (Fin s below (fun v h L => v = some (.int 1) ∧ Fr n0 L) 40 256) (T0.setTop (mkF m 54 #[iv p1, iv p2, iv p3, iv (0 : Int32), iv (1 : Int32), iv (0 : Int32), rv a2, rv a1, uv, uv, uv, uv, uv, uv, uv, uv, uv, uv] [])) := by
  refine Rch.go (U' := T0.setTop (mkF m 55 #[iv p1, iv p2, iv p3, iv (0 : Int32), iv (1 : Int32), iv (0 : Int32), rv a2, rv a1, uv, uv, uv, uv, uv, uv, uv, uv, uv, uv] [(.int (0 : Int32))])) (fun _ k => XS.iloadN X0.here hx rfl (hb hby at_54) rfl  k) ?_
  have br1852 : (0 : Int32) = (0 : Int32) := (by decide)
  refine Rch.go (U' := T0.setTop (mkF m 255 #[iv p1, iv p2, iv p3, iv (0 : Int32), iv (1 : Int32), iv (0 : Int32), rv a2, rv a1, uv, uv, uv, uv, uv, uv, uv, uv, uv, uv] [])) (fun _ k => XS.ifYes X0.here hx rfl (pc0 := 55) (pc' := 255) rfl (hb hby at_55) rfl (XT.i0_eq_t br1852) (by decide) (by decide) k) ?_
  refine Rch.go (U' := T0.setTop (mkF m 257 #[iv p1, iv p2, iv p3, iv (0 : Int32), iv (1 : Int32), iv (0 : Int32), rv a2, rv a1, uv, uv, uv, uv, uv, uv, uv, uv, uv, uv] [(.ref a1)])) (fun _ k => XS.aload X0.here hx rfl (hb hby at_255) rfl rfl k) ?_
  refine Rch.go (U' := T0.setTop (mkF m 259 #[iv p1, iv p2, iv p3, iv (0 : Int32), iv (1 : Int32), iv (0 : Int32), rv a2, rv a1, uv, uv, uv, uv, uv, uv, uv, uv, uv, uv] [(.int (1 : Int32)), (.ref a1)])) (fun _ k => XS.iload X0.here hx rfl (hb hby at_257) rfl  k) ?_
  refine Rch.go (U' := T0.setTop (mkF m 260 #[iv p1, iv p2, iv p3, iv (0 : Int32), iv (1 : Int32), iv (0 : Int32), rv a2, rv a1, uv, uv, uv, uv, uv, uv, uv, uv, uv, uv] [(.int (2 : Int32)), (.int (1 : Int32)), (.ref a1)])) (fun _ k => XS.iconst X0.here hx rfl (hb hby at_259) k) ?_
  obtain ⟨cq1853, kq1853, q1853a, q1853b, q1853c⟩ := isOf hZ e0 B.1.1
  obtain ⟨_, _, ⟨T1853, L1853, k1853, n1853⟩, -, X1853, ⟨Lc1853, hQ1853, l1853, y1853, z1853⟩, st1853⟩ := X0.virtualBack hx (y := yj) (z := yj) hown (mvT hZ (wi hw 51 rfl)) (mvT hZ (wi hw 52 rfl)) (notFace_of_selects (args := #[]) (mvT hZ (wi hw 54 rfl))) (mvT hZ (wi hw 54 rfl)) (mvT hZ (wi hw 53 rfl)) (by decide) (backOf (W := 0) (rmJ l Z a0 hw [] a1 a2 bco bnx bpv bfb bpd bip bfi ben [0, 0, 0, 0] [1, -1, 0, 0] [-1, 0, 0, 0] [0, 0, 0, 0] [0, 0, 0, 0] [1, 0, 0, 0] (1 : Int32) (1 : Int32) (1 : Int32) (2 : Int32) h0 n0 Z0 B (by decide)) hZ (wi hw 55 rfl) (wi hw 29 rfl) (by decide) (by decide)) q1853a q1853c (g := (mkF m 260 #[iv p1, iv p2, iv p3, iv (0 : Int32), iv (1 : Int32), iv (0 : Int32), rv a2, rv a1, uv, uv, uv, uv, uv, uv, uv, uv, uv, uv] [(.int (2 : Int32)), (.int (1 : Int32)), (.ref a1)])) rfl (by rw [hml]; rfl) (Steps.refl _) (argsL := [(.int (1 : Int32)), (.int (2 : Int32))]) (rest := []) (lenOf pd_8 rfl) rfl (by show 2 * 0 + _ ≤ _; exact Nat.le_of_eq rfl) (hb hby at_260) (fun _ _ => ⟨rfl, e0, (by decide : 15 + 0 ≤ _), (by decide : 70 + 0 ≤ _)⟩)
  dsimp only [Pt.U, Pt.locs, Pt.cells, Pt.slots] at X1853 l1853 y1853 z1853 st1853 hQ1853
  subst l1853 y1853 z1853
  obtain ⟨rfl, N1853q, z1853, C1853⟩ := hQ1853
  have N1853 := Fr.app N0 N1853q
  rw [(by rfl : own_join [0, 0, 0, 0] [1, -1, 0, 0] [-1, 0, 0, 0] [0, 0, 0, 0] [0, 0, 0, 0] [1, 0, 0, 0] (1 : Int32) (1 : Int32) (1 : Int32) (2 : Int32) = ([0, 0, 0, 0], [1, 2, -1, 0], [-1, 0, 1, 0], [0, 0, 0, 0], [0, 0, 0, 0], [1, 0, 0, 0], (1 : Int32), (1 : Int32)))] at C1853
  have B1853 : Cb Z T1853.heap n0 a1 a2 bco bnx bpv bfb bpd bip bfi ben [0, 0, 0, 0] [1, 2, -1, 0] [-1, 0, 1, 0] [0, 0, 0, 0] [0, 0, 0, 0] [1, 0, 0, 0] (1 : Int32) (1 : Int32) := C1853
  refine Rch.to (U' := T1853.setTop (mkF m 263 #[iv p1, iv p2, iv p3, iv (0 : Int32), iv (1 : Int32), iv (0 : Int32), rv a2, rv a1, uv, uv, uv, uv, uv, uv, uv, uv, uv, uv] [])) st1853 ?_
  refine Rch.go (U' := T1853.setTop (mkF m 265 #[iv p1, iv p2, iv p3, iv (0 : Int32), iv (1 : Int32), iv (0 : Int32), rv a2, rv a1, uv, uv, uv, uv, uv, uv, uv, uv, uv, uv] [(.ref a1)])) (fun _ k => XS.aload X1853.here hx rfl (hb hby at_263) rfl rfl k) ?_
  refine Rch.go (U' := T1853.setTop (mkF m 267 #[iv p1, iv p2, iv p3, iv (0 : Int32), iv (1 : Int32), iv (0 : Int32), rv a2, rv a1, uv, uv, uv, uv, uv, uv, uv, uv, uv, uv] [(.int (0 : Int32)), (.ref a1)])) (fun _ k => XS.iload X1853.here hx rfl (hb hby at_265) rfl  k) ?_
  refine Rch.go (U' := T1853.setTop (mkF m 268 #[iv p1, iv p2, iv p3, iv (0 : Int32), iv (1 : Int32), iv (0 : Int32), rv a2, rv a1, uv, uv, uv, uv, uv, uv, uv, uv, uv, uv] [(.int (3 : Int32)), (.int (0 : Int32)), (.ref a1)])) (fun _ k => XS.iconst X1853.here hx rfl (hb hby at_267) k) ?_
  obtain ⟨cq1854, kq1854, q1854a, q1854b, q1854c⟩ := isOf hZ rfl B1853.1.1
  obtain ⟨_, _, ⟨T1854, L1854, k1854, n1854⟩, -, X1854, ⟨Lc1854, hQ1854, l1854, y1854, z1854⟩, st1854⟩ := X1853.virtualBack hx (y := yj) (z := yj) hown (mvT hZ (wi hw 51 rfl)) (mvT hZ (wi hw 52 rfl)) (notFace_of_selects (args := #[]) (mvT hZ (wi hw 54 rfl))) (mvT hZ (wi hw 54 rfl)) (mvT hZ (wi hw 53 rfl)) (by decide) (backOf (W := 0) (rmJ l Z a0 hw [] a1 a2 bco bnx bpv bfb bpd bip bfi ben [0, 0, 0, 0] [1, 2, -1, 0] [-1, 0, 1, 0] [0, 0, 0, 0] [0, 0, 0, 0] [1, 0, 0, 0] (1 : Int32) (1 : Int32) (0 : Int32) (3 : Int32) T1853.heap n0 z1853 B1853 (by decide)) hZ (wi hw 55 rfl) (wi hw 29 rfl) (by decide) (by decide)) q1854a q1854c (g := (mkF m 268 #[iv p1, iv p2, iv p3, iv (0 : Int32), iv (1 : Int32), iv (0 : Int32), rv a2, rv a1, uv, uv, uv, uv, uv, uv, uv, uv, uv, uv] [(.int (3 : Int32)), (.int (0 : Int32)), (.ref a1)])) rfl (by rw [hml]; rfl) (Steps.refl _) (argsL := [(.int (0 : Int32)), (.int (3 : Int32))]) (rest := []) (lenOf pd_8 rfl) rfl (by show 2 * 0 + _ ≤ _; exact Nat.le_of_eq rfl) (hb hby at_268) (fun _ _ => ⟨rfl, rfl, (by decide : 15 + 0 ≤ _), (by decide : 70 + 0 ≤ _)⟩)
  dsimp only [Pt.U, Pt.locs, Pt.cells, Pt.slots] at X1854 l1854 y1854 z1854 st1854 hQ1854
  subst l1854 y1854 z1854
  obtain ⟨rfl, N1854q, z1854, C1854⟩ := hQ1854
  have N1854 := Fr.app N1853 N1854q
  rw [(by rfl : own_join [0, 0, 0, 0] [1, 2, -1, 0] [-1, 0, 1, 0] [0, 0, 0, 0] [0, 0, 0, 0] [1, 0, 0, 0] (1 : Int32) (1 : Int32) (0 : Int32) (3 : Int32) = ([0, 0, 0, 0], [3, 2, -1, 1], [-1, 3, 1, 0], [0, 0, 0, 0], [0, 0, 0, 0], [1, 0, 0, 0], (1 : Int32), (1 : Int32)))] at C1854
  have B1854 : Cb Z T1854.heap n0 a1 a2 bco bnx bpv bfb bpd bip bfi ben [0, 0, 0, 0] [3, 2, -1, 1] [-1, 3, 1, 0] [0, 0, 0, 0] [0, 0, 0, 0] [1, 0, 0, 0] (1 : Int32) (1 : Int32) := C1854
  refine Rch.to (U' := T1854.setTop (mkF m 271 #[iv p1, iv p2, iv p3, iv (0 : Int32), iv (1 : Int32), iv (0 : Int32), rv a2, rv a1, uv, uv, uv, uv, uv, uv, uv, uv, uv, uv] [])) st1854 ?_
  refine Rch.go (U' := T1854.setTop (mkF m 273 #[iv p1, iv p2, iv p3, iv (0 : Int32), iv (1 : Int32), iv (0 : Int32), rv a2, rv a1, uv, uv, uv, uv, uv, uv, uv, uv, uv, uv] [(.int (1 : Int32))])) (fun _ k => XS.iload X1854.here hx rfl (hb hby at_271) rfl  k) ?_
  have br1855 : ¬ ((1 : Int32) = (0 : Int32)) := (by decide)
  refine Rch.go (U' := T1854.setTop (mkF m 280 #[iv p1, iv p2, iv p3, iv (0 : Int32), iv (1 : Int32), iv (0 : Int32), rv a2, rv a1, uv, uv, uv, uv, uv, uv, uv, uv, uv, uv] [])) (fun _ k => XS.ifYes X1854.here hx rfl (pc0 := 273) (pc' := 280) rfl (hb hby at_273) rfl (XT.i0_ne_t br1855) (by decide) (by decide) k) ?_
  refine Rch.go (U' := T1854.setTop (mkF m 281 #[iv p1, iv p2, iv p3, iv (0 : Int32), iv (1 : Int32), iv (0 : Int32), rv a2, rv a1, uv, uv, uv, uv, uv, uv, uv, uv, uv, uv] [(.int (1 : Int32))])) (fun _ k => XS.iconst X1854.here hx rfl (hb hby at_280) k) ?_
  refine Rch.go (U' := T1854.setTop (mkF m 283 #[iv p1, iv p2, iv p3, iv (0 : Int32), iv (1 : Int32), iv (0 : Int32), rv a2, rv a1, iv (1 : Int32), uv, uv, uv, uv, uv, uv, uv, uv, uv] [])) (fun _ k => XS.istore X1854.here hx rfl (hb hby at_281) rfl (l' := #[iv p1, iv p2, iv p3, iv (0 : Int32), iv (1 : Int32), iv (0 : Int32), rv a2, rv a1, iv (1 : Int32), uv, uv, uv, uv, uv, uv, uv, uv, uv]) rfl k) ?_
  refine Rch.go (U' := T1854.setTop (mkF m 285 #[iv p1, iv p2, iv p3, iv (0 : Int32), iv (1 : Int32), iv (0 : Int32), rv a2, rv a1, iv (1 : Int32), uv, uv, uv, uv, uv, uv, uv, uv, uv] [(.int (1 : Int32))])) (fun _ k => XS.iload X1854.here hx rfl (hb hby at_283) rfl  k) ?_
  have br1856 : ¬ ((1 : Int32) = (0 : Int32)) := (by decide)
  refine Rch.go (U' := T1854.setTop (mkF m 292 #[iv p1, iv p2, iv p3, iv (0 : Int32), iv (1 : Int32), iv (0 : Int32), rv a2, rv a1, iv (1 : Int32), uv, uv, uv, uv, uv, uv, uv, uv, uv] [])) (fun _ k => XS.ifYes X1854.here hx rfl (pc0 := 285) (pc' := 292) rfl (hb hby at_285) rfl (XT.i0_ne_t br1856) (by decide) (by decide) k) ?_
  refine Rch.go (U' := T1854.setTop (mkF m 293 #[iv p1, iv p2, iv p3, iv (0 : Int32), iv (1 : Int32), iv (0 : Int32), rv a2, rv a1, iv (1 : Int32), uv, uv, uv, uv, uv, uv, uv, uv, uv] [(.int (2 : Int32))])) (fun _ k => XS.iconst X1854.here hx rfl (hb hby at_292) k) ?_
  refine Rch.go (U' := T1854.setTop (mkF m 295 #[iv p1, iv p2, iv p3, iv (0 : Int32), iv (1 : Int32), iv (0 : Int32), rv a2, rv a1, iv (1 : Int32), iv (2 : Int32), uv, uv, uv, uv, uv, uv, uv, uv] [])) (fun _ k => XS.istore X1854.here hx rfl (hb hby at_293) rfl (l' := #[iv p1, iv p2, iv p3, iv (0 : Int32), iv (1 : Int32), iv (0 : Int32), rv a2, rv a1, iv (1 : Int32), iv (2 : Int32), uv, uv, uv, uv, uv, uv, uv, uv]) rfl k) ?_
  refine Rch.go (U' := T1854.setTop (mkF m 297 #[iv p1, iv p2, iv p3, iv (0 : Int32), iv (1 : Int32), iv (0 : Int32), rv a2, rv a1, iv (1 : Int32), iv (2 : Int32), uv, uv, uv, uv, uv, uv, uv, uv] [(.int (0 : Int32))])) (fun _ k => XS.iload X1854.here hx rfl (hb hby at_295) rfl  k) ?_
  have br1857 : (0 : Int32) = (0 : Int32) := (by decide)
  refine Rch.go (U' := T1854.setTop (mkF m 300 #[iv p1, iv p2, iv p3, iv (0 : Int32), iv (1 : Int32), iv (0 : Int32), rv a2, rv a1, iv (1 : Int32), iv (2 : Int32), uv, uv, uv, uv, uv, uv, uv, uv] [])) (fun _ k => XS.ifNo X1854.here hx rfl (hb hby at_297) rfl (XT.i0_ne_f br1857) k) ?_
  refine Rch.go (U' := T1854.setTop (mkF m 301 #[iv p1, iv p2, iv p3, iv (0 : Int32), iv (1 : Int32), iv (0 : Int32), rv a2, rv a1, iv (1 : Int32), iv (2 : Int32), uv, uv, uv, uv, uv, uv, uv, uv] [(.int (0 : Int32))])) (fun _ k => XS.iconst X1854.here hx rfl (hb hby at_300) k) ?_
  refine Rch.go (U' := T1854.setTop (mkF m 316 #[iv p1, iv p2, iv p3, iv (0 : Int32), iv (1 : Int32), iv (0 : Int32), rv a2, rv a1, iv (1 : Int32), iv (2 : Int32), uv, uv, uv, uv, uv, uv, uv, uv] [(.int (0 : Int32))])) (fun _ k => XS.goto X1854.here hx rfl (pc0 := 301) (pc' := 316) rfl (hb hby at_301) (by decide) (by decide) k) ?_
  refine Rch.go (U' := T1854.setTop (mkF m 318 #[iv p1, iv p2, iv p3, iv (0 : Int32), iv (1 : Int32), iv (0 : Int32), rv a2, rv a1, iv (1 : Int32), iv (2 : Int32), iv (0 : Int32), uv, uv, uv, uv, uv, uv, uv] [])) (fun _ k => XS.istore X1854.here hx rfl (hb hby at_316) rfl (l' := #[iv p1, iv p2, iv p3, iv (0 : Int32), iv (1 : Int32), iv (0 : Int32), rv a2, rv a1, iv (1 : Int32), iv (2 : Int32), iv (0 : Int32), uv, uv, uv, uv, uv, uv, uv]) rfl k) ?_
  refine Rch.go (U' := T1854.setTop (mkF m 320 #[iv p1, iv p2, iv p3, iv (0 : Int32), iv (1 : Int32), iv (0 : Int32), rv a2, rv a1, iv (1 : Int32), iv (2 : Int32), iv (0 : Int32), uv, uv, uv, uv, uv, uv, uv] [(.int (0 : Int32))])) (fun _ k => XS.iload X1854.here hx rfl (hb hby at_318) rfl  k) ?_
  have br1858 : (0 : Int32) = (0 : Int32) := (by decide)
  refine Rch.go (U' := T1854.setTop (mkF m 323 #[iv p1, iv p2, iv p3, iv (0 : Int32), iv (1 : Int32), iv (0 : Int32), rv a2, rv a1, iv (1 : Int32), iv (2 : Int32), iv (0 : Int32), uv, uv, uv, uv, uv, uv, uv] [])) (fun _ k => XS.ifNo X1854.here hx rfl (hb hby at_320) rfl (XT.i0_ne_f br1858) k) ?_
  refine Rch.go (U' := T1854.setTop (mkF m 324 #[iv p1, iv p2, iv p3, iv (0 : Int32), iv (1 : Int32), iv (0 : Int32), rv a2, rv a1, iv (1 : Int32), iv (2 : Int32), iv (0 : Int32), uv, uv, uv, uv, uv, uv, uv] [(.int (3 : Int32))])) (fun _ k => XS.iconst X1854.here hx rfl (hb hby at_323) k) ?_
  refine Rch.go (U' := T1854.setTop (mkF m 326 #[iv p1, iv p2, iv p3, iv (0 : Int32), iv (1 : Int32), iv (0 : Int32), rv a2, rv a1, iv (1 : Int32), iv (2 : Int32), iv (0 : Int32), iv (3 : Int32), uv, uv, uv, uv, uv, uv] [])) (fun _ k => XS.istore X1854.here hx rfl (hb hby at_324) rfl (l' := #[iv p1, iv p2, iv p3, iv (0 : Int32), iv (1 : Int32), iv (0 : Int32), rv a2, rv a1, iv (1 : Int32), iv (2 : Int32), iv (0 : Int32), iv (3 : Int32), uv, uv, uv, uv, uv, uv]) rfl k) ?_
  refine Rch.go (U' := T1854.setTop (mkF m 328 #[iv p1, iv p2, iv p3, iv (0 : Int32), iv (1 : Int32), iv (0 : Int32), rv a2, rv a1, iv (1 : Int32), iv (2 : Int32), iv (0 : Int32), iv (3 : Int32), uv, uv, uv, uv, uv, uv] [(.int (1 : Int32))])) (fun _ k => XS.iload X1854.here hx rfl (hb hby at_326) rfl  k) ?_
  refine Rch.go (U' := T1854.setTop (mkF m 330 #[iv p1, iv p2, iv p3, iv (0 : Int32), iv (1 : Int32), iv (0 : Int32), rv a2, rv a1, iv (1 : Int32), iv (2 : Int32), iv (0 : Int32), iv (3 : Int32), iv (1 : Int32), uv, uv, uv, uv, uv] [])) (fun _ k => XS.istore X1854.here hx rfl (hb hby at_328) rfl (l' := #[iv p1, iv p2, iv p3, iv (0 : Int32), iv (1 : Int32), iv (0 : Int32), rv a2, rv a1, iv (1 : Int32), iv (2 : Int32), iv (0 : Int32), iv (3 : Int32), iv (1 : Int32), uv, uv, uv, uv, uv]) rfl k) ?_
  refine Rch.go (U' := T1854.setTop (mkF m 332 #[iv p1, iv p2, iv p3, iv (0 : Int32), iv (1 : Int32), iv (0 : Int32), rv a2, rv a1, iv (1 : Int32), iv (2 : Int32), iv (0 : Int32), iv (3 : Int32), iv (1 : Int32), uv, uv, uv, uv, uv] [(.int (2 : Int32))])) (fun _ k => XS.iload X1854.here hx rfl (hb hby at_330) rfl  k) ?_
  refine Rch.go (U' := T1854.setTop (mkF m 334 #[iv p1, iv p2, iv p3, iv (0 : Int32), iv (1 : Int32), iv (0 : Int32), rv a2, rv a1, iv (1 : Int32), iv (2 : Int32), iv (0 : Int32), iv (3 : Int32), iv (1 : Int32), iv (2 : Int32), uv, uv, uv, uv] [])) (fun _ k => XS.istore X1854.here hx rfl (hb hby at_332) rfl (l' := #[iv p1, iv p2, iv p3, iv (0 : Int32), iv (1 : Int32), iv (0 : Int32), rv a2, rv a1, iv (1 : Int32), iv (2 : Int32), iv (0 : Int32), iv (3 : Int32), iv (1 : Int32), iv (2 : Int32), uv, uv, uv, uv]) rfl k) ?_
  refine Rch.go (U' := T1854.setTop (mkF m 368 #[iv p1, iv p2, iv p3, iv (0 : Int32), iv (1 : Int32), iv (0 : Int32), rv a2, rv a1, iv (1 : Int32), iv (2 : Int32), iv (0 : Int32), iv (3 : Int32), iv (1 : Int32), iv (2 : Int32), uv, uv, uv, uv] [])) (fun _ k => XS.goto X1854.here hx rfl (pc0 := 334) (pc' := 368) rfl (hb hby at_334) (by decide) (by decide) k) ?_
  refine Rch.go (U' := T1854.setTop (mkF m 370 #[iv p1, iv p2, iv p3, iv (0 : Int32), iv (1 : Int32), iv (0 : Int32), rv a2, rv a1, iv (1 : Int32), iv (2 : Int32), iv (0 : Int32), iv (3 : Int32), iv (1 : Int32), iv (2 : Int32), uv, uv, uv, uv] [(.ref a1)])) (fun _ k => XS.aload X1854.here hx rfl (hb hby at_368) rfl rfl k) ?_
  refine Rch.go (U' := T1854.setTop (mkF m 371 #[iv p1, iv p2, iv p3, iv (0 : Int32), iv (1 : Int32), iv (0 : Int32), rv a2, rv a1, iv (1 : Int32), iv (2 : Int32), iv (0 : Int32), iv (3 : Int32), iv (1 : Int32), iv (2 : Int32), uv, uv, uv, uv] [(.int (2 : Int32)), (.ref a1)])) (fun _ k => XS.iconst X1854.here hx rfl (hb hby at_370) k) ?_
  obtain ⟨cq1859, kq1859, q1859a, q1859b, q1859c⟩ := isOf hZ rfl B1854.1.1
  obtain ⟨_, _, ⟨T1859, L1859, k1859, n1859⟩, -, X1859, ⟨Lc1859, hQ1859, l1859, y1859, z1859⟩, st1859⟩ := X1854.virtualBack hx (y := yc) (z := yc) hown (mvT hZ (wi hw 58 rfl)) (mvT hZ (wi hw 59 rfl)) (notFace_of_selects (args := #[]) (mvT hZ (wi hw 61 rfl))) (mvT hZ (wi hw 61 rfl)) (mvT hZ (wi hw 60 rfl)) (by decide) (backOf (W := 0) (rmCo l Z a0 hw [] a1 a2 bco bnx bpv bfb bpd bip bfi ben [0, 0, 0, 0] [3, 2, -1, 1] [-1, 3, 1, 0] [0, 0, 0, 0] [0, 0, 0, 0] [1, 0, 0, 0] (1 : Int32) (1 : Int32) (2 : Int32) T1854.heap n0 z1854 B1854 (by decide)) hZ (wi hw 62 rfl) (wi hw 29 rfl) (by decide) (by decide)) q1859a q1859c (g := (mkF m 371 #[iv p1, iv p2, iv p3, iv (0 : Int32), iv (1 : Int32), iv (0 : Int32), rv a2, rv a1, iv (1 : Int32), iv (2 : Int32), iv (0 : Int32), iv (3 : Int32), iv (1 : Int32), iv (2 : Int32), uv, uv, uv, uv] [(.int (2 : Int32)), (.ref a1)])) rfl (by rw [hml]; rfl) (Steps.refl _) (argsL := [(.int (2 : Int32))]) (rest := []) (lenOf pd_7 rfl) rfl (by show 2 * 0 + _ ≤ _; exact Nat.le_of_eq rfl) (hb hby at_371) (fun _ _ => ⟨rfl, rfl, (by decide : 15 + 0 ≤ _), (by decide : 70 + 0 ≤ _)⟩)
  dsimp only [Pt.U, Pt.locs, Pt.cells, Pt.slots] at X1859 l1859 y1859 z1859 st1859 hQ1859
  subst l1859 y1859 z1859
  obtain ⟨rfl, N1859q, e1859⟩ := hQ1859
  have N1859 := Fr.app N1854 N1859q
  refine Rch.to (U' := T1859.setTop (mkF m 374 #[iv p1, iv p2, iv p3, iv (0 : Int32), iv (1 : Int32), iv (0 : Int32), rv a2, rv a1, iv (1 : Int32), iv (2 : Int32), iv (0 : Int32), iv (3 : Int32), iv (1 : Int32), iv (2 : Int32), uv, uv, uv, uv] [(.int (own_at [0, 0, 0, 0] (2 : Int32)))])) st1859 ?_
  rw [(by decide : (own_at [0, 0, 0, 0] (2 : Int32)) = (0 : Int32))]
  have br1860 : (0 : Int32) = (0 : Int32) := (by decide)
  refine Rch.go (U' := T1859.setTop (mkF m 377 #[iv p1, iv p2, iv p3, iv (0 : Int32), iv (1 : Int32), iv (0 : Int32), rv a2, rv a1, iv (1 : Int32), iv (2 : Int32), iv (0 : Int32), iv (3 : Int32), iv (1 : Int32), iv (2 : Int32), uv, uv, uv, uv] [])) (fun _ k => XS.ifNo X1859.here hx rfl (hb hby at_374) rfl (XT.i0_ne_f br1860) k) ?_
  refine Rch.go (U' := T1859.setTop (mkF m 379 #[iv p1, iv p2, iv p3, iv (0 : Int32), iv (1 : Int32), iv (0 : Int32), rv a2, rv a1, iv (1 : Int32), iv (2 : Int32), iv (0 : Int32), iv (3 : Int32), iv (1 : Int32), iv (2 : Int32), uv, uv, uv, uv] [(.ref a1)])) (fun _ k => XS.aload X1859.here hx rfl (hb hby at_377) rfl rfl k) ?_
  refine Rch.go (U' := T1859.setTop (mkF m 380 #[iv p1, iv p2, iv p3, iv (0 : Int32), iv (1 : Int32), iv (0 : Int32), rv a2, rv a1, iv (1 : Int32), iv (2 : Int32), iv (0 : Int32), iv (3 : Int32), iv (1 : Int32), iv (2 : Int32), uv, uv, uv, uv] [(.int (3 : Int32)), (.ref a1)])) (fun _ k => XS.iconst X1859.here hx rfl (hb hby at_379) k) ?_
  obtain ⟨cq1861, kq1861, q1861a, q1861b, q1861c⟩ := isOf hZ e1859 B1854.1.1
  obtain ⟨_, _, ⟨T1861, L1861, k1861, n1861⟩, -, X1861, ⟨Lc1861, hQ1861, l1861, y1861, z1861⟩, st1861⟩ := X1859.virtualBack hx (y := yc) (z := yc) hown (mvT hZ (wi hw 58 rfl)) (mvT hZ (wi hw 59 rfl)) (notFace_of_selects (args := #[]) (mvT hZ (wi hw 61 rfl))) (mvT hZ (wi hw 61 rfl)) (mvT hZ (wi hw 60 rfl)) (by decide) (backOf (W := 0) (rmCo l Z a0 hw [] a1 a2 bco bnx bpv bfb bpd bip bfi ben [0, 0, 0, 0] [3, 2, -1, 1] [-1, 3, 1, 0] [0, 0, 0, 0] [0, 0, 0, 0] [1, 0, 0, 0] (1 : Int32) (1 : Int32) (3 : Int32) T1854.heap n0 z1854 B1854 (by decide)) hZ (wi hw 62 rfl) (wi hw 29 rfl) (by decide) (by decide)) q1861a q1861c (g := (mkF m 380 #[iv p1, iv p2, iv p3, iv (0 : Int32), iv (1 : Int32), iv (0 : Int32), rv a2, rv a1, iv (1 : Int32), iv (2 : Int32), iv (0 : Int32), iv (3 : Int32), iv (1 : Int32), iv (2 : Int32), uv, uv, uv, uv] [(.int (3 : Int32)), (.ref a1)])) rfl (by rw [hml]; rfl) (Steps.refl _) (argsL := [(.int (3 : Int32))]) (rest := []) (lenOf pd_7 rfl) rfl (by show 2 * 0 + _ ≤ _; exact Nat.le_of_eq rfl) (hb hby at_380) (fun _ _ => ⟨rfl, e1859, (by decide : 15 + 0 ≤ _), (by decide : 70 + 0 ≤ _)⟩)
  dsimp only [Pt.U, Pt.locs, Pt.cells, Pt.slots] at X1861 l1861 y1861 z1861 st1861 hQ1861
  subst l1861 y1861 z1861
  obtain ⟨rfl, N1861q, e1861⟩ := hQ1861
  have N1861 := Fr.app N1859 N1861q
  refine Rch.to (U' := T1861.setTop (mkF m 383 #[iv p1, iv p2, iv p3, iv (0 : Int32), iv (1 : Int32), iv (0 : Int32), rv a2, rv a1, iv (1 : Int32), iv (2 : Int32), iv (0 : Int32), iv (3 : Int32), iv (1 : Int32), iv (2 : Int32), uv, uv, uv, uv] [(.int (own_at [0, 0, 0, 0] (3 : Int32)))])) st1861 ?_
  rw [(by decide : (own_at [0, 0, 0, 0] (3 : Int32)) = (0 : Int32))]
  have br1862 : (0 : Int32) = (0 : Int32) := (by decide)
  refine Rch.go (U' := T1861.setTop (mkF m 386 #[iv p1, iv p2, iv p3, iv (0 : Int32), iv (1 : Int32), iv (0 : Int32), rv a2, rv a1, iv (1 : Int32), iv (2 : Int32), iv (0 : Int32), iv (3 : Int32), iv (1 : Int32), iv (2 : Int32), uv, uv, uv, uv] [])) (fun _ k => XS.ifNo X1861.here hx rfl (hb hby at_383) rfl (XT.i0_ne_f br1862) k) ?_
  refine Rch.go (U' := T1861.setTop (mkF m 388 #[iv p1, iv p2, iv p3, iv (0 : Int32), iv (1 : Int32), iv (0 : Int32), rv a2, rv a1, iv (1 : Int32), iv (2 : Int32), iv (0 : Int32), iv (3 : Int32), iv (1 : Int32), iv (2 : Int32), uv, uv, uv, uv] [(.ref a1)])) (fun _ k => XS.aload X1861.here hx rfl (hb hby at_386) rfl rfl k) ?_
  obtain ⟨cq1863, kq1863, q1863a, q1863b, q1863c⟩ := isOf hZ e1861 B1854.1.1
  obtain ⟨_, _, ⟨T1863, L1863, k1863, n1863⟩, -, X1863, ⟨Lc1863, hQ1863, l1863, y1863, z1863⟩, st1863⟩ := X1861.virtualBack hx (y := yhs) (z := yhs) hown (mvT hZ (wi hw 63 rfl)) (mvT hZ (wi hw 64 rfl)) (notFace_of_selects (args := #[]) (mvT hZ (wi hw 66 rfl))) (mvT hZ (wi hw 66 rfl)) (mvT hZ (wi hw 65 rfl)) (by decide) (backOf (W := 0) (rmHs l Z a0 hw [] a1 a2 bco bnx bpv bfb bpd bip bfi ben [0, 0, 0, 0] [3, 2, -1, 1] [-1, 3, 1, 0] [0, 0, 0, 0] [0, 0, 0, 0] [1, 0, 0, 0] (1 : Int32) (1 : Int32)  T1854.heap n0 z1854 B1854 ) hZ (wi hw 67 rfl) (wi hw 29 rfl) (by decide) (by decide)) q1863a q1863c (g := (mkF m 388 #[iv p1, iv p2, iv p3, iv (0 : Int32), iv (1 : Int32), iv (0 : Int32), rv a2, rv a1, iv (1 : Int32), iv (2 : Int32), iv (0 : Int32), iv (3 : Int32), iv (1 : Int32), iv (2 : Int32), uv, uv, uv, uv] [(.ref a1)])) rfl (by rw [hml]; rfl) (Steps.refl _) (argsL := []) (rest := []) (lenOf pd_15 rfl) rfl (by show 2 * 0 + _ ≤ _; exact Nat.le_of_eq rfl) (hb hby at_388) (fun _ _ => ⟨rfl, e1861, (by decide : 15 + 0 ≤ _), (by decide : 70 + 0 ≤ _)⟩)
  dsimp only [Pt.U, Pt.locs, Pt.cells, Pt.slots] at X1863 l1863 y1863 z1863 st1863 hQ1863
  subst l1863 y1863 z1863
  obtain ⟨rfl, N1863q, e1863⟩ := hQ1863
  have N1863 := Fr.app N1861 N1863q
  refine Rch.to (U' := T1863.setTop (mkF m 391 #[iv p1, iv p2, iv p3, iv (0 : Int32), iv (1 : Int32), iv (0 : Int32), rv a2, rv a1, iv (1 : Int32), iv (2 : Int32), iv (0 : Int32), iv (3 : Int32), iv (1 : Int32), iv (2 : Int32), uv, uv, uv, uv] [(.int (own_pos (1 : Int32)))])) st1863 ?_
  rw [(by decide : (own_pos (1 : Int32)) = (1 : Int32))]
  have br1864 : ¬ ((1 : Int32) = (0 : Int32)) := (by decide)
  refine Rch.go (U' := T1863.setTop (mkF m 394 #[iv p1, iv p2, iv p3, iv (0 : Int32), iv (1 : Int32), iv (0 : Int32), rv a2, rv a1, iv (1 : Int32), iv (2 : Int32), iv (0 : Int32), iv (3 : Int32), iv (1 : Int32), iv (2 : Int32), uv, uv, uv, uv] [])) (fun _ k => XS.ifNo X1863.here hx rfl (hb hby at_391) rfl (XT.i0_eq_f br1864) k) ?_
  refine Rch.go (U' := T1863.setTop (mkF m 396 #[iv p1, iv p2, iv p3, iv (0 : Int32), iv (1 : Int32), iv (0 : Int32), rv a2, rv a1, iv (1 : Int32), iv (2 : Int32), iv (0 : Int32), iv (3 : Int32), iv (1 : Int32), iv (2 : Int32), uv, uv, uv, uv] [(.ref a1)])) (fun _ k => XS.aload X1863.here hx rfl (hb hby at_394) rfl rfl k) ?_
  obtain ⟨cq1865, kq1865, q1865a, q1865b, q1865c⟩ := isOf hZ e1863 B1854.1.1
  obtain ⟨_, _, ⟨T1865, L1865, k1865, n1865⟩, -, X1865, ⟨Lc1865, hQ1865, l1865, y1865, z1865⟩, st1865⟩ := X1863.virtualBack hx (y := yns) (z := yns) hown (mvT hZ (wi hw 68 rfl)) (mvT hZ (wi hw 69 rfl)) (notFace_of_selects (args := #[]) (mvT hZ (wi hw 71 rfl))) (mvT hZ (wi hw 71 rfl)) (mvT hZ (wi hw 70 rfl)) (by decide) (backOf (W := 0) (rmNs l Z a0 hw [] a1 a2 bco bnx bpv bfb bpd bip bfi ben [0, 0, 0, 0] [3, 2, -1, 1] [-1, 3, 1, 0] [0, 0, 0, 0] [0, 0, 0, 0] [1, 0, 0, 0] (1 : Int32) (1 : Int32)  T1854.heap n0 z1854 B1854 (by decide)) hZ (wi hw 72 rfl) (wi hw 29 rfl) (by decide) (by decide)) q1865a q1865c (g := (mkF m 396 #[iv p1, iv p2, iv p3, iv (0 : Int32), iv (1 : Int32), iv (0 : Int32), rv a2, rv a1, iv (1 : Int32), iv (2 : Int32), iv (0 : Int32), iv (3 : Int32), iv (1 : Int32), iv (2 : Int32), uv, uv, uv, uv] [(.ref a1)])) rfl (by rw [hml]; rfl) (Steps.refl _) (argsL := []) (rest := []) (lenOf pd_14 rfl) rfl (by show 2 * 0 + _ ≤ _; exact Nat.le_of_eq rfl) (hb hby at_396) (fun _ _ => ⟨rfl, e1863, (by decide : 15 + 0 ≤ _), (by decide : 70 + 0 ≤ _)⟩)
  dsimp only [Pt.U, Pt.locs, Pt.cells, Pt.slots] at X1865 l1865 y1865 z1865 st1865 hQ1865
  subst l1865 y1865 z1865
  obtain ⟨rfl, N1865q, e1865⟩ := hQ1865
  have N1865 := Fr.app N1863 N1865q
  refine Rch.to (U' := T1865.setTop (mkF m 399 #[iv p1, iv p2, iv p3, iv (0 : Int32), iv (1 : Int32), iv (0 : Int32), rv a2, rv a1, iv (1 : Int32), iv (2 : Int32), iv (0 : Int32), iv (3 : Int32), iv (1 : Int32), iv (2 : Int32), uv, uv, uv, uv] [(.int (own_at [0, 0, 0, 0] ((1 : Int32) - (1 : Int32))))])) st1865 ?_
  rw [(by decide : (own_at [0, 0, 0, 0] ((1 : Int32) - (1 : Int32))) = (0 : Int32))]
  have br1866 : (0 : Int32) = (0 : Int32) := (by decide)
  refine Rch.go (U' := T1865.setTop (mkF m 402 #[iv p1, iv p2, iv p3, iv (0 : Int32), iv (1 : Int32), iv (0 : Int32), rv a2, rv a1, iv (1 : Int32), iv (2 : Int32), iv (0 : Int32), iv (3 : Int32), iv (1 : Int32), iv (2 : Int32), uv, uv, uv, uv] [])) (fun _ k => XS.ifNo X1865.here hx rfl (hb hby at_399) rfl (XT.i0_ne_f br1866) k) ?_
  refine Rch.go (U' := T1865.setTop (mkF m 403 #[iv p1, iv p2, iv p3, iv (0 : Int32), iv (1 : Int32), iv (0 : Int32), rv a2, rv a1, iv (1 : Int32), iv (2 : Int32), iv (0 : Int32), iv (3 : Int32), iv (1 : Int32), iv (2 : Int32), uv, uv, uv, uv] [(.int (1 : Int32))])) (fun _ k => XS.iconst X1865.here hx rfl (hb hby at_402) k) ?_
  refine Rch.go (U' := T1865.setTop (mkF m 407 #[iv p1, iv p2, iv p3, iv (0 : Int32), iv (1 : Int32), iv (0 : Int32), rv a2, rv a1, iv (1 : Int32), iv (2 : Int32), iv (0 : Int32), iv (3 : Int32), iv (1 : Int32), iv (2 : Int32), uv, uv, uv, uv] [(.int (1 : Int32))])) (fun _ k => XS.goto X1865.here hx rfl (pc0 := 403) (pc' := 407) rfl (hb hby at_403) (by decide) (by decide) k) ?_
  refine Rch.go (U' := T1865.setTop (mkF m 409 #[iv p1, iv p2, iv p3, iv (0 : Int32), iv (1 : Int32), iv (0 : Int32), rv a2, rv a1, iv (1 : Int32), iv (2 : Int32), iv (0 : Int32), iv (3 : Int32), iv (1 : Int32), iv (2 : Int32), iv (1 : Int32), uv, uv, uv] [])) (fun _ k => XS.istore X1865.here hx rfl (hb hby at_407) rfl (l' := #[iv p1, iv p2, iv p3, iv (0 : Int32), iv (1 : Int32), iv (0 : Int32), rv a2, rv a1, iv (1 : Int32), iv (2 : Int32), iv (0 : Int32), iv (3 : Int32), iv (1 : Int32), iv (2 : Int32), iv (1 : Int32), uv, uv, uv]) rfl k) ?_
  refine Rch.go (U' := T1865.setTop (mkF m 411 #[iv p1, iv p2, iv p3, iv (0 : Int32), iv (1 : Int32), iv (0 : Int32), rv a2, rv a1, iv (1 : Int32), iv (2 : Int32), iv (0 : Int32), iv (3 : Int32), iv (1 : Int32), iv (2 : Int32), iv (1 : Int32), uv, uv, uv] [(.int (1 : Int32))])) (fun _ k => XS.iload X1865.here hx rfl (hb hby at_409) rfl  k) ?_
  have br1867 : ¬ ((1 : Int32) = (0 : Int32)) := (by decide)
  refine Rch.go (U' := T1865.setTop (mkF m 416 #[iv p1, iv p2, iv p3, iv (0 : Int32), iv (1 : Int32), iv (0 : Int32), rv a2, rv a1, iv (1 : Int32), iv (2 : Int32), iv (0 : Int32), iv (3 : Int32), iv (1 : Int32), iv (2 : Int32), iv (1 : Int32), uv, uv, uv] [])) (fun _ k => XS.ifYes X1865.here hx rfl (pc0 := 411) (pc' := 416) rfl (hb hby at_411) rfl (XT.i0_ne_t br1867) (by decide) (by decide) k) ?_
  refine Rch.go (U' := T1865.setTop (mkF m 418 #[iv p1, iv p2, iv p3, iv (0 : Int32), iv (1 : Int32), iv (0 : Int32), rv a2, rv a1, iv (1 : Int32), iv (2 : Int32), iv (0 : Int32), iv (3 : Int32), iv (1 : Int32), iv (2 : Int32), iv (1 : Int32), uv, uv, uv] [(.ref a1)])) (fun _ k => XS.aload X1865.here hx rfl (hb hby at_416) rfl rfl k) ?_
  obtain ⟨cq1868, kq1868, q1868a, q1868b, q1868c⟩ := isOf hZ e1865 B1854.1.1
  obtain ⟨_, _, ⟨T1868, L1868, k1868, n1868⟩, -, X1868, ⟨Lc1868, hQ1868, l1868, y1868, z1868⟩, st1868⟩ := X1865.virtualBack hx (y := yt) (z := yt) hown (mvT hZ (wi hw 73 rfl)) (mvT hZ (wi hw 74 rfl)) (notFace_of_selects (args := #[]) (mvT hZ (wi hw 76 rfl))) (mvT hZ (wi hw 76 rfl)) (mvT hZ (wi hw 75 rfl)) (by decide) (backOf (W := 0) (rmT l Z a0 hw [] a1 a2 bco bnx bpv bfb bpd bip bfi ben [0, 0, 0, 0] [3, 2, -1, 1] [-1, 3, 1, 0] [0, 0, 0, 0] [0, 0, 0, 0] [1, 0, 0, 0] (1 : Int32) (1 : Int32) T1854.heap n0 z1854 B1854 (by decide)) hZ (wi hw 77 rfl) (wi hw 29 rfl) (by decide) (by decide)) q1868a q1868c (g := (mkF m 418 #[iv p1, iv p2, iv p3, iv (0 : Int32), iv (1 : Int32), iv (0 : Int32), rv a2, rv a1, iv (1 : Int32), iv (2 : Int32), iv (0 : Int32), iv (3 : Int32), iv (1 : Int32), iv (2 : Int32), iv (1 : Int32), uv, uv, uv] [(.ref a1)])) rfl (by rw [hml]; rfl) (Steps.refl _) (argsL := []) (rest := []) (lenOf pd_14 rfl) rfl (by show 2 * 0 + _ ≤ _; exact Nat.le_of_eq rfl) (hb hby at_418) (fun _ _ => ⟨rfl, e1865, (by decide : 15 + 0 ≤ _), (by decide : 70 + 0 ≤ _)⟩)
  dsimp only [Pt.U, Pt.locs, Pt.cells, Pt.slots] at X1868 l1868 y1868 z1868 st1868 hQ1868
  subst l1868 y1868 z1868
  obtain ⟨rfl, N1868q, z1868, C1868⟩ := hQ1868
  have N1868 := Fr.app N1865 N1868q
  rw [(by rfl : own_take [0, 0, 0, 0] [3, 2, -1, 1] [-1, 3, 1, 0] [0, 0, 0, 0] [0, 0, 0, 0] [1, 0, 0, 0] (1 : Int32) (1 : Int32) = ([0, 0, 0, 1], [1, 2, -1, -1], [-1, 0, 1, -1], [0, 3, 0, 0], [0, 0, 0, 0], [1, 0, 0, 0], (2 : Int32), (1 : Int32)))] at C1868
  have B1868 : Cb Z T1868.heap n0 a1 a2 bco bnx bpv bfb bpd bip bfi ben [0, 0, 0, 1] [1, 2, -1, -1] [-1, 0, 1, -1] [0, 3, 0, 0] [0, 0, 0, 0] [1, 0, 0, 0] (2 : Int32) (1 : Int32) := C1868
  refine Rch.to (U' := T1868.setTop (mkF m 421 #[iv p1, iv p2, iv p3, iv (0 : Int32), iv (1 : Int32), iv (0 : Int32), rv a2, rv a1, iv (1 : Int32), iv (2 : Int32), iv (0 : Int32), iv (3 : Int32), iv (1 : Int32), iv (2 : Int32), iv (1 : Int32), uv, uv, uv] [(.int (own_sp [3, 2, -1, 1] [0, 0, 0, 0] [0, 0, 0, 0] (1 : Int32)))])) st1868 ?_
  rw [(by decide : own_sp [3, 2, -1, 1] [0, 0, 0, 0] [0, 0, 0, 0] (1 : Int32) = (3 : Int32))]
  refine Rch.go (U' := T1868.setTop (mkF m 423 #[iv p1, iv p2, iv p3, iv (0 : Int32), iv (1 : Int32), iv (0 : Int32), rv a2, rv a1, iv (1 : Int32), iv (2 : Int32), iv (0 : Int32), iv (3 : Int32), iv (1 : Int32), iv (2 : Int32), iv (1 : Int32), iv (3 : Int32), uv, uv] [])) (fun _ k => XS.istore X1868.here hx rfl (hb hby at_421) rfl (l' := #[iv p1, iv p2, iv p3, iv (0 : Int32), iv (1 : Int32), iv (0 : Int32), rv a2, rv a1, iv (1 : Int32), iv (2 : Int32), iv (0 : Int32), iv (3 : Int32), iv (1 : Int32), iv (2 : Int32), iv (1 : Int32), iv (3 : Int32), uv, uv]) rfl k) ?_
  refine Rch.go (U' := T1868.setTop (mkF m 425 #[iv p1, iv p2, iv p3, iv (0 : Int32), iv (1 : Int32), iv (0 : Int32), rv a2, rv a1, iv (1 : Int32), iv (2 : Int32), iv (0 : Int32), iv (3 : Int32), iv (1 : Int32), iv (2 : Int32), iv (1 : Int32), iv (3 : Int32), uv, uv] [(.ref a1)])) (fun _ k => XS.aload X1868.here hx rfl (hb hby at_423) rfl rfl k) ?_
  obtain ⟨cq1869, kq1869, q1869a, q1869b, q1869c⟩ := isOf hZ rfl B1868.1.1
  obtain ⟨_, _, ⟨T1869, L1869, k1869, n1869⟩, -, X1869, ⟨Lc1869, hQ1869, l1869, y1869, z1869⟩, st1869⟩ := X1868.virtualBack hx (y := yt) (z := yt) hown (mvT hZ (wi hw 73 rfl)) (mvT hZ (wi hw 74 rfl)) (notFace_of_selects (args := #[]) (mvT hZ (wi hw 76 rfl))) (mvT hZ (wi hw 76 rfl)) (mvT hZ (wi hw 75 rfl)) (by decide) (backOf (W := 0) (rmT l Z a0 hw [] a1 a2 bco bnx bpv bfb bpd bip bfi ben [0, 0, 0, 1] [1, 2, -1, -1] [-1, 0, 1, -1] [0, 3, 0, 0] [0, 0, 0, 0] [1, 0, 0, 0] (2 : Int32) (1 : Int32) T1868.heap n0 z1868 B1868 (by decide)) hZ (wi hw 77 rfl) (wi hw 29 rfl) (by decide) (by decide)) q1869a q1869c (g := (mkF m 425 #[iv p1, iv p2, iv p3, iv (0 : Int32), iv (1 : Int32), iv (0 : Int32), rv a2, rv a1, iv (1 : Int32), iv (2 : Int32), iv (0 : Int32), iv (3 : Int32), iv (1 : Int32), iv (2 : Int32), iv (1 : Int32), iv (3 : Int32), uv, uv] [(.ref a1)])) rfl (by rw [hml]; rfl) (Steps.refl _) (argsL := []) (rest := []) (lenOf pd_14 rfl) rfl (by show 2 * 0 + _ ≤ _; exact Nat.le_of_eq rfl) (hb hby at_425) (fun _ _ => ⟨rfl, rfl, (by decide : 15 + 0 ≤ _), (by decide : 70 + 0 ≤ _)⟩)
  dsimp only [Pt.U, Pt.locs, Pt.cells, Pt.slots] at X1869 l1869 y1869 z1869 st1869 hQ1869
  subst l1869 y1869 z1869
  obtain ⟨rfl, N1869q, z1869, C1869⟩ := hQ1869
  have N1869 := Fr.app N1868 N1869q
  rw [(by rfl : own_take [0, 0, 0, 1] [1, 2, -1, -1] [-1, 0, 1, -1] [0, 3, 0, 0] [0, 0, 0, 0] [1, 0, 0, 0] (2 : Int32) (1 : Int32) = ([0, 2, 0, 1], [2, -1, -1, -1], [-1, -1, 0, -1], [0, 3, 1, 0], [0, 0, 0, 0], [1, 0, 0, 0], (3 : Int32), (1 : Int32)))] at C1869
  have B1869 : Cb Z T1869.heap n0 a1 a2 bco bnx bpv bfb bpd bip bfi ben [0, 2, 0, 1] [2, -1, -1, -1] [-1, -1, 0, -1] [0, 3, 1, 0] [0, 0, 0, 0] [1, 0, 0, 0] (3 : Int32) (1 : Int32) := C1869
  refine Rch.to (U' := T1869.setTop (mkF m 428 #[iv p1, iv p2, iv p3, iv (0 : Int32), iv (1 : Int32), iv (0 : Int32), rv a2, rv a1, iv (1 : Int32), iv (2 : Int32), iv (0 : Int32), iv (3 : Int32), iv (1 : Int32), iv (2 : Int32), iv (1 : Int32), iv (3 : Int32), uv, uv] [(.int (own_sp [1, 2, -1, -1] [0, 3, 0, 0] [0, 0, 0, 0] (1 : Int32)))])) st1869 ?_
  rw [(by decide : own_sp [1, 2, -1, -1] [0, 3, 0, 0] [0, 0, 0, 0] (1 : Int32) = (1 : Int32))]
  refine Rch.go (U' := T1869.setTop (mkF m 430 #[iv p1, iv p2, iv p3, iv (0 : Int32), iv (1 : Int32), iv (0 : Int32), rv a2, rv a1, iv (1 : Int32), iv (2 : Int32), iv (0 : Int32), iv (3 : Int32), iv (1 : Int32), iv (2 : Int32), iv (1 : Int32), iv (3 : Int32), iv (1 : Int32), uv] [])) (fun _ k => XS.istore X1869.here hx rfl (hb hby at_428) rfl (l' := #[iv p1, iv p2, iv p3, iv (0 : Int32), iv (1 : Int32), iv (0 : Int32), rv a2, rv a1, iv (1 : Int32), iv (2 : Int32), iv (0 : Int32), iv (3 : Int32), iv (1 : Int32), iv (2 : Int32), iv (1 : Int32), iv (3 : Int32), iv (1 : Int32), uv]) rfl k) ?_
  refine Rch.go (U' := T1869.setTop (mkF m 432 #[iv p1, iv p2, iv p3, iv (0 : Int32), iv (1 : Int32), iv (0 : Int32), rv a2, rv a1, iv (1 : Int32), iv (2 : Int32), iv (0 : Int32), iv (3 : Int32), iv (1 : Int32), iv (2 : Int32), iv (1 : Int32), iv (3 : Int32), iv (1 : Int32), uv] [(.ref a1)])) (fun _ k => XS.aload X1869.here hx rfl (hb hby at_430) rfl rfl k) ?_
  obtain ⟨cq1870, kq1870, q1870a, q1870b, q1870c⟩ := isOf hZ rfl B1869.1.1
  obtain ⟨_, _, ⟨T1870, L1870, k1870, n1870⟩, -, X1870, ⟨Lc1870, hQ1870, l1870, y1870, z1870⟩, st1870⟩ := X1869.virtualBack hx (y := yt) (z := yt) hown (mvT hZ (wi hw 73 rfl)) (mvT hZ (wi hw 74 rfl)) (notFace_of_selects (args := #[]) (mvT hZ (wi hw 76 rfl))) (mvT hZ (wi hw 76 rfl)) (mvT hZ (wi hw 75 rfl)) (by decide) (backOf (W := 0) (rmT l Z a0 hw [] a1 a2 bco bnx bpv bfb bpd bip bfi ben [0, 2, 0, 1] [2, -1, -1, -1] [-1, -1, 0, -1] [0, 3, 1, 0] [0, 0, 0, 0] [1, 0, 0, 0] (3 : Int32) (1 : Int32) T1869.heap n0 z1869 B1869 (by decide)) hZ (wi hw 77 rfl) (wi hw 29 rfl) (by decide) (by decide)) q1870a q1870c (g := (mkF m 432 #[iv p1, iv p2, iv p3, iv (0 : Int32), iv (1 : Int32), iv (0 : Int32), rv a2, rv a1, iv (1 : Int32), iv (2 : Int32), iv (0 : Int32), iv (3 : Int32), iv (1 : Int32), iv (2 : Int32), iv (1 : Int32), iv (3 : Int32), iv (1 : Int32), uv] [(.ref a1)])) rfl (by rw [hml]; rfl) (Steps.refl _) (argsL := []) (rest := []) (lenOf pd_14 rfl) rfl (by show 2 * 0 + _ ≤ _; exact Nat.le_of_eq rfl) (hb hby at_432) (fun _ _ => ⟨rfl, rfl, (by decide : 15 + 0 ≤ _), (by decide : 70 + 0 ≤ _)⟩)
  dsimp only [Pt.U, Pt.locs, Pt.cells, Pt.slots] at X1870 l1870 y1870 z1870 st1870 hQ1870
  subst l1870 y1870 z1870
  obtain ⟨rfl, N1870q, z1870, C1870⟩ := hQ1870
  have N1870 := Fr.app N1869 N1870q
  rw [(by rfl : own_take [0, 2, 0, 1] [2, -1, -1, -1] [-1, -1, 0, -1] [0, 3, 1, 0] [0, 0, 0, 0] [1, 0, 0, 0] (3 : Int32) (1 : Int32) = ([0, 2, 3, 1], [-1, -1, -1, -1], [-1, -1, -1, -1], [0, 3, 1, 2], [0, 0, 0, 0], [0, 0, 0, 0], (4 : Int32), (0 : Int32)))] at C1870
  have B1870 : Cb Z T1870.heap n0 a1 a2 bco bnx bpv bfb bpd bip bfi ben [0, 2, 3, 1] [-1, -1, -1, -1] [-1, -1, -1, -1] [0, 3, 1, 2] [0, 0, 0, 0] [0, 0, 0, 0] (4 : Int32) (0 : Int32) := C1870
  refine Rch.to (U' := T1870.setTop (mkF m 435 #[iv p1, iv p2, iv p3, iv (0 : Int32), iv (1 : Int32), iv (0 : Int32), rv a2, rv a1, iv (1 : Int32), iv (2 : Int32), iv (0 : Int32), iv (3 : Int32), iv (1 : Int32), iv (2 : Int32), iv (1 : Int32), iv (3 : Int32), iv (1 : Int32), uv] [(.int (own_sp [2, -1, -1, -1] [0, 3, 1, 0] [0, 0, 0, 0] (1 : Int32)))])) st1870 ?_
  rw [(by decide : own_sp [2, -1, -1, -1] [0, 3, 1, 0] [0, 0, 0, 0] (1 : Int32) = (2 : Int32))]
  refine Rch.go (U' := T1870.setTop (mkF m 437 #[iv p1, iv p2, iv p3, iv (0 : Int32), iv (1 : Int32), iv (0 : Int32), rv a2, rv a1, iv (1 : Int32), iv (2 : Int32), iv (0 : Int32), iv (3 : Int32), iv (1 : Int32), iv (2 : Int32), iv (1 : Int32), iv (3 : Int32), iv (1 : Int32), iv (2 : Int32)] [])) (fun _ k => XS.istore X1870.here hx rfl (hb hby at_435) rfl (l' := #[iv p1, iv p2, iv p3, iv (0 : Int32), iv (1 : Int32), iv (0 : Int32), rv a2, rv a1, iv (1 : Int32), iv (2 : Int32), iv (0 : Int32), iv (3 : Int32), iv (1 : Int32), iv (2 : Int32), iv (1 : Int32), iv (3 : Int32), iv (1 : Int32), iv (2 : Int32)]) rfl k) ?_
  refine Rch.go (U' := T1870.setTop (mkF m 439 #[iv p1, iv p2, iv p3, iv (0 : Int32), iv (1 : Int32), iv (0 : Int32), rv a2, rv a1, iv (1 : Int32), iv (2 : Int32), iv (0 : Int32), iv (3 : Int32), iv (1 : Int32), iv (2 : Int32), iv (1 : Int32), iv (3 : Int32), iv (1 : Int32), iv (2 : Int32)] [(.int (3 : Int32))])) (fun _ k => XS.iload X1870.here hx rfl (hb hby at_437) rfl  k) ?_
  refine Rch.go (U' := T1870.setTop (mkF m 441 #[iv p1, iv p2, iv p3, iv (0 : Int32), iv (1 : Int32), iv (0 : Int32), rv a2, rv a1, iv (1 : Int32), iv (2 : Int32), iv (0 : Int32), iv (3 : Int32), iv (1 : Int32), iv (2 : Int32), iv (1 : Int32), iv (3 : Int32), iv (1 : Int32), iv (2 : Int32)] [(.int (3 : Int32)), (.int (3 : Int32))])) (fun _ k => XS.iload X1870.here hx rfl (hb hby at_439) rfl  k) ?_
  have br1871 : (3 : Int32) = (3 : Int32) := (by decide)
  refine Rch.go (U' := T1870.setTop (mkF m 444 #[iv p1, iv p2, iv p3, iv (0 : Int32), iv (1 : Int32), iv (0 : Int32), rv a2, rv a1, iv (1 : Int32), iv (2 : Int32), iv (0 : Int32), iv (3 : Int32), iv (1 : Int32), iv (2 : Int32), iv (1 : Int32), iv (3 : Int32), iv (1 : Int32), iv (2 : Int32)] [])) (fun _ k => XS.icmpNo X1870.here hx rfl (hb hby at_441) rfl (XT.ii_ne_f br1871) k) ?_
  refine Rch.go (U' := T1870.setTop (mkF m 446 #[iv p1, iv p2, iv p3, iv (0 : Int32), iv (1 : Int32), iv (0 : Int32), rv a2, rv a1, iv (1 : Int32), iv (2 : Int32), iv (0 : Int32), iv (3 : Int32), iv (1 : Int32), iv (2 : Int32), iv (1 : Int32), iv (3 : Int32), iv (1 : Int32), iv (2 : Int32)] [(.int (1 : Int32))])) (fun _ k => XS.iload X1870.here hx rfl (hb hby at_444) rfl  k) ?_
  refine Rch.go (U' := T1870.setTop (mkF m 448 #[iv p1, iv p2, iv p3, iv (0 : Int32), iv (1 : Int32), iv (0 : Int32), rv a2, rv a1, iv (1 : Int32), iv (2 : Int32), iv (0 : Int32), iv (3 : Int32), iv (1 : Int32), iv (2 : Int32), iv (1 : Int32), iv (3 : Int32), iv (1 : Int32), iv (2 : Int32)] [(.int (1 : Int32)), (.int (1 : Int32))])) (fun _ k => XS.iload X1870.here hx rfl (hb hby at_446) rfl  k) ?_
  have br1872 : (1 : Int32) = (1 : Int32) := (by decide)
  refine Rch.go (U' := T1870.setTop (mkF m 451 #[iv p1, iv p2, iv p3, iv (0 : Int32), iv (1 : Int32), iv (0 : Int32), rv a2, rv a1, iv (1 : Int32), iv (2 : Int32), iv (0 : Int32), iv (3 : Int32), iv (1 : Int32), iv (2 : Int32), iv (1 : Int32), iv (3 : Int32), iv (1 : Int32), iv (2 : Int32)] [])) (fun _ k => XS.icmpNo X1870.here hx rfl (hb hby at_448) rfl (XT.ii_ne_f br1872) k) ?_
  refine Rch.go (U' := T1870.setTop (mkF m 453 #[iv p1, iv p2, iv p3, iv (0 : Int32), iv (1 : Int32), iv (0 : Int32), rv a2, rv a1, iv (1 : Int32), iv (2 : Int32), iv (0 : Int32), iv (3 : Int32), iv (1 : Int32), iv (2 : Int32), iv (1 : Int32), iv (3 : Int32), iv (1 : Int32), iv (2 : Int32)] [(.int (2 : Int32))])) (fun _ k => XS.iload X1870.here hx rfl (hb hby at_451) rfl  k) ?_
  refine Rch.go (U' := T1870.setTop (mkF m 455 #[iv p1, iv p2, iv p3, iv (0 : Int32), iv (1 : Int32), iv (0 : Int32), rv a2, rv a1, iv (1 : Int32), iv (2 : Int32), iv (0 : Int32), iv (3 : Int32), iv (1 : Int32), iv (2 : Int32), iv (1 : Int32), iv (3 : Int32), iv (1 : Int32), iv (2 : Int32)] [(.int (2 : Int32)), (.int (2 : Int32))])) (fun _ k => XS.iload X1870.here hx rfl (hb hby at_453) rfl  k) ?_
  have br1873 : (2 : Int32) = (2 : Int32) := (by decide)
  refine Rch.go (U' := T1870.setTop (mkF m 458 #[iv p1, iv p2, iv p3, iv (0 : Int32), iv (1 : Int32), iv (0 : Int32), rv a2, rv a1, iv (1 : Int32), iv (2 : Int32), iv (0 : Int32), iv (3 : Int32), iv (1 : Int32), iv (2 : Int32), iv (1 : Int32), iv (3 : Int32), iv (1 : Int32), iv (2 : Int32)] [])) (fun _ k => XS.icmpNo X1870.here hx rfl (hb hby at_455) rfl (XT.ii_ne_f br1873) k) ?_
  refine Rch.go (U' := T1870.setTop (mkF m 460 #[iv p1, iv p2, iv p3, iv (0 : Int32), iv (1 : Int32), iv (0 : Int32), rv a2, rv a1, iv (1 : Int32), iv (2 : Int32), iv (0 : Int32), iv (3 : Int32), iv (1 : Int32), iv (2 : Int32), iv (1 : Int32), iv (3 : Int32), iv (1 : Int32), iv (2 : Int32)] [(.ref a1)])) (fun _ k => XS.aload X1870.here hx rfl (hb hby at_458) rfl rfl k) ?_
  obtain ⟨cq1874, kq1874, q1874a, q1874b, q1874c⟩ := isOf hZ rfl B1870.1.1
  obtain ⟨_, _, ⟨T1874, L1874, k1874, n1874⟩, -, X1874, ⟨Lc1874, hQ1874, l1874, y1874, z1874⟩, st1874⟩ := X1870.virtualBack hx (y := yhs) (z := yhs) hown (mvT hZ (wi hw 63 rfl)) (mvT hZ (wi hw 64 rfl)) (notFace_of_selects (args := #[]) (mvT hZ (wi hw 66 rfl))) (mvT hZ (wi hw 66 rfl)) (mvT hZ (wi hw 65 rfl)) (by decide) (backOf (W := 0) (rmHs l Z a0 hw [] a1 a2 bco bnx bpv bfb bpd bip bfi ben [0, 2, 3, 1] [-1, -1, -1, -1] [-1, -1, -1, -1] [0, 3, 1, 2] [0, 0, 0, 0] [0, 0, 0, 0] (4 : Int32) (0 : Int32)  T1870.heap n0 z1870 B1870 ) hZ (wi hw 67 rfl) (wi hw 29 rfl) (by decide) (by decide)) q1874a q1874c (g := (mkF m 460 #[iv p1, iv p2, iv p3, iv (0 : Int32), iv (1 : Int32), iv (0 : Int32), rv a2, rv a1, iv (1 : Int32), iv (2 : Int32), iv (0 : Int32), iv (3 : Int32), iv (1 : Int32), iv (2 : Int32), iv (1 : Int32), iv (3 : Int32), iv (1 : Int32), iv (2 : Int32)] [(.ref a1)])) rfl (by rw [hml]; rfl) (Steps.refl _) (argsL := []) (rest := []) (lenOf pd_15 rfl) rfl (by show 2 * 0 + _ ≤ _; exact Nat.le_of_eq rfl) (hb hby at_460) (fun _ _ => ⟨rfl, rfl, (by decide : 15 + 0 ≤ _), (by decide : 70 + 0 ≤ _)⟩)
  dsimp only [Pt.U, Pt.locs, Pt.cells, Pt.slots] at X1874 l1874 y1874 z1874 st1874 hQ1874
  subst l1874 y1874 z1874
  obtain ⟨rfl, N1874q, e1874⟩ := hQ1874
  have N1874 := Fr.app N1870 N1874q
  refine Rch.to (U' := T1874.setTop (mkF m 463 #[iv p1, iv p2, iv p3, iv (0 : Int32), iv (1 : Int32), iv (0 : Int32), rv a2, rv a1, iv (1 : Int32), iv (2 : Int32), iv (0 : Int32), iv (3 : Int32), iv (1 : Int32), iv (2 : Int32), iv (1 : Int32), iv (3 : Int32), iv (1 : Int32), iv (2 : Int32)] [(.int (own_pos (0 : Int32)))])) st1874 ?_
  rw [(by decide : (own_pos (0 : Int32)) = (0 : Int32))]
  have br1875 : (0 : Int32) = (0 : Int32) := (by decide)
  refine Rch.go (U' := T1874.setTop (mkF m 466 #[iv p1, iv p2, iv p3, iv (0 : Int32), iv (1 : Int32), iv (0 : Int32), rv a2, rv a1, iv (1 : Int32), iv (2 : Int32), iv (0 : Int32), iv (3 : Int32), iv (1 : Int32), iv (2 : Int32), iv (1 : Int32), iv (3 : Int32), iv (1 : Int32), iv (2 : Int32)] [])) (fun _ k => XS.ifNo X1874.here hx rfl (hb hby at_463) rfl (XT.i0_ne_f br1875) k) ?_
  refine Rch.go (U' := T1874.setTop (mkF m 467 #[iv p1, iv p2, iv p3, iv (0 : Int32), iv (1 : Int32), iv (0 : Int32), rv a2, rv a1, iv (1 : Int32), iv (2 : Int32), iv (0 : Int32), iv (3 : Int32), iv (1 : Int32), iv (2 : Int32), iv (1 : Int32), iv (3 : Int32), iv (1 : Int32), iv (2 : Int32)] [(.int (1 : Int32))])) (fun _ k => XS.iconst X1874.here hx rfl (hb hby at_466) k) ?_
  refine Rch.go (U' := T1874.setTop (mkF m 471 #[iv p1, iv p2, iv p3, iv (0 : Int32), iv (1 : Int32), iv (0 : Int32), rv a2, rv a1, iv (1 : Int32), iv (2 : Int32), iv (0 : Int32), iv (3 : Int32), iv (1 : Int32), iv (2 : Int32), iv (1 : Int32), iv (3 : Int32), iv (1 : Int32), iv (2 : Int32)] [(.int (1 : Int32))])) (fun _ k => XS.goto X1874.here hx rfl (pc0 := 467) (pc' := 471) rfl (hb hby at_467) (by decide) (by decide) k) ?_
  refine Rch.fin X1874 hlk (v := some (.int (nar .boolean (1 : Int32)))) (fun h => by rw [hret] at h; cases h) e1874 (by decide) (by decide) (fun fs hr => retN X1874 hx (t := .boolean) hret (by simp) (hb hby at_471) hr) ?_
  exact ⟨rfl, N1874⟩
set_option maxRecDepth 65536 in
set_option maxHeartbeats 40000000 in
theorem cut54_011 {p : Program} {l : Launch} {e : Env} {s : State} {m : MethodId} {args : Array Value} {below : List Frame} {meth : Method} {c : Code} {T0 : State} {locs : List Loc} {Z : State} {a0 : Array Value} {h0 : Heap} {n0 : Nat}  (p1 : Int32) (p2 : Int32) (p3 : Int32) (a1 : Addr) (a2 : Addr) (bco : Addr) (bnx : Addr) (bpv : Addr) (bfb : Addr) (bpd : Addr) (bip : Addr) (bfi : Addr) (ben : Addr)
    (X0 : Stand p l e room_1 s m args below meth c T0 locs 15 70) (hx : p.tables.exec = Jvm.exec) (hZ : Z.Warmed39 s.vm) (hw : ∀ d ∈ tables_1, d.before a0 Z = true) (hby : c.code = code) (hml : c.maxLocals = 18) (hown : s.vm.findClass cLW = some m.cls) (hret : meth.sig.returnType = some .boolean) (hlk : meth.locks = false) (e0 : T0.heap = h0) (N0 : Fr n0 locs) (Z0 : n0 ≤ h0.size) (B : Cb Z h0 n0 a1 a2 bco bnx bpv bfb bpd bip bfi ben [0, 0, 0, 0] [1, -1, 0, 0] [-1, 0, 0, 0] [0, 0, 0, 0] [0, 0, 0, 0] [1, 0, 0, 0] (1 : Int32) (1 : Int32)) :
    Rch p e below (Fin s below (fun v h L => v = some (.int 1) ∧ Fr n0 L) 40 256) (T0.setTop (mkF m 54 #[iv p1, iv p2, iv p3, iv (0 : Int32), iv (1 : Int32), iv (1 : Int32), rv a2, rv a1, uv, uv, uv, uv, uv, uv, uv, uv, uv, uv] [])) := by
  refine Rch.go (U' := T0.setTop (mkF m 55 #[iv p1, iv p2, iv p3, iv (0 : Int32), iv (1 : Int32), iv (1 : Int32), rv a2, rv a1, uv, uv, uv, uv, uv, uv, uv, uv, uv, uv] [(.int (0 : Int32))])) (fun _ k => XS.iloadN X0.here hx rfl (hb hby at_54) rfl  k) ?_
  have br1876 : (0 : Int32) = (0 : Int32) := (by decide)
  refine Rch.go (U' := T0.setTop (mkF m 255 #[iv p1, iv p2, iv p3, iv (0 : Int32), iv (1 : Int32), iv (1 : Int32), rv a2, rv a1, uv, uv, uv, uv, uv, uv, uv, uv, uv, uv] [])) (fun _ k => XS.ifYes X0.here hx rfl (pc0 := 55) (pc' := 255) rfl (hb hby at_55) rfl (XT.i0_eq_t br1876) (by decide) (by decide) k) ?_
  refine Rch.go (U' := T0.setTop (mkF m 257 #[iv p1, iv p2, iv p3, iv (0 : Int32), iv (1 : Int32), iv (1 : Int32), rv a2, rv a1, uv, uv, uv, uv, uv, uv, uv, uv, uv, uv] [(.ref a1)])) (fun _ k => XS.aload X0.here hx rfl (hb hby at_255) rfl rfl k) ?_
  refine Rch.go (U' := T0.setTop (mkF m 259 #[iv p1, iv p2, iv p3, iv (0 : Int32), iv (1 : Int32), iv (1 : Int32), rv a2, rv a1, uv, uv, uv, uv, uv, uv, uv, uv, uv, uv] [(.int (1 : Int32)), (.ref a1)])) (fun _ k => XS.iload X0.here hx rfl (hb hby at_257) rfl  k) ?_
  refine Rch.go (U' := T0.setTop (mkF m 260 #[iv p1, iv p2, iv p3, iv (0 : Int32), iv (1 : Int32), iv (1 : Int32), rv a2, rv a1, uv, uv, uv, uv, uv, uv, uv, uv, uv, uv] [(.int (2 : Int32)), (.int (1 : Int32)), (.ref a1)])) (fun _ k => XS.iconst X0.here hx rfl (hb hby at_259) k) ?_
  obtain ⟨cq1877, kq1877, q1877a, q1877b, q1877c⟩ := isOf hZ e0 B.1.1
  obtain ⟨_, _, ⟨T1877, L1877, k1877, n1877⟩, -, X1877, ⟨Lc1877, hQ1877, l1877, y1877, z1877⟩, st1877⟩ := X0.virtualBack hx (y := yj) (z := yj) hown (mvT hZ (wi hw 51 rfl)) (mvT hZ (wi hw 52 rfl)) (notFace_of_selects (args := #[]) (mvT hZ (wi hw 54 rfl))) (mvT hZ (wi hw 54 rfl)) (mvT hZ (wi hw 53 rfl)) (by decide) (backOf (W := 0) (rmJ l Z a0 hw [] a1 a2 bco bnx bpv bfb bpd bip bfi ben [0, 0, 0, 0] [1, -1, 0, 0] [-1, 0, 0, 0] [0, 0, 0, 0] [0, 0, 0, 0] [1, 0, 0, 0] (1 : Int32) (1 : Int32) (1 : Int32) (2 : Int32) h0 n0 Z0 B (by decide)) hZ (wi hw 55 rfl) (wi hw 29 rfl) (by decide) (by decide)) q1877a q1877c (g := (mkF m 260 #[iv p1, iv p2, iv p3, iv (0 : Int32), iv (1 : Int32), iv (1 : Int32), rv a2, rv a1, uv, uv, uv, uv, uv, uv, uv, uv, uv, uv] [(.int (2 : Int32)), (.int (1 : Int32)), (.ref a1)])) rfl (by rw [hml]; rfl) (Steps.refl _) (argsL := [(.int (1 : Int32)), (.int (2 : Int32))]) (rest := []) (lenOf pd_8 rfl) rfl (by show 2 * 0 + _ ≤ _; exact Nat.le_of_eq rfl) (hb hby at_260) (fun _ _ => ⟨rfl, e0, (by decide : 15 + 0 ≤ _), (by decide : 70 + 0 ≤ _)⟩)
  dsimp only [Pt.U, Pt.locs, Pt.cells, Pt.slots] at X1877 l1877 y1877 z1877 st1877 hQ1877
  subst l1877 y1877 z1877
  obtain ⟨rfl, N1877q, z1877, C1877⟩ := hQ1877
  have N1877 := Fr.app N0 N1877q
  rw [(by rfl : own_join [0, 0, 0, 0] [1, -1, 0, 0] [-1, 0, 0, 0] [0, 0, 0, 0] [0, 0, 0, 0] [1, 0, 0, 0] (1 : Int32) (1 : Int32) (1 : Int32) (2 : Int32) = ([0, 0, 0, 0], [1, 2, -1, 0], [-1, 0, 1, 0], [0, 0, 0, 0], [0, 0, 0, 0], [1, 0, 0, 0], (1 : Int32), (1 : Int32)))] at C1877
  have B1877 : Cb Z T1877.heap n0 a1 a2 bco bnx bpv bfb bpd bip bfi ben [0, 0, 0, 0] [1, 2, -1, 0] [-1, 0, 1, 0] [0, 0, 0, 0] [0, 0, 0, 0] [1, 0, 0, 0] (1 : Int32) (1 : Int32) := C1877
  refine Rch.to (U' := T1877.setTop (mkF m 263 #[iv p1, iv p2, iv p3, iv (0 : Int32), iv (1 : Int32), iv (1 : Int32), rv a2, rv a1, uv, uv, uv, uv, uv, uv, uv, uv, uv, uv] [])) st1877 ?_
  refine Rch.go (U' := T1877.setTop (mkF m 265 #[iv p1, iv p2, iv p3, iv (0 : Int32), iv (1 : Int32), iv (1 : Int32), rv a2, rv a1, uv, uv, uv, uv, uv, uv, uv, uv, uv, uv] [(.ref a1)])) (fun _ k => XS.aload X1877.here hx rfl (hb hby at_263) rfl rfl k) ?_
  refine Rch.go (U' := T1877.setTop (mkF m 267 #[iv p1, iv p2, iv p3, iv (0 : Int32), iv (1 : Int32), iv (1 : Int32), rv a2, rv a1, uv, uv, uv, uv, uv, uv, uv, uv, uv, uv] [(.int (1 : Int32)), (.ref a1)])) (fun _ k => XS.iload X1877.here hx rfl (hb hby at_265) rfl  k) ?_
  refine Rch.go (U' := T1877.setTop (mkF m 268 #[iv p1, iv p2, iv p3, iv (0 : Int32), iv (1 : Int32), iv (1 : Int32), rv a2, rv a1, uv, uv, uv, uv, uv, uv, uv, uv, uv, uv] [(.int (3 : Int32)), (.int (1 : Int32)), (.ref a1)])) (fun _ k => XS.iconst X1877.here hx rfl (hb hby at_267) k) ?_
  obtain ⟨cq1878, kq1878, q1878a, q1878b, q1878c⟩ := isOf hZ rfl B1877.1.1
  obtain ⟨_, _, ⟨T1878, L1878, k1878, n1878⟩, -, X1878, ⟨Lc1878, hQ1878, l1878, y1878, z1878⟩, st1878⟩ := X1877.virtualBack hx (y := yj) (z := yj) hown (mvT hZ (wi hw 51 rfl)) (mvT hZ (wi hw 52 rfl)) (notFace_of_selects (args := #[]) (mvT hZ (wi hw 54 rfl))) (mvT hZ (wi hw 54 rfl)) (mvT hZ (wi hw 53 rfl)) (by decide) (backOf (W := 0) (rmJ l Z a0 hw [] a1 a2 bco bnx bpv bfb bpd bip bfi ben [0, 0, 0, 0] [1, 2, -1, 0] [-1, 0, 1, 0] [0, 0, 0, 0] [0, 0, 0, 0] [1, 0, 0, 0] (1 : Int32) (1 : Int32) (1 : Int32) (3 : Int32) T1877.heap n0 z1877 B1877 (by decide)) hZ (wi hw 55 rfl) (wi hw 29 rfl) (by decide) (by decide)) q1878a q1878c (g := (mkF m 268 #[iv p1, iv p2, iv p3, iv (0 : Int32), iv (1 : Int32), iv (1 : Int32), rv a2, rv a1, uv, uv, uv, uv, uv, uv, uv, uv, uv, uv] [(.int (3 : Int32)), (.int (1 : Int32)), (.ref a1)])) rfl (by rw [hml]; rfl) (Steps.refl _) (argsL := [(.int (1 : Int32)), (.int (3 : Int32))]) (rest := []) (lenOf pd_8 rfl) rfl (by show 2 * 0 + _ ≤ _; exact Nat.le_of_eq rfl) (hb hby at_268) (fun _ _ => ⟨rfl, rfl, (by decide : 15 + 0 ≤ _), (by decide : 70 + 0 ≤ _)⟩)
  dsimp only [Pt.U, Pt.locs, Pt.cells, Pt.slots] at X1878 l1878 y1878 z1878 st1878 hQ1878
  subst l1878 y1878 z1878
  obtain ⟨rfl, N1878q, z1878, C1878⟩ := hQ1878
  have N1878 := Fr.app N1877 N1878q
  rw [(by rfl : own_join [0, 0, 0, 0] [1, 2, -1, 0] [-1, 0, 1, 0] [0, 0, 0, 0] [0, 0, 0, 0] [1, 0, 0, 0] (1 : Int32) (1 : Int32) (1 : Int32) (3 : Int32) = ([0, 0, 0, 0], [1, 3, -1, 2], [-1, 0, 3, 1], [0, 0, 0, 0], [0, 0, 0, 0], [1, 0, 0, 0], (1 : Int32), (1 : Int32)))] at C1878
  have B1878 : Cb Z T1878.heap n0 a1 a2 bco bnx bpv bfb bpd bip bfi ben [0, 0, 0, 0] [1, 3, -1, 2] [-1, 0, 3, 1] [0, 0, 0, 0] [0, 0, 0, 0] [1, 0, 0, 0] (1 : Int32) (1 : Int32) := C1878
  refine Rch.to (U' := T1878.setTop (mkF m 271 #[iv p1, iv p2, iv p3, iv (0 : Int32), iv (1 : Int32), iv (1 : Int32), rv a2, rv a1, uv, uv, uv, uv, uv, uv, uv, uv, uv, uv] [])) st1878 ?_
  refine Rch.go (U' := T1878.setTop (mkF m 273 #[iv p1, iv p2, iv p3, iv (0 : Int32), iv (1 : Int32), iv (1 : Int32), rv a2, rv a1, uv, uv, uv, uv, uv, uv, uv, uv, uv, uv] [(.int (1 : Int32))])) (fun _ k => XS.iload X1878.here hx rfl (hb hby at_271) rfl  k) ?_
  have br1879 : ¬ ((1 : Int32) = (0 : Int32)) := (by decide)
  refine Rch.go (U' := T1878.setTop (mkF m 280 #[iv p1, iv p2, iv p3, iv (0 : Int32), iv (1 : Int32), iv (1 : Int32), rv a2, rv a1, uv, uv, uv, uv, uv, uv, uv, uv, uv, uv] [])) (fun _ k => XS.ifYes X1878.here hx rfl (pc0 := 273) (pc' := 280) rfl (hb hby at_273) rfl (XT.i0_ne_t br1879) (by decide) (by decide) k) ?_
  refine Rch.go (U' := T1878.setTop (mkF m 281 #[iv p1, iv p2, iv p3, iv (0 : Int32), iv (1 : Int32), iv (1 : Int32), rv a2, rv a1, uv, uv, uv, uv, uv, uv, uv, uv, uv, uv] [(.int (1 : Int32))])) (fun _ k => XS.iconst X1878.here hx rfl (hb hby at_280) k) ?_
  refine Rch.go (U' := T1878.setTop (mkF m 283 #[iv p1, iv p2, iv p3, iv (0 : Int32), iv (1 : Int32), iv (1 : Int32), rv a2, rv a1, iv (1 : Int32), uv, uv, uv, uv, uv, uv, uv, uv, uv] [])) (fun _ k => XS.istore X1878.here hx rfl (hb hby at_281) rfl (l' := #[iv p1, iv p2, iv p3, iv (0 : Int32), iv (1 : Int32), iv (1 : Int32), rv a2, rv a1, iv (1 : Int32), uv, uv, uv, uv, uv, uv, uv, uv, uv]) rfl k) ?_
  refine Rch.go (U' := T1878.setTop (mkF m 285 #[iv p1, iv p2, iv p3, iv (0 : Int32), iv (1 : Int32), iv (1 : Int32), rv a2, rv a1, iv (1 : Int32), uv, uv, uv, uv, uv, uv, uv, uv, uv] [(.int (1 : Int32))])) (fun _ k => XS.iload X1878.here hx rfl (hb hby at_283) rfl  k) ?_
  have br1880 : ¬ ((1 : Int32) = (0 : Int32)) := (by decide)
  refine Rch.go (U' := T1878.setTop (mkF m 292 #[iv p1, iv p2, iv p3, iv (0 : Int32), iv (1 : Int32), iv (1 : Int32), rv a2, rv a1, iv (1 : Int32), uv, uv, uv, uv, uv, uv, uv, uv, uv] [])) (fun _ k => XS.ifYes X1878.here hx rfl (pc0 := 285) (pc' := 292) rfl (hb hby at_285) rfl (XT.i0_ne_t br1880) (by decide) (by decide) k) ?_
  refine Rch.go (U' := T1878.setTop (mkF m 293 #[iv p1, iv p2, iv p3, iv (0 : Int32), iv (1 : Int32), iv (1 : Int32), rv a2, rv a1, iv (1 : Int32), uv, uv, uv, uv, uv, uv, uv, uv, uv] [(.int (2 : Int32))])) (fun _ k => XS.iconst X1878.here hx rfl (hb hby at_292) k) ?_
  refine Rch.go (U' := T1878.setTop (mkF m 295 #[iv p1, iv p2, iv p3, iv (0 : Int32), iv (1 : Int32), iv (1 : Int32), rv a2, rv a1, iv (1 : Int32), iv (2 : Int32), uv, uv, uv, uv, uv, uv, uv, uv] [])) (fun _ k => XS.istore X1878.here hx rfl (hb hby at_293) rfl (l' := #[iv p1, iv p2, iv p3, iv (0 : Int32), iv (1 : Int32), iv (1 : Int32), rv a2, rv a1, iv (1 : Int32), iv (2 : Int32), uv, uv, uv, uv, uv, uv, uv, uv]) rfl k) ?_
  refine Rch.go (U' := T1878.setTop (mkF m 297 #[iv p1, iv p2, iv p3, iv (0 : Int32), iv (1 : Int32), iv (1 : Int32), rv a2, rv a1, iv (1 : Int32), iv (2 : Int32), uv, uv, uv, uv, uv, uv, uv, uv] [(.int (1 : Int32))])) (fun _ k => XS.iload X1878.here hx rfl (hb hby at_295) rfl  k) ?_
  have br1881 : ¬ ((1 : Int32) = (0 : Int32)) := (by decide)
  refine Rch.go (U' := T1878.setTop (mkF m 304 #[iv p1, iv p2, iv p3, iv (0 : Int32), iv (1 : Int32), iv (1 : Int32), rv a2, rv a1, iv (1 : Int32), iv (2 : Int32), uv, uv, uv, uv, uv, uv, uv, uv] [])) (fun _ k => XS.ifYes X1878.here hx rfl (pc0 := 297) (pc' := 304) rfl (hb hby at_297) rfl (XT.i0_ne_t br1881) (by decide) (by decide) k) ?_
  refine Rch.go (U' := T1878.setTop (mkF m 306 #[iv p1, iv p2, iv p3, iv (0 : Int32), iv (1 : Int32), iv (1 : Int32), rv a2, rv a1, iv (1 : Int32), iv (2 : Int32), uv, uv, uv, uv, uv, uv, uv, uv] [(.int (1 : Int32))])) (fun _ k => XS.iload X1878.here hx rfl (hb hby at_304) rfl  k) ?_
  refine Rch.go (U' := T1878.setTop (mkF m 308 #[iv p1, iv p2, iv p3, iv (0 : Int32), iv (1 : Int32), iv (1 : Int32), rv a2, rv a1, iv (1 : Int32), iv (2 : Int32), uv, uv, uv, uv, uv, uv, uv, uv] [(.int (1 : Int32)), (.int (1 : Int32))])) (fun _ k => XS.iload X1878.here hx rfl (hb hby at_306) rfl  k) ?_
  have br1882 : (1 : Int32) = (1 : Int32) := (by decide)
  refine Rch.go (U' := T1878.setTop (mkF m 311 #[iv p1, iv p2, iv p3, iv (0 : Int32), iv (1 : Int32), iv (1 : Int32), rv a2, rv a1, iv (1 : Int32), iv (2 : Int32), uv, uv, uv, uv, uv, uv, uv, uv] [])) (fun _ k => XS.icmpNo X1878.here hx rfl (hb hby at_308) rfl (XT.ii_ne_f br1882) k) ?_
  refine Rch.go (U' := T1878.setTop (mkF m 312 #[iv p1, iv p2, iv p3, iv (0 : Int32), iv (1 : Int32), iv (1 : Int32), rv a2, rv a1, iv (1 : Int32), iv (2 : Int32), uv, uv, uv, uv, uv, uv, uv, uv] [(.int (1 : Int32))])) (fun _ k => XS.iconst X1878.here hx rfl (hb hby at_311) k) ?_
  refine Rch.go (U' := T1878.setTop (mkF m 316 #[iv p1, iv p2, iv p3, iv (0 : Int32), iv (1 : Int32), iv (1 : Int32), rv a2, rv a1, iv (1 : Int32), iv (2 : Int32), uv, uv, uv, uv, uv, uv, uv, uv] [(.int (1 : Int32))])) (fun _ k => XS.goto X1878.here hx rfl (pc0 := 312) (pc' := 316) rfl (hb hby at_312) (by decide) (by decide) k) ?_
  refine Rch.go (U' := T1878.setTop (mkF m 318 #[iv p1, iv p2, iv p3, iv (0 : Int32), iv (1 : Int32), iv (1 : Int32), rv a2, rv a1, iv (1 : Int32), iv (2 : Int32), iv (1 : Int32), uv, uv, uv, uv, uv, uv, uv] [])) (fun _ k => XS.istore X1878.here hx rfl (hb hby at_316) rfl (l' := #[iv p1, iv p2, iv p3, iv (0 : Int32), iv (1 : Int32), iv (1 : Int32), rv a2, rv a1, iv (1 : Int32), iv (2 : Int32), iv (1 : Int32), uv, uv, uv, uv, uv, uv, uv]) rfl k) ?_
  refine Rch.go (U' := T1878.setTop (mkF m 320 #[iv p1, iv p2, iv p3, iv (0 : Int32), iv (1 : Int32), iv (1 : Int32), rv a2, rv a1, iv (1 : Int32), iv (2 : Int32), iv (1 : Int32), uv, uv, uv, uv, uv, uv, uv] [(.int (1 : Int32))])) (fun _ k => XS.iload X1878.here hx rfl (hb hby at_318) rfl  k) ?_
  have br1883 : ¬ ((1 : Int32) = (0 : Int32)) := (by decide)
  refine Rch.go (U' := T1878.setTop (mkF m 337 #[iv p1, iv p2, iv p3, iv (0 : Int32), iv (1 : Int32), iv (1 : Int32), rv a2, rv a1, iv (1 : Int32), iv (2 : Int32), iv (1 : Int32), uv, uv, uv, uv, uv, uv, uv] [])) (fun _ k => XS.ifYes X1878.here hx rfl (pc0 := 320) (pc' := 337) rfl (hb hby at_320) rfl (XT.i0_ne_t br1883) (by decide) (by decide) k) ?_
  refine Rch.go (U' := T1878.setTop (mkF m 339 #[iv p1, iv p2, iv p3, iv (0 : Int32), iv (1 : Int32), iv (1 : Int32), rv a2, rv a1, iv (1 : Int32), iv (2 : Int32), iv (1 : Int32), uv, uv, uv, uv, uv, uv, uv] [(.int (1 : Int32))])) (fun _ k => XS.iload X1878.here hx rfl (hb hby at_337) rfl  k) ?_
  refine Rch.go (U' := T1878.setTop (mkF m 340 #[iv p1, iv p2, iv p3, iv (0 : Int32), iv (1 : Int32), iv (1 : Int32), rv a2, rv a1, iv (1 : Int32), iv (2 : Int32), iv (1 : Int32), uv, uv, uv, uv, uv, uv, uv] [(.int (1 : Int32)), (.int (1 : Int32))])) (fun _ k => XS.iconst X1878.here hx rfl (hb hby at_339) k) ?_
  have br1884 : (1 : Int32) = (1 : Int32) := (by decide)
  refine Rch.go (U' := T1878.setTop (mkF m 343 #[iv p1, iv p2, iv p3, iv (0 : Int32), iv (1 : Int32), iv (1 : Int32), rv a2, rv a1, iv (1 : Int32), iv (2 : Int32), iv (1 : Int32), uv, uv, uv, uv, uv, uv, uv] [])) (fun _ k => XS.icmpNo X1878.here hx rfl (hb hby at_340) rfl (XT.ii_ne_f br1884) k) ?_
  refine Rch.go (U' := T1878.setTop (mkF m 345 #[iv p1, iv p2, iv p3, iv (0 : Int32), iv (1 : Int32), iv (1 : Int32), rv a2, rv a1, iv (1 : Int32), iv (2 : Int32), iv (1 : Int32), uv, uv, uv, uv, uv, uv, uv] [(.int (1 : Int32))])) (fun _ k => XS.iload X1878.here hx rfl (hb hby at_343) rfl  k) ?_
  refine Rch.go (U' := T1878.setTop (mkF m 347 #[iv p1, iv p2, iv p3, iv (0 : Int32), iv (1 : Int32), iv (1 : Int32), rv a2, rv a1, iv (1 : Int32), iv (2 : Int32), iv (1 : Int32), iv (1 : Int32), uv, uv, uv, uv, uv, uv] [])) (fun _ k => XS.istore X1878.here hx rfl (hb hby at_345) rfl (l' := #[iv p1, iv p2, iv p3, iv (0 : Int32), iv (1 : Int32), iv (1 : Int32), rv a2, rv a1, iv (1 : Int32), iv (2 : Int32), iv (1 : Int32), iv (1 : Int32), uv, uv, uv, uv, uv, uv]) rfl k) ?_
  refine Rch.go (U' := T1878.setTop (mkF m 348 #[iv p1, iv p2, iv p3, iv (0 : Int32), iv (1 : Int32), iv (1 : Int32), rv a2, rv a1, iv (1 : Int32), iv (2 : Int32), iv (1 : Int32), iv (1 : Int32), uv, uv, uv, uv, uv, uv] [(.int (3 : Int32))])) (fun _ k => XS.iconst X1878.here hx rfl (hb hby at_347) k) ?_
  refine Rch.go (U' := T1878.setTop (mkF m 350 #[iv p1, iv p2, iv p3, iv (0 : Int32), iv (1 : Int32), iv (1 : Int32), rv a2, rv a1, iv (1 : Int32), iv (2 : Int32), iv (1 : Int32), iv (1 : Int32), iv (3 : Int32), uv, uv, uv, uv, uv] [])) (fun _ k => XS.istore X1878.here hx rfl (hb hby at_348) rfl (l' := #[iv p1, iv p2, iv p3, iv (0 : Int32), iv (1 : Int32), iv (1 : Int32), rv a2, rv a1, iv (1 : Int32), iv (2 : Int32), iv (1 : Int32), iv (1 : Int32), iv (3 : Int32), uv, uv, uv, uv, uv]) rfl k) ?_
  refine Rch.go (U' := T1878.setTop (mkF m 352 #[iv p1, iv p2, iv p3, iv (0 : Int32), iv (1 : Int32), iv (1 : Int32), rv a2, rv a1, iv (1 : Int32), iv (2 : Int32), iv (1 : Int32), iv (1 : Int32), iv (3 : Int32), uv, uv, uv, uv, uv] [(.int (2 : Int32))])) (fun _ k => XS.iload X1878.here hx rfl (hb hby at_350) rfl  k) ?_
  refine Rch.go (U' := T1878.setTop (mkF m 354 #[iv p1, iv p2, iv p3, iv (0 : Int32), iv (1 : Int32), iv (1 : Int32), rv a2, rv a1, iv (1 : Int32), iv (2 : Int32), iv (1 : Int32), iv (1 : Int32), iv (3 : Int32), iv (2 : Int32), uv, uv, uv, uv] [])) (fun _ k => XS.istore X1878.here hx rfl (hb hby at_352) rfl (l' := #[iv p1, iv p2, iv p3, iv (0 : Int32), iv (1 : Int32), iv (1 : Int32), rv a2, rv a1, iv (1 : Int32), iv (2 : Int32), iv (1 : Int32), iv (1 : Int32), iv (3 : Int32), iv (2 : Int32), uv, uv, uv, uv]) rfl k) ?_
  refine Rch.go (U' := T1878.setTop (mkF m 368 #[iv p1, iv p2, iv p3, iv (0 : Int32), iv (1 : Int32), iv (1 : Int32), rv a2, rv a1, iv (1 : Int32), iv (2 : Int32), iv (1 : Int32), iv (1 : Int32), iv (3 : Int32), iv (2 : Int32), uv, uv, uv, uv] [])) (fun _ k => XS.goto X1878.here hx rfl (pc0 := 354) (pc' := 368) rfl (hb hby at_354) (by decide) (by decide) k) ?_
  refine Rch.go (U' := T1878.setTop (mkF m 370 #[iv p1, iv p2, iv p3, iv (0 : Int32), iv (1 : Int32), iv (1 : Int32), rv a2, rv a1, iv (1 : Int32), iv (2 : Int32), iv (1 : Int32), iv (1 : Int32), iv (3 : Int32), iv (2 : Int32), uv, uv, uv, uv] [(.ref a1)])) (fun _ k => XS.aload X1878.here hx rfl (hb hby at_368) rfl rfl k) ?_
  refine Rch.go (U' := T1878.setTop (mkF m 371 #[iv p1, iv p2, iv p3, iv (0 : Int32), iv (1 : Int32), iv (1 : Int32), rv a2, rv a1, iv (1 : Int32), iv (2 : Int32), iv (1 : Int32), iv (1 : Int32), iv (3 : Int32), iv (2 : Int32), uv, uv, uv, uv] [(.int (2 : Int32)), (.ref a1)])) (fun _ k => XS.iconst X1878.here hx rfl (hb hby at_370) k) ?_
  obtain ⟨cq1885, kq1885, q1885a, q1885b, q1885c⟩ := isOf hZ rfl B1878.1.1
  obtain ⟨_, _, ⟨T1885, L1885, k1885, n1885⟩, -, X1885, ⟨Lc1885, hQ1885, l1885, y1885, z1885⟩, st1885⟩ := X1878.virtualBack hx (y := yc) (z := yc) hown (mvT hZ (wi hw 58 rfl)) (mvT hZ (wi hw 59 rfl)) (notFace_of_selects (args := #[]) (mvT hZ (wi hw 61 rfl))) (mvT hZ (wi hw 61 rfl)) (mvT hZ (wi hw 60 rfl)) (by decide) (backOf (W := 0) (rmCo l Z a0 hw [] a1 a2 bco bnx bpv bfb bpd bip bfi ben [0, 0, 0, 0] [1, 3, -1, 2] [-1, 0, 3, 1] [0, 0, 0, 0] [0, 0, 0, 0] [1, 0, 0, 0] (1 : Int32) (1 : Int32) (2 : Int32) T1878.heap n0 z1878 B1878 (by decide)) hZ (wi hw 62 rfl) (wi hw 29 rfl) (by decide) (by decide)) q1885a q1885c (g := (mkF m 371 #[iv p1, iv p2, iv p3, iv (0 : Int32), iv (1 : Int32), iv (1 : Int32), rv a2, rv a1, iv (1 : Int32), iv (2 : Int32), iv (1 : Int32), iv (1 : Int32), iv (3 : Int32), iv (2 : Int32), uv, uv, uv, uv] [(.int (2 : Int32)), (.ref a1)])) rfl (by rw [hml]; rfl) (Steps.refl _) (argsL := [(.int (2 : Int32))]) (rest := []) (lenOf pd_7 rfl) rfl (by show 2 * 0 + _ ≤ _; exact Nat.le_of_eq rfl) (hb hby at_371) (fun _ _ => ⟨rfl, rfl, (by decide : 15 + 0 ≤ _), (by decide : 70 + 0 ≤ _)⟩)
  dsimp only [Pt.U, Pt.locs, Pt.cells, Pt.slots] at X1885 l1885 y1885 z1885 st1885 hQ1885
  subst l1885 y1885 z1885
  obtain ⟨rfl, N1885q, e1885⟩ := hQ1885
  have N1885 := Fr.app N1878 N1885q
  refine Rch.to (U' := T1885.setTop (mkF m 374 #[iv p1, iv p2, iv p3, iv (0 : Int32), iv (1 : Int32), iv (1 : Int32), rv a2, rv a1, iv (1 : Int32), iv (2 : Int32), iv (1 : Int32), iv (1 : Int32), iv (3 : Int32), iv (2 : Int32), uv, uv, uv, uv] [(.int (own_at [0, 0, 0, 0] (2 : Int32)))])) st1885 ?_
  rw [(by decide : (own_at [0, 0, 0, 0] (2 : Int32)) = (0 : Int32))]
  have br1886 : (0 : Int32) = (0 : Int32) := (by decide)
  refine Rch.go (U' := T1885.setTop (mkF m 377 #[iv p1, iv p2, iv p3, iv (0 : Int32), iv (1 : Int32), iv (1 : Int32), rv a2, rv a1, iv (1 : Int32), iv (2 : Int32), iv (1 : Int32), iv (1 : Int32), iv (3 : Int32), iv (2 : Int32), uv, uv, uv, uv] [])) (fun _ k => XS.ifNo X1885.here hx rfl (hb hby at_374) rfl (XT.i0_ne_f br1886) k) ?_
  refine Rch.go (U' := T1885.setTop (mkF m 379 #[iv p1, iv p2, iv p3, iv (0 : Int32), iv (1 : Int32), iv (1 : Int32), rv a2, rv a1, iv (1 : Int32), iv (2 : Int32), iv (1 : Int32), iv (1 : Int32), iv (3 : Int32), iv (2 : Int32), uv, uv, uv, uv] [(.ref a1)])) (fun _ k => XS.aload X1885.here hx rfl (hb hby at_377) rfl rfl k) ?_
  refine Rch.go (U' := T1885.setTop (mkF m 380 #[iv p1, iv p2, iv p3, iv (0 : Int32), iv (1 : Int32), iv (1 : Int32), rv a2, rv a1, iv (1 : Int32), iv (2 : Int32), iv (1 : Int32), iv (1 : Int32), iv (3 : Int32), iv (2 : Int32), uv, uv, uv, uv] [(.int (3 : Int32)), (.ref a1)])) (fun _ k => XS.iconst X1885.here hx rfl (hb hby at_379) k) ?_
  obtain ⟨cq1887, kq1887, q1887a, q1887b, q1887c⟩ := isOf hZ e1885 B1878.1.1
  obtain ⟨_, _, ⟨T1887, L1887, k1887, n1887⟩, -, X1887, ⟨Lc1887, hQ1887, l1887, y1887, z1887⟩, st1887⟩ := X1885.virtualBack hx (y := yc) (z := yc) hown (mvT hZ (wi hw 58 rfl)) (mvT hZ (wi hw 59 rfl)) (notFace_of_selects (args := #[]) (mvT hZ (wi hw 61 rfl))) (mvT hZ (wi hw 61 rfl)) (mvT hZ (wi hw 60 rfl)) (by decide) (backOf (W := 0) (rmCo l Z a0 hw [] a1 a2 bco bnx bpv bfb bpd bip bfi ben [0, 0, 0, 0] [1, 3, -1, 2] [-1, 0, 3, 1] [0, 0, 0, 0] [0, 0, 0, 0] [1, 0, 0, 0] (1 : Int32) (1 : Int32) (3 : Int32) T1878.heap n0 z1878 B1878 (by decide)) hZ (wi hw 62 rfl) (wi hw 29 rfl) (by decide) (by decide)) q1887a q1887c (g := (mkF m 380 #[iv p1, iv p2, iv p3, iv (0 : Int32), iv (1 : Int32), iv (1 : Int32), rv a2, rv a1, iv (1 : Int32), iv (2 : Int32), iv (1 : Int32), iv (1 : Int32), iv (3 : Int32), iv (2 : Int32), uv, uv, uv, uv] [(.int (3 : Int32)), (.ref a1)])) rfl (by rw [hml]; rfl) (Steps.refl _) (argsL := [(.int (3 : Int32))]) (rest := []) (lenOf pd_7 rfl) rfl (by show 2 * 0 + _ ≤ _; exact Nat.le_of_eq rfl) (hb hby at_380) (fun _ _ => ⟨rfl, e1885, (by decide : 15 + 0 ≤ _), (by decide : 70 + 0 ≤ _)⟩)
  dsimp only [Pt.U, Pt.locs, Pt.cells, Pt.slots] at X1887 l1887 y1887 z1887 st1887 hQ1887
  subst l1887 y1887 z1887
  obtain ⟨rfl, N1887q, e1887⟩ := hQ1887
  have N1887 := Fr.app N1885 N1887q
  refine Rch.to (U' := T1887.setTop (mkF m 383 #[iv p1, iv p2, iv p3, iv (0 : Int32), iv (1 : Int32), iv (1 : Int32), rv a2, rv a1, iv (1 : Int32), iv (2 : Int32), iv (1 : Int32), iv (1 : Int32), iv (3 : Int32), iv (2 : Int32), uv, uv, uv, uv] [(.int (own_at [0, 0, 0, 0] (3 : Int32)))])) st1887 ?_
  rw [(by decide : (own_at [0, 0, 0, 0] (3 : Int32)) = (0 : Int32))]
  have br1888 : (0 : Int32) = (0 : Int32) := (by decide)
  refine Rch.go (U' := T1887.setTop (mkF m 386 #[iv p1, iv p2, iv p3, iv (0 : Int32), iv (1 : Int32), iv (1 : Int32), rv a2, rv a1, iv (1 : Int32), iv (2 : Int32), iv (1 : Int32), iv (1 : Int32), iv (3 : Int32), iv (2 : Int32), uv, uv, uv, uv] [])) (fun _ k => XS.ifNo X1887.here hx rfl (hb hby at_383) rfl (XT.i0_ne_f br1888) k) ?_
  refine Rch.go (U' := T1887.setTop (mkF m 388 #[iv p1, iv p2, iv p3, iv (0 : Int32), iv (1 : Int32), iv (1 : Int32), rv a2, rv a1, iv (1 : Int32), iv (2 : Int32), iv (1 : Int32), iv (1 : Int32), iv (3 : Int32), iv (2 : Int32), uv, uv, uv, uv] [(.ref a1)])) (fun _ k => XS.aload X1887.here hx rfl (hb hby at_386) rfl rfl k) ?_
  obtain ⟨cq1889, kq1889, q1889a, q1889b, q1889c⟩ := isOf hZ e1887 B1878.1.1
  obtain ⟨_, _, ⟨T1889, L1889, k1889, n1889⟩, -, X1889, ⟨Lc1889, hQ1889, l1889, y1889, z1889⟩, st1889⟩ := X1887.virtualBack hx (y := yhs) (z := yhs) hown (mvT hZ (wi hw 63 rfl)) (mvT hZ (wi hw 64 rfl)) (notFace_of_selects (args := #[]) (mvT hZ (wi hw 66 rfl))) (mvT hZ (wi hw 66 rfl)) (mvT hZ (wi hw 65 rfl)) (by decide) (backOf (W := 0) (rmHs l Z a0 hw [] a1 a2 bco bnx bpv bfb bpd bip bfi ben [0, 0, 0, 0] [1, 3, -1, 2] [-1, 0, 3, 1] [0, 0, 0, 0] [0, 0, 0, 0] [1, 0, 0, 0] (1 : Int32) (1 : Int32)  T1878.heap n0 z1878 B1878 ) hZ (wi hw 67 rfl) (wi hw 29 rfl) (by decide) (by decide)) q1889a q1889c (g := (mkF m 388 #[iv p1, iv p2, iv p3, iv (0 : Int32), iv (1 : Int32), iv (1 : Int32), rv a2, rv a1, iv (1 : Int32), iv (2 : Int32), iv (1 : Int32), iv (1 : Int32), iv (3 : Int32), iv (2 : Int32), uv, uv, uv, uv] [(.ref a1)])) rfl (by rw [hml]; rfl) (Steps.refl _) (argsL := []) (rest := []) (lenOf pd_15 rfl) rfl (by show 2 * 0 + _ ≤ _; exact Nat.le_of_eq rfl) (hb hby at_388) (fun _ _ => ⟨rfl, e1887, (by decide : 15 + 0 ≤ _), (by decide : 70 + 0 ≤ _)⟩)
  dsimp only [Pt.U, Pt.locs, Pt.cells, Pt.slots] at X1889 l1889 y1889 z1889 st1889 hQ1889
  subst l1889 y1889 z1889
  obtain ⟨rfl, N1889q, e1889⟩ := hQ1889
  have N1889 := Fr.app N1887 N1889q
  refine Rch.to (U' := T1889.setTop (mkF m 391 #[iv p1, iv p2, iv p3, iv (0 : Int32), iv (1 : Int32), iv (1 : Int32), rv a2, rv a1, iv (1 : Int32), iv (2 : Int32), iv (1 : Int32), iv (1 : Int32), iv (3 : Int32), iv (2 : Int32), uv, uv, uv, uv] [(.int (own_pos (1 : Int32)))])) st1889 ?_
  rw [(by decide : (own_pos (1 : Int32)) = (1 : Int32))]
  have br1890 : ¬ ((1 : Int32) = (0 : Int32)) := (by decide)
  refine Rch.go (U' := T1889.setTop (mkF m 394 #[iv p1, iv p2, iv p3, iv (0 : Int32), iv (1 : Int32), iv (1 : Int32), rv a2, rv a1, iv (1 : Int32), iv (2 : Int32), iv (1 : Int32), iv (1 : Int32), iv (3 : Int32), iv (2 : Int32), uv, uv, uv, uv] [])) (fun _ k => XS.ifNo X1889.here hx rfl (hb hby at_391) rfl (XT.i0_eq_f br1890) k) ?_
  refine Rch.go (U' := T1889.setTop (mkF m 396 #[iv p1, iv p2, iv p3, iv (0 : Int32), iv (1 : Int32), iv (1 : Int32), rv a2, rv a1, iv (1 : Int32), iv (2 : Int32), iv (1 : Int32), iv (1 : Int32), iv (3 : Int32), iv (2 : Int32), uv, uv, uv, uv] [(.ref a1)])) (fun _ k => XS.aload X1889.here hx rfl (hb hby at_394) rfl rfl k) ?_
  obtain ⟨cq1891, kq1891, q1891a, q1891b, q1891c⟩ := isOf hZ e1889 B1878.1.1
  obtain ⟨_, _, ⟨T1891, L1891, k1891, n1891⟩, -, X1891, ⟨Lc1891, hQ1891, l1891, y1891, z1891⟩, st1891⟩ := X1889.virtualBack hx (y := yns) (z := yns) hown (mvT hZ (wi hw 68 rfl)) (mvT hZ (wi hw 69 rfl)) (notFace_of_selects (args := #[]) (mvT hZ (wi hw 71 rfl))) (mvT hZ (wi hw 71 rfl)) (mvT hZ (wi hw 70 rfl)) (by decide) (backOf (W := 0) (rmNs l Z a0 hw [] a1 a2 bco bnx bpv bfb bpd bip bfi ben [0, 0, 0, 0] [1, 3, -1, 2] [-1, 0, 3, 1] [0, 0, 0, 0] [0, 0, 0, 0] [1, 0, 0, 0] (1 : Int32) (1 : Int32)  T1878.heap n0 z1878 B1878 (by decide)) hZ (wi hw 72 rfl) (wi hw 29 rfl) (by decide) (by decide)) q1891a q1891c (g := (mkF m 396 #[iv p1, iv p2, iv p3, iv (0 : Int32), iv (1 : Int32), iv (1 : Int32), rv a2, rv a1, iv (1 : Int32), iv (2 : Int32), iv (1 : Int32), iv (1 : Int32), iv (3 : Int32), iv (2 : Int32), uv, uv, uv, uv] [(.ref a1)])) rfl (by rw [hml]; rfl) (Steps.refl _) (argsL := []) (rest := []) (lenOf pd_14 rfl) rfl (by show 2 * 0 + _ ≤ _; exact Nat.le_of_eq rfl) (hb hby at_396) (fun _ _ => ⟨rfl, e1889, (by decide : 15 + 0 ≤ _), (by decide : 70 + 0 ≤ _)⟩)
  dsimp only [Pt.U, Pt.locs, Pt.cells, Pt.slots] at X1891 l1891 y1891 z1891 st1891 hQ1891
  subst l1891 y1891 z1891
  obtain ⟨rfl, N1891q, e1891⟩ := hQ1891
  have N1891 := Fr.app N1889 N1891q
  refine Rch.to (U' := T1891.setTop (mkF m 399 #[iv p1, iv p2, iv p3, iv (0 : Int32), iv (1 : Int32), iv (1 : Int32), rv a2, rv a1, iv (1 : Int32), iv (2 : Int32), iv (1 : Int32), iv (1 : Int32), iv (3 : Int32), iv (2 : Int32), uv, uv, uv, uv] [(.int (own_at [0, 0, 0, 0] ((1 : Int32) - (1 : Int32))))])) st1891 ?_
  rw [(by decide : (own_at [0, 0, 0, 0] ((1 : Int32) - (1 : Int32))) = (0 : Int32))]
  have br1892 : (0 : Int32) = (0 : Int32) := (by decide)
  refine Rch.go (U' := T1891.setTop (mkF m 402 #[iv p1, iv p2, iv p3, iv (0 : Int32), iv (1 : Int32), iv (1 : Int32), rv a2, rv a1, iv (1 : Int32), iv (2 : Int32), iv (1 : Int32), iv (1 : Int32), iv (3 : Int32), iv (2 : Int32), uv, uv, uv, uv] [])) (fun _ k => XS.ifNo X1891.here hx rfl (hb hby at_399) rfl (XT.i0_ne_f br1892) k) ?_
  refine Rch.go (U' := T1891.setTop (mkF m 403 #[iv p1, iv p2, iv p3, iv (0 : Int32), iv (1 : Int32), iv (1 : Int32), rv a2, rv a1, iv (1 : Int32), iv (2 : Int32), iv (1 : Int32), iv (1 : Int32), iv (3 : Int32), iv (2 : Int32), uv, uv, uv, uv] [(.int (1 : Int32))])) (fun _ k => XS.iconst X1891.here hx rfl (hb hby at_402) k) ?_
  refine Rch.go (U' := T1891.setTop (mkF m 407 #[iv p1, iv p2, iv p3, iv (0 : Int32), iv (1 : Int32), iv (1 : Int32), rv a2, rv a1, iv (1 : Int32), iv (2 : Int32), iv (1 : Int32), iv (1 : Int32), iv (3 : Int32), iv (2 : Int32), uv, uv, uv, uv] [(.int (1 : Int32))])) (fun _ k => XS.goto X1891.here hx rfl (pc0 := 403) (pc' := 407) rfl (hb hby at_403) (by decide) (by decide) k) ?_
  refine Rch.go (U' := T1891.setTop (mkF m 409 #[iv p1, iv p2, iv p3, iv (0 : Int32), iv (1 : Int32), iv (1 : Int32), rv a2, rv a1, iv (1 : Int32), iv (2 : Int32), iv (1 : Int32), iv (1 : Int32), iv (3 : Int32), iv (2 : Int32), iv (1 : Int32), uv, uv, uv] [])) (fun _ k => XS.istore X1891.here hx rfl (hb hby at_407) rfl (l' := #[iv p1, iv p2, iv p3, iv (0 : Int32), iv (1 : Int32), iv (1 : Int32), rv a2, rv a1, iv (1 : Int32), iv (2 : Int32), iv (1 : Int32), iv (1 : Int32), iv (3 : Int32), iv (2 : Int32), iv (1 : Int32), uv, uv, uv]) rfl k) ?_
  refine Rch.go (U' := T1891.setTop (mkF m 411 #[iv p1, iv p2, iv p3, iv (0 : Int32), iv (1 : Int32), iv (1 : Int32), rv a2, rv a1, iv (1 : Int32), iv (2 : Int32), iv (1 : Int32), iv (1 : Int32), iv (3 : Int32), iv (2 : Int32), iv (1 : Int32), uv, uv, uv] [(.int (1 : Int32))])) (fun _ k => XS.iload X1891.here hx rfl (hb hby at_409) rfl  k) ?_
  have br1893 : ¬ ((1 : Int32) = (0 : Int32)) := (by decide)
  refine Rch.go (U' := T1891.setTop (mkF m 416 #[iv p1, iv p2, iv p3, iv (0 : Int32), iv (1 : Int32), iv (1 : Int32), rv a2, rv a1, iv (1 : Int32), iv (2 : Int32), iv (1 : Int32), iv (1 : Int32), iv (3 : Int32), iv (2 : Int32), iv (1 : Int32), uv, uv, uv] [])) (fun _ k => XS.ifYes X1891.here hx rfl (pc0 := 411) (pc' := 416) rfl (hb hby at_411) rfl (XT.i0_ne_t br1893) (by decide) (by decide) k) ?_
  refine Rch.go (U' := T1891.setTop (mkF m 418 #[iv p1, iv p2, iv p3, iv (0 : Int32), iv (1 : Int32), iv (1 : Int32), rv a2, rv a1, iv (1 : Int32), iv (2 : Int32), iv (1 : Int32), iv (1 : Int32), iv (3 : Int32), iv (2 : Int32), iv (1 : Int32), uv, uv, uv] [(.ref a1)])) (fun _ k => XS.aload X1891.here hx rfl (hb hby at_416) rfl rfl k) ?_
  obtain ⟨cq1894, kq1894, q1894a, q1894b, q1894c⟩ := isOf hZ e1891 B1878.1.1
  obtain ⟨_, _, ⟨T1894, L1894, k1894, n1894⟩, -, X1894, ⟨Lc1894, hQ1894, l1894, y1894, z1894⟩, st1894⟩ := X1891.virtualBack hx (y := yt) (z := yt) hown (mvT hZ (wi hw 73 rfl)) (mvT hZ (wi hw 74 rfl)) (notFace_of_selects (args := #[]) (mvT hZ (wi hw 76 rfl))) (mvT hZ (wi hw 76 rfl)) (mvT hZ (wi hw 75 rfl)) (by decide) (backOf (W := 0) (rmT l Z a0 hw [] a1 a2 bco bnx bpv bfb bpd bip bfi ben [0, 0, 0, 0] [1, 3, -1, 2] [-1, 0, 3, 1] [0, 0, 0, 0] [0, 0, 0, 0] [1, 0, 0, 0] (1 : Int32) (1 : Int32) T1878.heap n0 z1878 B1878 (by decide)) hZ (wi hw 77 rfl) (wi hw 29 rfl) (by decide) (by decide)) q1894a q1894c (g := (mkF m 418 #[iv p1, iv p2, iv p3, iv (0 : Int32), iv (1 : Int32), iv (1 : Int32), rv a2, rv a1, iv (1 : Int32), iv (2 : Int32), iv (1 : Int32), iv (1 : Int32), iv (3 : Int32), iv (2 : Int32), iv (1 : Int32), uv, uv, uv] [(.ref a1)])) rfl (by rw [hml]; rfl) (Steps.refl _) (argsL := []) (rest := []) (lenOf pd_14 rfl) rfl (by show 2 * 0 + _ ≤ _; exact Nat.le_of_eq rfl) (hb hby at_418) (fun _ _ => ⟨rfl, e1891, (by decide : 15 + 0 ≤ _), (by decide : 70 + 0 ≤ _)⟩)
  dsimp only [Pt.U, Pt.locs, Pt.cells, Pt.slots] at X1894 l1894 y1894 z1894 st1894 hQ1894
  subst l1894 y1894 z1894
  obtain ⟨rfl, N1894q, z1894, C1894⟩ := hQ1894
  have N1894 := Fr.app N1891 N1894q
  rw [(by rfl : own_take [0, 0, 0, 0] [1, 3, -1, 2] [-1, 0, 3, 1] [0, 0, 0, 0] [0, 0, 0, 0] [1, 0, 0, 0] (1 : Int32) (1 : Int32) = ([0, 1, 0, 0], [3, -1, -1, 2], [-1, -1, 3, 0], [0, 1, 0, 0], [0, 0, 0, 0], [1, 0, 0, 0], (2 : Int32), (1 : Int32)))] at C1894
  have B1894 : Cb Z T1894.heap n0 a1 a2 bco bnx bpv bfb bpd bip bfi ben [0, 1, 0, 0] [3, -1, -1, 2] [-1, -1, 3, 0] [0, 1, 0, 0] [0, 0, 0, 0] [1, 0, 0, 0] (2 : Int32) (1 : Int32) := C1894
  refine Rch.to (U' := T1894.setTop (mkF m 421 #[iv p1, iv p2, iv p3, iv (0 : Int32), iv (1 : Int32), iv (1 : Int32), rv a2, rv a1, iv (1 : Int32), iv (2 : Int32), iv (1 : Int32), iv (1 : Int32), iv (3 : Int32), iv (2 : Int32), iv (1 : Int32), uv, uv, uv] [(.int (own_sp [1, 3, -1, 2] [0, 0, 0, 0] [0, 0, 0, 0] (1 : Int32)))])) st1894 ?_
  rw [(by decide : own_sp [1, 3, -1, 2] [0, 0, 0, 0] [0, 0, 0, 0] (1 : Int32) = (1 : Int32))]
  refine Rch.go (U' := T1894.setTop (mkF m 423 #[iv p1, iv p2, iv p3, iv (0 : Int32), iv (1 : Int32), iv (1 : Int32), rv a2, rv a1, iv (1 : Int32), iv (2 : Int32), iv (1 : Int32), iv (1 : Int32), iv (3 : Int32), iv (2 : Int32), iv (1 : Int32), iv (1 : Int32), uv, uv] [])) (fun _ k => XS.istore X1894.here hx rfl (hb hby at_421) rfl (l' := #[iv p1, iv p2, iv p3, iv (0 : Int32), iv (1 : Int32), iv (1 : Int32), rv a2, rv a1, iv (1 : Int32), iv (2 : Int32), iv (1 : Int32), iv (1 : Int32), iv (3 : Int32), iv (2 : Int32), iv (1 : Int32), iv (1 : Int32), uv, uv]) rfl k) ?_
  refine Rch.go (U' := T1894.setTop (mkF m 425 #[iv p1, iv p2, iv p3, iv (0 : Int32), iv (1 : Int32), iv (1 : Int32), rv a2, rv a1, iv (1 : Int32), iv (2 : Int32), iv (1 : Int32), iv (1 : Int32), iv (3 : Int32), iv (2 : Int32), iv (1 : Int32), iv (1 : Int32), uv, uv] [(.ref a1)])) (fun _ k => XS.aload X1894.here hx rfl (hb hby at_423) rfl rfl k) ?_
  obtain ⟨cq1895, kq1895, q1895a, q1895b, q1895c⟩ := isOf hZ rfl B1894.1.1
  obtain ⟨_, _, ⟨T1895, L1895, k1895, n1895⟩, -, X1895, ⟨Lc1895, hQ1895, l1895, y1895, z1895⟩, st1895⟩ := X1894.virtualBack hx (y := yt) (z := yt) hown (mvT hZ (wi hw 73 rfl)) (mvT hZ (wi hw 74 rfl)) (notFace_of_selects (args := #[]) (mvT hZ (wi hw 76 rfl))) (mvT hZ (wi hw 76 rfl)) (mvT hZ (wi hw 75 rfl)) (by decide) (backOf (W := 0) (rmT l Z a0 hw [] a1 a2 bco bnx bpv bfb bpd bip bfi ben [0, 1, 0, 0] [3, -1, -1, 2] [-1, -1, 3, 0] [0, 1, 0, 0] [0, 0, 0, 0] [1, 0, 0, 0] (2 : Int32) (1 : Int32) T1894.heap n0 z1894 B1894 (by decide)) hZ (wi hw 77 rfl) (wi hw 29 rfl) (by decide) (by decide)) q1895a q1895c (g := (mkF m 425 #[iv p1, iv p2, iv p3, iv (0 : Int32), iv (1 : Int32), iv (1 : Int32), rv a2, rv a1, iv (1 : Int32), iv (2 : Int32), iv (1 : Int32), iv (1 : Int32), iv (3 : Int32), iv (2 : Int32), iv (1 : Int32), iv (1 : Int32), uv, uv] [(.ref a1)])) rfl (by rw [hml]; rfl) (Steps.refl _) (argsL := []) (rest := []) (lenOf pd_14 rfl) rfl (by show 2 * 0 + _ ≤ _; exact Nat.le_of_eq rfl) (hb hby at_425) (fun _ _ => ⟨rfl, rfl, (by decide : 15 + 0 ≤ _), (by decide : 70 + 0 ≤ _)⟩)
  dsimp only [Pt.U, Pt.locs, Pt.cells, Pt.slots] at X1895 l1895 y1895 z1895 st1895 hQ1895
  subst l1895 y1895 z1895
  obtain ⟨rfl, N1895q, z1895, C1895⟩ := hQ1895
  have N1895 := Fr.app N1894 N1895q
  rw [(by rfl : own_take [0, 1, 0, 0] [3, -1, -1, 2] [-1, -1, 3, 0] [0, 1, 0, 0] [0, 0, 0, 0] [1, 0, 0, 0] (2 : Int32) (1 : Int32) = ([0, 1, 0, 2], [2, -1, -1, -1], [-1, -1, 0, -1], [0, 1, 3, 0], [0, 0, 0, 0], [1, 0, 0, 0], (3 : Int32), (1 : Int32)))] at C1895
  have B1895 : Cb Z T1895.heap n0 a1 a2 bco bnx bpv bfb bpd bip bfi ben [0, 1, 0, 2] [2, -1, -1, -1] [-1, -1, 0, -1] [0, 1, 3, 0] [0, 0, 0, 0] [1, 0, 0, 0] (3 : Int32) (1 : Int32) := C1895
  refine Rch.to (U' := T1895.setTop (mkF m 428 #[iv p1, iv p2, iv p3, iv (0 : Int32), iv (1 : Int32), iv (1 : Int32), rv a2, rv a1, iv (1 : Int32), iv (2 : Int32), iv (1 : Int32), iv (1 : Int32), iv (3 : Int32), iv (2 : Int32), iv (1 : Int32), iv (1 : Int32), uv, uv] [(.int (own_sp [3, -1, -1, 2] [0, 1, 0, 0] [0, 0, 0, 0] (1 : Int32)))])) st1895 ?_
  rw [(by decide : own_sp [3, -1, -1, 2] [0, 1, 0, 0] [0, 0, 0, 0] (1 : Int32) = (3 : Int32))]
  refine Rch.go (U' := T1895.setTop (mkF m 430 #[iv p1, iv p2, iv p3, iv (0 : Int32), iv (1 : Int32), iv (1 : Int32), rv a2, rv a1, iv (1 : Int32), iv (2 : Int32), iv (1 : Int32), iv (1 : Int32), iv (3 : Int32), iv (2 : Int32), iv (1 : Int32), iv (1 : Int32), iv (3 : Int32), uv] [])) (fun _ k => XS.istore X1895.here hx rfl (hb hby at_428) rfl (l' := #[iv p1, iv p2, iv p3, iv (0 : Int32), iv (1 : Int32), iv (1 : Int32), rv a2, rv a1, iv (1 : Int32), iv (2 : Int32), iv (1 : Int32), iv (1 : Int32), iv (3 : Int32), iv (2 : Int32), iv (1 : Int32), iv (1 : Int32), iv (3 : Int32), uv]) rfl k) ?_
  refine Rch.go (U' := T1895.setTop (mkF m 432 #[iv p1, iv p2, iv p3, iv (0 : Int32), iv (1 : Int32), iv (1 : Int32), rv a2, rv a1, iv (1 : Int32), iv (2 : Int32), iv (1 : Int32), iv (1 : Int32), iv (3 : Int32), iv (2 : Int32), iv (1 : Int32), iv (1 : Int32), iv (3 : Int32), uv] [(.ref a1)])) (fun _ k => XS.aload X1895.here hx rfl (hb hby at_430) rfl rfl k) ?_
  obtain ⟨cq1896, kq1896, q1896a, q1896b, q1896c⟩ := isOf hZ rfl B1895.1.1
  obtain ⟨_, _, ⟨T1896, L1896, k1896, n1896⟩, -, X1896, ⟨Lc1896, hQ1896, l1896, y1896, z1896⟩, st1896⟩ := X1895.virtualBack hx (y := yt) (z := yt) hown (mvT hZ (wi hw 73 rfl)) (mvT hZ (wi hw 74 rfl)) (notFace_of_selects (args := #[]) (mvT hZ (wi hw 76 rfl))) (mvT hZ (wi hw 76 rfl)) (mvT hZ (wi hw 75 rfl)) (by decide) (backOf (W := 0) (rmT l Z a0 hw [] a1 a2 bco bnx bpv bfb bpd bip bfi ben [0, 1, 0, 2] [2, -1, -1, -1] [-1, -1, 0, -1] [0, 1, 3, 0] [0, 0, 0, 0] [1, 0, 0, 0] (3 : Int32) (1 : Int32) T1895.heap n0 z1895 B1895 (by decide)) hZ (wi hw 77 rfl) (wi hw 29 rfl) (by decide) (by decide)) q1896a q1896c (g := (mkF m 432 #[iv p1, iv p2, iv p3, iv (0 : Int32), iv (1 : Int32), iv (1 : Int32), rv a2, rv a1, iv (1 : Int32), iv (2 : Int32), iv (1 : Int32), iv (1 : Int32), iv (3 : Int32), iv (2 : Int32), iv (1 : Int32), iv (1 : Int32), iv (3 : Int32), uv] [(.ref a1)])) rfl (by rw [hml]; rfl) (Steps.refl _) (argsL := []) (rest := []) (lenOf pd_14 rfl) rfl (by show 2 * 0 + _ ≤ _; exact Nat.le_of_eq rfl) (hb hby at_432) (fun _ _ => ⟨rfl, rfl, (by decide : 15 + 0 ≤ _), (by decide : 70 + 0 ≤ _)⟩)
  dsimp only [Pt.U, Pt.locs, Pt.cells, Pt.slots] at X1896 l1896 y1896 z1896 st1896 hQ1896
  subst l1896 y1896 z1896
  obtain ⟨rfl, N1896q, z1896, C1896⟩ := hQ1896
  have N1896 := Fr.app N1895 N1896q
  rw [(by rfl : own_take [0, 1, 0, 2] [2, -1, -1, -1] [-1, -1, 0, -1] [0, 1, 3, 0] [0, 0, 0, 0] [1, 0, 0, 0] (3 : Int32) (1 : Int32) = ([0, 1, 3, 2], [-1, -1, -1, -1], [-1, -1, -1, -1], [0, 1, 3, 2], [0, 0, 0, 0], [0, 0, 0, 0], (4 : Int32), (0 : Int32)))] at C1896
  have B1896 : Cb Z T1896.heap n0 a1 a2 bco bnx bpv bfb bpd bip bfi ben [0, 1, 3, 2] [-1, -1, -1, -1] [-1, -1, -1, -1] [0, 1, 3, 2] [0, 0, 0, 0] [0, 0, 0, 0] (4 : Int32) (0 : Int32) := C1896
  refine Rch.to (U' := T1896.setTop (mkF m 435 #[iv p1, iv p2, iv p3, iv (0 : Int32), iv (1 : Int32), iv (1 : Int32), rv a2, rv a1, iv (1 : Int32), iv (2 : Int32), iv (1 : Int32), iv (1 : Int32), iv (3 : Int32), iv (2 : Int32), iv (1 : Int32), iv (1 : Int32), iv (3 : Int32), uv] [(.int (own_sp [2, -1, -1, -1] [0, 1, 3, 0] [0, 0, 0, 0] (1 : Int32)))])) st1896 ?_
  rw [(by decide : own_sp [2, -1, -1, -1] [0, 1, 3, 0] [0, 0, 0, 0] (1 : Int32) = (2 : Int32))]
  refine Rch.go (U' := T1896.setTop (mkF m 437 #[iv p1, iv p2, iv p3, iv (0 : Int32), iv (1 : Int32), iv (1 : Int32), rv a2, rv a1, iv (1 : Int32), iv (2 : Int32), iv (1 : Int32), iv (1 : Int32), iv (3 : Int32), iv (2 : Int32), iv (1 : Int32), iv (1 : Int32), iv (3 : Int32), iv (2 : Int32)] [])) (fun _ k => XS.istore X1896.here hx rfl (hb hby at_435) rfl (l' := #[iv p1, iv p2, iv p3, iv (0 : Int32), iv (1 : Int32), iv (1 : Int32), rv a2, rv a1, iv (1 : Int32), iv (2 : Int32), iv (1 : Int32), iv (1 : Int32), iv (3 : Int32), iv (2 : Int32), iv (1 : Int32), iv (1 : Int32), iv (3 : Int32), iv (2 : Int32)]) rfl k) ?_
  refine Rch.go (U' := T1896.setTop (mkF m 439 #[iv p1, iv p2, iv p3, iv (0 : Int32), iv (1 : Int32), iv (1 : Int32), rv a2, rv a1, iv (1 : Int32), iv (2 : Int32), iv (1 : Int32), iv (1 : Int32), iv (3 : Int32), iv (2 : Int32), iv (1 : Int32), iv (1 : Int32), iv (3 : Int32), iv (2 : Int32)] [(.int (1 : Int32))])) (fun _ k => XS.iload X1896.here hx rfl (hb hby at_437) rfl  k) ?_
  refine Rch.go (U' := T1896.setTop (mkF m 441 #[iv p1, iv p2, iv p3, iv (0 : Int32), iv (1 : Int32), iv (1 : Int32), rv a2, rv a1, iv (1 : Int32), iv (2 : Int32), iv (1 : Int32), iv (1 : Int32), iv (3 : Int32), iv (2 : Int32), iv (1 : Int32), iv (1 : Int32), iv (3 : Int32), iv (2 : Int32)] [(.int (1 : Int32)), (.int (1 : Int32))])) (fun _ k => XS.iload X1896.here hx rfl (hb hby at_439) rfl  k) ?_
  have br1897 : (1 : Int32) = (1 : Int32) := (by decide)
  refine Rch.go (U' := T1896.setTop (mkF m 444 #[iv p1, iv p2, iv p3, iv (0 : Int32), iv (1 : Int32), iv (1 : Int32), rv a2, rv a1, iv (1 : Int32), iv (2 : Int32), iv (1 : Int32), iv (1 : Int32), iv (3 : Int32), iv (2 : Int32), iv (1 : Int32), iv (1 : Int32), iv (3 : Int32), iv (2 : Int32)] [])) (fun _ k => XS.icmpNo X1896.here hx rfl (hb hby at_441) rfl (XT.ii_ne_f br1897) k) ?_
  refine Rch.go (U' := T1896.setTop (mkF m 446 #[iv p1, iv p2, iv p3, iv (0 : Int32), iv (1 : Int32), iv (1 : Int32), rv a2, rv a1, iv (1 : Int32), iv (2 : Int32), iv (1 : Int32), iv (1 : Int32), iv (3 : Int32), iv (2 : Int32), iv (1 : Int32), iv (1 : Int32), iv (3 : Int32), iv (2 : Int32)] [(.int (3 : Int32))])) (fun _ k => XS.iload X1896.here hx rfl (hb hby at_444) rfl  k) ?_
  refine Rch.go (U' := T1896.setTop (mkF m 448 #[iv p1, iv p2, iv p3, iv (0 : Int32), iv (1 : Int32), iv (1 : Int32), rv a2, rv a1, iv (1 : Int32), iv (2 : Int32), iv (1 : Int32), iv (1 : Int32), iv (3 : Int32), iv (2 : Int32), iv (1 : Int32), iv (1 : Int32), iv (3 : Int32), iv (2 : Int32)] [(.int (3 : Int32)), (.int (3 : Int32))])) (fun _ k => XS.iload X1896.here hx rfl (hb hby at_446) rfl  k) ?_
  have br1898 : (3 : Int32) = (3 : Int32) := (by decide)
  refine Rch.go (U' := T1896.setTop (mkF m 451 #[iv p1, iv p2, iv p3, iv (0 : Int32), iv (1 : Int32), iv (1 : Int32), rv a2, rv a1, iv (1 : Int32), iv (2 : Int32), iv (1 : Int32), iv (1 : Int32), iv (3 : Int32), iv (2 : Int32), iv (1 : Int32), iv (1 : Int32), iv (3 : Int32), iv (2 : Int32)] [])) (fun _ k => XS.icmpNo X1896.here hx rfl (hb hby at_448) rfl (XT.ii_ne_f br1898) k) ?_
  refine Rch.go (U' := T1896.setTop (mkF m 453 #[iv p1, iv p2, iv p3, iv (0 : Int32), iv (1 : Int32), iv (1 : Int32), rv a2, rv a1, iv (1 : Int32), iv (2 : Int32), iv (1 : Int32), iv (1 : Int32), iv (3 : Int32), iv (2 : Int32), iv (1 : Int32), iv (1 : Int32), iv (3 : Int32), iv (2 : Int32)] [(.int (2 : Int32))])) (fun _ k => XS.iload X1896.here hx rfl (hb hby at_451) rfl  k) ?_
  refine Rch.go (U' := T1896.setTop (mkF m 455 #[iv p1, iv p2, iv p3, iv (0 : Int32), iv (1 : Int32), iv (1 : Int32), rv a2, rv a1, iv (1 : Int32), iv (2 : Int32), iv (1 : Int32), iv (1 : Int32), iv (3 : Int32), iv (2 : Int32), iv (1 : Int32), iv (1 : Int32), iv (3 : Int32), iv (2 : Int32)] [(.int (2 : Int32)), (.int (2 : Int32))])) (fun _ k => XS.iload X1896.here hx rfl (hb hby at_453) rfl  k) ?_
  have br1899 : (2 : Int32) = (2 : Int32) := (by decide)
  refine Rch.go (U' := T1896.setTop (mkF m 458 #[iv p1, iv p2, iv p3, iv (0 : Int32), iv (1 : Int32), iv (1 : Int32), rv a2, rv a1, iv (1 : Int32), iv (2 : Int32), iv (1 : Int32), iv (1 : Int32), iv (3 : Int32), iv (2 : Int32), iv (1 : Int32), iv (1 : Int32), iv (3 : Int32), iv (2 : Int32)] [])) (fun _ k => XS.icmpNo X1896.here hx rfl (hb hby at_455) rfl (XT.ii_ne_f br1899) k) ?_
  refine Rch.go (U' := T1896.setTop (mkF m 460 #[iv p1, iv p2, iv p3, iv (0 : Int32), iv (1 : Int32), iv (1 : Int32), rv a2, rv a1, iv (1 : Int32), iv (2 : Int32), iv (1 : Int32), iv (1 : Int32), iv (3 : Int32), iv (2 : Int32), iv (1 : Int32), iv (1 : Int32), iv (3 : Int32), iv (2 : Int32)] [(.ref a1)])) (fun _ k => XS.aload X1896.here hx rfl (hb hby at_458) rfl rfl k) ?_
  obtain ⟨cq1900, kq1900, q1900a, q1900b, q1900c⟩ := isOf hZ rfl B1896.1.1
  obtain ⟨_, _, ⟨T1900, L1900, k1900, n1900⟩, -, X1900, ⟨Lc1900, hQ1900, l1900, y1900, z1900⟩, st1900⟩ := X1896.virtualBack hx (y := yhs) (z := yhs) hown (mvT hZ (wi hw 63 rfl)) (mvT hZ (wi hw 64 rfl)) (notFace_of_selects (args := #[]) (mvT hZ (wi hw 66 rfl))) (mvT hZ (wi hw 66 rfl)) (mvT hZ (wi hw 65 rfl)) (by decide) (backOf (W := 0) (rmHs l Z a0 hw [] a1 a2 bco bnx bpv bfb bpd bip bfi ben [0, 1, 3, 2] [-1, -1, -1, -1] [-1, -1, -1, -1] [0, 1, 3, 2] [0, 0, 0, 0] [0, 0, 0, 0] (4 : Int32) (0 : Int32)  T1896.heap n0 z1896 B1896 ) hZ (wi hw 67 rfl) (wi hw 29 rfl) (by decide) (by decide)) q1900a q1900c (g := (mkF m 460 #[iv p1, iv p2, iv p3, iv (0 : Int32), iv (1 : Int32), iv (1 : Int32), rv a2, rv a1, iv (1 : Int32), iv (2 : Int32), iv (1 : Int32), iv (1 : Int32), iv (3 : Int32), iv (2 : Int32), iv (1 : Int32), iv (1 : Int32), iv (3 : Int32), iv (2 : Int32)] [(.ref a1)])) rfl (by rw [hml]; rfl) (Steps.refl _) (argsL := []) (rest := []) (lenOf pd_15 rfl) rfl (by show 2 * 0 + _ ≤ _; exact Nat.le_of_eq rfl) (hb hby at_460) (fun _ _ => ⟨rfl, rfl, (by decide : 15 + 0 ≤ _), (by decide : 70 + 0 ≤ _)⟩)
  dsimp only [Pt.U, Pt.locs, Pt.cells, Pt.slots] at X1900 l1900 y1900 z1900 st1900 hQ1900
  subst l1900 y1900 z1900
  obtain ⟨rfl, N1900q, e1900⟩ := hQ1900
  have N1900 := Fr.app N1896 N1900q
  refine Rch.to (U' := T1900.setTop (mkF m 463 #[iv p1, iv p2, iv p3, iv (0 : Int32), iv (1 : Int32), iv (1 : Int32), rv a2, rv a1, iv (1 : Int32), iv (2 : Int32), iv (1 : Int32), iv (1 : Int32), iv (3 : Int32), iv (2 : Int32), iv (1 : Int32), iv (1 : Int32), iv (3 : Int32), iv (2 : Int32)] [(.int (own_pos (0 : Int32)))])) st1900 ?_
  rw [(by decide : (own_pos (0 : Int32)) = (0 : Int32))]
  have br1901 : (0 : Int32) = (0 : Int32) := (by decide)
  refine Rch.go (U' := T1900.setTop (mkF m 466 #[iv p1, iv p2, iv p3, iv (0 : Int32), iv (1 : Int32), iv (1 : Int32), rv a2, rv a1, iv (1 : Int32), iv (2 : Int32), iv (1 : Int32), iv (1 : Int32), iv (3 : Int32), iv (2 : Int32), iv (1 : Int32), iv (1 : Int32), iv (3 : Int32), iv (2 : Int32)] [])) (fun _ k => XS.ifNo X1900.here hx rfl (hb hby at_463) rfl (XT.i0_ne_f br1901) k) ?_
  refine Rch.go (U' := T1900.setTop (mkF m 467 #[iv p1, iv p2, iv p3, iv (0 : Int32), iv (1 : Int32), iv (1 : Int32), rv a2, rv a1, iv (1 : Int32), iv (2 : Int32), iv (1 : Int32), iv (1 : Int32), iv (3 : Int32), iv (2 : Int32), iv (1 : Int32), iv (1 : Int32), iv (3 : Int32), iv (2 : Int32)] [(.int (1 : Int32))])) (fun _ k => XS.iconst X1900.here hx rfl (hb hby at_466) k) ?_
  refine Rch.go (U' := T1900.setTop (mkF m 471 #[iv p1, iv p2, iv p3, iv (0 : Int32), iv (1 : Int32), iv (1 : Int32), rv a2, rv a1, iv (1 : Int32), iv (2 : Int32), iv (1 : Int32), iv (1 : Int32), iv (3 : Int32), iv (2 : Int32), iv (1 : Int32), iv (1 : Int32), iv (3 : Int32), iv (2 : Int32)] [(.int (1 : Int32))])) (fun _ k => XS.goto X1900.here hx rfl (pc0 := 467) (pc' := 471) rfl (hb hby at_467) (by decide) (by decide) k) ?_
  refine Rch.fin X1900 hlk (v := some (.int (nar .boolean (1 : Int32)))) (fun h => by rw [hret] at h; cases h) e1900 (by decide) (by decide) (fun fs hr => retN X1900 hx (t := .boolean) hret (by simp) (hb hby at_471) hr) ?_
  exact ⟨rfl, N1900⟩
set_option maxRecDepth 65536 in
set_option maxHeartbeats 40000000 in
theorem cut54_012 {p : Program} {l : Launch} {e : Env} {s : State} {m : MethodId} {args : Array Value} {below : List Frame} {meth : Method} {c : Code} {T0 : State} {locs : List Loc} {Z : State} {a0 : Array Value} {h0 : Heap} {n0 : Nat}  (p1 : Int32) (p2 : Int32) (p3 : Int32) (a1 : Addr) (a2 : Addr) (bco : Addr) (bnx : Addr) (bpv : Addr) (bfb : Addr) (bpd : Addr) (bip : Addr) (bfi : Addr) (ben : Addr)
    (X0 : Stand p l e room_1 s m args below meth c T0 locs 15 70) (hx : p.tables.exec = Jvm.exec) (hZ : Z.Warmed39 s.vm) (hw : ∀ d ∈ tables_1, d.before a0 Z = true) (hby : c.code = code) (hml : c.maxLocals = 18) (hown : s.vm.findClass cLW = some m.cls) (hret : meth.sig.returnType = some .boolean) (hlk : meth.locks = false) (e0 : T0.heap = h0) (N0 : Fr n0 locs) (Z0 : n0 ≤ h0.size) (B : Cb Z h0 n0 a1 a2 bco bnx bpv bfb bpd bip bfi ben [0, 0, 0, 0] [1, -1, 0, 0] [-1, 0, 0, 0] [0, 0, 0, 0] [0, 0, 0, 0] [1, 0, 0, 0] (1 : Int32) (1 : Int32)) :
    Rch p e below (Fin s below (fun v h L => v = some (.int 1) ∧ Fr n0 L) 40 256) (T0.setTop (mkF m 54 #[iv p1, iv p2, iv p3, iv (0 : Int32), iv (1 : Int32), iv (2 : Int32), rv a2, rv a1, uv, uv, uv, uv, uv, uv, uv, uv, uv, uv] [])) := by
  refine Rch.go (U' := T0.setTop (mkF m 55 #[iv p1, iv p2, iv p3, iv (0 : Int32), iv (1 : Int32), iv (2 : Int32), rv a2, rv a1, uv, uv, uv, uv, uv, uv, uv, uv, uv, uv] [(.int (0 : Int32))])) (fun _ k => XS.iloadN X0.here hx rfl (hb hby at_54) rfl  k) ?_
  have br1902 : (0 : Int32) = (0 : Int32) := (by decide)
  refine Rch.go (U' := T0.setTop (mkF m 255 #[iv p1, iv p2, iv p3, iv (0 : Int32), iv (1 : Int32), iv (2 : Int32), rv a2, rv a1, uv, uv, uv, uv, uv, uv, uv, uv, uv, uv] [])) (fun _ k => XS.ifYes X0.here hx rfl (pc0 := 55) (pc' := 255) rfl (hb hby at_55) rfl (XT.i0_eq_t br1902) (by decide) (by decide) k) ?_
  refine Rch.go (U' := T0.setTop (mkF m 257 #[iv p1, iv p2, iv p3, iv (0 : Int32), iv (1 : Int32), iv (2 : Int32), rv a2, rv a1, uv, uv, uv, uv, uv, uv, uv, uv, uv, uv] [(.ref a1)])) (fun _ k => XS.aload X0.here hx rfl (hb hby at_255) rfl rfl k) ?_
  refine Rch.go (U' := T0.setTop (mkF m 259 #[iv p1, iv p2, iv p3, iv (0 : Int32), iv (1 : Int32), iv (2 : Int32), rv a2, rv a1, uv, uv, uv, uv, uv, uv, uv, uv, uv, uv] [(.int (1 : Int32)), (.ref a1)])) (fun _ k => XS.iload X0.here hx rfl (hb hby at_257) rfl  k) ?_
  refine Rch.go (U' := T0.setTop (mkF m 260 #[iv p1, iv p2, iv p3, iv (0 : Int32), iv (1 : Int32), iv (2 : Int32), rv a2, rv a1, uv, uv, uv, uv, uv, uv, uv, uv, uv, uv] [(.int (2 : Int32)), (.int (1 : Int32)), (.ref a1)])) (fun _ k => XS.iconst X0.here hx rfl (hb hby at_259) k) ?_
  obtain ⟨cq1903, kq1903, q1903a, q1903b, q1903c⟩ := isOf hZ e0 B.1.1
  obtain ⟨_, _, ⟨T1903, L1903, k1903, n1903⟩, -, X1903, ⟨Lc1903, hQ1903, l1903, y1903, z1903⟩, st1903⟩ := X0.virtualBack hx (y := yj) (z := yj) hown (mvT hZ (wi hw 51 rfl)) (mvT hZ (wi hw 52 rfl)) (notFace_of_selects (args := #[]) (mvT hZ (wi hw 54 rfl))) (mvT hZ (wi hw 54 rfl)) (mvT hZ (wi hw 53 rfl)) (by decide) (backOf (W := 0) (rmJ l Z a0 hw [] a1 a2 bco bnx bpv bfb bpd bip bfi ben [0, 0, 0, 0] [1, -1, 0, 0] [-1, 0, 0, 0] [0, 0, 0, 0] [0, 0, 0, 0] [1, 0, 0, 0] (1 : Int32) (1 : Int32) (1 : Int32) (2 : Int32) h0 n0 Z0 B (by decide)) hZ (wi hw 55 rfl) (wi hw 29 rfl) (by decide) (by decide)) q1903a q1903c (g := (mkF m 260 #[iv p1, iv p2, iv p3, iv (0 : Int32), iv (1 : Int32), iv (2 : Int32), rv a2, rv a1, uv, uv, uv, uv, uv, uv, uv, uv, uv, uv] [(.int (2 : Int32)), (.int (1 : Int32)), (.ref a1)])) rfl (by rw [hml]; rfl) (Steps.refl _) (argsL := [(.int (1 : Int32)), (.int (2 : Int32))]) (rest := []) (lenOf pd_8 rfl) rfl (by show 2 * 0 + _ ≤ _; exact Nat.le_of_eq rfl) (hb hby at_260) (fun _ _ => ⟨rfl, e0, (by decide : 15 + 0 ≤ _), (by decide : 70 + 0 ≤ _)⟩)
  dsimp only [Pt.U, Pt.locs, Pt.cells, Pt.slots] at X1903 l1903 y1903 z1903 st1903 hQ1903
  subst l1903 y1903 z1903
  obtain ⟨rfl, N1903q, z1903, C1903⟩ := hQ1903
  have N1903 := Fr.app N0 N1903q
  rw [(by rfl : own_join [0, 0, 0, 0] [1, -1, 0, 0] [-1, 0, 0, 0] [0, 0, 0, 0] [0, 0, 0, 0] [1, 0, 0, 0] (1 : Int32) (1 : Int32) (1 : Int32) (2 : Int32) = ([0, 0, 0, 0], [1, 2, -1, 0], [-1, 0, 1, 0], [0, 0, 0, 0], [0, 0, 0, 0], [1, 0, 0, 0], (1 : Int32), (1 : Int32)))] at C1903
  have B1903 : Cb Z T1903.heap n0 a1 a2 bco bnx bpv bfb bpd bip bfi ben [0, 0, 0, 0] [1, 2, -1, 0] [-1, 0, 1, 0] [0, 0, 0, 0] [0, 0, 0, 0] [1, 0, 0, 0] (1 : Int32) (1 : Int32) := C1903
  refine Rch.to (U' := T1903.setTop (mkF m 263 #[iv p1, iv p2, iv p3, iv (0 : Int32), iv (1 : Int32), iv (2 : Int32), rv a2, rv a1, uv, uv, uv, uv, uv, uv, uv, uv, uv, uv] [])) st1903 ?_
  refine Rch.go (U' := T1903.setTop (mkF m 265 #[iv p1, iv p2, iv p3, iv (0 : Int32), iv (1 : Int32), iv (2 : Int32), rv a2, rv a1, uv, uv, uv, uv, uv, uv, uv, uv, uv, uv] [(.ref a1)])) (fun _ k => XS.aload X1903.here hx rfl (hb hby at_263) rfl rfl k) ?_
  refine Rch.go (U' := T1903.setTop (mkF m 267 #[iv p1, iv p2, iv p3, iv (0 : Int32), iv (1 : Int32), iv (2 : Int32), rv a2, rv a1, uv, uv, uv, uv, uv, uv, uv, uv, uv, uv] [(.int (2 : Int32)), (.ref a1)])) (fun _ k => XS.iload X1903.here hx rfl (hb hby at_265) rfl  k) ?_
  refine Rch.go (U' := T1903.setTop (mkF m 268 #[iv p1, iv p2, iv p3, iv (0 : Int32), iv (1 : Int32), iv (2 : Int32), rv a2, rv a1, uv, uv, uv, uv, uv, uv, uv, uv, uv, uv] [(.int (3 : Int32)), (.int (2 : Int32)), (.ref a1)])) (fun _ k => XS.iconst X1903.here hx rfl (hb hby at_267) k) ?_
  obtain ⟨cq1904, kq1904, q1904a, q1904b, q1904c⟩ := isOf hZ rfl B1903.1.1
  obtain ⟨_, _, ⟨T1904, L1904, k1904, n1904⟩, -, X1904, ⟨Lc1904, hQ1904, l1904, y1904, z1904⟩, st1904⟩ := X1903.virtualBack hx (y := yj) (z := yj) hown (mvT hZ (wi hw 51 rfl)) (mvT hZ (wi hw 52 rfl)) (notFace_of_selects (args := #[]) (mvT hZ (wi hw 54 rfl))) (mvT hZ (wi hw 54 rfl)) (mvT hZ (wi hw 53 rfl)) (by decide) (backOf (W := 0) (rmJ l Z a0 hw [] a1 a2 bco bnx bpv bfb bpd bip bfi ben [0, 0, 0, 0] [1, 2, -1, 0] [-1, 0, 1, 0] [0, 0, 0, 0] [0, 0, 0, 0] [1, 0, 0, 0] (1 : Int32) (1 : Int32) (2 : Int32) (3 : Int32) T1903.heap n0 z1903 B1903 (by decide)) hZ (wi hw 55 rfl) (wi hw 29 rfl) (by decide) (by decide)) q1904a q1904c (g := (mkF m 268 #[iv p1, iv p2, iv p3, iv (0 : Int32), iv (1 : Int32), iv (2 : Int32), rv a2, rv a1, uv, uv, uv, uv, uv, uv, uv, uv, uv, uv] [(.int (3 : Int32)), (.int (2 : Int32)), (.ref a1)])) rfl (by rw [hml]; rfl) (Steps.refl _) (argsL := [(.int (2 : Int32)), (.int (3 : Int32))]) (rest := []) (lenOf pd_8 rfl) rfl (by show 2 * 0 + _ ≤ _; exact Nat.le_of_eq rfl) (hb hby at_268) (fun _ _ => ⟨rfl, rfl, (by decide : 15 + 0 ≤ _), (by decide : 70 + 0 ≤ _)⟩)
  dsimp only [Pt.U, Pt.locs, Pt.cells, Pt.slots] at X1904 l1904 y1904 z1904 st1904 hQ1904
  subst l1904 y1904 z1904
  obtain ⟨rfl, N1904q, z1904, C1904⟩ := hQ1904
  have N1904 := Fr.app N1903 N1904q
  rw [(by rfl : own_join [0, 0, 0, 0] [1, 2, -1, 0] [-1, 0, 1, 0] [0, 0, 0, 0] [0, 0, 0, 0] [1, 0, 0, 0] (1 : Int32) (1 : Int32) (2 : Int32) (3 : Int32) = ([0, 0, 0, 0], [1, 2, 3, -1], [-1, 0, 1, 2], [0, 0, 0, 0], [0, 0, 0, 0], [1, 0, 0, 0], (1 : Int32), (1 : Int32)))] at C1904
  have B1904 : Cb Z T1904.heap n0 a1 a2 bco bnx bpv bfb bpd bip bfi ben [0, 0, 0, 0] [1, 2, 3, -1] [-1, 0, 1, 2] [0, 0, 0, 0] [0, 0, 0, 0] [1, 0, 0, 0] (1 : Int32) (1 : Int32) := C1904
  refine Rch.to (U' := T1904.setTop (mkF m 271 #[iv p1, iv p2, iv p3, iv (0 : Int32), iv (1 : Int32), iv (2 : Int32), rv a2, rv a1, uv, uv, uv, uv, uv, uv, uv, uv, uv, uv] [])) st1904 ?_
  refine Rch.go (U' := T1904.setTop (mkF m 273 #[iv p1, iv p2, iv p3, iv (0 : Int32), iv (1 : Int32), iv (2 : Int32), rv a2, rv a1, uv, uv, uv, uv, uv, uv, uv, uv, uv, uv] [(.int (1 : Int32))])) (fun _ k => XS.iload X1904.here hx rfl (hb hby at_271) rfl  k) ?_
  have br1905 : ¬ ((1 : Int32) = (0 : Int32)) := (by decide)
  refine Rch.go (U' := T1904.setTop (mkF m 280 #[iv p1, iv p2, iv p3, iv (0 : Int32), iv (1 : Int32), iv (2 : Int32), rv a2, rv a1, uv, uv, uv, uv, uv, uv, uv, uv, uv, uv] [])) (fun _ k => XS.ifYes X1904.here hx rfl (pc0 := 273) (pc' := 280) rfl (hb hby at_273) rfl (XT.i0_ne_t br1905) (by decide) (by decide) k) ?_
  refine Rch.go (U' := T1904.setTop (mkF m 281 #[iv p1, iv p2, iv p3, iv (0 : Int32), iv (1 : Int32), iv (2 : Int32), rv a2, rv a1, uv, uv, uv, uv, uv, uv, uv, uv, uv, uv] [(.int (1 : Int32))])) (fun _ k => XS.iconst X1904.here hx rfl (hb hby at_280) k) ?_
  refine Rch.go (U' := T1904.setTop (mkF m 283 #[iv p1, iv p2, iv p3, iv (0 : Int32), iv (1 : Int32), iv (2 : Int32), rv a2, rv a1, iv (1 : Int32), uv, uv, uv, uv, uv, uv, uv, uv, uv] [])) (fun _ k => XS.istore X1904.here hx rfl (hb hby at_281) rfl (l' := #[iv p1, iv p2, iv p3, iv (0 : Int32), iv (1 : Int32), iv (2 : Int32), rv a2, rv a1, iv (1 : Int32), uv, uv, uv, uv, uv, uv, uv, uv, uv]) rfl k) ?_
  refine Rch.go (U' := T1904.setTop (mkF m 285 #[iv p1, iv p2, iv p3, iv (0 : Int32), iv (1 : Int32), iv (2 : Int32), rv a2, rv a1, iv (1 : Int32), uv, uv, uv, uv, uv, uv, uv, uv, uv] [(.int (1 : Int32))])) (fun _ k => XS.iload X1904.here hx rfl (hb hby at_283) rfl  k) ?_
  have br1906 : ¬ ((1 : Int32) = (0 : Int32)) := (by decide)
  refine Rch.go (U' := T1904.setTop (mkF m 292 #[iv p1, iv p2, iv p3, iv (0 : Int32), iv (1 : Int32), iv (2 : Int32), rv a2, rv a1, iv (1 : Int32), uv, uv, uv, uv, uv, uv, uv, uv, uv] [])) (fun _ k => XS.ifYes X1904.here hx rfl (pc0 := 285) (pc' := 292) rfl (hb hby at_285) rfl (XT.i0_ne_t br1906) (by decide) (by decide) k) ?_
  refine Rch.go (U' := T1904.setTop (mkF m 293 #[iv p1, iv p2, iv p3, iv (0 : Int32), iv (1 : Int32), iv (2 : Int32), rv a2, rv a1, iv (1 : Int32), uv, uv, uv, uv, uv, uv, uv, uv, uv] [(.int (2 : Int32))])) (fun _ k => XS.iconst X1904.here hx rfl (hb hby at_292) k) ?_
  refine Rch.go (U' := T1904.setTop (mkF m 295 #[iv p1, iv p2, iv p3, iv (0 : Int32), iv (1 : Int32), iv (2 : Int32), rv a2, rv a1, iv (1 : Int32), iv (2 : Int32), uv, uv, uv, uv, uv, uv, uv, uv] [])) (fun _ k => XS.istore X1904.here hx rfl (hb hby at_293) rfl (l' := #[iv p1, iv p2, iv p3, iv (0 : Int32), iv (1 : Int32), iv (2 : Int32), rv a2, rv a1, iv (1 : Int32), iv (2 : Int32), uv, uv, uv, uv, uv, uv, uv, uv]) rfl k) ?_
  refine Rch.go (U' := T1904.setTop (mkF m 297 #[iv p1, iv p2, iv p3, iv (0 : Int32), iv (1 : Int32), iv (2 : Int32), rv a2, rv a1, iv (1 : Int32), iv (2 : Int32), uv, uv, uv, uv, uv, uv, uv, uv] [(.int (2 : Int32))])) (fun _ k => XS.iload X1904.here hx rfl (hb hby at_295) rfl  k) ?_
  have br1907 : ¬ ((2 : Int32) = (0 : Int32)) := (by decide)
  refine Rch.go (U' := T1904.setTop (mkF m 304 #[iv p1, iv p2, iv p3, iv (0 : Int32), iv (1 : Int32), iv (2 : Int32), rv a2, rv a1, iv (1 : Int32), iv (2 : Int32), uv, uv, uv, uv, uv, uv, uv, uv] [])) (fun _ k => XS.ifYes X1904.here hx rfl (pc0 := 297) (pc' := 304) rfl (hb hby at_297) rfl (XT.i0_ne_t br1907) (by decide) (by decide) k) ?_
  refine Rch.go (U' := T1904.setTop (mkF m 306 #[iv p1, iv p2, iv p3, iv (0 : Int32), iv (1 : Int32), iv (2 : Int32), rv a2, rv a1, iv (1 : Int32), iv (2 : Int32), uv, uv, uv, uv, uv, uv, uv, uv] [(.int (2 : Int32))])) (fun _ k => XS.iload X1904.here hx rfl (hb hby at_304) rfl  k) ?_
  refine Rch.go (U' := T1904.setTop (mkF m 308 #[iv p1, iv p2, iv p3, iv (0 : Int32), iv (1 : Int32), iv (2 : Int32), rv a2, rv a1, iv (1 : Int32), iv (2 : Int32), uv, uv, uv, uv, uv, uv, uv, uv] [(.int (1 : Int32)), (.int (2 : Int32))])) (fun _ k => XS.iload X1904.here hx rfl (hb hby at_306) rfl  k) ?_
  have br1908 : ¬ ((2 : Int32) = (1 : Int32)) := (by decide)
  refine Rch.go (U' := T1904.setTop (mkF m 315 #[iv p1, iv p2, iv p3, iv (0 : Int32), iv (1 : Int32), iv (2 : Int32), rv a2, rv a1, iv (1 : Int32), iv (2 : Int32), uv, uv, uv, uv, uv, uv, uv, uv] [])) (fun _ k => XS.icmpYes X1904.here hx rfl (pc0 := 308) (pc' := 315) rfl (hb hby at_308) rfl (XT.ii_ne_t br1908) (by decide) (by decide) k) ?_
  refine Rch.go (U' := T1904.setTop (mkF m 316 #[iv p1, iv p2, iv p3, iv (0 : Int32), iv (1 : Int32), iv (2 : Int32), rv a2, rv a1, iv (1 : Int32), iv (2 : Int32), uv, uv, uv, uv, uv, uv, uv, uv] [(.int (2 : Int32))])) (fun _ k => XS.iconst X1904.here hx rfl (hb hby at_315) k) ?_
  refine Rch.go (U' := T1904.setTop (mkF m 318 #[iv p1, iv p2, iv p3, iv (0 : Int32), iv (1 : Int32), iv (2 : Int32), rv a2, rv a1, iv (1 : Int32), iv (2 : Int32), iv (2 : Int32), uv, uv, uv, uv, uv, uv, uv] [])) (fun _ k => XS.istore X1904.here hx rfl (hb hby at_316) rfl (l' := #[iv p1, iv p2, iv p3, iv (0 : Int32), iv (1 : Int32), iv (2 : Int32), rv a2, rv a1, iv (1 : Int32), iv (2 : Int32), iv (2 : Int32), uv, uv, uv, uv, uv, uv, uv]) rfl k) ?_
  refine Rch.go (U' := T1904.setTop (mkF m 320 #[iv p1, iv p2, iv p3, iv (0 : Int32), iv (1 : Int32), iv (2 : Int32), rv a2, rv a1, iv (1 : Int32), iv (2 : Int32), iv (2 : Int32), uv, uv, uv, uv, uv, uv, uv] [(.int (2 : Int32))])) (fun _ k => XS.iload X1904.here hx rfl (hb hby at_318) rfl  k) ?_
  have br1909 : ¬ ((2 : Int32) = (0 : Int32)) := (by decide)
  refine Rch.go (U' := T1904.setTop (mkF m 337 #[iv p1, iv p2, iv p3, iv (0 : Int32), iv (1 : Int32), iv (2 : Int32), rv a2, rv a1, iv (1 : Int32), iv (2 : Int32), iv (2 : Int32), uv, uv, uv, uv, uv, uv, uv] [])) (fun _ k => XS.ifYes X1904.here hx rfl (pc0 := 320) (pc' := 337) rfl (hb hby at_320) rfl (XT.i0_ne_t br1909) (by decide) (by decide) k) ?_
  refine Rch.go (U' := T1904.setTop (mkF m 339 #[iv p1, iv p2, iv p3, iv (0 : Int32), iv (1 : Int32), iv (2 : Int32), rv a2, rv a1, iv (1 : Int32), iv (2 : Int32), iv (2 : Int32), uv, uv, uv, uv, uv, uv, uv] [(.int (2 : Int32))])) (fun _ k => XS.iload X1904.here hx rfl (hb hby at_337) rfl  k) ?_
  refine Rch.go (U' := T1904.setTop (mkF m 340 #[iv p1, iv p2, iv p3, iv (0 : Int32), iv (1 : Int32), iv (2 : Int32), rv a2, rv a1, iv (1 : Int32), iv (2 : Int32), iv (2 : Int32), uv, uv, uv, uv, uv, uv, uv] [(.int (1 : Int32)), (.int (2 : Int32))])) (fun _ k => XS.iconst X1904.here hx rfl (hb hby at_339) k) ?_
  have br1910 : ¬ ((2 : Int32) = (1 : Int32)) := (by decide)
  refine Rch.go (U' := T1904.setTop (mkF m 357 #[iv p1, iv p2, iv p3, iv (0 : Int32), iv (1 : Int32), iv (2 : Int32), rv a2, rv a1, iv (1 : Int32), iv (2 : Int32), iv (2 : Int32), uv, uv, uv, uv, uv, uv, uv] [])) (fun _ k => XS.icmpYes X1904.here hx rfl (pc0 := 340) (pc' := 357) rfl (hb hby at_340) rfl (XT.ii_ne_t br1910) (by decide) (by decide) k) ?_
  refine Rch.go (U' := T1904.setTop (mkF m 359 #[iv p1, iv p2, iv p3, iv (0 : Int32), iv (1 : Int32), iv (2 : Int32), rv a2, rv a1, iv (1 : Int32), iv (2 : Int32), iv (2 : Int32), uv, uv, uv, uv, uv, uv, uv] [(.int (1 : Int32))])) (fun _ k => XS.iload X1904.here hx rfl (hb hby at_357) rfl  k) ?_
  refine Rch.go (U' := T1904.setTop (mkF m 361 #[iv p1, iv p2, iv p3, iv (0 : Int32), iv (1 : Int32), iv (2 : Int32), rv a2, rv a1, iv (1 : Int32), iv (2 : Int32), iv (2 : Int32), iv (1 : Int32), uv, uv, uv, uv, uv, uv] [])) (fun _ k => XS.istore X1904.here hx rfl (hb hby at_359) rfl (l' := #[iv p1, iv p2, iv p3, iv (0 : Int32), iv (1 : Int32), iv (2 : Int32), rv a2, rv a1, iv (1 : Int32), iv (2 : Int32), iv (2 : Int32), iv (1 : Int32), uv, uv, uv, uv, uv, uv]) rfl k) ?_
  refine Rch.go (U' := T1904.setTop (mkF m 363 #[iv p1, iv p2, iv p3, iv (0 : Int32), iv (1 : Int32), iv (2 : Int32), rv a2, rv a1, iv (1 : Int32), iv (2 : Int32), iv (2 : Int32), iv (1 : Int32), uv, uv, uv, uv, uv, uv] [(.int (2 : Int32))])) (fun _ k => XS.iload X1904.here hx rfl (hb hby at_361) rfl  k) ?_
  refine Rch.go (U' := T1904.setTop (mkF m 365 #[iv p1, iv p2, iv p3, iv (0 : Int32), iv (1 : Int32), iv (2 : Int32), rv a2, rv a1, iv (1 : Int32), iv (2 : Int32), iv (2 : Int32), iv (1 : Int32), iv (2 : Int32), uv, uv, uv, uv, uv] [])) (fun _ k => XS.istore X1904.here hx rfl (hb hby at_363) rfl (l' := #[iv p1, iv p2, iv p3, iv (0 : Int32), iv (1 : Int32), iv (2 : Int32), rv a2, rv a1, iv (1 : Int32), iv (2 : Int32), iv (2 : Int32), iv (1 : Int32), iv (2 : Int32), uv, uv, uv, uv, uv]) rfl k) ?_
  refine Rch.go (U' := T1904.setTop (mkF m 366 #[iv p1, iv p2, iv p3, iv (0 : Int32), iv (1 : Int32), iv (2 : Int32), rv a2, rv a1, iv (1 : Int32), iv (2 : Int32), iv (2 : Int32), iv (1 : Int32), iv (2 : Int32), uv, uv, uv, uv, uv] [(.int (3 : Int32))])) (fun _ k => XS.iconst X1904.here hx rfl (hb hby at_365) k) ?_
  refine Rch.go (U' := T1904.setTop (mkF m 368 #[iv p1, iv p2, iv p3, iv (0 : Int32), iv (1 : Int32), iv (2 : Int32), rv a2, rv a1, iv (1 : Int32), iv (2 : Int32), iv (2 : Int32), iv (1 : Int32), iv (2 : Int32), iv (3 : Int32), uv, uv, uv, uv] [])) (fun _ k => XS.istore X1904.here hx rfl (hb hby at_366) rfl (l' := #[iv p1, iv p2, iv p3, iv (0 : Int32), iv (1 : Int32), iv (2 : Int32), rv a2, rv a1, iv (1 : Int32), iv (2 : Int32), iv (2 : Int32), iv (1 : Int32), iv (2 : Int32), iv (3 : Int32), uv, uv, uv, uv]) rfl k) ?_
  refine Rch.go (U' := T1904.setTop (mkF m 370 #[iv p1, iv p2, iv p3, iv (0 : Int32), iv (1 : Int32), iv (2 : Int32), rv a2, rv a1, iv (1 : Int32), iv (2 : Int32), iv (2 : Int32), iv (1 : Int32), iv (2 : Int32), iv (3 : Int32), uv, uv, uv, uv] [(.ref a1)])) (fun _ k => XS.aload X1904.here hx rfl (hb hby at_368) rfl rfl k) ?_
  refine Rch.go (U' := T1904.setTop (mkF m 371 #[iv p1, iv p2, iv p3, iv (0 : Int32), iv (1 : Int32), iv (2 : Int32), rv a2, rv a1, iv (1 : Int32), iv (2 : Int32), iv (2 : Int32), iv (1 : Int32), iv (2 : Int32), iv (3 : Int32), uv, uv, uv, uv] [(.int (2 : Int32)), (.ref a1)])) (fun _ k => XS.iconst X1904.here hx rfl (hb hby at_370) k) ?_
  obtain ⟨cq1911, kq1911, q1911a, q1911b, q1911c⟩ := isOf hZ rfl B1904.1.1
  obtain ⟨_, _, ⟨T1911, L1911, k1911, n1911⟩, -, X1911, ⟨Lc1911, hQ1911, l1911, y1911, z1911⟩, st1911⟩ := X1904.virtualBack hx (y := yc) (z := yc) hown (mvT hZ (wi hw 58 rfl)) (mvT hZ (wi hw 59 rfl)) (notFace_of_selects (args := #[]) (mvT hZ (wi hw 61 rfl))) (mvT hZ (wi hw 61 rfl)) (mvT hZ (wi hw 60 rfl)) (by decide) (backOf (W := 0) (rmCo l Z a0 hw [] a1 a2 bco bnx bpv bfb bpd bip bfi ben [0, 0, 0, 0] [1, 2, 3, -1] [-1, 0, 1, 2] [0, 0, 0, 0] [0, 0, 0, 0] [1, 0, 0, 0] (1 : Int32) (1 : Int32) (2 : Int32) T1904.heap n0 z1904 B1904 (by decide)) hZ (wi hw 62 rfl) (wi hw 29 rfl) (by decide) (by decide)) q1911a q1911c (g := (mkF m 371 #[iv p1, iv p2, iv p3, iv (0 : Int32), iv (1 : Int32), iv (2 : Int32), rv a2, rv a1, iv (1 : Int32), iv (2 : Int32), iv (2 : Int32), iv (1 : Int32), iv (2 : Int32), iv (3 : Int32), uv, uv, uv, uv] [(.int (2 : Int32)), (.ref a1)])) rfl (by rw [hml]; rfl) (Steps.refl _) (argsL := [(.int (2 : Int32))]) (rest := []) (lenOf pd_7 rfl) rfl (by show 2 * 0 + _ ≤ _; exact Nat.le_of_eq rfl) (hb hby at_371) (fun _ _ => ⟨rfl, rfl, (by decide : 15 + 0 ≤ _), (by decide : 70 + 0 ≤ _)⟩)
  dsimp only [Pt.U, Pt.locs, Pt.cells, Pt.slots] at X1911 l1911 y1911 z1911 st1911 hQ1911
  subst l1911 y1911 z1911
  obtain ⟨rfl, N1911q, e1911⟩ := hQ1911
  have N1911 := Fr.app N1904 N1911q
  refine Rch.to (U' := T1911.setTop (mkF m 374 #[iv p1, iv p2, iv p3, iv (0 : Int32), iv (1 : Int32), iv (2 : Int32), rv a2, rv a1, iv (1 : Int32), iv (2 : Int32), iv (2 : Int32), iv (1 : Int32), iv (2 : Int32), iv (3 : Int32), uv, uv, uv, uv] [(.int (own_at [0, 0, 0, 0] (2 : Int32)))])) st1911 ?_
  rw [(by decide : (own_at [0, 0, 0, 0] (2 : Int32)) = (0 : Int32))]
  have br1912 : (0 : Int32) = (0 : Int32) := (by decide)
  refine Rch.go (U' := T1911.setTop (mkF m 377 #[iv p1, iv p2, iv p3, iv (0 : Int32), iv (1 : Int32), iv (2 : Int32), rv a2, rv a1, iv (1 : Int32), iv (2 : Int32), iv (2 : Int32), iv (1 : Int32), iv (2 : Int32), iv (3 : Int32), uv, uv, uv, uv] [])) (fun _ k => XS.ifNo X1911.here hx rfl (hb hby at_374) rfl (XT.i0_ne_f br1912) k) ?_
  refine Rch.go (U' := T1911.setTop (mkF m 379 #[iv p1, iv p2, iv p3, iv (0 : Int32), iv (1 : Int32), iv (2 : Int32), rv a2, rv a1, iv (1 : Int32), iv (2 : Int32), iv (2 : Int32), iv (1 : Int32), iv (2 : Int32), iv (3 : Int32), uv, uv, uv, uv] [(.ref a1)])) (fun _ k => XS.aload X1911.here hx rfl (hb hby at_377) rfl rfl k) ?_
  refine Rch.go (U' := T1911.setTop (mkF m 380 #[iv p1, iv p2, iv p3, iv (0 : Int32), iv (1 : Int32), iv (2 : Int32), rv a2, rv a1, iv (1 : Int32), iv (2 : Int32), iv (2 : Int32), iv (1 : Int32), iv (2 : Int32), iv (3 : Int32), uv, uv, uv, uv] [(.int (3 : Int32)), (.ref a1)])) (fun _ k => XS.iconst X1911.here hx rfl (hb hby at_379) k) ?_
  obtain ⟨cq1913, kq1913, q1913a, q1913b, q1913c⟩ := isOf hZ e1911 B1904.1.1
  obtain ⟨_, _, ⟨T1913, L1913, k1913, n1913⟩, -, X1913, ⟨Lc1913, hQ1913, l1913, y1913, z1913⟩, st1913⟩ := X1911.virtualBack hx (y := yc) (z := yc) hown (mvT hZ (wi hw 58 rfl)) (mvT hZ (wi hw 59 rfl)) (notFace_of_selects (args := #[]) (mvT hZ (wi hw 61 rfl))) (mvT hZ (wi hw 61 rfl)) (mvT hZ (wi hw 60 rfl)) (by decide) (backOf (W := 0) (rmCo l Z a0 hw [] a1 a2 bco bnx bpv bfb bpd bip bfi ben [0, 0, 0, 0] [1, 2, 3, -1] [-1, 0, 1, 2] [0, 0, 0, 0] [0, 0, 0, 0] [1, 0, 0, 0] (1 : Int32) (1 : Int32) (3 : Int32) T1904.heap n0 z1904 B1904 (by decide)) hZ (wi hw 62 rfl) (wi hw 29 rfl) (by decide) (by decide)) q1913a q1913c (g := (mkF m 380 #[iv p1, iv p2, iv p3, iv (0 : Int32), iv (1 : Int32), iv (2 : Int32), rv a2, rv a1, iv (1 : Int32), iv (2 : Int32), iv (2 : Int32), iv (1 : Int32), iv (2 : Int32), iv (3 : Int32), uv, uv, uv, uv] [(.int (3 : Int32)), (.ref a1)])) rfl (by rw [hml]; rfl) (Steps.refl _) (argsL := [(.int (3 : Int32))]) (rest := []) (lenOf pd_7 rfl) rfl (by show 2 * 0 + _ ≤ _; exact Nat.le_of_eq rfl) (hb hby at_380) (fun _ _ => ⟨rfl, e1911, (by decide : 15 + 0 ≤ _), (by decide : 70 + 0 ≤ _)⟩)
  dsimp only [Pt.U, Pt.locs, Pt.cells, Pt.slots] at X1913 l1913 y1913 z1913 st1913 hQ1913
  subst l1913 y1913 z1913
  obtain ⟨rfl, N1913q, e1913⟩ := hQ1913
  have N1913 := Fr.app N1911 N1913q
  refine Rch.to (U' := T1913.setTop (mkF m 383 #[iv p1, iv p2, iv p3, iv (0 : Int32), iv (1 : Int32), iv (2 : Int32), rv a2, rv a1, iv (1 : Int32), iv (2 : Int32), iv (2 : Int32), iv (1 : Int32), iv (2 : Int32), iv (3 : Int32), uv, uv, uv, uv] [(.int (own_at [0, 0, 0, 0] (3 : Int32)))])) st1913 ?_
  rw [(by decide : (own_at [0, 0, 0, 0] (3 : Int32)) = (0 : Int32))]
  have br1914 : (0 : Int32) = (0 : Int32) := (by decide)
  refine Rch.go (U' := T1913.setTop (mkF m 386 #[iv p1, iv p2, iv p3, iv (0 : Int32), iv (1 : Int32), iv (2 : Int32), rv a2, rv a1, iv (1 : Int32), iv (2 : Int32), iv (2 : Int32), iv (1 : Int32), iv (2 : Int32), iv (3 : Int32), uv, uv, uv, uv] [])) (fun _ k => XS.ifNo X1913.here hx rfl (hb hby at_383) rfl (XT.i0_ne_f br1914) k) ?_
  refine Rch.go (U' := T1913.setTop (mkF m 388 #[iv p1, iv p2, iv p3, iv (0 : Int32), iv (1 : Int32), iv (2 : Int32), rv a2, rv a1, iv (1 : Int32), iv (2 : Int32), iv (2 : Int32), iv (1 : Int32), iv (2 : Int32), iv (3 : Int32), uv, uv, uv, uv] [(.ref a1)])) (fun _ k => XS.aload X1913.here hx rfl (hb hby at_386) rfl rfl k) ?_
  obtain ⟨cq1915, kq1915, q1915a, q1915b, q1915c⟩ := isOf hZ e1913 B1904.1.1
  obtain ⟨_, _, ⟨T1915, L1915, k1915, n1915⟩, -, X1915, ⟨Lc1915, hQ1915, l1915, y1915, z1915⟩, st1915⟩ := X1913.virtualBack hx (y := yhs) (z := yhs) hown (mvT hZ (wi hw 63 rfl)) (mvT hZ (wi hw 64 rfl)) (notFace_of_selects (args := #[]) (mvT hZ (wi hw 66 rfl))) (mvT hZ (wi hw 66 rfl)) (mvT hZ (wi hw 65 rfl)) (by decide) (backOf (W := 0) (rmHs l Z a0 hw [] a1 a2 bco bnx bpv bfb bpd bip bfi ben [0, 0, 0, 0] [1, 2, 3, -1] [-1, 0, 1, 2] [0, 0, 0, 0] [0, 0, 0, 0] [1, 0, 0, 0] (1 : Int32) (1 : Int32)  T1904.heap n0 z1904 B1904 ) hZ (wi hw 67 rfl) (wi hw 29 rfl) (by decide) (by decide)) q1915a q1915c (g := (mkF m 388 #[iv p1, iv p2, iv p3, iv (0 : Int32), iv (1 : Int32), iv (2 : Int32), rv a2, rv a1, iv (1 : Int32), iv (2 : Int32), iv (2 : Int32), iv (1 : Int32), iv (2 : Int32), iv (3 : Int32), uv, uv, uv, uv] [(.ref a1)])) rfl (by rw [hml]; rfl) (Steps.refl _) (argsL := []) (rest := []) (lenOf pd_15 rfl) rfl (by show 2 * 0 + _ ≤ _; exact Nat.le_of_eq rfl) (hb hby at_388) (fun _ _ => ⟨rfl, e1913, (by decide : 15 + 0 ≤ _), (by decide : 70 + 0 ≤ _)⟩)
  dsimp only [Pt.U, Pt.locs, Pt.cells, Pt.slots] at X1915 l1915 y1915 z1915 st1915 hQ1915
  subst l1915 y1915 z1915
  obtain ⟨rfl, N1915q, e1915⟩ := hQ1915
  have N1915 := Fr.app N1913 N1915q
  refine Rch.to (U' := T1915.setTop (mkF m 391 #[iv p1, iv p2, iv p3, iv (0 : Int32), iv (1 : Int32), iv (2 : Int32), rv a2, rv a1, iv (1 : Int32), iv (2 : Int32), iv (2 : Int32), iv (1 : Int32), iv (2 : Int32), iv (3 : Int32), uv, uv, uv, uv] [(.int (own_pos (1 : Int32)))])) st1915 ?_
  rw [(by decide : (own_pos (1 : Int32)) = (1 : Int32))]
  have br1916 : ¬ ((1 : Int32) = (0 : Int32)) := (by decide)
  refine Rch.go (U' := T1915.setTop (mkF m 394 #[iv p1, iv p2, iv p3, iv (0 : Int32), iv (1 : Int32), iv (2 : Int32), rv a2, rv a1, iv (1 : Int32), iv (2 : Int32), iv (2 : Int32), iv (1 : Int32), iv (2 : Int32), iv (3 : Int32), uv, uv, uv, uv] [])) (fun _ k => XS.ifNo X1915.here hx rfl (hb hby at_391) rfl (XT.i0_eq_f br1916) k) ?_
  refine Rch.go (U' := T1915.setTop (mkF m 396 #[iv p1, iv p2, iv p3, iv (0 : Int32), iv (1 : Int32), iv (2 : Int32), rv a2, rv a1, iv (1 : Int32), iv (2 : Int32), iv (2 : Int32), iv (1 : Int32), iv (2 : Int32), iv (3 : Int32), uv, uv, uv, uv] [(.ref a1)])) (fun _ k => XS.aload X1915.here hx rfl (hb hby at_394) rfl rfl k) ?_
  obtain ⟨cq1917, kq1917, q1917a, q1917b, q1917c⟩ := isOf hZ e1915 B1904.1.1
  obtain ⟨_, _, ⟨T1917, L1917, k1917, n1917⟩, -, X1917, ⟨Lc1917, hQ1917, l1917, y1917, z1917⟩, st1917⟩ := X1915.virtualBack hx (y := yns) (z := yns) hown (mvT hZ (wi hw 68 rfl)) (mvT hZ (wi hw 69 rfl)) (notFace_of_selects (args := #[]) (mvT hZ (wi hw 71 rfl))) (mvT hZ (wi hw 71 rfl)) (mvT hZ (wi hw 70 rfl)) (by decide) (backOf (W := 0) (rmNs l Z a0 hw [] a1 a2 bco bnx bpv bfb bpd bip bfi ben [0, 0, 0, 0] [1, 2, 3, -1] [-1, 0, 1, 2] [0, 0, 0, 0] [0, 0, 0, 0] [1, 0, 0, 0] (1 : Int32) (1 : Int32)  T1904.heap n0 z1904 B1904 (by decide)) hZ (wi hw 72 rfl) (wi hw 29 rfl) (by decide) (by decide)) q1917a q1917c (g := (mkF m 396 #[iv p1, iv p2, iv p3, iv (0 : Int32), iv (1 : Int32), iv (2 : Int32), rv a2, rv a1, iv (1 : Int32), iv (2 : Int32), iv (2 : Int32), iv (1 : Int32), iv (2 : Int32), iv (3 : Int32), uv, uv, uv, uv] [(.ref a1)])) rfl (by rw [hml]; rfl) (Steps.refl _) (argsL := []) (rest := []) (lenOf pd_14 rfl) rfl (by show 2 * 0 + _ ≤ _; exact Nat.le_of_eq rfl) (hb hby at_396) (fun _ _ => ⟨rfl, e1915, (by decide : 15 + 0 ≤ _), (by decide : 70 + 0 ≤ _)⟩)
  dsimp only [Pt.U, Pt.locs, Pt.cells, Pt.slots] at X1917 l1917 y1917 z1917 st1917 hQ1917
  subst l1917 y1917 z1917
  obtain ⟨rfl, N1917q, e1917⟩ := hQ1917
  have N1917 := Fr.app N1915 N1917q
  refine Rch.to (U' := T1917.setTop (mkF m 399 #[iv p1, iv p2, iv p3, iv (0 : Int32), iv (1 : Int32), iv (2 : Int32), rv a2, rv a1, iv (1 : Int32), iv (2 : Int32), iv (2 : Int32), iv (1 : Int32), iv (2 : Int32), iv (3 : Int32), uv, uv, uv, uv] [(.int (own_at [0, 0, 0, 0] ((1 : Int32) - (1 : Int32))))])) st1917 ?_
  rw [(by decide : (own_at [0, 0, 0, 0] ((1 : Int32) - (1 : Int32))) = (0 : Int32))]
  have br1918 : (0 : Int32) = (0 : Int32) := (by decide)
  refine Rch.go (U' := T1917.setTop (mkF m 402 #[iv p1, iv p2, iv p3, iv (0 : Int32), iv (1 : Int32), iv (2 : Int32), rv a2, rv a1, iv (1 : Int32), iv (2 : Int32), iv (2 : Int32), iv (1 : Int32), iv (2 : Int32), iv (3 : Int32), uv, uv, uv, uv] [])) (fun _ k => XS.ifNo X1917.here hx rfl (hb hby at_399) rfl (XT.i0_ne_f br1918) k) ?_
  refine Rch.go (U' := T1917.setTop (mkF m 403 #[iv p1, iv p2, iv p3, iv (0 : Int32), iv (1 : Int32), iv (2 : Int32), rv a2, rv a1, iv (1 : Int32), iv (2 : Int32), iv (2 : Int32), iv (1 : Int32), iv (2 : Int32), iv (3 : Int32), uv, uv, uv, uv] [(.int (1 : Int32))])) (fun _ k => XS.iconst X1917.here hx rfl (hb hby at_402) k) ?_
  refine Rch.go (U' := T1917.setTop (mkF m 407 #[iv p1, iv p2, iv p3, iv (0 : Int32), iv (1 : Int32), iv (2 : Int32), rv a2, rv a1, iv (1 : Int32), iv (2 : Int32), iv (2 : Int32), iv (1 : Int32), iv (2 : Int32), iv (3 : Int32), uv, uv, uv, uv] [(.int (1 : Int32))])) (fun _ k => XS.goto X1917.here hx rfl (pc0 := 403) (pc' := 407) rfl (hb hby at_403) (by decide) (by decide) k) ?_
  refine Rch.go (U' := T1917.setTop (mkF m 409 #[iv p1, iv p2, iv p3, iv (0 : Int32), iv (1 : Int32), iv (2 : Int32), rv a2, rv a1, iv (1 : Int32), iv (2 : Int32), iv (2 : Int32), iv (1 : Int32), iv (2 : Int32), iv (3 : Int32), iv (1 : Int32), uv, uv, uv] [])) (fun _ k => XS.istore X1917.here hx rfl (hb hby at_407) rfl (l' := #[iv p1, iv p2, iv p3, iv (0 : Int32), iv (1 : Int32), iv (2 : Int32), rv a2, rv a1, iv (1 : Int32), iv (2 : Int32), iv (2 : Int32), iv (1 : Int32), iv (2 : Int32), iv (3 : Int32), iv (1 : Int32), uv, uv, uv]) rfl k) ?_
  refine Rch.go (U' := T1917.setTop (mkF m 411 #[iv p1, iv p2, iv p3, iv (0 : Int32), iv (1 : Int32), iv (2 : Int32), rv a2, rv a1, iv (1 : Int32), iv (2 : Int32), iv (2 : Int32), iv (1 : Int32), iv (2 : Int32), iv (3 : Int32), iv (1 : Int32), uv, uv, uv] [(.int (1 : Int32))])) (fun _ k => XS.iload X1917.here hx rfl (hb hby at_409) rfl  k) ?_
  have br1919 : ¬ ((1 : Int32) = (0 : Int32)) := (by decide)
  refine Rch.go (U' := T1917.setTop (mkF m 416 #[iv p1, iv p2, iv p3, iv (0 : Int32), iv (1 : Int32), iv (2 : Int32), rv a2, rv a1, iv (1 : Int32), iv (2 : Int32), iv (2 : Int32), iv (1 : Int32), iv (2 : Int32), iv (3 : Int32), iv (1 : Int32), uv, uv, uv] [])) (fun _ k => XS.ifYes X1917.here hx rfl (pc0 := 411) (pc' := 416) rfl (hb hby at_411) rfl (XT.i0_ne_t br1919) (by decide) (by decide) k) ?_
  refine Rch.go (U' := T1917.setTop (mkF m 418 #[iv p1, iv p2, iv p3, iv (0 : Int32), iv (1 : Int32), iv (2 : Int32), rv a2, rv a1, iv (1 : Int32), iv (2 : Int32), iv (2 : Int32), iv (1 : Int32), iv (2 : Int32), iv (3 : Int32), iv (1 : Int32), uv, uv, uv] [(.ref a1)])) (fun _ k => XS.aload X1917.here hx rfl (hb hby at_416) rfl rfl k) ?_
  obtain ⟨cq1920, kq1920, q1920a, q1920b, q1920c⟩ := isOf hZ e1917 B1904.1.1
  obtain ⟨_, _, ⟨T1920, L1920, k1920, n1920⟩, -, X1920, ⟨Lc1920, hQ1920, l1920, y1920, z1920⟩, st1920⟩ := X1917.virtualBack hx (y := yt) (z := yt) hown (mvT hZ (wi hw 73 rfl)) (mvT hZ (wi hw 74 rfl)) (notFace_of_selects (args := #[]) (mvT hZ (wi hw 76 rfl))) (mvT hZ (wi hw 76 rfl)) (mvT hZ (wi hw 75 rfl)) (by decide) (backOf (W := 0) (rmT l Z a0 hw [] a1 a2 bco bnx bpv bfb bpd bip bfi ben [0, 0, 0, 0] [1, 2, 3, -1] [-1, 0, 1, 2] [0, 0, 0, 0] [0, 0, 0, 0] [1, 0, 0, 0] (1 : Int32) (1 : Int32) T1904.heap n0 z1904 B1904 (by decide)) hZ (wi hw 77 rfl) (wi hw 29 rfl) (by decide) (by decide)) q1920a q1920c (g := (mkF m 418 #[iv p1, iv p2, iv p3, iv (0 : Int32), iv (1 : Int32), iv (2 : Int32), rv a2, rv a1, iv (1 : Int32), iv (2 : Int32), iv (2 : Int32), iv (1 : Int32), iv (2 : Int32), iv (3 : Int32), iv (1 : Int32), uv, uv, uv] [(.ref a1)])) rfl (by rw [hml]; rfl) (Steps.refl _) (argsL := []) (rest := []) (lenOf pd_14 rfl) rfl (by show 2 * 0 + _ ≤ _; exact Nat.le_of_eq rfl) (hb hby at_418) (fun _ _ => ⟨rfl, e1917, (by decide : 15 + 0 ≤ _), (by decide : 70 + 0 ≤ _)⟩)
  dsimp only [Pt.U, Pt.locs, Pt.cells, Pt.slots] at X1920 l1920 y1920 z1920 st1920 hQ1920
  subst l1920 y1920 z1920
  obtain ⟨rfl, N1920q, z1920, C1920⟩ := hQ1920
  have N1920 := Fr.app N1917 N1920q
  rw [(by rfl : own_take [0, 0, 0, 0] [1, 2, 3, -1] [-1, 0, 1, 2] [0, 0, 0, 0] [0, 0, 0, 0] [1, 0, 0, 0] (1 : Int32) (1 : Int32) = ([0, 1, 0, 0], [2, -1, 3, -1], [-1, -1, 0, 2], [0, 1, 0, 0], [0, 0, 0, 0], [1, 0, 0, 0], (2 : Int32), (1 : Int32)))] at C1920
  have B1920 : Cb Z T1920.heap n0 a1 a2 bco bnx bpv bfb bpd bip bfi ben [0, 1, 0, 0] [2, -1, 3, -1] [-1, -1, 0, 2] [0, 1, 0, 0] [0, 0, 0, 0] [1, 0, 0, 0] (2 : Int32) (1 : Int32) := C1920
  refine Rch.to (U' := T1920.setTop (mkF m 421 #[iv p1, iv p2, iv p3, iv (0 : Int32), iv (1 : Int32), iv (2 : Int32), rv a2, rv a1, iv (1 : Int32), iv (2 : Int32), iv (2 : Int32), iv (1 : Int32), iv (2 : Int32), iv (3 : Int32), iv (1 : Int32), uv, uv, uv] [(.int (own_sp [1, 2, 3, -1] [0, 0, 0, 0] [0, 0, 0, 0] (1 : Int32)))])) st1920 ?_
  rw [(by decide : own_sp [1, 2, 3, -1] [0, 0, 0, 0] [0, 0, 0, 0] (1 : Int32) = (1 : Int32))]
  refine Rch.go (U' := T1920.setTop (mkF m 423 #[iv p1, iv p2, iv p3, iv (0 : Int32), iv (1 : Int32), iv (2 : Int32), rv a2, rv a1, iv (1 : Int32), iv (2 : Int32), iv (2 : Int32), iv (1 : Int32), iv (2 : Int32), iv (3 : Int32), iv (1 : Int32), iv (1 : Int32), uv, uv] [])) (fun _ k => XS.istore X1920.here hx rfl (hb hby at_421) rfl (l' := #[iv p1, iv p2, iv p3, iv (0 : Int32), iv (1 : Int32), iv (2 : Int32), rv a2, rv a1, iv (1 : Int32), iv (2 : Int32), iv (2 : Int32), iv (1 : Int32), iv (2 : Int32), iv (3 : Int32), iv (1 : Int32), iv (1 : Int32), uv, uv]) rfl k) ?_
  refine Rch.go (U' := T1920.setTop (mkF m 425 #[iv p1, iv p2, iv p3, iv (0 : Int32), iv (1 : Int32), iv (2 : Int32), rv a2, rv a1, iv (1 : Int32), iv (2 : Int32), iv (2 : Int32), iv (1 : Int32), iv (2 : Int32), iv (3 : Int32), iv (1 : Int32), iv (1 : Int32), uv, uv] [(.ref a1)])) (fun _ k => XS.aload X1920.here hx rfl (hb hby at_423) rfl rfl k) ?_
  obtain ⟨cq1921, kq1921, q1921a, q1921b, q1921c⟩ := isOf hZ rfl B1920.1.1
  obtain ⟨_, _, ⟨T1921, L1921, k1921, n1921⟩, -, X1921, ⟨Lc1921, hQ1921, l1921, y1921, z1921⟩, st1921⟩ := X1920.virtualBack hx (y := yt) (z := yt) hown (mvT hZ (wi hw 73 rfl)) (mvT hZ (wi hw 74 rfl)) (notFace_of_selects (args := #[]) (mvT hZ (wi hw 76 rfl))) (mvT hZ (wi hw 76 rfl)) (mvT hZ (wi hw 75 rfl)) (by decide) (backOf (W := 0) (rmT l Z a0 hw [] a1 a2 bco bnx bpv bfb bpd bip bfi ben [0, 1, 0, 0] [2, -1, 3, -1] [-1, -1, 0, 2] [0, 1, 0, 0] [0, 0, 0, 0] [1, 0, 0, 0] (2 : Int32) (1 : Int32) T1920.heap n0 z1920 B1920 (by decide)) hZ (wi hw 77 rfl) (wi hw 29 rfl) (by decide) (by decide)) q1921a q1921c (g := (mkF m 425 #[iv p1, iv p2, iv p3, iv (0 : Int32), iv (1 : Int32), iv (2 : Int32), rv a2, rv a1, iv (1 : Int32), iv (2 : Int32), iv (2 : Int32), iv (1 : Int32), iv (2 : Int32), iv (3 : Int32), iv (1 : Int32), iv (1 : Int32), uv, uv] [(.ref a1)])) rfl (by rw [hml]; rfl) (Steps.refl _) (argsL := []) (rest := []) (lenOf pd_14 rfl) rfl (by show 2 * 0 + _ ≤ _; exact Nat.le_of_eq rfl) (hb hby at_425) (fun _ _ => ⟨rfl, rfl, (by decide : 15 + 0 ≤ _), (by decide : 70 + 0 ≤ _)⟩)
  dsimp only [Pt.U, Pt.locs, Pt.cells, Pt.slots] at X1921 l1921 y1921 z1921 st1921 hQ1921
  subst l1921 y1921 z1921
  obtain ⟨rfl, N1921q, z1921, C1921⟩ := hQ1921
  have N1921 := Fr.app N1920 N1921q
  rw [(by rfl : own_take [0, 1, 0, 0] [2, -1, 3, -1] [-1, -1, 0, 2] [0, 1, 0, 0] [0, 0, 0, 0] [1, 0, 0, 0] (2 : Int32) (1 : Int32) = ([0, 1, 2, 0], [3, -1, -1, -1], [-1, -1, -1, 0], [0, 1, 2, 0], [0, 0, 0, 0], [1, 0, 0, 0], (3 : Int32), (1 : Int32)))] at C1921
  have B1921 : Cb Z T1921.heap n0 a1 a2 bco bnx bpv bfb bpd bip bfi ben [0, 1, 2, 0] [3, -1, -1, -1] [-1, -1, -1, 0] [0, 1, 2, 0] [0, 0, 0, 0] [1, 0, 0, 0] (3 : Int32) (1 : Int32) := C1921
  refine Rch.to (U' := T1921.setTop (mkF m 428 #[iv p1, iv p2, iv p3, iv (0 : Int32), iv (1 : Int32), iv (2 : Int32), rv a2, rv a1, iv (1 : Int32), iv (2 : Int32), iv (2 : Int32), iv (1 : Int32), iv (2 : Int32), iv (3 : Int32), iv (1 : Int32), iv (1 : Int32), uv, uv] [(.int (own_sp [2, -1, 3, -1] [0, 1, 0, 0] [0, 0, 0, 0] (1 : Int32)))])) st1921 ?_
  rw [(by decide : own_sp [2, -1, 3, -1] [0, 1, 0, 0] [0, 0, 0, 0] (1 : Int32) = (2 : Int32))]
  refine Rch.go (U' := T1921.setTop (mkF m 430 #[iv p1, iv p2, iv p3, iv (0 : Int32), iv (1 : Int32), iv (2 : Int32), rv a2, rv a1, iv (1 : Int32), iv (2 : Int32), iv (2 : Int32), iv (1 : Int32), iv (2 : Int32), iv (3 : Int32), iv (1 : Int32), iv (1 : Int32), iv (2 : Int32), uv] [])) (fun _ k => XS.istore X1921.here hx rfl (hb hby at_428) rfl (l' := #[iv p1, iv p2, iv p3, iv (0 : Int32), iv (1 : Int32), iv (2 : Int32), rv a2, rv a1, iv (1 : Int32), iv (2 : Int32), iv (2 : Int32), iv (1 : Int32), iv (2 : Int32), iv (3 : Int32), iv (1 : Int32), iv (1 : Int32), iv (2 : Int32), uv]) rfl k) ?_
  refine Rch.go (U' := T1921.setTop (mkF m 432 #[iv p1, iv p2, iv p3, iv (0 : Int32), iv (1 : Int32), iv (2 : Int32), rv a2, rv a1, iv (1 : Int32), iv (2 : Int32), iv (2 : Int32), iv (1 : Int32), iv (2 : Int32), iv (3 : Int32), iv (1 : Int32), iv (1 : Int32), iv (2 : Int32), uv] [(.ref a1)])) (fun _ k => XS.aload X1921.here hx rfl (hb hby at_430) rfl rfl k) ?_
  obtain ⟨cq1922, kq1922, q1922a, q1922b, q1922c⟩ := isOf hZ rfl B1921.1.1
  obtain ⟨_, _, ⟨T1922, L1922, k1922, n1922⟩, -, X1922, ⟨Lc1922, hQ1922, l1922, y1922, z1922⟩, st1922⟩ := X1921.virtualBack hx (y := yt) (z := yt) hown (mvT hZ (wi hw 73 rfl)) (mvT hZ (wi hw 74 rfl)) (notFace_of_selects (args := #[]) (mvT hZ (wi hw 76 rfl))) (mvT hZ (wi hw 76 rfl)) (mvT hZ (wi hw 75 rfl)) (by decide) (backOf (W := 0) (rmT l Z a0 hw [] a1 a2 bco bnx bpv bfb bpd bip bfi ben [0, 1, 2, 0] [3, -1, -1, -1] [-1, -1, -1, 0] [0, 1, 2, 0] [0, 0, 0, 0] [1, 0, 0, 0] (3 : Int32) (1 : Int32) T1921.heap n0 z1921 B1921 (by decide)) hZ (wi hw 77 rfl) (wi hw 29 rfl) (by decide) (by decide)) q1922a q1922c (g := (mkF m 432 #[iv p1, iv p2, iv p3, iv (0 : Int32), iv (1 : Int32), iv (2 : Int32), rv a2, rv a1, iv (1 : Int32), iv (2 : Int32), iv (2 : Int32), iv (1 : Int32), iv (2 : Int32), iv (3 : Int32), iv (1 : Int32), iv (1 : Int32), iv (2 : Int32), uv] [(.ref a1)])) rfl (by rw [hml]; rfl) (Steps.refl _) (argsL := []) (rest := []) (lenOf pd_14 rfl) rfl (by show 2 * 0 + _ ≤ _; exact Nat.le_of_eq rfl) (hb hby at_432) (fun _ _ => ⟨rfl, rfl, (by decide : 15 + 0 ≤ _), (by decide : 70 + 0 ≤ _)⟩)
  dsimp only [Pt.U, Pt.locs, Pt.cells, Pt.slots] at X1922 l1922 y1922 z1922 st1922 hQ1922
  subst l1922 y1922 z1922
  obtain ⟨rfl, N1922q, z1922, C1922⟩ := hQ1922
  have N1922 := Fr.app N1921 N1922q
  rw [(by rfl : own_take [0, 1, 2, 0] [3, -1, -1, -1] [-1, -1, -1, 0] [0, 1, 2, 0] [0, 0, 0, 0] [1, 0, 0, 0] (3 : Int32) (1 : Int32) = ([0, 1, 2, 3], [-1, -1, -1, -1], [-1, -1, -1, -1], [0, 1, 2, 3], [0, 0, 0, 0], [0, 0, 0, 0], (4 : Int32), (0 : Int32)))] at C1922
  have B1922 : Cb Z T1922.heap n0 a1 a2 bco bnx bpv bfb bpd bip bfi ben [0, 1, 2, 3] [-1, -1, -1, -1] [-1, -1, -1, -1] [0, 1, 2, 3] [0, 0, 0, 0] [0, 0, 0, 0] (4 : Int32) (0 : Int32) := C1922
  refine Rch.to (U' := T1922.setTop (mkF m 435 #[iv p1, iv p2, iv p3, iv (0 : Int32), iv (1 : Int32), iv (2 : Int32), rv a2, rv a1, iv (1 : Int32), iv (2 : Int32), iv (2 : Int32), iv (1 : Int32), iv (2 : Int32), iv (3 : Int32), iv (1 : Int32), iv (1 : Int32), iv (2 : Int32), uv] [(.int (own_sp [3, -1, -1, -1] [0, 1, 2, 0] [0, 0, 0, 0] (1 : Int32)))])) st1922 ?_
  rw [(by decide : own_sp [3, -1, -1, -1] [0, 1, 2, 0] [0, 0, 0, 0] (1 : Int32) = (3 : Int32))]
  refine Rch.go (U' := T1922.setTop (mkF m 437 #[iv p1, iv p2, iv p3, iv (0 : Int32), iv (1 : Int32), iv (2 : Int32), rv a2, rv a1, iv (1 : Int32), iv (2 : Int32), iv (2 : Int32), iv (1 : Int32), iv (2 : Int32), iv (3 : Int32), iv (1 : Int32), iv (1 : Int32), iv (2 : Int32), iv (3 : Int32)] [])) (fun _ k => XS.istore X1922.here hx rfl (hb hby at_435) rfl (l' := #[iv p1, iv p2, iv p3, iv (0 : Int32), iv (1 : Int32), iv (2 : Int32), rv a2, rv a1, iv (1 : Int32), iv (2 : Int32), iv (2 : Int32), iv (1 : Int32), iv (2 : Int32), iv (3 : Int32), iv (1 : Int32), iv (1 : Int32), iv (2 : Int32), iv (3 : Int32)]) rfl k) ?_
  refine Rch.go (U' := T1922.setTop (mkF m 439 #[iv p1, iv p2, iv p3, iv (0 : Int32), iv (1 : Int32), iv (2 : Int32), rv a2, rv a1, iv (1 : Int32), iv (2 : Int32), iv (2 : Int32), iv (1 : Int32), iv (2 : Int32), iv (3 : Int32), iv (1 : Int32), iv (1 : Int32), iv (2 : Int32), iv (3 : Int32)] [(.int (1 : Int32))])) (fun _ k => XS.iload X1922.here hx rfl (hb hby at_437) rfl  k) ?_
  refine Rch.go (U' := T1922.setTop (mkF m 441 #[iv p1, iv p2, iv p3, iv (0 : Int32), iv (1 : Int32), iv (2 : Int32), rv a2, rv a1, iv (1 : Int32), iv (2 : Int32), iv (2 : Int32), iv (1 : Int32), iv (2 : Int32), iv (3 : Int32), iv (1 : Int32), iv (1 : Int32), iv (2 : Int32), iv (3 : Int32)] [(.int (1 : Int32)), (.int (1 : Int32))])) (fun _ k => XS.iload X1922.here hx rfl (hb hby at_439) rfl  k) ?_
  have br1923 : (1 : Int32) = (1 : Int32) := (by decide)
  refine Rch.go (U' := T1922.setTop (mkF m 444 #[iv p1, iv p2, iv p3, iv (0 : Int32), iv (1 : Int32), iv (2 : Int32), rv a2, rv a1, iv (1 : Int32), iv (2 : Int32), iv (2 : Int32), iv (1 : Int32), iv (2 : Int32), iv (3 : Int32), iv (1 : Int32), iv (1 : Int32), iv (2 : Int32), iv (3 : Int32)] [])) (fun _ k => XS.icmpNo X1922.here hx rfl (hb hby at_441) rfl (XT.ii_ne_f br1923) k) ?_
  refine Rch.go (U' := T1922.setTop (mkF m 446 #[iv p1, iv p2, iv p3, iv (0 : Int32), iv (1 : Int32), iv (2 : Int32), rv a2, rv a1, iv (1 : Int32), iv (2 : Int32), iv (2 : Int32), iv (1 : Int32), iv (2 : Int32), iv (3 : Int32), iv (1 : Int32), iv (1 : Int32), iv (2 : Int32), iv (3 : Int32)] [(.int (2 : Int32))])) (fun _ k => XS.iload X1922.here hx rfl (hb hby at_444) rfl  k) ?_
  refine Rch.go (U' := T1922.setTop (mkF m 448 #[iv p1, iv p2, iv p3, iv (0 : Int32), iv (1 : Int32), iv (2 : Int32), rv a2, rv a1, iv (1 : Int32), iv (2 : Int32), iv (2 : Int32), iv (1 : Int32), iv (2 : Int32), iv (3 : Int32), iv (1 : Int32), iv (1 : Int32), iv (2 : Int32), iv (3 : Int32)] [(.int (2 : Int32)), (.int (2 : Int32))])) (fun _ k => XS.iload X1922.here hx rfl (hb hby at_446) rfl  k) ?_
  have br1924 : (2 : Int32) = (2 : Int32) := (by decide)
  refine Rch.go (U' := T1922.setTop (mkF m 451 #[iv p1, iv p2, iv p3, iv (0 : Int32), iv (1 : Int32), iv (2 : Int32), rv a2, rv a1, iv (1 : Int32), iv (2 : Int32), iv (2 : Int32), iv (1 : Int32), iv (2 : Int32), iv (3 : Int32), iv (1 : Int32), iv (1 : Int32), iv (2 : Int32), iv (3 : Int32)] [])) (fun _ k => XS.icmpNo X1922.here hx rfl (hb hby at_448) rfl (XT.ii_ne_f br1924) k) ?_
  refine Rch.go (U' := T1922.setTop (mkF m 453 #[iv p1, iv p2, iv p3, iv (0 : Int32), iv (1 : Int32), iv (2 : Int32), rv a2, rv a1, iv (1 : Int32), iv (2 : Int32), iv (2 : Int32), iv (1 : Int32), iv (2 : Int32), iv (3 : Int32), iv (1 : Int32), iv (1 : Int32), iv (2 : Int32), iv (3 : Int32)] [(.int (3 : Int32))])) (fun _ k => XS.iload X1922.here hx rfl (hb hby at_451) rfl  k) ?_
  refine Rch.go (U' := T1922.setTop (mkF m 455 #[iv p1, iv p2, iv p3, iv (0 : Int32), iv (1 : Int32), iv (2 : Int32), rv a2, rv a1, iv (1 : Int32), iv (2 : Int32), iv (2 : Int32), iv (1 : Int32), iv (2 : Int32), iv (3 : Int32), iv (1 : Int32), iv (1 : Int32), iv (2 : Int32), iv (3 : Int32)] [(.int (3 : Int32)), (.int (3 : Int32))])) (fun _ k => XS.iload X1922.here hx rfl (hb hby at_453) rfl  k) ?_
  have br1925 : (3 : Int32) = (3 : Int32) := (by decide)
  refine Rch.go (U' := T1922.setTop (mkF m 458 #[iv p1, iv p2, iv p3, iv (0 : Int32), iv (1 : Int32), iv (2 : Int32), rv a2, rv a1, iv (1 : Int32), iv (2 : Int32), iv (2 : Int32), iv (1 : Int32), iv (2 : Int32), iv (3 : Int32), iv (1 : Int32), iv (1 : Int32), iv (2 : Int32), iv (3 : Int32)] [])) (fun _ k => XS.icmpNo X1922.here hx rfl (hb hby at_455) rfl (XT.ii_ne_f br1925) k) ?_
  refine Rch.go (U' := T1922.setTop (mkF m 460 #[iv p1, iv p2, iv p3, iv (0 : Int32), iv (1 : Int32), iv (2 : Int32), rv a2, rv a1, iv (1 : Int32), iv (2 : Int32), iv (2 : Int32), iv (1 : Int32), iv (2 : Int32), iv (3 : Int32), iv (1 : Int32), iv (1 : Int32), iv (2 : Int32), iv (3 : Int32)] [(.ref a1)])) (fun _ k => XS.aload X1922.here hx rfl (hb hby at_458) rfl rfl k) ?_
  obtain ⟨cq1926, kq1926, q1926a, q1926b, q1926c⟩ := isOf hZ rfl B1922.1.1
  obtain ⟨_, _, ⟨T1926, L1926, k1926, n1926⟩, -, X1926, ⟨Lc1926, hQ1926, l1926, y1926, z1926⟩, st1926⟩ := X1922.virtualBack hx (y := yhs) (z := yhs) hown (mvT hZ (wi hw 63 rfl)) (mvT hZ (wi hw 64 rfl)) (notFace_of_selects (args := #[]) (mvT hZ (wi hw 66 rfl))) (mvT hZ (wi hw 66 rfl)) (mvT hZ (wi hw 65 rfl)) (by decide) (backOf (W := 0) (rmHs l Z a0 hw [] a1 a2 bco bnx bpv bfb bpd bip bfi ben [0, 1, 2, 3] [-1, -1, -1, -1] [-1, -1, -1, -1] [0, 1, 2, 3] [0, 0, 0, 0] [0, 0, 0, 0] (4 : Int32) (0 : Int32)  T1922.heap n0 z1922 B1922 ) hZ (wi hw 67 rfl) (wi hw 29 rfl) (by decide) (by decide)) q1926a q1926c (g := (mkF m 460 #[iv p1, iv p2, iv p3, iv (0 : Int32), iv (1 : Int32), iv (2 : Int32), rv a2, rv a1, iv (1 : Int32), iv (2 : Int32), iv (2 : Int32), iv (1 : Int32), iv (2 : Int32), iv (3 : Int32), iv (1 : Int32), iv (1 : Int32), iv (2 : Int32), iv (3 : Int32)] [(.ref a1)])) rfl (by rw [hml]; rfl) (Steps.refl _) (argsL := []) (rest := []) (lenOf pd_15 rfl) rfl (by show 2 * 0 + _ ≤ _; exact Nat.le_of_eq rfl) (hb hby at_460) (fun _ _ => ⟨rfl, rfl, (by decide : 15 + 0 ≤ _), (by decide : 70 + 0 ≤ _)⟩)
  dsimp only [Pt.U, Pt.locs, Pt.cells, Pt.slots] at X1926 l1926 y1926 z1926 st1926 hQ1926
  subst l1926 y1926 z1926
  obtain ⟨rfl, N1926q, e1926⟩ := hQ1926
  have N1926 := Fr.app N1922 N1926q
  refine Rch.to (U' := T1926.setTop (mkF m 463 #[iv p1, iv p2, iv p3, iv (0 : Int32), iv (1 : Int32), iv (2 : Int32), rv a2, rv a1, iv (1 : Int32), iv (2 : Int32), iv (2 : Int32), iv (1 : Int32), iv (2 : Int32), iv (3 : Int32), iv (1 : Int32), iv (1 : Int32), iv (2 : Int32), iv (3 : Int32)] [(.int (own_pos (0 : Int32)))])) st1926 ?_
  rw [(by decide : (own_pos (0 : Int32)) = (0 : Int32))]
  have br1927 : (0 : Int32) = (0 : Int32) := (by decide)
  refine Rch.go (U' := T1926.setTop (mkF m 466 #[iv p1, iv p2, iv p3, iv (0 : Int32), iv (1 : Int32), iv (2 : Int32), rv a2, rv a1, iv (1 : Int32), iv (2 : Int32), iv (2 : Int32), iv (1 : Int32), iv (2 : Int32), iv (3 : Int32), iv (1 : Int32), iv (1 : Int32), iv (2 : Int32), iv (3 : Int32)] [])) (fun _ k => XS.ifNo X1926.here hx rfl (hb hby at_463) rfl (XT.i0_ne_f br1927) k) ?_
  refine Rch.go (U' := T1926.setTop (mkF m 467 #[iv p1, iv p2, iv p3, iv (0 : Int32), iv (1 : Int32), iv (2 : Int32), rv a2, rv a1, iv (1 : Int32), iv (2 : Int32), iv (2 : Int32), iv (1 : Int32), iv (2 : Int32), iv (3 : Int32), iv (1 : Int32), iv (1 : Int32), iv (2 : Int32), iv (3 : Int32)] [(.int (1 : Int32))])) (fun _ k => XS.iconst X1926.here hx rfl (hb hby at_466) k) ?_
  refine Rch.go (U' := T1926.setTop (mkF m 471 #[iv p1, iv p2, iv p3, iv (0 : Int32), iv (1 : Int32), iv (2 : Int32), rv a2, rv a1, iv (1 : Int32), iv (2 : Int32), iv (2 : Int32), iv (1 : Int32), iv (2 : Int32), iv (3 : Int32), iv (1 : Int32), iv (1 : Int32), iv (2 : Int32), iv (3 : Int32)] [(.int (1 : Int32))])) (fun _ k => XS.goto X1926.here hx rfl (pc0 := 467) (pc' := 471) rfl (hb hby at_467) (by decide) (by decide) k) ?_
  refine Rch.fin X1926 hlk (v := some (.int (nar .boolean (1 : Int32)))) (fun h => by rw [hret] at h; cases h) e1926 (by decide) (by decide) (fun fs hr => retN X1926 hx (t := .boolean) hret (by simp) (hb hby at_471) hr) ?_
  exact ⟨rfl, N1926⟩
set_option maxRecDepth 65536 in
set_option maxHeartbeats 40000000 in
theorem cut54_100 {p : Program} {l : Launch} {e : Env} {s : State} {m : MethodId} {args : Array Value} {below : List Frame} {meth : Method} {c : Code} {T0 : State} {locs : List Loc} {Z : State} {a0 : Array Value} {h0 : Heap} {n0 : Nat}  (p1 : Int32) (p2 : Int32) (p3 : Int32) (a1 : Addr) (a2 : Addr) (bco : Addr) (bnx : Addr) (bpv : Addr) (bfb : Addr) (bpd : Addr) (bip : Addr) (bfi : Addr) (ben : Addr)
    (X0 : Stand p l e room_1 s m args below meth c T0 locs 15 70) (hx : p.tables.exec = Jvm.exec) (hZ : Z.Warmed39 s.vm) (hw : ∀ d ∈ tables_1, d.before a0 Z = true) (hby : c.code = code) (hml : c.maxLocals = 18) (hown : s.vm.findClass cLW = some m.cls) (hret : meth.sig.returnType = some .boolean) (hlk : meth.locks = false) (e0 : T0.heap = h0) (N0 : Fr n0 locs) (Z0 : n0 ≤ h0.size) (B : Cb Z h0 n0 a1 a2 bco bnx bpv bfb bpd bip bfi ben [0, 0, 0, 0] [1, -1, 0, 0] [-1, 0, 0, 0] [0, 0, 0, 0] [0, 0, 0, 0] [1, 0, 0, 0] (1 : Int32) (1 : Int32)) :
    Rch p e below (Fin s below (fun v h L => v = some (.int 1) ∧ Fr n0 L) 40 256) (T0.setTop (mkF m 54 #[iv p1, iv p2, iv p3, iv (1 : Int32), iv (0 : Int32), iv (0 : Int32), rv a2, rv a1, uv, uv, uv, uv, uv, uv, uv, uv, uv, uv] [])) := by
  refine Rch.go (U' := T0.setTop (mkF m 55 #[iv p1, iv p2, iv p3, iv (1 : Int32), iv (0 : Int32), iv (0 : Int32), rv a2, rv a1, uv, uv, uv, uv, uv, uv, uv, uv, uv, uv] [(.int (1 : Int32))])) (fun _ k => XS.iloadN X0.here hx rfl (hb hby at_54) rfl  k) ?_
  have br1928 : ¬ ((1 : Int32) = (0 : Int32)) := (by decide)
  refine Rch.go (U' := T0.setTop (mkF m 58 #[iv p1, iv p2, iv p3, iv (1 : Int32), iv (0 : Int32), iv (0 : Int32), rv a2, rv a1, uv, uv, uv, uv, uv, uv, uv, uv, uv, uv] [])) (fun _ k => XS.ifNo X0.here hx rfl (hb hby at_55) rfl (XT.i0_eq_f br1928) k) ?_
  refine Rch.go (U' := T0.setTop (mkF m 60 #[iv p1, iv p2, iv p3, iv (1 : Int32), iv (0 : Int32), iv (0 : Int32), rv a2, rv a1, uv, uv, uv, uv, uv, uv, uv, uv, uv, uv] [(.ref a1)])) (fun _ k => XS.aload X0.here hx rfl (hb hby at_58) rfl rfl k) ?_
  obtain ⟨cq1929, kq1929, q1929a, q1929b, q1929c⟩ := isOf hZ e0 B.1.1
  obtain ⟨_, _, ⟨T1929, L1929, k1929, n1929⟩, -, X1929, ⟨Lc1929, hQ1929, l1929, y1929, z1929⟩, st1929⟩ := X0.virtualBack hx (y := yt) (z := yt) hown (mvT hZ (wi hw 73 rfl)) (mvT hZ (wi hw 74 rfl)) (notFace_of_selects (args := #[]) (mvT hZ (wi hw 76 rfl))) (mvT hZ (wi hw 76 rfl)) (mvT hZ (wi hw 75 rfl)) (by decide) (backOf (W := 0) (rmT l Z a0 hw [] a1 a2 bco bnx bpv bfb bpd bip bfi ben [0, 0, 0, 0] [1, -1, 0, 0] [-1, 0, 0, 0] [0, 0, 0, 0] [0, 0, 0, 0] [1, 0, 0, 0] (1 : Int32) (1 : Int32) h0 n0 Z0 B (by decide)) hZ (wi hw 77 rfl) (wi hw 29 rfl) (by decide) (by decide)) q1929a q1929c (g := (mkF m 60 #[iv p1, iv p2, iv p3, iv (1 : Int32), iv (0 : Int32), iv (0 : Int32), rv a2, rv a1, uv, uv, uv, uv, uv, uv, uv, uv, uv, uv] [(.ref a1)])) rfl (by rw [hml]; rfl) (Steps.refl _) (argsL := []) (rest := []) (lenOf pd_14 rfl) rfl (by show 2 * 0 + _ ≤ _; exact Nat.le_of_eq rfl) (hb hby at_60) (fun _ _ => ⟨rfl, e0, (by decide : 15 + 0 ≤ _), (by decide : 70 + 0 ≤ _)⟩)
  dsimp only [Pt.U, Pt.locs, Pt.cells, Pt.slots] at X1929 l1929 y1929 z1929 st1929 hQ1929
  subst l1929 y1929 z1929
  obtain ⟨rfl, N1929q, z1929, C1929⟩ := hQ1929
  have N1929 := Fr.app N0 N1929q
  rw [(by rfl : own_take [0, 0, 0, 0] [1, -1, 0, 0] [-1, 0, 0, 0] [0, 0, 0, 0] [0, 0, 0, 0] [1, 0, 0, 0] (1 : Int32) (1 : Int32) = ([0, 1, 0, 0], [-1, -1, 0, 0], [-1, -1, 0, 0], [0, 1, 0, 0], [0, 0, 0, 0], [0, 0, 0, 0], (2 : Int32), (0 : Int32)))] at C1929
  have B1929 : Cb Z T1929.heap n0 a1 a2 bco bnx bpv bfb bpd bip bfi ben [0, 1, 0, 0] [-1, -1, 0, 0] [-1, -1, 0, 0] [0, 1, 0, 0] [0, 0, 0, 0] [0, 0, 0, 0] (2 : Int32) (0 : Int32) := C1929
  refine Rch.to (U' := T1929.setTop (mkF m 63 #[iv p1, iv p2, iv p3, iv (1 : Int32), iv (0 : Int32), iv (0 : Int32), rv a2, rv a1, uv, uv, uv, uv, uv, uv, uv, uv, uv, uv] [(.int (own_sp [1, -1, 0, 0] [0, 0, 0, 0] [0, 0, 0, 0] (1 : Int32)))])) st1929 ?_
  rw [(by decide : own_sp [1, -1, 0, 0] [0, 0, 0, 0] [0, 0, 0, 0] (1 : Int32) = (1 : Int32))]
  refine Rch.go (U' := T1929.setTop (mkF m 65 #[iv p1, iv p2, iv p3, iv (1 : Int32), iv (0 : Int32), iv (0 : Int32), rv a2, rv a1, iv (1 : Int32), uv, uv, uv, uv, uv, uv, uv, uv, uv] [])) (fun _ k => XS.istore X1929.here hx rfl (hb hby at_63) rfl (l' := #[iv p1, iv p2, iv p3, iv (1 : Int32), iv (0 : Int32), iv (0 : Int32), rv a2, rv a1, iv (1 : Int32), uv, uv, uv, uv, uv, uv, uv, uv, uv]) rfl k) ?_
  refine Rch.go (U' := T1929.setTop (mkF m 67 #[iv p1, iv p2, iv p3, iv (1 : Int32), iv (0 : Int32), iv (0 : Int32), rv a2, rv a1, iv (1 : Int32), uv, uv, uv, uv, uv, uv, uv, uv, uv] [(.ref a1)])) (fun _ k => XS.aload X1929.here hx rfl (hb hby at_65) rfl rfl k) ?_
  obtain ⟨cq1930, kq1930, q1930a, q1930b, q1930c⟩ := isOf hZ rfl B1929.1.1
  obtain ⟨_, _, ⟨T1930, L1930, k1930, n1930⟩, -, X1930, ⟨Lc1930, hQ1930, l1930, y1930, z1930⟩, st1930⟩ := X1929.virtualBack hx (y := yhs) (z := yhs) hown (mvT hZ (wi hw 63 rfl)) (mvT hZ (wi hw 64 rfl)) (notFace_of_selects (args := #[]) (mvT hZ (wi hw 66 rfl))) (mvT hZ (wi hw 66 rfl)) (mvT hZ (wi hw 65 rfl)) (by decide) (backOf (W := 0) (rmHs l Z a0 hw [] a1 a2 bco bnx bpv bfb bpd bip bfi ben [0, 1, 0, 0] [-1, -1, 0, 0] [-1, -1, 0, 0] [0, 1, 0, 0] [0, 0, 0, 0] [0, 0, 0, 0] (2 : Int32) (0 : Int32)  T1929.heap n0 z1929 B1929 ) hZ (wi hw 67 rfl) (wi hw 29 rfl) (by decide) (by decide)) q1930a q1930c (g := (mkF m 67 #[iv p1, iv p2, iv p3, iv (1 : Int32), iv (0 : Int32), iv (0 : Int32), rv a2, rv a1, iv (1 : Int32), uv, uv, uv, uv, uv, uv, uv, uv, uv] [(.ref a1)])) rfl (by rw [hml]; rfl) (Steps.refl _) (argsL := []) (rest := []) (lenOf pd_15 rfl) rfl (by show 2 * 0 + _ ≤ _; exact Nat.le_of_eq rfl) (hb hby at_67) (fun _ _ => ⟨rfl, rfl, (by decide : 15 + 0 ≤ _), (by decide : 70 + 0 ≤ _)⟩)
  dsimp only [Pt.U, Pt.locs, Pt.cells, Pt.slots] at X1930 l1930 y1930 z1930 st1930 hQ1930
  subst l1930 y1930 z1930
  obtain ⟨rfl, N1930q, e1930⟩ := hQ1930
  have N1930 := Fr.app N1929 N1930q
  refine Rch.to (U' := T1930.setTop (mkF m 70 #[iv p1, iv p2, iv p3, iv (1 : Int32), iv (0 : Int32), iv (0 : Int32), rv a2, rv a1, iv (1 : Int32), uv, uv, uv, uv, uv, uv, uv, uv, uv] [(.int (own_pos (0 : Int32)))])) st1930 ?_
  rw [(by decide : (own_pos (0 : Int32)) = (0 : Int32))]
  refine Rch.go (U' := T1930.setTop (mkF m 72 #[iv p1, iv p2, iv p3, iv (1 : Int32), iv (0 : Int32), iv (0 : Int32), rv a2, rv a1, iv (1 : Int32), iv (0 : Int32), uv, uv, uv, uv, uv, uv, uv, uv] [])) (fun _ k => XS.istore X1930.here hx rfl (hb hby at_70) rfl (l' := #[iv p1, iv p2, iv p3, iv (1 : Int32), iv (0 : Int32), iv (0 : Int32), rv a2, rv a1, iv (1 : Int32), iv (0 : Int32), uv, uv, uv, uv, uv, uv, uv, uv]) rfl k) ?_
  refine Rch.go (U' := T1930.setTop (mkF m 74 #[iv p1, iv p2, iv p3, iv (1 : Int32), iv (0 : Int32), iv (0 : Int32), rv a2, rv a1, iv (1 : Int32), iv (0 : Int32), uv, uv, uv, uv, uv, uv, uv, uv] [(.ref a1)])) (fun _ k => XS.aload X1930.here hx rfl (hb hby at_72) rfl rfl k) ?_
  refine Rch.go (U' := T1930.setTop (mkF m 76 #[iv p1, iv p2, iv p3, iv (1 : Int32), iv (0 : Int32), iv (0 : Int32), rv a2, rv a1, iv (1 : Int32), iv (0 : Int32), uv, uv, uv, uv, uv, uv, uv, uv] [(.int (0 : Int32)), (.ref a1)])) (fun _ k => XS.iload X1930.here hx rfl (hb hby at_74) rfl  k) ?_
  refine Rch.go (U' := T1930.setTop (mkF m 77 #[iv p1, iv p2, iv p3, iv (1 : Int32), iv (0 : Int32), iv (0 : Int32), rv a2, rv a1, iv (1 : Int32), iv (0 : Int32), uv, uv, uv, uv, uv, uv, uv, uv] [(.int (2 : Int32)), (.int (0 : Int32)), (.ref a1)])) (fun _ k => XS.iconst X1930.here hx rfl (hb hby at_76) k) ?_
  obtain ⟨cq1931, kq1931, q1931a, q1931b, q1931c⟩ := isOf hZ e1930 B1929.1.1
  obtain ⟨_, _, ⟨T1931, L1931, k1931, n1931⟩, -, X1931, ⟨Lc1931, hQ1931, l1931, y1931, z1931⟩, st1931⟩ := X1930.virtualBack hx (y := yj) (z := yj) hown (mvT hZ (wi hw 51 rfl)) (mvT hZ (wi hw 52 rfl)) (notFace_of_selects (args := #[]) (mvT hZ (wi hw 54 rfl))) (mvT hZ (wi hw 54 rfl)) (mvT hZ (wi hw 53 rfl)) (by decide) (backOf (W := 0) (rmJ l Z a0 hw [] a1 a2 bco bnx bpv bfb bpd bip bfi ben [0, 1, 0, 0] [-1, -1, 0, 0] [-1, -1, 0, 0] [0, 1, 0, 0] [0, 0, 0, 0] [0, 0, 0, 0] (2 : Int32) (0 : Int32) (0 : Int32) (2 : Int32) T1929.heap n0 z1929 B1929 (by decide)) hZ (wi hw 55 rfl) (wi hw 29 rfl) (by decide) (by decide)) q1931a q1931c (g := (mkF m 77 #[iv p1, iv p2, iv p3, iv (1 : Int32), iv (0 : Int32), iv (0 : Int32), rv a2, rv a1, iv (1 : Int32), iv (0 : Int32), uv, uv, uv, uv, uv, uv, uv, uv] [(.int (2 : Int32)), (.int (0 : Int32)), (.ref a1)])) rfl (by rw [hml]; rfl) (Steps.refl _) (argsL := [(.int (0 : Int32)), (.int (2 : Int32))]) (rest := []) (lenOf pd_8 rfl) rfl (by show 2 * 0 + _ ≤ _; exact Nat.le_of_eq rfl) (hb hby at_77) (fun _ _ => ⟨rfl, e1930, (by decide : 15 + 0 ≤ _), (by decide : 70 + 0 ≤ _)⟩)
  dsimp only [Pt.U, Pt.locs, Pt.cells, Pt.slots] at X1931 l1931 y1931 z1931 st1931 hQ1931
  subst l1931 y1931 z1931
  obtain ⟨rfl, N1931q, z1931, C1931⟩ := hQ1931
  have N1931 := Fr.app N1930 N1931q
  rw [(by rfl : own_join [0, 1, 0, 0] [-1, -1, 0, 0] [-1, -1, 0, 0] [0, 1, 0, 0] [0, 0, 0, 0] [0, 0, 0, 0] (2 : Int32) (0 : Int32) (0 : Int32) (2 : Int32) = ([0, 1, 0, 0], [2, -1, -1, 0], [-1, -1, 0, 0], [0, 1, 0, 0], [0, 0, 0, 0], [1, 0, 0, 0], (2 : Int32), (1 : Int32)))] at C1931
  have B1931 : Cb Z T1931.heap n0 a1 a2 bco bnx bpv bfb bpd bip bfi ben [0, 1, 0, 0] [2, -1, -1, 0] [-1, -1, 0, 0] [0, 1, 0, 0] [0, 0, 0, 0] [1, 0, 0, 0] (2 : Int32) (1 : Int32) := C1931
  refine Rch.to (U' := T1931.setTop (mkF m 80 #[iv p1, iv p2, iv p3, iv (1 : Int32), iv (0 : Int32), iv (0 : Int32), rv a2, rv a1, iv (1 : Int32), iv (0 : Int32), uv, uv, uv, uv, uv, uv, uv, uv] [])) st1931 ?_
  refine Rch.go (U' := T1931.setTop (mkF m 82 #[iv p1, iv p2, iv p3, iv (1 : Int32), iv (0 : Int32), iv (0 : Int32), rv a2, rv a1, iv (1 : Int32), iv (0 : Int32), uv, uv, uv, uv, uv, uv, uv, uv] [(.ref a1)])) (fun _ k => XS.aload X1931.here hx rfl (hb hby at_80) rfl rfl k) ?_
  refine Rch.go (U' := T1931.setTop (mkF m 84 #[iv p1, iv p2, iv p3, iv (1 : Int32), iv (0 : Int32), iv (0 : Int32), rv a2, rv a1, iv (1 : Int32), iv (0 : Int32), uv, uv, uv, uv, uv, uv, uv, uv] [(.int (0 : Int32)), (.ref a1)])) (fun _ k => XS.iload X1931.here hx rfl (hb hby at_82) rfl  k) ?_
  refine Rch.go (U' := T1931.setTop (mkF m 85 #[iv p1, iv p2, iv p3, iv (1 : Int32), iv (0 : Int32), iv (0 : Int32), rv a2, rv a1, iv (1 : Int32), iv (0 : Int32), uv, uv, uv, uv, uv, uv, uv, uv] [(.int (3 : Int32)), (.int (0 : Int32)), (.ref a1)])) (fun _ k => XS.iconst X1931.here hx rfl (hb hby at_84) k) ?_
  obtain ⟨cq1932, kq1932, q1932a, q1932b, q1932c⟩ := isOf hZ rfl B1931.1.1
  obtain ⟨_, _, ⟨T1932, L1932, k1932, n1932⟩, -, X1932, ⟨Lc1932, hQ1932, l1932, y1932, z1932⟩, st1932⟩ := X1931.virtualBack hx (y := yj) (z := yj) hown (mvT hZ (wi hw 51 rfl)) (mvT hZ (wi hw 52 rfl)) (notFace_of_selects (args := #[]) (mvT hZ (wi hw 54 rfl))) (mvT hZ (wi hw 54 rfl)) (mvT hZ (wi hw 53 rfl)) (by decide) (backOf (W := 0) (rmJ l Z a0 hw [] a1 a2 bco bnx bpv bfb bpd bip bfi ben [0, 1, 0, 0] [2, -1, -1, 0] [-1, -1, 0, 0] [0, 1, 0, 0] [0, 0, 0, 0] [1, 0, 0, 0] (2 : Int32) (1 : Int32) (0 : Int32) (3 : Int32) T1931.heap n0 z1931 B1931 (by decide)) hZ (wi hw 55 rfl) (wi hw 29 rfl) (by decide) (by decide)) q1932a q1932c (g := (mkF m 85 #[iv p1, iv p2, iv p3, iv (1 : Int32), iv (0 : Int32), iv (0 : Int32), rv a2, rv a1, iv (1 : Int32), iv (0 : Int32), uv, uv, uv, uv, uv, uv, uv, uv] [(.int (3 : Int32)), (.int (0 : Int32)), (.ref a1)])) rfl (by rw [hml]; rfl) (Steps.refl _) (argsL := [(.int (0 : Int32)), (.int (3 : Int32))]) (rest := []) (lenOf pd_8 rfl) rfl (by show 2 * 0 + _ ≤ _; exact Nat.le_of_eq rfl) (hb hby at_85) (fun _ _ => ⟨rfl, rfl, (by decide : 15 + 0 ≤ _), (by decide : 70 + 0 ≤ _)⟩)
  dsimp only [Pt.U, Pt.locs, Pt.cells, Pt.slots] at X1932 l1932 y1932 z1932 st1932 hQ1932
  subst l1932 y1932 z1932
  obtain ⟨rfl, N1932q, z1932, C1932⟩ := hQ1932
  have N1932 := Fr.app N1931 N1932q
  rw [(by rfl : own_join [0, 1, 0, 0] [2, -1, -1, 0] [-1, -1, 0, 0] [0, 1, 0, 0] [0, 0, 0, 0] [1, 0, 0, 0] (2 : Int32) (1 : Int32) (0 : Int32) (3 : Int32) = ([0, 1, 0, 0], [3, -1, -1, 2], [-1, -1, 3, 0], [0, 1, 0, 0], [0, 0, 0, 0], [1, 0, 0, 0], (2 : Int32), (1 : Int32)))] at C1932
  have B1932 : Cb Z T1932.heap n0 a1 a2 bco bnx bpv bfb bpd bip bfi ben [0, 1, 0, 0] [3, -1, -1, 2] [-1, -1, 3, 0] [0, 1, 0, 0] [0, 0, 0, 0] [1, 0, 0, 0] (2 : Int32) (1 : Int32) := C1932
  refine Rch.to (U' := T1932.setTop (mkF m 88 #[iv p1, iv p2, iv p3, iv (1 : Int32), iv (0 : Int32), iv (0 : Int32), rv a2, rv a1, iv (1 : Int32), iv (0 : Int32), uv, uv, uv, uv, uv, uv, uv, uv] [])) st1932 ?_
  refine Rch.go (U' := T1932.setTop (mkF m 90 #[iv p1, iv p2, iv p3, iv (1 : Int32), iv (0 : Int32), iv (0 : Int32), rv a2, rv a1, iv (1 : Int32), iv (0 : Int32), uv, uv, uv, uv, uv, uv, uv, uv] [(.int (0 : Int32))])) (fun _ k => XS.iload X1932.here hx rfl (hb hby at_88) rfl  k) ?_
  refine Rch.go (U' := T1932.setTop (mkF m 91 #[iv p1, iv p2, iv p3, iv (1 : Int32), iv (0 : Int32), iv (0 : Int32), rv a2, rv a1, iv (1 : Int32), iv (0 : Int32), uv, uv, uv, uv, uv, uv, uv, uv] [(.int (2 : Int32)), (.int (0 : Int32))])) (fun _ k => XS.iconst X1932.here hx rfl (hb hby at_90) k) ?_
  have br1933 : ¬ ((0 : Int32) = (2 : Int32)) := (by decide)
  refine Rch.go (U' := T1932.setTop (mkF m 99 #[iv p1, iv p2, iv p3, iv (1 : Int32), iv (0 : Int32), iv (0 : Int32), rv a2, rv a1, iv (1 : Int32), iv (0 : Int32), uv, uv, uv, uv, uv, uv, uv, uv] [])) (fun _ k => XS.icmpYes X1932.here hx rfl (pc0 := 91) (pc' := 99) rfl (hb hby at_91) rfl (XT.ii_ne_t br1933) (by decide) (by decide) k) ?_
  refine Rch.go (U' := T1932.setTop (mkF m 101 #[iv p1, iv p2, iv p3, iv (1 : Int32), iv (0 : Int32), iv (0 : Int32), rv a2, rv a1, iv (1 : Int32), iv (0 : Int32), uv, uv, uv, uv, uv, uv, uv, uv] [(.int (0 : Int32))])) (fun _ k => XS.iload X1932.here hx rfl (hb hby at_99) rfl  k) ?_
  refine Rch.go (U' := T1932.setTop (mkF m 103 #[iv p1, iv p2, iv p3, iv (1 : Int32), iv (0 : Int32), iv (0 : Int32), rv a2, rv a1, iv (1 : Int32), iv (0 : Int32), iv (0 : Int32), uv, uv, uv, uv, uv, uv, uv] [])) (fun _ k => XS.istore X1932.here hx rfl (hb hby at_101) rfl (l' := #[iv p1, iv p2, iv p3, iv (1 : Int32), iv (0 : Int32), iv (0 : Int32), rv a2, rv a1, iv (1 : Int32), iv (0 : Int32), iv (0 : Int32), uv, uv, uv, uv, uv, uv, uv]) rfl k) ?_
  refine Rch.go (U' := T1932.setTop (mkF m 105 #[iv p1, iv p2, iv p3, iv (1 : Int32), iv (0 : Int32), iv (0 : Int32), rv a2, rv a1, iv (1 : Int32), iv (0 : Int32), iv (0 : Int32), uv, uv, uv, uv, uv, uv, uv] [(.int (1 : Int32))])) (fun _ k => XS.iload X1932.here hx rfl (hb hby at_103) rfl  k) ?_
  refine Rch.go (U' := T1932.setTop (mkF m 106 #[iv p1, iv p2, iv p3, iv (1 : Int32), iv (0 : Int32), iv (0 : Int32), rv a2, rv a1, iv (1 : Int32), iv (0 : Int32), iv (0 : Int32), uv, uv, uv, uv, uv, uv, uv] [(.int (1 : Int32)), (.int (1 : Int32))])) (fun _ k => XS.iconst X1932.here hx rfl (hb hby at_105) k) ?_
  have br1934 : (1 : Int32) = (1 : Int32) := (by decide)
  refine Rch.go (U' := T1932.setTop (mkF m 109 #[iv p1, iv p2, iv p3, iv (1 : Int32), iv (0 : Int32), iv (0 : Int32), rv a2, rv a1, iv (1 : Int32), iv (0 : Int32), iv (0 : Int32), uv, uv, uv, uv, uv, uv, uv] [])) (fun _ k => XS.icmpNo X1932.here hx rfl (hb hby at_106) rfl (XT.ii_ne_f br1934) k) ?_
  refine Rch.go (U' := T1932.setTop (mkF m 111 #[iv p1, iv p2, iv p3, iv (1 : Int32), iv (0 : Int32), iv (0 : Int32), rv a2, rv a1, iv (1 : Int32), iv (0 : Int32), iv (0 : Int32), uv, uv, uv, uv, uv, uv, uv] [(.int (0 : Int32))])) (fun _ k => XS.iload X1932.here hx rfl (hb hby at_109) rfl  k) ?_
  have br1935 : (0 : Int32) = (0 : Int32) := (by decide)
  refine Rch.go (U' := T1932.setTop (mkF m 114 #[iv p1, iv p2, iv p3, iv (1 : Int32), iv (0 : Int32), iv (0 : Int32), rv a2, rv a1, iv (1 : Int32), iv (0 : Int32), iv (0 : Int32), uv, uv, uv, uv, uv, uv, uv] [])) (fun _ k => XS.ifNo X1932.here hx rfl (hb hby at_111) rfl (XT.i0_ne_f br1935) k) ?_
  refine Rch.go (U' := T1932.setTop (mkF m 116 #[iv p1, iv p2, iv p3, iv (1 : Int32), iv (0 : Int32), iv (0 : Int32), rv a2, rv a1, iv (1 : Int32), iv (0 : Int32), iv (0 : Int32), uv, uv, uv, uv, uv, uv, uv] [(.ref a1)])) (fun _ k => XS.aload X1932.here hx rfl (hb hby at_114) rfl rfl k) ?_
  refine Rch.go (U' := T1932.setTop (mkF m 117 #[iv p1, iv p2, iv p3, iv (1 : Int32), iv (0 : Int32), iv (0 : Int32), rv a2, rv a1, iv (1 : Int32), iv (0 : Int32), iv (0 : Int32), uv, uv, uv, uv, uv, uv, uv] [(.int (2 : Int32)), (.ref a1)])) (fun _ k => XS.iconst X1932.here hx rfl (hb hby at_116) k) ?_
  obtain ⟨cq1936, kq1936, q1936a, q1936b, q1936c⟩ := isOf hZ rfl B1932.1.1
  obtain ⟨_, _, ⟨T1936, L1936, k1936, n1936⟩, -, X1936, ⟨Lc1936, hQ1936, l1936, y1936, z1936⟩, st1936⟩ := X1932.virtualBack hx (y := yc) (z := yc) hown (mvT hZ (wi hw 58 rfl)) (mvT hZ (wi hw 59 rfl)) (notFace_of_selects (args := #[]) (mvT hZ (wi hw 61 rfl))) (mvT hZ (wi hw 61 rfl)) (mvT hZ (wi hw 60 rfl)) (by decide) (backOf (W := 0) (rmCo l Z a0 hw [] a1 a2 bco bnx bpv bfb bpd bip bfi ben [0, 1, 0, 0] [3, -1, -1, 2] [-1, -1, 3, 0] [0, 1, 0, 0] [0, 0, 0, 0] [1, 0, 0, 0] (2 : Int32) (1 : Int32) (2 : Int32) T1932.heap n0 z1932 B1932 (by decide)) hZ (wi hw 62 rfl) (wi hw 29 rfl) (by decide) (by decide)) q1936a q1936c (g := (mkF m 117 #[iv p1, iv p2, iv p3, iv (1 : Int32), iv (0 : Int32), iv (0 : Int32), rv a2, rv a1, iv (1 : Int32), iv (0 : Int32), iv (0 : Int32), uv, uv, uv, uv, uv, uv, uv] [(.int (2 : Int32)), (.ref a1)])) rfl (by rw [hml]; rfl) (Steps.refl _) (argsL := [(.int (2 : Int32))]) (rest := []) (lenOf pd_7 rfl) rfl (by show 2 * 0 + _ ≤ _; exact Nat.le_of_eq rfl) (hb hby at_117) (fun _ _ => ⟨rfl, rfl, (by decide : 15 + 0 ≤ _), (by decide : 70 + 0 ≤ _)⟩)
  dsimp only [Pt.U, Pt.locs, Pt.cells, Pt.slots] at X1936 l1936 y1936 z1936 st1936 hQ1936
  subst l1936 y1936 z1936
  obtain ⟨rfl, N1936q, e1936⟩ := hQ1936
  have N1936 := Fr.app N1932 N1936q
  refine Rch.to (U' := T1936.setTop (mkF m 120 #[iv p1, iv p2, iv p3, iv (1 : Int32), iv (0 : Int32), iv (0 : Int32), rv a2, rv a1, iv (1 : Int32), iv (0 : Int32), iv (0 : Int32), uv, uv, uv, uv, uv, uv, uv] [(.int (own_at [0, 1, 0, 0] (2 : Int32)))])) st1936 ?_
  rw [(by decide : (own_at [0, 1, 0, 0] (2 : Int32)) = (0 : Int32))]
  refine Rch.go (U' := T1936.setTop (mkF m 122 #[iv p1, iv p2, iv p3, iv (1 : Int32), iv (0 : Int32), iv (0 : Int32), rv a2, rv a1, iv (1 : Int32), iv (0 : Int32), iv (0 : Int32), uv, uv, uv, uv, uv, uv, uv] [(.int (0 : Int32)), (.int (0 : Int32))])) (fun _ k => XS.iload X1936.here hx rfl (hb hby at_120) rfl  k) ?_
  have br1937 : (0 : Int32) = (0 : Int32) := (by decide)
  refine Rch.go (U' := T1936.setTop (mkF m 125 #[iv p1, iv p2, iv p3, iv (1 : Int32), iv (0 : Int32), iv (0 : Int32), rv a2, rv a1, iv (1 : Int32), iv (0 : Int32), iv (0 : Int32), uv, uv, uv, uv, uv, uv, uv] [])) (fun _ k => XS.icmpNo X1936.here hx rfl (hb hby at_122) rfl (XT.ii_ne_f br1937) k) ?_
  refine Rch.go (U' := T1936.setTop (mkF m 127 #[iv p1, iv p2, iv p3, iv (1 : Int32), iv (0 : Int32), iv (0 : Int32), rv a2, rv a1, iv (1 : Int32), iv (0 : Int32), iv (0 : Int32), uv, uv, uv, uv, uv, uv, uv] [(.ref a1)])) (fun _ k => XS.aload X1936.here hx rfl (hb hby at_125) rfl rfl k) ?_
  refine Rch.go (U' := T1936.setTop (mkF m 128 #[iv p1, iv p2, iv p3, iv (1 : Int32), iv (0 : Int32), iv (0 : Int32), rv a2, rv a1, iv (1 : Int32), iv (0 : Int32), iv (0 : Int32), uv, uv, uv, uv, uv, uv, uv] [(.int (3 : Int32)), (.ref a1)])) (fun _ k => XS.iconst X1936.here hx rfl (hb hby at_127) k) ?_
  obtain ⟨cq1938, kq1938, q1938a, q1938b, q1938c⟩ := isOf hZ e1936 B1932.1.1
  obtain ⟨_, _, ⟨T1938, L1938, k1938, n1938⟩, -, X1938, ⟨Lc1938, hQ1938, l1938, y1938, z1938⟩, st1938⟩ := X1936.virtualBack hx (y := yc) (z := yc) hown (mvT hZ (wi hw 58 rfl)) (mvT hZ (wi hw 59 rfl)) (notFace_of_selects (args := #[]) (mvT hZ (wi hw 61 rfl))) (mvT hZ (wi hw 61 rfl)) (mvT hZ (wi hw 60 rfl)) (by decide) (backOf (W := 0) (rmCo l Z a0 hw [] a1 a2 bco bnx bpv bfb bpd bip bfi ben [0, 1, 0, 0] [3, -1, -1, 2] [-1, -1, 3, 0] [0, 1, 0, 0] [0, 0, 0, 0] [1, 0, 0, 0] (2 : Int32) (1 : Int32) (3 : Int32) T1932.heap n0 z1932 B1932 (by decide)) hZ (wi hw 62 rfl) (wi hw 29 rfl) (by decide) (by decide)) q1938a q1938c (g := (mkF m 128 #[iv p1, iv p2, iv p3, iv (1 : Int32), iv (0 : Int32), iv (0 : Int32), rv a2, rv a1, iv (1 : Int32), iv (0 : Int32), iv (0 : Int32), uv, uv, uv, uv, uv, uv, uv] [(.int (3 : Int32)), (.ref a1)])) rfl (by rw [hml]; rfl) (Steps.refl _) (argsL := [(.int (3 : Int32))]) (rest := []) (lenOf pd_7 rfl) rfl (by show 2 * 0 + _ ≤ _; exact Nat.le_of_eq rfl) (hb hby at_128) (fun _ _ => ⟨rfl, e1936, (by decide : 15 + 0 ≤ _), (by decide : 70 + 0 ≤ _)⟩)
  dsimp only [Pt.U, Pt.locs, Pt.cells, Pt.slots] at X1938 l1938 y1938 z1938 st1938 hQ1938
  subst l1938 y1938 z1938
  obtain ⟨rfl, N1938q, e1938⟩ := hQ1938
  have N1938 := Fr.app N1936 N1938q
  refine Rch.to (U' := T1938.setTop (mkF m 131 #[iv p1, iv p2, iv p3, iv (1 : Int32), iv (0 : Int32), iv (0 : Int32), rv a2, rv a1, iv (1 : Int32), iv (0 : Int32), iv (0 : Int32), uv, uv, uv, uv, uv, uv, uv] [(.int (own_at [0, 1, 0, 0] (3 : Int32)))])) st1938 ?_
  rw [(by decide : (own_at [0, 1, 0, 0] (3 : Int32)) = (0 : Int32))]
  refine Rch.go (U' := T1938.setTop (mkF m 133 #[iv p1, iv p2, iv p3, iv (1 : Int32), iv (0 : Int32), iv (0 : Int32), rv a2, rv a1, iv (1 : Int32), iv (0 : Int32), iv (0 : Int32), uv, uv, uv, uv, uv, uv, uv] [(.int (0 : Int32)), (.int (0 : Int32))])) (fun _ k => XS.iload X1938.here hx rfl (hb hby at_131) rfl  k) ?_
  have br1939 : (0 : Int32) = (0 : Int32) := (by decide)
  refine Rch.go (U' := T1938.setTop (mkF m 136 #[iv p1, iv p2, iv p3, iv (1 : Int32), iv (0 : Int32), iv (0 : Int32), rv a2, rv a1, iv (1 : Int32), iv (0 : Int32), iv (0 : Int32), uv, uv, uv, uv, uv, uv, uv] [])) (fun _ k => XS.icmpNo X1938.here hx rfl (hb hby at_133) rfl (XT.ii_ne_f br1939) k) ?_
  refine Rch.go (U' := T1938.setTop (mkF m 138 #[iv p1, iv p2, iv p3, iv (1 : Int32), iv (0 : Int32), iv (0 : Int32), rv a2, rv a1, iv (1 : Int32), iv (0 : Int32), iv (0 : Int32), uv, uv, uv, uv, uv, uv, uv] [(.ref a1)])) (fun _ k => XS.aload X1938.here hx rfl (hb hby at_136) rfl rfl k) ?_
  obtain ⟨cq1940, kq1940, q1940a, q1940b, q1940c⟩ := isOf hZ e1938 B1932.1.1
  obtain ⟨_, _, ⟨T1940, L1940, k1940, n1940⟩, -, X1940, ⟨Lc1940, hQ1940, l1940, y1940, z1940⟩, st1940⟩ := X1938.virtualBack hx (y := yhs) (z := yhs) hown (mvT hZ (wi hw 63 rfl)) (mvT hZ (wi hw 64 rfl)) (notFace_of_selects (args := #[]) (mvT hZ (wi hw 66 rfl))) (mvT hZ (wi hw 66 rfl)) (mvT hZ (wi hw 65 rfl)) (by decide) (backOf (W := 0) (rmHs l Z a0 hw [] a1 a2 bco bnx bpv bfb bpd bip bfi ben [0, 1, 0, 0] [3, -1, -1, 2] [-1, -1, 3, 0] [0, 1, 0, 0] [0, 0, 0, 0] [1, 0, 0, 0] (2 : Int32) (1 : Int32)  T1932.heap n0 z1932 B1932 ) hZ (wi hw 67 rfl) (wi hw 29 rfl) (by decide) (by decide)) q1940a q1940c (g := (mkF m 138 #[iv p1, iv p2, iv p3, iv (1 : Int32), iv (0 : Int32), iv (0 : Int32), rv a2, rv a1, iv (1 : Int32), iv (0 : Int32), iv (0 : Int32), uv, uv, uv, uv, uv, uv, uv] [(.ref a1)])) rfl (by rw [hml]; rfl) (Steps.refl _) (argsL := []) (rest := []) (lenOf pd_15 rfl) rfl (by show 2 * 0 + _ ≤ _; exact Nat.le_of_eq rfl) (hb hby at_138) (fun _ _ => ⟨rfl, e1938, (by decide : 15 + 0 ≤ _), (by decide : 70 + 0 ≤ _)⟩)
  dsimp only [Pt.U, Pt.locs, Pt.cells, Pt.slots] at X1940 l1940 y1940 z1940 st1940 hQ1940
  subst l1940 y1940 z1940
  obtain ⟨rfl, N1940q, e1940⟩ := hQ1940
  have N1940 := Fr.app N1938 N1940q
  refine Rch.to (U' := T1940.setTop (mkF m 141 #[iv p1, iv p2, iv p3, iv (1 : Int32), iv (0 : Int32), iv (0 : Int32), rv a2, rv a1, iv (1 : Int32), iv (0 : Int32), iv (0 : Int32), uv, uv, uv, uv, uv, uv, uv] [(.int (own_pos (1 : Int32)))])) st1940 ?_
  rw [(by decide : (own_pos (1 : Int32)) = (1 : Int32))]
  have br1941 : ¬ ((1 : Int32) = (0 : Int32)) := (by decide)
  refine Rch.go (U' := T1940.setTop (mkF m 144 #[iv p1, iv p2, iv p3, iv (1 : Int32), iv (0 : Int32), iv (0 : Int32), rv a2, rv a1, iv (1 : Int32), iv (0 : Int32), iv (0 : Int32), uv, uv, uv, uv, uv, uv, uv] [])) (fun _ k => XS.ifNo X1940.here hx rfl (hb hby at_141) rfl (XT.i0_eq_f br1941) k) ?_
  refine Rch.go (U' := T1940.setTop (mkF m 146 #[iv p1, iv p2, iv p3, iv (1 : Int32), iv (0 : Int32), iv (0 : Int32), rv a2, rv a1, iv (1 : Int32), iv (0 : Int32), iv (0 : Int32), uv, uv, uv, uv, uv, uv, uv] [(.ref a1)])) (fun _ k => XS.aload X1940.here hx rfl (hb hby at_144) rfl rfl k) ?_
  obtain ⟨cq1942, kq1942, q1942a, q1942b, q1942c⟩ := isOf hZ e1940 B1932.1.1
  obtain ⟨_, _, ⟨T1942, L1942, k1942, n1942⟩, -, X1942, ⟨Lc1942, hQ1942, l1942, y1942, z1942⟩, st1942⟩ := X1940.virtualBack hx (y := yns) (z := yns) hown (mvT hZ (wi hw 68 rfl)) (mvT hZ (wi hw 69 rfl)) (notFace_of_selects (args := #[]) (mvT hZ (wi hw 71 rfl))) (mvT hZ (wi hw 71 rfl)) (mvT hZ (wi hw 70 rfl)) (by decide) (backOf (W := 0) (rmNs l Z a0 hw [] a1 a2 bco bnx bpv bfb bpd bip bfi ben [0, 1, 0, 0] [3, -1, -1, 2] [-1, -1, 3, 0] [0, 1, 0, 0] [0, 0, 0, 0] [1, 0, 0, 0] (2 : Int32) (1 : Int32)  T1932.heap n0 z1932 B1932 (by decide)) hZ (wi hw 72 rfl) (wi hw 29 rfl) (by decide) (by decide)) q1942a q1942c (g := (mkF m 146 #[iv p1, iv p2, iv p3, iv (1 : Int32), iv (0 : Int32), iv (0 : Int32), rv a2, rv a1, iv (1 : Int32), iv (0 : Int32), iv (0 : Int32), uv, uv, uv, uv, uv, uv, uv] [(.ref a1)])) rfl (by rw [hml]; rfl) (Steps.refl _) (argsL := []) (rest := []) (lenOf pd_14 rfl) rfl (by show 2 * 0 + _ ≤ _; exact Nat.le_of_eq rfl) (hb hby at_146) (fun _ _ => ⟨rfl, e1940, (by decide : 15 + 0 ≤ _), (by decide : 70 + 0 ≤ _)⟩)
  dsimp only [Pt.U, Pt.locs, Pt.cells, Pt.slots] at X1942 l1942 y1942 z1942 st1942 hQ1942
  subst l1942 y1942 z1942
  obtain ⟨rfl, N1942q, e1942⟩ := hQ1942
  have N1942 := Fr.app N1940 N1942q
  refine Rch.to (U' := T1942.setTop (mkF m 149 #[iv p1, iv p2, iv p3, iv (1 : Int32), iv (0 : Int32), iv (0 : Int32), rv a2, rv a1, iv (1 : Int32), iv (0 : Int32), iv (0 : Int32), uv, uv, uv, uv, uv, uv, uv] [(.int (own_at [0, 0, 0, 0] ((1 : Int32) - (1 : Int32))))])) st1942 ?_
  rw [(by decide : (own_at [0, 0, 0, 0] ((1 : Int32) - (1 : Int32))) = (0 : Int32))]
  refine Rch.go (U' := T1942.setTop (mkF m 151 #[iv p1, iv p2, iv p3, iv (1 : Int32), iv (0 : Int32), iv (0 : Int32), rv a2, rv a1, iv (1 : Int32), iv (0 : Int32), iv (0 : Int32), uv, uv, uv, uv, uv, uv, uv] [(.int (0 : Int32)), (.int (0 : Int32))])) (fun _ k => XS.iload X1942.here hx rfl (hb hby at_149) rfl  k) ?_
  have br1943 : (0 : Int32) = (0 : Int32) := (by decide)
  refine Rch.go (U' := T1942.setTop (mkF m 154 #[iv p1, iv p2, iv p3, iv (1 : Int32), iv (0 : Int32), iv (0 : Int32), rv a2, rv a1, iv (1 : Int32), iv (0 : Int32), iv (0 : Int32), uv, uv, uv, uv, uv, uv, uv] [])) (fun _ k => XS.icmpNo X1942.here hx rfl (hb hby at_151) rfl (XT.ii_ne_f br1943) k) ?_
  refine Rch.go (U' := T1942.setTop (mkF m 155 #[iv p1, iv p2, iv p3, iv (1 : Int32), iv (0 : Int32), iv (0 : Int32), rv a2, rv a1, iv (1 : Int32), iv (0 : Int32), iv (0 : Int32), uv, uv, uv, uv, uv, uv, uv] [(.int (1 : Int32))])) (fun _ k => XS.iconst X1942.here hx rfl (hb hby at_154) k) ?_
  refine Rch.go (U' := T1942.setTop (mkF m 159 #[iv p1, iv p2, iv p3, iv (1 : Int32), iv (0 : Int32), iv (0 : Int32), rv a2, rv a1, iv (1 : Int32), iv (0 : Int32), iv (0 : Int32), uv, uv, uv, uv, uv, uv, uv] [(.int (1 : Int32))])) (fun _ k => XS.goto X1942.here hx rfl (pc0 := 155) (pc' := 159) rfl (hb hby at_155) (by decide) (by decide) k) ?_
  refine Rch.go (U' := T1942.setTop (mkF m 161 #[iv p1, iv p2, iv p3, iv (1 : Int32), iv (0 : Int32), iv (0 : Int32), rv a2, rv a1, iv (1 : Int32), iv (0 : Int32), iv (0 : Int32), iv (1 : Int32), uv, uv, uv, uv, uv, uv] [])) (fun _ k => XS.istore X1942.here hx rfl (hb hby at_159) rfl (l' := #[iv p1, iv p2, iv p3, iv (1 : Int32), iv (0 : Int32), iv (0 : Int32), rv a2, rv a1, iv (1 : Int32), iv (0 : Int32), iv (0 : Int32), iv (1 : Int32), uv, uv, uv, uv, uv, uv]) rfl k) ?_
  refine Rch.go (U' := T1942.setTop (mkF m 163 #[iv p1, iv p2, iv p3, iv (1 : Int32), iv (0 : Int32), iv (0 : Int32), rv a2, rv a1, iv (1 : Int32), iv (0 : Int32), iv (0 : Int32), iv (1 : Int32), uv, uv, uv, uv, uv, uv] [(.int (1 : Int32))])) (fun _ k => XS.iload X1942.here hx rfl (hb hby at_161) rfl  k) ?_
  have br1944 : ¬ ((1 : Int32) = (0 : Int32)) := (by decide)
  refine Rch.go (U' := T1942.setTop (mkF m 168 #[iv p1, iv p2, iv p3, iv (1 : Int32), iv (0 : Int32), iv (0 : Int32), rv a2, rv a1, iv (1 : Int32), iv (0 : Int32), iv (0 : Int32), iv (1 : Int32), uv, uv, uv, uv, uv, uv] [])) (fun _ k => XS.ifYes X1942.here hx rfl (pc0 := 163) (pc' := 168) rfl (hb hby at_163) rfl (XT.i0_ne_t br1944) (by decide) (by decide) k) ?_
  refine Rch.go (U' := T1942.setTop (mkF m 170 #[iv p1, iv p2, iv p3, iv (1 : Int32), iv (0 : Int32), iv (0 : Int32), rv a2, rv a1, iv (1 : Int32), iv (0 : Int32), iv (0 : Int32), iv (1 : Int32), uv, uv, uv, uv, uv, uv] [(.int (0 : Int32))])) (fun _ k => XS.iload X1942.here hx rfl (hb hby at_168) rfl  k) ?_
  refine Rch.go (U' := T1942.setTop (mkF m 172 #[iv p1, iv p2, iv p3, iv (1 : Int32), iv (0 : Int32), iv (0 : Int32), rv a2, rv a1, iv (1 : Int32), iv (0 : Int32), iv (0 : Int32), iv (1 : Int32), uv, uv, uv, uv, uv, uv] [(.int (0 : Int32)), (.int (0 : Int32))])) (fun _ k => XS.iload X1942.here hx rfl (hb hby at_170) rfl  k) ?_
  have br1945 : (0 : Int32) = (0 : Int32) := (by decide)
  refine Rch.go (U' := T1942.setTop (mkF m 175 #[iv p1, iv p2, iv p3, iv (1 : Int32), iv (0 : Int32), iv (0 : Int32), rv a2, rv a1, iv (1 : Int32), iv (0 : Int32), iv (0 : Int32), iv (1 : Int32), uv, uv, uv, uv, uv, uv] [])) (fun _ k => XS.icmpNo X1942.here hx rfl (hb hby at_172) rfl (XT.ii_ne_f br1945) k) ?_
  refine Rch.go (U' := T1942.setTop (mkF m 177 #[iv p1, iv p2, iv p3, iv (1 : Int32), iv (0 : Int32), iv (0 : Int32), rv a2, rv a1, iv (1 : Int32), iv (0 : Int32), iv (0 : Int32), iv (1 : Int32), uv, uv, uv, uv, uv, uv] [(.int (0 : Int32))])) (fun _ k => XS.iload X1942.here hx rfl (hb hby at_175) rfl  k) ?_
  refine Rch.go (U' := T1942.setTop (mkF m 179 #[iv p1, iv p2, iv p3, iv (1 : Int32), iv (0 : Int32), iv (0 : Int32), rv a2, rv a1, iv (1 : Int32), iv (0 : Int32), iv (0 : Int32), iv (1 : Int32), iv (0 : Int32), uv, uv, uv, uv, uv] [])) (fun _ k => XS.istore X1942.here hx rfl (hb hby at_177) rfl (l' := #[iv p1, iv p2, iv p3, iv (1 : Int32), iv (0 : Int32), iv (0 : Int32), rv a2, rv a1, iv (1 : Int32), iv (0 : Int32), iv (0 : Int32), iv (1 : Int32), iv (0 : Int32), uv, uv, uv, uv, uv]) rfl k) ?_
  refine Rch.go (U' := T1942.setTop (mkF m 181 #[iv p1, iv p2, iv p3, iv (1 : Int32), iv (0 : Int32), iv (0 : Int32), rv a2, rv a1, iv (1 : Int32), iv (0 : Int32), iv (0 : Int32), iv (1 : Int32), iv (0 : Int32), uv, uv, uv, uv, uv] [(.int (0 : Int32))])) (fun _ k => XS.iload X1942.here hx rfl (hb hby at_179) rfl  k) ?_
  refine Rch.go (U' := T1942.setTop (mkF m 183 #[iv p1, iv p2, iv p3, iv (1 : Int32), iv (0 : Int32), iv (0 : Int32), rv a2, rv a1, iv (1 : Int32), iv (0 : Int32), iv (0 : Int32), iv (1 : Int32), iv (0 : Int32), uv, uv, uv, uv, uv] [(.int (0 : Int32)), (.int (0 : Int32))])) (fun _ k => XS.iload X1942.here hx rfl (hb hby at_181) rfl  k) ?_
  have br1946 : (0 : Int32) = (0 : Int32) := (by decide)
  refine Rch.go (U' := T1942.setTop (mkF m 186 #[iv p1, iv p2, iv p3, iv (1 : Int32), iv (0 : Int32), iv (0 : Int32), rv a2, rv a1, iv (1 : Int32), iv (0 : Int32), iv (0 : Int32), iv (1 : Int32), iv (0 : Int32), uv, uv, uv, uv, uv] [])) (fun _ k => XS.icmpNo X1942.here hx rfl (hb hby at_183) rfl (XT.ii_ne_f br1946) k) ?_
  refine Rch.go (U' := T1942.setTop (mkF m 187 #[iv p1, iv p2, iv p3, iv (1 : Int32), iv (0 : Int32), iv (0 : Int32), rv a2, rv a1, iv (1 : Int32), iv (0 : Int32), iv (0 : Int32), iv (1 : Int32), iv (0 : Int32), uv, uv, uv, uv, uv] [(.int (3 : Int32))])) (fun _ k => XS.iconst X1942.here hx rfl (hb hby at_186) k) ?_
  refine Rch.go (U' := T1942.setTop (mkF m 191 #[iv p1, iv p2, iv p3, iv (1 : Int32), iv (0 : Int32), iv (0 : Int32), rv a2, rv a1, iv (1 : Int32), iv (0 : Int32), iv (0 : Int32), iv (1 : Int32), iv (0 : Int32), uv, uv, uv, uv, uv] [(.int (3 : Int32))])) (fun _ k => XS.goto X1942.here hx rfl (pc0 := 187) (pc' := 191) rfl (hb hby at_187) (by decide) (by decide) k) ?_
  refine Rch.go (U' := T1942.setTop (mkF m 193 #[iv p1, iv p2, iv p3, iv (1 : Int32), iv (0 : Int32), iv (0 : Int32), rv a2, rv a1, iv (1 : Int32), iv (0 : Int32), iv (0 : Int32), iv (1 : Int32), iv (0 : Int32), iv (3 : Int32), uv, uv, uv, uv] [])) (fun _ k => XS.istore X1942.here hx rfl (hb hby at_191) rfl (l' := #[iv p1, iv p2, iv p3, iv (1 : Int32), iv (0 : Int32), iv (0 : Int32), rv a2, rv a1, iv (1 : Int32), iv (0 : Int32), iv (0 : Int32), iv (1 : Int32), iv (0 : Int32), iv (3 : Int32), uv, uv, uv, uv]) rfl k) ?_
  refine Rch.go (U' := T1942.setTop (mkF m 203 #[iv p1, iv p2, iv p3, iv (1 : Int32), iv (0 : Int32), iv (0 : Int32), rv a2, rv a1, iv (1 : Int32), iv (0 : Int32), iv (0 : Int32), iv (1 : Int32), iv (0 : Int32), iv (3 : Int32), uv, uv, uv, uv] [])) (fun _ k => XS.goto X1942.here hx rfl (pc0 := 193) (pc' := 203) rfl (hb hby at_193) (by decide) (by decide) k) ?_
  refine Rch.go (U' := T1942.setTop (mkF m 205 #[iv p1, iv p2, iv p3, iv (1 : Int32), iv (0 : Int32), iv (0 : Int32), rv a2, rv a1, iv (1 : Int32), iv (0 : Int32), iv (0 : Int32), iv (1 : Int32), iv (0 : Int32), iv (3 : Int32), uv, uv, uv, uv] [(.int (0 : Int32))])) (fun _ k => XS.iload X1942.here hx rfl (hb hby at_203) rfl  k) ?_
  have br1947 : (0 : Int32) = (0 : Int32) := (by decide)
  refine Rch.go (U' := T1942.setTop (mkF m 208 #[iv p1, iv p2, iv p3, iv (1 : Int32), iv (0 : Int32), iv (0 : Int32), rv a2, rv a1, iv (1 : Int32), iv (0 : Int32), iv (0 : Int32), iv (1 : Int32), iv (0 : Int32), iv (3 : Int32), uv, uv, uv, uv] [])) (fun _ k => XS.ifNo X1942.here hx rfl (hb hby at_205) rfl (XT.i0_ne_f br1947) k) ?_
  refine Rch.go (U' := T1942.setTop (mkF m 210 #[iv p1, iv p2, iv p3, iv (1 : Int32), iv (0 : Int32), iv (0 : Int32), rv a2, rv a1, iv (1 : Int32), iv (0 : Int32), iv (0 : Int32), iv (1 : Int32), iv (0 : Int32), iv (3 : Int32), uv, uv, uv, uv] [(.int (3 : Int32))])) (fun _ k => XS.iload X1942.here hx rfl (hb hby at_208) rfl  k) ?_
  refine Rch.go (U' := T1942.setTop (mkF m 215 #[iv p1, iv p2, iv p3, iv (1 : Int32), iv (0 : Int32), iv (0 : Int32), rv a2, rv a1, iv (1 : Int32), iv (0 : Int32), iv (0 : Int32), iv (1 : Int32), iv (0 : Int32), iv (3 : Int32), uv, uv, uv, uv] [(.int (3 : Int32))])) (fun _ k => XS.goto X1942.here hx rfl (pc0 := 210) (pc' := 215) rfl (hb hby at_210) (by decide) (by decide) k) ?_
  refine Rch.go (U' := T1942.setTop (mkF m 217 #[iv p1, iv p2, iv p3, iv (1 : Int32), iv (0 : Int32), iv (0 : Int32), rv a2, rv a1, iv (1 : Int32), iv (0 : Int32), iv (0 : Int32), iv (1 : Int32), iv (0 : Int32), iv (3 : Int32), iv (3 : Int32), uv, uv, uv] [])) (fun _ k => XS.istore X1942.here hx rfl (hb hby at_215) rfl (l' := #[iv p1, iv p2, iv p3, iv (1 : Int32), iv (0 : Int32), iv (0 : Int32), rv a2, rv a1, iv (1 : Int32), iv (0 : Int32), iv (0 : Int32), iv (1 : Int32), iv (0 : Int32), iv (3 : Int32), iv (3 : Int32), uv, uv, uv]) rfl k) ?_
  refine Rch.go (U' := T1942.setTop (mkF m 219 #[iv p1, iv p2, iv p3, iv (1 : Int32), iv (0 : Int32), iv (0 : Int32), rv a2, rv a1, iv (1 : Int32), iv (0 : Int32), iv (0 : Int32), iv (1 : Int32), iv (0 : Int32), iv (3 : Int32), iv (3 : Int32), uv, uv, uv] [(.ref a1)])) (fun _ k => XS.aload X1942.here hx rfl (hb hby at_217) rfl rfl k) ?_
  obtain ⟨cq1948, kq1948, q1948a, q1948b, q1948c⟩ := isOf hZ e1942 B1932.1.1
  obtain ⟨_, _, ⟨T1948, L1948, k1948, n1948⟩, -, X1948, ⟨Lc1948, hQ1948, l1948, y1948, z1948⟩, st1948⟩ := X1942.virtualBack hx (y := yt) (z := yt) hown (mvT hZ (wi hw 73 rfl)) (mvT hZ (wi hw 74 rfl)) (notFace_of_selects (args := #[]) (mvT hZ (wi hw 76 rfl))) (mvT hZ (wi hw 76 rfl)) (mvT hZ (wi hw 75 rfl)) (by decide) (backOf (W := 0) (rmT l Z a0 hw [] a1 a2 bco bnx bpv bfb bpd bip bfi ben [0, 1, 0, 0] [3, -1, -1, 2] [-1, -1, 3, 0] [0, 1, 0, 0] [0, 0, 0, 0] [1, 0, 0, 0] (2 : Int32) (1 : Int32) T1932.heap n0 z1932 B1932 (by decide)) hZ (wi hw 77 rfl) (wi hw 29 rfl) (by decide) (by decide)) q1948a q1948c (g := (mkF m 219 #[iv p1, iv p2, iv p3, iv (1 : Int32), iv (0 : Int32), iv (0 : Int32), rv a2, rv a1, iv (1 : Int32), iv (0 : Int32), iv (0 : Int32), iv (1 : Int32), iv (0 : Int32), iv (3 : Int32), iv (3 : Int32), uv, uv, uv] [(.ref a1)])) rfl (by rw [hml]; rfl) (Steps.refl _) (argsL := []) (rest := []) (lenOf pd_14 rfl) rfl (by show 2 * 0 + _ ≤ _; exact Nat.le_of_eq rfl) (hb hby at_219) (fun _ _ => ⟨rfl, e1942, (by decide : 15 + 0 ≤ _), (by decide : 70 + 0 ≤ _)⟩)
  dsimp only [Pt.U, Pt.locs, Pt.cells, Pt.slots] at X1948 l1948 y1948 z1948 st1948 hQ1948
  subst l1948 y1948 z1948
  obtain ⟨rfl, N1948q, z1948, C1948⟩ := hQ1948
  have N1948 := Fr.app N1942 N1948q
  rw [(by rfl : own_take [0, 1, 0, 0] [3, -1, -1, 2] [-1, -1, 3, 0] [0, 1, 0, 0] [0, 0, 0, 0] [1, 0, 0, 0] (2 : Int32) (1 : Int32) = ([0, 1, 0, 2], [2, -1, -1, -1], [-1, -1, 0, -1], [0, 1, 3, 0], [0, 0, 0, 0], [1, 0, 0, 0], (3 : Int32), (1 : Int32)))] at C1948
  have B1948 : Cb Z T1948.heap n0 a1 a2 bco bnx bpv bfb bpd bip bfi ben [0, 1, 0, 2] [2, -1, -1, -1] [-1, -1, 0, -1] [0, 1, 3, 0] [0, 0, 0, 0] [1, 0, 0, 0] (3 : Int32) (1 : Int32) := C1948
  refine Rch.to (U' := T1948.setTop (mkF m 222 #[iv p1, iv p2, iv p3, iv (1 : Int32), iv (0 : Int32), iv (0 : Int32), rv a2, rv a1, iv (1 : Int32), iv (0 : Int32), iv (0 : Int32), iv (1 : Int32), iv (0 : Int32), iv (3 : Int32), iv (3 : Int32), uv, uv, uv] [(.int (own_sp [3, -1, -1, 2] [0, 1, 0, 0] [0, 0, 0, 0] (1 : Int32)))])) st1948 ?_
  rw [(by decide : own_sp [3, -1, -1, 2] [0, 1, 0, 0] [0, 0, 0, 0] (1 : Int32) = (3 : Int32))]
  refine Rch.go (U' := T1948.setTop (mkF m 224 #[iv p1, iv p2, iv p3, iv (1 : Int32), iv (0 : Int32), iv (0 : Int32), rv a2, rv a1, iv (1 : Int32), iv (0 : Int32), iv (0 : Int32), iv (1 : Int32), iv (0 : Int32), iv (3 : Int32), iv (3 : Int32), iv (3 : Int32), uv, uv] [])) (fun _ k => XS.istore X1948.here hx rfl (hb hby at_222) rfl (l' := #[iv p1, iv p2, iv p3, iv (1 : Int32), iv (0 : Int32), iv (0 : Int32), rv a2, rv a1, iv (1 : Int32), iv (0 : Int32), iv (0 : Int32), iv (1 : Int32), iv (0 : Int32), iv (3 : Int32), iv (3 : Int32), iv (3 : Int32), uv, uv]) rfl k) ?_
  refine Rch.go (U' := T1948.setTop (mkF m 226 #[iv p1, iv p2, iv p3, iv (1 : Int32), iv (0 : Int32), iv (0 : Int32), rv a2, rv a1, iv (1 : Int32), iv (0 : Int32), iv (0 : Int32), iv (1 : Int32), iv (0 : Int32), iv (3 : Int32), iv (3 : Int32), iv (3 : Int32), uv, uv] [(.int (3 : Int32))])) (fun _ k => XS.iload X1948.here hx rfl (hb hby at_224) rfl  k) ?_
  refine Rch.go (U' := T1948.setTop (mkF m 228 #[iv p1, iv p2, iv p3, iv (1 : Int32), iv (0 : Int32), iv (0 : Int32), rv a2, rv a1, iv (1 : Int32), iv (0 : Int32), iv (0 : Int32), iv (1 : Int32), iv (0 : Int32), iv (3 : Int32), iv (3 : Int32), iv (3 : Int32), uv, uv] [(.int (3 : Int32)), (.int (3 : Int32))])) (fun _ k => XS.iload X1948.here hx rfl (hb hby at_226) rfl  k) ?_
  have br1949 : (3 : Int32) = (3 : Int32) := (by decide)
  refine Rch.go (U' := T1948.setTop (mkF m 231 #[iv p1, iv p2, iv p3, iv (1 : Int32), iv (0 : Int32), iv (0 : Int32), rv a2, rv a1, iv (1 : Int32), iv (0 : Int32), iv (0 : Int32), iv (1 : Int32), iv (0 : Int32), iv (3 : Int32), iv (3 : Int32), iv (3 : Int32), uv, uv] [])) (fun _ k => XS.icmpNo X1948.here hx rfl (hb hby at_228) rfl (XT.ii_ne_f br1949) k) ?_
  refine Rch.go (U' := T1948.setTop (mkF m 233 #[iv p1, iv p2, iv p3, iv (1 : Int32), iv (0 : Int32), iv (0 : Int32), rv a2, rv a1, iv (1 : Int32), iv (0 : Int32), iv (0 : Int32), iv (1 : Int32), iv (0 : Int32), iv (3 : Int32), iv (3 : Int32), iv (3 : Int32), uv, uv] [(.ref a1)])) (fun _ k => XS.aload X1948.here hx rfl (hb hby at_231) rfl rfl k) ?_
  obtain ⟨cq1950, kq1950, q1950a, q1950b, q1950c⟩ := isOf hZ rfl B1948.1.1
  obtain ⟨_, _, ⟨T1950, L1950, k1950, n1950⟩, -, X1950, ⟨Lc1950, hQ1950, l1950, y1950, z1950⟩, st1950⟩ := X1948.virtualBack hx (y := yhs) (z := yhs) hown (mvT hZ (wi hw 63 rfl)) (mvT hZ (wi hw 64 rfl)) (notFace_of_selects (args := #[]) (mvT hZ (wi hw 66 rfl))) (mvT hZ (wi hw 66 rfl)) (mvT hZ (wi hw 65 rfl)) (by decide) (backOf (W := 0) (rmHs l Z a0 hw [] a1 a2 bco bnx bpv bfb bpd bip bfi ben [0, 1, 0, 2] [2, -1, -1, -1] [-1, -1, 0, -1] [0, 1, 3, 0] [0, 0, 0, 0] [1, 0, 0, 0] (3 : Int32) (1 : Int32)  T1948.heap n0 z1948 B1948 ) hZ (wi hw 67 rfl) (wi hw 29 rfl) (by decide) (by decide)) q1950a q1950c (g := (mkF m 233 #[iv p1, iv p2, iv p3, iv (1 : Int32), iv (0 : Int32), iv (0 : Int32), rv a2, rv a1, iv (1 : Int32), iv (0 : Int32), iv (0 : Int32), iv (1 : Int32), iv (0 : Int32), iv (3 : Int32), iv (3 : Int32), iv (3 : Int32), uv, uv] [(.ref a1)])) rfl (by rw [hml]; rfl) (Steps.refl _) (argsL := []) (rest := []) (lenOf pd_15 rfl) rfl (by show 2 * 0 + _ ≤ _; exact Nat.le_of_eq rfl) (hb hby at_233) (fun _ _ => ⟨rfl, rfl, (by decide : 15 + 0 ≤ _), (by decide : 70 + 0 ≤ _)⟩)
  dsimp only [Pt.U, Pt.locs, Pt.cells, Pt.slots] at X1950 l1950 y1950 z1950 st1950 hQ1950
  subst l1950 y1950 z1950
  obtain ⟨rfl, N1950q, e1950⟩ := hQ1950
  have N1950 := Fr.app N1948 N1950q
  refine Rch.to (U' := T1950.setTop (mkF m 236 #[iv p1, iv p2, iv p3, iv (1 : Int32), iv (0 : Int32), iv (0 : Int32), rv a2, rv a1, iv (1 : Int32), iv (0 : Int32), iv (0 : Int32), iv (1 : Int32), iv (0 : Int32), iv (3 : Int32), iv (3 : Int32), iv (3 : Int32), uv, uv] [(.int (own_pos (1 : Int32)))])) st1950 ?_
  rw [(by decide : (own_pos (1 : Int32)) = (1 : Int32))]
  have br1951 : ¬ ((1 : Int32) = (0 : Int32)) := (by decide)
  refine Rch.go (U' := T1950.setTop (mkF m 239 #[iv p1, iv p2, iv p3, iv (1 : Int32), iv (0 : Int32), iv (0 : Int32), rv a2, rv a1, iv (1 : Int32), iv (0 : Int32), iv (0 : Int32), iv (1 : Int32), iv (0 : Int32), iv (3 : Int32), iv (3 : Int32), iv (3 : Int32), uv, uv] [])) (fun _ k => XS.ifNo X1950.here hx rfl (hb hby at_236) rfl (XT.i0_eq_f br1951) k) ?_
  refine Rch.go (U' := T1950.setTop (mkF m 241 #[iv p1, iv p2, iv p3, iv (1 : Int32), iv (0 : Int32), iv (0 : Int32), rv a2, rv a1, iv (1 : Int32), iv (0 : Int32), iv (0 : Int32), iv (1 : Int32), iv (0 : Int32), iv (3 : Int32), iv (3 : Int32), iv (3 : Int32), uv, uv] [(.ref a1)])) (fun _ k => XS.aload X1950.here hx rfl (hb hby at_239) rfl rfl k) ?_
  obtain ⟨cq1952, kq1952, q1952a, q1952b, q1952c⟩ := isOf hZ e1950 B1948.1.1
  obtain ⟨_, _, ⟨T1952, L1952, k1952, n1952⟩, -, X1952, ⟨Lc1952, hQ1952, l1952, y1952, z1952⟩, st1952⟩ := X1950.virtualBack hx (y := yns) (z := yns) hown (mvT hZ (wi hw 68 rfl)) (mvT hZ (wi hw 69 rfl)) (notFace_of_selects (args := #[]) (mvT hZ (wi hw 71 rfl))) (mvT hZ (wi hw 71 rfl)) (mvT hZ (wi hw 70 rfl)) (by decide) (backOf (W := 0) (rmNs l Z a0 hw [] a1 a2 bco bnx bpv bfb bpd bip bfi ben [0, 1, 0, 2] [2, -1, -1, -1] [-1, -1, 0, -1] [0, 1, 3, 0] [0, 0, 0, 0] [1, 0, 0, 0] (3 : Int32) (1 : Int32)  T1948.heap n0 z1948 B1948 (by decide)) hZ (wi hw 72 rfl) (wi hw 29 rfl) (by decide) (by decide)) q1952a q1952c (g := (mkF m 241 #[iv p1, iv p2, iv p3, iv (1 : Int32), iv (0 : Int32), iv (0 : Int32), rv a2, rv a1, iv (1 : Int32), iv (0 : Int32), iv (0 : Int32), iv (1 : Int32), iv (0 : Int32), iv (3 : Int32), iv (3 : Int32), iv (3 : Int32), uv, uv] [(.ref a1)])) rfl (by rw [hml]; rfl) (Steps.refl _) (argsL := []) (rest := []) (lenOf pd_14 rfl) rfl (by show 2 * 0 + _ ≤ _; exact Nat.le_of_eq rfl) (hb hby at_241) (fun _ _ => ⟨rfl, e1950, (by decide : 15 + 0 ≤ _), (by decide : 70 + 0 ≤ _)⟩)
  dsimp only [Pt.U, Pt.locs, Pt.cells, Pt.slots] at X1952 l1952 y1952 z1952 st1952 hQ1952
  subst l1952 y1952 z1952
  obtain ⟨rfl, N1952q, e1952⟩ := hQ1952
  have N1952 := Fr.app N1950 N1952q
  refine Rch.to (U' := T1952.setTop (mkF m 244 #[iv p1, iv p2, iv p3, iv (1 : Int32), iv (0 : Int32), iv (0 : Int32), rv a2, rv a1, iv (1 : Int32), iv (0 : Int32), iv (0 : Int32), iv (1 : Int32), iv (0 : Int32), iv (3 : Int32), iv (3 : Int32), iv (3 : Int32), uv, uv] [(.int (own_at [0, 0, 0, 0] ((1 : Int32) - (1 : Int32))))])) st1952 ?_
  rw [(by decide : (own_at [0, 0, 0, 0] ((1 : Int32) - (1 : Int32))) = (0 : Int32))]
  refine Rch.go (U' := T1952.setTop (mkF m 246 #[iv p1, iv p2, iv p3, iv (1 : Int32), iv (0 : Int32), iv (0 : Int32), rv a2, rv a1, iv (1 : Int32), iv (0 : Int32), iv (0 : Int32), iv (1 : Int32), iv (0 : Int32), iv (3 : Int32), iv (3 : Int32), iv (3 : Int32), uv, uv] [(.int (0 : Int32)), (.int (0 : Int32))])) (fun _ k => XS.iload X1952.here hx rfl (hb hby at_244) rfl  k) ?_
  have br1953 : (0 : Int32) = (0 : Int32) := (by decide)
  refine Rch.go (U' := T1952.setTop (mkF m 249 #[iv p1, iv p2, iv p3, iv (1 : Int32), iv (0 : Int32), iv (0 : Int32), rv a2, rv a1, iv (1 : Int32), iv (0 : Int32), iv (0 : Int32), iv (1 : Int32), iv (0 : Int32), iv (3 : Int32), iv (3 : Int32), iv (3 : Int32), uv, uv] [])) (fun _ k => XS.icmpNo X1952.here hx rfl (hb hby at_246) rfl (XT.ii_ne_f br1953) k) ?_
  refine Rch.go (U' := T1952.setTop (mkF m 250 #[iv p1, iv p2, iv p3, iv (1 : Int32), iv (0 : Int32), iv (0 : Int32), rv a2, rv a1, iv (1 : Int32), iv (0 : Int32), iv (0 : Int32), iv (1 : Int32), iv (0 : Int32), iv (3 : Int32), iv (3 : Int32), iv (3 : Int32), uv, uv] [(.int (1 : Int32))])) (fun _ k => XS.iconst X1952.here hx rfl (hb hby at_249) k) ?_
  refine Rch.go (U' := T1952.setTop (mkF m 254 #[iv p1, iv p2, iv p3, iv (1 : Int32), iv (0 : Int32), iv (0 : Int32), rv a2, rv a1, iv (1 : Int32), iv (0 : Int32), iv (0 : Int32), iv (1 : Int32), iv (0 : Int32), iv (3 : Int32), iv (3 : Int32), iv (3 : Int32), uv, uv] [(.int (1 : Int32))])) (fun _ k => XS.goto X1952.here hx rfl (pc0 := 250) (pc' := 254) rfl (hb hby at_250) (by decide) (by decide) k) ?_
  refine Rch.fin X1952 hlk (v := some (.int (nar .boolean (1 : Int32)))) (fun h => by rw [hret] at h; cases h) e1952 (by decide) (by decide) (fun fs hr => retN X1952 hx (t := .boolean) hret (by simp) (hb hby at_254) hr) ?_
  exact ⟨rfl, N1952⟩
set_option maxRecDepth 65536 in
set_option maxHeartbeats 40000000 in
theorem cut54_101 {p : Program} {l : Launch} {e : Env} {s : State} {m : MethodId} {args : Array Value} {below : List Frame} {meth : Method} {c : Code} {T0 : State} {locs : List Loc} {Z : State} {a0 : Array Value} {h0 : Heap} {n0 : Nat}  (p1 : Int32) (p2 : Int32) (p3 : Int32) (a1 : Addr) (a2 : Addr) (bco : Addr) (bnx : Addr) (bpv : Addr) (bfb : Addr) (bpd : Addr) (bip : Addr) (bfi : Addr) (ben : Addr)
    (X0 : Stand p l e room_1 s m args below meth c T0 locs 15 70) (hx : p.tables.exec = Jvm.exec) (hZ : Z.Warmed39 s.vm) (hw : ∀ d ∈ tables_1, d.before a0 Z = true) (hby : c.code = code) (hml : c.maxLocals = 18) (hown : s.vm.findClass cLW = some m.cls) (hret : meth.sig.returnType = some .boolean) (hlk : meth.locks = false) (e0 : T0.heap = h0) (N0 : Fr n0 locs) (Z0 : n0 ≤ h0.size) (B : Cb Z h0 n0 a1 a2 bco bnx bpv bfb bpd bip bfi ben [0, 0, 0, 0] [1, -1, 0, 0] [-1, 0, 0, 0] [0, 0, 0, 0] [0, 0, 0, 0] [1, 0, 0, 0] (1 : Int32) (1 : Int32)) :
    Rch p e below (Fin s below (fun v h L => v = some (.int 1) ∧ Fr n0 L) 40 256) (T0.setTop (mkF m 54 #[iv p1, iv p2, iv p3, iv (1 : Int32), iv (0 : Int32), iv (1 : Int32), rv a2, rv a1, uv, uv, uv, uv, uv, uv, uv, uv, uv, uv] [])) := by
  refine Rch.go (U' := T0.setTop (mkF m 55 #[iv p1, iv p2, iv p3, iv (1 : Int32), iv (0 : Int32), iv (1 : Int32), rv a2, rv a1, uv, uv, uv, uv, uv, uv, uv, uv, uv, uv] [(.int (1 : Int32))])) (fun _ k => XS.iloadN X0.here hx rfl (hb hby at_54) rfl  k) ?_
  have br1954 : ¬ ((1 : Int32) = (0 : Int32)) := (by decide)
  refine Rch.go (U' := T0.setTop (mkF m 58 #[iv p1, iv p2, iv p3, iv (1 : Int32), iv (0 : Int32), iv (1 : Int32), rv a2, rv a1, uv, uv, uv, uv, uv, uv, uv, uv, uv, uv] [])) (fun _ k => XS.ifNo X0.here hx rfl (hb hby at_55) rfl (XT.i0_eq_f br1954) k) ?_
  refine Rch.go (U' := T0.setTop (mkF m 60 #[iv p1, iv p2, iv p3, iv (1 : Int32), iv (0 : Int32), iv (1 : Int32), rv a2, rv a1, uv, uv, uv, uv, uv, uv, uv, uv, uv, uv] [(.ref a1)])) (fun _ k => XS.aload X0.here hx rfl (hb hby at_58) rfl rfl k) ?_
  obtain ⟨cq1955, kq1955, q1955a, q1955b, q1955c⟩ := isOf hZ e0 B.1.1
  obtain ⟨_, _, ⟨T1955, L1955, k1955, n1955⟩, -, X1955, ⟨Lc1955, hQ1955, l1955, y1955, z1955⟩, st1955⟩ := X0.virtualBack hx (y := yt) (z := yt) hown (mvT hZ (wi hw 73 rfl)) (mvT hZ (wi hw 74 rfl)) (notFace_of_selects (args := #[]) (mvT hZ (wi hw 76 rfl))) (mvT hZ (wi hw 76 rfl)) (mvT hZ (wi hw 75 rfl)) (by decide) (backOf (W := 0) (rmT l Z a0 hw [] a1 a2 bco bnx bpv bfb bpd bip bfi ben [0, 0, 0, 0] [1, -1, 0, 0] [-1, 0, 0, 0] [0, 0, 0, 0] [0, 0, 0, 0] [1, 0, 0, 0] (1 : Int32) (1 : Int32) h0 n0 Z0 B (by decide)) hZ (wi hw 77 rfl) (wi hw 29 rfl) (by decide) (by decide)) q1955a q1955c (g := (mkF m 60 #[iv p1, iv p2, iv p3, iv (1 : Int32), iv (0 : Int32), iv (1 : Int32), rv a2, rv a1, uv, uv, uv, uv, uv, uv, uv, uv, uv, uv] [(.ref a1)])) rfl (by rw [hml]; rfl) (Steps.refl _) (argsL := []) (rest := []) (lenOf pd_14 rfl) rfl (by show 2 * 0 + _ ≤ _; exact Nat.le_of_eq rfl) (hb hby at_60) (fun _ _ => ⟨rfl, e0, (by decide : 15 + 0 ≤ _), (by decide : 70 + 0 ≤ _)⟩)
  dsimp only [Pt.U, Pt.locs, Pt.cells, Pt.slots] at X1955 l1955 y1955 z1955 st1955 hQ1955
  subst l1955 y1955 z1955
  obtain ⟨rfl, N1955q, z1955, C1955⟩ := hQ1955
  have N1955 := Fr.app N0 N1955q
  rw [(by rfl : own_take [0, 0, 0, 0] [1, -1, 0, 0] [-1, 0, 0, 0] [0, 0, 0, 0] [0, 0, 0, 0] [1, 0, 0, 0] (1 : Int32) (1 : Int32) = ([0, 1, 0, 0], [-1, -1, 0, 0], [-1, -1, 0, 0], [0, 1, 0, 0], [0, 0, 0, 0], [0, 0, 0, 0], (2 : Int32), (0 : Int32)))] at C1955
  have B1955 : Cb Z T1955.heap n0 a1 a2 bco bnx bpv bfb bpd bip bfi ben [0, 1, 0, 0] [-1, -1, 0, 0] [-1, -1, 0, 0] [0, 1, 0, 0] [0, 0, 0, 0] [0, 0, 0, 0] (2 : Int32) (0 : Int32) := C1955
  refine Rch.to (U' := T1955.setTop (mkF m 63 #[iv p1, iv p2, iv p3, iv (1 : Int32), iv (0 : Int32), iv (1 : Int32), rv a2, rv a1, uv, uv, uv, uv, uv, uv, uv, uv, uv, uv] [(.int (own_sp [1, -1, 0, 0] [0, 0, 0, 0] [0, 0, 0, 0] (1 : Int32)))])) st1955 ?_
  rw [(by decide : own_sp [1, -1, 0, 0] [0, 0, 0, 0] [0, 0, 0, 0] (1 : Int32) = (1 : Int32))]
  refine Rch.go (U' := T1955.setTop (mkF m 65 #[iv p1, iv p2, iv p3, iv (1 : Int32), iv (0 : Int32), iv (1 : Int32), rv a2, rv a1, iv (1 : Int32), uv, uv, uv, uv, uv, uv, uv, uv, uv] [])) (fun _ k => XS.istore X1955.here hx rfl (hb hby at_63) rfl (l' := #[iv p1, iv p2, iv p3, iv (1 : Int32), iv (0 : Int32), iv (1 : Int32), rv a2, rv a1, iv (1 : Int32), uv, uv, uv, uv, uv, uv, uv, uv, uv]) rfl k) ?_
  refine Rch.go (U' := T1955.setTop (mkF m 67 #[iv p1, iv p2, iv p3, iv (1 : Int32), iv (0 : Int32), iv (1 : Int32), rv a2, rv a1, iv (1 : Int32), uv, uv, uv, uv, uv, uv, uv, uv, uv] [(.ref a1)])) (fun _ k => XS.aload X1955.here hx rfl (hb hby at_65) rfl rfl k) ?_
  obtain ⟨cq1956, kq1956, q1956a, q1956b, q1956c⟩ := isOf hZ rfl B1955.1.1
  obtain ⟨_, _, ⟨T1956, L1956, k1956, n1956⟩, -, X1956, ⟨Lc1956, hQ1956, l1956, y1956, z1956⟩, st1956⟩ := X1955.virtualBack hx (y := yhs) (z := yhs) hown (mvT hZ (wi hw 63 rfl)) (mvT hZ (wi hw 64 rfl)) (notFace_of_selects (args := #[]) (mvT hZ (wi hw 66 rfl))) (mvT hZ (wi hw 66 rfl)) (mvT hZ (wi hw 65 rfl)) (by decide) (backOf (W := 0) (rmHs l Z a0 hw [] a1 a2 bco bnx bpv bfb bpd bip bfi ben [0, 1, 0, 0] [-1, -1, 0, 0] [-1, -1, 0, 0] [0, 1, 0, 0] [0, 0, 0, 0] [0, 0, 0, 0] (2 : Int32) (0 : Int32)  T1955.heap n0 z1955 B1955 ) hZ (wi hw 67 rfl) (wi hw 29 rfl) (by decide) (by decide)) q1956a q1956c (g := (mkF m 67 #[iv p1, iv p2, iv p3, iv (1 : Int32), iv (0 : Int32), iv (1 : Int32), rv a2, rv a1, iv (1 : Int32), uv, uv, uv, uv, uv, uv, uv, uv, uv] [(.ref a1)])) rfl (by rw [hml]; rfl) (Steps.refl _) (argsL := []) (rest := []) (lenOf pd_15 rfl) rfl (by show 2 * 0 + _ ≤ _; exact Nat.le_of_eq rfl) (hb hby at_67) (fun _ _ => ⟨rfl, rfl, (by decide : 15 + 0 ≤ _), (by decide : 70 + 0 ≤ _)⟩)
  dsimp only [Pt.U, Pt.locs, Pt.cells, Pt.slots] at X1956 l1956 y1956 z1956 st1956 hQ1956
  subst l1956 y1956 z1956
  obtain ⟨rfl, N1956q, e1956⟩ := hQ1956
  have N1956 := Fr.app N1955 N1956q
  refine Rch.to (U' := T1956.setTop (mkF m 70 #[iv p1, iv p2, iv p3, iv (1 : Int32), iv (0 : Int32), iv (1 : Int32), rv a2, rv a1, iv (1 : Int32), uv, uv, uv, uv, uv, uv, uv, uv, uv] [(.int (own_pos (0 : Int32)))])) st1956 ?_
  rw [(by decide : (own_pos (0 : Int32)) = (0 : Int32))]
  refine Rch.go (U' := T1956.setTop (mkF m 72 #[iv p1, iv p2, iv p3, iv (1 : Int32), iv (0 : Int32), iv (1 : Int32), rv a2, rv a1, iv (1 : Int32), iv (0 : Int32), uv, uv, uv, uv, uv, uv, uv, uv] [])) (fun _ k => XS.istore X1956.here hx rfl (hb hby at_70) rfl (l' := #[iv p1, iv p2, iv p3, iv (1 : Int32), iv (0 : Int32), iv (1 : Int32), rv a2, rv a1, iv (1 : Int32), iv (0 : Int32), uv, uv, uv, uv, uv, uv, uv, uv]) rfl k) ?_
  refine Rch.go (U' := T1956.setTop (mkF m 74 #[iv p1, iv p2, iv p3, iv (1 : Int32), iv (0 : Int32), iv (1 : Int32), rv a2, rv a1, iv (1 : Int32), iv (0 : Int32), uv, uv, uv, uv, uv, uv, uv, uv] [(.ref a1)])) (fun _ k => XS.aload X1956.here hx rfl (hb hby at_72) rfl rfl k) ?_
  refine Rch.go (U' := T1956.setTop (mkF m 76 #[iv p1, iv p2, iv p3, iv (1 : Int32), iv (0 : Int32), iv (1 : Int32), rv a2, rv a1, iv (1 : Int32), iv (0 : Int32), uv, uv, uv, uv, uv, uv, uv, uv] [(.int (0 : Int32)), (.ref a1)])) (fun _ k => XS.iload X1956.here hx rfl (hb hby at_74) rfl  k) ?_
  refine Rch.go (U' := T1956.setTop (mkF m 77 #[iv p1, iv p2, iv p3, iv (1 : Int32), iv (0 : Int32), iv (1 : Int32), rv a2, rv a1, iv (1 : Int32), iv (0 : Int32), uv, uv, uv, uv, uv, uv, uv, uv] [(.int (2 : Int32)), (.int (0 : Int32)), (.ref a1)])) (fun _ k => XS.iconst X1956.here hx rfl (hb hby at_76) k) ?_
  obtain ⟨cq1957, kq1957, q1957a, q1957b, q1957c⟩ := isOf hZ e1956 B1955.1.1
  obtain ⟨_, _, ⟨T1957, L1957, k1957, n1957⟩, -, X1957, ⟨Lc1957, hQ1957, l1957, y1957, z1957⟩, st1957⟩ := X1956.virtualBack hx (y := yj) (z := yj) hown (mvT hZ (wi hw 51 rfl)) (mvT hZ (wi hw 52 rfl)) (notFace_of_selects (args := #[]) (mvT hZ (wi hw 54 rfl))) (mvT hZ (wi hw 54 rfl)) (mvT hZ (wi hw 53 rfl)) (by decide) (backOf (W := 0) (rmJ l Z a0 hw [] a1 a2 bco bnx bpv bfb bpd bip bfi ben [0, 1, 0, 0] [-1, -1, 0, 0] [-1, -1, 0, 0] [0, 1, 0, 0] [0, 0, 0, 0] [0, 0, 0, 0] (2 : Int32) (0 : Int32) (0 : Int32) (2 : Int32) T1955.heap n0 z1955 B1955 (by decide)) hZ (wi hw 55 rfl) (wi hw 29 rfl) (by decide) (by decide)) q1957a q1957c (g := (mkF m 77 #[iv p1, iv p2, iv p3, iv (1 : Int32), iv (0 : Int32), iv (1 : Int32), rv a2, rv a1, iv (1 : Int32), iv (0 : Int32), uv, uv, uv, uv, uv, uv, uv, uv] [(.int (2 : Int32)), (.int (0 : Int32)), (.ref a1)])) rfl (by rw [hml]; rfl) (Steps.refl _) (argsL := [(.int (0 : Int32)), (.int (2 : Int32))]) (rest := []) (lenOf pd_8 rfl) rfl (by show 2 * 0 + _ ≤ _; exact Nat.le_of_eq rfl) (hb hby at_77) (fun _ _ => ⟨rfl, e1956, (by decide : 15 + 0 ≤ _), (by decide : 70 + 0 ≤ _)⟩)
  dsimp only [Pt.U, Pt.locs, Pt.cells, Pt.slots] at X1957 l1957 y1957 z1957 st1957 hQ1957
  subst l1957 y1957 z1957
  obtain ⟨rfl, N1957q, z1957, C1957⟩ := hQ1957
  have N1957 := Fr.app N1956 N1957q
  rw [(by rfl : own_join [0, 1, 0, 0] [-1, -1, 0, 0] [-1, -1, 0, 0] [0, 1, 0, 0] [0, 0, 0, 0] [0, 0, 0, 0] (2 : Int32) (0 : Int32) (0 : Int32) (2 : Int32) = ([0, 1, 0, 0], [2, -1, -1, 0], [-1, -1, 0, 0], [0, 1, 0, 0], [0, 0, 0, 0], [1, 0, 0, 0], (2 : Int32), (1 : Int32)))] at C1957
  have B1957 : Cb Z T1957.heap n0 a1 a2 bco bnx bpv bfb bpd bip bfi ben [0, 1, 0, 0] [2, -1, -1, 0] [-1, -1, 0, 0] [0, 1, 0, 0] [0, 0, 0, 0] [1, 0, 0, 0] (2 : Int32) (1 : Int32) := C1957
  refine Rch.to (U' := T1957.setTop (mkF m 80 #[iv p1, iv p2, iv p3, iv (1 : Int32), iv (0 : Int32), iv (1 : Int32), rv a2, rv a1, iv (1 : Int32), iv (0 : Int32), uv, uv, uv, uv, uv, uv, uv, uv] [])) st1957 ?_
  refine Rch.go (U' := T1957.setTop (mkF m 82 #[iv p1, iv p2, iv p3, iv (1 : Int32), iv (0 : Int32), iv (1 : Int32), rv a2, rv a1, iv (1 : Int32), iv (0 : Int32), uv, uv, uv, uv, uv, uv, uv, uv] [(.ref a1)])) (fun _ k => XS.aload X1957.here hx rfl (hb hby at_80) rfl rfl k) ?_
  refine Rch.go (U' := T1957.setTop (mkF m 84 #[iv p1, iv p2, iv p3, iv (1 : Int32), iv (0 : Int32), iv (1 : Int32), rv a2, rv a1, iv (1 : Int32), iv (0 : Int32), uv, uv, uv, uv, uv, uv, uv, uv] [(.int (1 : Int32)), (.ref a1)])) (fun _ k => XS.iload X1957.here hx rfl (hb hby at_82) rfl  k) ?_
  refine Rch.go (U' := T1957.setTop (mkF m 85 #[iv p1, iv p2, iv p3, iv (1 : Int32), iv (0 : Int32), iv (1 : Int32), rv a2, rv a1, iv (1 : Int32), iv (0 : Int32), uv, uv, uv, uv, uv, uv, uv, uv] [(.int (3 : Int32)), (.int (1 : Int32)), (.ref a1)])) (fun _ k => XS.iconst X1957.here hx rfl (hb hby at_84) k) ?_
  obtain ⟨cq1958, kq1958, q1958a, q1958b, q1958c⟩ := isOf hZ rfl B1957.1.1
  obtain ⟨_, _, ⟨T1958, L1958, k1958, n1958⟩, -, X1958, ⟨Lc1958, hQ1958, l1958, y1958, z1958⟩, st1958⟩ := X1957.virtualBack hx (y := yj) (z := yj) hown (mvT hZ (wi hw 51 rfl)) (mvT hZ (wi hw 52 rfl)) (notFace_of_selects (args := #[]) (mvT hZ (wi hw 54 rfl))) (mvT hZ (wi hw 54 rfl)) (mvT hZ (wi hw 53 rfl)) (by decide) (backOf (W := 0) (rmJ l Z a0 hw [] a1 a2 bco bnx bpv bfb bpd bip bfi ben [0, 1, 0, 0] [2, -1, -1, 0] [-1, -1, 0, 0] [0, 1, 0, 0] [0, 0, 0, 0] [1, 0, 0, 0] (2 : Int32) (1 : Int32) (1 : Int32) (3 : Int32) T1957.heap n0 z1957 B1957 (by decide)) hZ (wi hw 55 rfl) (wi hw 29 rfl) (by decide) (by decide)) q1958a q1958c (g := (mkF m 85 #[iv p1, iv p2, iv p3, iv (1 : Int32), iv (0 : Int32), iv (1 : Int32), rv a2, rv a1, iv (1 : Int32), iv (0 : Int32), uv, uv, uv, uv, uv, uv, uv, uv] [(.int (3 : Int32)), (.int (1 : Int32)), (.ref a1)])) rfl (by rw [hml]; rfl) (Steps.refl _) (argsL := [(.int (1 : Int32)), (.int (3 : Int32))]) (rest := []) (lenOf pd_8 rfl) rfl (by show 2 * 0 + _ ≤ _; exact Nat.le_of_eq rfl) (hb hby at_85) (fun _ _ => ⟨rfl, rfl, (by decide : 15 + 0 ≤ _), (by decide : 70 + 0 ≤ _)⟩)
  dsimp only [Pt.U, Pt.locs, Pt.cells, Pt.slots] at X1958 l1958 y1958 z1958 st1958 hQ1958
  subst l1958 y1958 z1958
  obtain ⟨rfl, N1958q, z1958, C1958⟩ := hQ1958
  have N1958 := Fr.app N1957 N1958q
  rw [(by rfl : own_join [0, 1, 0, 0] [2, -1, -1, 0] [-1, -1, 0, 0] [0, 1, 0, 0] [0, 0, 0, 0] [1, 0, 0, 0] (2 : Int32) (1 : Int32) (1 : Int32) (3 : Int32) = ([0, 1, 0, 1], [2, 3, -1, -1], [-1, -1, 0, 1], [0, 1, 0, 0], [0, 1, 0, 0], [1, 1, 0, 0], (2 : Int32), (2 : Int32)))] at C1958
  have B1958 : Cb Z T1958.heap n0 a1 a2 bco bnx bpv bfb bpd bip bfi ben [0, 1, 0, 1] [2, 3, -1, -1] [-1, -1, 0, 1] [0, 1, 0, 0] [0, 1, 0, 0] [1, 1, 0, 0] (2 : Int32) (2 : Int32) := C1958
  refine Rch.to (U' := T1958.setTop (mkF m 88 #[iv p1, iv p2, iv p3, iv (1 : Int32), iv (0 : Int32), iv (1 : Int32), rv a2, rv a1, iv (1 : Int32), iv (0 : Int32), uv, uv, uv, uv, uv, uv, uv, uv] [])) st1958 ?_
  refine Rch.go (U' := T1958.setTop (mkF m 90 #[iv p1, iv p2, iv p3, iv (1 : Int32), iv (0 : Int32), iv (1 : Int32), rv a2, rv a1, iv (1 : Int32), iv (0 : Int32), uv, uv, uv, uv, uv, uv, uv, uv] [(.int (1 : Int32))])) (fun _ k => XS.iload X1958.here hx rfl (hb hby at_88) rfl  k) ?_
  refine Rch.go (U' := T1958.setTop (mkF m 91 #[iv p1, iv p2, iv p3, iv (1 : Int32), iv (0 : Int32), iv (1 : Int32), rv a2, rv a1, iv (1 : Int32), iv (0 : Int32), uv, uv, uv, uv, uv, uv, uv, uv] [(.int (2 : Int32)), (.int (1 : Int32))])) (fun _ k => XS.iconst X1958.here hx rfl (hb hby at_90) k) ?_
  have br1959 : ¬ ((1 : Int32) = (2 : Int32)) := (by decide)
  refine Rch.go (U' := T1958.setTop (mkF m 99 #[iv p1, iv p2, iv p3, iv (1 : Int32), iv (0 : Int32), iv (1 : Int32), rv a2, rv a1, iv (1 : Int32), iv (0 : Int32), uv, uv, uv, uv, uv, uv, uv, uv] [])) (fun _ k => XS.icmpYes X1958.here hx rfl (pc0 := 91) (pc' := 99) rfl (hb hby at_91) rfl (XT.ii_ne_t br1959) (by decide) (by decide) k) ?_
  refine Rch.go (U' := T1958.setTop (mkF m 101 #[iv p1, iv p2, iv p3, iv (1 : Int32), iv (0 : Int32), iv (1 : Int32), rv a2, rv a1, iv (1 : Int32), iv (0 : Int32), uv, uv, uv, uv, uv, uv, uv, uv] [(.int (1 : Int32))])) (fun _ k => XS.iload X1958.here hx rfl (hb hby at_99) rfl  k) ?_
  refine Rch.go (U' := T1958.setTop (mkF m 103 #[iv p1, iv p2, iv p3, iv (1 : Int32), iv (0 : Int32), iv (1 : Int32), rv a2, rv a1, iv (1 : Int32), iv (0 : Int32), iv (1 : Int32), uv, uv, uv, uv, uv, uv, uv] [])) (fun _ k => XS.istore X1958.here hx rfl (hb hby at_101) rfl (l' := #[iv p1, iv p2, iv p3, iv (1 : Int32), iv (0 : Int32), iv (1 : Int32), rv a2, rv a1, iv (1 : Int32), iv (0 : Int32), iv (1 : Int32), uv, uv, uv, uv, uv, uv, uv]) rfl k) ?_
  refine Rch.go (U' := T1958.setTop (mkF m 105 #[iv p1, iv p2, iv p3, iv (1 : Int32), iv (0 : Int32), iv (1 : Int32), rv a2, rv a1, iv (1 : Int32), iv (0 : Int32), iv (1 : Int32), uv, uv, uv, uv, uv, uv, uv] [(.int (1 : Int32))])) (fun _ k => XS.iload X1958.here hx rfl (hb hby at_103) rfl  k) ?_
  refine Rch.go (U' := T1958.setTop (mkF m 106 #[iv p1, iv p2, iv p3, iv (1 : Int32), iv (0 : Int32), iv (1 : Int32), rv a2, rv a1, iv (1 : Int32), iv (0 : Int32), iv (1 : Int32), uv, uv, uv, uv, uv, uv, uv] [(.int (1 : Int32)), (.int (1 : Int32))])) (fun _ k => XS.iconst X1958.here hx rfl (hb hby at_105) k) ?_
  have br1960 : (1 : Int32) = (1 : Int32) := (by decide)
  refine Rch.go (U' := T1958.setTop (mkF m 109 #[iv p1, iv p2, iv p3, iv (1 : Int32), iv (0 : Int32), iv (1 : Int32), rv a2, rv a1, iv (1 : Int32), iv (0 : Int32), iv (1 : Int32), uv, uv, uv, uv, uv, uv, uv] [])) (fun _ k => XS.icmpNo X1958.here hx rfl (hb hby at_106) rfl (XT.ii_ne_f br1960) k) ?_
  refine Rch.go (U' := T1958.setTop (mkF m 111 #[iv p1, iv p2, iv p3, iv (1 : Int32), iv (0 : Int32), iv (1 : Int32), rv a2, rv a1, iv (1 : Int32), iv (0 : Int32), iv (1 : Int32), uv, uv, uv, uv, uv, uv, uv] [(.int (0 : Int32))])) (fun _ k => XS.iload X1958.here hx rfl (hb hby at_109) rfl  k) ?_
  have br1961 : (0 : Int32) = (0 : Int32) := (by decide)
  refine Rch.go (U' := T1958.setTop (mkF m 114 #[iv p1, iv p2, iv p3, iv (1 : Int32), iv (0 : Int32), iv (1 : Int32), rv a2, rv a1, iv (1 : Int32), iv (0 : Int32), iv (1 : Int32), uv, uv, uv, uv, uv, uv, uv] [])) (fun _ k => XS.ifNo X1958.here hx rfl (hb hby at_111) rfl (XT.i0_ne_f br1961) k) ?_
  refine Rch.go (U' := T1958.setTop (mkF m 116 #[iv p1, iv p2, iv p3, iv (1 : Int32), iv (0 : Int32), iv (1 : Int32), rv a2, rv a1, iv (1 : Int32), iv (0 : Int32), iv (1 : Int32), uv, uv, uv, uv, uv, uv, uv] [(.ref a1)])) (fun _ k => XS.aload X1958.here hx rfl (hb hby at_114) rfl rfl k) ?_
  refine Rch.go (U' := T1958.setTop (mkF m 117 #[iv p1, iv p2, iv p3, iv (1 : Int32), iv (0 : Int32), iv (1 : Int32), rv a2, rv a1, iv (1 : Int32), iv (0 : Int32), iv (1 : Int32), uv, uv, uv, uv, uv, uv, uv] [(.int (2 : Int32)), (.ref a1)])) (fun _ k => XS.iconst X1958.here hx rfl (hb hby at_116) k) ?_
  obtain ⟨cq1962, kq1962, q1962a, q1962b, q1962c⟩ := isOf hZ rfl B1958.1.1
  obtain ⟨_, _, ⟨T1962, L1962, k1962, n1962⟩, -, X1962, ⟨Lc1962, hQ1962, l1962, y1962, z1962⟩, st1962⟩ := X1958.virtualBack hx (y := yc) (z := yc) hown (mvT hZ (wi hw 58 rfl)) (mvT hZ (wi hw 59 rfl)) (notFace_of_selects (args := #[]) (mvT hZ (wi hw 61 rfl))) (mvT hZ (wi hw 61 rfl)) (mvT hZ (wi hw 60 rfl)) (by decide) (backOf (W := 0) (rmCo l Z a0 hw [] a1 a2 bco bnx bpv bfb bpd bip bfi ben [0, 1, 0, 1] [2, 3, -1, -1] [-1, -1, 0, 1] [0, 1, 0, 0] [0, 1, 0, 0] [1, 1, 0, 0] (2 : Int32) (2 : Int32) (2 : Int32) T1958.heap n0 z1958 B1958 (by decide)) hZ (wi hw 62 rfl) (wi hw 29 rfl) (by decide) (by decide)) q1962a q1962c (g := (mkF m 117 #[iv p1, iv p2, iv p3, iv (1 : Int32), iv (0 : Int32), iv (1 : Int32), rv a2, rv a1, iv (1 : Int32), iv (0 : Int32), iv (1 : Int32), uv, uv, uv, uv, uv, uv, uv] [(.int (2 : Int32)), (.ref a1)])) rfl (by rw [hml]; rfl) (Steps.refl _) (argsL := [(.int (2 : Int32))]) (rest := []) (lenOf pd_7 rfl) rfl (by show 2 * 0 + _ ≤ _; exact Nat.le_of_eq rfl) (hb hby at_117) (fun _ _ => ⟨rfl, rfl, (by decide : 15 + 0 ≤ _), (by decide : 70 + 0 ≤ _)⟩)
  dsimp only [Pt.U, Pt.locs, Pt.cells, Pt.slots] at X1962 l1962 y1962 z1962 st1962 hQ1962
  subst l1962 y1962 z1962
  obtain ⟨rfl, N1962q, e1962⟩ := hQ1962
  have N1962 := Fr.app N1958 N1962q
  refine Rch.to (U' := T1962.setTop (mkF m 120 #[iv p1, iv p2, iv p3, iv (1 : Int32), iv (0 : Int32), iv (1 : Int32), rv a2, rv a1, iv (1 : Int32), iv (0 : Int32), iv (1 : Int32), uv, uv, uv, uv, uv, uv, uv] [(.int (own_at [0, 1, 0, 1] (2 : Int32)))])) st1962 ?_
  rw [(by decide : (own_at [0, 1, 0, 1] (2 : Int32)) = (0 : Int32))]
  refine Rch.go (U' := T1962.setTop (mkF m 122 #[iv p1, iv p2, iv p3, iv (1 : Int32), iv (0 : Int32), iv (1 : Int32), rv a2, rv a1, iv (1 : Int32), iv (0 : Int32), iv (1 : Int32), uv, uv, uv, uv, uv, uv, uv] [(.int (0 : Int32)), (.int (0 : Int32))])) (fun _ k => XS.iload X1962.here hx rfl (hb hby at_120) rfl  k) ?_
  have br1963 : (0 : Int32) = (0 : Int32) := (by decide)
  refine Rch.go (U' := T1962.setTop (mkF m 125 #[iv p1, iv p2, iv p3, iv (1 : Int32), iv (0 : Int32), iv (1 : Int32), rv a2, rv a1, iv (1 : Int32), iv (0 : Int32), iv (1 : Int32), uv, uv, uv, uv, uv, uv, uv] [])) (fun _ k => XS.icmpNo X1962.here hx rfl (hb hby at_122) rfl (XT.ii_ne_f br1963) k) ?_
  refine Rch.go (U' := T1962.setTop (mkF m 127 #[iv p1, iv p2, iv p3, iv (1 : Int32), iv (0 : Int32), iv (1 : Int32), rv a2, rv a1, iv (1 : Int32), iv (0 : Int32), iv (1 : Int32), uv, uv, uv, uv, uv, uv, uv] [(.ref a1)])) (fun _ k => XS.aload X1962.here hx rfl (hb hby at_125) rfl rfl k) ?_
  refine Rch.go (U' := T1962.setTop (mkF m 128 #[iv p1, iv p2, iv p3, iv (1 : Int32), iv (0 : Int32), iv (1 : Int32), rv a2, rv a1, iv (1 : Int32), iv (0 : Int32), iv (1 : Int32), uv, uv, uv, uv, uv, uv, uv] [(.int (3 : Int32)), (.ref a1)])) (fun _ k => XS.iconst X1962.here hx rfl (hb hby at_127) k) ?_
  obtain ⟨cq1964, kq1964, q1964a, q1964b, q1964c⟩ := isOf hZ e1962 B1958.1.1
  obtain ⟨_, _, ⟨T1964, L1964, k1964, n1964⟩, -, X1964, ⟨Lc1964, hQ1964, l1964, y1964, z1964⟩, st1964⟩ := X1962.virtualBack hx (y := yc) (z := yc) hown (mvT hZ (wi hw 58 rfl)) (mvT hZ (wi hw 59 rfl)) (notFace_of_selects (args := #[]) (mvT hZ (wi hw 61 rfl))) (mvT hZ (wi hw 61 rfl)) (mvT hZ (wi hw 60 rfl)) (by decide) (backOf (W := 0) (rmCo l Z a0 hw [] a1 a2 bco bnx bpv bfb bpd bip bfi ben [0, 1, 0, 1] [2, 3, -1, -1] [-1, -1, 0, 1] [0, 1, 0, 0] [0, 1, 0, 0] [1, 1, 0, 0] (2 : Int32) (2 : Int32) (3 : Int32) T1958.heap n0 z1958 B1958 (by decide)) hZ (wi hw 62 rfl) (wi hw 29 rfl) (by decide) (by decide)) q1964a q1964c (g := (mkF m 128 #[iv p1, iv p2, iv p3, iv (1 : Int32), iv (0 : Int32), iv (1 : Int32), rv a2, rv a1, iv (1 : Int32), iv (0 : Int32), iv (1 : Int32), uv, uv, uv, uv, uv, uv, uv] [(.int (3 : Int32)), (.ref a1)])) rfl (by rw [hml]; rfl) (Steps.refl _) (argsL := [(.int (3 : Int32))]) (rest := []) (lenOf pd_7 rfl) rfl (by show 2 * 0 + _ ≤ _; exact Nat.le_of_eq rfl) (hb hby at_128) (fun _ _ => ⟨rfl, e1962, (by decide : 15 + 0 ≤ _), (by decide : 70 + 0 ≤ _)⟩)
  dsimp only [Pt.U, Pt.locs, Pt.cells, Pt.slots] at X1964 l1964 y1964 z1964 st1964 hQ1964
  subst l1964 y1964 z1964
  obtain ⟨rfl, N1964q, e1964⟩ := hQ1964
  have N1964 := Fr.app N1962 N1964q
  refine Rch.to (U' := T1964.setTop (mkF m 131 #[iv p1, iv p2, iv p3, iv (1 : Int32), iv (0 : Int32), iv (1 : Int32), rv a2, rv a1, iv (1 : Int32), iv (0 : Int32), iv (1 : Int32), uv, uv, uv, uv, uv, uv, uv] [(.int (own_at [0, 1, 0, 1] (3 : Int32)))])) st1964 ?_
  rw [(by decide : (own_at [0, 1, 0, 1] (3 : Int32)) = (1 : Int32))]
  refine Rch.go (U' := T1964.setTop (mkF m 133 #[iv p1, iv p2, iv p3, iv (1 : Int32), iv (0 : Int32), iv (1 : Int32), rv a2, rv a1, iv (1 : Int32), iv (0 : Int32), iv (1 : Int32), uv, uv, uv, uv, uv, uv, uv] [(.int (1 : Int32)), (.int (1 : Int32))])) (fun _ k => XS.iload X1964.here hx rfl (hb hby at_131) rfl  k) ?_
  have br1965 : (1 : Int32) = (1 : Int32) := (by decide)
  refine Rch.go (U' := T1964.setTop (mkF m 136 #[iv p1, iv p2, iv p3, iv (1 : Int32), iv (0 : Int32), iv (1 : Int32), rv a2, rv a1, iv (1 : Int32), iv (0 : Int32), iv (1 : Int32), uv, uv, uv, uv, uv, uv, uv] [])) (fun _ k => XS.icmpNo X1964.here hx rfl (hb hby at_133) rfl (XT.ii_ne_f br1965) k) ?_
  refine Rch.go (U' := T1964.setTop (mkF m 138 #[iv p1, iv p2, iv p3, iv (1 : Int32), iv (0 : Int32), iv (1 : Int32), rv a2, rv a1, iv (1 : Int32), iv (0 : Int32), iv (1 : Int32), uv, uv, uv, uv, uv, uv, uv] [(.ref a1)])) (fun _ k => XS.aload X1964.here hx rfl (hb hby at_136) rfl rfl k) ?_
  obtain ⟨cq1966, kq1966, q1966a, q1966b, q1966c⟩ := isOf hZ e1964 B1958.1.1
  obtain ⟨_, _, ⟨T1966, L1966, k1966, n1966⟩, -, X1966, ⟨Lc1966, hQ1966, l1966, y1966, z1966⟩, st1966⟩ := X1964.virtualBack hx (y := yhs) (z := yhs) hown (mvT hZ (wi hw 63 rfl)) (mvT hZ (wi hw 64 rfl)) (notFace_of_selects (args := #[]) (mvT hZ (wi hw 66 rfl))) (mvT hZ (wi hw 66 rfl)) (mvT hZ (wi hw 65 rfl)) (by decide) (backOf (W := 0) (rmHs l Z a0 hw [] a1 a2 bco bnx bpv bfb bpd bip bfi ben [0, 1, 0, 1] [2, 3, -1, -1] [-1, -1, 0, 1] [0, 1, 0, 0] [0, 1, 0, 0] [1, 1, 0, 0] (2 : Int32) (2 : Int32)  T1958.heap n0 z1958 B1958 ) hZ (wi hw 67 rfl) (wi hw 29 rfl) (by decide) (by decide)) q1966a q1966c (g := (mkF m 138 #[iv p1, iv p2, iv p3, iv (1 : Int32), iv (0 : Int32), iv (1 : Int32), rv a2, rv a1, iv (1 : Int32), iv (0 : Int32), iv (1 : Int32), uv, uv, uv, uv, uv, uv, uv] [(.ref a1)])) rfl (by rw [hml]; rfl) (Steps.refl _) (argsL := []) (rest := []) (lenOf pd_15 rfl) rfl (by show 2 * 0 + _ ≤ _; exact Nat.le_of_eq rfl) (hb hby at_138) (fun _ _ => ⟨rfl, e1964, (by decide : 15 + 0 ≤ _), (by decide : 70 + 0 ≤ _)⟩)
  dsimp only [Pt.U, Pt.locs, Pt.cells, Pt.slots] at X1966 l1966 y1966 z1966 st1966 hQ1966
  subst l1966 y1966 z1966
  obtain ⟨rfl, N1966q, e1966⟩ := hQ1966
  have N1966 := Fr.app N1964 N1966q
  refine Rch.to (U' := T1966.setTop (mkF m 141 #[iv p1, iv p2, iv p3, iv (1 : Int32), iv (0 : Int32), iv (1 : Int32), rv a2, rv a1, iv (1 : Int32), iv (0 : Int32), iv (1 : Int32), uv, uv, uv, uv, uv, uv, uv] [(.int (own_pos (2 : Int32)))])) st1966 ?_
  rw [(by decide : (own_pos (2 : Int32)) = (1 : Int32))]
  have br1967 : ¬ ((1 : Int32) = (0 : Int32)) := (by decide)
  refine Rch.go (U' := T1966.setTop (mkF m 144 #[iv p1, iv p2, iv p3, iv (1 : Int32), iv (0 : Int32), iv (1 : Int32), rv a2, rv a1, iv (1 : Int32), iv (0 : Int32), iv (1 : Int32), uv, uv, uv, uv, uv, uv, uv] [])) (fun _ k => XS.ifNo X1966.here hx rfl (hb hby at_141) rfl (XT.i0_eq_f br1967) k) ?_
  refine Rch.go (U' := T1966.setTop (mkF m 146 #[iv p1, iv p2, iv p3, iv (1 : Int32), iv (0 : Int32), iv (1 : Int32), rv a2, rv a1, iv (1 : Int32), iv (0 : Int32), iv (1 : Int32), uv, uv, uv, uv, uv, uv, uv] [(.ref a1)])) (fun _ k => XS.aload X1966.here hx rfl (hb hby at_144) rfl rfl k) ?_
  obtain ⟨cq1968, kq1968, q1968a, q1968b, q1968c⟩ := isOf hZ e1966 B1958.1.1
  obtain ⟨_, _, ⟨T1968, L1968, k1968, n1968⟩, -, X1968, ⟨Lc1968, hQ1968, l1968, y1968, z1968⟩, st1968⟩ := X1966.virtualBack hx (y := yns) (z := yns) hown (mvT hZ (wi hw 68 rfl)) (mvT hZ (wi hw 69 rfl)) (notFace_of_selects (args := #[]) (mvT hZ (wi hw 71 rfl))) (mvT hZ (wi hw 71 rfl)) (mvT hZ (wi hw 70 rfl)) (by decide) (backOf (W := 0) (rmNs l Z a0 hw [] a1 a2 bco bnx bpv bfb bpd bip bfi ben [0, 1, 0, 1] [2, 3, -1, -1] [-1, -1, 0, 1] [0, 1, 0, 0] [0, 1, 0, 0] [1, 1, 0, 0] (2 : Int32) (2 : Int32)  T1958.heap n0 z1958 B1958 (by decide)) hZ (wi hw 72 rfl) (wi hw 29 rfl) (by decide) (by decide)) q1968a q1968c (g := (mkF m 146 #[iv p1, iv p2, iv p3, iv (1 : Int32), iv (0 : Int32), iv (1 : Int32), rv a2, rv a1, iv (1 : Int32), iv (0 : Int32), iv (1 : Int32), uv, uv, uv, uv, uv, uv, uv] [(.ref a1)])) rfl (by rw [hml]; rfl) (Steps.refl _) (argsL := []) (rest := []) (lenOf pd_14 rfl) rfl (by show 2 * 0 + _ ≤ _; exact Nat.le_of_eq rfl) (hb hby at_146) (fun _ _ => ⟨rfl, e1966, (by decide : 15 + 0 ≤ _), (by decide : 70 + 0 ≤ _)⟩)
  dsimp only [Pt.U, Pt.locs, Pt.cells, Pt.slots] at X1968 l1968 y1968 z1968 st1968 hQ1968
  subst l1968 y1968 z1968
  obtain ⟨rfl, N1968q, e1968⟩ := hQ1968
  have N1968 := Fr.app N1966 N1968q
  refine Rch.to (U' := T1968.setTop (mkF m 149 #[iv p1, iv p2, iv p3, iv (1 : Int32), iv (0 : Int32), iv (1 : Int32), rv a2, rv a1, iv (1 : Int32), iv (0 : Int32), iv (1 : Int32), uv, uv, uv, uv, uv, uv, uv] [(.int (own_at [0, 1, 0, 0] ((2 : Int32) - (1 : Int32))))])) st1968 ?_
  rw [(by decide : (own_at [0, 1, 0, 0] ((2 : Int32) - (1 : Int32))) = (1 : Int32))]
  refine Rch.go (U' := T1968.setTop (mkF m 151 #[iv p1, iv p2, iv p3, iv (1 : Int32), iv (0 : Int32), iv (1 : Int32), rv a2, rv a1, iv (1 : Int32), iv (0 : Int32), iv (1 : Int32), uv, uv, uv, uv, uv, uv, uv] [(.int (1 : Int32)), (.int (1 : Int32))])) (fun _ k => XS.iload X1968.here hx rfl (hb hby at_149) rfl  k) ?_
  have br1969 : (1 : Int32) = (1 : Int32) := (by decide)
  refine Rch.go (U' := T1968.setTop (mkF m 154 #[iv p1, iv p2, iv p3, iv (1 : Int32), iv (0 : Int32), iv (1 : Int32), rv a2, rv a1, iv (1 : Int32), iv (0 : Int32), iv (1 : Int32), uv, uv, uv, uv, uv, uv, uv] [])) (fun _ k => XS.icmpNo X1968.here hx rfl (hb hby at_151) rfl (XT.ii_ne_f br1969) k) ?_
  refine Rch.go (U' := T1968.setTop (mkF m 155 #[iv p1, iv p2, iv p3, iv (1 : Int32), iv (0 : Int32), iv (1 : Int32), rv a2, rv a1, iv (1 : Int32), iv (0 : Int32), iv (1 : Int32), uv, uv, uv, uv, uv, uv, uv] [(.int (1 : Int32))])) (fun _ k => XS.iconst X1968.here hx rfl (hb hby at_154) k) ?_
  refine Rch.go (U' := T1968.setTop (mkF m 159 #[iv p1, iv p2, iv p3, iv (1 : Int32), iv (0 : Int32), iv (1 : Int32), rv a2, rv a1, iv (1 : Int32), iv (0 : Int32), iv (1 : Int32), uv, uv, uv, uv, uv, uv, uv] [(.int (1 : Int32))])) (fun _ k => XS.goto X1968.here hx rfl (pc0 := 155) (pc' := 159) rfl (hb hby at_155) (by decide) (by decide) k) ?_
  refine Rch.go (U' := T1968.setTop (mkF m 161 #[iv p1, iv p2, iv p3, iv (1 : Int32), iv (0 : Int32), iv (1 : Int32), rv a2, rv a1, iv (1 : Int32), iv (0 : Int32), iv (1 : Int32), iv (1 : Int32), uv, uv, uv, uv, uv, uv] [])) (fun _ k => XS.istore X1968.here hx rfl (hb hby at_159) rfl (l' := #[iv p1, iv p2, iv p3, iv (1 : Int32), iv (0 : Int32), iv (1 : Int32), rv a2, rv a1, iv (1 : Int32), iv (0 : Int32), iv (1 : Int32), iv (1 : Int32), uv, uv, uv, uv, uv, uv]) rfl k) ?_
  refine Rch.go (U' := T1968.setTop (mkF m 163 #[iv p1, iv p2, iv p3, iv (1 : Int32), iv (0 : Int32), iv (1 : Int32), rv a2, rv a1, iv (1 : Int32), iv (0 : Int32), iv (1 : Int32), iv (1 : Int32), uv, uv, uv, uv, uv, uv] [(.int (1 : Int32))])) (fun _ k => XS.iload X1968.here hx rfl (hb hby at_161) rfl  k) ?_
  have br1970 : ¬ ((1 : Int32) = (0 : Int32)) := (by decide)
  refine Rch.go (U' := T1968.setTop (mkF m 168 #[iv p1, iv p2, iv p3, iv (1 : Int32), iv (0 : Int32), iv (1 : Int32), rv a2, rv a1, iv (1 : Int32), iv (0 : Int32), iv (1 : Int32), iv (1 : Int32), uv, uv, uv, uv, uv, uv] [])) (fun _ k => XS.ifYes X1968.here hx rfl (pc0 := 163) (pc' := 168) rfl (hb hby at_163) rfl (XT.i0_ne_t br1970) (by decide) (by decide) k) ?_
  refine Rch.go (U' := T1968.setTop (mkF m 170 #[iv p1, iv p2, iv p3, iv (1 : Int32), iv (0 : Int32), iv (1 : Int32), rv a2, rv a1, iv (1 : Int32), iv (0 : Int32), iv (1 : Int32), iv (1 : Int32), uv, uv, uv, uv, uv, uv] [(.int (1 : Int32))])) (fun _ k => XS.iload X1968.here hx rfl (hb hby at_168) rfl  k) ?_
  refine Rch.go (U' := T1968.setTop (mkF m 172 #[iv p1, iv p2, iv p3, iv (1 : Int32), iv (0 : Int32), iv (1 : Int32), rv a2, rv a1, iv (1 : Int32), iv (0 : Int32), iv (1 : Int32), iv (1 : Int32), uv, uv, uv, uv, uv, uv] [(.int (0 : Int32)), (.int (1 : Int32))])) (fun _ k => XS.iload X1968.here hx rfl (hb hby at_170) rfl  k) ?_
  have br1971 : ¬ ((1 : Int32) = (0 : Int32)) := (by decide)
  refine Rch.go (U' := T1968.setTop (mkF m 196 #[iv p1, iv p2, iv p3, iv (1 : Int32), iv (0 : Int32), iv (1 : Int32), rv a2, rv a1, iv (1 : Int32), iv (0 : Int32), iv (1 : Int32), iv (1 : Int32), uv, uv, uv, uv, uv, uv] [])) (fun _ k => XS.icmpYes X1968.here hx rfl (pc0 := 172) (pc' := 196) rfl (hb hby at_172) rfl (XT.ii_ne_t br1971) (by decide) (by decide) k) ?_
  refine Rch.go (U' := T1968.setTop (mkF m 198 #[iv p1, iv p2, iv p3, iv (1 : Int32), iv (0 : Int32), iv (1 : Int32), rv a2, rv a1, iv (1 : Int32), iv (0 : Int32), iv (1 : Int32), iv (1 : Int32), uv, uv, uv, uv, uv, uv] [(.int (1 : Int32))])) (fun _ k => XS.iload X1968.here hx rfl (hb hby at_196) rfl  k) ?_
  refine Rch.go (U' := T1968.setTop (mkF m 200 #[iv p1, iv p2, iv p3, iv (1 : Int32), iv (0 : Int32), iv (1 : Int32), rv a2, rv a1, iv (1 : Int32), iv (0 : Int32), iv (1 : Int32), iv (1 : Int32), iv (1 : Int32), uv, uv, uv, uv, uv] [])) (fun _ k => XS.istore X1968.here hx rfl (hb hby at_198) rfl (l' := #[iv p1, iv p2, iv p3, iv (1 : Int32), iv (0 : Int32), iv (1 : Int32), rv a2, rv a1, iv (1 : Int32), iv (0 : Int32), iv (1 : Int32), iv (1 : Int32), iv (1 : Int32), uv, uv, uv, uv, uv]) rfl k) ?_
  refine Rch.go (U' := T1968.setTop (mkF m 201 #[iv p1, iv p2, iv p3, iv (1 : Int32), iv (0 : Int32), iv (1 : Int32), rv a2, rv a1, iv (1 : Int32), iv (0 : Int32), iv (1 : Int32), iv (1 : Int32), iv (1 : Int32), uv, uv, uv, uv, uv] [(.int (3 : Int32))])) (fun _ k => XS.iconst X1968.here hx rfl (hb hby at_200) k) ?_
  refine Rch.go (U' := T1968.setTop (mkF m 203 #[iv p1, iv p2, iv p3, iv (1 : Int32), iv (0 : Int32), iv (1 : Int32), rv a2, rv a1, iv (1 : Int32), iv (0 : Int32), iv (1 : Int32), iv (1 : Int32), iv (1 : Int32), iv (3 : Int32), uv, uv, uv, uv] [])) (fun _ k => XS.istore X1968.here hx rfl (hb hby at_201) rfl (l' := #[iv p1, iv p2, iv p3, iv (1 : Int32), iv (0 : Int32), iv (1 : Int32), rv a2, rv a1, iv (1 : Int32), iv (0 : Int32), iv (1 : Int32), iv (1 : Int32), iv (1 : Int32), iv (3 : Int32), uv, uv, uv, uv]) rfl k) ?_
  refine Rch.go (U' := T1968.setTop (mkF m 205 #[iv p1, iv p2, iv p3, iv (1 : Int32), iv (0 : Int32), iv (1 : Int32), rv a2, rv a1, iv (1 : Int32), iv (0 : Int32), iv (1 : Int32), iv (1 : Int32), iv (1 : Int32), iv (3 : Int32), uv, uv, uv, uv] [(.int (1 : Int32))])) (fun _ k => XS.iload X1968.here hx rfl (hb hby at_203) rfl  k) ?_
  have br1972 : ¬ ((1 : Int32) = (0 : Int32)) := (by decide)
  refine Rch.go (U' := T1968.setTop (mkF m 213 #[iv p1, iv p2, iv p3, iv (1 : Int32), iv (0 : Int32), iv (1 : Int32), rv a2, rv a1, iv (1 : Int32), iv (0 : Int32), iv (1 : Int32), iv (1 : Int32), iv (1 : Int32), iv (3 : Int32), uv, uv, uv, uv] [])) (fun _ k => XS.ifYes X1968.here hx rfl (pc0 := 205) (pc' := 213) rfl (hb hby at_205) rfl (XT.i0_ne_t br1972) (by decide) (by decide) k) ?_
  refine Rch.go (U' := T1968.setTop (mkF m 215 #[iv p1, iv p2, iv p3, iv (1 : Int32), iv (0 : Int32), iv (1 : Int32), rv a2, rv a1, iv (1 : Int32), iv (0 : Int32), iv (1 : Int32), iv (1 : Int32), iv (1 : Int32), iv (3 : Int32), uv, uv, uv, uv] [(.int (1 : Int32))])) (fun _ k => XS.iload X1968.here hx rfl (hb hby at_213) rfl  k) ?_
  refine Rch.go (U' := T1968.setTop (mkF m 217 #[iv p1, iv p2, iv p3, iv (1 : Int32), iv (0 : Int32), iv (1 : Int32), rv a2, rv a1, iv (1 : Int32), iv (0 : Int32), iv (1 : Int32), iv (1 : Int32), iv (1 : Int32), iv (3 : Int32), iv (1 : Int32), uv, uv, uv] [])) (fun _ k => XS.istore X1968.here hx rfl (hb hby at_215) rfl (l' := #[iv p1, iv p2, iv p3, iv (1 : Int32), iv (0 : Int32), iv (1 : Int32), rv a2, rv a1, iv (1 : Int32), iv (0 : Int32), iv (1 : Int32), iv (1 : Int32), iv (1 : Int32), iv (3 : Int32), iv (1 : Int32), uv, uv, uv]) rfl k) ?_
  refine Rch.go (U' := T1968.setTop (mkF m 219 #[iv p1, iv p2, iv p3, iv (1 : Int32), iv (0 : Int32), iv (1 : Int32), rv a2, rv a1, iv (1 : Int32), iv (0 : Int32), iv (1 : Int32), iv (1 : Int32), iv (1 : Int32), iv (3 : Int32), iv (1 : Int32), uv, uv, uv] [(.ref a1)])) (fun _ k => XS.aload X1968.here hx rfl (hb hby at_217) rfl rfl k) ?_
  obtain ⟨cq1973, kq1973, q1973a, q1973b, q1973c⟩ := isOf hZ e1968 B1958.1.1
  obtain ⟨_, _, ⟨T1973, L1973, k1973, n1973⟩, -, X1973, ⟨Lc1973, hQ1973, l1973, y1973, z1973⟩, st1973⟩ := X1968.virtualBack hx (y := yt) (z := yt) hown (mvT hZ (wi hw 73 rfl)) (mvT hZ (wi hw 74 rfl)) (notFace_of_selects (args := #[]) (mvT hZ (wi hw 76 rfl))) (mvT hZ (wi hw 76 rfl)) (mvT hZ (wi hw 75 rfl)) (by decide) (backOf (W := 0) (rmT l Z a0 hw [] a1 a2 bco bnx bpv bfb bpd bip bfi ben [0, 1, 0, 1] [2, 3, -1, -1] [-1, -1, 0, 1] [0, 1, 0, 0] [0, 1, 0, 0] [1, 1, 0, 0] (2 : Int32) (2 : Int32) T1958.heap n0 z1958 B1958 (by decide)) hZ (wi hw 77 rfl) (wi hw 29 rfl) (by decide) (by decide)) q1973a q1973c (g := (mkF m 219 #[iv p1, iv p2, iv p3, iv (1 : Int32), iv (0 : Int32), iv (1 : Int32), rv a2, rv a1, iv (1 : Int32), iv (0 : Int32), iv (1 : Int32), iv (1 : Int32), iv (1 : Int32), iv (3 : Int32), iv (1 : Int32), uv, uv, uv] [(.ref a1)])) rfl (by rw [hml]; rfl) (Steps.refl _) (argsL := []) (rest := []) (lenOf pd_14 rfl) rfl (by show 2 * 0 + _ ≤ _; exact Nat.le_of_eq rfl) (hb hby at_219) (fun _ _ => ⟨rfl, e1968, (by decide : 15 + 0 ≤ _), (by decide : 70 + 0 ≤ _)⟩)
  dsimp only [Pt.U, Pt.locs, Pt.cells, Pt.slots] at X1973 l1973 y1973 z1973 st1973 hQ1973
  subst l1973 y1973 z1973
  obtain ⟨rfl, N1973q, z1973, C1973⟩ := hQ1973
  have N1973 := Fr.app N1968 N1973q
  rw [(by rfl : own_take [0, 1, 0, 1] [2, 3, -1, -1] [-1, -1, 0, 1] [0, 1, 0, 0] [0, 1, 0, 0] [1, 1, 0, 0] (2 : Int32) (2 : Int32) = ([0, 2, 0, 1], [2, -1, -1, -1], [-1, -1, 0, -1], [0, 3, 1, 0], [0, 1, 0, 0], [1, 0, 0, 0], (3 : Int32), (1 : Int32)))] at C1973
  have B1973 : Cb Z T1973.heap n0 a1 a2 bco bnx bpv bfb bpd bip bfi ben [0, 2, 0, 1] [2, -1, -1, -1] [-1, -1, 0, -1] [0, 3, 1, 0] [0, 1, 0, 0] [1, 0, 0, 0] (3 : Int32) (1 : Int32) := C1973
  refine Rch.to (U' := T1973.setTop (mkF m 222 #[iv p1, iv p2, iv p3, iv (1 : Int32), iv (0 : Int32), iv (1 : Int32), rv a2, rv a1, iv (1 : Int32), iv (0 : Int32), iv (1 : Int32), iv (1 : Int32), iv (1 : Int32), iv (3 : Int32), iv (1 : Int32), uv, uv, uv] [(.int (own_sp [2, 3, -1, -1] [0, 1, 0, 0] [0, 1, 0, 0] (2 : Int32)))])) st1973 ?_
  rw [(by decide : own_sp [2, 3, -1, -1] [0, 1, 0, 0] [0, 1, 0, 0] (2 : Int32) = (1 : Int32))]
  refine Rch.go (U' := T1973.setTop (mkF m 224 #[iv p1, iv p2, iv p3, iv (1 : Int32), iv (0 : Int32), iv (1 : Int32), rv a2, rv a1, iv (1 : Int32), iv (0 : Int32), iv (1 : Int32), iv (1 : Int32), iv (1 : Int32), iv (3 : Int32), iv (1 : Int32), iv (1 : Int32), uv, uv] [])) (fun _ k => XS.istore X1973.here hx rfl (hb hby at_222) rfl (l' := #[iv p1, iv p2, iv p3, iv (1 : Int32), iv (0 : Int32), iv (1 : Int32), rv a2, rv a1, iv (1 : Int32), iv (0 : Int32), iv (1 : Int32), iv (1 : Int32), iv (1 : Int32), iv (3 : Int32), iv (1 : Int32), iv (1 : Int32), uv, uv]) rfl k) ?_
  refine Rch.go (U' := T1973.setTop (mkF m 226 #[iv p1, iv p2, iv p3, iv (1 : Int32), iv (0 : Int32), iv (1 : Int32), rv a2, rv a1, iv (1 : Int32), iv (0 : Int32), iv (1 : Int32), iv (1 : Int32), iv (1 : Int32), iv (3 : Int32), iv (1 : Int32), iv (1 : Int32), uv, uv] [(.int (1 : Int32))])) (fun _ k => XS.iload X1973.here hx rfl (hb hby at_224) rfl  k) ?_
  refine Rch.go (U' := T1973.setTop (mkF m 228 #[iv p1, iv p2, iv p3, iv (1 : Int32), iv (0 : Int32), iv (1 : Int32), rv a2, rv a1, iv (1 : Int32), iv (0 : Int32), iv (1 : Int32), iv (1 : Int32), iv (1 : Int32), iv (3 : Int32), iv (1 : Int32), iv (1 : Int32), uv, uv] [(.int (1 : Int32)), (.int (1 : Int32))])) (fun _ k => XS.iload X1973.here hx rfl (hb hby at_226) rfl  k) ?_
  have br1974 : (1 : Int32) = (1 : Int32) := (by decide)
  refine Rch.go (U' := T1973.setTop (mkF m 231 #[iv p1, iv p2, iv p3, iv (1 : Int32), iv (0 : Int32), iv (1 : Int32), rv a2, rv a1, iv (1 : Int32), iv (0 : Int32), iv (1 : Int32), iv (1 : Int32), iv (1 : Int32), iv (3 : Int32), iv (1 : Int32), iv (1 : Int32), uv, uv] [])) (fun _ k => XS.icmpNo X1973.here hx rfl (hb hby at_228) rfl (XT.ii_ne_f br1974) k) ?_
  refine Rch.go (U' := T1973.setTop (mkF m 233 #[iv p1, iv p2, iv p3, iv (1 : Int32), iv (0 : Int32), iv (1 : Int32), rv a2, rv a1, iv (1 : Int32), iv (0 : Int32), iv (1 : Int32), iv (1 : Int32), iv (1 : Int32), iv (3 : Int32), iv (1 : Int32), iv (1 : Int32), uv, uv] [(.ref a1)])) (fun _ k => XS.aload X1973.here hx rfl (hb hby at_231) rfl rfl k) ?_
  obtain ⟨cq1975, kq1975, q1975a, q1975b, q1975c⟩ := isOf hZ rfl B1973.1.1
  obtain ⟨_, _, ⟨T1975, L1975, k1975, n1975⟩, -, X1975, ⟨Lc1975, hQ1975, l1975, y1975, z1975⟩, st1975⟩ := X1973.virtualBack hx (y := yhs) (z := yhs) hown (mvT hZ (wi hw 63 rfl)) (mvT hZ (wi hw 64 rfl)) (notFace_of_selects (args := #[]) (mvT hZ (wi hw 66 rfl))) (mvT hZ (wi hw 66 rfl)) (mvT hZ (wi hw 65 rfl)) (by decide) (backOf (W := 0) (rmHs l Z a0 hw [] a1 a2 bco bnx bpv bfb bpd bip bfi ben [0, 2, 0, 1] [2, -1, -1, -1] [-1, -1, 0, -1] [0, 3, 1, 0] [0, 1, 0, 0] [1, 0, 0, 0] (3 : Int32) (1 : Int32)  T1973.heap n0 z1973 B1973 ) hZ (wi hw 67 rfl) (wi hw 29 rfl) (by decide) (by decide)) q1975a q1975c (g := (mkF m 233 #[iv p1, iv p2, iv p3, iv (1 : Int32), iv (0 : Int32), iv (1 : Int32), rv a2, rv a1, iv (1 : Int32), iv (0 : Int32), iv (1 : Int32), iv (1 : Int32), iv (1 : Int32), iv (3 : Int32), iv (1 : Int32), iv (1 : Int32), uv, uv] [(.ref a1)])) rfl (by rw [hml]; rfl) (Steps.refl _) (argsL := []) (rest := []) (lenOf pd_15 rfl) rfl (by show 2 * 0 + _ ≤ _; exact Nat.le_of_eq rfl) (hb hby at_233) (fun _ _ => ⟨rfl, rfl, (by decide : 15 + 0 ≤ _), (by decide : 70 + 0 ≤ _)⟩)
  dsimp only [Pt.U, Pt.locs, Pt.cells, Pt.slots] at X1975 l1975 y1975 z1975 st1975 hQ1975
  subst l1975 y1975 z1975
  obtain ⟨rfl, N1975q, e1975⟩ := hQ1975
  have N1975 := Fr.app N1973 N1975q
  refine Rch.to (U' := T1975.setTop (mkF m 236 #[iv p1, iv p2, iv p3, iv (1 : Int32), iv (0 : Int32), iv (1 : Int32), rv a2, rv a1, iv (1 : Int32), iv (0 : Int32), iv (1 : Int32), iv (1 : Int32), iv (1 : Int32), iv (3 : Int32), iv (1 : Int32), iv (1 : Int32), uv, uv] [(.int (own_pos (1 : Int32)))])) st1975 ?_
  rw [(by decide : (own_pos (1 : Int32)) = (1 : Int32))]
  have br1976 : ¬ ((1 : Int32) = (0 : Int32)) := (by decide)
  refine Rch.go (U' := T1975.setTop (mkF m 239 #[iv p1, iv p2, iv p3, iv (1 : Int32), iv (0 : Int32), iv (1 : Int32), rv a2, rv a1, iv (1 : Int32), iv (0 : Int32), iv (1 : Int32), iv (1 : Int32), iv (1 : Int32), iv (3 : Int32), iv (1 : Int32), iv (1 : Int32), uv, uv] [])) (fun _ k => XS.ifNo X1975.here hx rfl (hb hby at_236) rfl (XT.i0_eq_f br1976) k) ?_
  refine Rch.go (U' := T1975.setTop (mkF m 241 #[iv p1, iv p2, iv p3, iv (1 : Int32), iv (0 : Int32), iv (1 : Int32), rv a2, rv a1, iv (1 : Int32), iv (0 : Int32), iv (1 : Int32), iv (1 : Int32), iv (1 : Int32), iv (3 : Int32), iv (1 : Int32), iv (1 : Int32), uv, uv] [(.ref a1)])) (fun _ k => XS.aload X1975.here hx rfl (hb hby at_239) rfl rfl k) ?_
  obtain ⟨cq1977, kq1977, q1977a, q1977b, q1977c⟩ := isOf hZ e1975 B1973.1.1
  obtain ⟨_, _, ⟨T1977, L1977, k1977, n1977⟩, -, X1977, ⟨Lc1977, hQ1977, l1977, y1977, z1977⟩, st1977⟩ := X1975.virtualBack hx (y := yns) (z := yns) hown (mvT hZ (wi hw 68 rfl)) (mvT hZ (wi hw 69 rfl)) (notFace_of_selects (args := #[]) (mvT hZ (wi hw 71 rfl))) (mvT hZ (wi hw 71 rfl)) (mvT hZ (wi hw 70 rfl)) (by decide) (backOf (W := 0) (rmNs l Z a0 hw [] a1 a2 bco bnx bpv bfb bpd bip bfi ben [0, 2, 0, 1] [2, -1, -1, -1] [-1, -1, 0, -1] [0, 3, 1, 0] [0, 1, 0, 0] [1, 0, 0, 0] (3 : Int32) (1 : Int32)  T1973.heap n0 z1973 B1973 (by decide)) hZ (wi hw 72 rfl) (wi hw 29 rfl) (by decide) (by decide)) q1977a q1977c (g := (mkF m 241 #[iv p1, iv p2, iv p3, iv (1 : Int32), iv (0 : Int32), iv (1 : Int32), rv a2, rv a1, iv (1 : Int32), iv (0 : Int32), iv (1 : Int32), iv (1 : Int32), iv (1 : Int32), iv (3 : Int32), iv (1 : Int32), iv (1 : Int32), uv, uv] [(.ref a1)])) rfl (by rw [hml]; rfl) (Steps.refl _) (argsL := []) (rest := []) (lenOf pd_14 rfl) rfl (by show 2 * 0 + _ ≤ _; exact Nat.le_of_eq rfl) (hb hby at_241) (fun _ _ => ⟨rfl, e1975, (by decide : 15 + 0 ≤ _), (by decide : 70 + 0 ≤ _)⟩)
  dsimp only [Pt.U, Pt.locs, Pt.cells, Pt.slots] at X1977 l1977 y1977 z1977 st1977 hQ1977
  subst l1977 y1977 z1977
  obtain ⟨rfl, N1977q, e1977⟩ := hQ1977
  have N1977 := Fr.app N1975 N1977q
  refine Rch.to (U' := T1977.setTop (mkF m 244 #[iv p1, iv p2, iv p3, iv (1 : Int32), iv (0 : Int32), iv (1 : Int32), rv a2, rv a1, iv (1 : Int32), iv (0 : Int32), iv (1 : Int32), iv (1 : Int32), iv (1 : Int32), iv (3 : Int32), iv (1 : Int32), iv (1 : Int32), uv, uv] [(.int (own_at [0, 1, 0, 0] ((1 : Int32) - (1 : Int32))))])) st1977 ?_
  rw [(by decide : (own_at [0, 1, 0, 0] ((1 : Int32) - (1 : Int32))) = (0 : Int32))]
  refine Rch.go (U' := T1977.setTop (mkF m 246 #[iv p1, iv p2, iv p3, iv (1 : Int32), iv (0 : Int32), iv (1 : Int32), rv a2, rv a1, iv (1 : Int32), iv (0 : Int32), iv (1 : Int32), iv (1 : Int32), iv (1 : Int32), iv (3 : Int32), iv (1 : Int32), iv (1 : Int32), uv, uv] [(.int (0 : Int32)), (.int (0 : Int32))])) (fun _ k => XS.iload X1977.here hx rfl (hb hby at_244) rfl  k) ?_
  have br1978 : (0 : Int32) = (0 : Int32) := (by decide)
  refine Rch.go (U' := T1977.setTop (mkF m 249 #[iv p1, iv p2, iv p3, iv (1 : Int32), iv (0 : Int32), iv (1 : Int32), rv a2, rv a1, iv (1 : Int32), iv (0 : Int32), iv (1 : Int32), iv (1 : Int32), iv (1 : Int32), iv (3 : Int32), iv (1 : Int32), iv (1 : Int32), uv, uv] [])) (fun _ k => XS.icmpNo X1977.here hx rfl (hb hby at_246) rfl (XT.ii_ne_f br1978) k) ?_
  refine Rch.go (U' := T1977.setTop (mkF m 250 #[iv p1, iv p2, iv p3, iv (1 : Int32), iv (0 : Int32), iv (1 : Int32), rv a2, rv a1, iv (1 : Int32), iv (0 : Int32), iv (1 : Int32), iv (1 : Int32), iv (1 : Int32), iv (3 : Int32), iv (1 : Int32), iv (1 : Int32), uv, uv] [(.int (1 : Int32))])) (fun _ k => XS.iconst X1977.here hx rfl (hb hby at_249) k) ?_
  refine Rch.go (U' := T1977.setTop (mkF m 254 #[iv p1, iv p2, iv p3, iv (1 : Int32), iv (0 : Int32), iv (1 : Int32), rv a2, rv a1, iv (1 : Int32), iv (0 : Int32), iv (1 : Int32), iv (1 : Int32), iv (1 : Int32), iv (3 : Int32), iv (1 : Int32), iv (1 : Int32), uv, uv] [(.int (1 : Int32))])) (fun _ k => XS.goto X1977.here hx rfl (pc0 := 250) (pc' := 254) rfl (hb hby at_250) (by decide) (by decide) k) ?_
  refine Rch.fin X1977 hlk (v := some (.int (nar .boolean (1 : Int32)))) (fun h => by rw [hret] at h; cases h) e1977 (by decide) (by decide) (fun fs hr => retN X1977 hx (t := .boolean) hret (by simp) (hb hby at_254) hr) ?_
  exact ⟨rfl, N1977⟩
set_option maxRecDepth 65536 in
set_option maxHeartbeats 40000000 in
theorem cut54_102 {p : Program} {l : Launch} {e : Env} {s : State} {m : MethodId} {args : Array Value} {below : List Frame} {meth : Method} {c : Code} {T0 : State} {locs : List Loc} {Z : State} {a0 : Array Value} {h0 : Heap} {n0 : Nat}  (p1 : Int32) (p2 : Int32) (p3 : Int32) (a1 : Addr) (a2 : Addr) (bco : Addr) (bnx : Addr) (bpv : Addr) (bfb : Addr) (bpd : Addr) (bip : Addr) (bfi : Addr) (ben : Addr)
    (X0 : Stand p l e room_1 s m args below meth c T0 locs 15 70) (hx : p.tables.exec = Jvm.exec) (hZ : Z.Warmed39 s.vm) (hw : ∀ d ∈ tables_1, d.before a0 Z = true) (hby : c.code = code) (hml : c.maxLocals = 18) (hown : s.vm.findClass cLW = some m.cls) (hret : meth.sig.returnType = some .boolean) (hlk : meth.locks = false) (e0 : T0.heap = h0) (N0 : Fr n0 locs) (Z0 : n0 ≤ h0.size) (B : Cb Z h0 n0 a1 a2 bco bnx bpv bfb bpd bip bfi ben [0, 0, 0, 0] [1, -1, 0, 0] [-1, 0, 0, 0] [0, 0, 0, 0] [0, 0, 0, 0] [1, 0, 0, 0] (1 : Int32) (1 : Int32)) :
    Rch p e below (Fin s below (fun v h L => v = some (.int 1) ∧ Fr n0 L) 40 256) (T0.setTop (mkF m 54 #[iv p1, iv p2, iv p3, iv (1 : Int32), iv (0 : Int32), iv (2 : Int32), rv a2, rv a1, uv, uv, uv, uv, uv, uv, uv, uv, uv, uv] [])) := by
  refine Rch.go (U' := T0.setTop (mkF m 55 #[iv p1, iv p2, iv p3, iv (1 : Int32), iv (0 : Int32), iv (2 : Int32), rv a2, rv a1, uv, uv, uv, uv, uv, uv, uv, uv, uv, uv] [(.int (1 : Int32))])) (fun _ k => XS.iloadN X0.here hx rfl (hb hby at_54) rfl  k) ?_
  have br1979 : ¬ ((1 : Int32) = (0 : Int32)) := (by decide)
  refine Rch.go (U' := T0.setTop (mkF m 58 #[iv p1, iv p2, iv p3, iv (1 : Int32), iv (0 : Int32), iv (2 : Int32), rv a2, rv a1, uv, uv, uv, uv, uv, uv, uv, uv, uv, uv] [])) (fun _ k => XS.ifNo X0.here hx rfl (hb hby at_55) rfl (XT.i0_eq_f br1979) k) ?_
  refine Rch.go (U' := T0.setTop (mkF m 60 #[iv p1, iv p2, iv p3, iv (1 : Int32), iv (0 : Int32), iv (2 : Int32), rv a2, rv a1, uv, uv, uv, uv, uv, uv, uv, uv, uv, uv] [(.ref a1)])) (fun _ k => XS.aload X0.here hx rfl (hb hby at_58) rfl rfl k) ?_
  obtain ⟨cq1980, kq1980, q1980a, q1980b, q1980c⟩ := isOf hZ e0 B.1.1
  obtain ⟨_, _, ⟨T1980, L1980, k1980, n1980⟩, -, X1980, ⟨Lc1980, hQ1980, l1980, y1980, z1980⟩, st1980⟩ := X0.virtualBack hx (y := yt) (z := yt) hown (mvT hZ (wi hw 73 rfl)) (mvT hZ (wi hw 74 rfl)) (notFace_of_selects (args := #[]) (mvT hZ (wi hw 76 rfl))) (mvT hZ (wi hw 76 rfl)) (mvT hZ (wi hw 75 rfl)) (by decide) (backOf (W := 0) (rmT l Z a0 hw [] a1 a2 bco bnx bpv bfb bpd bip bfi ben [0, 0, 0, 0] [1, -1, 0, 0] [-1, 0, 0, 0] [0, 0, 0, 0] [0, 0, 0, 0] [1, 0, 0, 0] (1 : Int32) (1 : Int32) h0 n0 Z0 B (by decide)) hZ (wi hw 77 rfl) (wi hw 29 rfl) (by decide) (by decide)) q1980a q1980c (g := (mkF m 60 #[iv p1, iv p2, iv p3, iv (1 : Int32), iv (0 : Int32), iv (2 : Int32), rv a2, rv a1, uv, uv, uv, uv, uv, uv, uv, uv, uv, uv] [(.ref a1)])) rfl (by rw [hml]; rfl) (Steps.refl _) (argsL := []) (rest := []) (lenOf pd_14 rfl) rfl (by show 2 * 0 + _ ≤ _; exact Nat.le_of_eq rfl) (hb hby at_60) (fun _ _ => ⟨rfl, e0, (by decide : 15 + 0 ≤ _), (by decide : 70 + 0 ≤ _)⟩)
  dsimp only [Pt.U, Pt.locs, Pt.cells, Pt.slots] at X1980 l1980 y1980 z1980 st1980 hQ1980
  subst l1980 y1980 z1980
  obtain ⟨rfl, N1980q, z1980, C1980⟩ := hQ1980
  have N1980 := Fr.app N0 N1980q
  rw [(by rfl : own_take [0, 0, 0, 0] [1, -1, 0, 0] [-1, 0, 0, 0] [0, 0, 0, 0] [0, 0, 0, 0] [1, 0, 0, 0] (1 : Int32) (1 : Int32) = ([0, 1, 0, 0], [-1, -1, 0, 0], [-1, -1, 0, 0], [0, 1, 0, 0], [0, 0, 0, 0], [0, 0, 0, 0], (2 : Int32), (0 : Int32)))] at C1980
  have B1980 : Cb Z T1980.heap n0 a1 a2 bco bnx bpv bfb bpd bip bfi ben [0, 1, 0, 0] [-1, -1, 0, 0] [-1, -1, 0, 0] [0, 1, 0, 0] [0, 0, 0, 0] [0, 0, 0, 0] (2 : Int32) (0 : Int32) := C1980
  refine Rch.to (U' := T1980.setTop (mkF m 63 #[iv p1, iv p2, iv p3, iv (1 : Int32), iv (0 : Int32), iv (2 : Int32), rv a2, rv a1, uv, uv, uv, uv, uv, uv, uv, uv, uv, uv] [(.int (own_sp [1, -1, 0, 0] [0, 0, 0, 0] [0, 0, 0, 0] (1 : Int32)))])) st1980 ?_
  rw [(by decide : own_sp [1, -1, 0, 0] [0, 0, 0, 0] [0, 0, 0, 0] (1 : Int32) = (1 : Int32))]
  refine Rch.go (U' := T1980.setTop (mkF m 65 #[iv p1, iv p2, iv p3, iv (1 : Int32), iv (0 : Int32), iv (2 : Int32), rv a2, rv a1, iv (1 : Int32), uv, uv, uv, uv, uv, uv, uv, uv, uv] [])) (fun _ k => XS.istore X1980.here hx rfl (hb hby at_63) rfl (l' := #[iv p1, iv p2, iv p3, iv (1 : Int32), iv (0 : Int32), iv (2 : Int32), rv a2, rv a1, iv (1 : Int32), uv, uv, uv, uv, uv, uv, uv, uv, uv]) rfl k) ?_
  refine Rch.go (U' := T1980.setTop (mkF m 67 #[iv p1, iv p2, iv p3, iv (1 : Int32), iv (0 : Int32), iv (2 : Int32), rv a2, rv a1, iv (1 : Int32), uv, uv, uv, uv, uv, uv, uv, uv, uv] [(.ref a1)])) (fun _ k => XS.aload X1980.here hx rfl (hb hby at_65) rfl rfl k) ?_
  obtain ⟨cq1981, kq1981, q1981a, q1981b, q1981c⟩ := isOf hZ rfl B1980.1.1
  obtain ⟨_, _, ⟨T1981, L1981, k1981, n1981⟩, -, X1981, ⟨Lc1981, hQ1981, l1981, y1981, z1981⟩, st1981⟩ := X1980.virtualBack hx (y := yhs) (z := yhs) hown (mvT hZ (wi hw 63 rfl)) (mvT hZ (wi hw 64 rfl)) (notFace_of_selects (args := #[]) (mvT hZ (wi hw 66 rfl))) (mvT hZ (wi hw 66 rfl)) (mvT hZ (wi hw 65 rfl)) (by decide) (backOf (W := 0) (rmHs l Z a0 hw [] a1 a2 bco bnx bpv bfb bpd bip bfi ben [0, 1, 0, 0] [-1, -1, 0, 0] [-1, -1, 0, 0] [0, 1, 0, 0] [0, 0, 0, 0] [0, 0, 0, 0] (2 : Int32) (0 : Int32)  T1980.heap n0 z1980 B1980 ) hZ (wi hw 67 rfl) (wi hw 29 rfl) (by decide) (by decide)) q1981a q1981c (g := (mkF m 67 #[iv p1, iv p2, iv p3, iv (1 : Int32), iv (0 : Int32), iv (2 : Int32), rv a2, rv a1, iv (1 : Int32), uv, uv, uv, uv, uv, uv, uv, uv, uv] [(.ref a1)])) rfl (by rw [hml]; rfl) (Steps.refl _) (argsL := []) (rest := []) (lenOf pd_15 rfl) rfl (by show 2 * 0 + _ ≤ _; exact Nat.le_of_eq rfl) (hb hby at_67) (fun _ _ => ⟨rfl, rfl, (by decide : 15 + 0 ≤ _), (by decide : 70 + 0 ≤ _)⟩)
  dsimp only [Pt.U, Pt.locs, Pt.cells, Pt.slots] at X1981 l1981 y1981 z1981 st1981 hQ1981
  subst l1981 y1981 z1981
  obtain ⟨rfl, N1981q, e1981⟩ := hQ1981
  have N1981 := Fr.app N1980 N1981q
  refine Rch.to (U' := T1981.setTop (mkF m 70 #[iv p1, iv p2, iv p3, iv (1 : Int32), iv (0 : Int32), iv (2 : Int32), rv a2, rv a1, iv (1 : Int32), uv, uv, uv, uv, uv, uv, uv, uv, uv] [(.int (own_pos (0 : Int32)))])) st1981 ?_
  rw [(by decide : (own_pos (0 : Int32)) = (0 : Int32))]
  refine Rch.go (U' := T1981.setTop (mkF m 72 #[iv p1, iv p2, iv p3, iv (1 : Int32), iv (0 : Int32), iv (2 : Int32), rv a2, rv a1, iv (1 : Int32), iv (0 : Int32), uv, uv, uv, uv, uv, uv, uv, uv] [])) (fun _ k => XS.istore X1981.here hx rfl (hb hby at_70) rfl (l' := #[iv p1, iv p2, iv p3, iv (1 : Int32), iv (0 : Int32), iv (2 : Int32), rv a2, rv a1, iv (1 : Int32), iv (0 : Int32), uv, uv, uv, uv, uv, uv, uv, uv]) rfl k) ?_
  refine Rch.go (U' := T1981.setTop (mkF m 74 #[iv p1, iv p2, iv p3, iv (1 : Int32), iv (0 : Int32), iv (2 : Int32), rv a2, rv a1, iv (1 : Int32), iv (0 : Int32), uv, uv, uv, uv, uv, uv, uv, uv] [(.ref a1)])) (fun _ k => XS.aload X1981.here hx rfl (hb hby at_72) rfl rfl k) ?_
  refine Rch.go (U' := T1981.setTop (mkF m 76 #[iv p1, iv p2, iv p3, iv (1 : Int32), iv (0 : Int32), iv (2 : Int32), rv a2, rv a1, iv (1 : Int32), iv (0 : Int32), uv, uv, uv, uv, uv, uv, uv, uv] [(.int (0 : Int32)), (.ref a1)])) (fun _ k => XS.iload X1981.here hx rfl (hb hby at_74) rfl  k) ?_
  refine Rch.go (U' := T1981.setTop (mkF m 77 #[iv p1, iv p2, iv p3, iv (1 : Int32), iv (0 : Int32), iv (2 : Int32), rv a2, rv a1, iv (1 : Int32), iv (0 : Int32), uv, uv, uv, uv, uv, uv, uv, uv] [(.int (2 : Int32)), (.int (0 : Int32)), (.ref a1)])) (fun _ k => XS.iconst X1981.here hx rfl (hb hby at_76) k) ?_
  obtain ⟨cq1982, kq1982, q1982a, q1982b, q1982c⟩ := isOf hZ e1981 B1980.1.1
  obtain ⟨_, _, ⟨T1982, L1982, k1982, n1982⟩, -, X1982, ⟨Lc1982, hQ1982, l1982, y1982, z1982⟩, st1982⟩ := X1981.virtualBack hx (y := yj) (z := yj) hown (mvT hZ (wi hw 51 rfl)) (mvT hZ (wi hw 52 rfl)) (notFace_of_selects (args := #[]) (mvT hZ (wi hw 54 rfl))) (mvT hZ (wi hw 54 rfl)) (mvT hZ (wi hw 53 rfl)) (by decide) (backOf (W := 0) (rmJ l Z a0 hw [] a1 a2 bco bnx bpv bfb bpd bip bfi ben [0, 1, 0, 0] [-1, -1, 0, 0] [-1, -1, 0, 0] [0, 1, 0, 0] [0, 0, 0, 0] [0, 0, 0, 0] (2 : Int32) (0 : Int32) (0 : Int32) (2 : Int32) T1980.heap n0 z1980 B1980 (by decide)) hZ (wi hw 55 rfl) (wi hw 29 rfl) (by decide) (by decide)) q1982a q1982c (g := (mkF m 77 #[iv p1, iv p2, iv p3, iv (1 : Int32), iv (0 : Int32), iv (2 : Int32), rv a2, rv a1, iv (1 : Int32), iv (0 : Int32), uv, uv, uv, uv, uv, uv, uv, uv] [(.int (2 : Int32)), (.int (0 : Int32)), (.ref a1)])) rfl (by rw [hml]; rfl) (Steps.refl _) (argsL := [(.int (0 : Int32)), (.int (2 : Int32))]) (rest := []) (lenOf pd_8 rfl) rfl (by show 2 * 0 + _ ≤ _; exact Nat.le_of_eq rfl) (hb hby at_77) (fun _ _ => ⟨rfl, e1981, (by decide : 15 + 0 ≤ _), (by decide : 70 + 0 ≤ _)⟩)
  dsimp only [Pt.U, Pt.locs, Pt.cells, Pt.slots] at X1982 l1982 y1982 z1982 st1982 hQ1982
  subst l1982 y1982 z1982
  obtain ⟨rfl, N1982q, z1982, C1982⟩ := hQ1982
  have N1982 := Fr.app N1981 N1982q
  rw [(by rfl : own_join [0, 1, 0, 0] [-1, -1, 0, 0] [-1, -1, 0, 0] [0, 1, 0, 0] [0, 0, 0, 0] [0, 0, 0, 0] (2 : Int32) (0 : Int32) (0 : Int32) (2 : Int32) = ([0, 1, 0, 0], [2, -1, -1, 0], [-1, -1, 0, 0], [0, 1, 0, 0], [0, 0, 0, 0], [1, 0, 0, 0], (2 : Int32), (1 : Int32)))] at C1982
  have B1982 : Cb Z T1982.heap n0 a1 a2 bco bnx bpv bfb bpd bip bfi ben [0, 1, 0, 0] [2, -1, -1, 0] [-1, -1, 0, 0] [0, 1, 0, 0] [0, 0, 0, 0] [1, 0, 0, 0] (2 : Int32) (1 : Int32) := C1982
  refine Rch.to (U' := T1982.setTop (mkF m 80 #[iv p1, iv p2, iv p3, iv (1 : Int32), iv (0 : Int32), iv (2 : Int32), rv a2, rv a1, iv (1 : Int32), iv (0 : Int32), uv, uv, uv, uv, uv, uv, uv, uv] [])) st1982 ?_
  refine Rch.go (U' := T1982.setTop (mkF m 82 #[iv p1, iv p2, iv p3, iv (1 : Int32), iv (0 : Int32), iv (2 : Int32), rv a2, rv a1, iv (1 : Int32), iv (0 : Int32), uv, uv, uv, uv, uv, uv, uv, uv] [(.ref a1)])) (fun _ k => XS.aload X1982.here hx rfl (hb hby at_80) rfl rfl k) ?_
  refine Rch.go (U' := T1982.setTop (mkF m 84 #[iv p1, iv p2, iv p3, iv (1 : Int32), iv (0 : Int32), iv (2 : Int32), rv a2, rv a1, iv (1 : Int32), iv (0 : Int32), uv, uv, uv, uv, uv, uv, uv, uv] [(.int (2 : Int32)), (.ref a1)])) (fun _ k => XS.iload X1982.here hx rfl (hb hby at_82) rfl  k) ?_
  refine Rch.go (U' := T1982.setTop (mkF m 85 #[iv p1, iv p2, iv p3, iv (1 : Int32), iv (0 : Int32), iv (2 : Int32), rv a2, rv a1, iv (1 : Int32), iv (0 : Int32), uv, uv, uv, uv, uv, uv, uv, uv] [(.int (3 : Int32)), (.int (2 : Int32)), (.ref a1)])) (fun _ k => XS.iconst X1982.here hx rfl (hb hby at_84) k) ?_
  obtain ⟨cq1983, kq1983, q1983a, q1983b, q1983c⟩ := isOf hZ rfl B1982.1.1
  obtain ⟨_, _, ⟨T1983, L1983, k1983, n1983⟩, -, X1983, ⟨Lc1983, hQ1983, l1983, y1983, z1983⟩, st1983⟩ := X1982.virtualBack hx (y := yj) (z := yj) hown (mvT hZ (wi hw 51 rfl)) (mvT hZ (wi hw 52 rfl)) (notFace_of_selects (args := #[]) (mvT hZ (wi hw 54 rfl))) (mvT hZ (wi hw 54 rfl)) (mvT hZ (wi hw 53 rfl)) (by decide) (backOf (W := 0) (rmJ l Z a0 hw [] a1 a2 bco bnx bpv bfb bpd bip bfi ben [0, 1, 0, 0] [2, -1, -1, 0] [-1, -1, 0, 0] [0, 1, 0, 0] [0, 0, 0, 0] [1, 0, 0, 0] (2 : Int32) (1 : Int32) (2 : Int32) (3 : Int32) T1982.heap n0 z1982 B1982 (by decide)) hZ (wi hw 55 rfl) (wi hw 29 rfl) (by decide) (by decide)) q1983a q1983c (g := (mkF m 85 #[iv p1, iv p2, iv p3, iv (1 : Int32), iv (0 : Int32), iv (2 : Int32), rv a2, rv a1, iv (1 : Int32), iv (0 : Int32), uv, uv, uv, uv, uv, uv, uv, uv] [(.int (3 : Int32)), (.int (2 : Int32)), (.ref a1)])) rfl (by rw [hml]; rfl) (Steps.refl _) (argsL := [(.int (2 : Int32)), (.int (3 : Int32))]) (rest := []) (lenOf pd_8 rfl) rfl (by show 2 * 0 + _ ≤ _; exact Nat.le_of_eq rfl) (hb hby at_85) (fun _ _ => ⟨rfl, rfl, (by decide : 15 + 0 ≤ _), (by decide : 70 + 0 ≤ _)⟩)
  dsimp only [Pt.U, Pt.locs, Pt.cells, Pt.slots] at X1983 l1983 y1983 z1983 st1983 hQ1983
  subst l1983 y1983 z1983
  obtain ⟨rfl, N1983q, z1983, C1983⟩ := hQ1983
  have N1983 := Fr.app N1982 N1983q
  rw [(by rfl : own_join [0, 1, 0, 0] [2, -1, -1, 0] [-1, -1, 0, 0] [0, 1, 0, 0] [0, 0, 0, 0] [1, 0, 0, 0] (2 : Int32) (1 : Int32) (2 : Int32) (3 : Int32) = ([0, 1, 0, 0], [2, -1, 3, -1], [-1, -1, 0, 2], [0, 1, 0, 0], [0, 0, 0, 0], [1, 0, 0, 0], (2 : Int32), (1 : Int32)))] at C1983
  have B1983 : Cb Z T1983.heap n0 a1 a2 bco bnx bpv bfb bpd bip bfi ben [0, 1, 0, 0] [2, -1, 3, -1] [-1, -1, 0, 2] [0, 1, 0, 0] [0, 0, 0, 0] [1, 0, 0, 0] (2 : Int32) (1 : Int32) := C1983
  refine Rch.to (U' := T1983.setTop (mkF m 88 #[iv p1, iv p2, iv p3, iv (1 : Int32), iv (0 : Int32), iv (2 : Int32), rv a2, rv a1, iv (1 : Int32), iv (0 : Int32), uv, uv, uv, uv, uv, uv, uv, uv] [])) st1983 ?_
  refine Rch.go (U' := T1983.setTop (mkF m 90 #[iv p1, iv p2, iv p3, iv (1 : Int32), iv (0 : Int32), iv (2 : Int32), rv a2, rv a1, iv (1 : Int32), iv (0 : Int32), uv, uv, uv, uv, uv, uv, uv, uv] [(.int (2 : Int32))])) (fun _ k => XS.iload X1983.here hx rfl (hb hby at_88) rfl  k) ?_
  refine Rch.go (U' := T1983.setTop (mkF m 91 #[iv p1, iv p2, iv p3, iv (1 : Int32), iv (0 : Int32), iv (2 : Int32), rv a2, rv a1, iv (1 : Int32), iv (0 : Int32), uv, uv, uv, uv, uv, uv, uv, uv] [(.int (2 : Int32)), (.int (2 : Int32))])) (fun _ k => XS.iconst X1983.here hx rfl (hb hby at_90) k) ?_
  have br1984 : (2 : Int32) = (2 : Int32) := (by decide)
  refine Rch.go (U' := T1983.setTop (mkF m 94 #[iv p1, iv p2, iv p3, iv (1 : Int32), iv (0 : Int32), iv (2 : Int32), rv a2, rv a1, iv (1 : Int32), iv (0 : Int32), uv, uv, uv, uv, uv, uv, uv, uv] [])) (fun _ k => XS.icmpNo X1983.here hx rfl (hb hby at_91) rfl (XT.ii_ne_f br1984) k) ?_
  refine Rch.go (U' := T1983.setTop (mkF m 96 #[iv p1, iv p2, iv p3, iv (1 : Int32), iv (0 : Int32), iv (2 : Int32), rv a2, rv a1, iv (1 : Int32), iv (0 : Int32), uv, uv, uv, uv, uv, uv, uv, uv] [(.int (0 : Int32))])) (fun _ k => XS.iload X1983.here hx rfl (hb hby at_94) rfl  k) ?_
  refine Rch.go (U' := T1983.setTop (mkF m 101 #[iv p1, iv p2, iv p3, iv (1 : Int32), iv (0 : Int32), iv (2 : Int32), rv a2, rv a1, iv (1 : Int32), iv (0 : Int32), uv, uv, uv, uv, uv, uv, uv, uv] [(.int (0 : Int32))])) (fun _ k => XS.goto X1983.here hx rfl (pc0 := 96) (pc' := 101) rfl (hb hby at_96) (by decide) (by decide) k) ?_
  refine Rch.go (U' := T1983.setTop (mkF m 103 #[iv p1, iv p2, iv p3, iv (1 : Int32), iv (0 : Int32), iv (2 : Int32), rv a2, rv a1, iv (1 : Int32), iv (0 : Int32), iv (0 : Int32), uv, uv, uv, uv, uv, uv, uv] [])) (fun _ k => XS.istore X1983.here hx rfl (hb hby at_101) rfl (l' := #[iv p1, iv p2, iv p3, iv (1 : Int32), iv (0 : Int32), iv (2 : Int32), rv a2, rv a1, iv (1 : Int32), iv (0 : Int32), iv (0 : Int32), uv, uv, uv, uv, uv, uv, uv]) rfl k) ?_
  refine Rch.go (U' := T1983.setTop (mkF m 105 #[iv p1, iv p2, iv p3, iv (1 : Int32), iv (0 : Int32), iv (2 : Int32), rv a2, rv a1, iv (1 : Int32), iv (0 : Int32), iv (0 : Int32), uv, uv, uv, uv, uv, uv, uv] [(.int (1 : Int32))])) (fun _ k => XS.iload X1983.here hx rfl (hb hby at_103) rfl  k) ?_
  refine Rch.go (U' := T1983.setTop (mkF m 106 #[iv p1, iv p2, iv p3, iv (1 : Int32), iv (0 : Int32), iv (2 : Int32), rv a2, rv a1, iv (1 : Int32), iv (0 : Int32), iv (0 : Int32), uv, uv, uv, uv, uv, uv, uv] [(.int (1 : Int32)), (.int (1 : Int32))])) (fun _ k => XS.iconst X1983.here hx rfl (hb hby at_105) k) ?_
  have br1985 : (1 : Int32) = (1 : Int32) := (by decide)
  refine Rch.go (U' := T1983.setTop (mkF m 109 #[iv p1, iv p2, iv p3, iv (1 : Int32), iv (0 : Int32), iv (2 : Int32), rv a2, rv a1, iv (1 : Int32), iv (0 : Int32), iv (0 : Int32), uv, uv, uv, uv, uv, uv, uv] [])) (fun _ k => XS.icmpNo X1983.here hx rfl (hb hby at_106) rfl (XT.ii_ne_f br1985) k) ?_
  refine Rch.go (U' := T1983.setTop (mkF m 111 #[iv p1, iv p2, iv p3, iv (1 : Int32), iv (0 : Int32), iv (2 : Int32), rv a2, rv a1, iv (1 : Int32), iv (0 : Int32), iv (0 : Int32), uv, uv, uv, uv, uv, uv, uv] [(.int (0 : Int32))])) (fun _ k => XS.iload X1983.here hx rfl (hb hby at_109) rfl  k) ?_
  have br1986 : (0 : Int32) = (0 : Int32) := (by decide)
  refine Rch.go (U' := T1983.setTop (mkF m 114 #[iv p1, iv p2, iv p3, iv (1 : Int32), iv (0 : Int32), iv (2 : Int32), rv a2, rv a1, iv (1 : Int32), iv (0 : Int32), iv (0 : Int32), uv, uv, uv, uv, uv, uv, uv] [])) (fun _ k => XS.ifNo X1983.here hx rfl (hb hby at_111) rfl (XT.i0_ne_f br1986) k) ?_
  refine Rch.go (U' := T1983.setTop (mkF m 116 #[iv p1, iv p2, iv p3, iv (1 : Int32), iv (0 : Int32), iv (2 : Int32), rv a2, rv a1, iv (1 : Int32), iv (0 : Int32), iv (0 : Int32), uv, uv, uv, uv, uv, uv, uv] [(.ref a1)])) (fun _ k => XS.aload X1983.here hx rfl (hb hby at_114) rfl rfl k) ?_
  refine Rch.go (U' := T1983.setTop (mkF m 117 #[iv p1, iv p2, iv p3, iv (1 : Int32), iv (0 : Int32), iv (2 : Int32), rv a2, rv a1, iv (1 : Int32), iv (0 : Int32), iv (0 : Int32), uv, uv, uv, uv, uv, uv, uv] [(.int (2 : Int32)), (.ref a1)])) (fun _ k => XS.iconst X1983.here hx rfl (hb hby at_116) k) ?_
  obtain ⟨cq1987, kq1987, q1987a, q1987b, q1987c⟩ := isOf hZ rfl B1983.1.1
  obtain ⟨_, _, ⟨T1987, L1987, k1987, n1987⟩, -, X1987, ⟨Lc1987, hQ1987, l1987, y1987, z1987⟩, st1987⟩ := X1983.virtualBack hx (y := yc) (z := yc) hown (mvT hZ (wi hw 58 rfl)) (mvT hZ (wi hw 59 rfl)) (notFace_of_selects (args := #[]) (mvT hZ (wi hw 61 rfl))) (mvT hZ (wi hw 61 rfl)) (mvT hZ (wi hw 60 rfl)) (by decide) (backOf (W := 0) (rmCo l Z a0 hw [] a1 a2 bco bnx bpv bfb bpd bip bfi ben [0, 1, 0, 0] [2, -1, 3, -1] [-1, -1, 0, 2] [0, 1, 0, 0] [0, 0, 0, 0] [1, 0, 0, 0] (2 : Int32) (1 : Int32) (2 : Int32) T1983.heap n0 z1983 B1983 (by decide)) hZ (wi hw 62 rfl) (wi hw 29 rfl) (by decide) (by decide)) q1987a q1987c (g := (mkF m 117 #[iv p1, iv p2, iv p3, iv (1 : Int32), iv (0 : Int32), iv (2 : Int32), rv a2, rv a1, iv (1 : Int32), iv (0 : Int32), iv (0 : Int32), uv, uv, uv, uv, uv, uv, uv] [(.int (2 : Int32)), (.ref a1)])) rfl (by rw [hml]; rfl) (Steps.refl _) (argsL := [(.int (2 : Int32))]) (rest := []) (lenOf pd_7 rfl) rfl (by show 2 * 0 + _ ≤ _; exact Nat.le_of_eq rfl) (hb hby at_117) (fun _ _ => ⟨rfl, rfl, (by decide : 15 + 0 ≤ _), (by decide : 70 + 0 ≤ _)⟩)
  dsimp only [Pt.U, Pt.locs, Pt.cells, Pt.slots] at X1987 l1987 y1987 z1987 st1987 hQ1987
  subst l1987 y1987 z1987
  obtain ⟨rfl, N1987q, e1987⟩ := hQ1987
  have N1987 := Fr.app N1983 N1987q
  refine Rch.to (U' := T1987.setTop (mkF m 120 #[iv p1, iv p2, iv p3, iv (1 : Int32), iv (0 : Int32), iv (2 : Int32), rv a2, rv a1, iv (1 : Int32), iv (0 : Int32), iv (0 : Int32), uv, uv, uv, uv, uv, uv, uv] [(.int (own_at [0, 1, 0, 0] (2 : Int32)))])) st1987 ?_
  rw [(by decide : (own_at [0, 1, 0, 0] (2 : Int32)) = (0 : Int32))]
  refine Rch.go (U' := T1987.setTop (mkF m 122 #[iv p1, iv p2, iv p3, iv (1 : Int32), iv (0 : Int32), iv (2 : Int32), rv a2, rv a1, iv (1 : Int32), iv (0 : Int32), iv (0 : Int32), uv, uv, uv, uv, uv, uv, uv] [(.int (0 : Int32)), (.int (0 : Int32))])) (fun _ k => XS.iload X1987.here hx rfl (hb hby at_120) rfl  k) ?_
  have br1988 : (0 : Int32) = (0 : Int32) := (by decide)
  refine Rch.go (U' := T1987.setTop (mkF m 125 #[iv p1, iv p2, iv p3, iv (1 : Int32), iv (0 : Int32), iv (2 : Int32), rv a2, rv a1, iv (1 : Int32), iv (0 : Int32), iv (0 : Int32), uv, uv, uv, uv, uv, uv, uv] [])) (fun _ k => XS.icmpNo X1987.here hx rfl (hb hby at_122) rfl (XT.ii_ne_f br1988) k) ?_
  refine Rch.go (U' := T1987.setTop (mkF m 127 #[iv p1, iv p2, iv p3, iv (1 : Int32), iv (0 : Int32), iv (2 : Int32), rv a2, rv a1, iv (1 : Int32), iv (0 : Int32), iv (0 : Int32), uv, uv, uv, uv, uv, uv, uv] [(.ref a1)])) (fun _ k => XS.aload X1987.here hx rfl (hb hby at_125) rfl rfl k) ?_
  refine Rch.go (U' := T1987.setTop (mkF m 128 #[iv p1, iv p2, iv p3, iv (1 : Int32), iv (0 : Int32), iv (2 : Int32), rv a2, rv a1, iv (1 : Int32), iv (0 : Int32), iv (0 : Int32), uv, uv, uv, uv, uv, uv, uv] [(.int (3 : Int32)), (.ref a1)])) (fun _ k => XS.iconst X1987.here hx rfl (hb hby at_127) k) ?_
  obtain ⟨cq1989, kq1989, q1989a, q1989b, q1989c⟩ := isOf hZ e1987 B1983.1.1
  obtain ⟨_, _, ⟨T1989, L1989, k1989, n1989⟩, -, X1989, ⟨Lc1989, hQ1989, l1989, y1989, z1989⟩, st1989⟩ := X1987.virtualBack hx (y := yc) (z := yc) hown (mvT hZ (wi hw 58 rfl)) (mvT hZ (wi hw 59 rfl)) (notFace_of_selects (args := #[]) (mvT hZ (wi hw 61 rfl))) (mvT hZ (wi hw 61 rfl)) (mvT hZ (wi hw 60 rfl)) (by decide) (backOf (W := 0) (rmCo l Z a0 hw [] a1 a2 bco bnx bpv bfb bpd bip bfi ben [0, 1, 0, 0] [2, -1, 3, -1] [-1, -1, 0, 2] [0, 1, 0, 0] [0, 0, 0, 0] [1, 0, 0, 0] (2 : Int32) (1 : Int32) (3 : Int32) T1983.heap n0 z1983 B1983 (by decide)) hZ (wi hw 62 rfl) (wi hw 29 rfl) (by decide) (by decide)) q1989a q1989c (g := (mkF m 128 #[iv p1, iv p2, iv p3, iv (1 : Int32), iv (0 : Int32), iv (2 : Int32), rv a2, rv a1, iv (1 : Int32), iv (0 : Int32), iv (0 : Int32), uv, uv, uv, uv, uv, uv, uv] [(.int (3 : Int32)), (.ref a1)])) rfl (by rw [hml]; rfl) (Steps.refl _) (argsL := [(.int (3 : Int32))]) (rest := []) (lenOf pd_7 rfl) rfl (by show 2 * 0 + _ ≤ _; exact Nat.le_of_eq rfl) (hb hby at_128) (fun _ _ => ⟨rfl, e1987, (by decide : 15 + 0 ≤ _), (by decide : 70 + 0 ≤ _)⟩)
  dsimp only [Pt.U, Pt.locs, Pt.cells, Pt.slots] at X1989 l1989 y1989 z1989 st1989 hQ1989
  subst l1989 y1989 z1989
  obtain ⟨rfl, N1989q, e1989⟩ := hQ1989
  have N1989 := Fr.app N1987 N1989q
  refine Rch.to (U' := T1989.setTop (mkF m 131 #[iv p1, iv p2, iv p3, iv (1 : Int32), iv (0 : Int32), iv (2 : Int32), rv a2, rv a1, iv (1 : Int32), iv (0 : Int32), iv (0 : Int32), uv, uv, uv, uv, uv, uv, uv] [(.int (own_at [0, 1, 0, 0] (3 : Int32)))])) st1989 ?_
  rw [(by decide : (own_at [0, 1, 0, 0] (3 : Int32)) = (0 : Int32))]
  refine Rch.go (U' := T1989.setTop (mkF m 133 #[iv p1, iv p2, iv p3, iv (1 : Int32), iv (0 : Int32), iv (2 : Int32), rv a2, rv a1, iv (1 : Int32), iv (0 : Int32), iv (0 : Int32), uv, uv, uv, uv, uv, uv, uv] [(.int (0 : Int32)), (.int (0 : Int32))])) (fun _ k => XS.iload X1989.here hx rfl (hb hby at_131) rfl  k) ?_
  have br1990 : (0 : Int32) = (0 : Int32) := (by decide)
  refine Rch.go (U' := T1989.setTop (mkF m 136 #[iv p1, iv p2, iv p3, iv (1 : Int32), iv (0 : Int32), iv (2 : Int32), rv a2, rv a1, iv (1 : Int32), iv (0 : Int32), iv (0 : Int32), uv, uv, uv, uv, uv, uv, uv] [])) (fun _ k => XS.icmpNo X1989.here hx rfl (hb hby at_133) rfl (XT.ii_ne_f br1990) k) ?_
  refine Rch.go (U' := T1989.setTop (mkF m 138 #[iv p1, iv p2, iv p3, iv (1 : Int32), iv (0 : Int32), iv (2 : Int32), rv a2, rv a1, iv (1 : Int32), iv (0 : Int32), iv (0 : Int32), uv, uv, uv, uv, uv, uv, uv] [(.ref a1)])) (fun _ k => XS.aload X1989.here hx rfl (hb hby at_136) rfl rfl k) ?_
  obtain ⟨cq1991, kq1991, q1991a, q1991b, q1991c⟩ := isOf hZ e1989 B1983.1.1
  obtain ⟨_, _, ⟨T1991, L1991, k1991, n1991⟩, -, X1991, ⟨Lc1991, hQ1991, l1991, y1991, z1991⟩, st1991⟩ := X1989.virtualBack hx (y := yhs) (z := yhs) hown (mvT hZ (wi hw 63 rfl)) (mvT hZ (wi hw 64 rfl)) (notFace_of_selects (args := #[]) (mvT hZ (wi hw 66 rfl))) (mvT hZ (wi hw 66 rfl)) (mvT hZ (wi hw 65 rfl)) (by decide) (backOf (W := 0) (rmHs l Z a0 hw [] a1 a2 bco bnx bpv bfb bpd bip bfi ben [0, 1, 0, 0] [2, -1, 3, -1] [-1, -1, 0, 2] [0, 1, 0, 0] [0, 0, 0, 0] [1, 0, 0, 0] (2 : Int32) (1 : Int32)  T1983.heap n0 z1983 B1983 ) hZ (wi hw 67 rfl) (wi hw 29 rfl) (by decide) (by decide)) q1991a q1991c (g := (mkF m 138 #[iv p1, iv p2, iv p3, iv (1 : Int32), iv (0 : Int32), iv (2 : Int32), rv a2, rv a1, iv (1 : Int32), iv (0 : Int32), iv (0 : Int32), uv, uv, uv, uv, uv, uv, uv] [(.ref a1)])) rfl (by rw [hml]; rfl) (Steps.refl _) (argsL := []) (rest := []) (lenOf pd_15 rfl) rfl (by show 2 * 0 + _ ≤ _; exact Nat.le_of_eq rfl) (hb hby at_138) (fun _ _ => ⟨rfl, e1989, (by decide : 15 + 0 ≤ _), (by decide : 70 + 0 ≤ _)⟩)
  dsimp only [Pt.U, Pt.locs, Pt.cells, Pt.slots] at X1991 l1991 y1991 z1991 st1991 hQ1991
  subst l1991 y1991 z1991
  obtain ⟨rfl, N1991q, e1991⟩ := hQ1991
  have N1991 := Fr.app N1989 N1991q
  refine Rch.to (U' := T1991.setTop (mkF m 141 #[iv p1, iv p2, iv p3, iv (1 : Int32), iv (0 : Int32), iv (2 : Int32), rv a2, rv a1, iv (1 : Int32), iv (0 : Int32), iv (0 : Int32), uv, uv, uv, uv, uv, uv, uv] [(.int (own_pos (1 : Int32)))])) st1991 ?_
  rw [(by decide : (own_pos (1 : Int32)) = (1 : Int32))]
  have br1992 : ¬ ((1 : Int32) = (0 : Int32)) := (by decide)
  refine Rch.go (U' := T1991.setTop (mkF m 144 #[iv p1, iv p2, iv p3, iv (1 : Int32), iv (0 : Int32), iv (2 : Int32), rv a2, rv a1, iv (1 : Int32), iv (0 : Int32), iv (0 : Int32), uv, uv, uv, uv, uv, uv, uv] [])) (fun _ k => XS.ifNo X1991.here hx rfl (hb hby at_141) rfl (XT.i0_eq_f br1992) k) ?_
  refine Rch.go (U' := T1991.setTop (mkF m 146 #[iv p1, iv p2, iv p3, iv (1 : Int32), iv (0 : Int32), iv (2 : Int32), rv a2, rv a1, iv (1 : Int32), iv (0 : Int32), iv (0 : Int32), uv, uv, uv, uv, uv, uv, uv] [(.ref a1)])) (fun _ k => XS.aload X1991.here hx rfl (hb hby at_144) rfl rfl k) ?_
  obtain ⟨cq1993, kq1993, q1993a, q1993b, q1993c⟩ := isOf hZ e1991 B1983.1.1
  obtain ⟨_, _, ⟨T1993, L1993, k1993, n1993⟩, -, X1993, ⟨Lc1993, hQ1993, l1993, y1993, z1993⟩, st1993⟩ := X1991.virtualBack hx (y := yns) (z := yns) hown (mvT hZ (wi hw 68 rfl)) (mvT hZ (wi hw 69 rfl)) (notFace_of_selects (args := #[]) (mvT hZ (wi hw 71 rfl))) (mvT hZ (wi hw 71 rfl)) (mvT hZ (wi hw 70 rfl)) (by decide) (backOf (W := 0) (rmNs l Z a0 hw [] a1 a2 bco bnx bpv bfb bpd bip bfi ben [0, 1, 0, 0] [2, -1, 3, -1] [-1, -1, 0, 2] [0, 1, 0, 0] [0, 0, 0, 0] [1, 0, 0, 0] (2 : Int32) (1 : Int32)  T1983.heap n0 z1983 B1983 (by decide)) hZ (wi hw 72 rfl) (wi hw 29 rfl) (by decide) (by decide)) q1993a q1993c (g := (mkF m 146 #[iv p1, iv p2, iv p3, iv (1 : Int32), iv (0 : Int32), iv (2 : Int32), rv a2, rv a1, iv (1 : Int32), iv (0 : Int32), iv (0 : Int32), uv, uv, uv, uv, uv, uv, uv] [(.ref a1)])) rfl (by rw [hml]; rfl) (Steps.refl _) (argsL := []) (rest := []) (lenOf pd_14 rfl) rfl (by show 2 * 0 + _ ≤ _; exact Nat.le_of_eq rfl) (hb hby at_146) (fun _ _ => ⟨rfl, e1991, (by decide : 15 + 0 ≤ _), (by decide : 70 + 0 ≤ _)⟩)
  dsimp only [Pt.U, Pt.locs, Pt.cells, Pt.slots] at X1993 l1993 y1993 z1993 st1993 hQ1993
  subst l1993 y1993 z1993
  obtain ⟨rfl, N1993q, e1993⟩ := hQ1993
  have N1993 := Fr.app N1991 N1993q
  refine Rch.to (U' := T1993.setTop (mkF m 149 #[iv p1, iv p2, iv p3, iv (1 : Int32), iv (0 : Int32), iv (2 : Int32), rv a2, rv a1, iv (1 : Int32), iv (0 : Int32), iv (0 : Int32), uv, uv, uv, uv, uv, uv, uv] [(.int (own_at [0, 0, 0, 0] ((1 : Int32) - (1 : Int32))))])) st1993 ?_
  rw [(by decide : (own_at [0, 0, 0, 0] ((1 : Int32) - (1 : Int32))) = (0 : Int32))]
  refine Rch.go (U' := T1993.setTop (mkF m 151 #[iv p1, iv p2, iv p3, iv (1 : Int32), iv (0 : Int32), iv (2 : Int32), rv a2, rv a1, iv (1 : Int32), iv (0 : Int32), iv (0 : Int32), uv, uv, uv, uv, uv, uv, uv] [(.int (0 : Int32)), (.int (0 : Int32))])) (fun _ k => XS.iload X1993.here hx rfl (hb hby at_149) rfl  k) ?_
  have br1994 : (0 : Int32) = (0 : Int32) := (by decide)
  refine Rch.go (U' := T1993.setTop (mkF m 154 #[iv p1, iv p2, iv p3, iv (1 : Int32), iv (0 : Int32), iv (2 : Int32), rv a2, rv a1, iv (1 : Int32), iv (0 : Int32), iv (0 : Int32), uv, uv, uv, uv, uv, uv, uv] [])) (fun _ k => XS.icmpNo X1993.here hx rfl (hb hby at_151) rfl (XT.ii_ne_f br1994) k) ?_
  refine Rch.go (U' := T1993.setTop (mkF m 155 #[iv p1, iv p2, iv p3, iv (1 : Int32), iv (0 : Int32), iv (2 : Int32), rv a2, rv a1, iv (1 : Int32), iv (0 : Int32), iv (0 : Int32), uv, uv, uv, uv, uv, uv, uv] [(.int (1 : Int32))])) (fun _ k => XS.iconst X1993.here hx rfl (hb hby at_154) k) ?_
  refine Rch.go (U' := T1993.setTop (mkF m 159 #[iv p1, iv p2, iv p3, iv (1 : Int32), iv (0 : Int32), iv (2 : Int32), rv a2, rv a1, iv (1 : Int32), iv (0 : Int32), iv (0 : Int32), uv, uv, uv, uv, uv, uv, uv] [(.int (1 : Int32))])) (fun _ k => XS.goto X1993.here hx rfl (pc0 := 155) (pc' := 159) rfl (hb hby at_155) (by decide) (by decide) k) ?_
  refine Rch.go (U' := T1993.setTop (mkF m 161 #[iv p1, iv p2, iv p3, iv (1 : Int32), iv (0 : Int32), iv (2 : Int32), rv a2, rv a1, iv (1 : Int32), iv (0 : Int32), iv (0 : Int32), iv (1 : Int32), uv, uv, uv, uv, uv, uv] [])) (fun _ k => XS.istore X1993.here hx rfl (hb hby at_159) rfl (l' := #[iv p1, iv p2, iv p3, iv (1 : Int32), iv (0 : Int32), iv (2 : Int32), rv a2, rv a1, iv (1 : Int32), iv (0 : Int32), iv (0 : Int32), iv (1 : Int32), uv, uv, uv, uv, uv, uv]) rfl k) ?_
  refine Rch.go (U' := T1993.setTop (mkF m 163 #[iv p1, iv p2, iv p3, iv (1 : Int32), iv (0 : Int32), iv (2 : Int32), rv a2, rv a1, iv (1 : Int32), iv (0 : Int32), iv (0 : Int32), iv (1 : Int32), uv, uv, uv, uv, uv, uv] [(.int (1 : Int32))])) (fun _ k => XS.iload X1993.here hx rfl (hb hby at_161) rfl  k) ?_
  have br1995 : ¬ ((1 : Int32) = (0 : Int32)) := (by decide)
  refine Rch.go (U' := T1993.setTop (mkF m 168 #[iv p1, iv p2, iv p3, iv (1 : Int32), iv (0 : Int32), iv (2 : Int32), rv a2, rv a1, iv (1 : Int32), iv (0 : Int32), iv (0 : Int32), iv (1 : Int32), uv, uv, uv, uv, uv, uv] [])) (fun _ k => XS.ifYes X1993.here hx rfl (pc0 := 163) (pc' := 168) rfl (hb hby at_163) rfl (XT.i0_ne_t br1995) (by decide) (by decide) k) ?_
  refine Rch.go (U' := T1993.setTop (mkF m 170 #[iv p1, iv p2, iv p3, iv (1 : Int32), iv (0 : Int32), iv (2 : Int32), rv a2, rv a1, iv (1 : Int32), iv (0 : Int32), iv (0 : Int32), iv (1 : Int32), uv, uv, uv, uv, uv, uv] [(.int (0 : Int32))])) (fun _ k => XS.iload X1993.here hx rfl (hb hby at_168) rfl  k) ?_
  refine Rch.go (U' := T1993.setTop (mkF m 172 #[iv p1, iv p2, iv p3, iv (1 : Int32), iv (0 : Int32), iv (2 : Int32), rv a2, rv a1, iv (1 : Int32), iv (0 : Int32), iv (0 : Int32), iv (1 : Int32), uv, uv, uv, uv, uv, uv] [(.int (0 : Int32)), (.int (0 : Int32))])) (fun _ k => XS.iload X1993.here hx rfl (hb hby at_170) rfl  k) ?_
  have br1996 : (0 : Int32) = (0 : Int32) := (by decide)
  refine Rch.go (U' := T1993.setTop (mkF m 175 #[iv p1, iv p2, iv p3, iv (1 : Int32), iv (0 : Int32), iv (2 : Int32), rv a2, rv a1, iv (1 : Int32), iv (0 : Int32), iv (0 : Int32), iv (1 : Int32), uv, uv, uv, uv, uv, uv] [])) (fun _ k => XS.icmpNo X1993.here hx rfl (hb hby at_172) rfl (XT.ii_ne_f br1996) k) ?_
  refine Rch.go (U' := T1993.setTop (mkF m 177 #[iv p1, iv p2, iv p3, iv (1 : Int32), iv (0 : Int32), iv (2 : Int32), rv a2, rv a1, iv (1 : Int32), iv (0 : Int32), iv (0 : Int32), iv (1 : Int32), uv, uv, uv, uv, uv, uv] [(.int (0 : Int32))])) (fun _ k => XS.iload X1993.here hx rfl (hb hby at_175) rfl  k) ?_
  refine Rch.go (U' := T1993.setTop (mkF m 179 #[iv p1, iv p2, iv p3, iv (1 : Int32), iv (0 : Int32), iv (2 : Int32), rv a2, rv a1, iv (1 : Int32), iv (0 : Int32), iv (0 : Int32), iv (1 : Int32), iv (0 : Int32), uv, uv, uv, uv, uv] [])) (fun _ k => XS.istore X1993.here hx rfl (hb hby at_177) rfl (l' := #[iv p1, iv p2, iv p3, iv (1 : Int32), iv (0 : Int32), iv (2 : Int32), rv a2, rv a1, iv (1 : Int32), iv (0 : Int32), iv (0 : Int32), iv (1 : Int32), iv (0 : Int32), uv, uv, uv, uv, uv]) rfl k) ?_
  refine Rch.go (U' := T1993.setTop (mkF m 181 #[iv p1, iv p2, iv p3, iv (1 : Int32), iv (0 : Int32), iv (2 : Int32), rv a2, rv a1, iv (1 : Int32), iv (0 : Int32), iv (0 : Int32), iv (1 : Int32), iv (0 : Int32), uv, uv, uv, uv, uv] [(.int (2 : Int32))])) (fun _ k => XS.iload X1993.here hx rfl (hb hby at_179) rfl  k) ?_
  refine Rch.go (U' := T1993.setTop (mkF m 183 #[iv p1, iv p2, iv p3, iv (1 : Int32), iv (0 : Int32), iv (2 : Int32), rv a2, rv a1, iv (1 : Int32), iv (0 : Int32), iv (0 : Int32), iv (1 : Int32), iv (0 : Int32), uv, uv, uv, uv, uv] [(.int (0 : Int32)), (.int (2 : Int32))])) (fun _ k => XS.iload X1993.here hx rfl (hb hby at_181) rfl  k) ?_
  have br1997 : ¬ ((2 : Int32) = (0 : Int32)) := (by decide)
  refine Rch.go (U' := T1993.setTop (mkF m 190 #[iv p1, iv p2, iv p3, iv (1 : Int32), iv (0 : Int32), iv (2 : Int32), rv a2, rv a1, iv (1 : Int32), iv (0 : Int32), iv (0 : Int32), iv (1 : Int32), iv (0 : Int32), uv, uv, uv, uv, uv] [])) (fun _ k => XS.icmpYes X1993.here hx rfl (pc0 := 183) (pc' := 190) rfl (hb hby at_183) rfl (XT.ii_ne_t br1997) (by decide) (by decide) k) ?_
  refine Rch.go (U' := T1993.setTop (mkF m 191 #[iv p1, iv p2, iv p3, iv (1 : Int32), iv (0 : Int32), iv (2 : Int32), rv a2, rv a1, iv (1 : Int32), iv (0 : Int32), iv (0 : Int32), iv (1 : Int32), iv (0 : Int32), uv, uv, uv, uv, uv] [(.int (2 : Int32))])) (fun _ k => XS.iconst X1993.here hx rfl (hb hby at_190) k) ?_
  refine Rch.go (U' := T1993.setTop (mkF m 193 #[iv p1, iv p2, iv p3, iv (1 : Int32), iv (0 : Int32), iv (2 : Int32), rv a2, rv a1, iv (1 : Int32), iv (0 : Int32), iv (0 : Int32), iv (1 : Int32), iv (0 : Int32), iv (2 : Int32), uv, uv, uv, uv] [])) (fun _ k => XS.istore X1993.here hx rfl (hb hby at_191) rfl (l' := #[iv p1, iv p2, iv p3, iv (1 : Int32), iv (0 : Int32), iv (2 : Int32), rv a2, rv a1, iv (1 : Int32), iv (0 : Int32), iv (0 : Int32), iv (1 : Int32), iv (0 : Int32), iv (2 : Int32), uv, uv, uv, uv]) rfl k) ?_
  refine Rch.go (U' := T1993.setTop (mkF m 203 #[iv p1, iv p2, iv p3, iv (1 : Int32), iv (0 : Int32), iv (2 : Int32), rv a2, rv a1, iv (1 : Int32), iv (0 : Int32), iv (0 : Int32), iv (1 : Int32), iv (0 : Int32), iv (2 : Int32), uv, uv, uv, uv] [])) (fun _ k => XS.goto X1993.here hx rfl (pc0 := 193) (pc' := 203) rfl (hb hby at_193) (by decide) (by decide) k) ?_
  refine Rch.go (U' := T1993.setTop (mkF m 205 #[iv p1, iv p2, iv p3, iv (1 : Int32), iv (0 : Int32), iv (2 : Int32), rv a2, rv a1, iv (1 : Int32), iv (0 : Int32), iv (0 : Int32), iv (1 : Int32), iv (0 : Int32), iv (2 : Int32), uv, uv, uv, uv] [(.int (0 : Int32))])) (fun _ k => XS.iload X1993.here hx rfl (hb hby at_203) rfl  k) ?_
  have br1998 : (0 : Int32) = (0 : Int32) := (by decide)
  refine Rch.go (U' := T1993.setTop (mkF m 208 #[iv p1, iv p2, iv p3, iv (1 : Int32), iv (0 : Int32), iv (2 : Int32), rv a2, rv a1, iv (1 : Int32), iv (0 : Int32), iv (0 : Int32), iv (1 : Int32), iv (0 : Int32), iv (2 : Int32), uv, uv, uv, uv] [])) (fun _ k => XS.ifNo X1993.here hx rfl (hb hby at_205) rfl (XT.i0_ne_f br1998) k) ?_
  refine Rch.go (U' := T1993.setTop (mkF m 210 #[iv p1, iv p2, iv p3, iv (1 : Int32), iv (0 : Int32), iv (2 : Int32), rv a2, rv a1, iv (1 : Int32), iv (0 : Int32), iv (0 : Int32), iv (1 : Int32), iv (0 : Int32), iv (2 : Int32), uv, uv, uv, uv] [(.int (2 : Int32))])) (fun _ k => XS.iload X1993.here hx rfl (hb hby at_208) rfl  k) ?_
  refine Rch.go (U' := T1993.setTop (mkF m 215 #[iv p1, iv p2, iv p3, iv (1 : Int32), iv (0 : Int32), iv (2 : Int32), rv a2, rv a1, iv (1 : Int32), iv (0 : Int32), iv (0 : Int32), iv (1 : Int32), iv (0 : Int32), iv (2 : Int32), uv, uv, uv, uv] [(.int (2 : Int32))])) (fun _ k => XS.goto X1993.here hx rfl (pc0 := 210) (pc' := 215) rfl (hb hby at_210) (by decide) (by decide) k) ?_
  refine Rch.go (U' := T1993.setTop (mkF m 217 #[iv p1, iv p2, iv p3, iv (1 : Int32), iv (0 : Int32), iv (2 : Int32), rv a2, rv a1, iv (1 : Int32), iv (0 : Int32), iv (0 : Int32), iv (1 : Int32), iv (0 : Int32), iv (2 : Int32), iv (2 : Int32), uv, uv, uv] [])) (fun _ k => XS.istore X1993.here hx rfl (hb hby at_215) rfl (l' := #[iv p1, iv p2, iv p3, iv (1 : Int32), iv (0 : Int32), iv (2 : Int32), rv a2, rv a1, iv (1 : Int32), iv (0 : Int32), iv (0 : Int32), iv (1 : Int32), iv (0 : Int32), iv (2 : Int32), iv (2 : Int32), uv, uv, uv]) rfl k) ?_
  refine Rch.go (U' := T1993.setTop (mkF m 219 #[iv p1, iv p2, iv p3, iv (1 : Int32), iv (0 : Int32), iv (2 : Int32), rv a2, rv a1, iv (1 : Int32), iv (0 : Int32), iv (0 : Int32), iv (1 : Int32), iv (0 : Int32), iv (2 : Int32), iv (2 : Int32), uv, uv, uv] [(.ref a1)])) (fun _ k => XS.aload X1993.here hx rfl (hb hby at_217) rfl rfl k) ?_
  obtain ⟨cq1999, kq1999, q1999a, q1999b, q1999c⟩ := isOf hZ e1993 B1983.1.1
  obtain ⟨_, _, ⟨T1999, L1999, k1999, n1999⟩, -, X1999, ⟨Lc1999, hQ1999, l1999, y1999, z1999⟩, st1999⟩ := X1993.virtualBack hx (y := yt) (z := yt) hown (mvT hZ (wi hw 73 rfl)) (mvT hZ (wi hw 74 rfl)) (notFace_of_selects (args := #[]) (mvT hZ (wi hw 76 rfl))) (mvT hZ (wi hw 76 rfl)) (mvT hZ (wi hw 75 rfl)) (by decide) (backOf (W := 0) (rmT l Z a0 hw [] a1 a2 bco bnx bpv bfb bpd bip bfi ben [0, 1, 0, 0] [2, -1, 3, -1] [-1, -1, 0, 2] [0, 1, 0, 0] [0, 0, 0, 0] [1, 0, 0, 0] (2 : Int32) (1 : Int32) T1983.heap n0 z1983 B1983 (by decide)) hZ (wi hw 77 rfl) (wi hw 29 rfl) (by decide) (by decide)) q1999a q1999c (g := (mkF m 219 #[iv p1, iv p2, iv p3, iv (1 : Int32), iv (0 : Int32), iv (2 : Int32), rv a2, rv a1, iv (1 : Int32), iv (0 : Int32), iv (0 : Int32), iv (1 : Int32), iv (0 : Int32), iv (2 : Int32), iv (2 : Int32), uv, uv, uv] [(.ref a1)])) rfl (by rw [hml]; rfl) (Steps.refl _) (argsL := []) (rest := []) (lenOf pd_14 rfl) rfl (by show 2 * 0 + _ ≤ _; exact Nat.le_of_eq rfl) (hb hby at_219) (fun _ _ => ⟨rfl, e1993, (by decide : 15 + 0 ≤ _), (by decide : 70 + 0 ≤ _)⟩)
  dsimp only [Pt.U, Pt.locs, Pt.cells, Pt.slots] at X1999 l1999 y1999 z1999 st1999 hQ1999
  subst l1999 y1999 z1999
  obtain ⟨rfl, N1999q, z1999, C1999⟩ := hQ1999
  have N1999 := Fr.app N1993 N1999q
  rw [(by rfl : own_take [0, 1, 0, 0] [2, -1, 3, -1] [-1, -1, 0, 2] [0, 1, 0, 0] [0, 0, 0, 0] [1, 0, 0, 0] (2 : Int32) (1 : Int32) = ([0, 1, 2, 0], [3, -1, -1, -1], [-1, -1, -1, 0], [0, 1, 2, 0], [0, 0, 0, 0], [1, 0, 0, 0], (3 : Int32), (1 : Int32)))] at C1999
  have B1999 : Cb Z T1999.heap n0 a1 a2 bco bnx bpv bfb bpd bip bfi ben [0, 1, 2, 0] [3, -1, -1, -1] [-1, -1, -1, 0] [0, 1, 2, 0] [0, 0, 0, 0] [1, 0, 0, 0] (3 : Int32) (1 : Int32) := C1999
  refine Rch.to (U' := T1999.setTop (mkF m 222 #[iv p1, iv p2, iv p3, iv (1 : Int32), iv (0 : Int32), iv (2 : Int32), rv a2, rv a1, iv (1 : Int32), iv (0 : Int32), iv (0 : Int32), iv (1 : Int32), iv (0 : Int32), iv (2 : Int32), iv (2 : Int32), uv, uv, uv] [(.int (own_sp [2, -1, 3, -1] [0, 1, 0, 0] [0, 0, 0, 0] (1 : Int32)))])) st1999 ?_
  rw [(by decide : own_sp [2, -1, 3, -1] [0, 1, 0, 0] [0, 0, 0, 0] (1 : Int32) = (2 : Int32))]
  refine Rch.go (U' := T1999.setTop (mkF m 224 #[iv p1, iv p2, iv p3, iv (1 : Int32), iv (0 : Int32), iv (2 : Int32), rv a2, rv a1, iv (1 : Int32), iv (0 : Int32), iv (0 : Int32), iv (1 : Int32), iv (0 : Int32), iv (2 : Int32), iv (2 : Int32), iv (2 : Int32), uv, uv] [])) (fun _ k => XS.istore X1999.here hx rfl (hb hby at_222) rfl (l' := #[iv p1, iv p2, iv p3, iv (1 : Int32), iv (0 : Int32), iv (2 : Int32), rv a2, rv a1, iv (1 : Int32), iv (0 : Int32), iv (0 : Int32), iv (1 : Int32), iv (0 : Int32), iv (2 : Int32), iv (2 : Int32), iv (2 : Int32), uv, uv]) rfl k) ?_
  refine Rch.go (U' := T1999.setTop (mkF m 226 #[iv p1, iv p2, iv p3, iv (1 : Int32), iv (0 : Int32), iv (2 : Int32), rv a2, rv a1, iv (1 : Int32), iv (0 : Int32), iv (0 : Int32), iv (1 : Int32), iv (0 : Int32), iv (2 : Int32), iv (2 : Int32), iv (2 : Int32), uv, uv] [(.int (2 : Int32))])) (fun _ k => XS.iload X1999.here hx rfl (hb hby at_224) rfl  k) ?_
  refine Rch.go (U' := T1999.setTop (mkF m 228 #[iv p1, iv p2, iv p3, iv (1 : Int32), iv (0 : Int32), iv (2 : Int32), rv a2, rv a1, iv (1 : Int32), iv (0 : Int32), iv (0 : Int32), iv (1 : Int32), iv (0 : Int32), iv (2 : Int32), iv (2 : Int32), iv (2 : Int32), uv, uv] [(.int (2 : Int32)), (.int (2 : Int32))])) (fun _ k => XS.iload X1999.here hx rfl (hb hby at_226) rfl  k) ?_
  have br2000 : (2 : Int32) = (2 : Int32) := (by decide)
  refine Rch.go (U' := T1999.setTop (mkF m 231 #[iv p1, iv p2, iv p3, iv (1 : Int32), iv (0 : Int32), iv (2 : Int32), rv a2, rv a1, iv (1 : Int32), iv (0 : Int32), iv (0 : Int32), iv (1 : Int32), iv (0 : Int32), iv (2 : Int32), iv (2 : Int32), iv (2 : Int32), uv, uv] [])) (fun _ k => XS.icmpNo X1999.here hx rfl (hb hby at_228) rfl (XT.ii_ne_f br2000) k) ?_
  refine Rch.go (U' := T1999.setTop (mkF m 233 #[iv p1, iv p2, iv p3, iv (1 : Int32), iv (0 : Int32), iv (2 : Int32), rv a2, rv a1, iv (1 : Int32), iv (0 : Int32), iv (0 : Int32), iv (1 : Int32), iv (0 : Int32), iv (2 : Int32), iv (2 : Int32), iv (2 : Int32), uv, uv] [(.ref a1)])) (fun _ k => XS.aload X1999.here hx rfl (hb hby at_231) rfl rfl k) ?_
  obtain ⟨cq2001, kq2001, q2001a, q2001b, q2001c⟩ := isOf hZ rfl B1999.1.1
  obtain ⟨_, _, ⟨T2001, L2001, k2001, n2001⟩, -, X2001, ⟨Lc2001, hQ2001, l2001, y2001, z2001⟩, st2001⟩ := X1999.virtualBack hx (y := yhs) (z := yhs) hown (mvT hZ (wi hw 63 rfl)) (mvT hZ (wi hw 64 rfl)) (notFace_of_selects (args := #[]) (mvT hZ (wi hw 66 rfl))) (mvT hZ (wi hw 66 rfl)) (mvT hZ (wi hw 65 rfl)) (by decide) (backOf (W := 0) (rmHs l Z a0 hw [] a1 a2 bco bnx bpv bfb bpd bip bfi ben [0, 1, 2, 0] [3, -1, -1, -1] [-1, -1, -1, 0] [0, 1, 2, 0] [0, 0, 0, 0] [1, 0, 0, 0] (3 : Int32) (1 : Int32)  T1999.heap n0 z1999 B1999 ) hZ (wi hw 67 rfl) (wi hw 29 rfl) (by decide) (by decide)) q2001a q2001c (g := (mkF m 233 #[iv p1, iv p2, iv p3, iv (1 : Int32), iv (0 : Int32), iv (2 : Int32), rv a2, rv a1, iv (1 : Int32), iv (0 : Int32), iv (0 : Int32), iv (1 : Int32), iv (0 : Int32), iv (2 : Int32), iv (2 : Int32), iv (2 : Int32), uv, uv] [(.ref a1)])) rfl (by rw [hml]; rfl) (Steps.refl _) (argsL := []) (rest := []) (lenOf pd_15 rfl) rfl (by show 2 * 0 + _ ≤ _; exact Nat.le_of_eq rfl) (hb hby at_233) (fun _ _ => ⟨rfl, rfl, (by decide : 15 + 0 ≤ _), (by decide : 70 + 0 ≤ _)⟩)
  dsimp only [Pt.U, Pt.locs, Pt.cells, Pt.slots] at X2001 l2001 y2001 z2001 st2001 hQ2001
  subst l2001 y2001 z2001
  obtain ⟨rfl, N2001q, e2001⟩ := hQ2001
  have N2001 := Fr.app N1999 N2001q
  refine Rch.to (U' := T2001.setTop (mkF m 236 #[iv p1, iv p2, iv p3, iv (1 : Int32), iv (0 : Int32), iv (2 : Int32), rv a2, rv a1, iv (1 : Int32), iv (0 : Int32), iv (0 : Int32), iv (1 : Int32), iv (0 : Int32), iv (2 : Int32), iv (2 : Int32), iv (2 : Int32), uv, uv] [(.int (own_pos (1 : Int32)))])) st2001 ?_
  rw [(by decide : (own_pos (1 : Int32)) = (1 : Int32))]
  have br2002 : ¬ ((1 : Int32) = (0 : Int32)) := (by decide)
  refine Rch.go (U' := T2001.setTop (mkF m 239 #[iv p1, iv p2, iv p3, iv (1 : Int32), iv (0 : Int32), iv (2 : Int32), rv a2, rv a1, iv (1 : Int32), iv (0 : Int32), iv (0 : Int32), iv (1 : Int32), iv (0 : Int32), iv (2 : Int32), iv (2 : Int32), iv (2 : Int32), uv, uv] [])) (fun _ k => XS.ifNo X2001.here hx rfl (hb hby at_236) rfl (XT.i0_eq_f br2002) k) ?_
  refine Rch.go (U' := T2001.setTop (mkF m 241 #[iv p1, iv p2, iv p3, iv (1 : Int32), iv (0 : Int32), iv (2 : Int32), rv a2, rv a1, iv (1 : Int32), iv (0 : Int32), iv (0 : Int32), iv (1 : Int32), iv (0 : Int32), iv (2 : Int32), iv (2 : Int32), iv (2 : Int32), uv, uv] [(.ref a1)])) (fun _ k => XS.aload X2001.here hx rfl (hb hby at_239) rfl rfl k) ?_
  obtain ⟨cq2003, kq2003, q2003a, q2003b, q2003c⟩ := isOf hZ e2001 B1999.1.1
  obtain ⟨_, _, ⟨T2003, L2003, k2003, n2003⟩, -, X2003, ⟨Lc2003, hQ2003, l2003, y2003, z2003⟩, st2003⟩ := X2001.virtualBack hx (y := yns) (z := yns) hown (mvT hZ (wi hw 68 rfl)) (mvT hZ (wi hw 69 rfl)) (notFace_of_selects (args := #[]) (mvT hZ (wi hw 71 rfl))) (mvT hZ (wi hw 71 rfl)) (mvT hZ (wi hw 70 rfl)) (by decide) (backOf (W := 0) (rmNs l Z a0 hw [] a1 a2 bco bnx bpv bfb bpd bip bfi ben [0, 1, 2, 0] [3, -1, -1, -1] [-1, -1, -1, 0] [0, 1, 2, 0] [0, 0, 0, 0] [1, 0, 0, 0] (3 : Int32) (1 : Int32)  T1999.heap n0 z1999 B1999 (by decide)) hZ (wi hw 72 rfl) (wi hw 29 rfl) (by decide) (by decide)) q2003a q2003c (g := (mkF m 241 #[iv p1, iv p2, iv p3, iv (1 : Int32), iv (0 : Int32), iv (2 : Int32), rv a2, rv a1, iv (1 : Int32), iv (0 : Int32), iv (0 : Int32), iv (1 : Int32), iv (0 : Int32), iv (2 : Int32), iv (2 : Int32), iv (2 : Int32), uv, uv] [(.ref a1)])) rfl (by rw [hml]; rfl) (Steps.refl _) (argsL := []) (rest := []) (lenOf pd_14 rfl) rfl (by show 2 * 0 + _ ≤ _; exact Nat.le_of_eq rfl) (hb hby at_241) (fun _ _ => ⟨rfl, e2001, (by decide : 15 + 0 ≤ _), (by decide : 70 + 0 ≤ _)⟩)
  dsimp only [Pt.U, Pt.locs, Pt.cells, Pt.slots] at X2003 l2003 y2003 z2003 st2003 hQ2003
  subst l2003 y2003 z2003
  obtain ⟨rfl, N2003q, e2003⟩ := hQ2003
  have N2003 := Fr.app N2001 N2003q
  refine Rch.to (U' := T2003.setTop (mkF m 244 #[iv p1, iv p2, iv p3, iv (1 : Int32), iv (0 : Int32), iv (2 : Int32), rv a2, rv a1, iv (1 : Int32), iv (0 : Int32), iv (0 : Int32), iv (1 : Int32), iv (0 : Int32), iv (2 : Int32), iv (2 : Int32), iv (2 : Int32), uv, uv] [(.int (own_at [0, 0, 0, 0] ((1 : Int32) - (1 : Int32))))])) st2003 ?_
  rw [(by decide : (own_at [0, 0, 0, 0] ((1 : Int32) - (1 : Int32))) = (0 : Int32))]
  refine Rch.go (U' := T2003.setTop (mkF m 246 #[iv p1, iv p2, iv p3, iv (1 : Int32), iv (0 : Int32), iv (2 : Int32), rv a2, rv a1, iv (1 : Int32), iv (0 : Int32), iv (0 : Int32), iv (1 : Int32), iv (0 : Int32), iv (2 : Int32), iv (2 : Int32), iv (2 : Int32), uv, uv] [(.int (0 : Int32)), (.int (0 : Int32))])) (fun _ k => XS.iload X2003.here hx rfl (hb hby at_244) rfl  k) ?_
  have br2004 : (0 : Int32) = (0 : Int32) := (by decide)
  refine Rch.go (U' := T2003.setTop (mkF m 249 #[iv p1, iv p2, iv p3, iv (1 : Int32), iv (0 : Int32), iv (2 : Int32), rv a2, rv a1, iv (1 : Int32), iv (0 : Int32), iv (0 : Int32), iv (1 : Int32), iv (0 : Int32), iv (2 : Int32), iv (2 : Int32), iv (2 : Int32), uv, uv] [])) (fun _ k => XS.icmpNo X2003.here hx rfl (hb hby at_246) rfl (XT.ii_ne_f br2004) k) ?_
  refine Rch.go (U' := T2003.setTop (mkF m 250 #[iv p1, iv p2, iv p3, iv (1 : Int32), iv (0 : Int32), iv (2 : Int32), rv a2, rv a1, iv (1 : Int32), iv (0 : Int32), iv (0 : Int32), iv (1 : Int32), iv (0 : Int32), iv (2 : Int32), iv (2 : Int32), iv (2 : Int32), uv, uv] [(.int (1 : Int32))])) (fun _ k => XS.iconst X2003.here hx rfl (hb hby at_249) k) ?_
  refine Rch.go (U' := T2003.setTop (mkF m 254 #[iv p1, iv p2, iv p3, iv (1 : Int32), iv (0 : Int32), iv (2 : Int32), rv a2, rv a1, iv (1 : Int32), iv (0 : Int32), iv (0 : Int32), iv (1 : Int32), iv (0 : Int32), iv (2 : Int32), iv (2 : Int32), iv (2 : Int32), uv, uv] [(.int (1 : Int32))])) (fun _ k => XS.goto X2003.here hx rfl (pc0 := 250) (pc' := 254) rfl (hb hby at_250) (by decide) (by decide) k) ?_
  refine Rch.fin X2003 hlk (v := some (.int (nar .boolean (1 : Int32)))) (fun h => by rw [hret] at h; cases h) e2003 (by decide) (by decide) (fun fs hr => retN X2003 hx (t := .boolean) hret (by simp) (hb hby at_254) hr) ?_
  exact ⟨rfl, N2003⟩
set_option maxRecDepth 65536 in
set_option maxHeartbeats 40000000 in
theorem cut54_110 {p : Program} {l : Launch} {e : Env} {s : State} {m : MethodId} {args : Array Value} {below : List Frame} {meth : Method} {c : Code} {T0 : State} {locs : List Loc} {Z : State} {a0 : Array Value} {h0 : Heap} {n0 : Nat}  (p1 : Int32) (p2 : Int32) (p3 : Int32) (a1 : Addr) (a2 : Addr) (bco : Addr) (bnx : Addr) (bpv : Addr) (bfb : Addr) (bpd : Addr) (bip : Addr) (bfi : Addr) (ben : Addr)
    (X0 : Stand p l e room_1 s m args below meth c T0 locs 15 70) (hx : p.tables.exec = Jvm.exec) (hZ : Z.Warmed39 s.vm) (hw : ∀ d ∈ tables_1, d.before a0 Z = true) (hby : c.code = code) (hml : c.maxLocals = 18) (hown : s.vm.findClass cLW = some m.cls) (hret : meth.sig.returnType = some .boolean) (hlk : meth.locks = false) (e0 : T0.heap = h0) (N0 : Fr n0 locs) (Z0 : n0 ≤ h0.size) (B : Cb Z h0 n0 a1 a2 bco bnx bpv bfb bpd bip bfi ben [0, 0, 0, 0] [1, -1, 0, 0] [-1, 0, 0, 0] [0, 0, 0, 0] [0, 0, 0, 0] [1, 0, 0, 0] (1 : Int32) (1 : Int32)) :
    Rch p e below (Fin s below (fun v h L => v = some (.int 1) ∧ Fr n0 L) 40 256) (T0.setTop (mkF m 54 #[iv p1, iv p2, iv p3, iv (1 : Int32), iv (1 : Int32), iv (0 : Int32), rv a2, rv a1, uv, uv, uv, uv, uv, uv, uv, uv, uv, uv] [])) := by
  refine Rch.go (U' := T0.setTop (mkF m 55 #[iv p1, iv p2, iv p3, iv (1 : Int32), iv (1 : Int32), iv (0 : Int32), rv a2, rv a1, uv, uv, uv, uv, uv, uv, uv, uv, uv, uv] [(.int (1 : Int32))])) (fun _ k => XS.iloadN X0.here hx rfl (hb hby at_54) rfl  k) ?_
  have br2005 : ¬ ((1 : Int32) = (0 : Int32)) := (by decide)
  refine Rch.go (U' := T0.setTop (mkF m 58 #[iv p1, iv p2, iv p3, iv (1 : Int32), iv (1 : Int32), iv (0 : Int32), rv a2, rv a1, uv, uv, uv, uv, uv, uv, uv, uv, uv, uv] [])) (fun _ k => XS.ifNo X0.here hx rfl (hb hby at_55) rfl (XT.i0_eq_f br2005) k) ?_
  refine Rch.go (U' := T0.setTop (mkF m 60 #[iv p1, iv p2, iv p3, iv (1 : Int32), iv (1 : Int32), iv (0 : Int32), rv a2, rv a1, uv, uv, uv, uv, uv, uv, uv, uv, uv, uv] [(.ref a1)])) (fun _ k => XS.aload X0.here hx rfl (hb hby at_58) rfl rfl k) ?_
  obtain ⟨cq2006, kq2006, q2006a, q2006b, q2006c⟩ := isOf hZ e0 B.1.1
  obtain ⟨_, _, ⟨T2006, L2006, k2006, n2006⟩, -, X2006, ⟨Lc2006, hQ2006, l2006, y2006, z2006⟩, st2006⟩ := X0.virtualBack hx (y := yt) (z := yt) hown (mvT hZ (wi hw 73 rfl)) (mvT hZ (wi hw 74 rfl)) (notFace_of_selects (args := #[]) (mvT hZ (wi hw 76 rfl))) (mvT hZ (wi hw 76 rfl)) (mvT hZ (wi hw 75 rfl)) (by decide) (backOf (W := 0) (rmT l Z a0 hw [] a1 a2 bco bnx bpv bfb bpd bip bfi ben [0, 0, 0, 0] [1, -1, 0, 0] [-1, 0, 0, 0] [0, 0, 0, 0] [0, 0, 0, 0] [1, 0, 0, 0] (1 : Int32) (1 : Int32) h0 n0 Z0 B (by decide)) hZ (wi hw 77 rfl) (wi hw 29 rfl) (by decide) (by decide)) q2006a q2006c (g := (mkF m 60 #[iv p1, iv p2, iv p3, iv (1 : Int32), iv (1 : Int32), iv (0 : Int32), rv a2, rv a1, uv, uv, uv, uv, uv, uv, uv, uv, uv, uv] [(.ref a1)])) rfl (by rw [hml]; rfl) (Steps.refl _) (argsL := []) (rest := []) (lenOf pd_14 rfl) rfl (by show 2 * 0 + _ ≤ _; exact Nat.le_of_eq rfl) (hb hby at_60) (fun _ _ => ⟨rfl, e0, (by decide : 15 + 0 ≤ _), (by decide : 70 + 0 ≤ _)⟩)
  dsimp only [Pt.U, Pt.locs, Pt.cells, Pt.slots] at X2006 l2006 y2006 z2006 st2006 hQ2006
  subst l2006 y2006 z2006
  obtain ⟨rfl, N2006q, z2006, C2006⟩ := hQ2006
  have N2006 := Fr.app N0 N2006q
  rw [(by rfl : own_take [0, 0, 0, 0] [1, -1, 0, 0] [-1, 0, 0, 0] [0, 0, 0, 0] [0, 0, 0, 0] [1, 0, 0, 0] (1 : Int32) (1 : Int32) = ([0, 1, 0, 0], [-1, -1, 0, 0], [-1, -1, 0, 0], [0, 1, 0, 0], [0, 0, 0, 0], [0, 0, 0, 0], (2 : Int32), (0 : Int32)))] at C2006
  have B2006 : Cb Z T2006.heap n0 a1 a2 bco bnx bpv bfb bpd bip bfi ben [0, 1, 0, 0] [-1, -1, 0, 0] [-1, -1, 0, 0] [0, 1, 0, 0] [0, 0, 0, 0] [0, 0, 0, 0] (2 : Int32) (0 : Int32) := C2006
  refine Rch.to (U' := T2006.setTop (mkF m 63 #[iv p1, iv p2, iv p3, iv (1 : Int32), iv (1 : Int32), iv (0 : Int32), rv a2, rv a1, uv, uv, uv, uv, uv, uv, uv, uv, uv, uv] [(.int (own_sp [1, -1, 0, 0] [0, 0, 0, 0] [0, 0, 0, 0] (1 : Int32)))])) st2006 ?_
  rw [(by decide : own_sp [1, -1, 0, 0] [0, 0, 0, 0] [0, 0, 0, 0] (1 : Int32) = (1 : Int32))]
  refine Rch.go (U' := T2006.setTop (mkF m 65 #[iv p1, iv p2, iv p3, iv (1 : Int32), iv (1 : Int32), iv (0 : Int32), rv a2, rv a1, iv (1 : Int32), uv, uv, uv, uv, uv, uv, uv, uv, uv] [])) (fun _ k => XS.istore X2006.here hx rfl (hb hby at_63) rfl (l' := #[iv p1, iv p2, iv p3, iv (1 : Int32), iv (1 : Int32), iv (0 : Int32), rv a2, rv a1, iv (1 : Int32), uv, uv, uv, uv, uv, uv, uv, uv, uv]) rfl k) ?_
  refine Rch.go (U' := T2006.setTop (mkF m 67 #[iv p1, iv p2, iv p3, iv (1 : Int32), iv (1 : Int32), iv (0 : Int32), rv a2, rv a1, iv (1 : Int32), uv, uv, uv, uv, uv, uv, uv, uv, uv] [(.ref a1)])) (fun _ k => XS.aload X2006.here hx rfl (hb hby at_65) rfl rfl k) ?_
  obtain ⟨cq2007, kq2007, q2007a, q2007b, q2007c⟩ := isOf hZ rfl B2006.1.1
  obtain ⟨_, _, ⟨T2007, L2007, k2007, n2007⟩, -, X2007, ⟨Lc2007, hQ2007, l2007, y2007, z2007⟩, st2007⟩ := X2006.virtualBack hx (y := yhs) (z := yhs) hown (mvT hZ (wi hw 63 rfl)) (mvT hZ (wi hw 64 rfl)) (notFace_of_selects (args := #[]) (mvT hZ (wi hw 66 rfl))) (mvT hZ (wi hw 66 rfl)) (mvT hZ (wi hw 65 rfl)) (by decide) (backOf (W := 0) (rmHs l Z a0 hw [] a1 a2 bco bnx bpv bfb bpd bip bfi ben [0, 1, 0, 0] [-1, -1, 0, 0] [-1, -1, 0, 0] [0, 1, 0, 0] [0, 0, 0, 0] [0, 0, 0, 0] (2 : Int32) (0 : Int32)  T2006.heap n0 z2006 B2006 ) hZ (wi hw 67 rfl) (wi hw 29 rfl) (by decide) (by decide)) q2007a q2007c (g := (mkF m 67 #[iv p1, iv p2, iv p3, iv (1 : Int32), iv (1 : Int32), iv (0 : Int32), rv a2, rv a1, iv (1 : Int32), uv, uv, uv, uv, uv, uv, uv, uv, uv] [(.ref a1)])) rfl (by rw [hml]; rfl) (Steps.refl _) (argsL := []) (rest := []) (lenOf pd_15 rfl) rfl (by show 2 * 0 + _ ≤ _; exact Nat.le_of_eq rfl) (hb hby at_67) (fun _ _ => ⟨rfl, rfl, (by decide : 15 + 0 ≤ _), (by decide : 70 + 0 ≤ _)⟩)
  dsimp only [Pt.U, Pt.locs, Pt.cells, Pt.slots] at X2007 l2007 y2007 z2007 st2007 hQ2007
  subst l2007 y2007 z2007
  obtain ⟨rfl, N2007q, e2007⟩ := hQ2007
  have N2007 := Fr.app N2006 N2007q
  refine Rch.to (U' := T2007.setTop (mkF m 70 #[iv p1, iv p2, iv p3, iv (1 : Int32), iv (1 : Int32), iv (0 : Int32), rv a2, rv a1, iv (1 : Int32), uv, uv, uv, uv, uv, uv, uv, uv, uv] [(.int (own_pos (0 : Int32)))])) st2007 ?_
  rw [(by decide : (own_pos (0 : Int32)) = (0 : Int32))]
  refine Rch.go (U' := T2007.setTop (mkF m 72 #[iv p1, iv p2, iv p3, iv (1 : Int32), iv (1 : Int32), iv (0 : Int32), rv a2, rv a1, iv (1 : Int32), iv (0 : Int32), uv, uv, uv, uv, uv, uv, uv, uv] [])) (fun _ k => XS.istore X2007.here hx rfl (hb hby at_70) rfl (l' := #[iv p1, iv p2, iv p3, iv (1 : Int32), iv (1 : Int32), iv (0 : Int32), rv a2, rv a1, iv (1 : Int32), iv (0 : Int32), uv, uv, uv, uv, uv, uv, uv, uv]) rfl k) ?_
  refine Rch.go (U' := T2007.setTop (mkF m 74 #[iv p1, iv p2, iv p3, iv (1 : Int32), iv (1 : Int32), iv (0 : Int32), rv a2, rv a1, iv (1 : Int32), iv (0 : Int32), uv, uv, uv, uv, uv, uv, uv, uv] [(.ref a1)])) (fun _ k => XS.aload X2007.here hx rfl (hb hby at_72) rfl rfl k) ?_
  refine Rch.go (U' := T2007.setTop (mkF m 76 #[iv p1, iv p2, iv p3, iv (1 : Int32), iv (1 : Int32), iv (0 : Int32), rv a2, rv a1, iv (1 : Int32), iv (0 : Int32), uv, uv, uv, uv, uv, uv, uv, uv] [(.int (1 : Int32)), (.ref a1)])) (fun _ k => XS.iload X2007.here hx rfl (hb hby at_74) rfl  k) ?_
  refine Rch.go (U' := T2007.setTop (mkF m 77 #[iv p1, iv p2, iv p3, iv (1 : Int32), iv (1 : Int32), iv (0 : Int32), rv a2, rv a1, iv (1 : Int32), iv (0 : Int32), uv, uv, uv, uv, uv, uv, uv, uv] [(.int (2 : Int32)), (.int (1 : Int32)), (.ref a1)])) (fun _ k => XS.iconst X2007.here hx rfl (hb hby at_76) k) ?_
  obtain ⟨cq2008, kq2008, q2008a, q2008b, q2008c⟩ := isOf hZ e2007 B2006.1.1
  obtain ⟨_, _, ⟨T2008, L2008, k2008, n2008⟩, -, X2008, ⟨Lc2008, hQ2008, l2008, y2008, z2008⟩, st2008⟩ := X2007.virtualBack hx (y := yj) (z := yj) hown (mvT hZ (wi hw 51 rfl)) (mvT hZ (wi hw 52 rfl)) (notFace_of_selects (args := #[]) (mvT hZ (wi hw 54 rfl))) (mvT hZ (wi hw 54 rfl)) (mvT hZ (wi hw 53 rfl)) (by decide) (backOf (W := 0) (rmJ l Z a0 hw [] a1 a2 bco bnx bpv bfb bpd bip bfi ben [0, 1, 0, 0] [-1, -1, 0, 0] [-1, -1, 0, 0] [0, 1, 0, 0] [0, 0, 0, 0] [0, 0, 0, 0] (2 : Int32) (0 : Int32) (1 : Int32) (2 : Int32) T2006.heap n0 z2006 B2006 (by decide)) hZ (wi hw 55 rfl) (wi hw 29 rfl) (by decide) (by decide)) q2008a q2008c (g := (mkF m 77 #[iv p1, iv p2, iv p3, iv (1 : Int32), iv (1 : Int32), iv (0 : Int32), rv a2, rv a1, iv (1 : Int32), iv (0 : Int32), uv, uv, uv, uv, uv, uv, uv, uv] [(.int (2 : Int32)), (.int (1 : Int32)), (.ref a1)])) rfl (by rw [hml]; rfl) (Steps.refl _) (argsL := [(.int (1 : Int32)), (.int (2 : Int32))]) (rest := []) (lenOf pd_8 rfl) rfl (by show 2 * 0 + _ ≤ _; exact Nat.le_of_eq rfl) (hb hby at_77) (fun _ _ => ⟨rfl, e2007, (by decide : 15 + 0 ≤ _), (by decide : 70 + 0 ≤ _)⟩)
  dsimp only [Pt.U, Pt.locs, Pt.cells, Pt.slots] at X2008 l2008 y2008 z2008 st2008 hQ2008
  subst l2008 y2008 z2008
  obtain ⟨rfl, N2008q, z2008, C2008⟩ := hQ2008
  have N2008 := Fr.app N2007 N2008q
  rw [(by rfl : own_join [0, 1, 0, 0] [-1, -1, 0, 0] [-1, -1, 0, 0] [0, 1, 0, 0] [0, 0, 0, 0] [0, 0, 0, 0] (2 : Int32) (0 : Int32) (1 : Int32) (2 : Int32) = ([0, 1, 1, 0], [-1, 2, -1, 0], [-1, -1, 1, 0], [0, 1, 0, 0], [1, 0, 0, 0], [0, 1, 0, 0], (2 : Int32), (1 : Int32)))] at C2008
  have B2008 : Cb Z T2008.heap n0 a1 a2 bco bnx bpv bfb bpd bip bfi ben [0, 1, 1, 0] [-1, 2, -1, 0] [-1, -1, 1, 0] [0, 1, 0, 0] [1, 0, 0, 0] [0, 1, 0, 0] (2 : Int32) (1 : Int32) := C2008
  refine Rch.to (U' := T2008.setTop (mkF m 80 #[iv p1, iv p2, iv p3, iv (1 : Int32), iv (1 : Int32), iv (0 : Int32), rv a2, rv a1, iv (1 : Int32), iv (0 : Int32), uv, uv, uv, uv, uv, uv, uv, uv] [])) st2008 ?_
  refine Rch.go (U' := T2008.setTop (mkF m 82 #[iv p1, iv p2, iv p3, iv (1 : Int32), iv (1 : Int32), iv (0 : Int32), rv a2, rv a1, iv (1 : Int32), iv (0 : Int32), uv, uv, uv, uv, uv, uv, uv, uv] [(.ref a1)])) (fun _ k => XS.aload X2008.here hx rfl (hb hby at_80) rfl rfl k) ?_
  refine Rch.go (U' := T2008.setTop (mkF m 84 #[iv p1, iv p2, iv p3, iv (1 : Int32), iv (1 : Int32), iv (0 : Int32), rv a2, rv a1, iv (1 : Int32), iv (0 : Int32), uv, uv, uv, uv, uv, uv, uv, uv] [(.int (0 : Int32)), (.ref a1)])) (fun _ k => XS.iload X2008.here hx rfl (hb hby at_82) rfl  k) ?_
  refine Rch.go (U' := T2008.setTop (mkF m 85 #[iv p1, iv p2, iv p3, iv (1 : Int32), iv (1 : Int32), iv (0 : Int32), rv a2, rv a1, iv (1 : Int32), iv (0 : Int32), uv, uv, uv, uv, uv, uv, uv, uv] [(.int (3 : Int32)), (.int (0 : Int32)), (.ref a1)])) (fun _ k => XS.iconst X2008.here hx rfl (hb hby at_84) k) ?_
  obtain ⟨cq2009, kq2009, q2009a, q2009b, q2009c⟩ := isOf hZ rfl B2008.1.1
  obtain ⟨_, _, ⟨T2009, L2009, k2009, n2009⟩, -, X2009, ⟨Lc2009, hQ2009, l2009, y2009, z2009⟩, st2009⟩ := X2008.virtualBack hx (y := yj) (z := yj) hown (mvT hZ (wi hw 51 rfl)) (mvT hZ (wi hw 52 rfl)) (notFace_of_selects (args := #[]) (mvT hZ (wi hw 54 rfl))) (mvT hZ (wi hw 54 rfl)) (mvT hZ (wi hw 53 rfl)) (by decide) (backOf (W := 0) (rmJ l Z a0 hw [] a1 a2 bco bnx bpv bfb bpd bip bfi ben [0, 1, 1, 0] [-1, 2, -1, 0] [-1, -1, 1, 0] [0, 1, 0, 0] [1, 0, 0, 0] [0, 1, 0, 0] (2 : Int32) (1 : Int32) (0 : Int32) (3 : Int32) T2008.heap n0 z2008 B2008 (by decide)) hZ (wi hw 55 rfl) (wi hw 29 rfl) (by decide) (by decide)) q2009a q2009c (g := (mkF m 85 #[iv p1, iv p2, iv p3, iv (1 : Int32), iv (1 : Int32), iv (0 : Int32), rv a2, rv a1, iv (1 : Int32), iv (0 : Int32), uv, uv, uv, uv, uv, uv, uv, uv] [(.int (3 : Int32)), (.int (0 : Int32)), (.ref a1)])) rfl (by rw [hml]; rfl) (Steps.refl _) (argsL := [(.int (0 : Int32)), (.int (3 : Int32))]) (rest := []) (lenOf pd_8 rfl) rfl (by show 2 * 0 + _ ≤ _; exact Nat.le_of_eq rfl) (hb hby at_85) (fun _ _ => ⟨rfl, rfl, (by decide : 15 + 0 ≤ _), (by decide : 70 + 0 ≤ _)⟩)
  dsimp only [Pt.U, Pt.locs, Pt.cells, Pt.slots] at X2009 l2009 y2009 z2009 st2009 hQ2009
  subst l2009 y2009 z2009
  obtain ⟨rfl, N2009q, z2009, C2009⟩ := hQ2009
  have N2009 := Fr.app N2008 N2009q
  rw [(by rfl : own_join [0, 1, 1, 0] [-1, 2, -1, 0] [-1, -1, 1, 0] [0, 1, 0, 0] [1, 0, 0, 0] [0, 1, 0, 0] (2 : Int32) (1 : Int32) (0 : Int32) (3 : Int32) = ([0, 1, 1, 0], [3, 2, -1, -1], [-1, -1, 1, 0], [0, 1, 0, 0], [1, 0, 0, 0], [1, 1, 0, 0], (2 : Int32), (2 : Int32)))] at C2009
  have B2009 : Cb Z T2009.heap n0 a1 a2 bco bnx bpv bfb bpd bip bfi ben [0, 1, 1, 0] [3, 2, -1, -1] [-1, -1, 1, 0] [0, 1, 0, 0] [1, 0, 0, 0] [1, 1, 0, 0] (2 : Int32) (2 : Int32) := C2009
  refine Rch.to (U' := T2009.setTop (mkF m 88 #[iv p1, iv p2, iv p3, iv (1 : Int32), iv (1 : Int32), iv (0 : Int32), rv a2, rv a1, iv (1 : Int32), iv (0 : Int32), uv, uv, uv, uv, uv, uv, uv, uv] [])) st2009 ?_
  refine Rch.go (U' := T2009.setTop (mkF m 90 #[iv p1, iv p2, iv p3, iv (1 : Int32), iv (1 : Int32), iv (0 : Int32), rv a2, rv a1, iv (1 : Int32), iv (0 : Int32), uv, uv, uv, uv, uv, uv, uv, uv] [(.int (0 : Int32))])) (fun _ k => XS.iload X2009.here hx rfl (hb hby at_88) rfl  k) ?_
  refine Rch.go (U' := T2009.setTop (mkF m 91 #[iv p1, iv p2, iv p3, iv (1 : Int32), iv (1 : Int32), iv (0 : Int32), rv a2, rv a1, iv (1 : Int32), iv (0 : Int32), uv, uv, uv, uv, uv, uv, uv, uv] [(.int (2 : Int32)), (.int (0 : Int32))])) (fun _ k => XS.iconst X2009.here hx rfl (hb hby at_90) k) ?_
  have br2010 : ¬ ((0 : Int32) = (2 : Int32)) := (by decide)
  refine Rch.go (U' := T2009.setTop (mkF m 99 #[iv p1, iv p2, iv p3, iv (1 : Int32), iv (1 : Int32), iv (0 : Int32), rv a2, rv a1, iv (1 : Int32), iv (0 : Int32), uv, uv, uv, uv, uv, uv, uv, uv] [])) (fun _ k => XS.icmpYes X2009.here hx rfl (pc0 := 91) (pc' := 99) rfl (hb hby at_91) rfl (XT.ii_ne_t br2010) (by decide) (by decide) k) ?_
  refine Rch.go (U' := T2009.setTop (mkF m 101 #[iv p1, iv p2, iv p3, iv (1 : Int32), iv (1 : Int32), iv (0 : Int32), rv a2, rv a1, iv (1 : Int32), iv (0 : Int32), uv, uv, uv, uv, uv, uv, uv, uv] [(.int (0 : Int32))])) (fun _ k => XS.iload X2009.here hx rfl (hb hby at_99) rfl  k) ?_
  refine Rch.go (U' := T2009.setTop (mkF m 103 #[iv p1, iv p2, iv p3, iv (1 : Int32), iv (1 : Int32), iv (0 : Int32), rv a2, rv a1, iv (1 : Int32), iv (0 : Int32), iv (0 : Int32), uv, uv, uv, uv, uv, uv, uv] [])) (fun _ k => XS.istore X2009.here hx rfl (hb hby at_101) rfl (l' := #[iv p1, iv p2, iv p3, iv (1 : Int32), iv (1 : Int32), iv (0 : Int32), rv a2, rv a1, iv (1 : Int32), iv (0 : Int32), iv (0 : Int32), uv, uv, uv, uv, uv, uv, uv]) rfl k) ?_
  refine Rch.go (U' := T2009.setTop (mkF m 105 #[iv p1, iv p2, iv p3, iv (1 : Int32), iv (1 : Int32), iv (0 : Int32), rv a2, rv a1, iv (1 : Int32), iv (0 : Int32), iv (0 : Int32), uv, uv, uv, uv, uv, uv, uv] [(.int (1 : Int32))])) (fun _ k => XS.iload X2009.here hx rfl (hb hby at_103) rfl  k) ?_
  refine Rch.go (U' := T2009.setTop (mkF m 106 #[iv p1, iv p2, iv p3, iv (1 : Int32), iv (1 : Int32), iv (0 : Int32), rv a2, rv a1, iv (1 : Int32), iv (0 : Int32), iv (0 : Int32), uv, uv, uv, uv, uv, uv, uv] [(.int (1 : Int32)), (.int (1 : Int32))])) (fun _ k => XS.iconst X2009.here hx rfl (hb hby at_105) k) ?_
  have br2011 : (1 : Int32) = (1 : Int32) := (by decide)
  refine Rch.go (U' := T2009.setTop (mkF m 109 #[iv p1, iv p2, iv p3, iv (1 : Int32), iv (1 : Int32), iv (0 : Int32), rv a2, rv a1, iv (1 : Int32), iv (0 : Int32), iv (0 : Int32), uv, uv, uv, uv, uv, uv, uv] [])) (fun _ k => XS.icmpNo X2009.here hx rfl (hb hby at_106) rfl (XT.ii_ne_f br2011) k) ?_
  refine Rch.go (U' := T2009.setTop (mkF m 111 #[iv p1, iv p2, iv p3, iv (1 : Int32), iv (1 : Int32), iv (0 : Int32), rv a2, rv a1, iv (1 : Int32), iv (0 : Int32), iv (0 : Int32), uv, uv, uv, uv, uv, uv, uv] [(.int (0 : Int32))])) (fun _ k => XS.iload X2009.here hx rfl (hb hby at_109) rfl  k) ?_
  have br2012 : (0 : Int32) = (0 : Int32) := (by decide)
  refine Rch.go (U' := T2009.setTop (mkF m 114 #[iv p1, iv p2, iv p3, iv (1 : Int32), iv (1 : Int32), iv (0 : Int32), rv a2, rv a1, iv (1 : Int32), iv (0 : Int32), iv (0 : Int32), uv, uv, uv, uv, uv, uv, uv] [])) (fun _ k => XS.ifNo X2009.here hx rfl (hb hby at_111) rfl (XT.i0_ne_f br2012) k) ?_
  refine Rch.go (U' := T2009.setTop (mkF m 116 #[iv p1, iv p2, iv p3, iv (1 : Int32), iv (1 : Int32), iv (0 : Int32), rv a2, rv a1, iv (1 : Int32), iv (0 : Int32), iv (0 : Int32), uv, uv, uv, uv, uv, uv, uv] [(.ref a1)])) (fun _ k => XS.aload X2009.here hx rfl (hb hby at_114) rfl rfl k) ?_
  refine Rch.go (U' := T2009.setTop (mkF m 117 #[iv p1, iv p2, iv p3, iv (1 : Int32), iv (1 : Int32), iv (0 : Int32), rv a2, rv a1, iv (1 : Int32), iv (0 : Int32), iv (0 : Int32), uv, uv, uv, uv, uv, uv, uv] [(.int (2 : Int32)), (.ref a1)])) (fun _ k => XS.iconst X2009.here hx rfl (hb hby at_116) k) ?_
  obtain ⟨cq2013, kq2013, q2013a, q2013b, q2013c⟩ := isOf hZ rfl B2009.1.1
  obtain ⟨_, _, ⟨T2013, L2013, k2013, n2013⟩, -, X2013, ⟨Lc2013, hQ2013, l2013, y2013, z2013⟩, st2013⟩ := X2009.virtualBack hx (y := yc) (z := yc) hown (mvT hZ (wi hw 58 rfl)) (mvT hZ (wi hw 59 rfl)) (notFace_of_selects (args := #[]) (mvT hZ (wi hw 61 rfl))) (mvT hZ (wi hw 61 rfl)) (mvT hZ (wi hw 60 rfl)) (by decide) (backOf (W := 0) (rmCo l Z a0 hw [] a1 a2 bco bnx bpv bfb bpd bip bfi ben [0, 1, 1, 0] [3, 2, -1, -1] [-1, -1, 1, 0] [0, 1, 0, 0] [1, 0, 0, 0] [1, 1, 0, 0] (2 : Int32) (2 : Int32) (2 : Int32) T2009.heap n0 z2009 B2009 (by decide)) hZ (wi hw 62 rfl) (wi hw 29 rfl) (by decide) (by decide)) q2013a q2013c (g := (mkF m 117 #[iv p1, iv p2, iv p3, iv (1 : Int32), iv (1 : Int32), iv (0 : Int32), rv a2, rv a1, iv (1 : Int32), iv (0 : Int32), iv (0 : Int32), uv, uv, uv, uv, uv, uv, uv] [(.int (2 : Int32)), (.ref a1)])) rfl (by rw [hml]; rfl) (Steps.refl _) (argsL := [(.int (2 : Int32))]) (rest := []) (lenOf pd_7 rfl) rfl (by show 2 * 0 + _ ≤ _; exact Nat.le_of_eq rfl) (hb hby at_117) (fun _ _ => ⟨rfl, rfl, (by decide : 15 + 0 ≤ _), (by decide : 70 + 0 ≤ _)⟩)
  dsimp only [Pt.U, Pt.locs, Pt.cells, Pt.slots] at X2013 l2013 y2013 z2013 st2013 hQ2013
  subst l2013 y2013 z2013
  obtain ⟨rfl, N2013q, e2013⟩ := hQ2013
  have N2013 := Fr.app N2009 N2013q
  refine Rch.to (U' := T2013.setTop (mkF m 120 #[iv p1, iv p2, iv p3, iv (1 : Int32), iv (1 : Int32), iv (0 : Int32), rv a2, rv a1, iv (1 : Int32), iv (0 : Int32), iv (0 : Int32), uv, uv, uv, uv, uv, uv, uv] [(.int (own_at [0, 1, 1, 0] (2 : Int32)))])) st2013 ?_
  rw [(by decide : (own_at [0, 1, 1, 0] (2 : Int32)) = (1 : Int32))]
  refine Rch.go (U' := T2013.setTop (mkF m 122 #[iv p1, iv p2, iv p3, iv (1 : Int32), iv (1 : Int32), iv (0 : Int32), rv a2, rv a1, iv (1 : Int32), iv (0 : Int32), iv (0 : Int32), uv, uv, uv, uv, uv, uv, uv] [(.int (1 : Int32)), (.int (1 : Int32))])) (fun _ k => XS.iload X2013.here hx rfl (hb hby at_120) rfl  k) ?_
  have br2014 : (1 : Int32) = (1 : Int32) := (by decide)
  refine Rch.go (U' := T2013.setTop (mkF m 125 #[iv p1, iv p2, iv p3, iv (1 : Int32), iv (1 : Int32), iv (0 : Int32), rv a2, rv a1, iv (1 : Int32), iv (0 : Int32), iv (0 : Int32), uv, uv, uv, uv, uv, uv, uv] [])) (fun _ k => XS.icmpNo X2013.here hx rfl (hb hby at_122) rfl (XT.ii_ne_f br2014) k) ?_
  refine Rch.go (U' := T2013.setTop (mkF m 127 #[iv p1, iv p2, iv p3, iv (1 : Int32), iv (1 : Int32), iv (0 : Int32), rv a2, rv a1, iv (1 : Int32), iv (0 : Int32), iv (0 : Int32), uv, uv, uv, uv, uv, uv, uv] [(.ref a1)])) (fun _ k => XS.aload X2013.here hx rfl (hb hby at_125) rfl rfl k) ?_
  refine Rch.go (U' := T2013.setTop (mkF m 128 #[iv p1, iv p2, iv p3, iv (1 : Int32), iv (1 : Int32), iv (0 : Int32), rv a2, rv a1, iv (1 : Int32), iv (0 : Int32), iv (0 : Int32), uv, uv, uv, uv, uv, uv, uv] [(.int (3 : Int32)), (.ref a1)])) (fun _ k => XS.iconst X2013.here hx rfl (hb hby at_127) k) ?_
  obtain ⟨cq2015, kq2015, q2015a, q2015b, q2015c⟩ := isOf hZ e2013 B2009.1.1
  obtain ⟨_, _, ⟨T2015, L2015, k2015, n2015⟩, -, X2015, ⟨Lc2015, hQ2015, l2015, y2015, z2015⟩, st2015⟩ := X2013.virtualBack hx (y := yc) (z := yc) hown (mvT hZ (wi hw 58 rfl)) (mvT hZ (wi hw 59 rfl)) (notFace_of_selects (args := #[]) (mvT hZ (wi hw 61 rfl))) (mvT hZ (wi hw 61 rfl)) (mvT hZ (wi hw 60 rfl)) (by decide) (backOf (W := 0) (rmCo l Z a0 hw [] a1 a2 bco bnx bpv bfb bpd bip bfi ben [0, 1, 1, 0] [3, 2, -1, -1] [-1, -1, 1, 0] [0, 1, 0, 0] [1, 0, 0, 0] [1, 1, 0, 0] (2 : Int32) (2 : Int32) (3 : Int32) T2009.heap n0 z2009 B2009 (by decide)) hZ (wi hw 62 rfl) (wi hw 29 rfl) (by decide) (by decide)) q2015a q2015c (g := (mkF m 128 #[iv p1, iv p2, iv p3, iv (1 : Int32), iv (1 : Int32), iv (0 : Int32), rv a2, rv a1, iv (1 : Int32), iv (0 : Int32), iv (0 : Int32), uv, uv, uv, uv, uv, uv, uv] [(.int (3 : Int32)), (.ref a1)])) rfl (by rw [hml]; rfl) (Steps.refl _) (argsL := [(.int (3 : Int32))]) (rest := []) (lenOf pd_7 rfl) rfl (by show 2 * 0 + _ ≤ _; exact Nat.le_of_eq rfl) (hb hby at_128) (fun _ _ => ⟨rfl, e2013, (by decide : 15 + 0 ≤ _), (by decide : 70 + 0 ≤ _)⟩)
  dsimp only [Pt.U, Pt.locs, Pt.cells, Pt.slots] at X2015 l2015 y2015 z2015 st2015 hQ2015
  subst l2015 y2015 z2015
  obtain ⟨rfl, N2015q, e2015⟩ := hQ2015
  have N2015 := Fr.app N2013 N2015q
  refine Rch.to (U' := T2015.setTop (mkF m 131 #[iv p1, iv p2, iv p3, iv (1 : Int32), iv (1 : Int32), iv (0 : Int32), rv a2, rv a1, iv (1 : Int32), iv (0 : Int32), iv (0 : Int32), uv, uv, uv, uv, uv, uv, uv] [(.int (own_at [0, 1, 1, 0] (3 : Int32)))])) st2015 ?_
  rw [(by decide : (own_at [0, 1, 1, 0] (3 : Int32)) = (0 : Int32))]
  refine Rch.go (U' := T2015.setTop (mkF m 133 #[iv p1, iv p2, iv p3, iv (1 : Int32), iv (1 : Int32), iv (0 : Int32), rv a2, rv a1, iv (1 : Int32), iv (0 : Int32), iv (0 : Int32), uv, uv, uv, uv, uv, uv, uv] [(.int (0 : Int32)), (.int (0 : Int32))])) (fun _ k => XS.iload X2015.here hx rfl (hb hby at_131) rfl  k) ?_
  have br2016 : (0 : Int32) = (0 : Int32) := (by decide)
  refine Rch.go (U' := T2015.setTop (mkF m 136 #[iv p1, iv p2, iv p3, iv (1 : Int32), iv (1 : Int32), iv (0 : Int32), rv a2, rv a1, iv (1 : Int32), iv (0 : Int32), iv (0 : Int32), uv, uv, uv, uv, uv, uv, uv] [])) (fun _ k => XS.icmpNo X2015.here hx rfl (hb hby at_133) rfl (XT.ii_ne_f br2016) k) ?_
  refine Rch.go (U' := T2015.setTop (mkF m 138 #[iv p1, iv p2, iv p3, iv (1 : Int32), iv (1 : Int32), iv (0 : Int32), rv a2, rv a1, iv (1 : Int32), iv (0 : Int32), iv (0 : Int32), uv, uv, uv, uv, uv, uv, uv] [(.ref a1)])) (fun _ k => XS.aload X2015.here hx rfl (hb hby at_136) rfl rfl k) ?_
  obtain ⟨cq2017, kq2017, q2017a, q2017b, q2017c⟩ := isOf hZ e2015 B2009.1.1
  obtain ⟨_, _, ⟨T2017, L2017, k2017, n2017⟩, -, X2017, ⟨Lc2017, hQ2017, l2017, y2017, z2017⟩, st2017⟩ := X2015.virtualBack hx (y := yhs) (z := yhs) hown (mvT hZ (wi hw 63 rfl)) (mvT hZ (wi hw 64 rfl)) (notFace_of_selects (args := #[]) (mvT hZ (wi hw 66 rfl))) (mvT hZ (wi hw 66 rfl)) (mvT hZ (wi hw 65 rfl)) (by decide) (backOf (W := 0) (rmHs l Z a0 hw [] a1 a2 bco bnx bpv bfb bpd bip bfi ben [0, 1, 1, 0] [3, 2, -1, -1] [-1, -1, 1, 0] [0, 1, 0, 0] [1, 0, 0, 0] [1, 1, 0, 0] (2 : Int32) (2 : Int32)  T2009.heap n0 z2009 B2009 ) hZ (wi hw 67 rfl) (wi hw 29 rfl) (by decide) (by decide)) q2017a q2017c (g := (mkF m 138 #[iv p1, iv p2, iv p3, iv (1 : Int32), iv (1 : Int32), iv (0 : Int32), rv a2, rv a1, iv (1 : Int32), iv (0 : Int32), iv (0 : Int32), uv, uv, uv, uv, uv, uv, uv] [(.ref a1)])) rfl (by rw [hml]; rfl) (Steps.refl _) (argsL := []) (rest := []) (lenOf pd_15 rfl) rfl (by show 2 * 0 + _ ≤ _; exact Nat.le_of_eq rfl) (hb hby at_138) (fun _ _ => ⟨rfl, e2015, (by decide : 15 + 0 ≤ _), (by decide : 70 + 0 ≤ _)⟩)
  dsimp only [Pt.U, Pt.locs, Pt.cells, Pt.slots] at X2017 l2017 y2017 z2017 st2017 hQ2017
  subst l2017 y2017 z2017
  obtain ⟨rfl, N2017q, e2017⟩ := hQ2017
  have N2017 := Fr.app N2015 N2017q
  refine Rch.to (U' := T2017.setTop (mkF m 141 #[iv p1, iv p2, iv p3, iv (1 : Int32), iv (1 : Int32), iv (0 : Int32), rv a2, rv a1, iv (1 : Int32), iv (0 : Int32), iv (0 : Int32), uv, uv, uv, uv, uv, uv, uv] [(.int (own_pos (2 : Int32)))])) st2017 ?_
  rw [(by decide : (own_pos (2 : Int32)) = (1 : Int32))]
  have br2018 : ¬ ((1 : Int32) = (0 : Int32)) := (by decide)
  refine Rch.go (U' := T2017.setTop (mkF m 144 #[iv p1, iv p2, iv p3, iv (1 : Int32), iv (1 : Int32), iv (0 : Int32), rv a2, rv a1, iv (1 : Int32), iv (0 : Int32), iv (0 : Int32), uv, uv, uv, uv, uv, uv, uv] [])) (fun _ k => XS.ifNo X2017.here hx rfl (hb hby at_141) rfl (XT.i0_eq_f br2018) k) ?_
  refine Rch.go (U' := T2017.setTop (mkF m 146 #[iv p1, iv p2, iv p3, iv (1 : Int32), iv (1 : Int32), iv (0 : Int32), rv a2, rv a1, iv (1 : Int32), iv (0 : Int32), iv (0 : Int32), uv, uv, uv, uv, uv, uv, uv] [(.ref a1)])) (fun _ k => XS.aload X2017.here hx rfl (hb hby at_144) rfl rfl k) ?_
  obtain ⟨cq2019, kq2019, q2019a, q2019b, q2019c⟩ := isOf hZ e2017 B2009.1.1
  obtain ⟨_, _, ⟨T2019, L2019, k2019, n2019⟩, -, X2019, ⟨Lc2019, hQ2019, l2019, y2019, z2019⟩, st2019⟩ := X2017.virtualBack hx (y := yns) (z := yns) hown (mvT hZ (wi hw 68 rfl)) (mvT hZ (wi hw 69 rfl)) (notFace_of_selects (args := #[]) (mvT hZ (wi hw 71 rfl))) (mvT hZ (wi hw 71 rfl)) (mvT hZ (wi hw 70 rfl)) (by decide) (backOf (W := 0) (rmNs l Z a0 hw [] a1 a2 bco bnx bpv bfb bpd bip bfi ben [0, 1, 1, 0] [3, 2, -1, -1] [-1, -1, 1, 0] [0, 1, 0, 0] [1, 0, 0, 0] [1, 1, 0, 0] (2 : Int32) (2 : Int32)  T2009.heap n0 z2009 B2009 (by decide)) hZ (wi hw 72 rfl) (wi hw 29 rfl) (by decide) (by decide)) q2019a q2019c (g := (mkF m 146 #[iv p1, iv p2, iv p3, iv (1 : Int32), iv (1 : Int32), iv (0 : Int32), rv a2, rv a1, iv (1 : Int32), iv (0 : Int32), iv (0 : Int32), uv, uv, uv, uv, uv, uv, uv] [(.ref a1)])) rfl (by rw [hml]; rfl) (Steps.refl _) (argsL := []) (rest := []) (lenOf pd_14 rfl) rfl (by show 2 * 0 + _ ≤ _; exact Nat.le_of_eq rfl) (hb hby at_146) (fun _ _ => ⟨rfl, e2017, (by decide : 15 + 0 ≤ _), (by decide : 70 + 0 ≤ _)⟩)
  dsimp only [Pt.U, Pt.locs, Pt.cells, Pt.slots] at X2019 l2019 y2019 z2019 st2019 hQ2019
  subst l2019 y2019 z2019
  obtain ⟨rfl, N2019q, e2019⟩ := hQ2019
  have N2019 := Fr.app N2017 N2019q
  refine Rch.to (U' := T2019.setTop (mkF m 149 #[iv p1, iv p2, iv p3, iv (1 : Int32), iv (1 : Int32), iv (0 : Int32), rv a2, rv a1, iv (1 : Int32), iv (0 : Int32), iv (0 : Int32), uv, uv, uv, uv, uv, uv, uv] [(.int (own_at [1, 0, 0, 0] ((2 : Int32) - (1 : Int32))))])) st2019 ?_
  rw [(by decide : (own_at [1, 0, 0, 0] ((2 : Int32) - (1 : Int32))) = (0 : Int32))]
  refine Rch.go (U' := T2019.setTop (mkF m 151 #[iv p1, iv p2, iv p3, iv (1 : Int32), iv (1 : Int32), iv (0 : Int32), rv a2, rv a1, iv (1 : Int32), iv (0 : Int32), iv (0 : Int32), uv, uv, uv, uv, uv, uv, uv] [(.int (0 : Int32)), (.int (0 : Int32))])) (fun _ k => XS.iload X2019.here hx rfl (hb hby at_149) rfl  k) ?_
  have br2020 : (0 : Int32) = (0 : Int32) := (by decide)
  refine Rch.go (U' := T2019.setTop (mkF m 154 #[iv p1, iv p2, iv p3, iv (1 : Int32), iv (1 : Int32), iv (0 : Int32), rv a2, rv a1, iv (1 : Int32), iv (0 : Int32), iv (0 : Int32), uv, uv, uv, uv, uv, uv, uv] [])) (fun _ k => XS.icmpNo X2019.here hx rfl (hb hby at_151) rfl (XT.ii_ne_f br2020) k) ?_
  refine Rch.go (U' := T2019.setTop (mkF m 155 #[iv p1, iv p2, iv p3, iv (1 : Int32), iv (1 : Int32), iv (0 : Int32), rv a2, rv a1, iv (1 : Int32), iv (0 : Int32), iv (0 : Int32), uv, uv, uv, uv, uv, uv, uv] [(.int (1 : Int32))])) (fun _ k => XS.iconst X2019.here hx rfl (hb hby at_154) k) ?_
  refine Rch.go (U' := T2019.setTop (mkF m 159 #[iv p1, iv p2, iv p3, iv (1 : Int32), iv (1 : Int32), iv (0 : Int32), rv a2, rv a1, iv (1 : Int32), iv (0 : Int32), iv (0 : Int32), uv, uv, uv, uv, uv, uv, uv] [(.int (1 : Int32))])) (fun _ k => XS.goto X2019.here hx rfl (pc0 := 155) (pc' := 159) rfl (hb hby at_155) (by decide) (by decide) k) ?_
  refine Rch.go (U' := T2019.setTop (mkF m 161 #[iv p1, iv p2, iv p3, iv (1 : Int32), iv (1 : Int32), iv (0 : Int32), rv a2, rv a1, iv (1 : Int32), iv (0 : Int32), iv (0 : Int32), iv (1 : Int32), uv, uv, uv, uv, uv, uv] [])) (fun _ k => XS.istore X2019.here hx rfl (hb hby at_159) rfl (l' := #[iv p1, iv p2, iv p3, iv (1 : Int32), iv (1 : Int32), iv (0 : Int32), rv a2, rv a1, iv (1 : Int32), iv (0 : Int32), iv (0 : Int32), iv (1 : Int32), uv, uv, uv, uv, uv, uv]) rfl k) ?_
  refine Rch.go (U' := T2019.setTop (mkF m 163 #[iv p1, iv p2, iv p3, iv (1 : Int32), iv (1 : Int32), iv (0 : Int32), rv a2, rv a1, iv (1 : Int32), iv (0 : Int32), iv (0 : Int32), iv (1 : Int32), uv, uv, uv, uv, uv, uv] [(.int (1 : Int32))])) (fun _ k => XS.iload X2019.here hx rfl (hb hby at_161) rfl  k) ?_
  have br2021 : ¬ ((1 : Int32) = (0 : Int32)) := (by decide)
  refine Rch.go (U' := T2019.setTop (mkF m 168 #[iv p1, iv p2, iv p3, iv (1 : Int32), iv (1 : Int32), iv (0 : Int32), rv a2, rv a1, iv (1 : Int32), iv (0 : Int32), iv (0 : Int32), iv (1 : Int32), uv, uv, uv, uv, uv, uv] [])) (fun _ k => XS.ifYes X2019.here hx rfl (pc0 := 163) (pc' := 168) rfl (hb hby at_163) rfl (XT.i0_ne_t br2021) (by decide) (by decide) k) ?_
  refine Rch.go (U' := T2019.setTop (mkF m 170 #[iv p1, iv p2, iv p3, iv (1 : Int32), iv (1 : Int32), iv (0 : Int32), rv a2, rv a1, iv (1 : Int32), iv (0 : Int32), iv (0 : Int32), iv (1 : Int32), uv, uv, uv, uv, uv, uv] [(.int (0 : Int32))])) (fun _ k => XS.iload X2019.here hx rfl (hb hby at_168) rfl  k) ?_
  refine Rch.go (U' := T2019.setTop (mkF m 172 #[iv p1, iv p2, iv p3, iv (1 : Int32), iv (1 : Int32), iv (0 : Int32), rv a2, rv a1, iv (1 : Int32), iv (0 : Int32), iv (0 : Int32), iv (1 : Int32), uv, uv, uv, uv, uv, uv] [(.int (1 : Int32)), (.int (0 : Int32))])) (fun _ k => XS.iload X2019.here hx rfl (hb hby at_170) rfl  k) ?_
  have br2022 : ¬ ((0 : Int32) = (1 : Int32)) := (by decide)
  refine Rch.go (U' := T2019.setTop (mkF m 196 #[iv p1, iv p2, iv p3, iv (1 : Int32), iv (1 : Int32), iv (0 : Int32), rv a2, rv a1, iv (1 : Int32), iv (0 : Int32), iv (0 : Int32), iv (1 : Int32), uv, uv, uv, uv, uv, uv] [])) (fun _ k => XS.icmpYes X2019.here hx rfl (pc0 := 172) (pc' := 196) rfl (hb hby at_172) rfl (XT.ii_ne_t br2022) (by decide) (by decide) k) ?_
  refine Rch.go (U' := T2019.setTop (mkF m 198 #[iv p1, iv p2, iv p3, iv (1 : Int32), iv (1 : Int32), iv (0 : Int32), rv a2, rv a1, iv (1 : Int32), iv (0 : Int32), iv (0 : Int32), iv (1 : Int32), uv, uv, uv, uv, uv, uv] [(.int (0 : Int32))])) (fun _ k => XS.iload X2019.here hx rfl (hb hby at_196) rfl  k) ?_
  refine Rch.go (U' := T2019.setTop (mkF m 200 #[iv p1, iv p2, iv p3, iv (1 : Int32), iv (1 : Int32), iv (0 : Int32), rv a2, rv a1, iv (1 : Int32), iv (0 : Int32), iv (0 : Int32), iv (1 : Int32), iv (0 : Int32), uv, uv, uv, uv, uv] [])) (fun _ k => XS.istore X2019.here hx rfl (hb hby at_198) rfl (l' := #[iv p1, iv p2, iv p3, iv (1 : Int32), iv (1 : Int32), iv (0 : Int32), rv a2, rv a1, iv (1 : Int32), iv (0 : Int32), iv (0 : Int32), iv (1 : Int32), iv (0 : Int32), uv, uv, uv, uv, uv]) rfl k) ?_
  refine Rch.go (U' := T2019.setTop (mkF m 201 #[iv p1, iv p2, iv p3, iv (1 : Int32), iv (1 : Int32), iv (0 : Int32), rv a2, rv a1, iv (1 : Int32), iv (0 : Int32), iv (0 : Int32), iv (1 : Int32), iv (0 : Int32), uv, uv, uv, uv, uv] [(.int (3 : Int32))])) (fun _ k => XS.iconst X2019.here hx rfl (hb hby at_200) k) ?_
  refine Rch.go (U' := T2019.setTop (mkF m 203 #[iv p1, iv p2, iv p3, iv (1 : Int32), iv (1 : Int32), iv (0 : Int32), rv a2, rv a1, iv (1 : Int32), iv (0 : Int32), iv (0 : Int32), iv (1 : Int32), iv (0 : Int32), iv (3 : Int32), uv, uv, uv, uv] [])) (fun _ k => XS.istore X2019.here hx rfl (hb hby at_201) rfl (l' := #[iv p1, iv p2, iv p3, iv (1 : Int32), iv (1 : Int32), iv (0 : Int32), rv a2, rv a1, iv (1 : Int32), iv (0 : Int32), iv (0 : Int32), iv (1 : Int32), iv (0 : Int32), iv (3 : Int32), uv, uv, uv, uv]) rfl k) ?_
  refine Rch.go (U' := T2019.setTop (mkF m 205 #[iv p1, iv p2, iv p3, iv (1 : Int32), iv (1 : Int32), iv (0 : Int32), rv a2, rv a1, iv (1 : Int32), iv (0 : Int32), iv (0 : Int32), iv (1 : Int32), iv (0 : Int32), iv (3 : Int32), uv, uv, uv, uv] [(.int (0 : Int32))])) (fun _ k => XS.iload X2019.here hx rfl (hb hby at_203) rfl  k) ?_
  have br2023 : (0 : Int32) = (0 : Int32) := (by decide)
  refine Rch.go (U' := T2019.setTop (mkF m 208 #[iv p1, iv p2, iv p3, iv (1 : Int32), iv (1 : Int32), iv (0 : Int32), rv a2, rv a1, iv (1 : Int32), iv (0 : Int32), iv (0 : Int32), iv (1 : Int32), iv (0 : Int32), iv (3 : Int32), uv, uv, uv, uv] [])) (fun _ k => XS.ifNo X2019.here hx rfl (hb hby at_205) rfl (XT.i0_ne_f br2023) k) ?_
  refine Rch.go (U' := T2019.setTop (mkF m 210 #[iv p1, iv p2, iv p3, iv (1 : Int32), iv (1 : Int32), iv (0 : Int32), rv a2, rv a1, iv (1 : Int32), iv (0 : Int32), iv (0 : Int32), iv (1 : Int32), iv (0 : Int32), iv (3 : Int32), uv, uv, uv, uv] [(.int (3 : Int32))])) (fun _ k => XS.iload X2019.here hx rfl (hb hby at_208) rfl  k) ?_
  refine Rch.go (U' := T2019.setTop (mkF m 215 #[iv p1, iv p2, iv p3, iv (1 : Int32), iv (1 : Int32), iv (0 : Int32), rv a2, rv a1, iv (1 : Int32), iv (0 : Int32), iv (0 : Int32), iv (1 : Int32), iv (0 : Int32), iv (3 : Int32), uv, uv, uv, uv] [(.int (3 : Int32))])) (fun _ k => XS.goto X2019.here hx rfl (pc0 := 210) (pc' := 215) rfl (hb hby at_210) (by decide) (by decide) k) ?_
  refine Rch.go (U' := T2019.setTop (mkF m 217 #[iv p1, iv p2, iv p3, iv (1 : Int32), iv (1 : Int32), iv (0 : Int32), rv a2, rv a1, iv (1 : Int32), iv (0 : Int32), iv (0 : Int32), iv (1 : Int32), iv (0 : Int32), iv (3 : Int32), iv (3 : Int32), uv, uv, uv] [])) (fun _ k => XS.istore X2019.here hx rfl (hb hby at_215) rfl (l' := #[iv p1, iv p2, iv p3, iv (1 : Int32), iv (1 : Int32), iv (0 : Int32), rv a2, rv a1, iv (1 : Int32), iv (0 : Int32), iv (0 : Int32), iv (1 : Int32), iv (0 : Int32), iv (3 : Int32), iv (3 : Int32), uv, uv, uv]) rfl k) ?_
  refine Rch.go (U' := T2019.setTop (mkF m 219 #[iv p1, iv p2, iv p3, iv (1 : Int32), iv (1 : Int32), iv (0 : Int32), rv a2, rv a1, iv (1 : Int32), iv (0 : Int32), iv (0 : Int32), iv (1 : Int32), iv (0 : Int32), iv (3 : Int32), iv (3 : Int32), uv, uv, uv] [(.ref a1)])) (fun _ k => XS.aload X2019.here hx rfl (hb hby at_217) rfl rfl k) ?_
  obtain ⟨cq2024, kq2024, q2024a, q2024b, q2024c⟩ := isOf hZ e2019 B2009.1.1
  obtain ⟨_, _, ⟨T2024, L2024, k2024, n2024⟩, -, X2024, ⟨Lc2024, hQ2024, l2024, y2024, z2024⟩, st2024⟩ := X2019.virtualBack hx (y := yt) (z := yt) hown (mvT hZ (wi hw 73 rfl)) (mvT hZ (wi hw 74 rfl)) (notFace_of_selects (args := #[]) (mvT hZ (wi hw 76 rfl))) (mvT hZ (wi hw 76 rfl)) (mvT hZ (wi hw 75 rfl)) (by decide) (backOf (W := 0) (rmT l Z a0 hw [] a1 a2 bco bnx bpv bfb bpd bip bfi ben [0, 1, 1, 0] [3, 2, -1, -1] [-1, -1, 1, 0] [0, 1, 0, 0] [1, 0, 0, 0] [1, 1, 0, 0] (2 : Int32) (2 : Int32) T2009.heap n0 z2009 B2009 (by decide)) hZ (wi hw 77 rfl) (wi hw 29 rfl) (by decide) (by decide)) q2024a q2024c (g := (mkF m 219 #[iv p1, iv p2, iv p3, iv (1 : Int32), iv (1 : Int32), iv (0 : Int32), rv a2, rv a1, iv (1 : Int32), iv (0 : Int32), iv (0 : Int32), iv (1 : Int32), iv (0 : Int32), iv (3 : Int32), iv (3 : Int32), uv, uv, uv] [(.ref a1)])) rfl (by rw [hml]; rfl) (Steps.refl _) (argsL := []) (rest := []) (lenOf pd_14 rfl) rfl (by show 2 * 0 + _ ≤ _; exact Nat.le_of_eq rfl) (hb hby at_219) (fun _ _ => ⟨rfl, e2019, (by decide : 15 + 0 ≤ _), (by decide : 70 + 0 ≤ _)⟩)
  dsimp only [Pt.U, Pt.locs, Pt.cells, Pt.slots] at X2024 l2024 y2024 z2024 st2024 hQ2024
  subst l2024 y2024 z2024
  obtain ⟨rfl, N2024q, z2024, C2024⟩ := hQ2024
  have N2024 := Fr.app N2019 N2024q
  rw [(by rfl : own_take [0, 1, 1, 0] [3, 2, -1, -1] [-1, -1, 1, 0] [0, 1, 0, 0] [1, 0, 0, 0] [1, 1, 0, 0] (2 : Int32) (2 : Int32) = ([0, 1, 1, 2], [-1, 2, -1, -1], [-1, -1, 1, -1], [0, 1, 3, 0], [1, 0, 0, 0], [0, 1, 0, 0], (3 : Int32), (1 : Int32)))] at C2024
  have B2024 : Cb Z T2024.heap n0 a1 a2 bco bnx bpv bfb bpd bip bfi ben [0, 1, 1, 2] [-1, 2, -1, -1] [-1, -1, 1, -1] [0, 1, 3, 0] [1, 0, 0, 0] [0, 1, 0, 0] (3 : Int32) (1 : Int32) := C2024
  refine Rch.to (U' := T2024.setTop (mkF m 222 #[iv p1, iv p2, iv p3, iv (1 : Int32), iv (1 : Int32), iv (0 : Int32), rv a2, rv a1, iv (1 : Int32), iv (0 : Int32), iv (0 : Int32), iv (1 : Int32), iv (0 : Int32), iv (3 : Int32), iv (3 : Int32), uv, uv, uv] [(.int (own_sp [3, 2, -1, -1] [0, 1, 0, 0] [1, 0, 0, 0] (2 : Int32)))])) st2024 ?_
  rw [(by decide : own_sp [3, 2, -1, -1] [0, 1, 0, 0] [1, 0, 0, 0] (2 : Int32) = (3 : Int32))]
  refine Rch.go (U' := T2024.setTop (mkF m 224 #[iv p1, iv p2, iv p3, iv (1 : Int32), iv (1 : Int32), iv (0 : Int32), rv a2, rv a1, iv (1 : Int32), iv (0 : Int32), iv (0 : Int32), iv (1 : Int32), iv (0 : Int32), iv (3 : Int32), iv (3 : Int32), iv (3 : Int32), uv, uv] [])) (fun _ k => XS.istore X2024.here hx rfl (hb hby at_222) rfl (l' := #[iv p1, iv p2, iv p3, iv (1 : Int32), iv (1 : Int32), iv (0 : Int32), rv a2, rv a1, iv (1 : Int32), iv (0 : Int32), iv (0 : Int32), iv (1 : Int32), iv (0 : Int32), iv (3 : Int32), iv (3 : Int32), iv (3 : Int32), uv, uv]) rfl k) ?_
  refine Rch.go (U' := T2024.setTop (mkF m 226 #[iv p1, iv p2, iv p3, iv (1 : Int32), iv (1 : Int32), iv (0 : Int32), rv a2, rv a1, iv (1 : Int32), iv (0 : Int32), iv (0 : Int32), iv (1 : Int32), iv (0 : Int32), iv (3 : Int32), iv (3 : Int32), iv (3 : Int32), uv, uv] [(.int (3 : Int32))])) (fun _ k => XS.iload X2024.here hx rfl (hb hby at_224) rfl  k) ?_
  refine Rch.go (U' := T2024.setTop (mkF m 228 #[iv p1, iv p2, iv p3, iv (1 : Int32), iv (1 : Int32), iv (0 : Int32), rv a2, rv a1, iv (1 : Int32), iv (0 : Int32), iv (0 : Int32), iv (1 : Int32), iv (0 : Int32), iv (3 : Int32), iv (3 : Int32), iv (3 : Int32), uv, uv] [(.int (3 : Int32)), (.int (3 : Int32))])) (fun _ k => XS.iload X2024.here hx rfl (hb hby at_226) rfl  k) ?_
  have br2025 : (3 : Int32) = (3 : Int32) := (by decide)
  refine Rch.go (U' := T2024.setTop (mkF m 231 #[iv p1, iv p2, iv p3, iv (1 : Int32), iv (1 : Int32), iv (0 : Int32), rv a2, rv a1, iv (1 : Int32), iv (0 : Int32), iv (0 : Int32), iv (1 : Int32), iv (0 : Int32), iv (3 : Int32), iv (3 : Int32), iv (3 : Int32), uv, uv] [])) (fun _ k => XS.icmpNo X2024.here hx rfl (hb hby at_228) rfl (XT.ii_ne_f br2025) k) ?_
  refine Rch.go (U' := T2024.setTop (mkF m 233 #[iv p1, iv p2, iv p3, iv (1 : Int32), iv (1 : Int32), iv (0 : Int32), rv a2, rv a1, iv (1 : Int32), iv (0 : Int32), iv (0 : Int32), iv (1 : Int32), iv (0 : Int32), iv (3 : Int32), iv (3 : Int32), iv (3 : Int32), uv, uv] [(.ref a1)])) (fun _ k => XS.aload X2024.here hx rfl (hb hby at_231) rfl rfl k) ?_
  obtain ⟨cq2026, kq2026, q2026a, q2026b, q2026c⟩ := isOf hZ rfl B2024.1.1
  obtain ⟨_, _, ⟨T2026, L2026, k2026, n2026⟩, -, X2026, ⟨Lc2026, hQ2026, l2026, y2026, z2026⟩, st2026⟩ := X2024.virtualBack hx (y := yhs) (z := yhs) hown (mvT hZ (wi hw 63 rfl)) (mvT hZ (wi hw 64 rfl)) (notFace_of_selects (args := #[]) (mvT hZ (wi hw 66 rfl))) (mvT hZ (wi hw 66 rfl)) (mvT hZ (wi hw 65 rfl)) (by decide) (backOf (W := 0) (rmHs l Z a0 hw [] a1 a2 bco bnx bpv bfb bpd bip bfi ben [0, 1, 1, 2] [-1, 2, -1, -1] [-1, -1, 1, -1] [0, 1, 3, 0] [1, 0, 0, 0] [0, 1, 0, 0] (3 : Int32) (1 : Int32)  T2024.heap n0 z2024 B2024 ) hZ (wi hw 67 rfl) (wi hw 29 rfl) (by decide) (by decide)) q2026a q2026c (g := (mkF m 233 #[iv p1, iv p2, iv p3, iv (1 : Int32), iv (1 : Int32), iv (0 : Int32), rv a2, rv a1, iv (1 : Int32), iv (0 : Int32), iv (0 : Int32), iv (1 : Int32), iv (0 : Int32), iv (3 : Int32), iv (3 : Int32), iv (3 : Int32), uv, uv] [(.ref a1)])) rfl (by rw [hml]; rfl) (Steps.refl _) (argsL := []) (rest := []) (lenOf pd_15 rfl) rfl (by show 2 * 0 + _ ≤ _; exact Nat.le_of_eq rfl) (hb hby at_233) (fun _ _ => ⟨rfl, rfl, (by decide : 15 + 0 ≤ _), (by decide : 70 + 0 ≤ _)⟩)
  dsimp only [Pt.U, Pt.locs, Pt.cells, Pt.slots] at X2026 l2026 y2026 z2026 st2026 hQ2026
  subst l2026 y2026 z2026
  obtain ⟨rfl, N2026q, e2026⟩ := hQ2026
  have N2026 := Fr.app N2024 N2026q
  refine Rch.to (U' := T2026.setTop (mkF m 236 #[iv p1, iv p2, iv p3, iv (1 : Int32), iv (1 : Int32), iv (0 : Int32), rv a2, rv a1, iv (1 : Int32), iv (0 : Int32), iv (0 : Int32), iv (1 : Int32), iv (0 : Int32), iv (3 : Int32), iv (3 : Int32), iv (3 : Int32), uv, uv] [(.int (own_pos (1 : Int32)))])) st2026 ?_
  rw [(by decide : (own_pos (1 : Int32)) = (1 : Int32))]
  have br2027 : ¬ ((1 : Int32) = (0 : Int32)) := (by decide)
  refine Rch.go (U' := T2026.setTop (mkF m 239 #[iv p1, iv p2, iv p3, iv (1 : Int32), iv (1 : Int32), iv (0 : Int32), rv a2, rv a1, iv (1 : Int32), iv (0 : Int32), iv (0 : Int32), iv (1 : Int32), iv (0 : Int32), iv (3 : Int32), iv (3 : Int32), iv (3 : Int32), uv, uv] [])) (fun _ k => XS.ifNo X2026.here hx rfl (hb hby at_236) rfl (XT.i0_eq_f br2027) k) ?_
  refine Rch.go (U' := T2026.setTop (mkF m 241 #[iv p1, iv p2, iv p3, iv (1 : Int32), iv (1 : Int32), iv (0 : Int32), rv a2, rv a1, iv (1 : Int32), iv (0 : Int32), iv (0 : Int32), iv (1 : Int32), iv (0 : Int32), iv (3 : Int32), iv (3 : Int32), iv (3 : Int32), uv, uv] [(.ref a1)])) (fun _ k => XS.aload X2026.here hx rfl (hb hby at_239) rfl rfl k) ?_
  obtain ⟨cq2028, kq2028, q2028a, q2028b, q2028c⟩ := isOf hZ e2026 B2024.1.1
  obtain ⟨_, _, ⟨T2028, L2028, k2028, n2028⟩, -, X2028, ⟨Lc2028, hQ2028, l2028, y2028, z2028⟩, st2028⟩ := X2026.virtualBack hx (y := yns) (z := yns) hown (mvT hZ (wi hw 68 rfl)) (mvT hZ (wi hw 69 rfl)) (notFace_of_selects (args := #[]) (mvT hZ (wi hw 71 rfl))) (mvT hZ (wi hw 71 rfl)) (mvT hZ (wi hw 70 rfl)) (by decide) (backOf (W := 0) (rmNs l Z a0 hw [] a1 a2 bco bnx bpv bfb bpd bip bfi ben [0, 1, 1, 2] [-1, 2, -1, -1] [-1, -1, 1, -1] [0, 1, 3, 0] [1, 0, 0, 0] [0, 1, 0, 0] (3 : Int32) (1 : Int32)  T2024.heap n0 z2024 B2024 (by decide)) hZ (wi hw 72 rfl) (wi hw 29 rfl) (by decide) (by decide)) q2028a q2028c (g := (mkF m 241 #[iv p1, iv p2, iv p3, iv (1 : Int32), iv (1 : Int32), iv (0 : Int32), rv a2, rv a1, iv (1 : Int32), iv (0 : Int32), iv (0 : Int32), iv (1 : Int32), iv (0 : Int32), iv (3 : Int32), iv (3 : Int32), iv (3 : Int32), uv, uv] [(.ref a1)])) rfl (by rw [hml]; rfl) (Steps.refl _) (argsL := []) (rest := []) (lenOf pd_14 rfl) rfl (by show 2 * 0 + _ ≤ _; exact Nat.le_of_eq rfl) (hb hby at_241) (fun _ _ => ⟨rfl, e2026, (by decide : 15 + 0 ≤ _), (by decide : 70 + 0 ≤ _)⟩)
  dsimp only [Pt.U, Pt.locs, Pt.cells, Pt.slots] at X2028 l2028 y2028 z2028 st2028 hQ2028
  subst l2028 y2028 z2028
  obtain ⟨rfl, N2028q, e2028⟩ := hQ2028
  have N2028 := Fr.app N2026 N2028q
  refine Rch.to (U' := T2028.setTop (mkF m 244 #[iv p1, iv p2, iv p3, iv (1 : Int32), iv (1 : Int32), iv (0 : Int32), rv a2, rv a1, iv (1 : Int32), iv (0 : Int32), iv (0 : Int32), iv (1 : Int32), iv (0 : Int32), iv (3 : Int32), iv (3 : Int32), iv (3 : Int32), uv, uv] [(.int (own_at [1, 0, 0, 0] ((1 : Int32) - (1 : Int32))))])) st2028 ?_
  rw [(by decide : (own_at [1, 0, 0, 0] ((1 : Int32) - (1 : Int32))) = (1 : Int32))]
  refine Rch.go (U' := T2028.setTop (mkF m 246 #[iv p1, iv p2, iv p3, iv (1 : Int32), iv (1 : Int32), iv (0 : Int32), rv a2, rv a1, iv (1 : Int32), iv (0 : Int32), iv (0 : Int32), iv (1 : Int32), iv (0 : Int32), iv (3 : Int32), iv (3 : Int32), iv (3 : Int32), uv, uv] [(.int (1 : Int32)), (.int (1 : Int32))])) (fun _ k => XS.iload X2028.here hx rfl (hb hby at_244) rfl  k) ?_
  have br2029 : (1 : Int32) = (1 : Int32) := (by decide)
  refine Rch.go (U' := T2028.setTop (mkF m 249 #[iv p1, iv p2, iv p3, iv (1 : Int32), iv (1 : Int32), iv (0 : Int32), rv a2, rv a1, iv (1 : Int32), iv (0 : Int32), iv (0 : Int32), iv (1 : Int32), iv (0 : Int32), iv (3 : Int32), iv (3 : Int32), iv (3 : Int32), uv, uv] [])) (fun _ k => XS.icmpNo X2028.here hx rfl (hb hby at_246) rfl (XT.ii_ne_f br2029) k) ?_
  refine Rch.go (U' := T2028.setTop (mkF m 250 #[iv p1, iv p2, iv p3, iv (1 : Int32), iv (1 : Int32), iv (0 : Int32), rv a2, rv a1, iv (1 : Int32), iv (0 : Int32), iv (0 : Int32), iv (1 : Int32), iv (0 : Int32), iv (3 : Int32), iv (3 : Int32), iv (3 : Int32), uv, uv] [(.int (1 : Int32))])) (fun _ k => XS.iconst X2028.here hx rfl (hb hby at_249) k) ?_
  refine Rch.go (U' := T2028.setTop (mkF m 254 #[iv p1, iv p2, iv p3, iv (1 : Int32), iv (1 : Int32), iv (0 : Int32), rv a2, rv a1, iv (1 : Int32), iv (0 : Int32), iv (0 : Int32), iv (1 : Int32), iv (0 : Int32), iv (3 : Int32), iv (3 : Int32), iv (3 : Int32), uv, uv] [(.int (1 : Int32))])) (fun _ k => XS.goto X2028.here hx rfl (pc0 := 250) (pc' := 254) rfl (hb hby at_250) (by decide) (by decide) k) ?_
  refine Rch.fin X2028 hlk (v := some (.int (nar .boolean (1 : Int32)))) (fun h => by rw [hret] at h; cases h) e2028 (by decide) (by decide) (fun fs hr => retN X2028 hx (t := .boolean) hret (by simp) (hb hby at_254) hr) ?_
  exact ⟨rfl, N2028⟩
set_option maxRecDepth 65536 in
set_option maxHeartbeats 40000000 in
theorem cut54_111 {p : Program} {l : Launch} {e : Env} {s : State} {m : MethodId} {args : Array Value} {below : List Frame} {meth : Method} {c : Code} {T0 : State} {locs : List Loc} {Z : State} {a0 : Array Value} {h0 : Heap} {n0 : Nat}  (p1 : Int32) (p2 : Int32) (p3 : Int32) (a1 : Addr) (a2 : Addr) (bco : Addr) (bnx : Addr) (bpv : Addr) (bfb : Addr) (bpd : Addr) (bip : Addr) (bfi : Addr) (ben : Addr)
    (X0 : Stand p l e room_1 s m args below meth c T0 locs 15 70) (hx : p.tables.exec = Jvm.exec) (hZ : Z.Warmed39 s.vm) (hw : ∀ d ∈ tables_1, d.before a0 Z = true) (hby : c.code = code) (hml : c.maxLocals = 18) (hown : s.vm.findClass cLW = some m.cls) (hret : meth.sig.returnType = some .boolean) (hlk : meth.locks = false) (e0 : T0.heap = h0) (N0 : Fr n0 locs) (Z0 : n0 ≤ h0.size) (B : Cb Z h0 n0 a1 a2 bco bnx bpv bfb bpd bip bfi ben [0, 0, 0, 0] [1, -1, 0, 0] [-1, 0, 0, 0] [0, 0, 0, 0] [0, 0, 0, 0] [1, 0, 0, 0] (1 : Int32) (1 : Int32)) :
    Rch p e below (Fin s below (fun v h L => v = some (.int 1) ∧ Fr n0 L) 40 256) (T0.setTop (mkF m 54 #[iv p1, iv p2, iv p3, iv (1 : Int32), iv (1 : Int32), iv (1 : Int32), rv a2, rv a1, uv, uv, uv, uv, uv, uv, uv, uv, uv, uv] [])) := by
  refine Rch.go (U' := T0.setTop (mkF m 55 #[iv p1, iv p2, iv p3, iv (1 : Int32), iv (1 : Int32), iv (1 : Int32), rv a2, rv a1, uv, uv, uv, uv, uv, uv, uv, uv, uv, uv] [(.int (1 : Int32))])) (fun _ k => XS.iloadN X0.here hx rfl (hb hby at_54) rfl  k) ?_
  have br2030 : ¬ ((1 : Int32) = (0 : Int32)) := (by decide)
  refine Rch.go (U' := T0.setTop (mkF m 58 #[iv p1, iv p2, iv p3, iv (1 : Int32), iv (1 : Int32), iv (1 : Int32), rv a2, rv a1, uv, uv, uv, uv, uv, uv, uv, uv, uv, uv] [])) (fun _ k => XS.ifNo X0.here hx rfl (hb hby at_55) rfl (XT.i0_eq_f br2030) k) ?_
  refine Rch.go (U' := T0.setTop (mkF m 60 #[iv p1, iv p2, iv p3, iv (1 : Int32), iv (1 : Int32), iv (1 : Int32), rv a2, rv a1, uv, uv, uv, uv, uv, uv, uv, uv, uv, uv] [(.ref a1)])) (fun _ k => XS.aload X0.here hx rfl (hb hby at_58) rfl rfl k) ?_
  obtain ⟨cq2031, kq2031, q2031a, q2031b, q2031c⟩ := isOf hZ e0 B.1.1
  obtain ⟨_, _, ⟨T2031, L2031, k2031, n2031⟩, -, X2031, ⟨Lc2031, hQ2031, l2031, y2031, z2031⟩, st2031⟩ := X0.virtualBack hx (y := yt) (z := yt) hown (mvT hZ (wi hw 73 rfl)) (mvT hZ (wi hw 74 rfl)) (notFace_of_selects (args := #[]) (mvT hZ (wi hw 76 rfl))) (mvT hZ (wi hw 76 rfl)) (mvT hZ (wi hw 75 rfl)) (by decide) (backOf (W := 0) (rmT l Z a0 hw [] a1 a2 bco bnx bpv bfb bpd bip bfi ben [0, 0, 0, 0] [1, -1, 0, 0] [-1, 0, 0, 0] [0, 0, 0, 0] [0, 0, 0, 0] [1, 0, 0, 0] (1 : Int32) (1 : Int32) h0 n0 Z0 B (by decide)) hZ (wi hw 77 rfl) (wi hw 29 rfl) (by decide) (by decide)) q2031a q2031c (g := (mkF m 60 #[iv p1, iv p2, iv p3, iv (1 : Int32), iv (1 : Int32), iv (1 : Int32), rv a2, rv a1, uv, uv, uv, uv, uv, uv, uv, uv, uv, uv] [(.ref a1)])) rfl (by rw [hml]; rfl) (Steps.refl _) (argsL := []) (rest := []) (lenOf pd_14 rfl) rfl (by show 2 * 0 + _ ≤ _; exact Nat.le_of_eq rfl) (hb hby at_60) (fun _ _ => ⟨rfl, e0, (by decide : 15 + 0 ≤ _), (by decide : 70 + 0 ≤ _)⟩)
  dsimp only [Pt.U, Pt.locs, Pt.cells, Pt.slots] at X2031 l2031 y2031 z2031 st2031 hQ2031
  subst l2031 y2031 z2031
  obtain ⟨rfl, N2031q, z2031, C2031⟩ := hQ2031
  have N2031 := Fr.app N0 N2031q
  rw [(by rfl : own_take [0, 0, 0, 0] [1, -1, 0, 0] [-1, 0, 0, 0] [0, 0, 0, 0] [0, 0, 0, 0] [1, 0, 0, 0] (1 : Int32) (1 : Int32) = ([0, 1, 0, 0], [-1, -1, 0, 0], [-1, -1, 0, 0], [0, 1, 0, 0], [0, 0, 0, 0], [0, 0, 0, 0], (2 : Int32), (0 : Int32)))] at C2031
  have B2031 : Cb Z T2031.heap n0 a1 a2 bco bnx bpv bfb bpd bip bfi ben [0, 1, 0, 0] [-1, -1, 0, 0] [-1, -1, 0, 0] [0, 1, 0, 0] [0, 0, 0, 0] [0, 0, 0, 0] (2 : Int32) (0 : Int32) := C2031
  refine Rch.to (U' := T2031.setTop (mkF m 63 #[iv p1, iv p2, iv p3, iv (1 : Int32), iv (1 : Int32), iv (1 : Int32), rv a2, rv a1, uv, uv, uv, uv, uv, uv, uv, uv, uv, uv] [(.int (own_sp [1, -1, 0, 0] [0, 0, 0, 0] [0, 0, 0, 0] (1 : Int32)))])) st2031 ?_
  rw [(by decide : own_sp [1, -1, 0, 0] [0, 0, 0, 0] [0, 0, 0, 0] (1 : Int32) = (1 : Int32))]
  refine Rch.go (U' := T2031.setTop (mkF m 65 #[iv p1, iv p2, iv p3, iv (1 : Int32), iv (1 : Int32), iv (1 : Int32), rv a2, rv a1, iv (1 : Int32), uv, uv, uv, uv, uv, uv, uv, uv, uv] [])) (fun _ k => XS.istore X2031.here hx rfl (hb hby at_63) rfl (l' := #[iv p1, iv p2, iv p3, iv (1 : Int32), iv (1 : Int32), iv (1 : Int32), rv a2, rv a1, iv (1 : Int32), uv, uv, uv, uv, uv, uv, uv, uv, uv]) rfl k) ?_
  refine Rch.go (U' := T2031.setTop (mkF m 67 #[iv p1, iv p2, iv p3, iv (1 : Int32), iv (1 : Int32), iv (1 : Int32), rv a2, rv a1, iv (1 : Int32), uv, uv, uv, uv, uv, uv, uv, uv, uv] [(.ref a1)])) (fun _ k => XS.aload X2031.here hx rfl (hb hby at_65) rfl rfl k) ?_
  obtain ⟨cq2032, kq2032, q2032a, q2032b, q2032c⟩ := isOf hZ rfl B2031.1.1
  obtain ⟨_, _, ⟨T2032, L2032, k2032, n2032⟩, -, X2032, ⟨Lc2032, hQ2032, l2032, y2032, z2032⟩, st2032⟩ := X2031.virtualBack hx (y := yhs) (z := yhs) hown (mvT hZ (wi hw 63 rfl)) (mvT hZ (wi hw 64 rfl)) (notFace_of_selects (args := #[]) (mvT hZ (wi hw 66 rfl))) (mvT hZ (wi hw 66 rfl)) (mvT hZ (wi hw 65 rfl)) (by decide) (backOf (W := 0) (rmHs l Z a0 hw [] a1 a2 bco bnx bpv bfb bpd bip bfi ben [0, 1, 0, 0] [-1, -1, 0, 0] [-1, -1, 0, 0] [0, 1, 0, 0] [0, 0, 0, 0] [0, 0, 0, 0] (2 : Int32) (0 : Int32)  T2031.heap n0 z2031 B2031 ) hZ (wi hw 67 rfl) (wi hw 29 rfl) (by decide) (by decide)) q2032a q2032c (g := (mkF m 67 #[iv p1, iv p2, iv p3, iv (1 : Int32), iv (1 : Int32), iv (1 : Int32), rv a2, rv a1, iv (1 : Int32), uv, uv, uv, uv, uv, uv, uv, uv, uv] [(.ref a1)])) rfl (by rw [hml]; rfl) (Steps.refl _) (argsL := []) (rest := []) (lenOf pd_15 rfl) rfl (by show 2 * 0 + _ ≤ _; exact Nat.le_of_eq rfl) (hb hby at_67) (fun _ _ => ⟨rfl, rfl, (by decide : 15 + 0 ≤ _), (by decide : 70 + 0 ≤ _)⟩)
  dsimp only [Pt.U, Pt.locs, Pt.cells, Pt.slots] at X2032 l2032 y2032 z2032 st2032 hQ2032
  subst l2032 y2032 z2032
  obtain ⟨rfl, N2032q, e2032⟩ := hQ2032
  have N2032 := Fr.app N2031 N2032q
  refine Rch.to (U' := T2032.setTop (mkF m 70 #[iv p1, iv p2, iv p3, iv (1 : Int32), iv (1 : Int32), iv (1 : Int32), rv a2, rv a1, iv (1 : Int32), uv, uv, uv, uv, uv, uv, uv, uv, uv] [(.int (own_pos (0 : Int32)))])) st2032 ?_
  rw [(by decide : (own_pos (0 : Int32)) = (0 : Int32))]
  refine Rch.go (U' := T2032.setTop (mkF m 72 #[iv p1, iv p2, iv p3, iv (1 : Int32), iv (1 : Int32), iv (1 : Int32), rv a2, rv a1, iv (1 : Int32), iv (0 : Int32), uv, uv, uv, uv, uv, uv, uv, uv] [])) (fun _ k => XS.istore X2032.here hx rfl (hb hby at_70) rfl (l' := #[iv p1, iv p2, iv p3, iv (1 : Int32), iv (1 : Int32), iv (1 : Int32), rv a2, rv a1, iv (1 : Int32), iv (0 : Int32), uv, uv, uv, uv, uv, uv, uv, uv]) rfl k) ?_
  refine Rch.go (U' := T2032.setTop (mkF m 74 #[iv p1, iv p2, iv p3, iv (1 : Int32), iv (1 : Int32), iv (1 : Int32), rv a2, rv a1, iv (1 : Int32), iv (0 : Int32), uv, uv, uv, uv, uv, uv, uv, uv] [(.ref a1)])) (fun _ k => XS.aload X2032.here hx rfl (hb hby at_72) rfl rfl k) ?_
  refine Rch.go (U' := T2032.setTop (mkF m 76 #[iv p1, iv p2, iv p3, iv (1 : Int32), iv (1 : Int32), iv (1 : Int32), rv a2, rv a1, iv (1 : Int32), iv (0 : Int32), uv, uv, uv, uv, uv, uv, uv, uv] [(.int (1 : Int32)), (.ref a1)])) (fun _ k => XS.iload X2032.here hx rfl (hb hby at_74) rfl  k) ?_
  refine Rch.go (U' := T2032.setTop (mkF m 77 #[iv p1, iv p2, iv p3, iv (1 : Int32), iv (1 : Int32), iv (1 : Int32), rv a2, rv a1, iv (1 : Int32), iv (0 : Int32), uv, uv, uv, uv, uv, uv, uv, uv] [(.int (2 : Int32)), (.int (1 : Int32)), (.ref a1)])) (fun _ k => XS.iconst X2032.here hx rfl (hb hby at_76) k) ?_
  obtain ⟨cq2033, kq2033, q2033a, q2033b, q2033c⟩ := isOf hZ e2032 B2031.1.1
  obtain ⟨_, _, ⟨T2033, L2033, k2033, n2033⟩, -, X2033, ⟨Lc2033, hQ2033, l2033, y2033, z2033⟩, st2033⟩ := X2032.virtualBack hx (y := yj) (z := yj) hown (mvT hZ (wi hw 51 rfl)) (mvT hZ (wi hw 52 rfl)) (notFace_of_selects (args := #[]) (mvT hZ (wi hw 54 rfl))) (mvT hZ (wi hw 54 rfl)) (mvT hZ (wi hw 53 rfl)) (by decide) (backOf (W := 0) (rmJ l Z a0 hw [] a1 a2 bco bnx bpv bfb bpd bip bfi ben [0, 1, 0, 0] [-1, -1, 0, 0] [-1, -1, 0, 0] [0, 1, 0, 0] [0, 0, 0, 0] [0, 0, 0, 0] (2 : Int32) (0 : Int32) (1 : Int32) (2 : Int32) T2031.heap n0 z2031 B2031 (by decide)) hZ (wi hw 55 rfl) (wi hw 29 rfl) (by decide) (by decide)) q2033a q2033c (g := (mkF m 77 #[iv p1, iv p2, iv p3, iv (1 : Int32), iv (1 : Int32), iv (1 : Int32), rv a2, rv a1, iv (1 : Int32), iv (0 : Int32), uv, uv, uv, uv, uv, uv, uv, uv] [(.int (2 : Int32)), (.int (1 : Int32)), (.ref a1)])) rfl (by rw [hml]; rfl) (Steps.refl _) (argsL := [(.int (1 : Int32)), (.int (2 : Int32))]) (rest := []) (lenOf pd_8 rfl) rfl (by show 2 * 0 + _ ≤ _; exact Nat.le_of_eq rfl) (hb hby at_77) (fun _ _ => ⟨rfl, e2032, (by decide : 15 + 0 ≤ _), (by decide : 70 + 0 ≤ _)⟩)
  dsimp only [Pt.U, Pt.locs, Pt.cells, Pt.slots] at X2033 l2033 y2033 z2033 st2033 hQ2033
  subst l2033 y2033 z2033
  obtain ⟨rfl, N2033q, z2033, C2033⟩ := hQ2033
  have N2033 := Fr.app N2032 N2033q
  rw [(by rfl : own_join [0, 1, 0, 0] [-1, -1, 0, 0] [-1, -1, 0, 0] [0, 1, 0, 0] [0, 0, 0, 0] [0, 0, 0, 0] (2 : Int32) (0 : Int32) (1 : Int32) (2 : Int32) = ([0, 1, 1, 0], [-1, 2, -1, 0], [-1, -1, 1, 0], [0, 1, 0, 0], [1, 0, 0, 0], [0, 1, 0, 0], (2 : Int32), (1 : Int32)))] at C2033
  have B2033 : Cb Z T2033.heap n0 a1 a2 bco bnx bpv bfb bpd bip bfi ben [0, 1, 1, 0] [-1, 2, -1, 0] [-1, -1, 1, 0] [0, 1, 0, 0] [1, 0, 0, 0] [0, 1, 0, 0] (2 : Int32) (1 : Int32) := C2033
  refine Rch.to (U' := T2033.setTop (mkF m 80 #[iv p1, iv p2, iv p3, iv (1 : Int32), iv (1 : Int32), iv (1 : Int32), rv a2, rv a1, iv (1 : Int32), iv (0 : Int32), uv, uv, uv, uv, uv, uv, uv, uv] [])) st2033 ?_
  refine Rch.go (U' := T2033.setTop (mkF m 82 #[iv p1, iv p2, iv p3, iv (1 : Int32), iv (1 : Int32), iv (1 : Int32), rv a2, rv a1, iv (1 : Int32), iv (0 : Int32), uv, uv, uv, uv, uv, uv, uv, uv] [(.ref a1)])) (fun _ k => XS.aload X2033.here hx rfl (hb hby at_80) rfl rfl k) ?_
  refine Rch.go (U' := T2033.setTop (mkF m 84 #[iv p1, iv p2, iv p3, iv (1 : Int32), iv (1 : Int32), iv (1 : Int32), rv a2, rv a1, iv (1 : Int32), iv (0 : Int32), uv, uv, uv, uv, uv, uv, uv, uv] [(.int (1 : Int32)), (.ref a1)])) (fun _ k => XS.iload X2033.here hx rfl (hb hby at_82) rfl  k) ?_
  refine Rch.go (U' := T2033.setTop (mkF m 85 #[iv p1, iv p2, iv p3, iv (1 : Int32), iv (1 : Int32), iv (1 : Int32), rv a2, rv a1, iv (1 : Int32), iv (0 : Int32), uv, uv, uv, uv, uv, uv, uv, uv] [(.int (3 : Int32)), (.int (1 : Int32)), (.ref a1)])) (fun _ k => XS.iconst X2033.here hx rfl (hb hby at_84) k) ?_
  obtain ⟨cq2034, kq2034, q2034a, q2034b, q2034c⟩ := isOf hZ rfl B2033.1.1
  obtain ⟨_, _, ⟨T2034, L2034, k2034, n2034⟩, -, X2034, ⟨Lc2034, hQ2034, l2034, y2034, z2034⟩, st2034⟩ := X2033.virtualBack hx (y := yj) (z := yj) hown (mvT hZ (wi hw 51 rfl)) (mvT hZ (wi hw 52 rfl)) (notFace_of_selects (args := #[]) (mvT hZ (wi hw 54 rfl))) (mvT hZ (wi hw 54 rfl)) (mvT hZ (wi hw 53 rfl)) (by decide) (backOf (W := 0) (rmJ l Z a0 hw [] a1 a2 bco bnx bpv bfb bpd bip bfi ben [0, 1, 1, 0] [-1, 2, -1, 0] [-1, -1, 1, 0] [0, 1, 0, 0] [1, 0, 0, 0] [0, 1, 0, 0] (2 : Int32) (1 : Int32) (1 : Int32) (3 : Int32) T2033.heap n0 z2033 B2033 (by decide)) hZ (wi hw 55 rfl) (wi hw 29 rfl) (by decide) (by decide)) q2034a q2034c (g := (mkF m 85 #[iv p1, iv p2, iv p3, iv (1 : Int32), iv (1 : Int32), iv (1 : Int32), rv a2, rv a1, iv (1 : Int32), iv (0 : Int32), uv, uv, uv, uv, uv, uv, uv, uv] [(.int (3 : Int32)), (.int (1 : Int32)), (.ref a1)])) rfl (by rw [hml]; rfl) (Steps.refl _) (argsL := [(.int (1 : Int32)), (.int (3 : Int32))]) (rest := []) (lenOf pd_8 rfl) rfl (by show 2 * 0 + _ ≤ _; exact Nat.le_of_eq rfl) (hb hby at_85) (fun _ _ => ⟨rfl, rfl, (by decide : 15 + 0 ≤ _), (by decide : 70 + 0 ≤ _)⟩)
  dsimp only [Pt.U, Pt.locs, Pt.cells, Pt.slots] at X2034 l2034 y2034 z2034 st2034 hQ2034
  subst l2034 y2034 z2034
  obtain ⟨rfl, N2034q, z2034, C2034⟩ := hQ2034
  have N2034 := Fr.app N2033 N2034q
  rw [(by rfl : own_join [0, 1, 1, 0] [-1, 2, -1, 0] [-1, -1, 1, 0] [0, 1, 0, 0] [1, 0, 0, 0] [0, 1, 0, 0] (2 : Int32) (1 : Int32) (1 : Int32) (3 : Int32) = ([0, 1, 1, 1], [-1, 3, -1, 2], [-1, -1, 3, 1], [0, 1, 0, 0], [1, 0, 0, 0], [0, 1, 0, 0], (2 : Int32), (1 : Int32)))] at C2034
  have B2034 : Cb Z T2034.heap n0 a1 a2 bco bnx bpv bfb bpd bip bfi ben [0, 1, 1, 1] [-1, 3, -1, 2] [-1, -1, 3, 1] [0, 1, 0, 0] [1, 0, 0, 0] [0, 1, 0, 0] (2 : Int32) (1 : Int32) := C2034
  refine Rch.to (U' := T2034.setTop (mkF m 88 #[iv p1, iv p2, iv p3, iv (1 : Int32), iv (1 : Int32), iv (1 : Int32), rv a2, rv a1, iv (1 : Int32), iv (0 : Int32), uv, uv, uv, uv, uv, uv, uv, uv] [])) st2034 ?_
  refine Rch.go (U' := T2034.setTop (mkF m 90 #[iv p1, iv p2, iv p3, iv (1 : Int32), iv (1 : Int32), iv (1 : Int32), rv a2, rv a1, iv (1 : Int32), iv (0 : Int32), uv, uv, uv, uv, uv, uv, uv, uv] [(.int (1 : Int32))])) (fun _ k => XS.iload X2034.here hx rfl (hb hby at_88) rfl  k) ?_
  refine Rch.go (U' := T2034.setTop (mkF m 91 #[iv p1, iv p2, iv p3, iv (1 : Int32), iv (1 : Int32), iv (1 : Int32), rv a2, rv a1, iv (1 : Int32), iv (0 : Int32), uv, uv, uv, uv, uv, uv, uv, uv] [(.int (2 : Int32)), (.int (1 : Int32))])) (fun _ k => XS.iconst X2034.here hx rfl (hb hby at_90) k) ?_
  have br2035 : ¬ ((1 : Int32) = (2 : Int32)) := (by decide)
  refine Rch.go (U' := T2034.setTop (mkF m 99 #[iv p1, iv p2, iv p3, iv (1 : Int32), iv (1 : Int32), iv (1 : Int32), rv a2, rv a1, iv (1 : Int32), iv (0 : Int32), uv, uv, uv, uv, uv, uv, uv, uv] [])) (fun _ k => XS.icmpYes X2034.here hx rfl (pc0 := 91) (pc' := 99) rfl (hb hby at_91) rfl (XT.ii_ne_t br2035) (by decide) (by decide) k) ?_
  refine Rch.go (U' := T2034.setTop (mkF m 101 #[iv p1, iv p2, iv p3, iv (1 : Int32), iv (1 : Int32), iv (1 : Int32), rv a2, rv a1, iv (1 : Int32), iv (0 : Int32), uv, uv, uv, uv, uv, uv, uv, uv] [(.int (1 : Int32))])) (fun _ k => XS.iload X2034.here hx rfl (hb hby at_99) rfl  k) ?_
  refine Rch.go (U' := T2034.setTop (mkF m 103 #[iv p1, iv p2, iv p3, iv (1 : Int32), iv (1 : Int32), iv (1 : Int32), rv a2, rv a1, iv (1 : Int32), iv (0 : Int32), iv (1 : Int32), uv, uv, uv, uv, uv, uv, uv] [])) (fun _ k => XS.istore X2034.here hx rfl (hb hby at_101) rfl (l' := #[iv p1, iv p2, iv p3, iv (1 : Int32), iv (1 : Int32), iv (1 : Int32), rv a2, rv a1, iv (1 : Int32), iv (0 : Int32), iv (1 : Int32), uv, uv, uv, uv, uv, uv, uv]) rfl k) ?_
  refine Rch.go (U' := T2034.setTop (mkF m 105 #[iv p1, iv p2, iv p3, iv (1 : Int32), iv (1 : Int32), iv (1 : Int32), rv a2, rv a1, iv (1 : Int32), iv (0 : Int32), iv (1 : Int32), uv, uv, uv, uv, uv, uv, uv] [(.int (1 : Int32))])) (fun _ k => XS.iload X2034.here hx rfl (hb hby at_103) rfl  k) ?_
  refine Rch.go (U' := T2034.setTop (mkF m 106 #[iv p1, iv p2, iv p3, iv (1 : Int32), iv (1 : Int32), iv (1 : Int32), rv a2, rv a1, iv (1 : Int32), iv (0 : Int32), iv (1 : Int32), uv, uv, uv, uv, uv, uv, uv] [(.int (1 : Int32)), (.int (1 : Int32))])) (fun _ k => XS.iconst X2034.here hx rfl (hb hby at_105) k) ?_
  have br2036 : (1 : Int32) = (1 : Int32) := (by decide)
  refine Rch.go (U' := T2034.setTop (mkF m 109 #[iv p1, iv p2, iv p3, iv (1 : Int32), iv (1 : Int32), iv (1 : Int32), rv a2, rv a1, iv (1 : Int32), iv (0 : Int32), iv (1 : Int32), uv, uv, uv, uv, uv, uv, uv] [])) (fun _ k => XS.icmpNo X2034.here hx rfl (hb hby at_106) rfl (XT.ii_ne_f br2036) k) ?_
  refine Rch.go (U' := T2034.setTop (mkF m 111 #[iv p1, iv p2, iv p3, iv (1 : Int32), iv (1 : Int32), iv (1 : Int32), rv a2, rv a1, iv (1 : Int32), iv (0 : Int32), iv (1 : Int32), uv, uv, uv, uv, uv, uv, uv] [(.int (0 : Int32))])) (fun _ k => XS.iload X2034.here hx rfl (hb hby at_109) rfl  k) ?_
  have br2037 : (0 : Int32) = (0 : Int32) := (by decide)
  refine Rch.go (U' := T2034.setTop (mkF m 114 #[iv p1, iv p2, iv p3, iv (1 : Int32), iv (1 : Int32), iv (1 : Int32), rv a2, rv a1, iv (1 : Int32), iv (0 : Int32), iv (1 : Int32), uv, uv, uv, uv, uv, uv, uv] [])) (fun _ k => XS.ifNo X2034.here hx rfl (hb hby at_111) rfl (XT.i0_ne_f br2037) k) ?_
  refine Rch.go (U' := T2034.setTop (mkF m 116 #[iv p1, iv p2, iv p3, iv (1 : Int32), iv (1 : Int32), iv (1 : Int32), rv a2, rv a1, iv (1 : Int32), iv (0 : Int32), iv (1 : Int32), uv, uv, uv, uv, uv, uv, uv] [(.ref a1)])) (fun _ k => XS.aload X2034.here hx rfl (hb hby at_114) rfl rfl k) ?_
  refine Rch.go (U' := T2034.setTop (mkF m 117 #[iv p1, iv p2, iv p3, iv (1 : Int32), iv (1 : Int32), iv (1 : Int32), rv a2, rv a1, iv (1 : Int32), iv (0 : Int32), iv (1 : Int32), uv, uv, uv, uv, uv, uv, uv] [(.int (2 : Int32)), (.ref a1)])) (fun _ k => XS.iconst X2034.here hx rfl (hb hby at_116) k) ?_
  obtain ⟨cq2038, kq2038, q2038a, q2038b, q2038c⟩ := isOf hZ rfl B2034.1.1
  obtain ⟨_, _, ⟨T2038, L2038, k2038, n2038⟩, -, X2038, ⟨Lc2038, hQ2038, l2038, y2038, z2038⟩, st2038⟩ := X2034.virtualBack hx (y := yc) (z := yc) hown (mvT hZ (wi hw 58 rfl)) (mvT hZ (wi hw 59 rfl)) (notFace_of_selects (args := #[]) (mvT hZ (wi hw 61 rfl))) (mvT hZ (wi hw 61 rfl)) (mvT hZ (wi hw 60 rfl)) (by decide) (backOf (W := 0) (rmCo l Z a0 hw [] a1 a2 bco bnx bpv bfb bpd bip bfi ben [0, 1, 1, 1] [-1, 3, -1, 2] [-1, -1, 3, 1] [0, 1, 0, 0] [1, 0, 0, 0] [0, 1, 0, 0] (2 : Int32) (1 : Int32) (2 : Int32) T2034.heap n0 z2034 B2034 (by decide)) hZ (wi hw 62 rfl) (wi hw 29 rfl) (by decide) (by decide)) q2038a q2038c (g := (mkF m 117 #[iv p1, iv p2, iv p3, iv (1 : Int32), iv (1 : Int32), iv (1 : Int32), rv a2, rv a1, iv (1 : Int32), iv (0 : Int32), iv (1 : Int32), uv, uv, uv, uv, uv, uv, uv] [(.int (2 : Int32)), (.ref a1)])) rfl (by rw [hml]; rfl) (Steps.refl _) (argsL := [(.int (2 : Int32))]) (rest := []) (lenOf pd_7 rfl) rfl (by show 2 * 0 + _ ≤ _; exact Nat.le_of_eq rfl) (hb hby at_117) (fun _ _ => ⟨rfl, rfl, (by decide : 15 + 0 ≤ _), (by decide : 70 + 0 ≤ _)⟩)
  dsimp only [Pt.U, Pt.locs, Pt.cells, Pt.slots] at X2038 l2038 y2038 z2038 st2038 hQ2038
  subst l2038 y2038 z2038
  obtain ⟨rfl, N2038q, e2038⟩ := hQ2038
  have N2038 := Fr.app N2034 N2038q
  refine Rch.to (U' := T2038.setTop (mkF m 120 #[iv p1, iv p2, iv p3, iv (1 : Int32), iv (1 : Int32), iv (1 : Int32), rv a2, rv a1, iv (1 : Int32), iv (0 : Int32), iv (1 : Int32), uv, uv, uv, uv, uv, uv, uv] [(.int (own_at [0, 1, 1, 1] (2 : Int32)))])) st2038 ?_
  rw [(by decide : (own_at [0, 1, 1, 1] (2 : Int32)) = (1 : Int32))]
  refine Rch.go (U' := T2038.setTop (mkF m 122 #[iv p1, iv p2, iv p3, iv (1 : Int32), iv (1 : Int32), iv (1 : Int32), rv a2, rv a1, iv (1 : Int32), iv (0 : Int32), iv (1 : Int32), uv, uv, uv, uv, uv, uv, uv] [(.int (1 : Int32)), (.int (1 : Int32))])) (fun _ k => XS.iload X2038.here hx rfl (hb hby at_120) rfl  k) ?_
  have br2039 : (1 : Int32) = (1 : Int32) := (by decide)
  refine Rch.go (U' := T2038.setTop (mkF m 125 #[iv p1, iv p2, iv p3, iv (1 : Int32), iv (1 : Int32), iv (1 : Int32), rv a2, rv a1, iv (1 : Int32), iv (0 : Int32), iv (1 : Int32), uv, uv, uv, uv, uv, uv, uv] [])) (fun _ k => XS.icmpNo X2038.here hx rfl (hb hby at_122) rfl (XT.ii_ne_f br2039) k) ?_
  refine Rch.go (U' := T2038.setTop (mkF m 127 #[iv p1, iv p2, iv p3, iv (1 : Int32), iv (1 : Int32), iv (1 : Int32), rv a2, rv a1, iv (1 : Int32), iv (0 : Int32), iv (1 : Int32), uv, uv, uv, uv, uv, uv, uv] [(.ref a1)])) (fun _ k => XS.aload X2038.here hx rfl (hb hby at_125) rfl rfl k) ?_
  refine Rch.go (U' := T2038.setTop (mkF m 128 #[iv p1, iv p2, iv p3, iv (1 : Int32), iv (1 : Int32), iv (1 : Int32), rv a2, rv a1, iv (1 : Int32), iv (0 : Int32), iv (1 : Int32), uv, uv, uv, uv, uv, uv, uv] [(.int (3 : Int32)), (.ref a1)])) (fun _ k => XS.iconst X2038.here hx rfl (hb hby at_127) k) ?_
  obtain ⟨cq2040, kq2040, q2040a, q2040b, q2040c⟩ := isOf hZ e2038 B2034.1.1
  obtain ⟨_, _, ⟨T2040, L2040, k2040, n2040⟩, -, X2040, ⟨Lc2040, hQ2040, l2040, y2040, z2040⟩, st2040⟩ := X2038.virtualBack hx (y := yc) (z := yc) hown (mvT hZ (wi hw 58 rfl)) (mvT hZ (wi hw 59 rfl)) (notFace_of_selects (args := #[]) (mvT hZ (wi hw 61 rfl))) (mvT hZ (wi hw 61 rfl)) (mvT hZ (wi hw 60 rfl)) (by decide) (backOf (W := 0) (rmCo l Z a0 hw [] a1 a2 bco bnx bpv bfb bpd bip bfi ben [0, 1, 1, 1] [-1, 3, -1, 2] [-1, -1, 3, 1] [0, 1, 0, 0] [1, 0, 0, 0] [0, 1, 0, 0] (2 : Int32) (1 : Int32) (3 : Int32) T2034.heap n0 z2034 B2034 (by decide)) hZ (wi hw 62 rfl) (wi hw 29 rfl) (by decide) (by decide)) q2040a q2040c (g := (mkF m 128 #[iv p1, iv p2, iv p3, iv (1 : Int32), iv (1 : Int32), iv (1 : Int32), rv a2, rv a1, iv (1 : Int32), iv (0 : Int32), iv (1 : Int32), uv, uv, uv, uv, uv, uv, uv] [(.int (3 : Int32)), (.ref a1)])) rfl (by rw [hml]; rfl) (Steps.refl _) (argsL := [(.int (3 : Int32))]) (rest := []) (lenOf pd_7 rfl) rfl (by show 2 * 0 + _ ≤ _; exact Nat.le_of_eq rfl) (hb hby at_128) (fun _ _ => ⟨rfl, e2038, (by decide : 15 + 0 ≤ _), (by decide : 70 + 0 ≤ _)⟩)
  dsimp only [Pt.U, Pt.locs, Pt.cells, Pt.slots] at X2040 l2040 y2040 z2040 st2040 hQ2040
  subst l2040 y2040 z2040
  obtain ⟨rfl, N2040q, e2040⟩ := hQ2040
  have N2040 := Fr.app N2038 N2040q
  refine Rch.to (U' := T2040.setTop (mkF m 131 #[iv p1, iv p2, iv p3, iv (1 : Int32), iv (1 : Int32), iv (1 : Int32), rv a2, rv a1, iv (1 : Int32), iv (0 : Int32), iv (1 : Int32), uv, uv, uv, uv, uv, uv, uv] [(.int (own_at [0, 1, 1, 1] (3 : Int32)))])) st2040 ?_
  rw [(by decide : (own_at [0, 1, 1, 1] (3 : Int32)) = (1 : Int32))]
  refine Rch.go (U' := T2040.setTop (mkF m 133 #[iv p1, iv p2, iv p3, iv (1 : Int32), iv (1 : Int32), iv (1 : Int32), rv a2, rv a1, iv (1 : Int32), iv (0 : Int32), iv (1 : Int32), uv, uv, uv, uv, uv, uv, uv] [(.int (1 : Int32)), (.int (1 : Int32))])) (fun _ k => XS.iload X2040.here hx rfl (hb hby at_131) rfl  k) ?_
  have br2041 : (1 : Int32) = (1 : Int32) := (by decide)
  refine Rch.go (U' := T2040.setTop (mkF m 136 #[iv p1, iv p2, iv p3, iv (1 : Int32), iv (1 : Int32), iv (1 : Int32), rv a2, rv a1, iv (1 : Int32), iv (0 : Int32), iv (1 : Int32), uv, uv, uv, uv, uv, uv, uv] [])) (fun _ k => XS.icmpNo X2040.here hx rfl (hb hby at_133) rfl (XT.ii_ne_f br2041) k) ?_
  refine Rch.go (U' := T2040.setTop (mkF m 138 #[iv p1, iv p2, iv p3, iv (1 : Int32), iv (1 : Int32), iv (1 : Int32), rv a2, rv a1, iv (1 : Int32), iv (0 : Int32), iv (1 : Int32), uv, uv, uv, uv, uv, uv, uv] [(.ref a1)])) (fun _ k => XS.aload X2040.here hx rfl (hb hby at_136) rfl rfl k) ?_
  obtain ⟨cq2042, kq2042, q2042a, q2042b, q2042c⟩ := isOf hZ e2040 B2034.1.1
  obtain ⟨_, _, ⟨T2042, L2042, k2042, n2042⟩, -, X2042, ⟨Lc2042, hQ2042, l2042, y2042, z2042⟩, st2042⟩ := X2040.virtualBack hx (y := yhs) (z := yhs) hown (mvT hZ (wi hw 63 rfl)) (mvT hZ (wi hw 64 rfl)) (notFace_of_selects (args := #[]) (mvT hZ (wi hw 66 rfl))) (mvT hZ (wi hw 66 rfl)) (mvT hZ (wi hw 65 rfl)) (by decide) (backOf (W := 0) (rmHs l Z a0 hw [] a1 a2 bco bnx bpv bfb bpd bip bfi ben [0, 1, 1, 1] [-1, 3, -1, 2] [-1, -1, 3, 1] [0, 1, 0, 0] [1, 0, 0, 0] [0, 1, 0, 0] (2 : Int32) (1 : Int32)  T2034.heap n0 z2034 B2034 ) hZ (wi hw 67 rfl) (wi hw 29 rfl) (by decide) (by decide)) q2042a q2042c (g := (mkF m 138 #[iv p1, iv p2, iv p3, iv (1 : Int32), iv (1 : Int32), iv (1 : Int32), rv a2, rv a1, iv (1 : Int32), iv (0 : Int32), iv (1 : Int32), uv, uv, uv, uv, uv, uv, uv] [(.ref a1)])) rfl (by rw [hml]; rfl) (Steps.refl _) (argsL := []) (rest := []) (lenOf pd_15 rfl) rfl (by show 2 * 0 + _ ≤ _; exact Nat.le_of_eq rfl) (hb hby at_138) (fun _ _ => ⟨rfl, e2040, (by decide : 15 + 0 ≤ _), (by decide : 70 + 0 ≤ _)⟩)
  dsimp only [Pt.U, Pt.locs, Pt.cells, Pt.slots] at X2042 l2042 y2042 z2042 st2042 hQ2042
  subst l2042 y2042 z2042
  obtain ⟨rfl, N2042q, e2042⟩ := hQ2042
  have N2042 := Fr.app N2040 N2042q
  refine Rch.to (U' := T2042.setTop (mkF m 141 #[iv p1, iv p2, iv p3, iv (1 : Int32), iv (1 : Int32), iv (1 : Int32), rv a2, rv a1, iv (1 : Int32), iv (0 : Int32), iv (1 : Int32), uv, uv, uv, uv, uv, uv, uv] [(.int (own_pos (1 : Int32)))])) st2042 ?_
  rw [(by decide : (own_pos (1 : Int32)) = (1 : Int32))]
  have br2043 : ¬ ((1 : Int32) = (0 : Int32)) := (by decide)
  refine Rch.go (U' := T2042.setTop (mkF m 144 #[iv p1, iv p2, iv p3, iv (1 : Int32), iv (1 : Int32), iv (1 : Int32), rv a2, rv a1, iv (1 : Int32), iv (0 : Int32), iv (1 : Int32), uv, uv, uv, uv, uv, uv, uv] [])) (fun _ k => XS.ifNo X2042.here hx rfl (hb hby at_141) rfl (XT.i0_eq_f br2043) k) ?_
  refine Rch.go (U' := T2042.setTop (mkF m 146 #[iv p1, iv p2, iv p3, iv (1 : Int32), iv (1 : Int32), iv (1 : Int32), rv a2, rv a1, iv (1 : Int32), iv (0 : Int32), iv (1 : Int32), uv, uv, uv, uv, uv, uv, uv] [(.ref a1)])) (fun _ k => XS.aload X2042.here hx rfl (hb hby at_144) rfl rfl k) ?_
  obtain ⟨cq2044, kq2044, q2044a, q2044b, q2044c⟩ := isOf hZ e2042 B2034.1.1
  obtain ⟨_, _, ⟨T2044, L2044, k2044, n2044⟩, -, X2044, ⟨Lc2044, hQ2044, l2044, y2044, z2044⟩, st2044⟩ := X2042.virtualBack hx (y := yns) (z := yns) hown (mvT hZ (wi hw 68 rfl)) (mvT hZ (wi hw 69 rfl)) (notFace_of_selects (args := #[]) (mvT hZ (wi hw 71 rfl))) (mvT hZ (wi hw 71 rfl)) (mvT hZ (wi hw 70 rfl)) (by decide) (backOf (W := 0) (rmNs l Z a0 hw [] a1 a2 bco bnx bpv bfb bpd bip bfi ben [0, 1, 1, 1] [-1, 3, -1, 2] [-1, -1, 3, 1] [0, 1, 0, 0] [1, 0, 0, 0] [0, 1, 0, 0] (2 : Int32) (1 : Int32)  T2034.heap n0 z2034 B2034 (by decide)) hZ (wi hw 72 rfl) (wi hw 29 rfl) (by decide) (by decide)) q2044a q2044c (g := (mkF m 146 #[iv p1, iv p2, iv p3, iv (1 : Int32), iv (1 : Int32), iv (1 : Int32), rv a2, rv a1, iv (1 : Int32), iv (0 : Int32), iv (1 : Int32), uv, uv, uv, uv, uv, uv, uv] [(.ref a1)])) rfl (by rw [hml]; rfl) (Steps.refl _) (argsL := []) (rest := []) (lenOf pd_14 rfl) rfl (by show 2 * 0 + _ ≤ _; exact Nat.le_of_eq rfl) (hb hby at_146) (fun _ _ => ⟨rfl, e2042, (by decide : 15 + 0 ≤ _), (by decide : 70 + 0 ≤ _)⟩)
  dsimp only [Pt.U, Pt.locs, Pt.cells, Pt.slots] at X2044 l2044 y2044 z2044 st2044 hQ2044
  subst l2044 y2044 z2044
  obtain ⟨rfl, N2044q, e2044⟩ := hQ2044
  have N2044 := Fr.app N2042 N2044q
  refine Rch.to (U' := T2044.setTop (mkF m 149 #[iv p1, iv p2, iv p3, iv (1 : Int32), iv (1 : Int32), iv (1 : Int32), rv a2, rv a1, iv (1 : Int32), iv (0 : Int32), iv (1 : Int32), uv, uv, uv, uv, uv, uv, uv] [(.int (own_at [1, 0, 0, 0] ((1 : Int32) - (1 : Int32))))])) st2044 ?_
  rw [(by decide : (own_at [1, 0, 0, 0] ((1 : Int32) - (1 : Int32))) = (1 : Int32))]
  refine Rch.go (U' := T2044.setTop (mkF m 151 #[iv p1, iv p2, iv p3, iv (1 : Int32), iv (1 : Int32), iv (1 : Int32), rv a2, rv a1, iv (1 : Int32), iv (0 : Int32), iv (1 : Int32), uv, uv, uv, uv, uv, uv, uv] [(.int (1 : Int32)), (.int (1 : Int32))])) (fun _ k => XS.iload X2044.here hx rfl (hb hby at_149) rfl  k) ?_
  have br2045 : (1 : Int32) = (1 : Int32) := (by decide)
  refine Rch.go (U' := T2044.setTop (mkF m 154 #[iv p1, iv p2, iv p3, iv (1 : Int32), iv (1 : Int32), iv (1 : Int32), rv a2, rv a1, iv (1 : Int32), iv (0 : Int32), iv (1 : Int32), uv, uv, uv, uv, uv, uv, uv] [])) (fun _ k => XS.icmpNo X2044.here hx rfl (hb hby at_151) rfl (XT.ii_ne_f br2045) k) ?_
  refine Rch.go (U' := T2044.setTop (mkF m 155 #[iv p1, iv p2, iv p3, iv (1 : Int32), iv (1 : Int32), iv (1 : Int32), rv a2, rv a1, iv (1 : Int32), iv (0 : Int32), iv (1 : Int32), uv, uv, uv, uv, uv, uv, uv] [(.int (1 : Int32))])) (fun _ k => XS.iconst X2044.here hx rfl (hb hby at_154) k) ?_
  refine Rch.go (U' := T2044.setTop (mkF m 159 #[iv p1, iv p2, iv p3, iv (1 : Int32), iv (1 : Int32), iv (1 : Int32), rv a2, rv a1, iv (1 : Int32), iv (0 : Int32), iv (1 : Int32), uv, uv, uv, uv, uv, uv, uv] [(.int (1 : Int32))])) (fun _ k => XS.goto X2044.here hx rfl (pc0 := 155) (pc' := 159) rfl (hb hby at_155) (by decide) (by decide) k) ?_
  refine Rch.go (U' := T2044.setTop (mkF m 161 #[iv p1, iv p2, iv p3, iv (1 : Int32), iv (1 : Int32), iv (1 : Int32), rv a2, rv a1, iv (1 : Int32), iv (0 : Int32), iv (1 : Int32), iv (1 : Int32), uv, uv, uv, uv, uv, uv] [])) (fun _ k => XS.istore X2044.here hx rfl (hb hby at_159) rfl (l' := #[iv p1, iv p2, iv p3, iv (1 : Int32), iv (1 : Int32), iv (1 : Int32), rv a2, rv a1, iv (1 : Int32), iv (0 : Int32), iv (1 : Int32), iv (1 : Int32), uv, uv, uv, uv, uv, uv]) rfl k) ?_
  refine Rch.go (U' := T2044.setTop (mkF m 163 #[iv p1, iv p2, iv p3, iv (1 : Int32), iv (1 : Int32), iv (1 : Int32), rv a2, rv a1, iv (1 : Int32), iv (0 : Int32), iv (1 : Int32), iv (1 : Int32), uv, uv, uv, uv, uv, uv] [(.int (1 : Int32))])) (fun _ k => XS.iload X2044.here hx rfl (hb hby at_161) rfl  k) ?_
  have br2046 : ¬ ((1 : Int32) = (0 : Int32)) := (by decide)
  refine Rch.go (U' := T2044.setTop (mkF m 168 #[iv p1, iv p2, iv p3, iv (1 : Int32), iv (1 : Int32), iv (1 : Int32), rv a2, rv a1, iv (1 : Int32), iv (0 : Int32), iv (1 : Int32), iv (1 : Int32), uv, uv, uv, uv, uv, uv] [])) (fun _ k => XS.ifYes X2044.here hx rfl (pc0 := 163) (pc' := 168) rfl (hb hby at_163) rfl (XT.i0_ne_t br2046) (by decide) (by decide) k) ?_
  refine Rch.go (U' := T2044.setTop (mkF m 170 #[iv p1, iv p2, iv p3, iv (1 : Int32), iv (1 : Int32), iv (1 : Int32), rv a2, rv a1, iv (1 : Int32), iv (0 : Int32), iv (1 : Int32), iv (1 : Int32), uv, uv, uv, uv, uv, uv] [(.int (1 : Int32))])) (fun _ k => XS.iload X2044.here hx rfl (hb hby at_168) rfl  k) ?_
  refine Rch.go (U' := T2044.setTop (mkF m 172 #[iv p1, iv p2, iv p3, iv (1 : Int32), iv (1 : Int32), iv (1 : Int32), rv a2, rv a1, iv (1 : Int32), iv (0 : Int32), iv (1 : Int32), iv (1 : Int32), uv, uv, uv, uv, uv, uv] [(.int (1 : Int32)), (.int (1 : Int32))])) (fun _ k => XS.iload X2044.here hx rfl (hb hby at_170) rfl  k) ?_
  have br2047 : (1 : Int32) = (1 : Int32) := (by decide)
  refine Rch.go (U' := T2044.setTop (mkF m 175 #[iv p1, iv p2, iv p3, iv (1 : Int32), iv (1 : Int32), iv (1 : Int32), rv a2, rv a1, iv (1 : Int32), iv (0 : Int32), iv (1 : Int32), iv (1 : Int32), uv, uv, uv, uv, uv, uv] [])) (fun _ k => XS.icmpNo X2044.here hx rfl (hb hby at_172) rfl (XT.ii_ne_f br2047) k) ?_
  refine Rch.go (U' := T2044.setTop (mkF m 177 #[iv p1, iv p2, iv p3, iv (1 : Int32), iv (1 : Int32), iv (1 : Int32), rv a2, rv a1, iv (1 : Int32), iv (0 : Int32), iv (1 : Int32), iv (1 : Int32), uv, uv, uv, uv, uv, uv] [(.int (1 : Int32))])) (fun _ k => XS.iload X2044.here hx rfl (hb hby at_175) rfl  k) ?_
  refine Rch.go (U' := T2044.setTop (mkF m 179 #[iv p1, iv p2, iv p3, iv (1 : Int32), iv (1 : Int32), iv (1 : Int32), rv a2, rv a1, iv (1 : Int32), iv (0 : Int32), iv (1 : Int32), iv (1 : Int32), iv (1 : Int32), uv, uv, uv, uv, uv] [])) (fun _ k => XS.istore X2044.here hx rfl (hb hby at_177) rfl (l' := #[iv p1, iv p2, iv p3, iv (1 : Int32), iv (1 : Int32), iv (1 : Int32), rv a2, rv a1, iv (1 : Int32), iv (0 : Int32), iv (1 : Int32), iv (1 : Int32), iv (1 : Int32), uv, uv, uv, uv, uv]) rfl k) ?_
  refine Rch.go (U' := T2044.setTop (mkF m 181 #[iv p1, iv p2, iv p3, iv (1 : Int32), iv (1 : Int32), iv (1 : Int32), rv a2, rv a1, iv (1 : Int32), iv (0 : Int32), iv (1 : Int32), iv (1 : Int32), iv (1 : Int32), uv, uv, uv, uv, uv] [(.int (1 : Int32))])) (fun _ k => XS.iload X2044.here hx rfl (hb hby at_179) rfl  k) ?_
  refine Rch.go (U' := T2044.setTop (mkF m 183 #[iv p1, iv p2, iv p3, iv (1 : Int32), iv (1 : Int32), iv (1 : Int32), rv a2, rv a1, iv (1 : Int32), iv (0 : Int32), iv (1 : Int32), iv (1 : Int32), iv (1 : Int32), uv, uv, uv, uv, uv] [(.int (1 : Int32)), (.int (1 : Int32))])) (fun _ k => XS.iload X2044.here hx rfl (hb hby at_181) rfl  k) ?_
  have br2048 : (1 : Int32) = (1 : Int32) := (by decide)
  refine Rch.go (U' := T2044.setTop (mkF m 186 #[iv p1, iv p2, iv p3, iv (1 : Int32), iv (1 : Int32), iv (1 : Int32), rv a2, rv a1, iv (1 : Int32), iv (0 : Int32), iv (1 : Int32), iv (1 : Int32), iv (1 : Int32), uv, uv, uv, uv, uv] [])) (fun _ k => XS.icmpNo X2044.here hx rfl (hb hby at_183) rfl (XT.ii_ne_f br2048) k) ?_
  refine Rch.go (U' := T2044.setTop (mkF m 187 #[iv p1, iv p2, iv p3, iv (1 : Int32), iv (1 : Int32), iv (1 : Int32), rv a2, rv a1, iv (1 : Int32), iv (0 : Int32), iv (1 : Int32), iv (1 : Int32), iv (1 : Int32), uv, uv, uv, uv, uv] [(.int (3 : Int32))])) (fun _ k => XS.iconst X2044.here hx rfl (hb hby at_186) k) ?_
  refine Rch.go (U' := T2044.setTop (mkF m 191 #[iv p1, iv p2, iv p3, iv (1 : Int32), iv (1 : Int32), iv (1 : Int32), rv a2, rv a1, iv (1 : Int32), iv (0 : Int32), iv (1 : Int32), iv (1 : Int32), iv (1 : Int32), uv, uv, uv, uv, uv] [(.int (3 : Int32))])) (fun _ k => XS.goto X2044.here hx rfl (pc0 := 187) (pc' := 191) rfl (hb hby at_187) (by decide) (by decide) k) ?_
  refine Rch.go (U' := T2044.setTop (mkF m 193 #[iv p1, iv p2, iv p3, iv (1 : Int32), iv (1 : Int32), iv (1 : Int32), rv a2, rv a1, iv (1 : Int32), iv (0 : Int32), iv (1 : Int32), iv (1 : Int32), iv (1 : Int32), iv (3 : Int32), uv, uv, uv, uv] [])) (fun _ k => XS.istore X2044.here hx rfl (hb hby at_191) rfl (l' := #[iv p1, iv p2, iv p3, iv (1 : Int32), iv (1 : Int32), iv (1 : Int32), rv a2, rv a1, iv (1 : Int32), iv (0 : Int32), iv (1 : Int32), iv (1 : Int32), iv (1 : Int32), iv (3 : Int32), uv, uv, uv, uv]) rfl k) ?_
  refine Rch.go (U' := T2044.setTop (mkF m 203 #[iv p1, iv p2, iv p3, iv (1 : Int32), iv (1 : Int32), iv (1 : Int32), rv a2, rv a1, iv (1 : Int32), iv (0 : Int32), iv (1 : Int32), iv (1 : Int32), iv (1 : Int32), iv (3 : Int32), uv, uv, uv, uv] [])) (fun _ k => XS.goto X2044.here hx rfl (pc0 := 193) (pc' := 203) rfl (hb hby at_193) (by decide) (by decide) k) ?_
  refine Rch.go (U' := T2044.setTop (mkF m 205 #[iv p1, iv p2, iv p3, iv (1 : Int32), iv (1 : Int32), iv (1 : Int32), rv a2, rv a1, iv (1 : Int32), iv (0 : Int32), iv (1 : Int32), iv (1 : Int32), iv (1 : Int32), iv (3 : Int32), uv, uv, uv, uv] [(.int (1 : Int32))])) (fun _ k => XS.iload X2044.here hx rfl (hb hby at_203) rfl  k) ?_
  have br2049 : ¬ ((1 : Int32) = (0 : Int32)) := (by decide)
  refine Rch.go (U' := T2044.setTop (mkF m 213 #[iv p1, iv p2, iv p3, iv (1 : Int32), iv (1 : Int32), iv (1 : Int32), rv a2, rv a1, iv (1 : Int32), iv (0 : Int32), iv (1 : Int32), iv (1 : Int32), iv (1 : Int32), iv (3 : Int32), uv, uv, uv, uv] [])) (fun _ k => XS.ifYes X2044.here hx rfl (pc0 := 205) (pc' := 213) rfl (hb hby at_205) rfl (XT.i0_ne_t br2049) (by decide) (by decide) k) ?_
  refine Rch.go (U' := T2044.setTop (mkF m 215 #[iv p1, iv p2, iv p3, iv (1 : Int32), iv (1 : Int32), iv (1 : Int32), rv a2, rv a1, iv (1 : Int32), iv (0 : Int32), iv (1 : Int32), iv (1 : Int32), iv (1 : Int32), iv (3 : Int32), uv, uv, uv, uv] [(.int (1 : Int32))])) (fun _ k => XS.iload X2044.here hx rfl (hb hby at_213) rfl  k) ?_
  refine Rch.go (U' := T2044.setTop (mkF m 217 #[iv p1, iv p2, iv p3, iv (1 : Int32), iv (1 : Int32), iv (1 : Int32), rv a2, rv a1, iv (1 : Int32), iv (0 : Int32), iv (1 : Int32), iv (1 : Int32), iv (1 : Int32), iv (3 : Int32), iv (1 : Int32), uv, uv, uv] [])) (fun _ k => XS.istore X2044.here hx rfl (hb hby at_215) rfl (l' := #[iv p1, iv p2, iv p3, iv (1 : Int32), iv (1 : Int32), iv (1 : Int32), rv a2, rv a1, iv (1 : Int32), iv (0 : Int32), iv (1 : Int32), iv (1 : Int32), iv (1 : Int32), iv (3 : Int32), iv (1 : Int32), uv, uv, uv]) rfl k) ?_
  refine Rch.go (U' := T2044.setTop (mkF m 219 #[iv p1, iv p2, iv p3, iv (1 : Int32), iv (1 : Int32), iv (1 : Int32), rv a2, rv a1, iv (1 : Int32), iv (0 : Int32), iv (1 : Int32), iv (1 : Int32), iv (1 : Int32), iv (3 : Int32), iv (1 : Int32), uv, uv, uv] [(.ref a1)])) (fun _ k => XS.aload X2044.here hx rfl (hb hby at_217) rfl rfl k) ?_
  obtain ⟨cq2050, kq2050, q2050a, q2050b, q2050c⟩ := isOf hZ e2044 B2034.1.1
  obtain ⟨_, _, ⟨T2050, L2050, k2050, n2050⟩, -, X2050, ⟨Lc2050, hQ2050, l2050, y2050, z2050⟩, st2050⟩ := X2044.virtualBack hx (y := yt) (z := yt) hown (mvT hZ (wi hw 73 rfl)) (mvT hZ (wi hw 74 rfl)) (notFace_of_selects (args := #[]) (mvT hZ (wi hw 76 rfl))) (mvT hZ (wi hw 76 rfl)) (mvT hZ (wi hw 75 rfl)) (by decide) (backOf (W := 0) (rmT l Z a0 hw [] a1 a2 bco bnx bpv bfb bpd bip bfi ben [0, 1, 1, 1] [-1, 3, -1, 2] [-1, -1, 3, 1] [0, 1, 0, 0] [1, 0, 0, 0] [0, 1, 0, 0] (2 : Int32) (1 : Int32) T2034.heap n0 z2034 B2034 (by decide)) hZ (wi hw 77 rfl) (wi hw 29 rfl) (by decide) (by decide)) q2050a q2050c (g := (mkF m 219 #[iv p1, iv p2, iv p3, iv (1 : Int32), iv (1 : Int32), iv (1 : Int32), rv a2, rv a1, iv (1 : Int32), iv (0 : Int32), iv (1 : Int32), iv (1 : Int32), iv (1 : Int32), iv (3 : Int32), iv (1 : Int32), uv, uv, uv] [(.ref a1)])) rfl (by rw [hml]; rfl) (Steps.refl _) (argsL := []) (rest := []) (lenOf pd_14 rfl) rfl (by show 2 * 0 + _ ≤ _; exact Nat.le_of_eq rfl) (hb hby at_219) (fun _ _ => ⟨rfl, e2044, (by decide : 15 + 0 ≤ _), (by decide : 70 + 0 ≤ _)⟩)
  dsimp only [Pt.U, Pt.locs, Pt.cells, Pt.slots] at X2050 l2050 y2050 z2050 st2050 hQ2050
  subst l2050 y2050 z2050
  obtain ⟨rfl, N2050q, z2050, C2050⟩ := hQ2050
  have N2050 := Fr.app N2044 N2050q
  rw [(by rfl : own_take [0, 1, 1, 1] [-1, 3, -1, 2] [-1, -1, 3, 1] [0, 1, 0, 0] [1, 0, 0, 0] [0, 1, 0, 0] (2 : Int32) (1 : Int32) = ([0, 2, 1, 1], [-1, -1, -1, 2], [-1, -1, 3, -1], [0, 3, 1, 0], [1, 0, 0, 0], [0, 1, 0, 0], (3 : Int32), (1 : Int32)))] at C2050
  have B2050 : Cb Z T2050.heap n0 a1 a2 bco bnx bpv bfb bpd bip bfi ben [0, 2, 1, 1] [-1, -1, -1, 2] [-1, -1, 3, -1] [0, 3, 1, 0] [1, 0, 0, 0] [0, 1, 0, 0] (3 : Int32) (1 : Int32) := C2050
  refine Rch.to (U' := T2050.setTop (mkF m 222 #[iv p1, iv p2, iv p3, iv (1 : Int32), iv (1 : Int32), iv (1 : Int32), rv a2, rv a1, iv (1 : Int32), iv (0 : Int32), iv (1 : Int32), iv (1 : Int32), iv (1 : Int32), iv (3 : Int32), iv (1 : Int32), uv, uv, uv] [(.int (own_sp [-1, 3, -1, 2] [0, 1, 0, 0] [1, 0, 0, 0] (1 : Int32)))])) st2050 ?_
  rw [(by decide : own_sp [-1, 3, -1, 2] [0, 1, 0, 0] [1, 0, 0, 0] (1 : Int32) = (1 : Int32))]
  refine Rch.go (U' := T2050.setTop (mkF m 224 #[iv p1, iv p2, iv p3, iv (1 : Int32), iv (1 : Int32), iv (1 : Int32), rv a2, rv a1, iv (1 : Int32), iv (0 : Int32), iv (1 : Int32), iv (1 : Int32), iv (1 : Int32), iv (3 : Int32), iv (1 : Int32), iv (1 : Int32), uv, uv] [])) (fun _ k => XS.istore X2050.here hx rfl (hb hby at_222) rfl (l' := #[iv p1, iv p2, iv p3, iv (1 : Int32), iv (1 : Int32), iv (1 : Int32), rv a2, rv a1, iv (1 : Int32), iv (0 : Int32), iv (1 : Int32), iv (1 : Int32), iv (1 : Int32), iv (3 : Int32), iv (1 : Int32), iv (1 : Int32), uv, uv]) rfl k) ?_
  refine Rch.go (U' := T2050.setTop (mkF m 226 #[iv p1, iv p2, iv p3, iv (1 : Int32), iv (1 : Int32), iv (1 : Int32), rv a2, rv a1, iv (1 : Int32), iv (0 : Int32), iv (1 : Int32), iv (1 : Int32), iv (1 : Int32), iv (3 : Int32), iv (1 : Int32), iv (1 : Int32), uv, uv] [(.int (1 : Int32))])) (fun _ k => XS.iload X2050.here hx rfl (hb hby at_224) rfl  k) ?_
  refine Rch.go (U' := T2050.setTop (mkF m 228 #[iv p1, iv p2, iv p3, iv (1 : Int32), iv (1 : Int32), iv (1 : Int32), rv a2, rv a1, iv (1 : Int32), iv (0 : Int32), iv (1 : Int32), iv (1 : Int32), iv (1 : Int32), iv (3 : Int32), iv (1 : Int32), iv (1 : Int32), uv, uv] [(.int (1 : Int32)), (.int (1 : Int32))])) (fun _ k => XS.iload X2050.here hx rfl (hb hby at_226) rfl  k) ?_
  have br2051 : (1 : Int32) = (1 : Int32) := (by decide)
  refine Rch.go (U' := T2050.setTop (mkF m 231 #[iv p1, iv p2, iv p3, iv (1 : Int32), iv (1 : Int32), iv (1 : Int32), rv a2, rv a1, iv (1 : Int32), iv (0 : Int32), iv (1 : Int32), iv (1 : Int32), iv (1 : Int32), iv (3 : Int32), iv (1 : Int32), iv (1 : Int32), uv, uv] [])) (fun _ k => XS.icmpNo X2050.here hx rfl (hb hby at_228) rfl (XT.ii_ne_f br2051) k) ?_
  refine Rch.go (U' := T2050.setTop (mkF m 233 #[iv p1, iv p2, iv p3, iv (1 : Int32), iv (1 : Int32), iv (1 : Int32), rv a2, rv a1, iv (1 : Int32), iv (0 : Int32), iv (1 : Int32), iv (1 : Int32), iv (1 : Int32), iv (3 : Int32), iv (1 : Int32), iv (1 : Int32), uv, uv] [(.ref a1)])) (fun _ k => XS.aload X2050.here hx rfl (hb hby at_231) rfl rfl k) ?_
  obtain ⟨cq2052, kq2052, q2052a, q2052b, q2052c⟩ := isOf hZ rfl B2050.1.1
  obtain ⟨_, _, ⟨T2052, L2052, k2052, n2052⟩, -, X2052, ⟨Lc2052, hQ2052, l2052, y2052, z2052⟩, st2052⟩ := X2050.virtualBack hx (y := yhs) (z := yhs) hown (mvT hZ (wi hw 63 rfl)) (mvT hZ (wi hw 64 rfl)) (notFace_of_selects (args := #[]) (mvT hZ (wi hw 66 rfl))) (mvT hZ (wi hw 66 rfl)) (mvT hZ (wi hw 65 rfl)) (by decide) (backOf (W := 0) (rmHs l Z a0 hw [] a1 a2 bco bnx bpv bfb bpd bip bfi ben [0, 2, 1, 1] [-1, -1, -1, 2] [-1, -1, 3, -1] [0, 3, 1, 0] [1, 0, 0, 0] [0, 1, 0, 0] (3 : Int32) (1 : Int32)  T2050.heap n0 z2050 B2050 ) hZ (wi hw 67 rfl) (wi hw 29 rfl) (by decide) (by decide)) q2052a q2052c (g := (mkF m 233 #[iv p1, iv p2, iv p3, iv (1 : Int32), iv (1 : Int32), iv (1 : Int32), rv a2, rv a1, iv (1 : Int32), iv (0 : Int32), iv (1 : Int32), iv (1 : Int32), iv (1 : Int32), iv (3 : Int32), iv (1 : Int32), iv (1 : Int32), uv, uv] [(.ref a1)])) rfl (by rw [hml]; rfl) (Steps.refl _) (argsL := []) (rest := []) (lenOf pd_15 rfl) rfl (by show 2 * 0 + _ ≤ _; exact Nat.le_of_eq rfl) (hb hby at_233) (fun _ _ => ⟨rfl, rfl, (by decide : 15 + 0 ≤ _), (by decide : 70 + 0 ≤ _)⟩)
  dsimp only [Pt.U, Pt.locs, Pt.cells, Pt.slots] at X2052 l2052 y2052 z2052 st2052 hQ2052
  subst l2052 y2052 z2052
  obtain ⟨rfl, N2052q, e2052⟩ := hQ2052
  have N2052 := Fr.app N2050 N2052q
  refine Rch.to (U' := T2052.setTop (mkF m 236 #[iv p1, iv p2, iv p3, iv (1 : Int32), iv (1 : Int32), iv (1 : Int32), rv a2, rv a1, iv (1 : Int32), iv (0 : Int32), iv (1 : Int32), iv (1 : Int32), iv (1 : Int32), iv (3 : Int32), iv (1 : Int32), iv (1 : Int32), uv, uv] [(.int (own_pos (1 : Int32)))])) st2052 ?_
  rw [(by decide : (own_pos (1 : Int32)) = (1 : Int32))]
  have br2053 : ¬ ((1 : Int32) = (0 : Int32)) := (by decide)
  refine Rch.go (U' := T2052.setTop (mkF m 239 #[iv p1, iv p2, iv p3, iv (1 : Int32), iv (1 : Int32), iv (1 : Int32), rv a2, rv a1, iv (1 : Int32), iv (0 : Int32), iv (1 : Int32), iv (1 : Int32), iv (1 : Int32), iv (3 : Int32), iv (1 : Int32), iv (1 : Int32), uv, uv] [])) (fun _ k => XS.ifNo X2052.here hx rfl (hb hby at_236) rfl (XT.i0_eq_f br2053) k) ?_
  refine Rch.go (U' := T2052.setTop (mkF m 241 #[iv p1, iv p2, iv p3, iv (1 : Int32), iv (1 : Int32), iv (1 : Int32), rv a2, rv a1, iv (1 : Int32), iv (0 : Int32), iv (1 : Int32), iv (1 : Int32), iv (1 : Int32), iv (3 : Int32), iv (1 : Int32), iv (1 : Int32), uv, uv] [(.ref a1)])) (fun _ k => XS.aload X2052.here hx rfl (hb hby at_239) rfl rfl k) ?_
  obtain ⟨cq2054, kq2054, q2054a, q2054b, q2054c⟩ := isOf hZ e2052 B2050.1.1
  obtain ⟨_, _, ⟨T2054, L2054, k2054, n2054⟩, -, X2054, ⟨Lc2054, hQ2054, l2054, y2054, z2054⟩, st2054⟩ := X2052.virtualBack hx (y := yns) (z := yns) hown (mvT hZ (wi hw 68 rfl)) (mvT hZ (wi hw 69 rfl)) (notFace_of_selects (args := #[]) (mvT hZ (wi hw 71 rfl))) (mvT hZ (wi hw 71 rfl)) (mvT hZ (wi hw 70 rfl)) (by decide) (backOf (W := 0) (rmNs l Z a0 hw [] a1 a2 bco bnx bpv bfb bpd bip bfi ben [0, 2, 1, 1] [-1, -1, -1, 2] [-1, -1, 3, -1] [0, 3, 1, 0] [1, 0, 0, 0] [0, 1, 0, 0] (3 : Int32) (1 : Int32)  T2050.heap n0 z2050 B2050 (by decide)) hZ (wi hw 72 rfl) (wi hw 29 rfl) (by decide) (by decide)) q2054a q2054c (g := (mkF m 241 #[iv p1, iv p2, iv p3, iv (1 : Int32), iv (1 : Int32), iv (1 : Int32), rv a2, rv a1, iv (1 : Int32), iv (0 : Int32), iv (1 : Int32), iv (1 : Int32), iv (1 : Int32), iv (3 : Int32), iv (1 : Int32), iv (1 : Int32), uv, uv] [(.ref a1)])) rfl (by rw [hml]; rfl) (Steps.refl _) (argsL := []) (rest := []) (lenOf pd_14 rfl) rfl (by show 2 * 0 + _ ≤ _; exact Nat.le_of_eq rfl) (hb hby at_241) (fun _ _ => ⟨rfl, e2052, (by decide : 15 + 0 ≤ _), (by decide : 70 + 0 ≤ _)⟩)
  dsimp only [Pt.U, Pt.locs, Pt.cells, Pt.slots] at X2054 l2054 y2054 z2054 st2054 hQ2054
  subst l2054 y2054 z2054
  obtain ⟨rfl, N2054q, e2054⟩ := hQ2054
  have N2054 := Fr.app N2052 N2054q
  refine Rch.to (U' := T2054.setTop (mkF m 244 #[iv p1, iv p2, iv p3, iv (1 : Int32), iv (1 : Int32), iv (1 : Int32), rv a2, rv a1, iv (1 : Int32), iv (0 : Int32), iv (1 : Int32), iv (1 : Int32), iv (1 : Int32), iv (3 : Int32), iv (1 : Int32), iv (1 : Int32), uv, uv] [(.int (own_at [1, 0, 0, 0] ((1 : Int32) - (1 : Int32))))])) st2054 ?_
  rw [(by decide : (own_at [1, 0, 0, 0] ((1 : Int32) - (1 : Int32))) = (1 : Int32))]
  refine Rch.go (U' := T2054.setTop (mkF m 246 #[iv p1, iv p2, iv p3, iv (1 : Int32), iv (1 : Int32), iv (1 : Int32), rv a2, rv a1, iv (1 : Int32), iv (0 : Int32), iv (1 : Int32), iv (1 : Int32), iv (1 : Int32), iv (3 : Int32), iv (1 : Int32), iv (1 : Int32), uv, uv] [(.int (1 : Int32)), (.int (1 : Int32))])) (fun _ k => XS.iload X2054.here hx rfl (hb hby at_244) rfl  k) ?_
  have br2055 : (1 : Int32) = (1 : Int32) := (by decide)
  refine Rch.go (U' := T2054.setTop (mkF m 249 #[iv p1, iv p2, iv p3, iv (1 : Int32), iv (1 : Int32), iv (1 : Int32), rv a2, rv a1, iv (1 : Int32), iv (0 : Int32), iv (1 : Int32), iv (1 : Int32), iv (1 : Int32), iv (3 : Int32), iv (1 : Int32), iv (1 : Int32), uv, uv] [])) (fun _ k => XS.icmpNo X2054.here hx rfl (hb hby at_246) rfl (XT.ii_ne_f br2055) k) ?_
  refine Rch.go (U' := T2054.setTop (mkF m 250 #[iv p1, iv p2, iv p3, iv (1 : Int32), iv (1 : Int32), iv (1 : Int32), rv a2, rv a1, iv (1 : Int32), iv (0 : Int32), iv (1 : Int32), iv (1 : Int32), iv (1 : Int32), iv (3 : Int32), iv (1 : Int32), iv (1 : Int32), uv, uv] [(.int (1 : Int32))])) (fun _ k => XS.iconst X2054.here hx rfl (hb hby at_249) k) ?_
  refine Rch.go (U' := T2054.setTop (mkF m 254 #[iv p1, iv p2, iv p3, iv (1 : Int32), iv (1 : Int32), iv (1 : Int32), rv a2, rv a1, iv (1 : Int32), iv (0 : Int32), iv (1 : Int32), iv (1 : Int32), iv (1 : Int32), iv (3 : Int32), iv (1 : Int32), iv (1 : Int32), uv, uv] [(.int (1 : Int32))])) (fun _ k => XS.goto X2054.here hx rfl (pc0 := 250) (pc' := 254) rfl (hb hby at_250) (by decide) (by decide) k) ?_
  refine Rch.fin X2054 hlk (v := some (.int (nar .boolean (1 : Int32)))) (fun h => by rw [hret] at h; cases h) e2054 (by decide) (by decide) (fun fs hr => retN X2054 hx (t := .boolean) hret (by simp) (hb hby at_254) hr) ?_
  exact ⟨rfl, N2054⟩
set_option maxRecDepth 65536 in
set_option maxHeartbeats 40000000 in
theorem cut54_112 {p : Program} {l : Launch} {e : Env} {s : State} {m : MethodId} {args : Array Value} {below : List Frame} {meth : Method} {c : Code} {T0 : State} {locs : List Loc} {Z : State} {a0 : Array Value} {h0 : Heap} {n0 : Nat}  (p1 : Int32) (p2 : Int32) (p3 : Int32) (a1 : Addr) (a2 : Addr) (bco : Addr) (bnx : Addr) (bpv : Addr) (bfb : Addr) (bpd : Addr) (bip : Addr) (bfi : Addr) (ben : Addr)
    (X0 : Stand p l e room_1 s m args below meth c T0 locs 15 70) (hx : p.tables.exec = Jvm.exec) (hZ : Z.Warmed39 s.vm) (hw : ∀ d ∈ tables_1, d.before a0 Z = true) (hby : c.code = code) (hml : c.maxLocals = 18) (hown : s.vm.findClass cLW = some m.cls) (hret : meth.sig.returnType = some .boolean) (hlk : meth.locks = false) (e0 : T0.heap = h0) (N0 : Fr n0 locs) (Z0 : n0 ≤ h0.size) (B : Cb Z h0 n0 a1 a2 bco bnx bpv bfb bpd bip bfi ben [0, 0, 0, 0] [1, -1, 0, 0] [-1, 0, 0, 0] [0, 0, 0, 0] [0, 0, 0, 0] [1, 0, 0, 0] (1 : Int32) (1 : Int32)) :
    Rch p e below (Fin s below (fun v h L => v = some (.int 1) ∧ Fr n0 L) 40 256) (T0.setTop (mkF m 54 #[iv p1, iv p2, iv p3, iv (1 : Int32), iv (1 : Int32), iv (2 : Int32), rv a2, rv a1, uv, uv, uv, uv, uv, uv, uv, uv, uv, uv] [])) := by
  refine Rch.go (U' := T0.setTop (mkF m 55 #[iv p1, iv p2, iv p3, iv (1 : Int32), iv (1 : Int32), iv (2 : Int32), rv a2, rv a1, uv, uv, uv, uv, uv, uv, uv, uv, uv, uv] [(.int (1 : Int32))])) (fun _ k => XS.iloadN X0.here hx rfl (hb hby at_54) rfl  k) ?_
  have br2056 : ¬ ((1 : Int32) = (0 : Int32)) := (by decide)
  refine Rch.go (U' := T0.setTop (mkF m 58 #[iv p1, iv p2, iv p3, iv (1 : Int32), iv (1 : Int32), iv (2 : Int32), rv a2, rv a1, uv, uv, uv, uv, uv, uv, uv, uv, uv, uv] [])) (fun _ k => XS.ifNo X0.here hx rfl (hb hby at_55) rfl (XT.i0_eq_f br2056) k) ?_
  refine Rch.go (U' := T0.setTop (mkF m 60 #[iv p1, iv p2, iv p3, iv (1 : Int32), iv (1 : Int32), iv (2 : Int32), rv a2, rv a1, uv, uv, uv, uv, uv, uv, uv, uv, uv, uv] [(.ref a1)])) (fun _ k => XS.aload X0.here hx rfl (hb hby at_58) rfl rfl k) ?_
  obtain ⟨cq2057, kq2057, q2057a, q2057b, q2057c⟩ := isOf hZ e0 B.1.1
  obtain ⟨_, _, ⟨T2057, L2057, k2057, n2057⟩, -, X2057, ⟨Lc2057, hQ2057, l2057, y2057, z2057⟩, st2057⟩ := X0.virtualBack hx (y := yt) (z := yt) hown (mvT hZ (wi hw 73 rfl)) (mvT hZ (wi hw 74 rfl)) (notFace_of_selects (args := #[]) (mvT hZ (wi hw 76 rfl))) (mvT hZ (wi hw 76 rfl)) (mvT hZ (wi hw 75 rfl)) (by decide) (backOf (W := 0) (rmT l Z a0 hw [] a1 a2 bco bnx bpv bfb bpd bip bfi ben [0, 0, 0, 0] [1, -1, 0, 0] [-1, 0, 0, 0] [0, 0, 0, 0] [0, 0, 0, 0] [1, 0, 0, 0] (1 : Int32) (1 : Int32) h0 n0 Z0 B (by decide)) hZ (wi hw 77 rfl) (wi hw 29 rfl) (by decide) (by decide)) q2057a q2057c (g := (mkF m 60 #[iv p1, iv p2, iv p3, iv (1 : Int32), iv (1 : Int32), iv (2 : Int32), rv a2, rv a1, uv, uv, uv, uv, uv, uv, uv, uv, uv, uv] [(.ref a1)])) rfl (by rw [hml]; rfl) (Steps.refl _) (argsL := []) (rest := []) (lenOf pd_14 rfl) rfl (by show 2 * 0 + _ ≤ _; exact Nat.le_of_eq rfl) (hb hby at_60) (fun _ _ => ⟨rfl, e0, (by decide : 15 + 0 ≤ _), (by decide : 70 + 0 ≤ _)⟩)
  dsimp only [Pt.U, Pt.locs, Pt.cells, Pt.slots] at X2057 l2057 y2057 z2057 st2057 hQ2057
  subst l2057 y2057 z2057
  obtain ⟨rfl, N2057q, z2057, C2057⟩ := hQ2057
  have N2057 := Fr.app N0 N2057q
  rw [(by rfl : own_take [0, 0, 0, 0] [1, -1, 0, 0] [-1, 0, 0, 0] [0, 0, 0, 0] [0, 0, 0, 0] [1, 0, 0, 0] (1 : Int32) (1 : Int32) = ([0, 1, 0, 0], [-1, -1, 0, 0], [-1, -1, 0, 0], [0, 1, 0, 0], [0, 0, 0, 0], [0, 0, 0, 0], (2 : Int32), (0 : Int32)))] at C2057
  have B2057 : Cb Z T2057.heap n0 a1 a2 bco bnx bpv bfb bpd bip bfi ben [0, 1, 0, 0] [-1, -1, 0, 0] [-1, -1, 0, 0] [0, 1, 0, 0] [0, 0, 0, 0] [0, 0, 0, 0] (2 : Int32) (0 : Int32) := C2057
  refine Rch.to (U' := T2057.setTop (mkF m 63 #[iv p1, iv p2, iv p3, iv (1 : Int32), iv (1 : Int32), iv (2 : Int32), rv a2, rv a1, uv, uv, uv, uv, uv, uv, uv, uv, uv, uv] [(.int (own_sp [1, -1, 0, 0] [0, 0, 0, 0] [0, 0, 0, 0] (1 : Int32)))])) st2057 ?_
  rw [(by decide : own_sp [1, -1, 0, 0] [0, 0, 0, 0] [0, 0, 0, 0] (1 : Int32) = (1 : Int32))]
  refine Rch.go (U' := T2057.setTop (mkF m 65 #[iv p1, iv p2, iv p3, iv (1 : Int32), iv (1 : Int32), iv (2 : Int32), rv a2, rv a1, iv (1 : Int32), uv, uv, uv, uv, uv, uv, uv, uv, uv] [])) (fun _ k => XS.istore X2057.here hx rfl (hb hby at_63) rfl (l' := #[iv p1, iv p2, iv p3, iv (1 : Int32), iv (1 : Int32), iv (2 : Int32), rv a2, rv a1, iv (1 : Int32), uv, uv, uv, uv, uv, uv, uv, uv, uv]) rfl k) ?_
  refine Rch.go (U' := T2057.setTop (mkF m 67 #[iv p1, iv p2, iv p3, iv (1 : Int32), iv (1 : Int32), iv (2 : Int32), rv a2, rv a1, iv (1 : Int32), uv, uv, uv, uv, uv, uv, uv, uv, uv] [(.ref a1)])) (fun _ k => XS.aload X2057.here hx rfl (hb hby at_65) rfl rfl k) ?_
  obtain ⟨cq2058, kq2058, q2058a, q2058b, q2058c⟩ := isOf hZ rfl B2057.1.1
  obtain ⟨_, _, ⟨T2058, L2058, k2058, n2058⟩, -, X2058, ⟨Lc2058, hQ2058, l2058, y2058, z2058⟩, st2058⟩ := X2057.virtualBack hx (y := yhs) (z := yhs) hown (mvT hZ (wi hw 63 rfl)) (mvT hZ (wi hw 64 rfl)) (notFace_of_selects (args := #[]) (mvT hZ (wi hw 66 rfl))) (mvT hZ (wi hw 66 rfl)) (mvT hZ (wi hw 65 rfl)) (by decide) (backOf (W := 0) (rmHs l Z a0 hw [] a1 a2 bco bnx bpv bfb bpd bip bfi ben [0, 1, 0, 0] [-1, -1, 0, 0] [-1, -1, 0, 0] [0, 1, 0, 0] [0, 0, 0, 0] [0, 0, 0, 0] (2 : Int32) (0 : Int32)  T2057.heap n0 z2057 B2057 ) hZ (wi hw 67 rfl) (wi hw 29 rfl) (by decide) (by decide)) q2058a q2058c (g := (mkF m 67 #[iv p1, iv p2, iv p3, iv (1 : Int32), iv (1 : Int32), iv (2 : Int32), rv a2, rv a1, iv (1 : Int32), uv, uv, uv, uv, uv, uv, uv, uv, uv] [(.ref a1)])) rfl (by rw [hml]; rfl) (Steps.refl _) (argsL := []) (rest := []) (lenOf pd_15 rfl) rfl (by show 2 * 0 + _ ≤ _; exact Nat.le_of_eq rfl) (hb hby at_67) (fun _ _ => ⟨rfl, rfl, (by decide : 15 + 0 ≤ _), (by decide : 70 + 0 ≤ _)⟩)
  dsimp only [Pt.U, Pt.locs, Pt.cells, Pt.slots] at X2058 l2058 y2058 z2058 st2058 hQ2058
  subst l2058 y2058 z2058
  obtain ⟨rfl, N2058q, e2058⟩ := hQ2058
  have N2058 := Fr.app N2057 N2058q
  refine Rch.to (U' := T2058.setTop (mkF m 70 #[iv p1, iv p2, iv p3, iv (1 : Int32), iv (1 : Int32), iv (2 : Int32), rv a2, rv a1, iv (1 : Int32), uv, uv, uv, uv, uv, uv, uv, uv, uv] [(.int (own_pos (0 : Int32)))])) st2058 ?_
  rw [(by decide : (own_pos (0 : Int32)) = (0 : Int32))]
  refine Rch.go (U' := T2058.setTop (mkF m 72 #[iv p1, iv p2, iv p3, iv (1 : Int32), iv (1 : Int32), iv (2 : Int32), rv a2, rv a1, iv (1 : Int32), iv (0 : Int32), uv, uv, uv, uv, uv, uv, uv, uv] [])) (fun _ k => XS.istore X2058.here hx rfl (hb hby at_70) rfl (l' := #[iv p1, iv p2, iv p3, iv (1 : Int32), iv (1 : Int32), iv (2 : Int32), rv a2, rv a1, iv (1 : Int32), iv (0 : Int32), uv, uv, uv, uv, uv, uv, uv, uv]) rfl k) ?_
  refine Rch.go (U' := T2058.setTop (mkF m 74 #[iv p1, iv p2, iv p3, iv (1 : Int32), iv (1 : Int32), iv (2 : Int32), rv a2, rv a1, iv (1 : Int32), iv (0 : Int32), uv, uv, uv, uv, uv, uv, uv, uv] [(.ref a1)])) (fun _ k => XS.aload X2058.here hx rfl (hb hby at_72) rfl rfl k) ?_
  refine Rch.go (U' := T2058.setTop (mkF m 76 #[iv p1, iv p2, iv p3, iv (1 : Int32), iv (1 : Int32), iv (2 : Int32), rv a2, rv a1, iv (1 : Int32), iv (0 : Int32), uv, uv, uv, uv, uv, uv, uv, uv] [(.int (1 : Int32)), (.ref a1)])) (fun _ k => XS.iload X2058.here hx rfl (hb hby at_74) rfl  k) ?_
  refine Rch.go (U' := T2058.setTop (mkF m 77 #[iv p1, iv p2, iv p3, iv (1 : Int32), iv (1 : Int32), iv (2 : Int32), rv a2, rv a1, iv (1 : Int32), iv (0 : Int32), uv, uv, uv, uv, uv, uv, uv, uv] [(.int (2 : Int32)), (.int (1 : Int32)), (.ref a1)])) (fun _ k => XS.iconst X2058.here hx rfl (hb hby at_76) k) ?_
  obtain ⟨cq2059, kq2059, q2059a, q2059b, q2059c⟩ := isOf hZ e2058 B2057.1.1
  obtain ⟨_, _, ⟨T2059, L2059, k2059, n2059⟩, -, X2059, ⟨Lc2059, hQ2059, l2059, y2059, z2059⟩, st2059⟩ := X2058.virtualBack hx (y := yj) (z := yj) hown (mvT hZ (wi hw 51 rfl)) (mvT hZ (wi hw 52 rfl)) (notFace_of_selects (args := #[]) (mvT hZ (wi hw 54 rfl))) (mvT hZ (wi hw 54 rfl)) (mvT hZ (wi hw 53 rfl)) (by decide) (backOf (W := 0) (rmJ l Z a0 hw [] a1 a2 bco bnx bpv bfb bpd bip bfi ben [0, 1, 0, 0] [-1, -1, 0, 0] [-1, -1, 0, 0] [0, 1, 0, 0] [0, 0, 0, 0] [0, 0, 0, 0] (2 : Int32) (0 : Int32) (1 : Int32) (2 : Int32) T2057.heap n0 z2057 B2057 (by decide)) hZ (wi hw 55 rfl) (wi hw 29 rfl) (by decide) (by decide)) q2059a q2059c (g := (mkF m 77 #[iv p1, iv p2, iv p3, iv (1 : Int32), iv (1 : Int32), iv (2 : Int32), rv a2, rv a1, iv (1 : Int32), iv (0 : Int32), uv, uv, uv, uv, uv, uv, uv, uv] [(.int (2 : Int32)), (.int (1 : Int32)), (.ref a1)])) rfl (by rw [hml]; rfl) (Steps.refl _) (argsL := [(.int (1 : Int32)), (.int (2 : Int32))]) (rest := []) (lenOf pd_8 rfl) rfl (by show 2 * 0 + _ ≤ _; exact Nat.le_of_eq rfl) (hb hby at_77) (fun _ _ => ⟨rfl, e2058, (by decide : 15 + 0 ≤ _), (by decide : 70 + 0 ≤ _)⟩)
  dsimp only [Pt.U, Pt.locs, Pt.cells, Pt.slots] at X2059 l2059 y2059 z2059 st2059 hQ2059
  subst l2059 y2059 z2059
  obtain ⟨rfl, N2059q, z2059, C2059⟩ := hQ2059
  have N2059 := Fr.app N2058 N2059q
  rw [(by rfl : own_join [0, 1, 0, 0] [-1, -1, 0, 0] [-1, -1, 0, 0] [0, 1, 0, 0] [0, 0, 0, 0] [0, 0, 0, 0] (2 : Int32) (0 : Int32) (1 : Int32) (2 : Int32) = ([0, 1, 1, 0], [-1, 2, -1, 0], [-1, -1, 1, 0], [0, 1, 0, 0], [1, 0, 0, 0], [0, 1, 0, 0], (2 : Int32), (1 : Int32)))] at C2059
  have B2059 : Cb Z T2059.heap n0 a1 a2 bco bnx bpv bfb bpd bip bfi ben [0, 1, 1, 0] [-1, 2, -1, 0] [-1, -1, 1, 0] [0, 1, 0, 0] [1, 0, 0, 0] [0, 1, 0, 0] (2 : Int32) (1 : Int32) := C2059
  refine Rch.to (U' := T2059.setTop (mkF m 80 #[iv p1, iv p2, iv p3, iv (1 : Int32), iv (1 : Int32), iv (2 : Int32), rv a2, rv a1, iv (1 : Int32), iv (0 : Int32), uv, uv, uv, uv, uv, uv, uv, uv] [])) st2059 ?_
  refine Rch.go (U' := T2059.setTop (mkF m 82 #[iv p1, iv p2, iv p3, iv (1 : Int32), iv (1 : Int32), iv (2 : Int32), rv a2, rv a1, iv (1 : Int32), iv (0 : Int32), uv, uv, uv, uv, uv, uv, uv, uv] [(.ref a1)])) (fun _ k => XS.aload X2059.here hx rfl (hb hby at_80) rfl rfl k) ?_
  refine Rch.go (U' := T2059.setTop (mkF m 84 #[iv p1, iv p2, iv p3, iv (1 : Int32), iv (1 : Int32), iv (2 : Int32), rv a2, rv a1, iv (1 : Int32), iv (0 : Int32), uv, uv, uv, uv, uv, uv, uv, uv] [(.int (2 : Int32)), (.ref a1)])) (fun _ k => XS.iload X2059.here hx rfl (hb hby at_82) rfl  k) ?_
  refine Rch.go (U' := T2059.setTop (mkF m 85 #[iv p1, iv p2, iv p3, iv (1 : Int32), iv (1 : Int32), iv (2 : Int32), rv a2, rv a1, iv (1 : Int32), iv (0 : Int32), uv, uv, uv, uv, uv, uv, uv, uv] [(.int (3 : Int32)), (.int (2 : Int32)), (.ref a1)])) (fun _ k => XS.iconst X2059.here hx rfl (hb hby at_84) k) ?_
  obtain ⟨cq2060, kq2060, q2060a, q2060b, q2060c⟩ := isOf hZ rfl B2059.1.1
  obtain ⟨_, _, ⟨T2060, L2060, k2060, n2060⟩, -, X2060, ⟨Lc2060, hQ2060, l2060, y2060, z2060⟩, st2060⟩ := X2059.virtualBack hx (y := yj) (z := yj) hown (mvT hZ (wi hw 51 rfl)) (mvT hZ (wi hw 52 rfl)) (notFace_of_selects (args := #[]) (mvT hZ (wi hw 54 rfl))) (mvT hZ (wi hw 54 rfl)) (mvT hZ (wi hw 53 rfl)) (by decide) (backOf (W := 0) (rmJ l Z a0 hw [] a1 a2 bco bnx bpv bfb bpd bip bfi ben [0, 1, 1, 0] [-1, 2, -1, 0] [-1, -1, 1, 0] [0, 1, 0, 0] [1, 0, 0, 0] [0, 1, 0, 0] (2 : Int32) (1 : Int32) (2 : Int32) (3 : Int32) T2059.heap n0 z2059 B2059 (by decide)) hZ (wi hw 55 rfl) (wi hw 29 rfl) (by decide) (by decide)) q2060a q2060c (g := (mkF m 85 #[iv p1, iv p2, iv p3, iv (1 : Int32), iv (1 : Int32), iv (2 : Int32), rv a2, rv a1, iv (1 : Int32), iv (0 : Int32), uv, uv, uv, uv, uv, uv, uv, uv] [(.int (3 : Int32)), (.int (2 : Int32)), (.ref a1)])) rfl (by rw [hml]; rfl) (Steps.refl _) (argsL := [(.int (2 : Int32)), (.int (3 : Int32))]) (rest := []) (lenOf pd_8 rfl) rfl (by show 2 * 0 + _ ≤ _; exact Nat.le_of_eq rfl) (hb hby at_85) (fun _ _ => ⟨rfl, rfl, (by decide : 15 + 0 ≤ _), (by decide : 70 + 0 ≤ _)⟩)
  dsimp only [Pt.U, Pt.locs, Pt.cells, Pt.slots] at X2060 l2060 y2060 z2060 st2060 hQ2060
  subst l2060 y2060 z2060
  obtain ⟨rfl, N2060q, z2060, C2060⟩ := hQ2060
  have N2060 := Fr.app N2059 N2060q
  rw [(by rfl : own_join [0, 1, 1, 0] [-1, 2, -1, 0] [-1, -1, 1, 0] [0, 1, 0, 0] [1, 0, 0, 0] [0, 1, 0, 0] (2 : Int32) (1 : Int32) (2 : Int32) (3 : Int32) = ([0, 1, 1, 1], [-1, 2, 3, -1], [-1, -1, 1, 2], [0, 1, 0, 0], [1, 0, 0, 0], [0, 1, 0, 0], (2 : Int32), (1 : Int32)))] at C2060
  have B2060 : Cb Z T2060.heap n0 a1 a2 bco bnx bpv bfb bpd bip bfi ben [0, 1, 1, 1] [-1, 2, 3, -1] [-1, -1, 1, 2] [0, 1, 0, 0] [1, 0, 0, 0] [0, 1, 0, 0] (2 : Int32) (1 : Int32) := C2060
  refine Rch.to (U' := T2060.setTop (mkF m 88 #[iv p1, iv p2, iv p3, iv (1 : Int32), iv (1 : Int32), iv (2 : Int32), rv a2, rv a1, iv (1 : Int32), iv (0 : Int32), uv, uv, uv, uv, uv, uv, uv, uv] [])) st2060 ?_
  refine Rch.go (U' := T2060.setTop (mkF m 90 #[iv p1, iv p2, iv p3, iv (1 : Int32), iv (1 : Int32), iv (2 : Int32), rv a2, rv a1, iv (1 : Int32), iv (0 : Int32), uv, uv, uv, uv, uv, uv, uv, uv] [(.int (2 : Int32))])) (fun _ k => XS.iload X2060.here hx rfl (hb hby at_88) rfl  k) ?_
  refine Rch.go (U' := T2060.setTop (mkF m 91 #[iv p1, iv p2, iv p3, iv (1 : Int32), iv (1 : Int32), iv (2 : Int32), rv a2, rv a1, iv (1 : Int32), iv (0 : Int32), uv, uv, uv, uv, uv, uv, uv, uv] [(.int (2 : Int32)), (.int (2 : Int32))])) (fun _ k => XS.iconst X2060.here hx rfl (hb hby at_90) k) ?_
  have br2061 : (2 : Int32) = (2 : Int32) := (by decide)
  refine Rch.go (U' := T2060.setTop (mkF m 94 #[iv p1, iv p2, iv p3, iv (1 : Int32), iv (1 : Int32), iv (2 : Int32), rv a2, rv a1, iv (1 : Int32), iv (0 : Int32), uv, uv, uv, uv, uv, uv, uv, uv] [])) (fun _ k => XS.icmpNo X2060.here hx rfl (hb hby at_91) rfl (XT.ii_ne_f br2061) k) ?_
  refine Rch.go (U' := T2060.setTop (mkF m 96 #[iv p1, iv p2, iv p3, iv (1 : Int32), iv (1 : Int32), iv (2 : Int32), rv a2, rv a1, iv (1 : Int32), iv (0 : Int32), uv, uv, uv, uv, uv, uv, uv, uv] [(.int (1 : Int32))])) (fun _ k => XS.iload X2060.here hx rfl (hb hby at_94) rfl  k) ?_
  refine Rch.go (U' := T2060.setTop (mkF m 101 #[iv p1, iv p2, iv p3, iv (1 : Int32), iv (1 : Int32), iv (2 : Int32), rv a2, rv a1, iv (1 : Int32), iv (0 : Int32), uv, uv, uv, uv, uv, uv, uv, uv] [(.int (1 : Int32))])) (fun _ k => XS.goto X2060.here hx rfl (pc0 := 96) (pc' := 101) rfl (hb hby at_96) (by decide) (by decide) k) ?_
  refine Rch.go (U' := T2060.setTop (mkF m 103 #[iv p1, iv p2, iv p3, iv (1 : Int32), iv (1 : Int32), iv (2 : Int32), rv a2, rv a1, iv (1 : Int32), iv (0 : Int32), iv (1 : Int32), uv, uv, uv, uv, uv, uv, uv] [])) (fun _ k => XS.istore X2060.here hx rfl (hb hby at_101) rfl (l' := #[iv p1, iv p2, iv p3, iv (1 : Int32), iv (1 : Int32), iv (2 : Int32), rv a2, rv a1, iv (1 : Int32), iv (0 : Int32), iv (1 : Int32), uv, uv, uv, uv, uv, uv, uv]) rfl k) ?_
  refine Rch.go (U' := T2060.setTop (mkF m 105 #[iv p1, iv p2, iv p3, iv (1 : Int32), iv (1 : Int32), iv (2 : Int32), rv a2, rv a1, iv (1 : Int32), iv (0 : Int32), iv (1 : Int32), uv, uv, uv, uv, uv, uv, uv] [(.int (1 : Int32))])) (fun _ k => XS.iload X2060.here hx rfl (hb hby at_103) rfl  k) ?_
  refine Rch.go (U' := T2060.setTop (mkF m 106 #[iv p1, iv p2, iv p3, iv (1 : Int32), iv (1 : Int32), iv (2 : Int32), rv a2, rv a1, iv (1 : Int32), iv (0 : Int32), iv (1 : Int32), uv, uv, uv, uv, uv, uv, uv] [(.int (1 : Int32)), (.int (1 : Int32))])) (fun _ k => XS.iconst X2060.here hx rfl (hb hby at_105) k) ?_
  have br2062 : (1 : Int32) = (1 : Int32) := (by decide)
  refine Rch.go (U' := T2060.setTop (mkF m 109 #[iv p1, iv p2, iv p3, iv (1 : Int32), iv (1 : Int32), iv (2 : Int32), rv a2, rv a1, iv (1 : Int32), iv (0 : Int32), iv (1 : Int32), uv, uv, uv, uv, uv, uv, uv] [])) (fun _ k => XS.icmpNo X2060.here hx rfl (hb hby at_106) rfl (XT.ii_ne_f br2062) k) ?_
  refine Rch.go (U' := T2060.setTop (mkF m 111 #[iv p1, iv p2, iv p3, iv (1 : Int32), iv (1 : Int32), iv (2 : Int32), rv a2, rv a1, iv (1 : Int32), iv (0 : Int32), iv (1 : Int32), uv, uv, uv, uv, uv, uv, uv] [(.int (0 : Int32))])) (fun _ k => XS.iload X2060.here hx rfl (hb hby at_109) rfl  k) ?_
  have br2063 : (0 : Int32) = (0 : Int32) := (by decide)
  refine Rch.go (U' := T2060.setTop (mkF m 114 #[iv p1, iv p2, iv p3, iv (1 : Int32), iv (1 : Int32), iv (2 : Int32), rv a2, rv a1, iv (1 : Int32), iv (0 : Int32), iv (1 : Int32), uv, uv, uv, uv, uv, uv, uv] [])) (fun _ k => XS.ifNo X2060.here hx rfl (hb hby at_111) rfl (XT.i0_ne_f br2063) k) ?_
  refine Rch.go (U' := T2060.setTop (mkF m 116 #[iv p1, iv p2, iv p3, iv (1 : Int32), iv (1 : Int32), iv (2 : Int32), rv a2, rv a1, iv (1 : Int32), iv (0 : Int32), iv (1 : Int32), uv, uv, uv, uv, uv, uv, uv] [(.ref a1)])) (fun _ k => XS.aload X2060.here hx rfl (hb hby at_114) rfl rfl k) ?_
  refine Rch.go (U' := T2060.setTop (mkF m 117 #[iv p1, iv p2, iv p3, iv (1 : Int32), iv (1 : Int32), iv (2 : Int32), rv a2, rv a1, iv (1 : Int32), iv (0 : Int32), iv (1 : Int32), uv, uv, uv, uv, uv, uv, uv] [(.int (2 : Int32)), (.ref a1)])) (fun _ k => XS.iconst X2060.here hx rfl (hb hby at_116) k) ?_
  obtain ⟨cq2064, kq2064, q2064a, q2064b, q2064c⟩ := isOf hZ rfl B2060.1.1
  obtain ⟨_, _, ⟨T2064, L2064, k2064, n2064⟩, -, X2064, ⟨Lc2064, hQ2064, l2064, y2064, z2064⟩, st2064⟩ := X2060.virtualBack hx (y := yc) (z := yc) hown (mvT hZ (wi hw 58 rfl)) (mvT hZ (wi hw 59 rfl)) (notFace_of_selects (args := #[]) (mvT hZ (wi hw 61 rfl))) (mvT hZ (wi hw 61 rfl)) (mvT hZ (wi hw 60 rfl)) (by decide) (backOf (W := 0) (rmCo l Z a0 hw [] a1 a2 bco bnx bpv bfb bpd bip bfi ben [0, 1, 1, 1] [-1, 2, 3, -1] [-1, -1, 1, 2] [0, 1, 0, 0] [1, 0, 0, 0] [0, 1, 0, 0] (2 : Int32) (1 : Int32) (2 : Int32) T2060.heap n0 z2060 B2060 (by decide)) hZ (wi hw 62 rfl) (wi hw 29 rfl) (by decide) (by decide)) q2064a q2064c (g := (mkF m 117 #[iv p1, iv p2, iv p3, iv (1 : Int32), iv (1 : Int32), iv (2 : Int32), rv a2, rv a1, iv (1 : Int32), iv (0 : Int32), iv (1 : Int32), uv, uv, uv, uv, uv, uv, uv] [(.int (2 : Int32)), (.ref a1)])) rfl (by rw [hml]; rfl) (Steps.refl _) (argsL := [(.int (2 : Int32))]) (rest := []) (lenOf pd_7 rfl) rfl (by show 2 * 0 + _ ≤ _; exact Nat.le_of_eq rfl) (hb hby at_117) (fun _ _ => ⟨rfl, rfl, (by decide : 15 + 0 ≤ _), (by decide : 70 + 0 ≤ _)⟩)
  dsimp only [Pt.U, Pt.locs, Pt.cells, Pt.slots] at X2064 l2064 y2064 z2064 st2064 hQ2064
  subst l2064 y2064 z2064
  obtain ⟨rfl, N2064q, e2064⟩ := hQ2064
  have N2064 := Fr.app N2060 N2064q
  refine Rch.to (U' := T2064.setTop (mkF m 120 #[iv p1, iv p2, iv p3, iv (1 : Int32), iv (1 : Int32), iv (2 : Int32), rv a2, rv a1, iv (1 : Int32), iv (0 : Int32), iv (1 : Int32), uv, uv, uv, uv, uv, uv, uv] [(.int (own_at [0, 1, 1, 1] (2 : Int32)))])) st2064 ?_
  rw [(by decide : (own_at [0, 1, 1, 1] (2 : Int32)) = (1 : Int32))]
  refine Rch.go (U' := T2064.setTop (mkF m 122 #[iv p1, iv p2, iv p3, iv (1 : Int32), iv (1 : Int32), iv (2 : Int32), rv a2, rv a1, iv (1 : Int32), iv (0 : Int32), iv (1 : Int32), uv, uv, uv, uv, uv, uv, uv] [(.int (1 : Int32)), (.int (1 : Int32))])) (fun _ k => XS.iload X2064.here hx rfl (hb hby at_120) rfl  k) ?_
  have br2065 : (1 : Int32) = (1 : Int32) := (by decide)
  refine Rch.go (U' := T2064.setTop (mkF m 125 #[iv p1, iv p2, iv p3, iv (1 : Int32), iv (1 : Int32), iv (2 : Int32), rv a2, rv a1, iv (1 : Int32), iv (0 : Int32), iv (1 : Int32), uv, uv, uv, uv, uv, uv, uv] [])) (fun _ k => XS.icmpNo X2064.here hx rfl (hb hby at_122) rfl (XT.ii_ne_f br2065) k) ?_
  refine Rch.go (U' := T2064.setTop (mkF m 127 #[iv p1, iv p2, iv p3, iv (1 : Int32), iv (1 : Int32), iv (2 : Int32), rv a2, rv a1, iv (1 : Int32), iv (0 : Int32), iv (1 : Int32), uv, uv, uv, uv, uv, uv, uv] [(.ref a1)])) (fun _ k => XS.aload X2064.here hx rfl (hb hby at_125) rfl rfl k) ?_
  refine Rch.go (U' := T2064.setTop (mkF m 128 #[iv p1, iv p2, iv p3, iv (1 : Int32), iv (1 : Int32), iv (2 : Int32), rv a2, rv a1, iv (1 : Int32), iv (0 : Int32), iv (1 : Int32), uv, uv, uv, uv, uv, uv, uv] [(.int (3 : Int32)), (.ref a1)])) (fun _ k => XS.iconst X2064.here hx rfl (hb hby at_127) k) ?_
  obtain ⟨cq2066, kq2066, q2066a, q2066b, q2066c⟩ := isOf hZ e2064 B2060.1.1
  obtain ⟨_, _, ⟨T2066, L2066, k2066, n2066⟩, -, X2066, ⟨Lc2066, hQ2066, l2066, y2066, z2066⟩, st2066⟩ := X2064.virtualBack hx (y := yc) (z := yc) hown (mvT hZ (wi hw 58 rfl)) (mvT hZ (wi hw 59 rfl)) (notFace_of_selects (args := #[]) (mvT hZ (wi hw 61 rfl))) (mvT hZ (wi hw 61 rfl)) (mvT hZ (wi hw 60 rfl)) (by decide) (backOf (W := 0) (rmCo l Z a0 hw [] a1 a2 bco bnx bpv bfb bpd bip bfi ben [0, 1, 1, 1] [-1, 2, 3, -1] [-1, -1, 1, 2] [0, 1, 0, 0] [1, 0, 0, 0] [0, 1, 0, 0] (2 : Int32) (1 : Int32) (3 : Int32) T2060.heap n0 z2060 B2060 (by decide)) hZ (wi hw 62 rfl) (wi hw 29 rfl) (by decide) (by decide)) q2066a q2066c (g := (mkF m 128 #[iv p1, iv p2, iv p3, iv (1 : Int32), iv (1 : Int32), iv (2 : Int32), rv a2, rv a1, iv (1 : Int32), iv (0 : Int32), iv (1 : Int32), uv, uv, uv, uv, uv, uv, uv] [(.int (3 : Int32)), (.ref a1)])) rfl (by rw [hml]; rfl) (Steps.refl _) (argsL := [(.int (3 : Int32))]) (rest := []) (lenOf pd_7 rfl) rfl (by show 2 * 0 + _ ≤ _; exact Nat.le_of_eq rfl) (hb hby at_128) (fun _ _ => ⟨rfl, e2064, (by decide : 15 + 0 ≤ _), (by decide : 70 + 0 ≤ _)⟩)
  dsimp only [Pt.U, Pt.locs, Pt.cells, Pt.slots] at X2066 l2066 y2066 z2066 st2066 hQ2066
  subst l2066 y2066 z2066
  obtain ⟨rfl, N2066q, e2066⟩ := hQ2066
  have N2066 := Fr.app N2064 N2066q
  refine Rch.to (U' := T2066.setTop (mkF m 131 #[iv p1, iv p2, iv p3, iv (1 : Int32), iv (1 : Int32), iv (2 : Int32), rv a2, rv a1, iv (1 : Int32), iv (0 : Int32), iv (1 : Int32), uv, uv, uv, uv, uv, uv, uv] [(.int (own_at [0, 1, 1, 1] (3 : Int32)))])) st2066 ?_
  rw [(by decide : (own_at [0, 1, 1, 1] (3 : Int32)) = (1 : Int32))]
  refine Rch.go (U' := T2066.setTop (mkF m 133 #[iv p1, iv p2, iv p3, iv (1 : Int32), iv (1 : Int32), iv (2 : Int32), rv a2, rv a1, iv (1 : Int32), iv (0 : Int32), iv (1 : Int32), uv, uv, uv, uv, uv, uv, uv] [(.int (1 : Int32)), (.int (1 : Int32))])) (fun _ k => XS.iload X2066.here hx rfl (hb hby at_131) rfl  k) ?_
  have br2067 : (1 : Int32) = (1 : Int32) := (by decide)
  refine Rch.go (U' := T2066.setTop (mkF m 136 #[iv p1, iv p2, iv p3, iv (1 : Int32), iv (1 : Int32), iv (2 : Int32), rv a2, rv a1, iv (1 : Int32), iv (0 : Int32), iv (1 : Int32), uv, uv, uv, uv, uv, uv, uv] [])) (fun _ k => XS.icmpNo X2066.here hx rfl (hb hby at_133) rfl (XT.ii_ne_f br2067) k) ?_
  refine Rch.go (U' := T2066.setTop (mkF m 138 #[iv p1, iv p2, iv p3, iv (1 : Int32), iv (1 : Int32), iv (2 : Int32), rv a2, rv a1, iv (1 : Int32), iv (0 : Int32), iv (1 : Int32), uv, uv, uv, uv, uv, uv, uv] [(.ref a1)])) (fun _ k => XS.aload X2066.here hx rfl (hb hby at_136) rfl rfl k) ?_
  obtain ⟨cq2068, kq2068, q2068a, q2068b, q2068c⟩ := isOf hZ e2066 B2060.1.1
  obtain ⟨_, _, ⟨T2068, L2068, k2068, n2068⟩, -, X2068, ⟨Lc2068, hQ2068, l2068, y2068, z2068⟩, st2068⟩ := X2066.virtualBack hx (y := yhs) (z := yhs) hown (mvT hZ (wi hw 63 rfl)) (mvT hZ (wi hw 64 rfl)) (notFace_of_selects (args := #[]) (mvT hZ (wi hw 66 rfl))) (mvT hZ (wi hw 66 rfl)) (mvT hZ (wi hw 65 rfl)) (by decide) (backOf (W := 0) (rmHs l Z a0 hw [] a1 a2 bco bnx bpv bfb bpd bip bfi ben [0, 1, 1, 1] [-1, 2, 3, -1] [-1, -1, 1, 2] [0, 1, 0, 0] [1, 0, 0, 0] [0, 1, 0, 0] (2 : Int32) (1 : Int32)  T2060.heap n0 z2060 B2060 ) hZ (wi hw 67 rfl) (wi hw 29 rfl) (by decide) (by decide)) q2068a q2068c (g := (mkF m 138 #[iv p1, iv p2, iv p3, iv (1 : Int32), iv (1 : Int32), iv (2 : Int32), rv a2, rv a1, iv (1 : Int32), iv (0 : Int32), iv (1 : Int32), uv, uv, uv, uv, uv, uv, uv] [(.ref a1)])) rfl (by rw [hml]; rfl) (Steps.refl _) (argsL := []) (rest := []) (lenOf pd_15 rfl) rfl (by show 2 * 0 + _ ≤ _; exact Nat.le_of_eq rfl) (hb hby at_138) (fun _ _ => ⟨rfl, e2066, (by decide : 15 + 0 ≤ _), (by decide : 70 + 0 ≤ _)⟩)
  dsimp only [Pt.U, Pt.locs, Pt.cells, Pt.slots] at X2068 l2068 y2068 z2068 st2068 hQ2068
  subst l2068 y2068 z2068
  obtain ⟨rfl, N2068q, e2068⟩ := hQ2068
  have N2068 := Fr.app N2066 N2068q
  refine Rch.to (U' := T2068.setTop (mkF m 141 #[iv p1, iv p2, iv p3, iv (1 : Int32), iv (1 : Int32), iv (2 : Int32), rv a2, rv a1, iv (1 : Int32), iv (0 : Int32), iv (1 : Int32), uv, uv, uv, uv, uv, uv, uv] [(.int (own_pos (1 : Int32)))])) st2068 ?_
  rw [(by decide : (own_pos (1 : Int32)) = (1 : Int32))]
  have br2069 : ¬ ((1 : Int32) = (0 : Int32)) := (by decide)
  refine Rch.go (U' := T2068.setTop (mkF m 144 #[iv p1, iv p2, iv p3, iv (1 : Int32), iv (1 : Int32), iv (2 : Int32), rv a2, rv a1, iv (1 : Int32), iv (0 : Int32), iv (1 : Int32), uv, uv, uv, uv, uv, uv, uv] [])) (fun _ k => XS.ifNo X2068.here hx rfl (hb hby at_141) rfl (XT.i0_eq_f br2069) k) ?_
  refine Rch.go (U' := T2068.setTop (mkF m 146 #[iv p1, iv p2, iv p3, iv (1 : Int32), iv (1 : Int32), iv (2 : Int32), rv a2, rv a1, iv (1 : Int32), iv (0 : Int32), iv (1 : Int32), uv, uv, uv, uv, uv, uv, uv] [(.ref a1)])) (fun _ k => XS.aload X2068.here hx rfl (hb hby at_144) rfl rfl k) ?_
  obtain ⟨cq2070, kq2070, q2070a, q2070b, q2070c⟩ := isOf hZ e2068 B2060.1.1
  obtain ⟨_, _, ⟨T2070, L2070, k2070, n2070⟩, -, X2070, ⟨Lc2070, hQ2070, l2070, y2070, z2070⟩, st2070⟩ := X2068.virtualBack hx (y := yns) (z := yns) hown (mvT hZ (wi hw 68 rfl)) (mvT hZ (wi hw 69 rfl)) (notFace_of_selects (args := #[]) (mvT hZ (wi hw 71 rfl))) (mvT hZ (wi hw 71 rfl)) (mvT hZ (wi hw 70 rfl)) (by decide) (backOf (W := 0) (rmNs l Z a0 hw [] a1 a2 bco bnx bpv bfb bpd bip bfi ben [0, 1, 1, 1] [-1, 2, 3, -1] [-1, -1, 1, 2] [0, 1, 0, 0] [1, 0, 0, 0] [0, 1, 0, 0] (2 : Int32) (1 : Int32)  T2060.heap n0 z2060 B2060 (by decide)) hZ (wi hw 72 rfl) (wi hw 29 rfl) (by decide) (by decide)) q2070a q2070c (g := (mkF m 146 #[iv p1, iv p2, iv p3, iv (1 : Int32), iv (1 : Int32), iv (2 : Int32), rv a2, rv a1, iv (1 : Int32), iv (0 : Int32), iv (1 : Int32), uv, uv, uv, uv, uv, uv, uv] [(.ref a1)])) rfl (by rw [hml]; rfl) (Steps.refl _) (argsL := []) (rest := []) (lenOf pd_14 rfl) rfl (by show 2 * 0 + _ ≤ _; exact Nat.le_of_eq rfl) (hb hby at_146) (fun _ _ => ⟨rfl, e2068, (by decide : 15 + 0 ≤ _), (by decide : 70 + 0 ≤ _)⟩)
  dsimp only [Pt.U, Pt.locs, Pt.cells, Pt.slots] at X2070 l2070 y2070 z2070 st2070 hQ2070
  subst l2070 y2070 z2070
  obtain ⟨rfl, N2070q, e2070⟩ := hQ2070
  have N2070 := Fr.app N2068 N2070q
  refine Rch.to (U' := T2070.setTop (mkF m 149 #[iv p1, iv p2, iv p3, iv (1 : Int32), iv (1 : Int32), iv (2 : Int32), rv a2, rv a1, iv (1 : Int32), iv (0 : Int32), iv (1 : Int32), uv, uv, uv, uv, uv, uv, uv] [(.int (own_at [1, 0, 0, 0] ((1 : Int32) - (1 : Int32))))])) st2070 ?_
  rw [(by decide : (own_at [1, 0, 0, 0] ((1 : Int32) - (1 : Int32))) = (1 : Int32))]
  refine Rch.go (U' := T2070.setTop (mkF m 151 #[iv p1, iv p2, iv p3, iv (1 : Int32), iv (1 : Int32), iv (2 : Int32), rv a2, rv a1, iv (1 : Int32), iv (0 : Int32), iv (1 : Int32), uv, uv, uv, uv, uv, uv, uv] [(.int (1 : Int32)), (.int (1 : Int32))])) (fun _ k => XS.iload X2070.here hx rfl (hb hby at_149) rfl  k) ?_
  have br2071 : (1 : Int32) = (1 : Int32) := (by decide)
  refine Rch.go (U' := T2070.setTop (mkF m 154 #[iv p1, iv p2, iv p3, iv (1 : Int32), iv (1 : Int32), iv (2 : Int32), rv a2, rv a1, iv (1 : Int32), iv (0 : Int32), iv (1 : Int32), uv, uv, uv, uv, uv, uv, uv] [])) (fun _ k => XS.icmpNo X2070.here hx rfl (hb hby at_151) rfl (XT.ii_ne_f br2071) k) ?_
  refine Rch.go (U' := T2070.setTop (mkF m 155 #[iv p1, iv p2, iv p3, iv (1 : Int32), iv (1 : Int32), iv (2 : Int32), rv a2, rv a1, iv (1 : Int32), iv (0 : Int32), iv (1 : Int32), uv, uv, uv, uv, uv, uv, uv] [(.int (1 : Int32))])) (fun _ k => XS.iconst X2070.here hx rfl (hb hby at_154) k) ?_
  refine Rch.go (U' := T2070.setTop (mkF m 159 #[iv p1, iv p2, iv p3, iv (1 : Int32), iv (1 : Int32), iv (2 : Int32), rv a2, rv a1, iv (1 : Int32), iv (0 : Int32), iv (1 : Int32), uv, uv, uv, uv, uv, uv, uv] [(.int (1 : Int32))])) (fun _ k => XS.goto X2070.here hx rfl (pc0 := 155) (pc' := 159) rfl (hb hby at_155) (by decide) (by decide) k) ?_
  refine Rch.go (U' := T2070.setTop (mkF m 161 #[iv p1, iv p2, iv p3, iv (1 : Int32), iv (1 : Int32), iv (2 : Int32), rv a2, rv a1, iv (1 : Int32), iv (0 : Int32), iv (1 : Int32), iv (1 : Int32), uv, uv, uv, uv, uv, uv] [])) (fun _ k => XS.istore X2070.here hx rfl (hb hby at_159) rfl (l' := #[iv p1, iv p2, iv p3, iv (1 : Int32), iv (1 : Int32), iv (2 : Int32), rv a2, rv a1, iv (1 : Int32), iv (0 : Int32), iv (1 : Int32), iv (1 : Int32), uv, uv, uv, uv, uv, uv]) rfl k) ?_
  refine Rch.go (U' := T2070.setTop (mkF m 163 #[iv p1, iv p2, iv p3, iv (1 : Int32), iv (1 : Int32), iv (2 : Int32), rv a2, rv a1, iv (1 : Int32), iv (0 : Int32), iv (1 : Int32), iv (1 : Int32), uv, uv, uv, uv, uv, uv] [(.int (1 : Int32))])) (fun _ k => XS.iload X2070.here hx rfl (hb hby at_161) rfl  k) ?_
  have br2072 : ¬ ((1 : Int32) = (0 : Int32)) := (by decide)
  refine Rch.go (U' := T2070.setTop (mkF m 168 #[iv p1, iv p2, iv p3, iv (1 : Int32), iv (1 : Int32), iv (2 : Int32), rv a2, rv a1, iv (1 : Int32), iv (0 : Int32), iv (1 : Int32), iv (1 : Int32), uv, uv, uv, uv, uv, uv] [])) (fun _ k => XS.ifYes X2070.here hx rfl (pc0 := 163) (pc' := 168) rfl (hb hby at_163) rfl (XT.i0_ne_t br2072) (by decide) (by decide) k) ?_
  refine Rch.go (U' := T2070.setTop (mkF m 170 #[iv p1, iv p2, iv p3, iv (1 : Int32), iv (1 : Int32), iv (2 : Int32), rv a2, rv a1, iv (1 : Int32), iv (0 : Int32), iv (1 : Int32), iv (1 : Int32), uv, uv, uv, uv, uv, uv] [(.int (1 : Int32))])) (fun _ k => XS.iload X2070.here hx rfl (hb hby at_168) rfl  k) ?_
  refine Rch.go (U' := T2070.setTop (mkF m 172 #[iv p1, iv p2, iv p3, iv (1 : Int32), iv (1 : Int32), iv (2 : Int32), rv a2, rv a1, iv (1 : Int32), iv (0 : Int32), iv (1 : Int32), iv (1 : Int32), uv, uv, uv, uv, uv, uv] [(.int (1 : Int32)), (.int (1 : Int32))])) (fun _ k => XS.iload X2070.here hx rfl (hb hby at_170) rfl  k) ?_
  have br2073 : (1 : Int32) = (1 : Int32) := (by decide)
  refine Rch.go (U' := T2070.setTop (mkF m 175 #[iv p1, iv p2, iv p3, iv (1 : Int32), iv (1 : Int32), iv (2 : Int32), rv a2, rv a1, iv (1 : Int32), iv (0 : Int32), iv (1 : Int32), iv (1 : Int32), uv, uv, uv, uv, uv, uv] [])) (fun _ k => XS.icmpNo X2070.here hx rfl (hb hby at_172) rfl (XT.ii_ne_f br2073) k) ?_
  refine Rch.go (U' := T2070.setTop (mkF m 177 #[iv p1, iv p2, iv p3, iv (1 : Int32), iv (1 : Int32), iv (2 : Int32), rv a2, rv a1, iv (1 : Int32), iv (0 : Int32), iv (1 : Int32), iv (1 : Int32), uv, uv, uv, uv, uv, uv] [(.int (1 : Int32))])) (fun _ k => XS.iload X2070.here hx rfl (hb hby at_175) rfl  k) ?_
  refine Rch.go (U' := T2070.setTop (mkF m 179 #[iv p1, iv p2, iv p3, iv (1 : Int32), iv (1 : Int32), iv (2 : Int32), rv a2, rv a1, iv (1 : Int32), iv (0 : Int32), iv (1 : Int32), iv (1 : Int32), iv (1 : Int32), uv, uv, uv, uv, uv] [])) (fun _ k => XS.istore X2070.here hx rfl (hb hby at_177) rfl (l' := #[iv p1, iv p2, iv p3, iv (1 : Int32), iv (1 : Int32), iv (2 : Int32), rv a2, rv a1, iv (1 : Int32), iv (0 : Int32), iv (1 : Int32), iv (1 : Int32), iv (1 : Int32), uv, uv, uv, uv, uv]) rfl k) ?_
  refine Rch.go (U' := T2070.setTop (mkF m 181 #[iv p1, iv p2, iv p3, iv (1 : Int32), iv (1 : Int32), iv (2 : Int32), rv a2, rv a1, iv (1 : Int32), iv (0 : Int32), iv (1 : Int32), iv (1 : Int32), iv (1 : Int32), uv, uv, uv, uv, uv] [(.int (2 : Int32))])) (fun _ k => XS.iload X2070.here hx rfl (hb hby at_179) rfl  k) ?_
  refine Rch.go (U' := T2070.setTop (mkF m 183 #[iv p1, iv p2, iv p3, iv (1 : Int32), iv (1 : Int32), iv (2 : Int32), rv a2, rv a1, iv (1 : Int32), iv (0 : Int32), iv (1 : Int32), iv (1 : Int32), iv (1 : Int32), uv, uv, uv, uv, uv] [(.int (1 : Int32)), (.int (2 : Int32))])) (fun _ k => XS.iload X2070.here hx rfl (hb hby at_181) rfl  k) ?_
  have br2074 : ¬ ((2 : Int32) = (1 : Int32)) := (by decide)
  refine Rch.go (U' := T2070.setTop (mkF m 190 #[iv p1, iv p2, iv p3, iv (1 : Int32), iv (1 : Int32), iv (2 : Int32), rv a2, rv a1, iv (1 : Int32), iv (0 : Int32), iv (1 : Int32), iv (1 : Int32), iv (1 : Int32), uv, uv, uv, uv, uv] [])) (fun _ k => XS.icmpYes X2070.here hx rfl (pc0 := 183) (pc' := 190) rfl (hb hby at_183) rfl (XT.ii_ne_t br2074) (by decide) (by decide) k) ?_
  refine Rch.go (U' := T2070.setTop (mkF m 191 #[iv p1, iv p2, iv p3, iv (1 : Int32), iv (1 : Int32), iv (2 : Int32), rv a2, rv a1, iv (1 : Int32), iv (0 : Int32), iv (1 : Int32), iv (1 : Int32), iv (1 : Int32), uv, uv, uv, uv, uv] [(.int (2 : Int32))])) (fun _ k => XS.iconst X2070.here hx rfl (hb hby at_190) k) ?_
  refine Rch.go (U' := T2070.setTop (mkF m 193 #[iv p1, iv p2, iv p3, iv (1 : Int32), iv (1 : Int32), iv (2 : Int32), rv a2, rv a1, iv (1 : Int32), iv (0 : Int32), iv (1 : Int32), iv (1 : Int32), iv (1 : Int32), iv (2 : Int32), uv, uv, uv, uv] [])) (fun _ k => XS.istore X2070.here hx rfl (hb hby at_191) rfl (l' := #[iv p1, iv p2, iv p3, iv (1 : Int32), iv (1 : Int32), iv (2 : Int32), rv a2, rv a1, iv (1 : Int32), iv (0 : Int32), iv (1 : Int32), iv (1 : Int32), iv (1 : Int32), iv (2 : Int32), uv, uv, uv, uv]) rfl k) ?_
  refine Rch.go (U' := T2070.setTop (mkF m 203 #[iv p1, iv p2, iv p3, iv (1 : Int32), iv (1 : Int32), iv (2 : Int32), rv a2, rv a1, iv (1 : Int32), iv (0 : Int32), iv (1 : Int32), iv (1 : Int32), iv (1 : Int32), iv (2 : Int32), uv, uv, uv, uv] [])) (fun _ k => XS.goto X2070.here hx rfl (pc0 := 193) (pc' := 203) rfl (hb hby at_193) (by decide) (by decide) k) ?_
  refine Rch.go (U' := T2070.setTop (mkF m 205 #[iv p1, iv p2, iv p3, iv (1 : Int32), iv (1 : Int32), iv (2 : Int32), rv a2, rv a1, iv (1 : Int32), iv (0 : Int32), iv (1 : Int32), iv (1 : Int32), iv (1 : Int32), iv (2 : Int32), uv, uv, uv, uv] [(.int (1 : Int32))])) (fun _ k => XS.iload X2070.here hx rfl (hb hby at_203) rfl  k) ?_
  have br2075 : ¬ ((1 : Int32) = (0 : Int32)) := (by decide)
  refine Rch.go (U' := T2070.setTop (mkF m 213 #[iv p1, iv p2, iv p3, iv (1 : Int32), iv (1 : Int32), iv (2 : Int32), rv a2, rv a1, iv (1 : Int32), iv (0 : Int32), iv (1 : Int32), iv (1 : Int32), iv (1 : Int32), iv (2 : Int32), uv, uv, uv, uv] [])) (fun _ k => XS.ifYes X2070.here hx rfl (pc0 := 205) (pc' := 213) rfl (hb hby at_205) rfl (XT.i0_ne_t br2075) (by decide) (by decide) k) ?_
  refine Rch.go (U' := T2070.setTop (mkF m 215 #[iv p1, iv p2, iv p3, iv (1 : Int32), iv (1 : Int32), iv (2 : Int32), rv a2, rv a1, iv (1 : Int32), iv (0 : Int32), iv (1 : Int32), iv (1 : Int32), iv (1 : Int32), iv (2 : Int32), uv, uv, uv, uv] [(.int (1 : Int32))])) (fun _ k => XS.iload X2070.here hx rfl (hb hby at_213) rfl  k) ?_
  refine Rch.go (U' := T2070.setTop (mkF m 217 #[iv p1, iv p2, iv p3, iv (1 : Int32), iv (1 : Int32), iv (2 : Int32), rv a2, rv a1, iv (1 : Int32), iv (0 : Int32), iv (1 : Int32), iv (1 : Int32), iv (1 : Int32), iv (2 : Int32), iv (1 : Int32), uv, uv, uv] [])) (fun _ k => XS.istore X2070.here hx rfl (hb hby at_215) rfl (l' := #[iv p1, iv p2, iv p3, iv (1 : Int32), iv (1 : Int32), iv (2 : Int32), rv a2, rv a1, iv (1 : Int32), iv (0 : Int32), iv (1 : Int32), iv (1 : Int32), iv (1 : Int32), iv (2 : Int32), iv (1 : Int32), uv, uv, uv]) rfl k) ?_
  refine Rch.go (U' := T2070.setTop (mkF m 219 #[iv p1, iv p2, iv p3, iv (1 : Int32), iv (1 : Int32), iv (2 : Int32), rv a2, rv a1, iv (1 : Int32), iv (0 : Int32), iv (1 : Int32), iv (1 : Int32), iv (1 : Int32), iv (2 : Int32), iv (1 : Int32), uv, uv, uv] [(.ref a1)])) (fun _ k => XS.aload X2070.here hx rfl (hb hby at_217) rfl rfl k) ?_
  obtain ⟨cq2076, kq2076, q2076a, q2076b, q2076c⟩ := isOf hZ e2070 B2060.1.1
  obtain ⟨_, _, ⟨T2076, L2076, k2076, n2076⟩, -, X2076, ⟨Lc2076, hQ2076, l2076, y2076, z2076⟩, st2076⟩ := X2070.virtualBack hx (y := yt) (z := yt) hown (mvT hZ (wi hw 73 rfl)) (mvT hZ (wi hw 74 rfl)) (notFace_of_selects (args := #[]) (mvT hZ (wi hw 76 rfl))) (mvT hZ (wi hw 76 rfl)) (mvT hZ (wi hw 75 rfl)) (by decide) (backOf (W := 0) (rmT l Z a0 hw [] a1 a2 bco bnx bpv bfb bpd bip bfi ben [0, 1, 1, 1] [-1, 2, 3, -1] [-1, -1, 1, 2] [0, 1, 0, 0] [1, 0, 0, 0] [0, 1, 0, 0] (2 : Int32) (1 : Int32) T2060.heap n0 z2060 B2060 (by decide)) hZ (wi hw 77 rfl) (wi hw 29 rfl) (by decide) (by decide)) q2076a q2076c (g := (mkF m 219 #[iv p1, iv p2, iv p3, iv (1 : Int32), iv (1 : Int32), iv (2 : Int32), rv a2, rv a1, iv (1 : Int32), iv (0 : Int32), iv (1 : Int32), iv (1 : Int32), iv (1 : Int32), iv (2 : Int32), iv (1 : Int32), uv, uv, uv] [(.ref a1)])) rfl (by rw [hml]; rfl) (Steps.refl _) (argsL := []) (rest := []) (lenOf pd_14 rfl) rfl (by show 2 * 0 + _ ≤ _; exact Nat.le_of_eq rfl) (hb hby at_219) (fun _ _ => ⟨rfl, e2070, (by decide : 15 + 0 ≤ _), (by decide : 70 + 0 ≤ _)⟩)
  dsimp only [Pt.U, Pt.locs, Pt.cells, Pt.slots] at X2076 l2076 y2076 z2076 st2076 hQ2076
  subst l2076 y2076 z2076
  obtain ⟨rfl, N2076q, z2076, C2076⟩ := hQ2076
  have N2076 := Fr.app N2070 N2076q
  rw [(by rfl : own_take [0, 1, 1, 1] [-1, 2, 3, -1] [-1, -1, 1, 2] [0, 1, 0, 0] [1, 0, 0, 0] [0, 1, 0, 0] (2 : Int32) (1 : Int32) = ([0, 2, 1, 1], [-1, -1, 3, -1], [-1, -1, -1, 2], [0, 2, 1, 0], [1, 0, 0, 0], [0, 1, 0, 0], (3 : Int32), (1 : Int32)))] at C2076
  have B2076 : Cb Z T2076.heap n0 a1 a2 bco bnx bpv bfb bpd bip bfi ben [0, 2, 1, 1] [-1, -1, 3, -1] [-1, -1, -1, 2] [0, 2, 1, 0] [1, 0, 0, 0] [0, 1, 0, 0] (3 : Int32) (1 : Int32) := C2076
  refine Rch.to (U' := T2076.setTop (mkF m 222 #[iv p1, iv p2, iv p3, iv (1 : Int32), iv (1 : Int32), iv (2 : Int32), rv a2, rv a1, iv (1 : Int32), iv (0 : Int32), iv (1 : Int32), iv (1 : Int32), iv (1 : Int32), iv (2 : Int32), iv (1 : Int32), uv, uv, uv] [(.int (own_sp [-1, 2, 3, -1] [0, 1, 0, 0] [1, 0, 0, 0] (1 : Int32)))])) st2076 ?_
  rw [(by decide : own_sp [-1, 2, 3, -1] [0, 1, 0, 0] [1, 0, 0, 0] (1 : Int32) = (1 : Int32))]
  refine Rch.go (U' := T2076.setTop (mkF m 224 #[iv p1, iv p2, iv p3, iv (1 : Int32), iv (1 : Int32), iv (2 : Int32), rv a2, rv a1, iv (1 : Int32), iv (0 : Int32), iv (1 : Int32), iv (1 : Int32), iv (1 : Int32), iv (2 : Int32), iv (1 : Int32), iv (1 : Int32), uv, uv] [])) (fun _ k => XS.istore X2076.here hx rfl (hb hby at_222) rfl (l' := #[iv p1, iv p2, iv p3, iv (1 : Int32), iv (1 : Int32), iv (2 : Int32), rv a2, rv a1, iv (1 : Int32), iv (0 : Int32), iv (1 : Int32), iv (1 : Int32), iv (1 : Int32), iv (2 : Int32), iv (1 : Int32), iv (1 : Int32), uv, uv]) rfl k) ?_
  refine Rch.go (U' := T2076.setTop (mkF m 226 #[iv p1, iv p2, iv p3, iv (1 : Int32), iv (1 : Int32), iv (2 : Int32), rv a2, rv a1, iv (1 : Int32), iv (0 : Int32), iv (1 : Int32), iv (1 : Int32), iv (1 : Int32), iv (2 : Int32), iv (1 : Int32), iv (1 : Int32), uv, uv] [(.int (1 : Int32))])) (fun _ k => XS.iload X2076.here hx rfl (hb hby at_224) rfl  k) ?_
  refine Rch.go (U' := T2076.setTop (mkF m 228 #[iv p1, iv p2, iv p3, iv (1 : Int32), iv (1 : Int32), iv (2 : Int32), rv a2, rv a1, iv (1 : Int32), iv (0 : Int32), iv (1 : Int32), iv (1 : Int32), iv (1 : Int32), iv (2 : Int32), iv (1 : Int32), iv (1 : Int32), uv, uv] [(.int (1 : Int32)), (.int (1 : Int32))])) (fun _ k => XS.iload X2076.here hx rfl (hb hby at_226) rfl  k) ?_
  have br2077 : (1 : Int32) = (1 : Int32) := (by decide)
  refine Rch.go (U' := T2076.setTop (mkF m 231 #[iv p1, iv p2, iv p3, iv (1 : Int32), iv (1 : Int32), iv (2 : Int32), rv a2, rv a1, iv (1 : Int32), iv (0 : Int32), iv (1 : Int32), iv (1 : Int32), iv (1 : Int32), iv (2 : Int32), iv (1 : Int32), iv (1 : Int32), uv, uv] [])) (fun _ k => XS.icmpNo X2076.here hx rfl (hb hby at_228) rfl (XT.ii_ne_f br2077) k) ?_
  refine Rch.go (U' := T2076.setTop (mkF m 233 #[iv p1, iv p2, iv p3, iv (1 : Int32), iv (1 : Int32), iv (2 : Int32), rv a2, rv a1, iv (1 : Int32), iv (0 : Int32), iv (1 : Int32), iv (1 : Int32), iv (1 : Int32), iv (2 : Int32), iv (1 : Int32), iv (1 : Int32), uv, uv] [(.ref a1)])) (fun _ k => XS.aload X2076.here hx rfl (hb hby at_231) rfl rfl k) ?_
  obtain ⟨cq2078, kq2078, q2078a, q2078b, q2078c⟩ := isOf hZ rfl B2076.1.1
  obtain ⟨_, _, ⟨T2078, L2078, k2078, n2078⟩, -, X2078, ⟨Lc2078, hQ2078, l2078, y2078, z2078⟩, st2078⟩ := X2076.virtualBack hx (y := yhs) (z := yhs) hown (mvT hZ (wi hw 63 rfl)) (mvT hZ (wi hw 64 rfl)) (notFace_of_selects (args := #[]) (mvT hZ (wi hw 66 rfl))) (mvT hZ (wi hw 66 rfl)) (mvT hZ (wi hw 65 rfl)) (by decide) (backOf (W := 0) (rmHs l Z a0 hw [] a1 a2 bco bnx bpv bfb bpd bip bfi ben [0, 2, 1, 1] [-1, -1, 3, -1] [-1, -1, -1, 2] [0, 2, 1, 0] [1, 0, 0, 0] [0, 1, 0, 0] (3 : Int32) (1 : Int32)  T2076.heap n0 z2076 B2076 ) hZ (wi hw 67 rfl) (wi hw 29 rfl) (by decide) (by decide)) q2078a q2078c (g := (mkF m 233 #[iv p1, iv p2, iv p3, iv (1 : Int32), iv (1 : Int32), iv (2 : Int32), rv a2, rv a1, iv (1 : Int32), iv (0 : Int32), iv (1 : Int32), iv (1 : Int32), iv (1 : Int32), iv (2 : Int32), iv (1 : Int32), iv (1 : Int32), uv, uv] [(.ref a1)])) rfl (by rw [hml]; rfl) (Steps.refl _) (argsL := []) (rest := []) (lenOf pd_15 rfl) rfl (by show 2 * 0 + _ ≤ _; exact Nat.le_of_eq rfl) (hb hby at_233) (fun _ _ => ⟨rfl, rfl, (by decide : 15 + 0 ≤ _), (by decide : 70 + 0 ≤ _)⟩)
  dsimp only [Pt.U, Pt.locs, Pt.cells, Pt.slots] at X2078 l2078 y2078 z2078 st2078 hQ2078
  subst l2078 y2078 z2078
  obtain ⟨rfl, N2078q, e2078⟩ := hQ2078
  have N2078 := Fr.app N2076 N2078q
  refine Rch.to (U' := T2078.setTop (mkF m 236 #[iv p1, iv p2, iv p3, iv (1 : Int32), iv (1 : Int32), iv (2 : Int32), rv a2, rv a1, iv (1 : Int32), iv (0 : Int32), iv (1 : Int32), iv (1 : Int32), iv (1 : Int32), iv (2 : Int32), iv (1 : Int32), iv (1 : Int32), uv, uv] [(.int (own_pos (1 : Int32)))])) st2078 ?_
  rw [(by decide : (own_pos (1 : Int32)) = (1 : Int32))]
  have br2079 : ¬ ((1 : Int32) = (0 : Int32)) := (by decide)
  refine Rch.go (U' := T2078.setTop (mkF m 239 #[iv p1, iv p2, iv p3, iv (1 : Int32), iv (1 : Int32), iv (2 : Int32), rv a2, rv a1, iv (1 : Int32), iv (0 : Int32), iv (1 : Int32), iv (1 : Int32), iv (1 : Int32), iv (2 : Int32), iv (1 : Int32), iv (1 : Int32), uv, uv] [])) (fun _ k => XS.ifNo X2078.here hx rfl (hb hby at_236) rfl (XT.i0_eq_f br2079) k) ?_
  refine Rch.go (U' := T2078.setTop (mkF m 241 #[iv p1, iv p2, iv p3, iv (1 : Int32), iv (1 : Int32), iv (2 : Int32), rv a2, rv a1, iv (1 : Int32), iv (0 : Int32), iv (1 : Int32), iv (1 : Int32), iv (1 : Int32), iv (2 : Int32), iv (1 : Int32), iv (1 : Int32), uv, uv] [(.ref a1)])) (fun _ k => XS.aload X2078.here hx rfl (hb hby at_239) rfl rfl k) ?_
  obtain ⟨cq2080, kq2080, q2080a, q2080b, q2080c⟩ := isOf hZ e2078 B2076.1.1
  obtain ⟨_, _, ⟨T2080, L2080, k2080, n2080⟩, -, X2080, ⟨Lc2080, hQ2080, l2080, y2080, z2080⟩, st2080⟩ := X2078.virtualBack hx (y := yns) (z := yns) hown (mvT hZ (wi hw 68 rfl)) (mvT hZ (wi hw 69 rfl)) (notFace_of_selects (args := #[]) (mvT hZ (wi hw 71 rfl))) (mvT hZ (wi hw 71 rfl)) (mvT hZ (wi hw 70 rfl)) (by decide) (backOf (W := 0) (rmNs l Z a0 hw [] a1 a2 bco bnx bpv bfb bpd bip bfi ben [0, 2, 1, 1] [-1, -1, 3, -1] [-1, -1, -1, 2] [0, 2, 1, 0] [1, 0, 0, 0] [0, 1, 0, 0] (3 : Int32) (1 : Int32)  T2076.heap n0 z2076 B2076 (by decide)) hZ (wi hw 72 rfl) (wi hw 29 rfl) (by decide) (by decide)) q2080a q2080c (g := (mkF m 241 #[iv p1, iv p2, iv p3, iv (1 : Int32), iv (1 : Int32), iv (2 : Int32), rv a2, rv a1, iv (1 : Int32), iv (0 : Int32), iv (1 : Int32), iv (1 : Int32), iv (1 : Int32), iv (2 : Int32), iv (1 : Int32), iv (1 : Int32), uv, uv] [(.ref a1)])) rfl (by rw [hml]; rfl) (Steps.refl _) (argsL := []) (rest := []) (lenOf pd_14 rfl) rfl (by show 2 * 0 + _ ≤ _; exact Nat.le_of_eq rfl) (hb hby at_241) (fun _ _ => ⟨rfl, e2078, (by decide : 15 + 0 ≤ _), (by decide : 70 + 0 ≤ _)⟩)
  dsimp only [Pt.U, Pt.locs, Pt.cells, Pt.slots] at X2080 l2080 y2080 z2080 st2080 hQ2080
  subst l2080 y2080 z2080
  obtain ⟨rfl, N2080q, e2080⟩ := hQ2080
  have N2080 := Fr.app N2078 N2080q
  refine Rch.to (U' := T2080.setTop (mkF m 244 #[iv p1, iv p2, iv p3, iv (1 : Int32), iv (1 : Int32), iv (2 : Int32), rv a2, rv a1, iv (1 : Int32), iv (0 : Int32), iv (1 : Int32), iv (1 : Int32), iv (1 : Int32), iv (2 : Int32), iv (1 : Int32), iv (1 : Int32), uv, uv] [(.int (own_at [1, 0, 0, 0] ((1 : Int32) - (1 : Int32))))])) st2080 ?_
  rw [(by decide : (own_at [1, 0, 0, 0] ((1 : Int32) - (1 : Int32))) = (1 : Int32))]
  refine Rch.go (U' := T2080.setTop (mkF m 246 #[iv p1, iv p2, iv p3, iv (1 : Int32), iv (1 : Int32), iv (2 : Int32), rv a2, rv a1, iv (1 : Int32), iv (0 : Int32), iv (1 : Int32), iv (1 : Int32), iv (1 : Int32), iv (2 : Int32), iv (1 : Int32), iv (1 : Int32), uv, uv] [(.int (1 : Int32)), (.int (1 : Int32))])) (fun _ k => XS.iload X2080.here hx rfl (hb hby at_244) rfl  k) ?_
  have br2081 : (1 : Int32) = (1 : Int32) := (by decide)
  refine Rch.go (U' := T2080.setTop (mkF m 249 #[iv p1, iv p2, iv p3, iv (1 : Int32), iv (1 : Int32), iv (2 : Int32), rv a2, rv a1, iv (1 : Int32), iv (0 : Int32), iv (1 : Int32), iv (1 : Int32), iv (1 : Int32), iv (2 : Int32), iv (1 : Int32), iv (1 : Int32), uv, uv] [])) (fun _ k => XS.icmpNo X2080.here hx rfl (hb hby at_246) rfl (XT.ii_ne_f br2081) k) ?_
  refine Rch.go (U' := T2080.setTop (mkF m 250 #[iv p1, iv p2, iv p3, iv (1 : Int32), iv (1 : Int32), iv (2 : Int32), rv a2, rv a1, iv (1 : Int32), iv (0 : Int32), iv (1 : Int32), iv (1 : Int32), iv (1 : Int32), iv (2 : Int32), iv (1 : Int32), iv (1 : Int32), uv, uv] [(.int (1 : Int32))])) (fun _ k => XS.iconst X2080.here hx rfl (hb hby at_249) k) ?_
  refine Rch.go (U' := T2080.setTop (mkF m 254 #[iv p1, iv p2, iv p3, iv (1 : Int32), iv (1 : Int32), iv (2 : Int32), rv a2, rv a1, iv (1 : Int32), iv (0 : Int32), iv (1 : Int32), iv (1 : Int32), iv (1 : Int32), iv (2 : Int32), iv (1 : Int32), iv (1 : Int32), uv, uv] [(.int (1 : Int32))])) (fun _ k => XS.goto X2080.here hx rfl (pc0 := 250) (pc' := 254) rfl (hb hby at_250) (by decide) (by decide) k) ?_
  refine Rch.fin X2080 hlk (v := some (.int (nar .boolean (1 : Int32)))) (fun h => by rw [hret] at h; cases h) e2080 (by decide) (by decide) (fun fs hr => retN X2080 hx (t := .boolean) hret (by simp) (hb hby at_254) hr) ?_
  exact ⟨rfl, N2080⟩
theorem pn_com_example_fixpoints_of_behaviour_fixpointsofbehaviour_bisimulation_CompoundBlocksJoinPinLaw : plainName cLW = true := by first | (simp [plainName, overriddenIn]; done) | decide +kernel
theorem ef_rm0 (m : MethodId) (p1 : Int32) (p2 : Int32) (p3 : Int32) : entryFrame m #[(.int p1), (.int p2), (.int p3)] maxLocals = mkF m 0 #[iv p1, iv p2, iv p3, uv, uv, uv, uv, uv, uv, uv, uv, uv, uv, uv, uv, uv, uv, uv] [] := by first | (simp [entryFrame, mkF, argsToLocals, Value.category, maxLocals]; done) | rfl
def Q_rm0 (Z : State) (p1 : Int32) (p2 : Int32) (p3 : Int32) (h0 : Heap) (n0 : Nat) (v : Option Value) (h : Heap) (L : List Loc) : Prop := v = some (.int 1) ∧ Fr n0 L
set_option maxRecDepth 65536 in
set_option maxHeartbeats 40000000 in
theorem rm0 (l : Launch) (Z : State) (a0 : Array Value) (hw : ∀ d ∈ tables_1, d.before a0 Z = true) (ws : List Jvm.Cond) (p1 : Int32) (p2 : Int32) (p3 : Int32) (h0 : Heap) (n0 : Nat) (Z0 : n0 ≤ h0.size)  :
    MetFree l x (head1 (Jvm.Cond.code x code maxLocals ret :: ws) room_1) (fun a_ U => a_ = #[(.int p1), (.int p2), (.int p3)] ∧ Z.Warmed39 U.vm ∧ U.heap = h0) (fun _ _ _ _ _ => True) (fun _ U o U' => ∃ v L, o = .returned v ∧ Q_rm0 Z p1 p2 p3 h0 n0 v U'.heap L ∧ FrameEnd U o U' L 40 256) := by
  refine MetFree.of_bodySF (plainFor_of_name pn_com_example_fixpoints_of_behaviour_fixpointsofbehaviour_bisimulation_CompoundBlocksJoinPinLaw) hisR ?_
  intro p e s m args below meth c s₁ Bd hml0 hP hK
  obtain ⟨rfl, hZ, hh⟩ := hP
  have hx := Bd.exec
  have hby := Bd.bytes
  have hml : c.maxLocals = 18 := hml0
  have hown : s.vm.findClass cLW = some m.cls := findClass_of_methodNamed Bd.named
  have hnm := (name_of_methodNamed Bd.named Bd.method).1
  have hret := Bd.returns
  have hlk : meth.locks = false := BodyLoose.notSynchronized Bd
  have X0 : Stand p l e room_1 s m #[(.int p1), (.int p2), (.int p3)] below meth c s₁ [] 0 0 := Stand.of_body Bd
  have e0 : s₁.heap = h0 := by rw [← hh, Bd.state]; rfl
  have N0 := Fr.nil n0
  refine Rch.body (Q := Q_rm0 Z p1 p2 p3 h0 n0) (U' := s₁.setTop (mkF m 0 #[iv p1, iv p2, iv p3, uv, uv, uv, uv, uv, uv, uv, uv, uv, uv, uv, uv, uv, uv, uv] [])) (fun _ k => castTop (ef_rm0 m p1 p2 p3) k) ?_
  refine Rch.go (U' := s₁.setTop (mkF m 1 #[iv p1, iv p2, iv p3, uv, uv, uv, uv, uv, uv, uv, uv, uv, uv, uv, uv, uv, uv, uv] [(.int p1)])) (fun _ k => XS.iloadN X0.here hx rfl (hb hby at_0) rfl  k) ?_
  refine Rch.go (U' := s₁.setTop (mkF m 2 #[iv p1, iv p2, iv p3, uv, uv, uv, uv, uv, uv, uv, uv, uv, uv, uv, uv, uv, uv, uv] [(.int (1 : Int32)), (.int p1)])) (fun _ k => XS.iconst X0.here hx rfl (hb hby at_1) k) ?_
  refine Rch.go (U' := s₁.setTop (mkF m 3 #[iv p1, iv p2, iv p3, uv, uv, uv, uv, uv, uv, uv, uv, uv, uv, uv, uv, uv, uv, uv] [(.int (p1 &&& (1 : Int32)))])) (fun _ k => XS.iand X0.here hx rfl (hb hby at_2) rfl k) ?_
  by_cases br2082 : (p1 &&& (1 : Int32)) = (0 : Int32)
  ·
    refine Rch.go (U' := s₁.setTop (mkF m 10 #[iv p1, iv p2, iv p3, uv, uv, uv, uv, uv, uv, uv, uv, uv, uv, uv, uv, uv, uv, uv] [])) (fun _ k => XS.ifYes X0.here hx rfl (pc0 := 3) (pc' := 10) rfl (hb hby at_3) rfl (XT.i0_eq_t br2082) (by decide) (by decide) k) ?_
    refine Rch.go (U' := s₁.setTop (mkF m 11 #[iv p1, iv p2, iv p3, uv, uv, uv, uv, uv, uv, uv, uv, uv, uv, uv, uv, uv, uv, uv] [(.int (0 : Int32))])) (fun _ k => XS.iconst X0.here hx rfl (hb hby at_10) k) ?_
    refine Rch.go (U' := s₁.setTop (mkF m 12 #[iv p1, iv p2, iv p3, iv (0 : Int32), uv, uv, uv, uv, uv, uv, uv, uv, uv, uv, uv, uv, uv, uv] [])) (fun _ k => XS.istoreN X0.here hx rfl (hb hby at_11) rfl (l' := #[iv p1, iv p2, iv p3, iv (0 : Int32), uv, uv, uv, uv, uv, uv, uv, uv, uv, uv, uv, uv, uv, uv]) rfl k) ?_
    refine Rch.go (U' := s₁.setTop (mkF m 13 #[iv p1, iv p2, iv p3, iv (0 : Int32), uv, uv, uv, uv, uv, uv, uv, uv, uv, uv, uv, uv, uv, uv] [(.int p2)])) (fun _ k => XS.iloadN X0.here hx rfl (hb hby at_12) rfl  k) ?_
    refine Rch.go (U' := s₁.setTop (mkF m 14 #[iv p1, iv p2, iv p3, iv (0 : Int32), uv, uv, uv, uv, uv, uv, uv, uv, uv, uv, uv, uv, uv, uv] [(.int (1 : Int32)), (.int p2)])) (fun _ k => XS.iconst X0.here hx rfl (hb hby at_13) k) ?_
    refine Rch.go (U' := s₁.setTop (mkF m 15 #[iv p1, iv p2, iv p3, iv (0 : Int32), uv, uv, uv, uv, uv, uv, uv, uv, uv, uv, uv, uv, uv, uv] [(.int (p2 &&& (1 : Int32)))])) (fun _ k => XS.iand X0.here hx rfl (hb hby at_14) rfl k) ?_
    generalize hxx : (p2 &&& (1 : Int32)) = xx
    refine Rch.go (U' := s₁.setTop (mkF m 17 #[iv p1, iv p2, iv p3, iv (0 : Int32), iv xx, uv, uv, uv, uv, uv, uv, uv, uv, uv, uv, uv, uv, uv] [])) (fun _ k => XS.istore X0.here hx rfl (hb hby at_15) rfl (l' := #[iv p1, iv p2, iv p3, iv (0 : Int32), iv xx, uv, uv, uv, uv, uv, uv, uv, uv, uv, uv, uv, uv, uv]) rfl k) ?_
    refine Rch.go (U' := s₁.setTop (mkF m 18 #[iv p1, iv p2, iv p3, iv (0 : Int32), iv xx, uv, uv, uv, uv, uv, uv, uv, uv, uv, uv, uv, uv, uv] [(.int p3)])) (fun _ k => XS.iloadN X0.here hx rfl (hb hby at_17) rfl  k) ?_
    refine Rch.go (U' := s₁.setTop (mkF m 20 #[iv p1, iv p2, iv p3, iv (0 : Int32), iv xx, uv, uv, uv, uv, uv, uv, uv, uv, uv, uv, uv, uv, uv] [(.int (2147483647 : Int32)), (.int p3)])) (fun _ k => X0.ldcInt hx hown (mvT hZ (wi hw 0 rfl)) (g := (mkF m 18 #[iv p1, iv p2, iv p3, iv (0 : Int32), iv xx, uv, uv, uv, uv, uv, uv, uv, uv, uv, uv, uv, uv, uv] [(.int p3)])) rfl (hb hby at_18) _ k) ?_
    refine Rch.go (U' := s₁.setTop (mkF m 21 #[iv p1, iv p2, iv p3, iv (0 : Int32), iv xx, uv, uv, uv, uv, uv, uv, uv, uv, uv, uv, uv, uv, uv] [(.int (p3 &&& (2147483647 : Int32)))])) (fun _ k => XS.iand X0.here hx rfl (hb hby at_20) rfl k) ?_
    refine Rch.go (U' := s₁.setTop (mkF m 22 #[iv p1, iv p2, iv p3, iv (0 : Int32), iv xx, uv, uv, uv, uv, uv, uv, uv, uv, uv, uv, uv, uv, uv] [(.int (3 : Int32)), (.int (p3 &&& (2147483647 : Int32)))])) (fun _ k => XS.iconst X0.here hx rfl (hb hby at_21) k) ?_
    refine Rch.go (U' := s₁.setTop (mkF m 23 #[iv p1, iv p2, iv p3, iv (0 : Int32), iv xx, uv, uv, uv, uv, uv, uv, uv, uv, uv, uv, uv, uv, uv] [(.int ((p3 &&& (2147483647 : Int32)) % (3 : Int32)))])) (fun _ k => iremM X0 hx rfl (hb hby at_22) rfl (by decide) k) ?_
    generalize hyy : ((p3 &&& (2147483647 : Int32)) % (3 : Int32)) = yy
    refine Rch.go (U' := s₁.setTop (mkF m 25 #[iv p1, iv p2, iv p3, iv (0 : Int32), iv xx, iv yy, uv, uv, uv, uv, uv, uv, uv, uv, uv, uv, uv, uv] [])) (fun _ k => XS.istore X0.here hx rfl (hb hby at_23) rfl (l' := #[iv p1, iv p2, iv p3, iv (0 : Int32), iv xx, iv yy, uv, uv, uv, uv, uv, uv, uv, uv, uv, uv, uv, uv]) rfl k) ?_
    obtain ⟨T2083, h2083, X2083, e2083, E2083, A2083, D2083, -, st2083⟩ := newO X0 hx hZ hown (wi hw 1 rfl) (wi hw 2 rfl) (wi hw 3 rfl) e0 (g := (mkF m 25 #[iv p1, iv p2, iv p3, iv (0 : Int32), iv xx, iv yy, uv, uv, uv, uv, uv, uv, uv, uv, uv, uv, uv, uv] [])) rfl (hb hby at_25) (by decide) (by decide)
    obtain ⟨b2083, g2083⟩ : ∃ z, z = h0.size := ⟨_, rfl⟩
    rw [← g2083] at A2083 D2083 st2083
    have n0b2083 : n0 ≤ b2083 := Nat.le_trans Z0 (Nat.le_of_eq g2083.symm)
    have z2084 := Nat.le_trans Z0 E2083.1
    have F2083_elements : Fld Z h2083 b2083 cBL "elements" "[I" .null := D2083 (Or.inr (wi hw 12 rfl)) (ty := (.array .int)) (by decide)
    have F2083_location : Fld Z h2083 b2083 cBL "location" "[I" .null := D2083 (Or.inr (wi hw 14 rfl)) (ty := (.array .int)) (by decide)
    have F2083_blockOf : Fld Z h2083 b2083 cBL "blockOf" "[I" .null := D2083 (Or.inr (wi hw 16 rfl)) (ty := (.array .int)) (by decide)
    have F2083_first : Fld Z h2083 b2083 cBL "first" "[I" .null := D2083 (Or.inr (wi hw 18 rfl)) (ty := (.array .int)) (by decide)
    have F2083_end : Fld Z h2083 b2083 cBL "end" "[I" .null := D2083 (Or.inr (wi hw 20 rfl)) (ty := (.array .int)) (by decide)
    have F2083_markedEnd : Fld Z h2083 b2083 cBL "markedEnd" "[I" .null := D2083 (Or.inr (wi hw 22 rfl)) (ty := (.array .int)) (by decide)
    have F2083_touched : Fld Z h2083 b2083 cBL "touched" "[I" .null := D2083 (Or.inr (wi hw 24 rfl)) (ty := (.array .int)) (by decide)
    have F2083_blockCount : Fld Z h2083 b2083 cBL "blockCount" "I" (.int (0 : Int32)) := D2083 (Or.inl (wi hw 26 rfl)) (ty := .int) (by decide)
    refine Rch.go (U' := T2083.setTop (mkF m 28 #[iv p1, iv p2, iv p3, iv (0 : Int32), iv xx, iv yy, uv, uv, uv, uv, uv, uv, uv, uv, uv, uv, uv, uv] [(.ref b2083)])) st2083 ?_
    refine Rch.go (U' := T2083.setTop (mkF m 29 #[iv p1, iv p2, iv p3, iv (0 : Int32), iv xx, iv yy, uv, uv, uv, uv, uv, uv, uv, uv, uv, uv, uv, uv] [(.ref b2083), (.ref b2083)])) (fun _ k => XS.dup X2083.here hx rfl (hb hby at_28) rfl rfl k) ?_
    refine Rch.go (U' := T2083.setTop (mkF m 30 #[iv p1, iv p2, iv p3, iv (0 : Int32), iv xx, iv yy, uv, uv, uv, uv, uv, uv, uv, uv, uv, uv, uv, uv] [(.int (4 : Int32)), (.ref b2083), (.ref b2083)])) (fun _ k => XS.iconst X2083.here hx rfl (hb hby at_29) k) ?_
    obtain ⟨_, _, ⟨T2085, L2085, k2085, n2085⟩, -, X2085, ⟨Lc2085, hQ2085, l2085, y2085, z2085⟩, st2085⟩ := X2083.specialBack hx (y := yb) rfl hown (mvT hZ (wi hw 4 rfl)) (mvT hZ (wi hw 5 rfl)) (mvT hZ (wi hw 6 rfl)) (by decide) (backOf (W := 1) (rmB l Z a0 hw [] b2083 h2083 n0 z2084 A2083 F2083_elements F2083_location F2083_blockOf F2083_first F2083_end F2083_markedEnd F2083_touched F2083_blockCount n0b2083) hZ (wi hw 6 rfl) (wi hw 3 rfl) (by decide) (by decide)) (g := (mkF m 30 #[iv p1, iv p2, iv p3, iv (0 : Int32), iv xx, iv yy, uv, uv, uv, uv, uv, uv, uv, uv, uv, uv, uv, uv] [(.int (4 : Int32)), (.ref b2083), (.ref b2083)])) rfl (by rw [hml]; rfl) (Steps.refl _) (a := b2083) (argsL := [(.int (4 : Int32))]) (rest := [(.ref b2083)]) (lenOf pd_12 rfl) rfl (by show 2 * 0 + _ ≤ _; exact Nat.le_of_eq rfl) (hb hby at_30) (fun _ _ => ⟨rfl, e2083, (by decide : 1 + 7 ≤ _), (by decide : 9 + 28 ≤ _)⟩)
    dsimp only [Pt.U, Pt.locs, Pt.cells, Pt.slots] at X2085 l2085 y2085 z2085 st2085 hQ2085
    subst l2085 y2085 z2085
    obtain ⟨bfi, ben, rfl, N2085q, z2085, E_a2, FB_first, FB_end, ⟨k_fi, V_fi, l_fi⟩, ⟨k_en, V_en, l_en⟩, o1, o2, o3⟩ := hQ2085
    have N2085 := Fr.app N0 N2085q
    refine Rch.to (U' := T2085.setTop (mkF m 33 #[iv p1, iv p2, iv p3, iv (0 : Int32), iv xx, iv yy, uv, uv, uv, uv, uv, uv, uv, uv, uv, uv, uv, uv] [(.ref b2083)])) st2085 ?_
    refine Rch.go (U' := T2085.setTop (mkF m 35 #[iv p1, iv p2, iv p3, iv (0 : Int32), iv xx, iv yy, rv b2083, uv, uv, uv, uv, uv, uv, uv, uv, uv, uv, uv] [])) (fun _ k => XS.astore X2085.here hx rfl (hb hby at_33) rfl rfl (l' := #[iv p1, iv p2, iv p3, iv (0 : Int32), iv xx, iv yy, rv b2083, uv, uv, uv, uv, uv, uv, uv, uv, uv, uv, uv]) rfl k) ?_
    obtain ⟨T2086, h2086, X2086, e2086, E2086, A2086, D2086, -, st2086⟩ := newO X2085 hx hZ hown (wi hw 27 rfl) (wi hw 28 rfl) (wi hw 29 rfl) rfl (g := (mkF m 35 #[iv p1, iv p2, iv p3, iv (0 : Int32), iv xx, iv yy, rv b2083, uv, uv, uv, uv, uv, uv, uv, uv, uv, uv, uv] [])) rfl (hb hby at_35) (by decide) (by decide)
    obtain ⟨b2086, g2086⟩ : ∃ z, z = T2085.heap.size := ⟨_, rfl⟩
    rw [← g2086] at A2086 D2086 st2086
    have ne2087 : b2083 ≠ b2086 := Nat.ne_of_lt (Nat.lt_of_lt_of_le E_a2.lt (Nat.le_of_eq g2086.symm))
    have ne2088 : bfi ≠ b2086 := Nat.ne_of_lt (Nat.lt_of_lt_of_le V_fi.lt (Nat.le_of_eq g2086.symm))
    have ne2089 : ben ≠ b2086 := Nat.ne_of_lt (Nat.lt_of_lt_of_le V_en.lt (Nat.le_of_eq g2086.symm))
    have n0b2086 : n0 ≤ b2086 := Nat.le_trans z2085 (Nat.le_of_eq g2086.symm)
    have f2090 := E_a2.ext E2086
    have f2091 := FB_first.ext E2086
    have f2092 := FB_end.ext E2086
    have f2093 := V_fi.ext E2086
    have f2094 := V_en.ext E2086
    have z2095 := Nat.le_trans z2085 E2086.1
    have F2086_blocks : Fld Z h2086 b2086 cCB "blocks" "Lcom/example/fixpoints_of_behaviour/fixpointsofbehaviour/bisimulation/Blocks;" .null := D2086 (Or.inr (wi hw 35 rfl)) (ty := (.object cBL)) (by decide)
    have F2086_compoundOf : Fld Z h2086 b2086 cCB "compoundOf" "[I" .null := D2086 (Or.inr (wi hw 37 rfl)) (ty := (.array .int)) (by decide)
    have F2086_nextInCompound : Fld Z h2086 b2086 cCB "nextInCompound" "[I" .null := D2086 (Or.inr (wi hw 39 rfl)) (ty := (.array .int)) (by decide)
    have F2086_previousInCompound : Fld Z h2086 b2086 cCB "previousInCompound" "[I" .null := D2086 (Or.inr (wi hw 41 rfl)) (ty := (.array .int)) (by decide)
    have F2086_firstBlock : Fld Z h2086 b2086 cCB "firstBlock" "[I" .null := D2086 (Or.inr (wi hw 43 rfl)) (ty := (.array .int)) (by decide)
    have F2086_pending : Fld Z h2086 b2086 cCB "pending" "[I" .null := D2086 (Or.inr (wi hw 45 rfl)) (ty := (.array .int)) (by decide)
    have F2086_isPending : Fld Z h2086 b2086 cCB "isPending" "[Z" .null := D2086 (Or.inr (wi hw 48 rfl)) (ty := (.array .boolean)) (by decide)
    have F2086_compoundCount : Fld Z h2086 b2086 cCB "compoundCount" "I" (.int (0 : Int32)) := D2086 (Or.inl (wi hw 50 rfl)) (ty := .int) (by decide)
    have F2086_pendingCount : Fld Z h2086 b2086 cCB "pendingCount" "I" (.int (0 : Int32)) := D2086 (Or.inl (wi hw 57 rfl)) (ty := .int) (by decide)
    refine Rch.go (U' := T2086.setTop (mkF m 38 #[iv p1, iv p2, iv p3, iv (0 : Int32), iv xx, iv yy, rv b2083, uv, uv, uv, uv, uv, uv, uv, uv, uv, uv, uv] [(.ref b2086)])) st2086 ?_
    refine Rch.go (U' := T2086.setTop (mkF m 39 #[iv p1, iv p2, iv p3, iv (0 : Int32), iv xx, iv yy, rv b2083, uv, uv, uv, uv, uv, uv, uv, uv, uv, uv, uv] [(.ref b2086), (.ref b2086)])) (fun _ k => XS.dup X2086.here hx rfl (hb hby at_38) rfl rfl k) ?_
    refine Rch.go (U' := T2086.setTop (mkF m 41 #[iv p1, iv p2, iv p3, iv (0 : Int32), iv xx, iv yy, rv b2083, uv, uv, uv, uv, uv, uv, uv, uv, uv, uv, uv] [(.ref b2083), (.ref b2086), (.ref b2086)])) (fun _ k => XS.aload X2086.here hx rfl (hb hby at_39) rfl rfl k) ?_
    refine Rch.go (U' := T2086.setTop (mkF m 42 #[iv p1, iv p2, iv p3, iv (0 : Int32), iv xx, iv yy, rv b2083, uv, uv, uv, uv, uv, uv, uv, uv, uv, uv, uv] [(.int (4 : Int32)), (.ref b2083), (.ref b2086), (.ref b2086)])) (fun _ k => XS.iconst X2086.here hx rfl (hb hby at_41) k) ?_
    obtain ⟨_, _, ⟨T2096, L2096, k2096, n2096⟩, -, X2096, ⟨Lc2096, hQ2096, l2096, y2096, z2096⟩, st2096⟩ := X2086.specialBack hx (y := yi) rfl hown (mvT hZ (wi hw 30 rfl)) (mvT hZ (wi hw 31 rfl)) (mvT hZ (wi hw 32 rfl)) (by decide) (backOf (W := 1) (rmI l Z a0 hw [] b2086 b2083 bfi ben k_fi k_en h2086 n0 z2095 A2086 F2086_blocks F2086_compoundOf F2086_nextInCompound F2086_previousInCompound F2086_firstBlock F2086_pending F2086_isPending F2086_compoundCount F2086_pendingCount f2090 f2091 f2092 f2093 f2094 n0b2083 o1 o2 (by rw [g2086]; exact o3) n0b2086) hZ (wi hw 32 rfl) (wi hw 29 rfl) (by decide) (by decide)) (g := (mkF m 42 #[iv p1, iv p2, iv p3, iv (0 : Int32), iv xx, iv yy, rv b2083, uv, uv, uv, uv, uv, uv, uv, uv, uv, uv, uv] [(.int (4 : Int32)), (.ref b2083), (.ref b2086), (.ref b2086)])) rfl (by rw [hml]; rfl) (Steps.refl _) (a := b2086) (argsL := [(.ref b2083), (.int (4 : Int32))]) (rest := [(.ref b2086)]) (lenOf pd_13 rfl) rfl (by show 2 * 0 + _ ≤ _; exact Nat.le_of_eq rfl) (hb hby at_42) (fun _ _ => ⟨rfl, e2086, (by decide : 9 + 6 ≤ _), (by decide : 46 + 24 ≤ _)⟩)
    dsimp only [Pt.U, Pt.locs, Pt.cells, Pt.slots] at X2096 l2096 y2096 z2096 st2096 hQ2096
    subst l2096 y2096 z2096
    obtain ⟨bco, bnx, bpv, bfb, bpd, bip, rfl, N2096q, z2096, B2096⟩ := hQ2096
    have N2096 := Fr.app N2085 N2096q
    refine Rch.to (U' := T2096.setTop (mkF m 45 #[iv p1, iv p2, iv p3, iv (0 : Int32), iv xx, iv yy, rv b2083, uv, uv, uv, uv, uv, uv, uv, uv, uv, uv, uv] [(.ref b2086)])) st2096 ?_
    refine Rch.go (U' := T2096.setTop (mkF m 47 #[iv p1, iv p2, iv p3, iv (0 : Int32), iv xx, iv yy, rv b2083, rv b2086, uv, uv, uv, uv, uv, uv, uv, uv, uv, uv] [])) (fun _ k => XS.astore X2096.here hx rfl (hb hby at_45) rfl rfl (l' := #[iv p1, iv p2, iv p3, iv (0 : Int32), iv xx, iv yy, rv b2083, rv b2086, uv, uv, uv, uv, uv, uv, uv, uv, uv, uv]) rfl k) ?_
    refine Rch.go (U' := T2096.setTop (mkF m 49 #[iv p1, iv p2, iv p3, iv (0 : Int32), iv xx, iv yy, rv b2083, rv b2086, uv, uv, uv, uv, uv, uv, uv, uv, uv, uv] [(.ref b2086)])) (fun _ k => XS.aload X2096.here hx rfl (hb hby at_47) rfl rfl k) ?_
    refine Rch.go (U' := T2096.setTop (mkF m 50 #[iv p1, iv p2, iv p3, iv (0 : Int32), iv xx, iv yy, rv b2083, rv b2086, uv, uv, uv, uv, uv, uv, uv, uv, uv, uv] [(.int (0 : Int32)), (.ref b2086)])) (fun _ k => XS.iconst X2096.here hx rfl (hb hby at_49) k) ?_
    refine Rch.go (U' := T2096.setTop (mkF m 51 #[iv p1, iv p2, iv p3, iv (0 : Int32), iv xx, iv yy, rv b2083, rv b2086, uv, uv, uv, uv, uv, uv, uv, uv, uv, uv] [(.int (1 : Int32)), (.int (0 : Int32)), (.ref b2086)])) (fun _ k => XS.iconst X2096.here hx rfl (hb hby at_50) k) ?_
    obtain ⟨cq2097, kq2097, q2097a, q2097b, q2097c⟩ := isOf hZ rfl B2096.1.1
    obtain ⟨_, _, ⟨T2097, L2097, k2097, n2097⟩, -, X2097, ⟨Lc2097, hQ2097, l2097, y2097, z2097⟩, st2097⟩ := X2096.virtualBack hx (y := yj) (z := yj) hown (mvT hZ (wi hw 51 rfl)) (mvT hZ (wi hw 52 rfl)) (notFace_of_selects (args := #[]) (mvT hZ (wi hw 54 rfl))) (mvT hZ (wi hw 54 rfl)) (mvT hZ (wi hw 53 rfl)) (by decide) (backOf (W := 0) (rmJ l Z a0 hw [] b2086 b2083 bco bnx bpv bfb bpd bip bfi ben [0, 0, 0, 0] [-1, 0, 0, 0] [-1, 0, 0, 0] [0, 0, 0, 0] [0, 0, 0, 0] [0, 0, 0, 0] (1 : Int32) (0 : Int32) (0 : Int32) (1 : Int32) T2096.heap n0 z2096 B2096 (by decide)) hZ (wi hw 55 rfl) (wi hw 29 rfl) (by decide) (by decide)) q2097a q2097c (g := (mkF m 51 #[iv p1, iv p2, iv p3, iv (0 : Int32), iv xx, iv yy, rv b2083, rv b2086, uv, uv, uv, uv, uv, uv, uv, uv, uv, uv] [(.int (1 : Int32)), (.int (0 : Int32)), (.ref b2086)])) rfl (by rw [hml]; rfl) (Steps.refl _) (argsL := [(.int (0 : Int32)), (.int (1 : Int32))]) (rest := []) (lenOf pd_8 rfl) rfl (by show 2 * 0 + _ ≤ _; exact Nat.le_of_eq rfl) (hb hby at_51) (fun _ _ => ⟨rfl, rfl, (by decide : 15 + 0 ≤ _), (by decide : 70 + 0 ≤ _)⟩)
    dsimp only [Pt.U, Pt.locs, Pt.cells, Pt.slots] at X2097 l2097 y2097 z2097 st2097 hQ2097
    subst l2097 y2097 z2097
    obtain ⟨rfl, N2097q, z2097, C2097⟩ := hQ2097
    have N2097 := Fr.app N2096 N2097q
    rw [(by rfl : own_join [0, 0, 0, 0] [-1, 0, 0, 0] [-1, 0, 0, 0] [0, 0, 0, 0] [0, 0, 0, 0] [0, 0, 0, 0] (1 : Int32) (0 : Int32) (0 : Int32) (1 : Int32) = ([0, 0, 0, 0], [1, -1, 0, 0], [-1, 0, 0, 0], [0, 0, 0, 0], [0, 0, 0, 0], [1, 0, 0, 0], (1 : Int32), (1 : Int32)))] at C2097
    have B2097 : Cb Z T2097.heap n0 b2086 b2083 bco bnx bpv bfb bpd bip bfi ben [0, 0, 0, 0] [1, -1, 0, 0] [-1, 0, 0, 0] [0, 0, 0, 0] [0, 0, 0, 0] [1, 0, 0, 0] (1 : Int32) (1 : Int32) := C2097
    refine Rch.to (U' := T2097.setTop (mkF m 54 #[iv p1, iv p2, iv p3, iv (0 : Int32), iv xx, iv yy, rv b2083, rv b2086, uv, uv, uv, uv, uv, uv, uv, uv, uv, uv] [])) st2097 ?_
    rcases own_f2 p2 with q | q <;> rw [hxx] at q <;> subst q <;> rcases own_n3 p3 with q | q | q <;> rw [hyy] at q <;> subst q
    · exact cut54_000 p1 p2 p3 b2086 b2083 bco bnx bpv bfb bpd bip bfi ben X2097 hx hZ hw hby hml hown hret hlk rfl N2097 z2097 B2097
    · exact cut54_001 p1 p2 p3 b2086 b2083 bco bnx bpv bfb bpd bip bfi ben X2097 hx hZ hw hby hml hown hret hlk rfl N2097 z2097 B2097
    · exact cut54_002 p1 p2 p3 b2086 b2083 bco bnx bpv bfb bpd bip bfi ben X2097 hx hZ hw hby hml hown hret hlk rfl N2097 z2097 B2097
    · exact cut54_010 p1 p2 p3 b2086 b2083 bco bnx bpv bfb bpd bip bfi ben X2097 hx hZ hw hby hml hown hret hlk rfl N2097 z2097 B2097
    · exact cut54_011 p1 p2 p3 b2086 b2083 bco bnx bpv bfb bpd bip bfi ben X2097 hx hZ hw hby hml hown hret hlk rfl N2097 z2097 B2097
    · exact cut54_012 p1 p2 p3 b2086 b2083 bco bnx bpv bfb bpd bip bfi ben X2097 hx hZ hw hby hml hown hret hlk rfl N2097 z2097 B2097
  ·
    refine Rch.go (U' := s₁.setTop (mkF m 6 #[iv p1, iv p2, iv p3, uv, uv, uv, uv, uv, uv, uv, uv, uv, uv, uv, uv, uv, uv, uv] [])) (fun _ k => XS.ifNo X0.here hx rfl (hb hby at_3) rfl (XT.i0_eq_f br2082) k) ?_
    refine Rch.go (U' := s₁.setTop (mkF m 7 #[iv p1, iv p2, iv p3, uv, uv, uv, uv, uv, uv, uv, uv, uv, uv, uv, uv, uv, uv, uv] [(.int (1 : Int32))])) (fun _ k => XS.iconst X0.here hx rfl (hb hby at_6) k) ?_
    refine Rch.go (U' := s₁.setTop (mkF m 11 #[iv p1, iv p2, iv p3, uv, uv, uv, uv, uv, uv, uv, uv, uv, uv, uv, uv, uv, uv, uv] [(.int (1 : Int32))])) (fun _ k => XS.goto X0.here hx rfl (pc0 := 7) (pc' := 11) rfl (hb hby at_7) (by decide) (by decide) k) ?_
    refine Rch.go (U' := s₁.setTop (mkF m 12 #[iv p1, iv p2, iv p3, iv (1 : Int32), uv, uv, uv, uv, uv, uv, uv, uv, uv, uv, uv, uv, uv, uv] [])) (fun _ k => XS.istoreN X0.here hx rfl (hb hby at_11) rfl (l' := #[iv p1, iv p2, iv p3, iv (1 : Int32), uv, uv, uv, uv, uv, uv, uv, uv, uv, uv, uv, uv, uv, uv]) rfl k) ?_
    refine Rch.go (U' := s₁.setTop (mkF m 13 #[iv p1, iv p2, iv p3, iv (1 : Int32), uv, uv, uv, uv, uv, uv, uv, uv, uv, uv, uv, uv, uv, uv] [(.int p2)])) (fun _ k => XS.iloadN X0.here hx rfl (hb hby at_12) rfl  k) ?_
    refine Rch.go (U' := s₁.setTop (mkF m 14 #[iv p1, iv p2, iv p3, iv (1 : Int32), uv, uv, uv, uv, uv, uv, uv, uv, uv, uv, uv, uv, uv, uv] [(.int (1 : Int32)), (.int p2)])) (fun _ k => XS.iconst X0.here hx rfl (hb hby at_13) k) ?_
    refine Rch.go (U' := s₁.setTop (mkF m 15 #[iv p1, iv p2, iv p3, iv (1 : Int32), uv, uv, uv, uv, uv, uv, uv, uv, uv, uv, uv, uv, uv, uv] [(.int (p2 &&& (1 : Int32)))])) (fun _ k => XS.iand X0.here hx rfl (hb hby at_14) rfl k) ?_
    generalize hxx : (p2 &&& (1 : Int32)) = xx
    refine Rch.go (U' := s₁.setTop (mkF m 17 #[iv p1, iv p2, iv p3, iv (1 : Int32), iv xx, uv, uv, uv, uv, uv, uv, uv, uv, uv, uv, uv, uv, uv] [])) (fun _ k => XS.istore X0.here hx rfl (hb hby at_15) rfl (l' := #[iv p1, iv p2, iv p3, iv (1 : Int32), iv xx, uv, uv, uv, uv, uv, uv, uv, uv, uv, uv, uv, uv, uv]) rfl k) ?_
    refine Rch.go (U' := s₁.setTop (mkF m 18 #[iv p1, iv p2, iv p3, iv (1 : Int32), iv xx, uv, uv, uv, uv, uv, uv, uv, uv, uv, uv, uv, uv, uv] [(.int p3)])) (fun _ k => XS.iloadN X0.here hx rfl (hb hby at_17) rfl  k) ?_
    refine Rch.go (U' := s₁.setTop (mkF m 20 #[iv p1, iv p2, iv p3, iv (1 : Int32), iv xx, uv, uv, uv, uv, uv, uv, uv, uv, uv, uv, uv, uv, uv] [(.int (2147483647 : Int32)), (.int p3)])) (fun _ k => X0.ldcInt hx hown (mvT hZ (wi hw 0 rfl)) (g := (mkF m 18 #[iv p1, iv p2, iv p3, iv (1 : Int32), iv xx, uv, uv, uv, uv, uv, uv, uv, uv, uv, uv, uv, uv, uv] [(.int p3)])) rfl (hb hby at_18) _ k) ?_
    refine Rch.go (U' := s₁.setTop (mkF m 21 #[iv p1, iv p2, iv p3, iv (1 : Int32), iv xx, uv, uv, uv, uv, uv, uv, uv, uv, uv, uv, uv, uv, uv] [(.int (p3 &&& (2147483647 : Int32)))])) (fun _ k => XS.iand X0.here hx rfl (hb hby at_20) rfl k) ?_
    refine Rch.go (U' := s₁.setTop (mkF m 22 #[iv p1, iv p2, iv p3, iv (1 : Int32), iv xx, uv, uv, uv, uv, uv, uv, uv, uv, uv, uv, uv, uv, uv] [(.int (3 : Int32)), (.int (p3 &&& (2147483647 : Int32)))])) (fun _ k => XS.iconst X0.here hx rfl (hb hby at_21) k) ?_
    refine Rch.go (U' := s₁.setTop (mkF m 23 #[iv p1, iv p2, iv p3, iv (1 : Int32), iv xx, uv, uv, uv, uv, uv, uv, uv, uv, uv, uv, uv, uv, uv] [(.int ((p3 &&& (2147483647 : Int32)) % (3 : Int32)))])) (fun _ k => iremM X0 hx rfl (hb hby at_22) rfl (by decide) k) ?_
    generalize hyy : ((p3 &&& (2147483647 : Int32)) % (3 : Int32)) = yy
    refine Rch.go (U' := s₁.setTop (mkF m 25 #[iv p1, iv p2, iv p3, iv (1 : Int32), iv xx, iv yy, uv, uv, uv, uv, uv, uv, uv, uv, uv, uv, uv, uv] [])) (fun _ k => XS.istore X0.here hx rfl (hb hby at_23) rfl (l' := #[iv p1, iv p2, iv p3, iv (1 : Int32), iv xx, iv yy, uv, uv, uv, uv, uv, uv, uv, uv, uv, uv, uv, uv]) rfl k) ?_
    obtain ⟨T2098, h2098, X2098, e2098, E2098, A2098, D2098, -, st2098⟩ := newO X0 hx hZ hown (wi hw 1 rfl) (wi hw 2 rfl) (wi hw 3 rfl) e0 (g := (mkF m 25 #[iv p1, iv p2, iv p3, iv (1 : Int32), iv xx, iv yy, uv, uv, uv, uv, uv, uv, uv, uv, uv, uv, uv, uv] [])) rfl (hb hby at_25) (by decide) (by decide)
    obtain ⟨b2098, g2098⟩ : ∃ z, z = h0.size := ⟨_, rfl⟩
    rw [← g2098] at A2098 D2098 st2098
    have n0b2098 : n0 ≤ b2098 := Nat.le_trans Z0 (Nat.le_of_eq g2098.symm)
    have z2099 := Nat.le_trans Z0 E2098.1
    have F2098_elements : Fld Z h2098 b2098 cBL "elements" "[I" .null := D2098 (Or.inr (wi hw 12 rfl)) (ty := (.array .int)) (by decide)
    have F2098_location : Fld Z h2098 b2098 cBL "location" "[I" .null := D2098 (Or.inr (wi hw 14 rfl)) (ty := (.array .int)) (by decide)
    have F2098_blockOf : Fld Z h2098 b2098 cBL "blockOf" "[I" .null := D2098 (Or.inr (wi hw 16 rfl)) (ty := (.array .int)) (by decide)
    have F2098_first : Fld Z h2098 b2098 cBL "first" "[I" .null := D2098 (Or.inr (wi hw 18 rfl)) (ty := (.array .int)) (by decide)
    have F2098_end : Fld Z h2098 b2098 cBL "end" "[I" .null := D2098 (Or.inr (wi hw 20 rfl)) (ty := (.array .int)) (by decide)
    have F2098_markedEnd : Fld Z h2098 b2098 cBL "markedEnd" "[I" .null := D2098 (Or.inr (wi hw 22 rfl)) (ty := (.array .int)) (by decide)
    have F2098_touched : Fld Z h2098 b2098 cBL "touched" "[I" .null := D2098 (Or.inr (wi hw 24 rfl)) (ty := (.array .int)) (by decide)
    have F2098_blockCount : Fld Z h2098 b2098 cBL "blockCount" "I" (.int (0 : Int32)) := D2098 (Or.inl (wi hw 26 rfl)) (ty := .int) (by decide)
    refine Rch.go (U' := T2098.setTop (mkF m 28 #[iv p1, iv p2, iv p3, iv (1 : Int32), iv xx, iv yy, uv, uv, uv, uv, uv, uv, uv, uv, uv, uv, uv, uv] [(.ref b2098)])) st2098 ?_
    refine Rch.go (U' := T2098.setTop (mkF m 29 #[iv p1, iv p2, iv p3, iv (1 : Int32), iv xx, iv yy, uv, uv, uv, uv, uv, uv, uv, uv, uv, uv, uv, uv] [(.ref b2098), (.ref b2098)])) (fun _ k => XS.dup X2098.here hx rfl (hb hby at_28) rfl rfl k) ?_
    refine Rch.go (U' := T2098.setTop (mkF m 30 #[iv p1, iv p2, iv p3, iv (1 : Int32), iv xx, iv yy, uv, uv, uv, uv, uv, uv, uv, uv, uv, uv, uv, uv] [(.int (4 : Int32)), (.ref b2098), (.ref b2098)])) (fun _ k => XS.iconst X2098.here hx rfl (hb hby at_29) k) ?_
    obtain ⟨_, _, ⟨T2100, L2100, k2100, n2100⟩, -, X2100, ⟨Lc2100, hQ2100, l2100, y2100, z2100⟩, st2100⟩ := X2098.specialBack hx (y := yb) rfl hown (mvT hZ (wi hw 4 rfl)) (mvT hZ (wi hw 5 rfl)) (mvT hZ (wi hw 6 rfl)) (by decide) (backOf (W := 1) (rmB l Z a0 hw [] b2098 h2098 n0 z2099 A2098 F2098_elements F2098_location F2098_blockOf F2098_first F2098_end F2098_markedEnd F2098_touched F2098_blockCount n0b2098) hZ (wi hw 6 rfl) (wi hw 3 rfl) (by decide) (by decide)) (g := (mkF m 30 #[iv p1, iv p2, iv p3, iv (1 : Int32), iv xx, iv yy, uv, uv, uv, uv, uv, uv, uv, uv, uv, uv, uv, uv] [(.int (4 : Int32)), (.ref b2098), (.ref b2098)])) rfl (by rw [hml]; rfl) (Steps.refl _) (a := b2098) (argsL := [(.int (4 : Int32))]) (rest := [(.ref b2098)]) (lenOf pd_12 rfl) rfl (by show 2 * 0 + _ ≤ _; exact Nat.le_of_eq rfl) (hb hby at_30) (fun _ _ => ⟨rfl, e2098, (by decide : 1 + 7 ≤ _), (by decide : 9 + 28 ≤ _)⟩)
    dsimp only [Pt.U, Pt.locs, Pt.cells, Pt.slots] at X2100 l2100 y2100 z2100 st2100 hQ2100
    subst l2100 y2100 z2100
    obtain ⟨bfi, ben, rfl, N2100q, z2100, E_a2, FB_first, FB_end, ⟨k_fi, V_fi, l_fi⟩, ⟨k_en, V_en, l_en⟩, o1, o2, o3⟩ := hQ2100
    have N2100 := Fr.app N0 N2100q
    refine Rch.to (U' := T2100.setTop (mkF m 33 #[iv p1, iv p2, iv p3, iv (1 : Int32), iv xx, iv yy, uv, uv, uv, uv, uv, uv, uv, uv, uv, uv, uv, uv] [(.ref b2098)])) st2100 ?_
    refine Rch.go (U' := T2100.setTop (mkF m 35 #[iv p1, iv p2, iv p3, iv (1 : Int32), iv xx, iv yy, rv b2098, uv, uv, uv, uv, uv, uv, uv, uv, uv, uv, uv] [])) (fun _ k => XS.astore X2100.here hx rfl (hb hby at_33) rfl rfl (l' := #[iv p1, iv p2, iv p3, iv (1 : Int32), iv xx, iv yy, rv b2098, uv, uv, uv, uv, uv, uv, uv, uv, uv, uv, uv]) rfl k) ?_
    obtain ⟨T2101, h2101, X2101, e2101, E2101, A2101, D2101, -, st2101⟩ := newO X2100 hx hZ hown (wi hw 27 rfl) (wi hw 28 rfl) (wi hw 29 rfl) rfl (g := (mkF m 35 #[iv p1, iv p2, iv p3, iv (1 : Int32), iv xx, iv yy, rv b2098, uv, uv, uv, uv, uv, uv, uv, uv, uv, uv, uv] [])) rfl (hb hby at_35) (by decide) (by decide)
    obtain ⟨b2101, g2101⟩ : ∃ z, z = T2100.heap.size := ⟨_, rfl⟩
    rw [← g2101] at A2101 D2101 st2101
    have ne2102 : b2098 ≠ b2101 := Nat.ne_of_lt (Nat.lt_of_lt_of_le E_a2.lt (Nat.le_of_eq g2101.symm))
    have ne2103 : bfi ≠ b2101 := Nat.ne_of_lt (Nat.lt_of_lt_of_le V_fi.lt (Nat.le_of_eq g2101.symm))
    have ne2104 : ben ≠ b2101 := Nat.ne_of_lt (Nat.lt_of_lt_of_le V_en.lt (Nat.le_of_eq g2101.symm))
    have n0b2101 : n0 ≤ b2101 := Nat.le_trans z2100 (Nat.le_of_eq g2101.symm)
    have f2105 := E_a2.ext E2101
    have f2106 := FB_first.ext E2101
    have f2107 := FB_end.ext E2101
    have f2108 := V_fi.ext E2101
    have f2109 := V_en.ext E2101
    have z2110 := Nat.le_trans z2100 E2101.1
    have F2101_blocks : Fld Z h2101 b2101 cCB "blocks" "Lcom/example/fixpoints_of_behaviour/fixpointsofbehaviour/bisimulation/Blocks;" .null := D2101 (Or.inr (wi hw 35 rfl)) (ty := (.object cBL)) (by decide)
    have F2101_compoundOf : Fld Z h2101 b2101 cCB "compoundOf" "[I" .null := D2101 (Or.inr (wi hw 37 rfl)) (ty := (.array .int)) (by decide)
    have F2101_nextInCompound : Fld Z h2101 b2101 cCB "nextInCompound" "[I" .null := D2101 (Or.inr (wi hw 39 rfl)) (ty := (.array .int)) (by decide)
    have F2101_previousInCompound : Fld Z h2101 b2101 cCB "previousInCompound" "[I" .null := D2101 (Or.inr (wi hw 41 rfl)) (ty := (.array .int)) (by decide)
    have F2101_firstBlock : Fld Z h2101 b2101 cCB "firstBlock" "[I" .null := D2101 (Or.inr (wi hw 43 rfl)) (ty := (.array .int)) (by decide)
    have F2101_pending : Fld Z h2101 b2101 cCB "pending" "[I" .null := D2101 (Or.inr (wi hw 45 rfl)) (ty := (.array .int)) (by decide)
    have F2101_isPending : Fld Z h2101 b2101 cCB "isPending" "[Z" .null := D2101 (Or.inr (wi hw 48 rfl)) (ty := (.array .boolean)) (by decide)
    have F2101_compoundCount : Fld Z h2101 b2101 cCB "compoundCount" "I" (.int (0 : Int32)) := D2101 (Or.inl (wi hw 50 rfl)) (ty := .int) (by decide)
    have F2101_pendingCount : Fld Z h2101 b2101 cCB "pendingCount" "I" (.int (0 : Int32)) := D2101 (Or.inl (wi hw 57 rfl)) (ty := .int) (by decide)
    refine Rch.go (U' := T2101.setTop (mkF m 38 #[iv p1, iv p2, iv p3, iv (1 : Int32), iv xx, iv yy, rv b2098, uv, uv, uv, uv, uv, uv, uv, uv, uv, uv, uv] [(.ref b2101)])) st2101 ?_
    refine Rch.go (U' := T2101.setTop (mkF m 39 #[iv p1, iv p2, iv p3, iv (1 : Int32), iv xx, iv yy, rv b2098, uv, uv, uv, uv, uv, uv, uv, uv, uv, uv, uv] [(.ref b2101), (.ref b2101)])) (fun _ k => XS.dup X2101.here hx rfl (hb hby at_38) rfl rfl k) ?_
    refine Rch.go (U' := T2101.setTop (mkF m 41 #[iv p1, iv p2, iv p3, iv (1 : Int32), iv xx, iv yy, rv b2098, uv, uv, uv, uv, uv, uv, uv, uv, uv, uv, uv] [(.ref b2098), (.ref b2101), (.ref b2101)])) (fun _ k => XS.aload X2101.here hx rfl (hb hby at_39) rfl rfl k) ?_
    refine Rch.go (U' := T2101.setTop (mkF m 42 #[iv p1, iv p2, iv p3, iv (1 : Int32), iv xx, iv yy, rv b2098, uv, uv, uv, uv, uv, uv, uv, uv, uv, uv, uv] [(.int (4 : Int32)), (.ref b2098), (.ref b2101), (.ref b2101)])) (fun _ k => XS.iconst X2101.here hx rfl (hb hby at_41) k) ?_
    obtain ⟨_, _, ⟨T2111, L2111, k2111, n2111⟩, -, X2111, ⟨Lc2111, hQ2111, l2111, y2111, z2111⟩, st2111⟩ := X2101.specialBack hx (y := yi) rfl hown (mvT hZ (wi hw 30 rfl)) (mvT hZ (wi hw 31 rfl)) (mvT hZ (wi hw 32 rfl)) (by decide) (backOf (W := 1) (rmI l Z a0 hw [] b2101 b2098 bfi ben k_fi k_en h2101 n0 z2110 A2101 F2101_blocks F2101_compoundOf F2101_nextInCompound F2101_previousInCompound F2101_firstBlock F2101_pending F2101_isPending F2101_compoundCount F2101_pendingCount f2105 f2106 f2107 f2108 f2109 n0b2098 o1 o2 (by rw [g2101]; exact o3) n0b2101) hZ (wi hw 32 rfl) (wi hw 29 rfl) (by decide) (by decide)) (g := (mkF m 42 #[iv p1, iv p2, iv p3, iv (1 : Int32), iv xx, iv yy, rv b2098, uv, uv, uv, uv, uv, uv, uv, uv, uv, uv, uv] [(.int (4 : Int32)), (.ref b2098), (.ref b2101), (.ref b2101)])) rfl (by rw [hml]; rfl) (Steps.refl _) (a := b2101) (argsL := [(.ref b2098), (.int (4 : Int32))]) (rest := [(.ref b2101)]) (lenOf pd_13 rfl) rfl (by show 2 * 0 + _ ≤ _; exact Nat.le_of_eq rfl) (hb hby at_42) (fun _ _ => ⟨rfl, e2101, (by decide : 9 + 6 ≤ _), (by decide : 46 + 24 ≤ _)⟩)
    dsimp only [Pt.U, Pt.locs, Pt.cells, Pt.slots] at X2111 l2111 y2111 z2111 st2111 hQ2111
    subst l2111 y2111 z2111
    obtain ⟨bco, bnx, bpv, bfb, bpd, bip, rfl, N2111q, z2111, B2111⟩ := hQ2111
    have N2111 := Fr.app N2100 N2111q
    refine Rch.to (U' := T2111.setTop (mkF m 45 #[iv p1, iv p2, iv p3, iv (1 : Int32), iv xx, iv yy, rv b2098, uv, uv, uv, uv, uv, uv, uv, uv, uv, uv, uv] [(.ref b2101)])) st2111 ?_
    refine Rch.go (U' := T2111.setTop (mkF m 47 #[iv p1, iv p2, iv p3, iv (1 : Int32), iv xx, iv yy, rv b2098, rv b2101, uv, uv, uv, uv, uv, uv, uv, uv, uv, uv] [])) (fun _ k => XS.astore X2111.here hx rfl (hb hby at_45) rfl rfl (l' := #[iv p1, iv p2, iv p3, iv (1 : Int32), iv xx, iv yy, rv b2098, rv b2101, uv, uv, uv, uv, uv, uv, uv, uv, uv, uv]) rfl k) ?_
    refine Rch.go (U' := T2111.setTop (mkF m 49 #[iv p1, iv p2, iv p3, iv (1 : Int32), iv xx, iv yy, rv b2098, rv b2101, uv, uv, uv, uv, uv, uv, uv, uv, uv, uv] [(.ref b2101)])) (fun _ k => XS.aload X2111.here hx rfl (hb hby at_47) rfl rfl k) ?_
    refine Rch.go (U' := T2111.setTop (mkF m 50 #[iv p1, iv p2, iv p3, iv (1 : Int32), iv xx, iv yy, rv b2098, rv b2101, uv, uv, uv, uv, uv, uv, uv, uv, uv, uv] [(.int (0 : Int32)), (.ref b2101)])) (fun _ k => XS.iconst X2111.here hx rfl (hb hby at_49) k) ?_
    refine Rch.go (U' := T2111.setTop (mkF m 51 #[iv p1, iv p2, iv p3, iv (1 : Int32), iv xx, iv yy, rv b2098, rv b2101, uv, uv, uv, uv, uv, uv, uv, uv, uv, uv] [(.int (1 : Int32)), (.int (0 : Int32)), (.ref b2101)])) (fun _ k => XS.iconst X2111.here hx rfl (hb hby at_50) k) ?_
    obtain ⟨cq2112, kq2112, q2112a, q2112b, q2112c⟩ := isOf hZ rfl B2111.1.1
    obtain ⟨_, _, ⟨T2112, L2112, k2112, n2112⟩, -, X2112, ⟨Lc2112, hQ2112, l2112, y2112, z2112⟩, st2112⟩ := X2111.virtualBack hx (y := yj) (z := yj) hown (mvT hZ (wi hw 51 rfl)) (mvT hZ (wi hw 52 rfl)) (notFace_of_selects (args := #[]) (mvT hZ (wi hw 54 rfl))) (mvT hZ (wi hw 54 rfl)) (mvT hZ (wi hw 53 rfl)) (by decide) (backOf (W := 0) (rmJ l Z a0 hw [] b2101 b2098 bco bnx bpv bfb bpd bip bfi ben [0, 0, 0, 0] [-1, 0, 0, 0] [-1, 0, 0, 0] [0, 0, 0, 0] [0, 0, 0, 0] [0, 0, 0, 0] (1 : Int32) (0 : Int32) (0 : Int32) (1 : Int32) T2111.heap n0 z2111 B2111 (by decide)) hZ (wi hw 55 rfl) (wi hw 29 rfl) (by decide) (by decide)) q2112a q2112c (g := (mkF m 51 #[iv p1, iv p2, iv p3, iv (1 : Int32), iv xx, iv yy, rv b2098, rv b2101, uv, uv, uv, uv, uv, uv, uv, uv, uv, uv] [(.int (1 : Int32)), (.int (0 : Int32)), (.ref b2101)])) rfl (by rw [hml]; rfl) (Steps.refl _) (argsL := [(.int (0 : Int32)), (.int (1 : Int32))]) (rest := []) (lenOf pd_8 rfl) rfl (by show 2 * 0 + _ ≤ _; exact Nat.le_of_eq rfl) (hb hby at_51) (fun _ _ => ⟨rfl, rfl, (by decide : 15 + 0 ≤ _), (by decide : 70 + 0 ≤ _)⟩)
    dsimp only [Pt.U, Pt.locs, Pt.cells, Pt.slots] at X2112 l2112 y2112 z2112 st2112 hQ2112
    subst l2112 y2112 z2112
    obtain ⟨rfl, N2112q, z2112, C2112⟩ := hQ2112
    have N2112 := Fr.app N2111 N2112q
    rw [(by rfl : own_join [0, 0, 0, 0] [-1, 0, 0, 0] [-1, 0, 0, 0] [0, 0, 0, 0] [0, 0, 0, 0] [0, 0, 0, 0] (1 : Int32) (0 : Int32) (0 : Int32) (1 : Int32) = ([0, 0, 0, 0], [1, -1, 0, 0], [-1, 0, 0, 0], [0, 0, 0, 0], [0, 0, 0, 0], [1, 0, 0, 0], (1 : Int32), (1 : Int32)))] at C2112
    have B2112 : Cb Z T2112.heap n0 b2101 b2098 bco bnx bpv bfb bpd bip bfi ben [0, 0, 0, 0] [1, -1, 0, 0] [-1, 0, 0, 0] [0, 0, 0, 0] [0, 0, 0, 0] [1, 0, 0, 0] (1 : Int32) (1 : Int32) := C2112
    refine Rch.to (U' := T2112.setTop (mkF m 54 #[iv p1, iv p2, iv p3, iv (1 : Int32), iv xx, iv yy, rv b2098, rv b2101, uv, uv, uv, uv, uv, uv, uv, uv, uv, uv] [])) st2112 ?_
    rcases own_f2 p2 with q | q <;> rw [hxx] at q <;> subst q <;> rcases own_n3 p3 with q | q | q <;> rw [hyy] at q <;> subst q
    · exact cut54_100 p1 p2 p3 b2101 b2098 bco bnx bpv bfb bpd bip bfi ben X2112 hx hZ hw hby hml hown hret hlk rfl N2112 z2112 B2112
    · exact cut54_101 p1 p2 p3 b2101 b2098 bco bnx bpv bfb bpd bip bfi ben X2112 hx hZ hw hby hml hown hret hlk rfl N2112 z2112 B2112
    · exact cut54_102 p1 p2 p3 b2101 b2098 bco bnx bpv bfb bpd bip bfi ben X2112 hx hZ hw hby hml hown hret hlk rfl N2112 z2112 B2112
    · exact cut54_110 p1 p2 p3 b2101 b2098 bco bnx bpv bfb bpd bip bfi ben X2112 hx hZ hw hby hml hown hret hlk rfl N2112 z2112 B2112
    · exact cut54_111 p1 p2 p3 b2101 b2098 bco bnx bpv bfb bpd bip bfi ben X2112 hx hZ hw hby hml hown hret hlk rfl N2112 z2112 B2112
    · exact cut54_112 p1 p2 p3 b2101 b2098 bco bnx bpv bfb bpd bip bfi ben X2112 hx hZ hw hby hml hown hret hlk rfl N2112 z2112 B2112
set_option maxRecDepth 65536 in
set_option maxHeartbeats 40000000 in
theorem comes_1 {Post : Tables → Env → Array Value → State → Outcome → State → Prop} (hpost : ∀ tb e args s v u, (limb_1_1.after args s (.returned v) u = true ∧ limb_1_2.after args s (.returned v) u = true ∧ True) → FrameEnd s (.returned v) u (Jvm.fieldLocs frame_1_writes args s ++ Jvm.arrayLocs frame_1_arrays args s ++ Jvm.staticLocs frame_1_statics s) 40 256 → Post tb e args s (.returned v) u) :
    ArmFor flags0 classFile x code maxLocals ret World_1 tables_1 room_1 Calls_1 rest_1 Pre_1 Post := by
  intro l hfl _ _ p e ha hc hk s m args below hf hA hF happ hP
  obtain ⟨hcalls, hrest, hpre⟩ := hP
  obtain ⟨-, -, -, hnamed, -, -, -, hat⟩ := (Spec.applies_iff hf).mp happ
  obtain ⟨hg, hn⟩ := and_e (Cond.before_iff.mp (show (Jvm.Cond.and given_1 narrow_1).before args s = true from hpre))
  obtain ⟨hcount, hg0⟩ := and_e hg
  obtain ⟨ga0, hg1⟩ := and_e hg0
  obtain ⟨ga1, hg2⟩ := and_e hg1
  obtain ⟨w0, w1, w2, rfl⟩ : ∃ w0 w1 w2 : Value, args = #[w0, w1, w2] := by
    have hs : args.size = 3 := by simpa [Cond.value, given_1] using hcount
    obtain ⟨L⟩ := args
    match L, hs with
    | [w0, w1, w2], _ => exact ⟨w0, w1, w2, rfl⟩
  have hw := fun d (hd : d ∈ tables_1) => atoms_spec (ws := Jvm.Cond.code x code maxLocals ret :: tables_1) hat d (List.mem_cons_of_mem _ hd)
  obtain ⟨i0, ei0⟩ := is_v ga0
  obtain rfl : w0 = (.int i0) := Option.some.inj ei0
  obtain ⟨i1, ei1⟩ := is_v ga1
  obtain rfl : w1 = (.int i1) := Option.some.inj ei1
  obtain ⟨i2, ei2⟩ := is_v hg2
  obtain rfl : w2 = (.int i2) := Option.some.inj ei2
  obtain ⟨n, o, h1, h2, h3, _, L, rfl, ⟨rfl, N⟩, hq⟩ := rm0 l s _ hw tables_1 i0 i1 i2 s.heap s.heap.size (Nat.le_refl _)  p e ha hc hk s m _ below hf ((Spec.applies_iff_loose hf).mp happ).1 ⟨rfl, State.Warmed39.refl s, rfl⟩ trivial
  refine ⟨n, _, h1, h2, h3, hpost _ _ _ _ _ _ ⟨Cond.after_iff.mpr rfl, Cond.after_iff.mpr (eq_i res_at (Term.int_eval (1)) rfl), trivial⟩ ⟨hq.1, hq.2.1, (hq.2.2.sift fun y hy => Or.inr (N y hy)).mono (by decide) (by decide)⟩⟩
theorem main_1_1 : Claimed_1_1 := comes_1 fun _ _ _ _ _ _ h hF => ⟨h.1, hF⟩
theorem main_1_2 : Claimed_1_2 := comes_1 fun _ _ _ _ _ _ h hF => ⟨h.2.1, hF⟩
end Jvm.Pilot.@@N@@
namespace Jvm.Pilot.@@N@@
open Jvm Jvm.ClassFile Sem Op Lib Jvm.Free Jvm.Stand Jvm.Pilot.@@N@@.Jvm.D
/-! MADE BY PROGRAM (witnessworld.py) out of the Statement's table words and the real class files: 12 classes; the members and pool entries that the words name. The judged class is class 1, her method 1. -/
namespace start1
open Jvm.ClassFile
def u (s : String) : CpInfo := .utf8 (stringToUtf16 s)
/-- a pool by its gaps: so many unusable entries, then the entry; so many at the end -/
def gap : Nat → List CpInfo → List CpInfo
  | 0, r => r
  | n + 1, r => .unusable :: gap n r
def poolList (es : List (Nat × CpInfo)) (last : Nat) : List CpInfo := es.foldr (fun e r => gap e.1 (e.2 :: r)) (gap last [])
def pool (es : List (Nat × CpInfo)) (last : Nat) : Array CpInfo := ⟨poolList es last⟩
def fileOf (pool : Array CpInfo) (this : Nat) (attrs : Array Attribute := #[]) (ms : Array MethodInfo := #[]) (fl : Nat := 33) (sup : Nat := 0) (ifs : Array Nat := #[]) (fds : Array FieldInfo := #[]) : ClassFile where
  minorVersion := 0
  majorVersion := 65
  constantPool := pool
  accessFlags := fl
  thisClass := this
  superClass := sup
  interfaces := ifs
  fields := fds
  methods := ms
  attributes := attrs
def plain (name : String) (sup : Option ClassId) : Class where
  name := name
  kind := .ordinary
  loader := none
  accessFlags := 33
  super := sup
  interfaces := #[]
  cf := none
  fields := #[]
  methods := #[]
  instanceTypes := #[]
  staticTypes := #[]
  resolved := #[]
  callSites := []
  init := .initialized
  statics := none
  mirror := none

def pool0 : Array CpInfo := pool [(5, u "<init>"), (0, u "()V"), (1, .class_ 10), (1, u "java/lang/Object")] 113

def k0c0 : Code := { maxStack := 0, maxLocals := 1, code := object_method_1_code, exceptionTable := #[], attributes := #[] }
def k0m0 : Method := { name := "<init>", desc := "()V", sig := { parameters := [], returnType := none }, accessFlags := 1, code := some k0c0 }
/-- java/lang/Object -/
def k0 : Class := { plain "java/lang/Object" none with
  accessFlags := 33
  interfaces := #[]
  cf := some (fileOf pool0 8 #[] #[{ accessFlags := 1, nameIndex := 5, descriptorIndex := 6, attributes := #[] }] 33 0 #[] #[])
  fields := #[]
  methods := #[k0m0]
  instanceTypes := #[]
  staticTypes := #[]
  resolved := Array.replicate 124 none
  statics := none }

def pool1 : Array CpInfo := pool [(2, .class_ 4), (1, u "java/lang/Object"), (0, u "<init>"), (0, u "()V"), (0, .integer 2147483647), (0, .class_ 9), (0, u "com/example/fixpoints_of_behaviour/fixpointsofbehaviour/bisimulation/Blocks"), (0, .methodref 8 11), (0, .nameAndType 5 12), (0, u "(I)V"), (0, .class_ 14), (0, u "com/example/fixpoints_of_behaviour/fixpointsofbehaviour/bisimulation/CompoundBlocks"), (0, .methodref 13 16), (0, .nameAndType 5 17), (0, u "(Lcom/example/fixpoints_of_behaviour/fixpointsofbehaviour/bisimulation/Blocks;I)V"), (0, .methodref 13 19), (0, .nameAndType 20 21), (0, u "join"), (0, u "(II)V"), (0, .methodref 13 23), (0, .nameAndType 24 25), (0, u "takeSplitter"), (0, u "()I"), (0, .methodref 13 27), (0, .nameAndType 28 29), (0, u "hasSplitter"), (0, u "()Z"), (0, .methodref 13 31), (0, .nameAndType 32 33), (0, u "compoundOf"), (0, u "(I)I"), (0, .methodref 13 35), (0, .nameAndType 36 25), (0, u "nextSplitterCompound"), (0, .class_ 38), (0, u "com/example/fixpoints_of_behaviour/fixpointsofbehaviour/bisimulation/CompoundBlocksJoinPinLaw"), (2, u "law"), (0, u "(III)Z")] 3

def k1m0 : Method := { name := "<init>", desc := "()V", sig := { parameters := [], returnType := none }, accessFlags := 1, code := none }
def k1c1 : Code := { maxStack := 4, maxLocals := 18, code := code, exceptionTable := #[], attributes := #[] }
def k1m1 : Method := { name := "law", desc := "(III)Z", sig := { parameters := [.int, .int, .int], returnType := some .boolean }, accessFlags := 9, code := some k1c1 }
/-- com/example/fixpoints_of_behaviour/fixpointsofbehaviour/bisimulation/CompoundBlocksJoinPinLaw -/
def k1 : Class := { plain "com/example/fixpoints_of_behaviour/fixpointsofbehaviour/bisimulation/CompoundBlocksJoinPinLaw" (some 0) with
  accessFlags := 49
  interfaces := #[]
  cf := some (fileOf pool1 37 #[] #[{ accessFlags := 1, nameIndex := 5, descriptorIndex := 6, attributes := #[] }, { accessFlags := 9, nameIndex := 41, descriptorIndex := 42, attributes := #[] }] 49 2 #[] #[])
  fields := #[]
  methods := #[k1m0, k1m1]
  instanceTypes := #[]
  staticTypes := #[]
  resolved := Array.replicate 46 none
  statics := none }

def pool2 : Array CpInfo := pool [(1, .methodref 2 3), (0, .class_ 4), (0, .nameAndType 5 6), (0, u "java/lang/Object"), (0, u "<init>"), (0, u "()V"), (0, .fieldref 8 9), (0, .class_ 10), (0, .nameAndType 11 12), (0, u "com/example/fixpoints_of_behaviour/fixpointsofbehaviour/bisimulation/Blocks"), (0, u "elements"), (0, u "[I"), (0, .fieldref 8 14), (0, .nameAndType 15 12), (0, u "location"), (0, .fieldref 8 17), (0, .nameAndType 18 12), (0, u "blockOf"), (0, .fieldref 8 20), (0, .nameAndType 21 12), (0, u "first"), (0, .fieldref 8 23), (0, .nameAndType 24 12), (0, u "end"), (0, .fieldref 8 26), (0, .nameAndType 27 12), (0, u "markedEnd"), (0, .fieldref 8 29), (0, .nameAndType 30 12), (0, u "touched"), (0, .fieldref 8 32), (0, .nameAndType 33 34), (0, u "blockCount"), (0, u "I"), (2, u "touchedCount"), (1, .class_ 41), (1, u "com/example/fixpoints_of_behaviour/fixpointsofbehaviour/bisimulation/Blocks$SplitListener"), (2, u "(I)V"), (4, u "(I)I"), (0, u "size")] 10

def k2c0 : Code := { maxStack := 3, maxLocals := 3, code := prog_12_method_1_code, exceptionTable := #[], attributes := #[] }
def k2m0 : Method := { name := "<init>", desc := "(I)V", sig := { parameters := [.int], returnType := none }, accessFlags := 0, code := some k2c0 }
def k2c1 : Code := { maxStack := 3, maxLocals := 2, code := prog_12_method_4_code, exceptionTable := #[], attributes := #[] }
def k2m1 : Method := { name := "size", desc := "(I)I", sig := { parameters := [.int], returnType := some .int }, accessFlags := 0, code := some k2c1 }
/-- com/example/fixpoints_of_behaviour/fixpointsofbehaviour/bisimulation/Blocks -/
def k2 : Class := { plain "com/example/fixpoints_of_behaviour/fixpointsofbehaviour/bisimulation/Blocks" (some 0) with
  accessFlags := 32
  interfaces := #[]
  cf := some (fileOf pool2 8 #[.nestMembers #[39]] #[{ accessFlags := 0, nameIndex := 5, descriptorIndex := 44, attributes := #[] }, { accessFlags := 0, nameIndex := 50, descriptorIndex := 49, attributes := #[] }] 32 2 #[] #[{ accessFlags := 18, nameIndex := 11, descriptorIndex := 12, attributes := #[] }, { accessFlags := 18, nameIndex := 15, descriptorIndex := 12, attributes := #[] }, { accessFlags := 18, nameIndex := 18, descriptorIndex := 12, attributes := #[] }, { accessFlags := 18, nameIndex := 21, descriptorIndex := 12, attributes := #[] }, { accessFlags := 18, nameIndex := 24, descriptorIndex := 12, attributes := #[] }, { accessFlags := 18, nameIndex := 27, descriptorIndex := 12, attributes := #[] }, { accessFlags := 18, nameIndex := 30, descriptorIndex := 12, attributes := #[] }, { accessFlags := 2, nameIndex := 37, descriptorIndex := 34, attributes := #[] }, { accessFlags := 2, nameIndex := 33, descriptorIndex := 34, attributes := #[] }])
  fields := #[{ name := "elements", type := (.array .int), accessFlags := 18, slot := 0, constantValue := 0 }, { name := "location", type := (.array .int), accessFlags := 18, slot := 1, constantValue := 0 }, { name := "blockOf", type := (.array .int), accessFlags := 18, slot := 2, constantValue := 0 }, { name := "first", type := (.array .int), accessFlags := 18, slot := 3, constantValue := 0 }, { name := "end", type := (.array .int), accessFlags := 18, slot := 4, constantValue := 0 }, { name := "markedEnd", type := (.array .int), accessFlags := 18, slot := 5, constantValue := 0 }, { name := "touched", type := (.array .int), accessFlags := 18, slot := 6, constantValue := 0 }, { name := "touchedCount", type := .int, accessFlags := 2, slot := 7, constantValue := 0 }, { name := "blockCount", type := .int, accessFlags := 2, slot := 8, constantValue := 0 }]
  methods := #[k2m0, k2m1]
  instanceTypes := #[(.array .int), (.array .int), (.array .int), (.array .int), (.array .int), (.array .int), (.array .int), .int, .int]
  staticTypes := #[]
  resolved := Array.replicate 61 none
  statics := none }

def pool3 : Array CpInfo := pool [(1, .methodref 2 3), (0, .class_ 4), (0, .nameAndType 5 6), (0, u "java/lang/Object"), (0, u "<init>"), (0, u "()V"), (0, .fieldref 8 9), (0, .class_ 10), (0, .nameAndType 11 12), (0, u "com/example/fixpoints_of_behaviour/fixpointsofbehaviour/bisimulation/CompoundBlocks"), (0, u "blocks"), (0, u "Lcom/example/fixpoints_of_behaviour/fixpointsofbehaviour/bisimulation/Blocks;"), (0, .fieldref 8 14), (0, .nameAndType 15 16), (0, u "compoundOf"), (0, u "[I"), (0, .fieldref 8 18), (0, .nameAndType 19 16), (0, u "nextInCompound"), (0, .fieldref 8 21), (0, .nameAndType 22 16), (0, u "previousInCompound"), (0, .fieldref 8 24), (0, .nameAndType 25 16), (0, u "firstBlock"), (0, .fieldref 8 27), (0, .nameAndType 28 16), (0, u "pending"), (0, .fieldref 8 30), (0, .nameAndType 31 32), (0, u "isPending"), (0, u "[Z"), (0, .fieldref 8 34), (0, .nameAndType 35 36), (0, u "compoundCount"), (0, u "I"), (0, .fieldref 8 38), (0, .nameAndType 39 36), (0, u "pendingCount"), (0, .methodref 41 42), (0, .class_ 43), (0, .nameAndType 44 45), (0, u "com/example/fixpoints_of_behaviour/fixpointsofbehaviour/bisimulation/Blocks"), (0, u "size"), (0, u "(I)I"), (0, .methodref 8 47), (0, .nameAndType 48 49), (0, u "leaveCompound"), (0, u "(II)V"), (0, u "NONE"), (2, u "(Lcom/example/fixpoints_of_behaviour/fixpointsofbehaviour/bisimulation/Blocks;I)V"), (3, u "hasSplitter"), (0, u "()Z"), (0, u "nextSplitterCompound"), (0, u "()I"), (0, u "takeSplitter"), (0, u "join")] 2

def k3c0 : Code := { maxStack := 3, maxLocals := 3, code := prog_18_method_1_code, exceptionTable := #[], attributes := #[] }
def k3m0 : Method := { name := "<init>", desc := "(Lcom/example/fixpoints_of_behaviour/fixpointsofbehaviour/bisimulation/Blocks;I)V", sig := { parameters := [(.object "com/example/fixpoints_of_behaviour/fixpointsofbehaviour/bisimulation/Blocks"), .int], returnType := none }, accessFlags := 0, code := some k3c0 }
def k3c1 : Code := { maxStack := 2, maxLocals := 2, code := prog_18_method_2_code, exceptionTable := #[], attributes := #[] }
def k3m1 : Method := { name := "compoundOf", desc := "(I)I", sig := { parameters := [.int], returnType := some .int }, accessFlags := 0, code := some k3c1 }
def k3c2 : Code := { maxStack := 1, maxLocals := 1, code := prog_18_method_3_code, exceptionTable := #[], attributes := #[] }
def k3m2 : Method := { name := "hasSplitter", desc := "()Z", sig := { parameters := [], returnType := some .boolean }, accessFlags := 0, code := some k3c2 }
def k3c3 : Code := { maxStack := 3, maxLocals := 1, code := prog_18_method_4_code, exceptionTable := #[], attributes := #[] }
def k3m3 : Method := { name := "nextSplitterCompound", desc := "()I", sig := { parameters := [], returnType := some .int }, accessFlags := 0, code := some k3c3 }
def k3c4 : Code := { maxStack := 4, maxLocals := 6, code := prog_18_method_5_code, exceptionTable := #[], attributes := #[] }
def k3m4 : Method := { name := "takeSplitter", desc := "()I", sig := { parameters := [], returnType := some .int }, accessFlags := 0, code := some k3c4 }
def k3c5 : Code := { maxStack := 3, maxLocals := 5, code := prog_18_method_6_code, exceptionTable := #[], attributes := #[] }
def k3m5 : Method := { name := "leaveCompound", desc := "(II)V", sig := { parameters := [.int, .int], returnType := none }, accessFlags := 2, code := some k3c5 }
def k3c6 : Code := { maxStack := 5, maxLocals := 5, code := prog_18_method_7_code, exceptionTable := #[], attributes := #[] }
def k3m6 : Method := { name := "join", desc := "(II)V", sig := { parameters := [.int, .int], returnType := none }, accessFlags := 0, code := some k3c6 }
/-- com/example/fixpoints_of_behaviour/fixpointsofbehaviour/bisimulation/CompoundBlocks -/
def k3 : Class := { plain "com/example/fixpoints_of_behaviour/fixpointsofbehaviour/bisimulation/CompoundBlocks" (some 0) with
  accessFlags := 32
  interfaces := #[]
  cf := some (fileOf pool3 8 #[] #[{ accessFlags := 0, nameIndex := 5, descriptorIndex := 53, attributes := #[] }, { accessFlags := 0, nameIndex := 15, descriptorIndex := 45, attributes := #[] }, { accessFlags := 0, nameIndex := 57, descriptorIndex := 58, attributes := #[] }, { accessFlags := 0, nameIndex := 59, descriptorIndex := 60, attributes := #[] }, { accessFlags := 0, nameIndex := 61, descriptorIndex := 60, attributes := #[] }, { accessFlags := 2, nameIndex := 48, descriptorIndex := 49, attributes := #[] }, { accessFlags := 0, nameIndex := 62, descriptorIndex := 49, attributes := #[] }] 32 2 #[] #[{ accessFlags := 26, nameIndex := 50, descriptorIndex := 36, attributes := #[] }, { accessFlags := 18, nameIndex := 11, descriptorIndex := 12, attributes := #[] }, { accessFlags := 18, nameIndex := 15, descriptorIndex := 16, attributes := #[] }, { accessFlags := 18, nameIndex := 19, descriptorIndex := 16, attributes := #[] }, { accessFlags := 18, nameIndex := 22, descriptorIndex := 16, attributes := #[] }, { accessFlags := 18, nameIndex := 25, descriptorIndex := 16, attributes := #[] }, { accessFlags := 2, nameIndex := 35, descriptorIndex := 36, attributes := #[] }, { accessFlags := 18, nameIndex := 28, descriptorIndex := 16, attributes := #[] }, { accessFlags := 2, nameIndex := 39, descriptorIndex := 36, attributes := #[] }, { accessFlags := 18, nameIndex := 31, descriptorIndex := 32, attributes := #[] }])
  fields := #[{ name := "NONE", type := .int, accessFlags := 26, slot := 0, constantValue := 0 }, { name := "blocks", type := (.object "com/example/fixpoints_of_behaviour/fixpointsofbehaviour/bisimulation/Blocks"), accessFlags := 18, slot := 0, constantValue := 0 }, { name := "compoundOf", type := (.array .int), accessFlags := 18, slot := 1, constantValue := 0 }, { name := "nextInCompound", type := (.array .int), accessFlags := 18, slot := 2, constantValue := 0 }, { name := "previousInCompound", type := (.array .int), accessFlags := 18, slot := 3, constantValue := 0 }, { name := "firstBlock", type := (.array .int), accessFlags := 18, slot := 4, constantValue := 0 }, { name := "compoundCount", type := .int, accessFlags := 2, slot := 5, constantValue := 0 }, { name := "pending", type := (.array .int), accessFlags := 18, slot := 6, constantValue := 0 }, { name := "pendingCount", type := .int, accessFlags := 2, slot := 7, constantValue := 0 }, { name := "isPending", type := (.array .boolean), accessFlags := 18, slot := 8, constantValue := 0 }]
  methods := #[k3m0, k3m1, k3m2, k3m3, k3m4, k3m5, k3m6]
  instanceTypes := #[(.object "com/example/fixpoints_of_behaviour/fixpointsofbehaviour/bisimulation/Blocks"), (.array .int), (.array .int), (.array .int), (.array .int), .int, (.array .int), .int, (.array .boolean)]
  staticTypes := #[.int]
  resolved := Array.replicate 65 none
  statics := none }

def pool4 : Array CpInfo := pool [(1, u "java/lang/Cloneable"), (0, .class_ 1), (0, u "java/lang/Object"), (0, .class_ 3)] 3

/-- java/lang/Cloneable -/
def k4 : Class := { plain "java/lang/Cloneable" (some 0) with
  accessFlags := 1537
  interfaces := #[]
  cf := some (fileOf pool4 2 #[] #[] 1537 4 #[] #[])
  fields := #[]
  methods := #[]
  instanceTypes := #[]
  staticTypes := #[]
  resolved := Array.replicate 8 none
  statics := none }

def pool5 : Array CpInfo := pool [(1, u "java/io/Serializable"), (0, .class_ 1), (0, u "java/lang/Object"), (0, .class_ 3)] 3

/-- java/io/Serializable -/
def k5 : Class := { plain "java/io/Serializable" (some 0) with
  accessFlags := 1537
  interfaces := #[]
  cf := some (fileOf pool5 2 #[] #[] 1537 4 #[] #[])
  fields := #[]
  methods := #[]
  instanceTypes := #[]
  staticTypes := #[]
  resolved := Array.replicate 8 none
  statics := none }

/-- the primitive boolean -/
def k6 : Class := { plain "boolean" none with kind := .primitive 'Z', accessFlags := 0x411 }
/-- [Z -/
def k7 : Class := { plain "[Z" (some 0) with kind := .array 6 .boolean, interfaces := #[4, 5], accessFlags := 1041 }

/-- the primitive byte -/
def k8 : Class := { plain "byte" none with kind := .primitive 'B', accessFlags := 0x411 }
/-- [B -/
def k9 : Class := { plain "[B" (some 0) with kind := .array 8 .byte, interfaces := #[4, 5], accessFlags := 1041 }

/-- the primitive int -/
def k10 : Class := { plain "int" none with kind := .primitive 'I', accessFlags := 0x411 }
/-- [I -/
def k11 : Class := { plain "[I" (some 0) with kind := .array 10 .int, interfaces := #[4, 5], accessFlags := 1041 }

def heap : Heap := #[]
def classes : Array Class := #[k0, k1, k2, k3, k4, k5, k6, k7, k8, k9, k10, k11]
def interned : List (Array UInt16 × Addr) := []
def slotsUsed : Nat := 0
def theMethod : MethodId := ⟨1, 1⟩
def args0 : Array Value := #[.int 3, .int 65, .int 2]
def aboutOver (below : List Frame) : State where
  vm := { classes := classes, interned := interned.toArray }
  heap := heap
  slotsUsed := slotsUsed
  threads := #[{ frames := .invoking theMethod args0 :: below }]
def below0 : List Frame := [.native { method := ⟨0, 0⟩, args := #[] }]
def about1 : State := aboutOver below0
def p0 : Program := .bare "" "" ""
def e0 : Env := launch0.env 0 0 0
theorem w_frames : about1.frames = Frame.invoking theMethod args0 :: below0 := rfl
set_option maxRecDepth 65536 in
theorem w_args : argsFit about1.vm theMethod args0 = true := by decide +kernel
set_option maxRecDepth 65536 in
theorem w_heap : heapFits about1 = true := by decide +kernel
set_option maxRecDepth 65536 in
theorem w_runnable : about1.curStatus? = some .runnable := by decide +kernel
set_option maxRecDepth 65536 in
theorem w_alone : about1.alone = true := by decide +kernel
set_option maxRecDepth 65536 in
theorem w_named : about1.methodNamed? x = some theMethod := by decide +kernel
set_option maxRecDepth 65536 in
theorem w_hears : about1.hears theMethod below0 = true := by decide +kernel
set_option maxRecDepth 65536 in
theorem w_ripe : about1.ripe theMethod args0 below0 = true := by decide +kernel
theorem w_running : about1.status = .running := rfl
set_option maxRecDepth 65536 in
theorem w_room : about1.hasRoom e0.platform room_1 = true :=
  launch0.hasRoom_least _ room_1 (by decide +kernel) (by decide +kernel) (by decide +kernel) (by decide +kernel) (by decide +kernel) (by decide +kernel)
theorem allAtoms_all (ts : List Jvm.Cond) (a : Array Jvm.Value) (st : Jvm.State) : (allAtoms ts).before a st = ts.all (fun c => c.before a st) := by
  induction ts with
  | nil => rfl
  | cons c t ih =>
    show (Jvm.Cond.and c (allAtoms t)).before a st = _
    rw [Jvm.Cond.before_and, ih, List.all_cons]
def words1 : List Jvm.Cond := Jvm.Cond.code x code maxLocals ret :: tables_1
/-- a 'code' word, met by the world's own term for the bytes: nothing is compared byte by byte -/
theorem code_word {y : MethodName} {bytes : ByteArray} {mx : Nat} {rt : Option FieldType} {a : Array Value} {s : State} {m : MethodId} {meth : Method} {c : Code} (h1 : s.methodNamed? y = some m) (h2 : s.vm.method? m = some meth) (h3 : meth.code = some c) (h4 : c.code = bytes)
    (h5 : (c.maxLocals == mx && c.exceptionTable.isEmpty && decide (c.maxStack ≤ mostOperands) && decide (meth.sig.returnType = rt) && !meth.locks && decide (parseMethodDescriptor y.desc = some meth.sig)) = true) : (Jvm.Cond.code y bytes mx rt).before a s = true := by
  simp only [Bool.and_eq_true, beq_iff_eq, Bool.not_eq_true', decide_eq_true_eq] at h5
  obtain ⟨⟨⟨⟨⟨g1, g2⟩, g3⟩, g4⟩, g5⟩, g6⟩ := h5
  simp [Cond.before, Cond.holds, Cond.value, h1, h2, h3, h4, g1, g2, g3, g4, g5, g6]
def isCode : Jvm.Cond → Bool
  | .code _ _ _ _ => true
  | _ => false
theorem all_split {L : List Jvm.Cond} {P : Jvm.Cond → Bool} (h1 : L.all (fun c => isCode c || P c) = true) (h2 : ∀ c ∈ L.filter isCode, P c = true) : L.all P = true := by
  refine List.all_eq_true.mpr fun c hc => ?_
  have h := List.all_eq_true.mp h1 c hc
  rcases Bool.eq_false_or_eq_true (isCode c) with hi | hi
  · exact h2 c (List.mem_filter.mpr ⟨hc, hi⟩)
  · simpa [hi] using h
set_option maxRecDepth 65536 in
theorem w_c0 : (Jvm.Cond.code x code maxLocals ret).before args0 about1 = true := code_word (m := ⟨1, 1⟩) (meth := k1m1) (c := k1c1) (by decide +kernel) rfl rfl rfl (by decide +kernel)
set_option maxRecDepth 65536 in
theorem w_c1 : (Jvm.Cond.code ({ cls := "com/example/fixpoints_of_behaviour/fixpointsofbehaviour/bisimulation/Blocks", name := "<init>", desc := "(I)V" } : Jvm.MethodName) prog_12_method_1_code (3 : Nat) (Option.none : Option Jvm.ClassFile.FieldType)).before args0 about1 = true := code_word (m := ⟨2, 0⟩) (meth := k2m0) (c := k2c0) (by decide +kernel) rfl rfl rfl (by decide +kernel)
set_option maxRecDepth 65536 in
theorem w_c2 : (Jvm.Cond.code ({ cls := "java/lang/Object", name := "<init>", desc := "()V" } : Jvm.MethodName) object_method_1_code (1 : Nat) (Option.none : Option Jvm.ClassFile.FieldType)).before args0 about1 = true := code_word (m := ⟨0, 0⟩) (meth := k0m0) (c := k0c0) (by decide +kernel) rfl rfl rfl (by decide +kernel)
set_option maxRecDepth 65536 in
theorem w_c3 : (Jvm.Cond.code ({ cls := "com/example/fixpoints_of_behaviour/fixpointsofbehaviour/bisimulation/CompoundBlocks", name := "<init>", desc := "(Lcom/example/fixpoints_of_behaviour/fixpointsofbehaviour/bisimulation/Blocks;I)V" } : Jvm.MethodName) prog_18_method_1_code (3 : Nat) (Option.none : Option Jvm.ClassFile.FieldType)).before args0 about1 = true := code_word (m := ⟨3, 0⟩) (meth := k3m0) (c := k3c0) (by decide +kernel) rfl rfl rfl (by decide +kernel)
set_option maxRecDepth 65536 in
theorem w_c4 : (Jvm.Cond.code ({ cls := "com/example/fixpoints_of_behaviour/fixpointsofbehaviour/bisimulation/CompoundBlocks", name := "join", desc := "(II)V" } : Jvm.MethodName) prog_18_method_7_code (5 : Nat) (Option.none : Option Jvm.ClassFile.FieldType)).before args0 about1 = true := code_word (m := ⟨3, 6⟩) (meth := k3m6) (c := k3c6) (by decide +kernel) rfl rfl rfl (by decide +kernel)
set_option maxRecDepth 65536 in
theorem w_c5 : (Jvm.Cond.code ({ cls := "com/example/fixpoints_of_behaviour/fixpointsofbehaviour/bisimulation/CompoundBlocks", name := "compoundOf", desc := "(I)I" } : Jvm.MethodName) prog_18_method_2_code (2 : Nat) (Option.some Jvm.ClassFile.FieldType.int)).before args0 about1 = true := code_word (m := ⟨3, 1⟩) (meth := k3m1) (c := k3c1) (by decide +kernel) rfl rfl rfl (by decide +kernel)
set_option maxRecDepth 65536 in
theorem w_c6 : (Jvm.Cond.code ({ cls := "com/example/fixpoints_of_behaviour/fixpointsofbehaviour/bisimulation/CompoundBlocks", name := "hasSplitter", desc := "()Z" } : Jvm.MethodName) prog_18_method_3_code (1 : Nat) (Option.some Jvm.ClassFile.FieldType.boolean)).before args0 about1 = true := code_word (m := ⟨3, 2⟩) (meth := k3m2) (c := k3c2) (by decide +kernel) rfl rfl rfl (by decide +kernel)
set_option maxRecDepth 65536 in
theorem w_c7 : (Jvm.Cond.code ({ cls := "com/example/fixpoints_of_behaviour/fixpointsofbehaviour/bisimulation/CompoundBlocks", name := "nextSplitterCompound", desc := "()I" } : Jvm.MethodName) prog_18_method_4_code (1 : Nat) (Option.some Jvm.ClassFile.FieldType.int)).before args0 about1 = true := code_word (m := ⟨3, 3⟩) (meth := k3m3) (c := k3c3) (by decide +kernel) rfl rfl rfl (by decide +kernel)
set_option maxRecDepth 65536 in
theorem w_c8 : (Jvm.Cond.code ({ cls := "com/example/fixpoints_of_behaviour/fixpointsofbehaviour/bisimulation/CompoundBlocks", name := "takeSplitter", desc := "()I" } : Jvm.MethodName) prog_18_method_5_code (6 : Nat) (Option.some Jvm.ClassFile.FieldType.int)).before args0 about1 = true := code_word (m := ⟨3, 4⟩) (meth := k3m4) (c := k3c4) (by decide +kernel) rfl rfl rfl (by decide +kernel)
set_option maxRecDepth 65536 in
theorem w_c9 : (Jvm.Cond.code ({ cls := "com/example/fixpoints_of_behaviour/fixpointsofbehaviour/bisimulation/Blocks", name := "size", desc := "(I)I" } : Jvm.MethodName) prog_12_method_4_code (2 : Nat) (Option.some Jvm.ClassFile.FieldType.int)).before args0 about1 = true := code_word (m := ⟨2, 1⟩) (meth := k2m1) (c := k2c1) (by decide +kernel) rfl rfl rfl (by decide +kernel)
set_option maxRecDepth 65536 in
theorem w_c10 : (Jvm.Cond.code ({ cls := "com/example/fixpoints_of_behaviour/fixpointsofbehaviour/bisimulation/CompoundBlocks", name := "leaveCompound", desc := "(II)V" } : Jvm.MethodName) prog_18_method_6_code (5 : Nat) (Option.none : Option Jvm.ClassFile.FieldType)).before args0 about1 = true := code_word (m := ⟨3, 5⟩) (meth := k3m5) (c := k3c5) (by decide +kernel) rfl rfl rfl (by decide +kernel)
def codes1 : List Jvm.Cond := [Jvm.Cond.code x code maxLocals ret, Jvm.Cond.code ({ cls := "com/example/fixpoints_of_behaviour/fixpointsofbehaviour/bisimulation/Blocks", name := "<init>", desc := "(I)V" } : Jvm.MethodName) prog_12_method_1_code (3 : Nat) (Option.none : Option Jvm.ClassFile.FieldType), Jvm.Cond.code ({ cls := "java/lang/Object", name := "<init>", desc := "()V" } : Jvm.MethodName) object_method_1_code (1 : Nat) (Option.none : Option Jvm.ClassFile.FieldType), Jvm.Cond.code ({ cls := "com/example/fixpoints_of_behaviour/fixpointsofbehaviour/bisimulation/CompoundBlocks", name := "<init>", desc := "(Lcom/example/fixpoints_of_behaviour/fixpointsofbehaviour/bisimulation/Blocks;I)V" } : Jvm.MethodName) prog_18_method_1_code (3 : Nat) (Option.none : Option Jvm.ClassFile.FieldType), Jvm.Cond.code ({ cls := "com/example/fixpoints_of_behaviour/fixpointsofbehaviour/bisimulation/CompoundBlocks", name := "join", desc := "(II)V" } : Jvm.MethodName) prog_18_method_7_code (5 : Nat) (Option.none : Option Jvm.ClassFile.FieldType), Jvm.Cond.code ({ cls := "com/example/fixpoints_of_behaviour/fixpointsofbehaviour/bisimulation/CompoundBlocks", name := "compoundOf", desc := "(I)I" } : Jvm.MethodName) prog_18_method_2_code (2 : Nat) (Option.some Jvm.ClassFile.FieldType.int), Jvm.Cond.code ({ cls := "com/example/fixpoints_of_behaviour/fixpointsofbehaviour/bisimulation/CompoundBlocks", name := "hasSplitter", desc := "()Z" } : Jvm.MethodName) prog_18_method_3_code (1 : Nat) (Option.some Jvm.ClassFile.FieldType.boolean), Jvm.Cond.code ({ cls := "com/example/fixpoints_of_behaviour/fixpointsofbehaviour/bisimulation/CompoundBlocks", name := "nextSplitterCompound", desc := "()I" } : Jvm.MethodName) prog_18_method_4_code (1 : Nat) (Option.some Jvm.ClassFile.FieldType.int), Jvm.Cond.code ({ cls := "com/example/fixpoints_of_behaviour/fixpointsofbehaviour/bisimulation/CompoundBlocks", name := "takeSplitter", desc := "()I" } : Jvm.MethodName) prog_18_method_5_code (6 : Nat) (Option.some Jvm.ClassFile.FieldType.int), Jvm.Cond.code ({ cls := "com/example/fixpoints_of_behaviour/fixpointsofbehaviour/bisimulation/Blocks", name := "size", desc := "(I)I" } : Jvm.MethodName) prog_12_method_4_code (2 : Nat) (Option.some Jvm.ClassFile.FieldType.int), Jvm.Cond.code ({ cls := "com/example/fixpoints_of_behaviour/fixpointsofbehaviour/bisimulation/CompoundBlocks", name := "leaveCompound", desc := "(II)V" } : Jvm.MethodName) prog_18_method_6_code (5 : Nat) (Option.none : Option Jvm.ClassFile.FieldType)]
set_option maxRecDepth 65536 in
theorem codes_eq : words1.filter isCode = codes1 := rfl
theorem w_codes : ∀ c ∈ words1.filter isCode, c.before args0 about1 = true := by
  rw [codes_eq]
  intro c hc
  simp only [codes1, List.mem_cons, List.not_mem_nil, or_false] at hc
  rcases hc with rfl | rfl | rfl | rfl | rfl | rfl | rfl | rfl | rfl | rfl | rfl
  · exact w_c0
  · exact w_c1
  · exact w_c2
  · exact w_c3
  · exact w_c4
  · exact w_c5
  · exact w_c6
  · exact w_c7
  · exact w_c8
  · exact w_c9
  · exact w_c10
set_option maxRecDepth 65536 in
theorem w_t1 : (words1.take 24).all (fun c => isCode c || c.before args0 about1) = true := by decide +kernel
set_option maxRecDepth 65536 in
theorem w_t2 : ((words1.drop 24).take 24).all (fun c => isCode c || c.before args0 about1) = true := by decide +kernel
set_option maxRecDepth 65536 in
theorem w_t3 : (((words1.drop 24).drop 24).take 24).all (fun c => isCode c || c.before args0 about1) = true := by decide +kernel
set_option maxRecDepth 65536 in
theorem w_t4 : (((words1.drop 24).drop 24).drop 24).all (fun c => isCode c || c.before args0 about1) = true := by decide +kernel
theorem w_tables : (allAtoms (Jvm.Cond.code x code maxLocals ret :: tables_1)).before args0 about1 = true := by
  rw [allAtoms_all]
  show words1.all (fun c => c.before args0 about1) = true
  refine all_split ?_ w_codes
  rw [← List.take_append_drop 24 words1, List.all_append, w_t1, ← List.take_append_drop 24 (words1.drop 24), List.all_append, w_t2, ← List.take_append_drop 24 ((words1.drop 24).drop 24), List.all_append, w_t3, w_t4]
  rfl
set_option maxRecDepth 65536 in
theorem w_case : (Jvm.Cond.and given_1 narrow_1).before args0 about1 = true := by decide +kernel
theorem w_applies : (headSpec (Jvm.Cond.code x code maxLocals ret :: tables_1) room_1).applies x e0.platform about1 = true :=
  (Spec.applies_iff w_frames).mpr ⟨w_running, w_runnable, w_alone, w_named, w_hears, w_ripe, w_room, w_tables⟩
theorem atStart : AtStart classFile x code maxLocals ret World_1 tables_1 room_1 Calls_1 rest_1 Pre_1 launch0 p0 e0 about1 theMethod args0 below0 :=
  ⟨lists_1, trivial, launch0.admits_env _ _ _, launch0.least_env, fairChoices_fair.cas, fairChoices_fair.clock, w_frames, w_args, w_heap, w_applies, trivial, trivial, w_case⟩
end start1
theorem witness_1 : WitnessClaimed_1 := ⟨start1.p0, start1.e0, start1.about1, start1.theMethod, start1.args0, start1.below0, start1.atStart⟩
end Jvm.Pilot.@@N@@
