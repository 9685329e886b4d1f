import JvmDerived
import JvmDerived.Pilot.@@N@@Statement
import JvmDerived.Pilot.@@N@@Code
set_option linter.unusedVariables false
set_option linter.unusedSimpArgs false
namespace Jvm.RoadKit
open Sem ClassFile Op Lib Jvm.Stand Jvm.Free Jvm.LawKit
section New
variable {p : Program} {l : Launch} {e : Env} {R : Room} {s : State} {m : MethodId} {args : Array Value} {below : List Frame} {meth : Method} {c : Code} {T : State} {locs : List Loc} {cells slots : Nat}
theorem retI (X : Stand p l e R s m args below meth c T locs cells slots) (hx : p.tables.exec = Jvm.exec) {pc : Nat} {Ls : Array Slot} {z : Int32} {rest : List Value} (hret : meth.sig.returnType = some .int) (hd : decode c.code pc = .ok (.ireturn, 1)) {fs : List Frame}
    (hl : ∀ (f : JFrame) (acts : List Action), f.method = m → f.locked = none → f.entered = [] → (doReturn e (T.setTop f) acts (some (.int z))).1 = T.setFrames fs) : Steps p.tables e below (T.setTop (mkF m pc Ls (.int z :: rest))) (T.setFrames fs) := by
  have hm' : T.vm.method? m = some meth := X.method'
  have hn : narrow .int (.int z) = .int z := rfl
  show Steps p.tables e below (T.setTop { method := m, pc := pc, locals := Ls, stack := _ :: rest, locked := none }) _
  jvm_step X.here [X.here.top, hx, hd, hm', hret, hn]
  first | (intro acts; rw [hl _ acts rfl rfl rfl]) | rw [hl _ _ rfl rfl rfl]
  exact Steps.refl _
/-- a run from U comes to a state of which K holds -/
def Rch (p : Program) (e : Env) (below : List Frame) (K : State → Prop) (U : State) : Prop := ∃ s₂, Steps p.tables e below U s₂ ∧ K s₂
theorem Rch.go {K : State → Prop} {U U' : State} (h : ∀ t, Steps p.tables e below U' t → Steps p.tables e below U t) (k : Rch p e below K U') : Rch p e below K U := by
  obtain ⟨s₂, a, b⟩ := k; exact ⟨s₂, h _ a, b⟩
theorem Rch.to {K : State → Prop} {U U' : State} (h : Steps p.tables e below U U') (k : Rch p e below K U') : Rch p e below K U := by
  obtain ⟨s₂, a, b⟩ := k; exact ⟨s₂, h.trans a, b⟩
theorem Rch.then {K K' : State → Prop} {U : State} (h : Rch p e below K U) (f : ∀ V, K V → Rch p e below K' V) : Rch p e below K' U := by
  obtain ⟨s₂, a, b⟩ := h; exact Rch.to a (f _ b)
/-- the body is left: what it returned and what it leaves -/
def Fin (s : State) (below : List Frame) (Q : Option Value → Heap → List Loc → Prop) (k n : Nat) (s₂ : State) : Prop :=
  ∃ o, s₂.status = .running ∧ Ended s₂ below o ∧ ∃ v L, o = .returned v ∧ Q v s₂.heap L ∧ FrameEnd s o s₂ L k n
theorem Rch.fin {Q : Option Value → Heap → List Loc → Prop} {k n : Nat} {U : State} {h : Heap} (X : Stand p l e R s m args below meth c T locs cells slots) (hlk : meth.locks = false) {v : Option Value} (hv : meth.sig.returnType = none → v = none) (eT : T.heap = h) (hc : cells ≤ k) (hn : slots ≤ n)
    (st : ∀ fs, (∀ (f : JFrame) (acts : List Action), f.method = m → f.locked = none → f.entered = [] → (doReturn e (T.setTop f) acts v).1 = T.setFrames fs) → Steps p.tables e below U (T.setFrames fs)) (hQ : Q v h locs) : Rch p e below (Fin s below Q k n) U := by
  obtain ⟨fs, hr, hrun, hended, hW, hsame⟩ := X.leave hv hlk
  refine ⟨_, st fs hr, _, hrun, hended, v, locs, rfl, ?_, ⟨_, rfl⟩, hW, hsame.mono hc hn⟩
  show Q v T.heap locs
  rw [eT]; exact hQ
theorem Rch.body {Q : Option Value → Heap → List Loc → Prop} {k n : Nat} {U U' : State} (h : ∀ t, Steps p.tables e below U' t → Steps p.tables e below U t) (H : Rch p e below (Fin s below Q k n) U') :
    ∃ s₂ o, Steps p.tables e below U s₂ ∧ s₂.status = .running ∧ Ended s₂ below o ∧ (∃ v L, o = .returned v ∧ Q v s₂.heap L ∧ FrameEnd s o s₂ L k n) := by
  obtain ⟨s₂, a, o, b, c, d⟩ := H; exact ⟨s₂, o, h _ a, b, c, d⟩
/-- the same, said with the wide end (a String constant may have been interned) -/
def FinW (s : State) (below : List Frame) (Q : Option Value → Heap → List Loc → Prop) (k n : Nat) (s₂ : State) : Prop :=
  ∃ o, s₂.status = .running ∧ Ended s₂ below o ∧ ∃ v L, o = .returned v ∧ Q v s₂.heap L ∧ ReturnedEndW s o s₂ L k n
theorem Rch.finW {Q : Option Value → Heap → List Loc → Prop} {k n : Nat} {U : State} {h : Heap} {vm₁ : Vm} {n1 : Nat} (X : Stand p l e R (s.setVm vm₁) m args below meth c T locs cells slots) (hlk : meth.locks = false) {v : Option Value} (hv : meth.sig.returnType = none → v = none) (eT : T.heap = h) (hc : cells ≤ k) (hn : slots ≤ n)
    (hS : s.Since vm₁ n1) (hk : n1 ≤ h.size) (st : ∀ fs, (∀ (f : JFrame) (acts : List Action), f.method = m → f.locked = none → f.entered = [] → (doReturn e (T.setTop f) acts v).1 = T.setFrames fs) → Steps p.tables e below U (T.setFrames fs)) (hQ : Q v h locs) : Rch p e below (FinW s below Q k n) U := by
  obtain ⟨fs, hr, hrun, hended, hE⟩ := X.leaveW hS (by rw [eT]; exact hk) hv hlk
  refine ⟨_, st fs hr, _, hrun, hended, v, locs, rfl, ?_, hE.1, hE.2.1, hE.2.2.1, hE.2.2.2.mono hc hn⟩
  show Q v T.heap locs
  rw [eT]; exact hQ
theorem Rch.bodyW {Q : Option Value → Heap → List Loc → Prop} {k n : Nat} {U U' : State} (h : ∀ t, Steps p.tables e below U' t → Steps p.tables e below U t) (H : Rch p e below (FinW s below Q k n) U') :
    ∃ s₂ o, Steps p.tables e below U s₂ ∧ s₂.status = .running ∧ Ended s₂ below o ∧ (∃ v L, o = .returned v ∧ Q v s₂.heap L ∧ ReturnedEndW s o s₂ L k n) := by
  obtain ⟨s₂, a, o, b, c, d⟩ := H; exact ⟨s₂, o, h _ a, b, c, d⟩
theorem nar_1 : nar .boolean 1 = 1 := rfl
theorem nar_0 : nar .boolean 0 = 0 := rfl
end New
end Jvm.RoadKit
namespace Jvm.Pilot.@@N@@
open Jvm Jvm.ClassFile Sem Op Lib Jvm.Free Jvm.Stand Jvm.LawKit Jvm.RoadKit Bundle Jvm.Pilot.@@N@@.Jvm.D
theorem wi {Z : State} {a0 : Array Value} (hw : ∀ d ∈ tables_1, d.before a0 Z = true) (i : Nat) {d : Jvm.Cond} (h : tables_1[i]? = some d) : d.before a0 Z = true := hw d (List.mem_of_getElem? h)
abbrev jv (x : Int64) : Slot := .val (.long x)
abbrev uv : Slot := .unset
abbrev sv : Slot := .second
theorem own_selp {y : MethodName} {s : State} {args : Array Value} {n : Nat} (hy : y.cls ≠ "java/lang/invoke/MethodHandle" ∧ y.cls ≠ "java/lang/invoke/VarHandle")
    (hins : (Jvm.Cond.instantiable y.cls n).before args s = true) (hpriv : (Jvm.Cond.privateMethod y).before args s = true) (hinst : (Jvm.Cond.instanceMethod y).before args s = true) : (Jvm.Cond.selects y.cls y y).before args s = true := by
  obtain ⟨c, k, hc, hk, -, hniab, -, -⟩ := Cond.instantiable_spec hins
  exact selects_self_of_private hc hk (Bool.or_eq_false_iff.mp hniab).1 (Cond.privateMethod_at hpriv) hinst hy
-- small naturals as ints
theorem own_iI {n : Nat} (hn : n < 2147483648) : (Int32.ofNat n).toInt = n := Int32.toInt_ofNat_of_lt (by omega)
theorem own_iN {n : Nat} (hn : n < 2147483648) : (Int32.ofNat n).toNatClampNeg = n := by rw [Int32.toNatClampNeg, own_iI hn]; rfl
theorem own_ilt {i n : Nat} (hi : i < 2147483648) (hn : n < 2147483648) : Int32.ofNat i < Int32.ofNat n ↔ i < n := by
  rw [Int32.lt_iff_toInt_lt, own_iI hi, own_iI hn]; omega
theorem own_ieq {i n : Nat} (hi : i < 2147483648) (hn : n < 2147483648) : Int32.ofNat i = Int32.ofNat n ↔ i = n := by
  rw [← Int32.toInt_inj, own_iI hi, own_iI hn]; omega
theorem own_inn {n : Nat} (hn : n < 2147483648) : ¬ Int32.ofNat n < 0 := by
  rw [Int32.lt_iff_toInt_lt, own_iI hn, show (0 : Int32).toInt = 0 from rfl]; omega
theorem own_i1 (i : Nat) : Int32.ofNat i + (1 : Int32) = Int32.ofNat (i + 1) := (Int32.ofNat_add i 1).symm
theorem own_of {x : Int32} (h : 0 ≤ x.toInt) : ∃ n : Nat, n < 2147483648 ∧ x = Int32.ofNat n := by
  refine ⟨x.toInt.toNat, by have := x.toInt_lt; omega, Int32.toInt_inj.mp ?_⟩
  rw [own_iI (by have := x.toInt_lt; omega)]; omega
theorem own_iin {i n : Nat} (hi : i < n) (hn : n < 2147483648) : ¬ Int32.ofNat i < 0 ∧ Int32.ofNat i < Int32.ofNat n := ⟨own_inn (by omega), (own_ilt (by omega) hn).mpr hi⟩
theorem own_getI (xs : List Int32) {i : Nat} (h : i < xs.length) (hn : i < 2147483648) : (xs.map Value.int).getD (Int32.ofNat i).toNatClampNeg (.int (0 : Int32)) = .int (xs.getD i 0) := by
  rw [own_iN hn]; simp [List.getD_eq_getElem?_getD, h]
def own_max (p1 p2 : Int32) : Int32 := if p1 < p2 then p2 else p1
abbrev cST : String := "com/example/slotwise/slotwise/keyspace/SlotTable"
abbrev cLW : String := "com/example/slotwise/slotwise/keyspace/SlotTableFindRecordPinLaw"
abbrev yP : MethodName := (⟨"com/example/slotwise/slotwise/keyspace/SlotTable", "places", "()I"⟩ : MethodName)
abbrev yX : MethodName := (⟨"com/example/slotwise/slotwise/keyspace/SlotTable", "expires", "(I)Z"⟩ : MethodName)
abbrev yS : MethodName := (⟨"com/example/slotwise/slotwise/keyspace/SlotTable", "set", "(IJI[BZ)V"⟩ : MethodName)
abbrev yR : MethodName := (⟨"com/example/slotwise/slotwise/keyspace/SlotTable", "resize", "(I)V"⟩ : MethodName)
abbrev yA : MethodName := (⟨"com/example/slotwise/slotwise/keyspace/SlotTable", "add", "(IJI[BZ)I"⟩ : MethodName)
abbrev yF : MethodName := (⟨"com/example/slotwise/slotwise/keyspace/SlotTable", "findRecord", "(IJ)I"⟩ : MethodName)
abbrev yN : MethodName := (⟨"com/example/slotwise/slotwise/keyspace/SlotTable", "<init>", "()V"⟩ : MethodName)
abbrev yMx : MethodName := (⟨"java/lang/Math", "max", "(II)I"⟩ : MethodName)
theorem d31_0 : decode jdk_29_method_65_code 0 = .ok (.iload_n 0, 1) := by decide +kernel
theorem d31_1 : decode jdk_29_method_65_code 1 = .ok (.iload_n 1, 1) := by decide +kernel
theorem d31_2 : decode jdk_29_method_65_code 2 = .ok (.if_icmp .lt 7, 3) := by decide +kernel
theorem d31_5 : decode jdk_29_method_65_code 5 = .ok (.iload_n 0, 1) := by decide +kernel
theorem d31_6 : decode jdk_29_method_65_code 6 = .ok (.goto 4, 3) := by decide +kernel
theorem d31_9 : decode jdk_29_method_65_code 9 = .ok (.iload_n 1, 1) := by decide +kernel
theorem d31_10 : decode jdk_29_method_65_code 10 = .ok (.ireturn, 1) := by decide +kernel
theorem ef_rmMax (m : MethodId) (p1 : Int32) (p2 : Int32) : entryFrame m #[(.int p1), (.int p2)] 2 = mkF m 0 #[iv p1, iv p2] [] := by first | (simp [entryFrame, mkF, argsToLocals, Value.category]; done) | rfl
def Q_rmMax (Z : State) (p1 : Int32) (p2 : Int32) (h0 : Heap) (n0 : Nat) (v : Option Value) (h : Heap) (L : List Loc) : Prop := v = some (.int (own_max p1 p2)) ∧ Fr n0 L ∧ h = h0
set_option maxRecDepth 65536 in
set_option maxHeartbeats 40000000 in
theorem rmMax (l : Launch) (Z : State) (a0 : Array Value) (hw : ∀ d ∈ tables_1, d.before a0 Z = true) (ws : List Jvm.Cond) (p1 : Int32) (p2 : Int32) (h0 : Heap) (n0 : Nat) (Z0 : n0 ≤ h0.size)  :
    MetFree l yMx (head1 (Jvm.Cond.code yMx jdk_29_method_65_code 2 (some .int) :: ws) ({ frames := 0, cells := 0, slots := 0, locals := 0 } : Room)) (fun a U => a = #[(.int p1), (.int p2)] ∧ Z.Warmed39 U.vm ∧ U.heap = h0) (fun _ _ _ _ _ => True) (fun _ U o U' => ∃ v L, o = .returned v ∧ Q_rmMax Z p1 p2 h0 n0 v U'.heap L ∧ FrameEnd U o U' L ({ frames := 0, cells := 0, slots := 0, locals := 0 } : Room).cells ({ frames := 0, cells := 0, slots := 0, locals := 0 } : Room).slots) := by
  refine MetFree.of_bodySF (Jvm.Free.JP.mathPlain rfl (by decide +kernel)) hisR ?_
  intro p e s m args below meth c s₁ Bd hml0 hP hK
  obtain ⟨rfl, hZ, hh⟩ := hP
  have hx := Bd.exec
  have hby := Bd.bytes
  have hml : c.maxLocals = 2 := hml0
  have hown : s.vm.findClass "java/lang/Math" = some m.cls := findClass_of_methodNamed Bd.named
  have hnm := (name_of_methodNamed Bd.named Bd.method).1
  have hret := Bd.returns
  have hlk : meth.locks = false := BodyLoose.notSynchronized Bd
  have X0 : Stand p l e ({ frames := 0, cells := 0, slots := 0, locals := 0 } : Room) s m #[(.int p1), (.int p2)] below meth c s₁ [] 0 0 := Stand.of_body Bd
  have e0 : s₁.heap = h0 := by rw [← hh, Bd.state]; rfl
  have N0 := Fr.nil n0
  refine Rch.body (Q := Q_rmMax Z p1 p2 h0 n0) (U' := s₁.setTop (mkF m 0 #[iv p1, iv p2] [])) (fun t k => castTop (ef_rmMax m p1 p2) k) ?_
  refine Rch.go (U' := s₁.setTop (mkF m 1 #[iv p1, iv p2] [(.int p1)])) (fun _ k => XS.iloadN X0.here hx rfl (hb hby d31_0) rfl  k) ?_
  refine Rch.go (U' := s₁.setTop (mkF m 2 #[iv p1, iv p2] [(.int p2), (.int p1)])) (fun _ k => XS.iloadN X0.here hx rfl (hb hby d31_1) rfl  k) ?_
  by_cases br1 : p1 < p2
  ·
    refine Rch.go (U' := s₁.setTop (mkF m 9 #[iv p1, iv p2] [])) (fun _ k => XS.icmpYes X0.here hx rfl (pc0 := 2) (pc' := 9) rfl (hb hby d31_2) rfl (XT.ii_lt_t br1) (by decide) (by decide) k) ?_
    refine Rch.go (U' := s₁.setTop (mkF m 10 #[iv p1, iv p2] [(.int p2)])) (fun _ k => XS.iloadN X0.here hx rfl (hb hby d31_9) rfl  k) ?_
    refine Rch.fin X0 hlk (v := some (.int p2)) (fun h => by rw [hret] at h; cases h) e0 (by decide) (by decide) (fun fs hr => retI X0 hx hret (hb hby d31_10) hr) ?_
    exact ⟨by simp only [own_max, br1, ↓reduceIte], N0, rfl⟩
  ·
    refine Rch.go (U' := s₁.setTop (mkF m 5 #[iv p1, iv p2] [])) (fun _ k => XS.icmpNo X0.here hx rfl (hb hby d31_2) rfl (XT.ii_lt_f br1) k) ?_
    refine Rch.go (U' := s₁.setTop (mkF m 6 #[iv p1, iv p2] [(.int p1)])) (fun _ k => XS.iloadN X0.here hx rfl (hb hby d31_5) rfl  k) ?_
    refine Rch.go (U' := s₁.setTop (mkF m 10 #[iv p1, iv p2] [(.int p1)])) (fun _ k => XS.goto X0.here hx rfl (pc0 := 6) (pc' := 10) rfl (hb hby d31_6) (by decide) (by decide) k) ?_
    refine Rch.fin X0 hlk (v := some (.int p1)) (fun h => by rw [hret] at h; cases h) e0 (by decide) (by decide) (fun fs hr => retI X0 hx hret (hb hby d31_10) hr) ?_
    exact ⟨by simp only [own_max, br1, ↓reduceIte], N0, rfl⟩
theorem own_getJ (gs : List Int64) (i : Nat) : (gs.map Value.long).getD i (.long (0 : Int64)) = .long (gs.getD i 0) := by
  simp only [List.getD_eq_getElem?_getD, List.getElem?_map]
  cases gs[i]? <;> rfl
theorem own_setJ {Z : State} {h : Heap} {a : Addr} {k : ClassId} {n : Int32} {gs : List Int64} {i : Nat} {x : Int64} {d : Value} (V : Arv Z h a k .long n ((gs.map Value.long).set i (.long x)) d) : Arv Z h a k .long n ((gs.set i x).map Value.long) d := by
  rw [List.map_set]; exact V
def own_s (p : Int32) : Nat := (p &&& (3 : Int32)).toInt.toNat
theorem own_s4 (p : Int32) : ((p &&& (3 : Int32)) = 0 ∧ own_s p = 0) ∨ ((p &&& (3 : Int32)) = 1 ∧ own_s p = 1) ∨ ((p &&& (3 : Int32)) = 2 ∧ own_s p = 2) ∨ ((p &&& (3 : Int32)) = 3 ∧ own_s p = 3) := by
  have e : (p &&& (3 : Int32)).toInt = p.toInt % 4 := c_mask p 3 2 (by decide) (by decide)
  have t (k : Int32) (h : (p &&& (3 : Int32)).toInt = k.toInt) : (p &&& (3 : Int32)) = k := Int32.toInt_inj.mp h
  unfold own_s
  rcases (by omega : (p &&& (3 : Int32)).toInt = 0 ∨ (p &&& (3 : Int32)).toInt = 1 ∨ (p &&& (3 : Int32)).toInt = 2 ∨ (p &&& (3 : Int32)).toInt = 3) with h | h | h | h
  · exact Or.inl ⟨t 0 h, by rw [h]; rfl⟩
  · exact Or.inr (Or.inl ⟨t 1 h, by rw [h]; rfl⟩)
  · exact Or.inr (Or.inr (Or.inl ⟨t 2 h, by rw [h]; rfl⟩))
  · exact Or.inr (Or.inr (Or.inr ⟨t 3 h, by rw [h]; rfl⟩))
theorem own_n4 (p : Int32) : (p &&& (3 : Int32)) = 0 ∨ (p &&& (3 : Int32)) = 1 ∨ (p &&& (3 : Int32)) = 2 ∨ (p &&& (3 : Int32)) = 3 := by
  rcases own_s4 p with h | h | h | h
  · exact Or.inl h.1
  · exact Or.inr (Or.inl h.1)
  · exact Or.inr (Or.inr (Or.inl h.1))
  · exact Or.inr (Or.inr (Or.inr h.1))
/-- the first free place from i on -/
def own_free (gs : List Int64) : Nat → Nat → Nat
  | 0, i => i
  | k + 1, i => if gs.getD i 0 = 0 then i else own_free gs k ((i + 1) % 4)
/-- the place of x, from i on, or -1 -/
def own_find (gs : List Int64) (x : Int64) : Nat → Nat → Int32
  | 0, _ => -1
  | k + 1, i => if gs.getD i 0 = 0 then -1 else if gs.getD i 0 = x then Int32.ofNat i else own_find gs x k ((i + 1) % 4)
def own_add (gs : List Int64) (s : Nat) (x : Int64) : List Int64 := gs.set (own_free gs 4 s) x
theorem own_gset (gs : List Int64) (p i : Nat) (x : Int64) : (gs.set p x).getD i 0 = if i = p ∧ p < gs.length then x else gs.getD i 0 := by
  simp only [List.getD_eq_getElem?_getD, List.getElem?_set]
  by_cases h : p = i
  · subst h
    by_cases h2 : p < gs.length
    · simp [h2]
    · simp [h2, List.getElem?_eq_none (Nat.not_lt.mp h2)]
  · simp [h, Ne.symm h]
/-- a free place is met within k steps -/
def own_ok (gs : List Int64) : Nat → Nat → Prop
  | 0, _ => False
  | k + 1, i => gs.getD i 0 = 0 ∨ own_ok gs k ((i + 1) % 4)
theorem own_ok4 {gs : List Int64} (hz : gs.getD 0 0 = 0 ∨ gs.getD 1 0 = 0 ∨ gs.getD 2 0 = 0 ∨ gs.getD 3 0 = 0) {s : Nat} (h : s < 4) : own_ok gs 4 s := by
  have : s = 0 ∨ s = 1 ∨ s = 2 ∨ s = 3 := by omega
  rcases this with rfl | rfl | rfl | rfl
  · show gs.getD 0 0 = 0 ∨ gs.getD 1 0 = 0 ∨ gs.getD 2 0 = 0 ∨ gs.getD 3 0 = 0 ∨ False
    rcases hz with q | q | q | q <;> simp only [q, true_or, or_true]
  · show gs.getD 1 0 = 0 ∨ gs.getD 2 0 = 0 ∨ gs.getD 3 0 = 0 ∨ gs.getD 0 0 = 0 ∨ False
    rcases hz with q | q | q | q <;> simp only [q, true_or, or_true]
  · show gs.getD 2 0 = 0 ∨ gs.getD 3 0 = 0 ∨ gs.getD 0 0 = 0 ∨ gs.getD 1 0 = 0 ∨ False
    rcases hz with q | q | q | q <;> simp only [q, true_or, or_true]
  · show gs.getD 3 0 = 0 ∨ gs.getD 0 0 = 0 ∨ gs.getD 1 0 = 0 ∨ gs.getD 2 0 = 0 ∨ False
    rcases hz with q | q | q | q <;> simp only [q, true_or, or_true]
theorem own_s_lt (p : Int32) : own_s p < 4 := by rcases own_s4 p with h | h | h | h <;> omega
theorem own_find_new {gs : List Int64} {x : Int64} (hx : ¬ x = 0) (hn : ∀ i, ¬ gs.getD i 0 = x) (hl : gs.length = 4) : ∀ k i, i < 4 → own_ok gs k i →
    own_find (gs.set (own_free gs k i) x) x k i = Int32.ofNat (own_free gs k i) ∧ gs.getD (own_free gs k i) 0 = 0 ∧ own_free gs k i < 4 := by
  intro k
  induction k with
  | zero => intro i _ h; exact absurd h id
  | succ k ih =>
    intro i hi h
    by_cases q : gs.getD i 0 = 0
    · have e : own_free gs (k + 1) i = i := by rw [own_free, if_pos q]
      rw [e]
      refine ⟨?_, q, hi⟩
      have e2 : (gs.set i x).getD i 0 = x := by rw [own_gset, if_pos ⟨rfl, by omega⟩]
      rw [own_find, e2, if_neg hx, if_pos rfl]
    · have e : own_free gs (k + 1) i = own_free gs k ((i + 1) % 4) := by rw [own_free, if_neg q]
      have h' : own_ok gs k ((i + 1) % 4) := by
        rcases h with h | h
        · exact absurd h q
        · exact h
      obtain ⟨a, b, c⟩ := ih ((i + 1) % 4) (by omega) h'
      rw [e]
      refine ⟨?_, b, c⟩
      have ne : ¬ (i = own_free gs k ((i + 1) % 4) ∧ own_free gs k ((i + 1) % 4) < gs.length) := fun z => q (by rw [z.1]; exact b)
      have e2 : (gs.set (own_free gs k ((i + 1) % 4)) x).getD i 0 = gs.getD i 0 := by rw [own_gset, if_neg ne]
      rw [own_find, e2, if_neg q, if_neg (hn i)]
      exact a
theorem own_find_old {gs : List Int64} {p : Nat} {x y : Int64} (hp : gs.getD p 0 = 0) : ∀ k i, ¬ own_find gs x k i = -1 → own_find (gs.set p y) x k i = own_find gs x k i := by
  intro k
  induction k with
  | zero => intro i h; exact absurd rfl h
  | succ k ih =>
    intro i h
    by_cases q : gs.getD i 0 = 0
    · exact absurd (by rw [own_find, if_pos q]) h
    · have ne : ¬ (i = p ∧ p < gs.length) := fun z => q (by rw [z.1]; exact hp)
      have e2 : (gs.set p y).getD i 0 = gs.getD i 0 := by rw [own_gset, if_neg ne]
      by_cases q2 : gs.getD i 0 = x
      · rw [own_find, own_find, e2, if_neg q, if_pos q2, if_neg q, if_pos q2]
      · have h' : ¬ own_find gs x k ((i + 1) % 4) = -1 := fun z => h (by rw [own_find, if_neg q, if_neg q2]; exact z)
        rw [own_find, own_find, e2, if_neg q, if_neg q2, if_neg q, if_neg q2]
        exact ih _ h'
theorem own_find_no {gs : List Int64} {x : Int64} (h : ∀ i, gs.getD i 0 = 0 ∨ ¬ gs.getD i 0 = x) : ∀ k i, own_find gs x k i = -1 := by
  intro k
  induction k with
  | zero => intro i; rfl
  | succ k ih =>
    intro i
    by_cases q : gs.getD i 0 = 0
    · rw [own_find, if_pos q]
    · rw [own_find, if_neg q, if_neg ((h i).resolve_left q)]; exact ih _
theorem own_m1 : ∀ p : Fin 4, ¬ Int32.ofNat p.val = -1 := by decide
abbrev own_g0 : List Int64 := [(0 : Int64), (0 : Int64), (0 : Int64), (0 : Int64)]
theorem own_g0z (i : Nat) : own_g0.getD i 0 = 0 := by
  match i with
  | 0 => rfl
  | 1 => rfl
  | 2 => rfl
  | 3 => rfl
  | n + 4 => rfl
/-- what stands in the table is 0 or one of those added -/
theorem own_in_add (gs : List Int64) (s : Nat) (x : Int64) (i : Nat) : (own_add gs s x).getD i 0 = x ∨ (own_add gs s x).getD i 0 = gs.getD i 0 := by
  unfold own_add; rw [own_gset]; split
  · exact Or.inl rfl
  · exact Or.inr rfl
theorem own_len_add (gs : List Int64) (s : Nat) (x : Int64) : (own_add gs s x).length = gs.length := by unfold own_add; rw [List.length_set]
theorem own_pig (a b c : Nat) : (0 ≠ a ∧ 0 ≠ b ∧ 0 ≠ c) ∨ (1 ≠ a ∧ 1 ≠ b ∧ 1 ≠ c) ∨ (2 ≠ a ∧ 2 ≠ b ∧ 2 ≠ c) ∨ (3 ≠ a ∧ 3 ≠ b ∧ 3 ≠ c) := by omega
theorem own_keepz {gs : List Int64} {p i : Nat} {x : Int64} (h : gs.getD i 0 = 0) (ne : i ≠ p) : (gs.set p x).getD i 0 = 0 := by rw [own_gset, if_neg (fun z => ne z.1)]; exact h
theorem own_hz3 (s1 : Nat) (x1 : Int64) (s2 : Nat) (x2 : Int64) (s3 : Nat) (x3 : Int64) : (own_add (own_add (own_add own_g0 s1 x1) s2 x2) s3 x3).getD 0 0 = 0 ∨ (own_add (own_add (own_add own_g0 s1 x1) s2 x2) s3 x3).getD 1 0 = 0 ∨ (own_add (own_add (own_add own_g0 s1 x1) s2 x2) s3 x3).getD 2 0 = 0 ∨ (own_add (own_add (own_add own_g0 s1 x1) s2 x2) s3 x3).getD 3 0 = 0 := by
  unfold own_add
  generalize own_free own_g0 4 s1 = a
  generalize own_free (own_g0.set a x1) 4 s2 = b
  generalize own_free ((own_g0.set a x1).set b x2) 4 s3 = c
  rcases own_pig a b c with ⟨h1, h2, h3⟩ | ⟨h1, h2, h3⟩ | ⟨h1, h2, h3⟩ | ⟨h1, h2, h3⟩
  · exact Or.inl (own_keepz (own_keepz (own_keepz (own_g0z _) h1) h2) h3)
  · exact Or.inr (Or.inl (own_keepz (own_keepz (own_keepz (own_g0z _) h1) h2) h3))
  · exact Or.inr (Or.inr (Or.inl (own_keepz (own_keepz (own_keepz (own_g0z _) h1) h2) h3)))
  · exact Or.inr (Or.inr (Or.inr (own_keepz (own_keepz (own_keepz (own_g0z _) h1) h2) h3)))
theorem own_hz2 (s1 : Nat) (x1 : Int64) (s2 : Nat) (x2 : Int64) : (own_add (own_add own_g0 s1 x1) s2 x2).getD 0 0 = 0 ∨ (own_add (own_add own_g0 s1 x1) s2 x2).getD 1 0 = 0 ∨ (own_add (own_add own_g0 s1 x1) s2 x2).getD 2 0 = 0 ∨ (own_add (own_add own_g0 s1 x1) s2 x2).getD 3 0 = 0 := by
  unfold own_add
  generalize own_free own_g0 4 s1 = a
  generalize own_free (own_g0.set a x1) 4 s2 = b
  rcases own_pig a b b with ⟨h1, h2, h3⟩ | ⟨h1, h2, h3⟩ | ⟨h1, h2, h3⟩ | ⟨h1, h2, h3⟩
  · exact Or.inl (own_keepz (own_keepz (own_g0z _) h1) h2)
  · exact Or.inr (Or.inl (own_keepz (own_keepz (own_g0z _) h1) h2))
  · exact Or.inr (Or.inr (Or.inl (own_keepz (own_keepz (own_g0z _) h1) h2)))
  · exact Or.inr (Or.inr (Or.inr (own_keepz (own_keepz (own_g0z _) h1) h2)))
theorem own_hz1 (s1 : Nat) (x1 : Int64) : (own_add own_g0 s1 x1).getD 0 0 = 0 ∨ (own_add own_g0 s1 x1).getD 1 0 = 0 ∨ (own_add own_g0 s1 x1).getD 2 0 = 0 ∨ (own_add own_g0 s1 x1).getD 3 0 = 0 := by
  unfold own_add
  generalize own_free own_g0 4 s1 = a
  rcases own_pig a a a with ⟨h1, h2, h3⟩ | ⟨h1, h2, h3⟩ | ⟨h1, h2, h3⟩ | ⟨h1, h2, h3⟩
  · exact Or.inl (own_keepz (own_g0z _) h1)
  · exact Or.inr (Or.inl (own_keepz (own_g0z _) h1))
  · exact Or.inr (Or.inr (Or.inl (own_keepz (own_g0z _) h1)))
  · exact Or.inr (Or.inr (Or.inr (own_keepz (own_g0z _) h1)))
section Found
variable {p1 p2 p3 : Int32} {x1 x2 x3 qq : Int64} {s : Nat}
abbrev own_g1 (p1 : Int32) (x1 : Int64) : List Int64 := own_add own_g0 (own_s p1) x1
abbrev own_g2 (p1 p2 : Int32) (x1 x2 : Int64) : List Int64 := own_add (own_g1 p1 x1) (own_s p2) x2
abbrev own_g3 (p1 p2 p3 : Int32) (x1 x2 x3 : Int64) : List Int64 := own_add (own_g2 p1 p2 x1 x2) (own_s p3) x3
theorem own_A1 (h1 : ¬ x1 = 0) : own_find (own_g1 p1 x1) x1 4 (own_s p1) = Int32.ofNat (own_free own_g0 4 (own_s p1)) ∧ own_g0.getD (own_free own_g0 4 (own_s p1)) 0 = 0 ∧ own_free own_g0 4 (own_s p1) < 4 :=
  own_find_new h1 (fun i q => h1 (by rw [← q, own_g0z])) rfl 4 _ (own_s_lt p1) (own_ok4 (Or.inl rfl) (own_s_lt p1))
theorem own_A2 (h2 : ¬ x2 = 0) (h21 : ¬ x2 = x1) : own_find (own_g2 p1 p2 x1 x2) x2 4 (own_s p2) = Int32.ofNat (own_free (own_g1 p1 x1) 4 (own_s p2)) ∧ (own_g1 p1 x1).getD (own_free (own_g1 p1 x1) 4 (own_s p2)) 0 = 0 ∧ own_free (own_g1 p1 x1) 4 (own_s p2) < 4 :=
  own_find_new h2 (fun i q => by rcases own_in_add own_g0 (own_s p1) x1 i with z | z
                                 · exact h21 (q.symm.trans z)
                                 · exact h2 (q.symm.trans (z.trans (own_g0z i)))) (by rw [own_len_add]; rfl) 4 _ (own_s_lt p2) (own_ok4 (own_hz1 _ _) (own_s_lt p2))
theorem own_A3 (h3 : ¬ x3 = 0) (h31 : ¬ x3 = x1) (h32 : ¬ x3 = x2) : own_find (own_g3 p1 p2 p3 x1 x2 x3) x3 4 (own_s p3) = Int32.ofNat (own_free (own_g2 p1 p2 x1 x2) 4 (own_s p3)) ∧ (own_g2 p1 p2 x1 x2).getD (own_free (own_g2 p1 p2 x1 x2) 4 (own_s p3)) 0 = 0 ∧ own_free (own_g2 p1 p2 x1 x2) 4 (own_s p3) < 4 :=
  own_find_new h3 (fun i q => by rcases own_in_add (own_g1 p1 x1) (own_s p2) x2 i with z | z
                                 · exact h32 (q.symm.trans z)
                                 · rcases own_in_add own_g0 (own_s p1) x1 i with y | y
                                   · exact h31 (q.symm.trans (z.trans y))
                                   · exact h3 (q.symm.trans (z.trans (y.trans (own_g0z i))))) (by rw [own_len_add, own_len_add]; rfl) 4 _ (own_s_lt p3) (own_ok4 (own_hz2 _ _ _ _) (own_s_lt p3))
theorem own_ne1 {n : Nat} (h : n < 4) {z : Int32} (e : z = Int32.ofNat n) : ¬ z = -1 := e ▸ own_m1 ⟨n, h⟩
theorem own_found1_1 (h1 : ¬ x1 = 0) : own_find (own_g1 p1 x1) x1 4 (own_s p1) = Int32.ofNat (own_free own_g0 4 (own_s p1)) := (own_A1 h1).1
theorem own_found2_1 (h1 : ¬ x1 = 0) (h2 : ¬ x2 = 0) (h21 : ¬ x2 = x1) : own_find (own_g2 p1 p2 x1 x2) x1 4 (own_s p1) = Int32.ofNat (own_free own_g0 4 (own_s p1)) :=
  (own_find_old (own_A2 h2 h21).2.1 4 _ (own_ne1 (own_A1 h1).2.2 (own_A1 h1).1)).trans (own_A1 h1).1
theorem own_found2_2 (h1 : ¬ x1 = 0) (h2 : ¬ x2 = 0) (h21 : ¬ x2 = x1) : own_find (own_g2 p1 p2 x1 x2) x2 4 (own_s p2) = Int32.ofNat (own_free (own_g1 p1 x1) 4 (own_s p2)) := (own_A2 h2 h21).1
theorem own_found3_1 (h1 : ¬ x1 = 0) (h2 : ¬ x2 = 0) (h21 : ¬ x2 = x1) (h3 : ¬ x3 = 0) (h31 : ¬ x3 = x1) (h32 : ¬ x3 = x2) : own_find (own_g3 p1 p2 p3 x1 x2 x3) x1 4 (own_s p1) = Int32.ofNat (own_free own_g0 4 (own_s p1)) :=
  (own_find_old (own_A3 h3 h31 h32).2.1 4 _ (own_ne1 (own_A1 h1).2.2 (own_found2_1 h1 h2 h21))).trans (own_found2_1 h1 h2 h21)
theorem own_found3_2 (h1 : ¬ x1 = 0) (h2 : ¬ x2 = 0) (h21 : ¬ x2 = x1) (h3 : ¬ x3 = 0) (h31 : ¬ x3 = x1) (h32 : ¬ x3 = x2) : own_find (own_g3 p1 p2 p3 x1 x2 x3) x2 4 (own_s p2) = Int32.ofNat (own_free (own_g1 p1 x1) 4 (own_s p2)) :=
  (own_find_old (own_A3 h3 h31 h32).2.1 4 _ (own_ne1 (own_A2 h2 h21).2.2 (own_A2 h2 h21).1)).trans (own_A2 h2 h21).1
theorem own_found3_3 (h1 : ¬ x1 = 0) (h2 : ¬ x2 = 0) (h21 : ¬ x2 = x1) (h3 : ¬ x3 = 0) (h31 : ¬ x3 = x1) (h32 : ¬ x3 = x2) : own_find (own_g3 p1 p2 p3 x1 x2 x3) x3 4 (own_s p3) = Int32.ofNat (own_free (own_g2 p1 p2 x1 x2) 4 (own_s p3)) := (own_A3 h3 h31 h32).1
theorem own_none1 (h1 : ¬ qq = x1) : own_find (own_g1 p1 x1) qq 4 s = -1 := own_find_no (fun i => by
  rcases own_in_add own_g0 (own_s p1) x1 i with z | z
  · exact Or.inr fun q => h1 (q.symm.trans z)
  · exact Or.inl (z.trans (own_g0z i))) 4 s
theorem own_none2 (h1 : ¬ qq = x1) (h2 : ¬ qq = x2) : own_find (own_g2 p1 p2 x1 x2) qq 4 s = -1 := own_find_no (fun i => by
  rcases own_in_add (own_g1 p1 x1) (own_s p2) x2 i with z | z
  · exact Or.inr fun q => h2 (q.symm.trans z)
  · rcases own_in_add own_g0 (own_s p1) x1 i with y | y
    · exact Or.inr fun q => h1 (q.symm.trans (z.trans y))
    · exact Or.inl (z.trans (y.trans (own_g0z i)))) 4 s
theorem own_none3 (h1 : ¬ qq = x1) (h2 : ¬ qq = x2) (h3 : ¬ qq = x3) : own_find (own_g3 p1 p2 p3 x1 x2 x3) qq 4 s = -1 := own_find_no (fun i => by
  rcases own_in_add (own_g2 p1 p2 x1 x2) (own_s p3) x3 i with w | w
  · exact Or.inr fun q => h3 (q.symm.trans w)
  · rcases own_in_add (own_g1 p1 x1) (own_s p2) x2 i with z | z
    · exact Or.inr fun q => h2 (q.symm.trans (w.trans z))
    · rcases own_in_add own_g0 (own_s p1) x1 i with y | y
      · exact Or.inr fun q => h1 (q.symm.trans (w.trans (z.trans y)))
      · exact Or.inl (w.trans (z.trans (y.trans (own_g0z i))))) 4 s
end Found

/-- the table as it stands: its object, its three arrays -/
def Tb (Z : State) (h : Heap) (n0 : Nat) (a1 bh ba bl : Addr) (kh ka kl : ClassId) (cn : Int32) (gs : List Int64) (va vl : List Value) : Prop :=
  Exa Z h a1 cST ∧ Fld Z h a1 cST "count" "I" (.int cn) ∧ Fld Z h a1 cST "handles" "[J" (.ref bh) ∧ Fld Z h a1 cST "hashes" "[I" (.ref ba) ∧ Fld Z h a1 cST "lengths" "[I" (.ref bl) ∧ Fld Z h a1 cST "outside" "[[B" .null ∧ Fld Z h a1 cST "expiries" "Ljava/util/BitSet;" .null ∧ Arv Z h bh kh .long (4 : Int32) (gs.map Value.long) (.long (0 : Int64)) ∧ Arv Z h ba ka .int (4 : Int32) va (.int (0 : Int32)) ∧ Arv Z h bl kl .int (4 : Int32) vl (.int (0 : Int32)) ∧
  (gs.length = 4 ∧ va.length = 4 ∧ vl.length = 4) ∧ (n0 ≤ a1 ∧ n0 ≤ bh ∧ n0 ≤ ba ∧ n0 ≤ bl) ∧ (a1 ≠ bh ∧ a1 ≠ ba ∧ a1 ≠ bl) ∧ bh ≠ ba ∧ bh ≠ bl ∧ ba ≠ bl
theorem d25_0 : decode prog_36_method_4_code 0 = .ok (.aload_n 0, 1) := by decide +kernel
theorem d25_1 : decode prog_36_method_4_code 1 = .ok (.getfield 27, 3) := by decide +kernel
theorem d25_4 : decode prog_36_method_4_code 4 = .ok (.ifnonnull 7, 3) := by decide +kernel
theorem d25_7 : decode prog_36_method_4_code 7 = .ok (.iconst 0, 1) := by decide +kernel
theorem d25_8 : decode prog_36_method_4_code 8 = .ok (.goto 8, 3) := by decide +kernel
theorem d25_11 : decode prog_36_method_4_code 11 = .ok (.aload_n 0, 1) := by decide +kernel
theorem d25_12 : decode prog_36_method_4_code 12 = .ok (.getfield 27, 3) := by decide +kernel
theorem d25_15 : decode prog_36_method_4_code 15 = .ok (.arraylength, 1) := by decide +kernel
theorem d25_16 : decode prog_36_method_4_code 16 = .ok (.ireturn, 1) := by decide +kernel
theorem pn_com_example_slotwise_slotwise_keyspace_SlotTable : plainName cST = true := by first | (simp [plainName, overriddenIn]; done) | decide +kernel
theorem ef_rmP0 (m : MethodId) (a1 : Addr) : entryFrame m #[(.ref a1)] 1 = mkF m 0 #[rv a1] [] := by first | (simp [entryFrame, mkF, argsToLocals, Value.category]; done) | rfl
def Q_rmP0 (Z : State) (a1 : Addr) (h0 : Heap) (n0 : Nat) (v : Option Value) (h : Heap) (L : List Loc) : Prop := v = some (.int (0 : Int32)) ∧ Fr n0 L ∧ h = h0
set_option maxRecDepth 65536 in
set_option maxHeartbeats 40000000 in
theorem rmP0 (l : Launch) (Z : State) (a0 : Array Value) (hw : ∀ d ∈ tables_1, d.before a0 Z = true) (ws : List Jvm.Cond) (a1 : Addr) (h0 : Heap) (n0 : Nat) (Z0 : n0 ≤ h0.size) (F_h : Fld Z h0 a1 cST "handles" "[J" .null) :
    MetFree l yP (head1 (Jvm.Cond.code yP prog_36_method_4_code 1 (some .int) :: ws) ({ frames := 0, cells := 0, slots := 0, locals := 0 } : Room)) (fun a U => a = #[(.ref a1)] ∧ Z.Warmed39 U.vm ∧ U.heap = h0) (fun _ _ _ _ _ => True) (fun _ U o U' => ∃ v L, o = .returned v ∧ Q_rmP0 Z a1 h0 n0 v U'.heap L ∧ FrameEnd U o U' L ({ frames := 0, cells := 0, slots := 0, locals := 0 } : Room).cells ({ frames := 0, cells := 0, slots := 0, locals := 0 } : Room).slots) := by
  refine MetFree.of_bodySF (plainFor_of_name pn_com_example_slotwise_slotwise_keyspace_SlotTable) hisR ?_
  intro p e s m args below meth c s₁ Bd hml0 hP hK
  obtain ⟨rfl, hZ, hh⟩ := hP
  have hx := Bd.exec
  have hby := Bd.bytes
  have hml : c.maxLocals = 1 := hml0
  have hown : s.vm.findClass cST = some m.cls := findClass_of_methodNamed Bd.named
  have hnm := (name_of_methodNamed Bd.named Bd.method).1
  have hret := Bd.returns
  have hlk : meth.locks = false := BodyLoose.notSynchronized Bd
  have X0 : Stand p l e ({ frames := 0, cells := 0, slots := 0, locals := 0 } : Room) s m #[(.ref a1)] below meth c s₁ [] 0 0 := Stand.of_body Bd
  have e0 : s₁.heap = h0 := by rw [← hh, Bd.state]; rfl
  have N0 := Fr.nil n0
  refine Rch.body (Q := Q_rmP0 Z a1 h0 n0) (U' := s₁.setTop (mkF m 0 #[rv a1] [])) (fun t k => castTop (ef_rmP0 m a1) k) ?_
  refine Rch.go (U' := s₁.setTop (mkF m 1 #[rv a1] [(.ref a1)])) (fun _ k => XS.aloadN X0.here hx rfl (hb hby d25_0) rfl rfl k) ?_
  obtain ⟨T2, X2, e2, st2⟩ := getF X0 hx hZ hown (host := "") (Or.inl (wi hw 26 rfl)) Via.refl e0 F_h (g := (mkF m 1 #[rv a1] [(.ref a1)])) rfl rfl (hb hby d25_1)
  refine Rch.go (U' := T2.setTop (mkF m 4 #[rv a1] [.null])) st2 ?_
  refine Rch.go (U' := T2.setTop (mkF m 7 #[rv a1] [])) (fun _ k => XS.ifnonnullNo X2.here hx rfl (hb hby d25_4) rfl k) ?_
  refine Rch.go (U' := T2.setTop (mkF m 8 #[rv a1] [(.int (0 : Int32))])) (fun _ k => XS.iconst X2.here hx rfl (hb hby d25_7) k) ?_
  refine Rch.go (U' := T2.setTop (mkF m 16 #[rv a1] [(.int (0 : Int32))])) (fun _ k => XS.goto X2.here hx rfl (pc0 := 8) (pc' := 16) rfl (hb hby d25_8) (by decide) (by decide) k) ?_
  refine Rch.fin X2 hlk (v := some (.int (0 : Int32))) (fun h => by rw [hret] at h; cases h) e2 (by decide) (by decide) (fun fs hr => retI X2 hx hret (hb hby d25_16) hr) ?_
  exact ⟨rfl, N0, rfl⟩
theorem ef_rmP4 (m : MethodId) (a1 : Addr) : entryFrame m #[(.ref a1)] 1 = mkF m 0 #[rv a1] [] := by first | (simp [entryFrame, mkF, argsToLocals, Value.category]; done) | rfl
def Q_rmP4 (Z : State) (a1 : Addr) (bh : Addr) (kh : ClassId) (gs : List Int64) (h0 : Heap) (n0 : Nat) (v : Option Value) (h : Heap) (L : List Loc) : Prop := v = some (.int (4 : Int32)) ∧ Fr n0 L ∧ h = h0
set_option maxRecDepth 65536 in
set_option maxHeartbeats 40000000 in
theorem rmP4 (l : Launch) (Z : State) (a0 : Array Value) (hw : ∀ d ∈ tables_1, d.before a0 Z = true) (ws : List Jvm.Cond) (a1 : Addr) (bh : Addr) (kh : ClassId) (gs : List Int64) (h0 : Heap) (n0 : Nat) (Z0 : n0 ≤ h0.size) (F_h : Fld Z h0 a1 cST "handles" "[J" (.ref bh)) (V_bh : Arv Z h0 bh kh .long (4 : Int32) (gs.map Value.long) (.long (0 : Int64))) :
    MetFree l yP (head1 (Jvm.Cond.code yP prog_36_method_4_code 1 (some .int) :: ws) ({ frames := 0, cells := 0, slots := 0, locals := 0 } : Room)) (fun a U => a = #[(.ref a1)] ∧ Z.Warmed39 U.vm ∧ U.heap = h0) (fun _ _ _ _ _ => True) (fun _ U o U' => ∃ v L, o = .returned v ∧ Q_rmP4 Z a1 bh kh gs h0 n0 v U'.heap L ∧ FrameEnd U o U' L ({ frames := 0, cells := 0, slots := 0, locals := 0 } : Room).cells ({ frames := 0, cells := 0, slots := 0, locals := 0 } : Room).slots) := by
  refine MetFree.of_bodySF (plainFor_of_name pn_com_example_slotwise_slotwise_keyspace_SlotTable) hisR ?_
  intro p e s m args below meth c s₁ Bd hml0 hP hK
  obtain ⟨rfl, hZ, hh⟩ := hP
  have hx := Bd.exec
  have hby := Bd.bytes
  have hml : c.maxLocals = 1 := hml0
  have hown : s.vm.findClass cST = some m.cls := findClass_of_methodNamed Bd.named
  have hnm := (name_of_methodNamed Bd.named Bd.method).1
  have hret := Bd.returns
  have hlk : meth.locks = false := BodyLoose.notSynchronized Bd
  have X0 : Stand p l e ({ frames := 0, cells := 0, slots := 0, locals := 0 } : Room) s m #[(.ref a1)] below meth c s₁ [] 0 0 := Stand.of_body Bd
  have e0 : s₁.heap = h0 := by rw [← hh, Bd.state]; rfl
  have N0 := Fr.nil n0
  refine Rch.body (Q := Q_rmP4 Z a1 bh kh gs h0 n0) (U' := s₁.setTop (mkF m 0 #[rv a1] [])) (fun t k => castTop (ef_rmP4 m a1) k) ?_
  refine Rch.go (U' := s₁.setTop (mkF m 1 #[rv a1] [(.ref a1)])) (fun _ k => XS.aloadN X0.here hx rfl (hb hby d25_0) rfl rfl k) ?_
  obtain ⟨T3, X3, e3, st3⟩ := getF X0 hx hZ hown (host := "") (Or.inl (wi hw 26 rfl)) Via.refl e0 F_h (g := (mkF m 1 #[rv a1] [(.ref a1)])) rfl rfl (hb hby d25_1)
  refine Rch.go (U' := T3.setTop (mkF m 4 #[rv a1] [(.ref bh)])) st3 ?_
  refine Rch.go (U' := T3.setTop (mkF m 11 #[rv a1] [])) (fun _ k => XS.ifnonnullYes X3.here hx rfl (pc0 := 4) (pc' := 11) rfl (hb hby d25_4) rfl (by decide) (by decide) k) ?_
  refine Rch.go (U' := T3.setTop (mkF m 12 #[rv a1] [(.ref a1)])) (fun _ k => XS.aloadN X3.here hx rfl (hb hby d25_11) rfl rfl k) ?_
  obtain ⟨T4, X4, e4, st4⟩ := getF X3 hx hZ hown (host := "") (Or.inl (wi hw 26 rfl)) Via.refl e3 F_h (g := (mkF m 12 #[rv a1] [(.ref a1)])) rfl rfl (hb hby d25_12)
  refine Rch.go (U' := T4.setTop (mkF m 15 #[rv a1] [(.ref bh)])) st4 ?_
  obtain ⟨cl5, Ar5, -, Sz5, Mn5, -, -⟩ := id V_bh
  refine Rch.go (U' := T4.setTop (mkF m 16 #[rv a1] [(.int cl5.slots.size.toInt32)])) (fun _ k => X4.arraylength hx (by rw [e4]; exact Ar5.1) (State.isArrayOf_alike hZ.alike Ar5.2.1) (g := (mkF m 15 #[rv a1] [(.ref bh)])) rfl rfl (hb hby d25_15) _ k) ?_
  rw [len_of Sz5 Mn5]
  refine Rch.fin X4 hlk (v := some (.int (4 : Int32))) (fun h => by rw [hret] at h; cases h) e4 (by decide) (by decide) (fun fs hr => retI X4 hx hret (hb hby d25_16) hr) ?_
  exact ⟨rfl, N0, rfl⟩
theorem d59_0 : decode prog_36_method_10_code 0 = .ok (.aload_n 0, 1) := by decide +kernel
theorem d59_1 : decode prog_36_method_10_code 1 = .ok (.getfield 44, 3) := by decide +kernel
theorem d59_4 : decode prog_36_method_10_code 4 = .ok (.ifnull 18, 3) := by decide +kernel
theorem d59_7 : decode prog_36_method_10_code 7 = .ok (.aload_n 0, 1) := by decide +kernel
theorem d59_8 : decode prog_36_method_10_code 8 = .ok (.getfield 44, 3) := by decide +kernel
theorem d59_11 : decode prog_36_method_10_code 11 = .ok (.iload_n 1, 1) := by decide +kernel
theorem d59_12 : decode prog_36_method_10_code 12 = .ok (.invokevirtual 48, 3) := by decide +kernel
theorem d59_15 : decode prog_36_method_10_code 15 = .ok (.ifCond .eq 7, 3) := by decide +kernel
theorem d59_18 : decode prog_36_method_10_code 18 = .ok (.iconst 1, 1) := by decide +kernel
theorem d59_19 : decode prog_36_method_10_code 19 = .ok (.goto 4, 3) := by decide +kernel
theorem d59_22 : decode prog_36_method_10_code 22 = .ok (.iconst 0, 1) := by decide +kernel
theorem d59_23 : decode prog_36_method_10_code 23 = .ok (.ireturn, 1) := by decide +kernel
theorem ef_rmX (m : MethodId) (a1 : Addr) (p1 : Int32) : entryFrame m #[(.ref a1), (.int p1)] 2 = mkF m 0 #[rv a1, iv p1] [] := by first | (simp [entryFrame, mkF, argsToLocals, Value.category]; done) | rfl
def Q_rmX (Z : State) (a1 : Addr) (p1 : Int32) (h0 : Heap) (n0 : Nat) (v : Option Value) (h : Heap) (L : List Loc) : Prop := v = some (.int (0 : Int32)) ∧ Fr n0 L ∧ h = h0
set_option maxRecDepth 65536 in
set_option maxHeartbeats 40000000 in
theorem rmX (l : Launch) (Z : State) (a0 : Array Value) (hw : ∀ d ∈ tables_1, d.before a0 Z = true) (ws : List Jvm.Cond) (a1 : Addr) (p1 : Int32) (h0 : Heap) (n0 : Nat) (Z0 : n0 ≤ h0.size) (F_x : Fld Z h0 a1 cST "expiries" "Ljava/util/BitSet;" .null) :
    MetFree l yX (head1 (Jvm.Cond.code yX prog_36_method_10_code 2 (some .boolean) :: ws) ({ frames := 0, cells := 0, slots := 0, locals := 0 } : Room)) (fun a U => a = #[(.ref a1), (.int p1)] ∧ Z.Warmed39 U.vm ∧ U.heap = h0) (fun _ _ _ _ _ => True) (fun _ U o U' => ∃ v L, o = .returned v ∧ Q_rmX Z a1 p1 h0 n0 v U'.heap L ∧ FrameEnd U o U' L ({ frames := 0, cells := 0, slots := 0, locals := 0 } : Room).cells ({ frames := 0, cells := 0, slots := 0, locals := 0 } : Room).slots) := by
  refine MetFree.of_bodySF (plainFor_of_name pn_com_example_slotwise_slotwise_keyspace_SlotTable) hisR ?_
  intro p e s m args below meth c s₁ Bd hml0 hP hK
  obtain ⟨rfl, hZ, hh⟩ := hP
  have hx := Bd.exec
  have hby := Bd.bytes
  have hml : c.maxLocals = 2 := hml0
  have hown : s.vm.findClass cST = some m.cls := findClass_of_methodNamed Bd.named
  have hnm := (name_of_methodNamed Bd.named Bd.method).1
  have hret := Bd.returns
  have hlk : meth.locks = false := BodyLoose.notSynchronized Bd
  have X0 : Stand p l e ({ frames := 0, cells := 0, slots := 0, locals := 0 } : Room) s m #[(.ref a1), (.int p1)] below meth c s₁ [] 0 0 := Stand.of_body Bd
  have e0 : s₁.heap = h0 := by rw [← hh, Bd.state]; rfl
  have N0 := Fr.nil n0
  refine Rch.body (Q := Q_rmX Z a1 p1 h0 n0) (U' := s₁.setTop (mkF m 0 #[rv a1, iv p1] [])) (fun t k => castTop (ef_rmX m a1 p1) k) ?_
  refine Rch.go (U' := s₁.setTop (mkF m 1 #[rv a1, iv p1] [(.ref a1)])) (fun _ k => XS.aloadN X0.here hx rfl (hb hby d59_0) rfl rfl k) ?_
  obtain ⟨T6, X6, e6, st6⟩ := getF X0 hx hZ hown (host := "") (Or.inl (wi hw 44 rfl)) Via.refl e0 F_x (g := (mkF m 1 #[rv a1, iv p1] [(.ref a1)])) rfl rfl (hb hby d59_1)
  refine Rch.go (U' := T6.setTop (mkF m 4 #[rv a1, iv p1] [.null])) st6 ?_
  refine Rch.go (U' := T6.setTop (mkF m 22 #[rv a1, iv p1] [])) (fun _ k => XS.ifnullYes X6.here hx rfl (pc0 := 4) (pc' := 22) rfl (hb hby d59_4) rfl (by decide) (by decide) k) ?_
  refine Rch.go (U' := T6.setTop (mkF m 23 #[rv a1, iv p1] [(.int (0 : Int32))])) (fun _ k => XS.iconst X6.here hx rfl (hb hby d59_22) k) ?_
  refine Rch.fin X6 hlk (v := some (.int (nar .boolean (0 : Int32)))) (fun h => by rw [hret] at h; cases h) e6 (by decide) (by decide) (fun fs hr => retN X6 hx (t := .boolean) hret (by simp) (hb hby d59_23) hr) ?_
  exact ⟨rfl, N0, rfl⟩
theorem d54_0 : decode prog_36_method_18_code 0 = .ok (.iload 6, 2) := by decide +kernel
theorem d54_2 : decode prog_36_method_18_code 2 = .ok (.ifCond .eq 55, 3) := by decide +kernel
theorem d54_5 : decode prog_36_method_18_code 5 = .ok (.aload_n 0, 1) := by decide +kernel
theorem d54_6 : decode prog_36_method_18_code 6 = .ok (.iload_n 1, 1) := by decide +kernel
theorem d54_7 : decode prog_36_method_18_code 7 = .ok (.invokevirtual 90, 3) := by decide +kernel
theorem d54_10 : decode prog_36_method_18_code 10 = .ok (.ifCond .ne 47, 3) := by decide +kernel
theorem d54_13 : decode prog_36_method_18_code 13 = .ok (.aload_n 0, 1) := by decide +kernel
theorem d54_14 : decode prog_36_method_18_code 14 = .ok (.getfield 44, 3) := by decide +kernel
theorem d54_17 : decode prog_36_method_18_code 17 = .ok (.ifnonnull 19, 3) := by decide +kernel
theorem d54_20 : decode prog_36_method_18_code 20 = .ok (.aload_n 0, 1) := by decide +kernel
theorem d54_21 : decode prog_36_method_18_code 21 = .ok (.new 49, 3) := by decide +kernel
theorem d54_24 : decode prog_36_method_18_code 24 = .ok (.dup, 1) := by decide +kernel
theorem d54_25 : decode prog_36_method_18_code 25 = .ok (.aload_n 0, 1) := by decide +kernel
theorem d54_26 : decode prog_36_method_18_code 26 = .ok (.getfield 27, 3) := by decide +kernel
theorem d54_29 : decode prog_36_method_18_code 29 = .ok (.arraylength, 1) := by decide +kernel
theorem d54_30 : decode prog_36_method_18_code 30 = .ok (.invokespecial 93, 3) := by decide +kernel
theorem d54_33 : decode prog_36_method_18_code 33 = .ok (.putfield 44, 3) := by decide +kernel
theorem d54_36 : decode prog_36_method_18_code 36 = .ok (.aload_n 0, 1) := by decide +kernel
theorem d54_37 : decode prog_36_method_18_code 37 = .ok (.getfield 44, 3) := by decide +kernel
theorem d54_40 : decode prog_36_method_18_code 40 = .ok (.iload_n 1, 1) := by decide +kernel
theorem d54_41 : decode prog_36_method_18_code 41 = .ok (.invokevirtual 95, 3) := by decide +kernel
theorem d54_44 : decode prog_36_method_18_code 44 = .ok (.aload_n 0, 1) := by decide +kernel
theorem d54_45 : decode prog_36_method_18_code 45 = .ok (.dup, 1) := by decide +kernel
theorem d54_46 : decode prog_36_method_18_code 46 = .ok (.getfield 24, 3) := by decide +kernel
theorem d54_49 : decode prog_36_method_18_code 49 = .ok (.iconst 1, 1) := by decide +kernel
theorem d54_50 : decode prog_36_method_18_code 50 = .ok (.iadd, 1) := by decide +kernel
theorem d54_51 : decode prog_36_method_18_code 51 = .ok (.putfield 24, 3) := by decide +kernel
theorem d54_54 : decode prog_36_method_18_code 54 = .ok (.goto 21, 3) := by decide +kernel
theorem d54_57 : decode prog_36_method_18_code 57 = .ok (.iload 6, 2) := by decide +kernel
theorem d54_59 : decode prog_36_method_18_code 59 = .ok (.ifCond .ne 16, 3) := by decide +kernel
theorem d54_62 : decode prog_36_method_18_code 62 = .ok (.aload_n 0, 1) := by decide +kernel
theorem d54_63 : decode prog_36_method_18_code 63 = .ok (.iload_n 1, 1) := by decide +kernel
theorem d54_64 : decode prog_36_method_18_code 64 = .ok (.invokevirtual 90, 3) := by decide +kernel
theorem d54_67 : decode prog_36_method_18_code 67 = .ok (.ifCond .eq 8, 3) := by decide +kernel
theorem d54_70 : decode prog_36_method_18_code 70 = .ok (.aload_n 0, 1) := by decide +kernel
theorem d54_71 : decode prog_36_method_18_code 71 = .ok (.iload_n 1, 1) := by decide +kernel
theorem d54_72 : decode prog_36_method_18_code 72 = .ok (.invokevirtual 97, 3) := by decide +kernel
theorem d54_75 : decode prog_36_method_18_code 75 = .ok (.aload_n 0, 1) := by decide +kernel
theorem d54_76 : decode prog_36_method_18_code 76 = .ok (.getfield 27, 3) := by decide +kernel
theorem d54_79 : decode prog_36_method_18_code 79 = .ok (.iload_n 1, 1) := by decide +kernel
theorem d54_80 : decode prog_36_method_18_code 80 = .ok (.lload_n 2, 1) := by decide +kernel
theorem d54_81 : decode prog_36_method_18_code 81 = .ok (.lastore, 1) := by decide +kernel
theorem d54_82 : decode prog_36_method_18_code 82 = .ok (.aload_n 0, 1) := by decide +kernel
theorem d54_83 : decode prog_36_method_18_code 83 = .ok (.getfield 41, 3) := by decide +kernel
theorem d54_86 : decode prog_36_method_18_code 86 = .ok (.iload_n 1, 1) := by decide +kernel
theorem d54_87 : decode prog_36_method_18_code 87 = .ok (.iload 4, 2) := by decide +kernel
theorem d54_89 : decode prog_36_method_18_code 89 = .ok (.iastore, 1) := by decide +kernel
theorem d54_90 : decode prog_36_method_18_code 90 = .ok (.aload 5, 2) := by decide +kernel
theorem d54_92 : decode prog_36_method_18_code 92 = .ok (.ifnull 22, 3) := by decide +kernel
theorem d54_95 : decode prog_36_method_18_code 95 = .ok (.aload_n 0, 1) := by decide +kernel
theorem d54_96 : decode prog_36_method_18_code 96 = .ok (.getfield 70, 3) := by decide +kernel
theorem d54_99 : decode prog_36_method_18_code 99 = .ok (.ifnonnull 15, 3) := by decide +kernel
theorem d54_102 : decode prog_36_method_18_code 102 = .ok (.aload_n 0, 1) := by decide +kernel
theorem d54_103 : decode prog_36_method_18_code 103 = .ok (.aload_n 0, 1) := by decide +kernel
theorem d54_104 : decode prog_36_method_18_code 104 = .ok (.getfield 27, 3) := by decide +kernel
theorem d54_107 : decode prog_36_method_18_code 107 = .ok (.arraylength, 1) := by decide +kernel
theorem d54_108 : decode prog_36_method_18_code 108 = .ok (.anewarray 100, 3) := by decide +kernel
theorem d54_111 : decode prog_36_method_18_code 111 = .ok (.putfield 70, 3) := by decide +kernel
theorem d54_114 : decode prog_36_method_18_code 114 = .ok (.aload_n 0, 1) := by decide +kernel
theorem d54_115 : decode prog_36_method_18_code 115 = .ok (.getfield 70, 3) := by decide +kernel
theorem d54_118 : decode prog_36_method_18_code 118 = .ok (.ifnull 11, 3) := by decide +kernel
theorem d54_121 : decode prog_36_method_18_code 121 = .ok (.aload_n 0, 1) := by decide +kernel
theorem d54_122 : decode prog_36_method_18_code 122 = .ok (.getfield 70, 3) := by decide +kernel
theorem d54_125 : decode prog_36_method_18_code 125 = .ok (.iload_n 1, 1) := by decide +kernel
theorem d54_126 : decode prog_36_method_18_code 126 = .ok (.aload 5, 2) := by decide +kernel
theorem d54_128 : decode prog_36_method_18_code 128 = .ok (.aastore, 1) := by decide +kernel
theorem d54_129 : decode prog_36_method_18_code 129 = .ok (.return_, 1) := by decide +kernel
theorem pd_4 : parseMethodDescriptor "(I)Z" = some ⟨[.int], some .boolean⟩ := by decide +kernel
theorem ef_rmS0 (m : MethodId) (a1 : Addr) (x2 : Int64) (p3 : Int32) : entryFrame m #[(.ref a1), (.int (0 : Int32)), (.long x2), (.int p3), .null, (.int (0 : Int32))] 7 = mkF m 0 #[rv a1, iv (0 : Int32), jv x2, sv, iv p3, .val .null, iv (0 : Int32)] [] := by first | (simp [entryFrame, mkF, argsToLocals, Value.category]; done) | rfl
def Q_rmS0 (Z : State) (a1 : Addr) (bh : Addr) (ba : Addr) (bl : Addr) (kh : ClassId) (ka : ClassId) (kl : ClassId) (cn : Int32) (gs : List Int64) (va : List Value) (vl : List Value) (x2 : Int64) (p3 : Int32) (h0 : Heap) (n0 : Nat) (v : Option Value) (h : Heap) (L : List Loc) : Prop := v = none ∧ Fr n0 L ∧ Keep h0 h [bh, bl] ∧ Arv Z h bh kh .long (4 : Int32) ((gs.set 0 x2).map Value.long) (.long (0 : Int64)) ∧ Arv Z h bl kl .int (4 : Int32) (vl.set 0 (.int p3)) (.int (0 : Int32))
set_option maxRecDepth 65536 in
set_option maxHeartbeats 40000000 in
theorem rmS0 (l : Launch) (Z : State) (a0 : Array Value) (hw : ∀ d ∈ tables_1, d.before a0 Z = true) (ws : List Jvm.Cond) (a1 : Addr) (bh : Addr) (ba : Addr) (bl : Addr) (kh : ClassId) (ka : ClassId) (kl : ClassId) (cn : Int32) (gs : List Int64) (va : List Value) (vl : List Value) (x2 : Int64) (p3 : Int32) (h0 : Heap) (n0 : Nat) (Z0 : n0 ≤ h0.size) (B : Tb Z h0 n0 a1 bh ba bl kh ka kl cn gs va vl) :
    MetFree l yS (head1 (Jvm.Cond.code yS prog_36_method_18_code 7 none :: ws) ({ frames := 1, cells := 0, slots := 0, locals := 13 } : Room)) (fun a U => a = #[(.ref a1), (.int (0 : Int32)), (.long x2), (.int p3), .null, (.int (0 : Int32))] ∧ Z.Warmed39 U.vm ∧ U.heap = h0) (fun _ _ _ _ _ => True) (fun _ U o U' => ∃ v L, o = .returned v ∧ Q_rmS0 Z a1 bh ba bl kh ka kl cn gs va vl x2 p3 h0 n0 v U'.heap L ∧ FrameEnd U o U' L ({ frames := 1, cells := 0, slots := 0, locals := 13 } : Room).cells ({ frames := 1, cells := 0, slots := 0, locals := 13 } : Room).slots) := by
  refine MetFree.of_bodySF (plainFor_of_name pn_com_example_slotwise_slotwise_keyspace_SlotTable) hisR ?_
  intro p e s m args below meth c s₁ Bd hml0 hP hK
  obtain ⟨rfl, hZ, hh⟩ := hP
  have hx := Bd.exec
  have hby := Bd.bytes
  have hml : c.maxLocals = 7 := hml0
  have hown : s.vm.findClass cST = some m.cls := findClass_of_methodNamed Bd.named
  have hnm := (name_of_methodNamed Bd.named Bd.method).1
  have hret := Bd.returns
  have hlk : meth.locks = false := BodyLoose.notSynchronized Bd
  have X0 : Stand p l e ({ frames := 1, cells := 0, slots := 0, locals := 13 } : Room) s m #[(.ref a1), (.int (0 : Int32)), (.long x2), (.int p3), .null, (.int (0 : Int32))] below meth c s₁ [] 0 0 := Stand.of_body Bd
  have e0 : s₁.heap = h0 := by rw [← hh, Bd.state]; rfl
  have N0 := Fr.nil n0
  have K0 := Keep.refl h0 [bh, bl]
  obtain ⟨E_a1, F_a1_count, F_a1_handles, F_a1_hashes, F_a1_lengths, F_a1_outside, F_a1_expiries, V_bh, V_ba, V_bl, ⟨lg, la, ll⟩, ⟨g_a1, g_bh, g_ba, g_bl⟩, ⟨n_h, n_a, n_l⟩, n_ha, n_hl, n_al⟩ := B
  refine Rch.body (Q := Q_rmS0 Z a1 bh ba bl kh ka kl cn gs va vl x2 p3 h0 n0) (U' := s₁.setTop (mkF m 0 #[rv a1, iv (0 : Int32), jv x2, sv, iv p3, .val .null, iv (0 : Int32)] [])) (fun t k => castTop (ef_rmS0 m a1 x2 p3) k) ?_
  refine Rch.go (U' := s₁.setTop (mkF m 2 #[rv a1, iv (0 : Int32), jv x2, sv, iv p3, .val .null, iv (0 : Int32)] [(.int (0 : Int32))])) (fun _ k => XS.iload X0.here hx rfl (hb hby d54_0) rfl  k) ?_
  have br7 : (0 : Int32) = (0 : Int32) := (by decide)
  refine Rch.go (U' := s₁.setTop (mkF m 57 #[rv a1, iv (0 : Int32), jv x2, sv, iv p3, .val .null, iv (0 : Int32)] [])) (fun _ k => XS.ifYes X0.here hx rfl (pc0 := 2) (pc' := 57) rfl (hb hby d54_2) rfl (XT.i0_eq_t br7) (by decide) (by decide) k) ?_
  refine Rch.go (U' := s₁.setTop (mkF m 59 #[rv a1, iv (0 : Int32), jv x2, sv, iv p3, .val .null, iv (0 : Int32)] [(.int (0 : Int32))])) (fun _ k => XS.iload X0.here hx rfl (hb hby d54_57) rfl  k) ?_
  have br8 : (0 : Int32) = (0 : Int32) := (by decide)
  refine Rch.go (U' := s₁.setTop (mkF m 62 #[rv a1, iv (0 : Int32), jv x2, sv, iv p3, .val .null, iv (0 : Int32)] [])) (fun _ k => XS.ifNo X0.here hx rfl (hb hby d54_59) rfl (XT.i0_ne_f br8) k) ?_
  refine Rch.go (U' := s₁.setTop (mkF m 63 #[rv a1, iv (0 : Int32), jv x2, sv, iv p3, .val .null, iv (0 : Int32)] [(.ref a1)])) (fun _ k => XS.aloadN X0.here hx rfl (hb hby d54_62) rfl rfl k) ?_
  refine Rch.go (U' := s₁.setTop (mkF m 64 #[rv a1, iv (0 : Int32), jv x2, sv, iv p3, .val .null, iv (0 : Int32)] [(.int (0 : Int32)), (.ref a1)])) (fun _ k => XS.iloadN X0.here hx rfl (hb hby d54_63) rfl  k) ?_
  obtain ⟨cq9, kq9, q9a, q9b, q9c⟩ := isOf hZ e0 E_a1
  obtain ⟨_, _, ⟨T9, L9, k9, n9⟩, -, X9, ⟨Lc9, hQ9, l9, y9, z9⟩, st9⟩ := X0.virtualBack hx (y := yX) (z := yX) hown (mvT hZ (wi hw 55 rfl)) (mvT hZ (wi hw 56 rfl)) (notFace_of_selects (args := #[]) (mvT hZ (wi hw 58 rfl))) (mvT hZ (wi hw 58 rfl)) (mvT hZ (wi hw 57 rfl)) (by decide) (backOf (W := 0) (rmX l Z a0 hw [] a1 (0 : Int32) h0 n0 Z0 F_a1_expiries) hZ (wi hw 59 rfl) (wi hw 2 rfl) (by decide) (by decide)) q9a q9c (g := (mkF m 64 #[rv a1, iv (0 : Int32), jv x2, sv, iv p3, .val .null, iv (0 : Int32)] [(.int (0 : Int32)), (.ref a1)])) rfl (by rw [hml]; rfl) (Steps.refl _) (argsL := [(.int (0 : Int32))]) (rest := []) (lenOf pd_4 rfl) rfl (by show 2 * 0 + _ ≤ _; exact Nat.le_of_eq rfl) (hb hby d54_64) (fun _ _ => ⟨rfl, e0, (by decide : 0 + 0 ≤ _), (by decide : 0 + 0 ≤ _)⟩)
  dsimp only [Pt.U, Pt.locs, Pt.cells, Pt.slots] at X9 l9 y9 z9 st9 hQ9
  subst l9 y9 z9
  obtain ⟨rfl, N9q, e9⟩ := hQ9
  have N9 := Fr.app N0 N9q
  refine Rch.to (U' := T9.setTop (mkF m 67 #[rv a1, iv (0 : Int32), jv x2, sv, iv p3, .val .null, iv (0 : Int32)] [(.int (0 : Int32))])) st9 ?_
  have br10 : (0 : Int32) = (0 : Int32) := (by decide)
  refine Rch.go (U' := T9.setTop (mkF m 75 #[rv a1, iv (0 : Int32), jv x2, sv, iv p3, .val .null, iv (0 : Int32)] [])) (fun _ k => XS.ifYes X9.here hx rfl (pc0 := 67) (pc' := 75) rfl (hb hby d54_67) rfl (XT.i0_eq_t br10) (by decide) (by decide) k) ?_
  refine Rch.go (U' := T9.setTop (mkF m 76 #[rv a1, iv (0 : Int32), jv x2, sv, iv p3, .val .null, iv (0 : Int32)] [(.ref a1)])) (fun _ k => XS.aloadN X9.here hx rfl (hb hby d54_75) rfl rfl k) ?_
  obtain ⟨T11, X11, e11, st11⟩ := getF X9 hx hZ hown (host := "") (Or.inl (wi hw 26 rfl)) Via.refl e9 F_a1_handles (g := (mkF m 76 #[rv a1, iv (0 : Int32), jv x2, sv, iv p3, .val .null, iv (0 : Int32)] [(.ref a1)])) rfl rfl (hb hby d54_76)
  refine Rch.go (U' := T11.setTop (mkF m 79 #[rv a1, iv (0 : Int32), jv x2, sv, iv p3, .val .null, iv (0 : Int32)] [(.ref bh)])) st11 ?_
  refine Rch.go (U' := T11.setTop (mkF m 80 #[rv a1, iv (0 : Int32), jv x2, sv, iv p3, .val .null, iv (0 : Int32)] [(.int (0 : Int32)), (.ref bh)])) (fun _ k => XS.iloadN X11.here hx rfl (hb hby d54_79) rfl  k) ?_
  refine Rch.go (U' := T11.setTop (mkF m 81 #[rv a1, iv (0 : Int32), jv x2, sv, iv p3, .val .null, iv (0 : Int32)] [(.long x2), (.int (0 : Int32)), (.ref bh)])) (fun _ k => XS.lloadN X11.here hx rfl (hb hby d54_80) rfl  k) ?_
  obtain ⟨cl12, Ar12, qk12, Sz12, Mn12, Hs12, Gf12⟩ := id V_bh
  have ib12 : ¬ ((0 : Int32) < 0 ∨ cl12.slots.size ≤ ((0 : Int32)).toNatClampNeg) := inb_of Sz12 ⟨by decide, by decide⟩
  obtain ⟨T12, h12, X12, e12, W12, st12⟩ := stJ X11 hx hZ e11 Ar12 (j := (0 : Int32)) ib12 (g := (mkF m 81 #[rv a1, iv (0 : Int32), jv x2, sv, iv p3, .val .null, iv (0 : Int32)] [(.long x2), (.int (0 : Int32)), (.ref bh)])) rfl rfl (hb hby d54_81)
  have V12 : Arv Z h12 bh kh .long (4 : Int32) ((gs.set 0 x2).map Value.long) (.long (0 : Int64)) := own_setJ (Arv.set Ar12 qk12 Sz12 Mn12 Hs12 Gf12 rfl W12 0 rfl (by rw [List.length_map, lg]; decide))
  have f13 := E_a1.wr W12
  have f14 := F_a1_count.other W12 (Or.inl n_h)
  have f15 := F_a1_handles.other W12 (Or.inl n_h)
  have f16 := F_a1_hashes.other W12 (Or.inl n_h)
  have f17 := F_a1_lengths.other W12 (Or.inl n_h)
  have f18 := F_a1_outside.other W12 (Or.inl n_h)
  have f19 := F_a1_expiries.other W12 (Or.inl n_h)
  have f20 := V_ba.other W12 (Ne.symm n_ha)
  have f21 := V_bl.other W12 (Ne.symm n_hl)
  have N12 := Fr.snoc X12 N9 g_bh
  have z22 := Nat.le_trans Z0 (Keep.of_wr W12).1
  have K23 := K0.wr W12 (Or.inl (List.mem_of_getElem? (i := 0) rfl))
  refine Rch.go (U' := T12.setTop (mkF m 82 #[rv a1, iv (0 : Int32), jv x2, sv, iv p3, .val .null, iv (0 : Int32)] [])) st12 ?_
  refine Rch.go (U' := T12.setTop (mkF m 83 #[rv a1, iv (0 : Int32), jv x2, sv, iv p3, .val .null, iv (0 : Int32)] [(.ref a1)])) (fun _ k => XS.aloadN X12.here hx rfl (hb hby d54_82) rfl rfl k) ?_
  obtain ⟨T24, X24, e24, st24⟩ := getF X12 hx hZ hown (host := "") (Or.inl (wi hw 38 rfl)) Via.refl e12 f17 (g := (mkF m 83 #[rv a1, iv (0 : Int32), jv x2, sv, iv p3, .val .null, iv (0 : Int32)] [(.ref a1)])) rfl rfl (hb hby d54_83)
  refine Rch.go (U' := T24.setTop (mkF m 86 #[rv a1, iv (0 : Int32), jv x2, sv, iv p3, .val .null, iv (0 : Int32)] [(.ref bl)])) st24 ?_
  refine Rch.go (U' := T24.setTop (mkF m 87 #[rv a1, iv (0 : Int32), jv x2, sv, iv p3, .val .null, iv (0 : Int32)] [(.int (0 : Int32)), (.ref bl)])) (fun _ k => XS.iloadN X24.here hx rfl (hb hby d54_86) rfl  k) ?_
  refine Rch.go (U' := T24.setTop (mkF m 89 #[rv a1, iv (0 : Int32), jv x2, sv, iv p3, .val .null, iv (0 : Int32)] [(.int p3), (.int (0 : Int32)), (.ref bl)])) (fun _ k => XS.iload X24.here hx rfl (hb hby d54_87) rfl  k) ?_
  obtain ⟨cl25, Ar25, qk25, Sz25, Mn25, Hs25, Gf25⟩ := id f21
  have ib25 : ¬ ((0 : Int32) < 0 ∨ cl25.slots.size ≤ ((0 : Int32)).toNatClampNeg) := inb_of Sz25 ⟨by decide, by decide⟩
  obtain ⟨T25, h25, X25, e25, W25, st25⟩ := stI X24 hx hZ e24 Ar25 (j := (0 : Int32)) ib25 (g := (mkF m 89 #[rv a1, iv (0 : Int32), jv x2, sv, iv p3, .val .null, iv (0 : Int32)] [(.int p3), (.int (0 : Int32)), (.ref bl)])) rfl rfl (hb hby d54_89)
  have V25 : Arv Z h25 bl kl .int (4 : Int32) (vl.set 0 (.int p3)) (.int (0 : Int32)) := Arv.set Ar25 qk25 Sz25 Mn25 Hs25 Gf25 rfl W25 0 rfl (by rw [ll]; decide)
  have f26 := f13.wr W25
  have f27 := f14.other W25 (Or.inl n_l)
  have f28 := f15.other W25 (Or.inl n_l)
  have f29 := f16.other W25 (Or.inl n_l)
  have f30 := f17.other W25 (Or.inl n_l)
  have f31 := f18.other W25 (Or.inl n_l)
  have f32 := f19.other W25 (Or.inl n_l)
  have f33 := V12.other W25 n_hl
  have f34 := f20.other W25 n_al
  have N25 := Fr.snoc X25 N12 g_bl
  have z35 := Nat.le_trans z22 (Keep.of_wr W25).1
  have K36 := K23.wr W25 (Or.inl (List.mem_of_getElem? (i := 1) rfl))
  refine Rch.go (U' := T25.setTop (mkF m 90 #[rv a1, iv (0 : Int32), jv x2, sv, iv p3, .val .null, iv (0 : Int32)] [])) st25 ?_
  refine Rch.go (U' := T25.setTop (mkF m 92 #[rv a1, iv (0 : Int32), jv x2, sv, iv p3, .val .null, iv (0 : Int32)] [.null])) (fun _ k => XS.aload X25.here hx rfl (hb hby d54_90) rfl rfl k) ?_
  refine Rch.go (U' := T25.setTop (mkF m 114 #[rv a1, iv (0 : Int32), jv x2, sv, iv p3, .val .null, iv (0 : Int32)] [])) (fun _ k => XS.ifnullYes X25.here hx rfl (pc0 := 92) (pc' := 114) rfl (hb hby d54_92) rfl (by decide) (by decide) k) ?_
  refine Rch.go (U' := T25.setTop (mkF m 115 #[rv a1, iv (0 : Int32), jv x2, sv, iv p3, .val .null, iv (0 : Int32)] [(.ref a1)])) (fun _ k => XS.aloadN X25.here hx rfl (hb hby d54_114) rfl rfl k) ?_
  obtain ⟨T37, X37, e37, st37⟩ := getF X25 hx hZ hown (host := "") (Or.inl (wi hw 40 rfl)) Via.refl e25 f31 (g := (mkF m 115 #[rv a1, iv (0 : Int32), jv x2, sv, iv p3, .val .null, iv (0 : Int32)] [(.ref a1)])) rfl rfl (hb hby d54_115)
  refine Rch.go (U' := T37.setTop (mkF m 118 #[rv a1, iv (0 : Int32), jv x2, sv, iv p3, .val .null, iv (0 : Int32)] [.null])) st37 ?_
  refine Rch.go (U' := T37.setTop (mkF m 129 #[rv a1, iv (0 : Int32), jv x2, sv, iv p3, .val .null, iv (0 : Int32)] [])) (fun _ k => XS.ifnullYes X37.here hx rfl (pc0 := 118) (pc' := 129) rfl (hb hby d54_118) rfl (by decide) (by decide) k) ?_
  refine Rch.fin X37 hlk (v := none) (fun _ => rfl) e37 (by decide) (by decide) (fun fs hr => X37.returnOut hx hret (hb hby d54_129) hr) ?_
  exact ⟨rfl, N25, K36, f33, V25⟩
theorem ef_rmS1 (m : MethodId) (a1 : Addr) (x2 : Int64) (p3 : Int32) : entryFrame m #[(.ref a1), (.int (1 : Int32)), (.long x2), (.int p3), .null, (.int (0 : Int32))] 7 = mkF m 0 #[rv a1, iv (1 : Int32), jv x2, sv, iv p3, .val .null, iv (0 : Int32)] [] := by first | (simp [entryFrame, mkF, argsToLocals, Value.category]; done) | rfl
def Q_rmS1 (Z : State) (a1 : Addr) (bh : Addr) (ba : Addr) (bl : Addr) (kh : ClassId) (ka : ClassId) (kl : ClassId) (cn : Int32) (gs : List Int64) (va : List Value) (vl : List Value) (x2 : Int64) (p3 : Int32) (h0 : Heap) (n0 : Nat) (v : Option Value) (h : Heap) (L : List Loc) : Prop := v = none ∧ Fr n0 L ∧ Keep h0 h [bh, bl] ∧ Arv Z h bh kh .long (4 : Int32) ((gs.set 1 x2).map Value.long) (.long (0 : Int64)) ∧ Arv Z h bl kl .int (4 : Int32) (vl.set 1 (.int p3)) (.int (0 : Int32))
set_option maxRecDepth 65536 in
set_option maxHeartbeats 40000000 in
theorem rmS1 (l : Launch) (Z : State) (a0 : Array Value) (hw : ∀ d ∈ tables_1, d.before a0 Z = true) (ws : List Jvm.Cond) (a1 : Addr) (bh : Addr) (ba : Addr) (bl : Addr) (kh : ClassId) (ka : ClassId) (kl : ClassId) (cn : Int32) (gs : List Int64) (va : List Value) (vl : List Value) (x2 : Int64) (p3 : Int32) (h0 : Heap) (n0 : Nat) (Z0 : n0 ≤ h0.size) (B : Tb Z h0 n0 a1 bh ba bl kh ka kl cn gs va vl) :
    MetFree l yS (head1 (Jvm.Cond.code yS prog_36_method_18_code 7 none :: ws) ({ frames := 1, cells := 0, slots := 0, locals := 13 } : Room)) (fun a U => a = #[(.ref a1), (.int (1 : Int32)), (.long x2), (.int p3), .null, (.int (0 : Int32))] ∧ Z.Warmed39 U.vm ∧ U.heap = h0) (fun _ _ _ _ _ => True) (fun _ U o U' => ∃ v L, o = .returned v ∧ Q_rmS1 Z a1 bh ba bl kh ka kl cn gs va vl x2 p3 h0 n0 v U'.heap L ∧ FrameEnd U o U' L ({ frames := 1, cells := 0, slots := 0, locals := 13 } : Room).cells ({ frames := 1, cells := 0, slots := 0, locals := 13 } : Room).slots) := by
  refine MetFree.of_bodySF (plainFor_of_name pn_com_example_slotwise_slotwise_keyspace_SlotTable) hisR ?_
  intro p e s m args below meth c s₁ Bd hml0 hP hK
  obtain ⟨rfl, hZ, hh⟩ := hP
  have hx := Bd.exec
  have hby := Bd.bytes
  have hml : c.maxLocals = 7 := hml0
  have hown : s.vm.findClass cST = some m.cls := findClass_of_methodNamed Bd.named
  have hnm := (name_of_methodNamed Bd.named Bd.method).1
  have hret := Bd.returns
  have hlk : meth.locks = false := BodyLoose.notSynchronized Bd
  have X0 : Stand p l e ({ frames := 1, cells := 0, slots := 0, locals := 13 } : Room) s m #[(.ref a1), (.int (1 : Int32)), (.long x2), (.int p3), .null, (.int (0 : Int32))] below meth c s₁ [] 0 0 := Stand.of_body Bd
  have e0 : s₁.heap = h0 := by rw [← hh, Bd.state]; rfl
  have N0 := Fr.nil n0
  have K0 := Keep.refl h0 [bh, bl]
  obtain ⟨E_a1, F_a1_count, F_a1_handles, F_a1_hashes, F_a1_lengths, F_a1_outside, F_a1_expiries, V_bh, V_ba, V_bl, ⟨lg, la, ll⟩, ⟨g_a1, g_bh, g_ba, g_bl⟩, ⟨n_h, n_a, n_l⟩, n_ha, n_hl, n_al⟩ := B
  refine Rch.body (Q := Q_rmS1 Z a1 bh ba bl kh ka kl cn gs va vl x2 p3 h0 n0) (U' := s₁.setTop (mkF m 0 #[rv a1, iv (1 : Int32), jv x2, sv, iv p3, .val .null, iv (0 : Int32)] [])) (fun t k => castTop (ef_rmS1 m a1 x2 p3) k) ?_
  refine Rch.go (U' := s₁.setTop (mkF m 2 #[rv a1, iv (1 : Int32), jv x2, sv, iv p3, .val .null, iv (0 : Int32)] [(.int (0 : Int32))])) (fun _ k => XS.iload X0.here hx rfl (hb hby d54_0) rfl  k) ?_
  have br38 : (0 : Int32) = (0 : Int32) := (by decide)
  refine Rch.go (U' := s₁.setTop (mkF m 57 #[rv a1, iv (1 : Int32), jv x2, sv, iv p3, .val .null, iv (0 : Int32)] [])) (fun _ k => XS.ifYes X0.here hx rfl (pc0 := 2) (pc' := 57) rfl (hb hby d54_2) rfl (XT.i0_eq_t br38) (by decide) (by decide) k) ?_
  refine Rch.go (U' := s₁.setTop (mkF m 59 #[rv a1, iv (1 : Int32), jv x2, sv, iv p3, .val .null, iv (0 : Int32)] [(.int (0 : Int32))])) (fun _ k => XS.iload X0.here hx rfl (hb hby d54_57) rfl  k) ?_
  have br39 : (0 : Int32) = (0 : Int32) := (by decide)
  refine Rch.go (U' := s₁.setTop (mkF m 62 #[rv a1, iv (1 : Int32), jv x2, sv, iv p3, .val .null, iv (0 : Int32)] [])) (fun _ k => XS.ifNo X0.here hx rfl (hb hby d54_59) rfl (XT.i0_ne_f br39) k) ?_
  refine Rch.go (U' := s₁.setTop (mkF m 63 #[rv a1, iv (1 : Int32), jv x2, sv, iv p3, .val .null, iv (0 : Int32)] [(.ref a1)])) (fun _ k => XS.aloadN X0.here hx rfl (hb hby d54_62) rfl rfl k) ?_
  refine Rch.go (U' := s₁.setTop (mkF m 64 #[rv a1, iv (1 : Int32), jv x2, sv, iv p3, .val .null, iv (0 : Int32)] [(.int (1 : Int32)), (.ref a1)])) (fun _ k => XS.iloadN X0.here hx rfl (hb hby d54_63) rfl  k) ?_
  obtain ⟨cq40, kq40, q40a, q40b, q40c⟩ := isOf hZ e0 E_a1
  obtain ⟨_, _, ⟨T40, L40, k40, n40⟩, -, X40, ⟨Lc40, hQ40, l40, y40, z40⟩, st40⟩ := X0.virtualBack hx (y := yX) (z := yX) hown (mvT hZ (wi hw 55 rfl)) (mvT hZ (wi hw 56 rfl)) (notFace_of_selects (args := #[]) (mvT hZ (wi hw 58 rfl))) (mvT hZ (wi hw 58 rfl)) (mvT hZ (wi hw 57 rfl)) (by decide) (backOf (W := 0) (rmX l Z a0 hw [] a1 (1 : Int32) h0 n0 Z0 F_a1_expiries) hZ (wi hw 59 rfl) (wi hw 2 rfl) (by decide) (by decide)) q40a q40c (g := (mkF m 64 #[rv a1, iv (1 : Int32), jv x2, sv, iv p3, .val .null, iv (0 : Int32)] [(.int (1 : Int32)), (.ref a1)])) rfl (by rw [hml]; rfl) (Steps.refl _) (argsL := [(.int (1 : Int32))]) (rest := []) (lenOf pd_4 rfl) rfl (by show 2 * 0 + _ ≤ _; exact Nat.le_of_eq rfl) (hb hby d54_64) (fun _ _ => ⟨rfl, e0, (by decide : 0 + 0 ≤ _), (by decide : 0 + 0 ≤ _)⟩)
  dsimp only [Pt.U, Pt.locs, Pt.cells, Pt.slots] at X40 l40 y40 z40 st40 hQ40
  subst l40 y40 z40
  obtain ⟨rfl, N40q, e40⟩ := hQ40
  have N40 := Fr.app N0 N40q
  refine Rch.to (U' := T40.setTop (mkF m 67 #[rv a1, iv (1 : Int32), jv x2, sv, iv p3, .val .null, iv (0 : Int32)] [(.int (0 : Int32))])) st40 ?_
  have br41 : (0 : Int32) = (0 : Int32) := (by decide)
  refine Rch.go (U' := T40.setTop (mkF m 75 #[rv a1, iv (1 : Int32), jv x2, sv, iv p3, .val .null, iv (0 : Int32)] [])) (fun _ k => XS.ifYes X40.here hx rfl (pc0 := 67) (pc' := 75) rfl (hb hby d54_67) rfl (XT.i0_eq_t br41) (by decide) (by decide) k) ?_
  refine Rch.go (U' := T40.setTop (mkF m 76 #[rv a1, iv (1 : Int32), jv x2, sv, iv p3, .val .null, iv (0 : Int32)] [(.ref a1)])) (fun _ k => XS.aloadN X40.here hx rfl (hb hby d54_75) rfl rfl k) ?_
  obtain ⟨T42, X42, e42, st42⟩ := getF X40 hx hZ hown (host := "") (Or.inl (wi hw 26 rfl)) Via.refl e40 F_a1_handles (g := (mkF m 76 #[rv a1, iv (1 : Int32), jv x2, sv, iv p3, .val .null, iv (0 : Int32)] [(.ref a1)])) rfl rfl (hb hby d54_76)
  refine Rch.go (U' := T42.setTop (mkF m 79 #[rv a1, iv (1 : Int32), jv x2, sv, iv p3, .val .null, iv (0 : Int32)] [(.ref bh)])) st42 ?_
  refine Rch.go (U' := T42.setTop (mkF m 80 #[rv a1, iv (1 : Int32), jv x2, sv, iv p3, .val .null, iv (0 : Int32)] [(.int (1 : Int32)), (.ref bh)])) (fun _ k => XS.iloadN X42.here hx rfl (hb hby d54_79) rfl  k) ?_
  refine Rch.go (U' := T42.setTop (mkF m 81 #[rv a1, iv (1 : Int32), jv x2, sv, iv p3, .val .null, iv (0 : Int32)] [(.long x2), (.int (1 : Int32)), (.ref bh)])) (fun _ k => XS.lloadN X42.here hx rfl (hb hby d54_80) rfl  k) ?_
  obtain ⟨cl43, Ar43, qk43, Sz43, Mn43, Hs43, Gf43⟩ := id V_bh
  have ib43 : ¬ ((1 : Int32) < 0 ∨ cl43.slots.size ≤ ((1 : Int32)).toNatClampNeg) := inb_of Sz43 ⟨by decide, by decide⟩
  obtain ⟨T43, h43, X43, e43, W43, st43⟩ := stJ X42 hx hZ e42 Ar43 (j := (1 : Int32)) ib43 (g := (mkF m 81 #[rv a1, iv (1 : Int32), jv x2, sv, iv p3, .val .null, iv (0 : Int32)] [(.long x2), (.int (1 : Int32)), (.ref bh)])) rfl rfl (hb hby d54_81)
  have V43 : Arv Z h43 bh kh .long (4 : Int32) ((gs.set 1 x2).map Value.long) (.long (0 : Int64)) := own_setJ (Arv.set Ar43 qk43 Sz43 Mn43 Hs43 Gf43 rfl W43 1 rfl (by rw [List.length_map, lg]; decide))
  have f44 := E_a1.wr W43
  have f45 := F_a1_count.other W43 (Or.inl n_h)
  have f46 := F_a1_handles.other W43 (Or.inl n_h)
  have f47 := F_a1_hashes.other W43 (Or.inl n_h)
  have f48 := F_a1_lengths.other W43 (Or.inl n_h)
  have f49 := F_a1_outside.other W43 (Or.inl n_h)
  have f50 := F_a1_expiries.other W43 (Or.inl n_h)
  have f51 := V_ba.other W43 (Ne.symm n_ha)
  have f52 := V_bl.other W43 (Ne.symm n_hl)
  have N43 := Fr.snoc X43 N40 g_bh
  have z53 := Nat.le_trans Z0 (Keep.of_wr W43).1
  have K54 := K0.wr W43 (Or.inl (List.mem_of_getElem? (i := 0) rfl))
  refine Rch.go (U' := T43.setTop (mkF m 82 #[rv a1, iv (1 : Int32), jv x2, sv, iv p3, .val .null, iv (0 : Int32)] [])) st43 ?_
  refine Rch.go (U' := T43.setTop (mkF m 83 #[rv a1, iv (1 : Int32), jv x2, sv, iv p3, .val .null, iv (0 : Int32)] [(.ref a1)])) (fun _ k => XS.aloadN X43.here hx rfl (hb hby d54_82) rfl rfl k) ?_
  obtain ⟨T55, X55, e55, st55⟩ := getF X43 hx hZ hown (host := "") (Or.inl (wi hw 38 rfl)) Via.refl e43 f48 (g := (mkF m 83 #[rv a1, iv (1 : Int32), jv x2, sv, iv p3, .val .null, iv (0 : Int32)] [(.ref a1)])) rfl rfl (hb hby d54_83)
  refine Rch.go (U' := T55.setTop (mkF m 86 #[rv a1, iv (1 : Int32), jv x2, sv, iv p3, .val .null, iv (0 : Int32)] [(.ref bl)])) st55 ?_
  refine Rch.go (U' := T55.setTop (mkF m 87 #[rv a1, iv (1 : Int32), jv x2, sv, iv p3, .val .null, iv (0 : Int32)] [(.int (1 : Int32)), (.ref bl)])) (fun _ k => XS.iloadN X55.here hx rfl (hb hby d54_86) rfl  k) ?_
  refine Rch.go (U' := T55.setTop (mkF m 89 #[rv a1, iv (1 : Int32), jv x2, sv, iv p3, .val .null, iv (0 : Int32)] [(.int p3), (.int (1 : Int32)), (.ref bl)])) (fun _ k => XS.iload X55.here hx rfl (hb hby d54_87) rfl  k) ?_
  obtain ⟨cl56, Ar56, qk56, Sz56, Mn56, Hs56, Gf56⟩ := id f52
  have ib56 : ¬ ((1 : Int32) < 0 ∨ cl56.slots.size ≤ ((1 : Int32)).toNatClampNeg) := inb_of Sz56 ⟨by decide, by decide⟩
  obtain ⟨T56, h56, X56, e56, W56, st56⟩ := stI X55 hx hZ e55 Ar56 (j := (1 : Int32)) ib56 (g := (mkF m 89 #[rv a1, iv (1 : Int32), jv x2, sv, iv p3, .val .null, iv (0 : Int32)] [(.int p3), (.int (1 : Int32)), (.ref bl)])) rfl rfl (hb hby d54_89)
  have V56 : Arv Z h56 bl kl .int (4 : Int32) (vl.set 1 (.int p3)) (.int (0 : Int32)) := Arv.set Ar56 qk56 Sz56 Mn56 Hs56 Gf56 rfl W56 1 rfl (by rw [ll]; decide)
  have f57 := f44.wr W56
  have f58 := f45.other W56 (Or.inl n_l)
  have f59 := f46.other W56 (Or.inl n_l)
  have f60 := f47.other W56 (Or.inl n_l)
  have f61 := f48.other W56 (Or.inl n_l)
  have f62 := f49.other W56 (Or.inl n_l)
  have f63 := f50.other W56 (Or.inl n_l)
  have f64 := V43.other W56 n_hl
  have f65 := f51.other W56 n_al
  have N56 := Fr.snoc X56 N43 g_bl
  have z66 := Nat.le_trans z53 (Keep.of_wr W56).1
  have K67 := K54.wr W56 (Or.inl (List.mem_of_getElem? (i := 1) rfl))
  refine Rch.go (U' := T56.setTop (mkF m 90 #[rv a1, iv (1 : Int32), jv x2, sv, iv p3, .val .null, iv (0 : Int32)] [])) st56 ?_
  refine Rch.go (U' := T56.setTop (mkF m 92 #[rv a1, iv (1 : Int32), jv x2, sv, iv p3, .val .null, iv (0 : Int32)] [.null])) (fun _ k => XS.aload X56.here hx rfl (hb hby d54_90) rfl rfl k) ?_
  refine Rch.go (U' := T56.setTop (mkF m 114 #[rv a1, iv (1 : Int32), jv x2, sv, iv p3, .val .null, iv (0 : Int32)] [])) (fun _ k => XS.ifnullYes X56.here hx rfl (pc0 := 92) (pc' := 114) rfl (hb hby d54_92) rfl (by decide) (by decide) k) ?_
  refine Rch.go (U' := T56.setTop (mkF m 115 #[rv a1, iv (1 : Int32), jv x2, sv, iv p3, .val .null, iv (0 : Int32)] [(.ref a1)])) (fun _ k => XS.aloadN X56.here hx rfl (hb hby d54_114) rfl rfl k) ?_
  obtain ⟨T68, X68, e68, st68⟩ := getF X56 hx hZ hown (host := "") (Or.inl (wi hw 40 rfl)) Via.refl e56 f62 (g := (mkF m 115 #[rv a1, iv (1 : Int32), jv x2, sv, iv p3, .val .null, iv (0 : Int32)] [(.ref a1)])) rfl rfl (hb hby d54_115)
  refine Rch.go (U' := T68.setTop (mkF m 118 #[rv a1, iv (1 : Int32), jv x2, sv, iv p3, .val .null, iv (0 : Int32)] [.null])) st68 ?_
  refine Rch.go (U' := T68.setTop (mkF m 129 #[rv a1, iv (1 : Int32), jv x2, sv, iv p3, .val .null, iv (0 : Int32)] [])) (fun _ k => XS.ifnullYes X68.here hx rfl (pc0 := 118) (pc' := 129) rfl (hb hby d54_118) rfl (by decide) (by decide) k) ?_
  refine Rch.fin X68 hlk (v := none) (fun _ => rfl) e68 (by decide) (by decide) (fun fs hr => X68.returnOut hx hret (hb hby d54_129) hr) ?_
  exact ⟨rfl, N56, K67, f64, V56⟩
theorem ef_rmS2 (m : MethodId) (a1 : Addr) (x2 : Int64) (p3 : Int32) : entryFrame m #[(.ref a1), (.int (2 : Int32)), (.long x2), (.int p3), .null, (.int (0 : Int32))] 7 = mkF m 0 #[rv a1, iv (2 : Int32), jv x2, sv, iv p3, .val .null, iv (0 : Int32)] [] := by first | (simp [entryFrame, mkF, argsToLocals, Value.category]; done) | rfl
def Q_rmS2 (Z : State) (a1 : Addr) (bh : Addr) (ba : Addr) (bl : Addr) (kh : ClassId) (ka : ClassId) (kl : ClassId) (cn : Int32) (gs : List Int64) (va : List Value) (vl : List Value) (x2 : Int64) (p3 : Int32) (h0 : Heap) (n0 : Nat) (v : Option Value) (h : Heap) (L : List Loc) : Prop := v = none ∧ Fr n0 L ∧ Keep h0 h [bh, bl] ∧ Arv Z h bh kh .long (4 : Int32) ((gs.set 2 x2).map Value.long) (.long (0 : Int64)) ∧ Arv Z h bl kl .int (4 : Int32) (vl.set 2 (.int p3)) (.int (0 : Int32))
set_option maxRecDepth 65536 in
set_option maxHeartbeats 40000000 in
theorem rmS2 (l : Launch) (Z : State) (a0 : Array Value) (hw : ∀ d ∈ tables_1, d.before a0 Z = true) (ws : List Jvm.Cond) (a1 : Addr) (bh : Addr) (ba : Addr) (bl : Addr) (kh : ClassId) (ka : ClassId) (kl : ClassId) (cn : Int32) (gs : List Int64) (va : List Value) (vl : List Value) (x2 : Int64) (p3 : Int32) (h0 : Heap) (n0 : Nat) (Z0 : n0 ≤ h0.size) (B : Tb Z h0 n0 a1 bh ba bl kh ka kl cn gs va vl) :
    MetFree l yS (head1 (Jvm.Cond.code yS prog_36_method_18_code 7 none :: ws) ({ frames := 1, cells := 0, slots := 0, locals := 13 } : Room)) (fun a U => a = #[(.ref a1), (.int (2 : Int32)), (.long x2), (.int p3), .null, (.int (0 : Int32))] ∧ Z.Warmed39 U.vm ∧ U.heap = h0) (fun _ _ _ _ _ => True) (fun _ U o U' => ∃ v L, o = .returned v ∧ Q_rmS2 Z a1 bh ba bl kh ka kl cn gs va vl x2 p3 h0 n0 v U'.heap L ∧ FrameEnd U o U' L ({ frames := 1, cells := 0, slots := 0, locals := 13 } : Room).cells ({ frames := 1, cells := 0, slots := 0, locals := 13 } : Room).slots) := by
  refine MetFree.of_bodySF (plainFor_of_name pn_com_example_slotwise_slotwise_keyspace_SlotTable) hisR ?_
  intro p e s m args below meth c s₁ Bd hml0 hP hK
  obtain ⟨rfl, hZ, hh⟩ := hP
  have hx := Bd.exec
  have hby := Bd.bytes
  have hml : c.maxLocals = 7 := hml0
  have hown : s.vm.findClass cST = some m.cls := findClass_of_methodNamed Bd.named
  have hnm := (name_of_methodNamed Bd.named Bd.method).1
  have hret := Bd.returns
  have hlk : meth.locks = false := BodyLoose.notSynchronized Bd
  have X0 : Stand p l e ({ frames := 1, cells := 0, slots := 0, locals := 13 } : Room) s m #[(.ref a1), (.int (2 : Int32)), (.long x2), (.int p3), .null, (.int (0 : Int32))] below meth c s₁ [] 0 0 := Stand.of_body Bd
  have e0 : s₁.heap = h0 := by rw [← hh, Bd.state]; rfl
  have N0 := Fr.nil n0
  have K0 := Keep.refl h0 [bh, bl]
  obtain ⟨E_a1, F_a1_count, F_a1_handles, F_a1_hashes, F_a1_lengths, F_a1_outside, F_a1_expiries, V_bh, V_ba, V_bl, ⟨lg, la, ll⟩, ⟨g_a1, g_bh, g_ba, g_bl⟩, ⟨n_h, n_a, n_l⟩, n_ha, n_hl, n_al⟩ := B
  refine Rch.body (Q := Q_rmS2 Z a1 bh ba bl kh ka kl cn gs va vl x2 p3 h0 n0) (U' := s₁.setTop (mkF m 0 #[rv a1, iv (2 : Int32), jv x2, sv, iv p3, .val .null, iv (0 : Int32)] [])) (fun t k => castTop (ef_rmS2 m a1 x2 p3) k) ?_
  refine Rch.go (U' := s₁.setTop (mkF m 2 #[rv a1, iv (2 : Int32), jv x2, sv, iv p3, .val .null, iv (0 : Int32)] [(.int (0 : Int32))])) (fun _ k => XS.iload X0.here hx rfl (hb hby d54_0) rfl  k) ?_
  have br69 : (0 : Int32) = (0 : Int32) := (by decide)
  refine Rch.go (U' := s₁.setTop (mkF m 57 #[rv a1, iv (2 : Int32), jv x2, sv, iv p3, .val .null, iv (0 : Int32)] [])) (fun _ k => XS.ifYes X0.here hx rfl (pc0 := 2) (pc' := 57) rfl (hb hby d54_2) rfl (XT.i0_eq_t br69) (by decide) (by decide) k) ?_
  refine Rch.go (U' := s₁.setTop (mkF m 59 #[rv a1, iv (2 : Int32), jv x2, sv, iv p3, .val .null, iv (0 : Int32)] [(.int (0 : Int32))])) (fun _ k => XS.iload X0.here hx rfl (hb hby d54_57) rfl  k) ?_
  have br70 : (0 : Int32) = (0 : Int32) := (by decide)
  refine Rch.go (U' := s₁.setTop (mkF m 62 #[rv a1, iv (2 : Int32), jv x2, sv, iv p3, .val .null, iv (0 : Int32)] [])) (fun _ k => XS.ifNo X0.here hx rfl (hb hby d54_59) rfl (XT.i0_ne_f br70) k) ?_
  refine Rch.go (U' := s₁.setTop (mkF m 63 #[rv a1, iv (2 : Int32), jv x2, sv, iv p3, .val .null, iv (0 : Int32)] [(.ref a1)])) (fun _ k => XS.aloadN X0.here hx rfl (hb hby d54_62) rfl rfl k) ?_
  refine Rch.go (U' := s₁.setTop (mkF m 64 #[rv a1, iv (2 : Int32), jv x2, sv, iv p3, .val .null, iv (0 : Int32)] [(.int (2 : Int32)), (.ref a1)])) (fun _ k => XS.iloadN X0.here hx rfl (hb hby d54_63) rfl  k) ?_
  obtain ⟨cq71, kq71, q71a, q71b, q71c⟩ := isOf hZ e0 E_a1
  obtain ⟨_, _, ⟨T71, L71, k71, n71⟩, -, X71, ⟨Lc71, hQ71, l71, y71, z71⟩, st71⟩ := X0.virtualBack hx (y := yX) (z := yX) hown (mvT hZ (wi hw 55 rfl)) (mvT hZ (wi hw 56 rfl)) (notFace_of_selects (args := #[]) (mvT hZ (wi hw 58 rfl))) (mvT hZ (wi hw 58 rfl)) (mvT hZ (wi hw 57 rfl)) (by decide) (backOf (W := 0) (rmX l Z a0 hw [] a1 (2 : Int32) h0 n0 Z0 F_a1_expiries) hZ (wi hw 59 rfl) (wi hw 2 rfl) (by decide) (by decide)) q71a q71c (g := (mkF m 64 #[rv a1, iv (2 : Int32), jv x2, sv, iv p3, .val .null, iv (0 : Int32)] [(.int (2 : Int32)), (.ref a1)])) rfl (by rw [hml]; rfl) (Steps.refl _) (argsL := [(.int (2 : Int32))]) (rest := []) (lenOf pd_4 rfl) rfl (by show 2 * 0 + _ ≤ _; exact Nat.le_of_eq rfl) (hb hby d54_64) (fun _ _ => ⟨rfl, e0, (by decide : 0 + 0 ≤ _), (by decide : 0 + 0 ≤ _)⟩)
  dsimp only [Pt.U, Pt.locs, Pt.cells, Pt.slots] at X71 l71 y71 z71 st71 hQ71
  subst l71 y71 z71
  obtain ⟨rfl, N71q, e71⟩ := hQ71
  have N71 := Fr.app N0 N71q
  refine Rch.to (U' := T71.setTop (mkF m 67 #[rv a1, iv (2 : Int32), jv x2, sv, iv p3, .val .null, iv (0 : Int32)] [(.int (0 : Int32))])) st71 ?_
  have br72 : (0 : Int32) = (0 : Int32) := (by decide)
  refine Rch.go (U' := T71.setTop (mkF m 75 #[rv a1, iv (2 : Int32), jv x2, sv, iv p3, .val .null, iv (0 : Int32)] [])) (fun _ k => XS.ifYes X71.here hx rfl (pc0 := 67) (pc' := 75) rfl (hb hby d54_67) rfl (XT.i0_eq_t br72) (by decide) (by decide) k) ?_
  refine Rch.go (U' := T71.setTop (mkF m 76 #[rv a1, iv (2 : Int32), jv x2, sv, iv p3, .val .null, iv (0 : Int32)] [(.ref a1)])) (fun _ k => XS.aloadN X71.here hx rfl (hb hby d54_75) rfl rfl k) ?_
  obtain ⟨T73, X73, e73, st73⟩ := getF X71 hx hZ hown (host := "") (Or.inl (wi hw 26 rfl)) Via.refl e71 F_a1_handles (g := (mkF m 76 #[rv a1, iv (2 : Int32), jv x2, sv, iv p3, .val .null, iv (0 : Int32)] [(.ref a1)])) rfl rfl (hb hby d54_76)
  refine Rch.go (U' := T73.setTop (mkF m 79 #[rv a1, iv (2 : Int32), jv x2, sv, iv p3, .val .null, iv (0 : Int32)] [(.ref bh)])) st73 ?_
  refine Rch.go (U' := T73.setTop (mkF m 80 #[rv a1, iv (2 : Int32), jv x2, sv, iv p3, .val .null, iv (0 : Int32)] [(.int (2 : Int32)), (.ref bh)])) (fun _ k => XS.iloadN X73.here hx rfl (hb hby d54_79) rfl  k) ?_
  refine Rch.go (U' := T73.setTop (mkF m 81 #[rv a1, iv (2 : Int32), jv x2, sv, iv p3, .val .null, iv (0 : Int32)] [(.long x2), (.int (2 : Int32)), (.ref bh)])) (fun _ k => XS.lloadN X73.here hx rfl (hb hby d54_80) rfl  k) ?_
  obtain ⟨cl74, Ar74, qk74, Sz74, Mn74, Hs74, Gf74⟩ := id V_bh
  have ib74 : ¬ ((2 : Int32) < 0 ∨ cl74.slots.size ≤ ((2 : Int32)).toNatClampNeg) := inb_of Sz74 ⟨by decide, by decide⟩
  obtain ⟨T74, h74, X74, e74, W74, st74⟩ := stJ X73 hx hZ e73 Ar74 (j := (2 : Int32)) ib74 (g := (mkF m 81 #[rv a1, iv (2 : Int32), jv x2, sv, iv p3, .val .null, iv (0 : Int32)] [(.long x2), (.int (2 : Int32)), (.ref bh)])) rfl rfl (hb hby d54_81)
  have V74 : Arv Z h74 bh kh .long (4 : Int32) ((gs.set 2 x2).map Value.long) (.long (0 : Int64)) := own_setJ (Arv.set Ar74 qk74 Sz74 Mn74 Hs74 Gf74 rfl W74 2 rfl (by rw [List.length_map, lg]; decide))
  have f75 := E_a1.wr W74
  have f76 := F_a1_count.other W74 (Or.inl n_h)
  have f77 := F_a1_handles.other W74 (Or.inl n_h)
  have f78 := F_a1_hashes.other W74 (Or.inl n_h)
  have f79 := F_a1_lengths.other W74 (Or.inl n_h)
  have f80 := F_a1_outside.other W74 (Or.inl n_h)
  have f81 := F_a1_expiries.other W74 (Or.inl n_h)
  have f82 := V_ba.other W74 (Ne.symm n_ha)
  have f83 := V_bl.other W74 (Ne.symm n_hl)
  have N74 := Fr.snoc X74 N71 g_bh
  have z84 := Nat.le_trans Z0 (Keep.of_wr W74).1
  have K85 := K0.wr W74 (Or.inl (List.mem_of_getElem? (i := 0) rfl))
  refine Rch.go (U' := T74.setTop (mkF m 82 #[rv a1, iv (2 : Int32), jv x2, sv, iv p3, .val .null, iv (0 : Int32)] [])) st74 ?_
  refine Rch.go (U' := T74.setTop (mkF m 83 #[rv a1, iv (2 : Int32), jv x2, sv, iv p3, .val .null, iv (0 : Int32)] [(.ref a1)])) (fun _ k => XS.aloadN X74.here hx rfl (hb hby d54_82) rfl rfl k) ?_
  obtain ⟨T86, X86, e86, st86⟩ := getF X74 hx hZ hown (host := "") (Or.inl (wi hw 38 rfl)) Via.refl e74 f79 (g := (mkF m 83 #[rv a1, iv (2 : Int32), jv x2, sv, iv p3, .val .null, iv (0 : Int32)] [(.ref a1)])) rfl rfl (hb hby d54_83)
  refine Rch.go (U' := T86.setTop (mkF m 86 #[rv a1, iv (2 : Int32), jv x2, sv, iv p3, .val .null, iv (0 : Int32)] [(.ref bl)])) st86 ?_
  refine Rch.go (U' := T86.setTop (mkF m 87 #[rv a1, iv (2 : Int32), jv x2, sv, iv p3, .val .null, iv (0 : Int32)] [(.int (2 : Int32)), (.ref bl)])) (fun _ k => XS.iloadN X86.here hx rfl (hb hby d54_86) rfl  k) ?_
  refine Rch.go (U' := T86.setTop (mkF m 89 #[rv a1, iv (2 : Int32), jv x2, sv, iv p3, .val .null, iv (0 : Int32)] [(.int p3), (.int (2 : Int32)), (.ref bl)])) (fun _ k => XS.iload X86.here hx rfl (hb hby d54_87) rfl  k) ?_
  obtain ⟨cl87, Ar87, qk87, Sz87, Mn87, Hs87, Gf87⟩ := id f83
  have ib87 : ¬ ((2 : Int32) < 0 ∨ cl87.slots.size ≤ ((2 : Int32)).toNatClampNeg) := inb_of Sz87 ⟨by decide, by decide⟩
  obtain ⟨T87, h87, X87, e87, W87, st87⟩ := stI X86 hx hZ e86 Ar87 (j := (2 : Int32)) ib87 (g := (mkF m 89 #[rv a1, iv (2 : Int32), jv x2, sv, iv p3, .val .null, iv (0 : Int32)] [(.int p3), (.int (2 : Int32)), (.ref bl)])) rfl rfl (hb hby d54_89)
  have V87 : Arv Z h87 bl kl .int (4 : Int32) (vl.set 2 (.int p3)) (.int (0 : Int32)) := Arv.set Ar87 qk87 Sz87 Mn87 Hs87 Gf87 rfl W87 2 rfl (by rw [ll]; decide)
  have f88 := f75.wr W87
  have f89 := f76.other W87 (Or.inl n_l)
  have f90 := f77.other W87 (Or.inl n_l)
  have f91 := f78.other W87 (Or.inl n_l)
  have f92 := f79.other W87 (Or.inl n_l)
  have f93 := f80.other W87 (Or.inl n_l)
  have f94 := f81.other W87 (Or.inl n_l)
  have f95 := V74.other W87 n_hl
  have f96 := f82.other W87 n_al
  have N87 := Fr.snoc X87 N74 g_bl
  have z97 := Nat.le_trans z84 (Keep.of_wr W87).1
  have K98 := K85.wr W87 (Or.inl (List.mem_of_getElem? (i := 1) rfl))
  refine Rch.go (U' := T87.setTop (mkF m 90 #[rv a1, iv (2 : Int32), jv x2, sv, iv p3, .val .null, iv (0 : Int32)] [])) st87 ?_
  refine Rch.go (U' := T87.setTop (mkF m 92 #[rv a1, iv (2 : Int32), jv x2, sv, iv p3, .val .null, iv (0 : Int32)] [.null])) (fun _ k => XS.aload X87.here hx rfl (hb hby d54_90) rfl rfl k) ?_
  refine Rch.go (U' := T87.setTop (mkF m 114 #[rv a1, iv (2 : Int32), jv x2, sv, iv p3, .val .null, iv (0 : Int32)] [])) (fun _ k => XS.ifnullYes X87.here hx rfl (pc0 := 92) (pc' := 114) rfl (hb hby d54_92) rfl (by decide) (by decide) k) ?_
  refine Rch.go (U' := T87.setTop (mkF m 115 #[rv a1, iv (2 : Int32), jv x2, sv, iv p3, .val .null, iv (0 : Int32)] [(.ref a1)])) (fun _ k => XS.aloadN X87.here hx rfl (hb hby d54_114) rfl rfl k) ?_
  obtain ⟨T99, X99, e99, st99⟩ := getF X87 hx hZ hown (host := "") (Or.inl (wi hw 40 rfl)) Via.refl e87 f93 (g := (mkF m 115 #[rv a1, iv (2 : Int32), jv x2, sv, iv p3, .val .null, iv (0 : Int32)] [(.ref a1)])) rfl rfl (hb hby d54_115)
  refine Rch.go (U' := T99.setTop (mkF m 118 #[rv a1, iv (2 : Int32), jv x2, sv, iv p3, .val .null, iv (0 : Int32)] [.null])) st99 ?_
  refine Rch.go (U' := T99.setTop (mkF m 129 #[rv a1, iv (2 : Int32), jv x2, sv, iv p3, .val .null, iv (0 : Int32)] [])) (fun _ k => XS.ifnullYes X99.here hx rfl (pc0 := 118) (pc' := 129) rfl (hb hby d54_118) rfl (by decide) (by decide) k) ?_
  refine Rch.fin X99 hlk (v := none) (fun _ => rfl) e99 (by decide) (by decide) (fun fs hr => X99.returnOut hx hret (hb hby d54_129) hr) ?_
  exact ⟨rfl, N87, K98, f95, V87⟩
theorem ef_rmS3 (m : MethodId) (a1 : Addr) (x2 : Int64) (p3 : Int32) : entryFrame m #[(.ref a1), (.int (3 : Int32)), (.long x2), (.int p3), .null, (.int (0 : Int32))] 7 = mkF m 0 #[rv a1, iv (3 : Int32), jv x2, sv, iv p3, .val .null, iv (0 : Int32)] [] := by first | (simp [entryFrame, mkF, argsToLocals, Value.category]; done) | rfl
def Q_rmS3 (Z : State) (a1 : Addr) (bh : Addr) (ba : Addr) (bl : Addr) (kh : ClassId) (ka : ClassId) (kl : ClassId) (cn : Int32) (gs : List Int64) (va : List Value) (vl : List Value) (x2 : Int64) (p3 : Int32) (h0 : Heap) (n0 : Nat) (v : Option Value) (h : Heap) (L : List Loc) : Prop := v = none ∧ Fr n0 L ∧ Keep h0 h [bh, bl] ∧ Arv Z h bh kh .long (4 : Int32) ((gs.set 3 x2).map Value.long) (.long (0 : Int64)) ∧ Arv Z h bl kl .int (4 : Int32) (vl.set 3 (.int p3)) (.int (0 : Int32))
set_option maxRecDepth 65536 in
set_option maxHeartbeats 40000000 in
theorem rmS3 (l : Launch) (Z : State) (a0 : Array Value) (hw : ∀ d ∈ tables_1, d.before a0 Z = true) (ws : List Jvm.Cond) (a1 : Addr) (bh : Addr) (ba : Addr) (bl : Addr) (kh : ClassId) (ka : ClassId) (kl : ClassId) (cn : Int32) (gs : List Int64) (va : List Value) (vl : List Value) (x2 : Int64) (p3 : Int32) (h0 : Heap) (n0 : Nat) (Z0 : n0 ≤ h0.size) (B : Tb Z h0 n0 a1 bh ba bl kh ka kl cn gs va vl) :
    MetFree l yS (head1 (Jvm.Cond.code yS prog_36_method_18_code 7 none :: ws) ({ frames := 1, cells := 0, slots := 0, locals := 13 } : Room)) (fun a U => a = #[(.ref a1), (.int (3 : Int32)), (.long x2), (.int p3), .null, (.int (0 : Int32))] ∧ Z.Warmed39 U.vm ∧ U.heap = h0) (fun _ _ _ _ _ => True) (fun _ U o U' => ∃ v L, o = .returned v ∧ Q_rmS3 Z a1 bh ba bl kh ka kl cn gs va vl x2 p3 h0 n0 v U'.heap L ∧ FrameEnd U o U' L ({ frames := 1, cells := 0, slots := 0, locals := 13 } : Room).cells ({ frames := 1, cells := 0, slots := 0, locals := 13 } : Room).slots) := by
  refine MetFree.of_bodySF (plainFor_of_name pn_com_example_slotwise_slotwise_keyspace_SlotTable) hisR ?_
  intro p e s m args below meth c s₁ Bd hml0 hP hK
  obtain ⟨rfl, hZ, hh⟩ := hP
  have hx := Bd.exec
  have hby := Bd.bytes
  have hml : c.maxLocals = 7 := hml0
  have hown : s.vm.findClass cST = some m.cls := findClass_of_methodNamed Bd.named
  have hnm := (name_of_methodNamed Bd.named Bd.method).1
  have hret := Bd.returns
  have hlk : meth.locks = false := BodyLoose.notSynchronized Bd
  have X0 : Stand p l e ({ frames := 1, cells := 0, slots := 0, locals := 13 } : Room) s m #[(.ref a1), (.int (3 : Int32)), (.long x2), (.int p3), .null, (.int (0 : Int32))] below meth c s₁ [] 0 0 := Stand.of_body Bd
  have e0 : s₁.heap = h0 := by rw [← hh, Bd.state]; rfl
  have N0 := Fr.nil n0
  have K0 := Keep.refl h0 [bh, bl]
  obtain ⟨E_a1, F_a1_count, F_a1_handles, F_a1_hashes, F_a1_lengths, F_a1_outside, F_a1_expiries, V_bh, V_ba, V_bl, ⟨lg, la, ll⟩, ⟨g_a1, g_bh, g_ba, g_bl⟩, ⟨n_h, n_a, n_l⟩, n_ha, n_hl, n_al⟩ := B
  refine Rch.body (Q := Q_rmS3 Z a1 bh ba bl kh ka kl cn gs va vl x2 p3 h0 n0) (U' := s₁.setTop (mkF m 0 #[rv a1, iv (3 : Int32), jv x2, sv, iv p3, .val .null, iv (0 : Int32)] [])) (fun t k => castTop (ef_rmS3 m a1 x2 p3) k) ?_
  refine Rch.go (U' := s₁.setTop (mkF m 2 #[rv a1, iv (3 : Int32), jv x2, sv, iv p3, .val .null, iv (0 : Int32)] [(.int (0 : Int32))])) (fun _ k => XS.iload X0.here hx rfl (hb hby d54_0) rfl  k) ?_
  have br100 : (0 : Int32) = (0 : Int32) := (by decide)
  refine Rch.go (U' := s₁.setTop (mkF m 57 #[rv a1, iv (3 : Int32), jv x2, sv, iv p3, .val .null, iv (0 : Int32)] [])) (fun _ k => XS.ifYes X0.here hx rfl (pc0 := 2) (pc' := 57) rfl (hb hby d54_2) rfl (XT.i0_eq_t br100) (by decide) (by decide) k) ?_
  refine Rch.go (U' := s₁.setTop (mkF m 59 #[rv a1, iv (3 : Int32), jv x2, sv, iv p3, .val .null, iv (0 : Int32)] [(.int (0 : Int32))])) (fun _ k => XS.iload X0.here hx rfl (hb hby d54_57) rfl  k) ?_
  have br101 : (0 : Int32) = (0 : Int32) := (by decide)
  refine Rch.go (U' := s₁.setTop (mkF m 62 #[rv a1, iv (3 : Int32), jv x2, sv, iv p3, .val .null, iv (0 : Int32)] [])) (fun _ k => XS.ifNo X0.here hx rfl (hb hby d54_59) rfl (XT.i0_ne_f br101) k) ?_
  refine Rch.go (U' := s₁.setTop (mkF m 63 #[rv a1, iv (3 : Int32), jv x2, sv, iv p3, .val .null, iv (0 : Int32)] [(.ref a1)])) (fun _ k => XS.aloadN X0.here hx rfl (hb hby d54_62) rfl rfl k) ?_
  refine Rch.go (U' := s₁.setTop (mkF m 64 #[rv a1, iv (3 : Int32), jv x2, sv, iv p3, .val .null, iv (0 : Int32)] [(.int (3 : Int32)), (.ref a1)])) (fun _ k => XS.iloadN X0.here hx rfl (hb hby d54_63) rfl  k) ?_
  obtain ⟨cq102, kq102, q102a, q102b, q102c⟩ := isOf hZ e0 E_a1
  obtain ⟨_, _, ⟨T102, L102, k102, n102⟩, -, X102, ⟨Lc102, hQ102, l102, y102, z102⟩, st102⟩ := X0.virtualBack hx (y := yX) (z := yX) hown (mvT hZ (wi hw 55 rfl)) (mvT hZ (wi hw 56 rfl)) (notFace_of_selects (args := #[]) (mvT hZ (wi hw 58 rfl))) (mvT hZ (wi hw 58 rfl)) (mvT hZ (wi hw 57 rfl)) (by decide) (backOf (W := 0) (rmX l Z a0 hw [] a1 (3 : Int32) h0 n0 Z0 F_a1_expiries) hZ (wi hw 59 rfl) (wi hw 2 rfl) (by decide) (by decide)) q102a q102c (g := (mkF m 64 #[rv a1, iv (3 : Int32), jv x2, sv, iv p3, .val .null, iv (0 : Int32)] [(.int (3 : Int32)), (.ref a1)])) rfl (by rw [hml]; rfl) (Steps.refl _) (argsL := [(.int (3 : Int32))]) (rest := []) (lenOf pd_4 rfl) rfl (by show 2 * 0 + _ ≤ _; exact Nat.le_of_eq rfl) (hb hby d54_64) (fun _ _ => ⟨rfl, e0, (by decide : 0 + 0 ≤ _), (by decide : 0 + 0 ≤ _)⟩)
  dsimp only [Pt.U, Pt.locs, Pt.cells, Pt.slots] at X102 l102 y102 z102 st102 hQ102
  subst l102 y102 z102
  obtain ⟨rfl, N102q, e102⟩ := hQ102
  have N102 := Fr.app N0 N102q
  refine Rch.to (U' := T102.setTop (mkF m 67 #[rv a1, iv (3 : Int32), jv x2, sv, iv p3, .val .null, iv (0 : Int32)] [(.int (0 : Int32))])) st102 ?_
  have br103 : (0 : Int32) = (0 : Int32) := (by decide)
  refine Rch.go (U' := T102.setTop (mkF m 75 #[rv a1, iv (3 : Int32), jv x2, sv, iv p3, .val .null, iv (0 : Int32)] [])) (fun _ k => XS.ifYes X102.here hx rfl (pc0 := 67) (pc' := 75) rfl (hb hby d54_67) rfl (XT.i0_eq_t br103) (by decide) (by decide) k) ?_
  refine Rch.go (U' := T102.setTop (mkF m 76 #[rv a1, iv (3 : Int32), jv x2, sv, iv p3, .val .null, iv (0 : Int32)] [(.ref a1)])) (fun _ k => XS.aloadN X102.here hx rfl (hb hby d54_75) rfl rfl k) ?_
  obtain ⟨T104, X104, e104, st104⟩ := getF X102 hx hZ hown (host := "") (Or.inl (wi hw 26 rfl)) Via.refl e102 F_a1_handles (g := (mkF m 76 #[rv a1, iv (3 : Int32), jv x2, sv, iv p3, .val .null, iv (0 : Int32)] [(.ref a1)])) rfl rfl (hb hby d54_76)
  refine Rch.go (U' := T104.setTop (mkF m 79 #[rv a1, iv (3 : Int32), jv x2, sv, iv p3, .val .null, iv (0 : Int32)] [(.ref bh)])) st104 ?_
  refine Rch.go (U' := T104.setTop (mkF m 80 #[rv a1, iv (3 : Int32), jv x2, sv, iv p3, .val .null, iv (0 : Int32)] [(.int (3 : Int32)), (.ref bh)])) (fun _ k => XS.iloadN X104.here hx rfl (hb hby d54_79) rfl  k) ?_
  refine Rch.go (U' := T104.setTop (mkF m 81 #[rv a1, iv (3 : Int32), jv x2, sv, iv p3, .val .null, iv (0 : Int32)] [(.long x2), (.int (3 : Int32)), (.ref bh)])) (fun _ k => XS.lloadN X104.here hx rfl (hb hby d54_80) rfl  k) ?_
  obtain ⟨cl105, Ar105, qk105, Sz105, Mn105, Hs105, Gf105⟩ := id V_bh
  have ib105 : ¬ ((3 : Int32) < 0 ∨ cl105.slots.size ≤ ((3 : Int32)).toNatClampNeg) := inb_of Sz105 ⟨by decide, by decide⟩
  obtain ⟨T105, h105, X105, e105, W105, st105⟩ := stJ X104 hx hZ e104 Ar105 (j := (3 : Int32)) ib105 (g := (mkF m 81 #[rv a1, iv (3 : Int32), jv x2, sv, iv p3, .val .null, iv (0 : Int32)] [(.long x2), (.int (3 : Int32)), (.ref bh)])) rfl rfl (hb hby d54_81)
  have V105 : Arv Z h105 bh kh .long (4 : Int32) ((gs.set 3 x2).map Value.long) (.long (0 : Int64)) := own_setJ (Arv.set Ar105 qk105 Sz105 Mn105 Hs105 Gf105 rfl W105 3 rfl (by rw [List.length_map, lg]; decide))
  have f106 := E_a1.wr W105
  have f107 := F_a1_count.other W105 (Or.inl n_h)
  have f108 := F_a1_handles.other W105 (Or.inl n_h)
  have f109 := F_a1_hashes.other W105 (Or.inl n_h)
  have f110 := F_a1_lengths.other W105 (Or.inl n_h)
  have f111 := F_a1_outside.other W105 (Or.inl n_h)
  have f112 := F_a1_expiries.other W105 (Or.inl n_h)
  have f113 := V_ba.other W105 (Ne.symm n_ha)
  have f114 := V_bl.other W105 (Ne.symm n_hl)
  have N105 := Fr.snoc X105 N102 g_bh
  have z115 := Nat.le_trans Z0 (Keep.of_wr W105).1
  have K116 := K0.wr W105 (Or.inl (List.mem_of_getElem? (i := 0) rfl))
  refine Rch.go (U' := T105.setTop (mkF m 82 #[rv a1, iv (3 : Int32), jv x2, sv, iv p3, .val .null, iv (0 : Int32)] [])) st105 ?_
  refine Rch.go (U' := T105.setTop (mkF m 83 #[rv a1, iv (3 : Int32), jv x2, sv, iv p3, .val .null, iv (0 : Int32)] [(.ref a1)])) (fun _ k => XS.aloadN X105.here hx rfl (hb hby d54_82) rfl rfl k) ?_
  obtain ⟨T117, X117, e117, st117⟩ := getF X105 hx hZ hown (host := "") (Or.inl (wi hw 38 rfl)) Via.refl e105 f110 (g := (mkF m 83 #[rv a1, iv (3 : Int32), jv x2, sv, iv p3, .val .null, iv (0 : Int32)] [(.ref a1)])) rfl rfl (hb hby d54_83)
  refine Rch.go (U' := T117.setTop (mkF m 86 #[rv a1, iv (3 : Int32), jv x2, sv, iv p3, .val .null, iv (0 : Int32)] [(.ref bl)])) st117 ?_
  refine Rch.go (U' := T117.setTop (mkF m 87 #[rv a1, iv (3 : Int32), jv x2, sv, iv p3, .val .null, iv (0 : Int32)] [(.int (3 : Int32)), (.ref bl)])) (fun _ k => XS.iloadN X117.here hx rfl (hb hby d54_86) rfl  k) ?_
  refine Rch.go (U' := T117.setTop (mkF m 89 #[rv a1, iv (3 : Int32), jv x2, sv, iv p3, .val .null, iv (0 : Int32)] [(.int p3), (.int (3 : Int32)), (.ref bl)])) (fun _ k => XS.iload X117.here hx rfl (hb hby d54_87) rfl  k) ?_
  obtain ⟨cl118, Ar118, qk118, Sz118, Mn118, Hs118, Gf118⟩ := id f114
  have ib118 : ¬ ((3 : Int32) < 0 ∨ cl118.slots.size ≤ ((3 : Int32)).toNatClampNeg) := inb_of Sz118 ⟨by decide, by decide⟩
  obtain ⟨T118, h118, X118, e118, W118, st118⟩ := stI X117 hx hZ e117 Ar118 (j := (3 : Int32)) ib118 (g := (mkF m 89 #[rv a1, iv (3 : Int32), jv x2, sv, iv p3, .val .null, iv (0 : Int32)] [(.int p3), (.int (3 : Int32)), (.ref bl)])) rfl rfl (hb hby d54_89)
  have V118 : Arv Z h118 bl kl .int (4 : Int32) (vl.set 3 (.int p3)) (.int (0 : Int32)) := Arv.set Ar118 qk118 Sz118 Mn118 Hs118 Gf118 rfl W118 3 rfl (by rw [ll]; decide)
  have f119 := f106.wr W118
  have f120 := f107.other W118 (Or.inl n_l)
  have f121 := f108.other W118 (Or.inl n_l)
  have f122 := f109.other W118 (Or.inl n_l)
  have f123 := f110.other W118 (Or.inl n_l)
  have f124 := f111.other W118 (Or.inl n_l)
  have f125 := f112.other W118 (Or.inl n_l)
  have f126 := V105.other W118 n_hl
  have f127 := f113.other W118 n_al
  have N118 := Fr.snoc X118 N105 g_bl
  have z128 := Nat.le_trans z115 (Keep.of_wr W118).1
  have K129 := K116.wr W118 (Or.inl (List.mem_of_getElem? (i := 1) rfl))
  refine Rch.go (U' := T118.setTop (mkF m 90 #[rv a1, iv (3 : Int32), jv x2, sv, iv p3, .val .null, iv (0 : Int32)] [])) st118 ?_
  refine Rch.go (U' := T118.setTop (mkF m 92 #[rv a1, iv (3 : Int32), jv x2, sv, iv p3, .val .null, iv (0 : Int32)] [.null])) (fun _ k => XS.aload X118.here hx rfl (hb hby d54_90) rfl rfl k) ?_
  refine Rch.go (U' := T118.setTop (mkF m 114 #[rv a1, iv (3 : Int32), jv x2, sv, iv p3, .val .null, iv (0 : Int32)] [])) (fun _ k => XS.ifnullYes X118.here hx rfl (pc0 := 92) (pc' := 114) rfl (hb hby d54_92) rfl (by decide) (by decide) k) ?_
  refine Rch.go (U' := T118.setTop (mkF m 115 #[rv a1, iv (3 : Int32), jv x2, sv, iv p3, .val .null, iv (0 : Int32)] [(.ref a1)])) (fun _ k => XS.aloadN X118.here hx rfl (hb hby d54_114) rfl rfl k) ?_
  obtain ⟨T130, X130, e130, st130⟩ := getF X118 hx hZ hown (host := "") (Or.inl (wi hw 40 rfl)) Via.refl e118 f124 (g := (mkF m 115 #[rv a1, iv (3 : Int32), jv x2, sv, iv p3, .val .null, iv (0 : Int32)] [(.ref a1)])) rfl rfl (hb hby d54_115)
  refine Rch.go (U' := T130.setTop (mkF m 118 #[rv a1, iv (3 : Int32), jv x2, sv, iv p3, .val .null, iv (0 : Int32)] [.null])) st130 ?_
  refine Rch.go (U' := T130.setTop (mkF m 129 #[rv a1, iv (3 : Int32), jv x2, sv, iv p3, .val .null, iv (0 : Int32)] [])) (fun _ k => XS.ifnullYes X130.here hx rfl (pc0 := 118) (pc' := 129) rfl (hb hby d54_118) rfl (by decide) (by decide) k) ?_
  refine Rch.fin X130 hlk (v := none) (fun _ => rfl) e130 (by decide) (by decide) (fun fs hr => X130.returnOut hx hret (hb hby d54_129) hr) ?_
  exact ⟨rfl, N118, K129, f126, V118⟩
theorem d35_0 : decode prog_36_method_27_code 0 = .ok (.aload_n 0, 1) := by decide +kernel
theorem d35_1 : decode prog_36_method_27_code 1 = .ok (.getfield 27, 3) := by decide +kernel
theorem d35_4 : decode prog_36_method_27_code 4 = .ok (.astore_n 2, 1) := by decide +kernel
theorem d35_5 : decode prog_36_method_27_code 5 = .ok (.aload_n 0, 1) := by decide +kernel
theorem d35_6 : decode prog_36_method_27_code 6 = .ok (.getfield 31, 3) := by decide +kernel
theorem d35_9 : decode prog_36_method_27_code 9 = .ok (.astore_n 3, 1) := by decide +kernel
theorem d35_10 : decode prog_36_method_27_code 10 = .ok (.aload_n 0, 1) := by decide +kernel
theorem d35_11 : decode prog_36_method_27_code 11 = .ok (.getfield 41, 3) := by decide +kernel
theorem d35_14 : decode prog_36_method_27_code 14 = .ok (.astore 4, 2) := by decide +kernel
theorem d35_16 : decode prog_36_method_27_code 16 = .ok (.aload_n 0, 1) := by decide +kernel
theorem d35_17 : decode prog_36_method_27_code 17 = .ok (.getfield 70, 3) := by decide +kernel
theorem d35_20 : decode prog_36_method_27_code 20 = .ok (.astore 5, 2) := by decide +kernel
theorem d35_22 : decode prog_36_method_27_code 22 = .ok (.aload_n 0, 1) := by decide +kernel
theorem d35_23 : decode prog_36_method_27_code 23 = .ok (.getfield 102, 3) := by decide +kernel
theorem d35_26 : decode prog_36_method_27_code 26 = .ok (.astore 6, 2) := by decide +kernel
theorem d35_28 : decode prog_36_method_27_code 28 = .ok (.aload_n 0, 1) := by decide +kernel
theorem d35_29 : decode prog_36_method_27_code 29 = .ok (.getfield 44, 3) := by decide +kernel
theorem d35_32 : decode prog_36_method_27_code 32 = .ok (.astore 7, 2) := by decide +kernel
theorem d35_34 : decode prog_36_method_27_code 34 = .ok (.aload_n 0, 1) := by decide +kernel
theorem d35_35 : decode prog_36_method_27_code 35 = .ok (.iload_n 1, 1) := by decide +kernel
theorem d35_36 : decode prog_36_method_27_code 36 = .ok (.newarray .long, 2) := by decide +kernel
theorem d35_38 : decode prog_36_method_27_code 38 = .ok (.putfield 27, 3) := by decide +kernel
theorem d35_41 : decode prog_36_method_27_code 41 = .ok (.aload_n 0, 1) := by decide +kernel
theorem d35_42 : decode prog_36_method_27_code 42 = .ok (.iload_n 1, 1) := by decide +kernel
theorem d35_43 : decode prog_36_method_27_code 43 = .ok (.newarray .int, 2) := by decide +kernel
theorem d35_45 : decode prog_36_method_27_code 45 = .ok (.putfield 31, 3) := by decide +kernel
theorem d35_48 : decode prog_36_method_27_code 48 = .ok (.aload_n 0, 1) := by decide +kernel
theorem d35_49 : decode prog_36_method_27_code 49 = .ok (.iload_n 1, 1) := by decide +kernel
theorem d35_50 : decode prog_36_method_27_code 50 = .ok (.newarray .int, 2) := by decide +kernel
theorem d35_52 : decode prog_36_method_27_code 52 = .ok (.putfield 41, 3) := by decide +kernel
theorem d35_55 : decode prog_36_method_27_code 55 = .ok (.aload_n 0, 1) := by decide +kernel
theorem d35_56 : decode prog_36_method_27_code 56 = .ok (.aload 5, 2) := by decide +kernel
theorem d35_58 : decode prog_36_method_27_code 58 = .ok (.ifnonnull 7, 3) := by decide +kernel
theorem d35_61 : decode prog_36_method_27_code 61 = .ok (.aconst_null, 1) := by decide +kernel
theorem d35_62 : decode prog_36_method_27_code 62 = .ok (.goto 7, 3) := by decide +kernel
theorem d35_65 : decode prog_36_method_27_code 65 = .ok (.iload_n 1, 1) := by decide +kernel
theorem d35_66 : decode prog_36_method_27_code 66 = .ok (.anewarray 100, 3) := by decide +kernel
theorem d35_69 : decode prog_36_method_27_code 69 = .ok (.putfield 70, 3) := by decide +kernel
theorem d35_72 : decode prog_36_method_27_code 72 = .ok (.aload_n 0, 1) := by decide +kernel
theorem d35_73 : decode prog_36_method_27_code 73 = .ok (.aload 6, 2) := by decide +kernel
theorem d35_75 : decode prog_36_method_27_code 75 = .ok (.ifnonnull 7, 3) := by decide +kernel
theorem d35_78 : decode prog_36_method_27_code 78 = .ok (.aconst_null, 1) := by decide +kernel
theorem d35_79 : decode prog_36_method_27_code 79 = .ok (.goto 11, 3) := by decide +kernel
theorem d35_82 : decode prog_36_method_27_code 82 = .ok (.new 49, 3) := by decide +kernel
theorem d35_85 : decode prog_36_method_27_code 85 = .ok (.dup, 1) := by decide +kernel
theorem d35_86 : decode prog_36_method_27_code 86 = .ok (.iload_n 1, 1) := by decide +kernel
theorem d35_87 : decode prog_36_method_27_code 87 = .ok (.invokespecial 93, 3) := by decide +kernel
theorem d35_90 : decode prog_36_method_27_code 90 = .ok (.putfield 102, 3) := by decide +kernel
theorem d35_93 : decode prog_36_method_27_code 93 = .ok (.aload_n 0, 1) := by decide +kernel
theorem d35_94 : decode prog_36_method_27_code 94 = .ok (.aload 7, 2) := by decide +kernel
theorem d35_96 : decode prog_36_method_27_code 96 = .ok (.ifnonnull 7, 3) := by decide +kernel
theorem d35_99 : decode prog_36_method_27_code 99 = .ok (.aconst_null, 1) := by decide +kernel
theorem d35_100 : decode prog_36_method_27_code 100 = .ok (.goto 11, 3) := by decide +kernel
theorem d35_103 : decode prog_36_method_27_code 103 = .ok (.new 49, 3) := by decide +kernel
theorem d35_106 : decode prog_36_method_27_code 106 = .ok (.dup, 1) := by decide +kernel
theorem d35_107 : decode prog_36_method_27_code 107 = .ok (.iload_n 1, 1) := by decide +kernel
theorem d35_108 : decode prog_36_method_27_code 108 = .ok (.invokespecial 93, 3) := by decide +kernel
theorem d35_111 : decode prog_36_method_27_code 111 = .ok (.putfield 44, 3) := by decide +kernel
theorem d35_114 : decode prog_36_method_27_code 114 = .ok (.aload_n 0, 1) := by decide +kernel
theorem d35_115 : decode prog_36_method_27_code 115 = .ok (.dup, 1) := by decide +kernel
theorem d35_116 : decode prog_36_method_27_code 116 = .ok (.getfield 60, 3) := by decide +kernel
theorem d35_119 : decode prog_36_method_27_code 119 = .ok (.lconst 1, 1) := by decide +kernel
theorem d35_120 : decode prog_36_method_27_code 120 = .ok (.ladd, 1) := by decide +kernel
theorem d35_121 : decode prog_36_method_27_code 121 = .ok (.putfield 60, 3) := by decide +kernel
theorem d35_124 : decode prog_36_method_27_code 124 = .ok (.aload_n 2, 1) := by decide +kernel
theorem d35_125 : decode prog_36_method_27_code 125 = .ok (.ifnonnull 4, 3) := by decide +kernel
theorem d35_128 : decode prog_36_method_27_code 128 = .ok (.return_, 1) := by decide +kernel
theorem d35_129 : decode prog_36_method_27_code 129 = .ok (.iload_n 1, 1) := by decide +kernel
theorem d35_130 : decode prog_36_method_27_code 130 = .ok (.iconst 1, 1) := by decide +kernel
theorem d35_131 : decode prog_36_method_27_code 131 = .ok (.isub, 1) := by decide +kernel
theorem d35_132 : decode prog_36_method_27_code 132 = .ok (.istore 8, 2) := by decide +kernel
theorem d35_134 : decode prog_36_method_27_code 134 = .ok (.iconst 0, 1) := by decide +kernel
theorem d35_135 : decode prog_36_method_27_code 135 = .ok (.istore 9, 2) := by decide +kernel
theorem d35_137 : decode prog_36_method_27_code 137 = .ok (.iload 9, 2) := by decide +kernel
theorem d35_139 : decode prog_36_method_27_code 139 = .ok (.aload_n 2, 1) := by decide +kernel
theorem d35_140 : decode prog_36_method_27_code 140 = .ok (.arraylength, 1) := by decide +kernel
theorem d35_141 : decode prog_36_method_27_code 141 = .ok (.if_icmp .ge 150, 3) := by decide +kernel
theorem d35_144 : decode prog_36_method_27_code 144 = .ok (.aload_n 2, 1) := by decide +kernel
theorem d35_145 : decode prog_36_method_27_code 145 = .ok (.iload 9, 2) := by decide +kernel
theorem d35_147 : decode prog_36_method_27_code 147 = .ok (.laload, 1) := by decide +kernel
theorem d35_148 : decode prog_36_method_27_code 148 = .ok (.lconst 0, 1) := by decide +kernel
theorem d35_149 : decode prog_36_method_27_code 149 = .ok (.lcmp, 1) := by decide +kernel
theorem d35_150 : decode prog_36_method_27_code 150 = .ok (.ifCond .eq 135, 3) := by decide +kernel
theorem d35_153 : decode prog_36_method_27_code 153 = .ok (.aload_n 3, 1) := by decide +kernel
theorem d35_154 : decode prog_36_method_27_code 154 = .ok (.iload 9, 2) := by decide +kernel
theorem d35_156 : decode prog_36_method_27_code 156 = .ok (.iaload, 1) := by decide +kernel
theorem d35_157 : decode prog_36_method_27_code 157 = .ok (.iload 8, 2) := by decide +kernel
theorem d35_159 : decode prog_36_method_27_code 159 = .ok (.iand, 1) := by decide +kernel
theorem d35_160 : decode prog_36_method_27_code 160 = .ok (.istore 10, 2) := by decide +kernel
theorem d35_162 : decode prog_36_method_27_code 162 = .ok (.aload_n 0, 1) := by decide +kernel
theorem d35_163 : decode prog_36_method_27_code 163 = .ok (.getfield 27, 3) := by decide +kernel
theorem d35_166 : decode prog_36_method_27_code 166 = .ok (.iload 10, 2) := by decide +kernel
theorem d35_168 : decode prog_36_method_27_code 168 = .ok (.laload, 1) := by decide +kernel
theorem d35_169 : decode prog_36_method_27_code 169 = .ok (.lconst 0, 1) := by decide +kernel
theorem d35_170 : decode prog_36_method_27_code 170 = .ok (.lcmp, 1) := by decide +kernel
theorem d35_171 : decode prog_36_method_27_code 171 = .ok (.ifCond .eq 15, 3) := by decide +kernel
theorem d35_174 : decode prog_36_method_27_code 174 = .ok (.iload 10, 2) := by decide +kernel
theorem d35_176 : decode prog_36_method_27_code 176 = .ok (.iconst 1, 1) := by decide +kernel
theorem d35_177 : decode prog_36_method_27_code 177 = .ok (.iadd, 1) := by decide +kernel
theorem d35_178 : decode prog_36_method_27_code 178 = .ok (.iload 8, 2) := by decide +kernel
theorem d35_180 : decode prog_36_method_27_code 180 = .ok (.iand, 1) := by decide +kernel
theorem d35_181 : decode prog_36_method_27_code 181 = .ok (.istore 10, 2) := by decide +kernel
theorem d35_183 : decode prog_36_method_27_code 183 = .ok (.goto (-21), 3) := by decide +kernel
theorem d35_186 : decode prog_36_method_27_code 186 = .ok (.aload_n 0, 1) := by decide +kernel
theorem d35_187 : decode prog_36_method_27_code 187 = .ok (.getfield 27, 3) := by decide +kernel
theorem d35_190 : decode prog_36_method_27_code 190 = .ok (.iload 10, 2) := by decide +kernel
theorem d35_192 : decode prog_36_method_27_code 192 = .ok (.aload_n 2, 1) := by decide +kernel
theorem d35_193 : decode prog_36_method_27_code 193 = .ok (.iload 9, 2) := by decide +kernel
theorem d35_195 : decode prog_36_method_27_code 195 = .ok (.laload, 1) := by decide +kernel
theorem d35_196 : decode prog_36_method_27_code 196 = .ok (.lastore, 1) := by decide +kernel
theorem d35_197 : decode prog_36_method_27_code 197 = .ok (.aload_n 0, 1) := by decide +kernel
theorem d35_198 : decode prog_36_method_27_code 198 = .ok (.getfield 31, 3) := by decide +kernel
theorem d35_201 : decode prog_36_method_27_code 201 = .ok (.iload 10, 2) := by decide +kernel
theorem d35_203 : decode prog_36_method_27_code 203 = .ok (.aload_n 3, 1) := by decide +kernel
theorem d35_204 : decode prog_36_method_27_code 204 = .ok (.iload 9, 2) := by decide +kernel
theorem d35_206 : decode prog_36_method_27_code 206 = .ok (.iaload, 1) := by decide +kernel
theorem d35_207 : decode prog_36_method_27_code 207 = .ok (.iastore, 1) := by decide +kernel
theorem d35_208 : decode prog_36_method_27_code 208 = .ok (.aload_n 0, 1) := by decide +kernel
theorem d35_209 : decode prog_36_method_27_code 209 = .ok (.getfield 41, 3) := by decide +kernel
theorem d35_212 : decode prog_36_method_27_code 212 = .ok (.iload 10, 2) := by decide +kernel
theorem d35_214 : decode prog_36_method_27_code 214 = .ok (.aload 4, 2) := by decide +kernel
theorem d35_216 : decode prog_36_method_27_code 216 = .ok (.iload 9, 2) := by decide +kernel
theorem d35_218 : decode prog_36_method_27_code 218 = .ok (.iaload, 1) := by decide +kernel
theorem d35_219 : decode prog_36_method_27_code 219 = .ok (.iastore, 1) := by decide +kernel
theorem d35_220 : decode prog_36_method_27_code 220 = .ok (.aload 5, 2) := by decide +kernel
theorem d35_222 : decode prog_36_method_27_code 222 = .ok (.ifnull 15, 3) := by decide +kernel
theorem d35_225 : decode prog_36_method_27_code 225 = .ok (.aload_n 0, 1) := by decide +kernel
theorem d35_226 : decode prog_36_method_27_code 226 = .ok (.getfield 70, 3) := by decide +kernel
theorem d35_229 : decode prog_36_method_27_code 229 = .ok (.iload 10, 2) := by decide +kernel
theorem d35_231 : decode prog_36_method_27_code 231 = .ok (.aload 5, 2) := by decide +kernel
theorem d35_233 : decode prog_36_method_27_code 233 = .ok (.iload 9, 2) := by decide +kernel
theorem d35_235 : decode prog_36_method_27_code 235 = .ok (.aaload, 1) := by decide +kernel
theorem d35_236 : decode prog_36_method_27_code 236 = .ok (.aastore, 1) := by decide +kernel
theorem d35_237 : decode prog_36_method_27_code 237 = .ok (.aload 6, 2) := by decide +kernel
theorem d35_239 : decode prog_36_method_27_code 239 = .ok (.ifnull 22, 3) := by decide +kernel
theorem d35_242 : decode prog_36_method_27_code 242 = .ok (.aload 6, 2) := by decide +kernel
theorem d35_244 : decode prog_36_method_27_code 244 = .ok (.iload 9, 2) := by decide +kernel
theorem d35_246 : decode prog_36_method_27_code 246 = .ok (.invokevirtual 48, 3) := by decide +kernel
theorem d35_249 : decode prog_36_method_27_code 249 = .ok (.ifCond .eq 12, 3) := by decide +kernel
theorem d35_252 : decode prog_36_method_27_code 252 = .ok (.aload_n 0, 1) := by decide +kernel
theorem d35_253 : decode prog_36_method_27_code 253 = .ok (.getfield 102, 3) := by decide +kernel
theorem d35_256 : decode prog_36_method_27_code 256 = .ok (.iload 10, 2) := by decide +kernel
theorem d35_258 : decode prog_36_method_27_code 258 = .ok (.invokevirtual 95, 3) := by decide +kernel
theorem d35_261 : decode prog_36_method_27_code 261 = .ok (.aload 7, 2) := by decide +kernel
theorem d35_263 : decode prog_36_method_27_code 263 = .ok (.ifnull 22, 3) := by decide +kernel
theorem d35_266 : decode prog_36_method_27_code 266 = .ok (.aload 7, 2) := by decide +kernel
theorem d35_268 : decode prog_36_method_27_code 268 = .ok (.iload 9, 2) := by decide +kernel
theorem d35_270 : decode prog_36_method_27_code 270 = .ok (.invokevirtual 48, 3) := by decide +kernel
theorem d35_273 : decode prog_36_method_27_code 273 = .ok (.ifCond .eq 12, 3) := by decide +kernel
theorem d35_276 : decode prog_36_method_27_code 276 = .ok (.aload_n 0, 1) := by decide +kernel
theorem d35_277 : decode prog_36_method_27_code 277 = .ok (.getfield 44, 3) := by decide +kernel
theorem d35_280 : decode prog_36_method_27_code 280 = .ok (.iload 10, 2) := by decide +kernel
theorem d35_282 : decode prog_36_method_27_code 282 = .ok (.invokevirtual 95, 3) := by decide +kernel
theorem d35_285 : decode prog_36_method_27_code 285 = .ok (.iinc 9 1, 3) := by decide +kernel
theorem d35_288 : decode prog_36_method_27_code 288 = .ok (.goto (-151), 3) := by decide +kernel
theorem d35_291 : decode prog_36_method_27_code 291 = .ok (.return_, 1) := by decide +kernel
theorem ef_rmR (m : MethodId) (a1 : Addr) : entryFrame m #[(.ref a1), (.int (4 : Int32))] 11 = mkF m 0 #[rv a1, iv (4 : Int32), uv, uv, uv, uv, uv, uv, uv, uv, uv] [] := by first | (simp [entryFrame, mkF, argsToLocals, Value.category]; done) | rfl
def Q_rmR (Z : State) (a1 : Addr) (cn : Int32) (mv : Int64) (h0 : Heap) (n0 : Nat) (v : Option Value) (h : Heap) (L : List Loc) : Prop := ∃ (bh ba bl : Addr) (kh ka kl : ClassId), v = none ∧ Fr n0 L ∧ n0 ≤ h.size ∧ Tb Z h n0 a1 bh ba bl kh ka kl cn own_g0 [(.int (0 : Int32)), (.int (0 : Int32)), (.int (0 : Int32)), (.int (0 : Int32))] [(.int (0 : Int32)), (.int (0 : Int32)), (.int (0 : Int32)), (.int (0 : Int32))]
set_option maxRecDepth 65536 in
set_option maxHeartbeats 40000000 in
theorem rmR (l : Launch) (Z : State) (a0 : Array Value) (hw : ∀ d ∈ tables_1, d.before a0 Z = true) (ws : List Jvm.Cond) (a1 : Addr) (cn : Int32) (mv : Int64) (h0 : Heap) (n0 : Nat) (Z0 : n0 ≤ h0.size) (E_a1 : Exa Z h0 a1 cST) (F_a1_count : Fld Z h0 a1 cST "count" "I" (.int cn)) (F_a1_handles : Fld Z h0 a1 cST "handles" "[J" .null) (F_a1_hashes : Fld Z h0 a1 cST "hashes" "[I" .null) (F_a1_lengths : Fld Z h0 a1 cST "lengths" "[I" .null) (F_a1_outside : Fld Z h0 a1 cST "outside" "[[B" .null) (F_a1_marks : Fld Z h0 a1 cST "marks" "Ljava/util/BitSet;" .null) (F_a1_expiries : Fld Z h0 a1 cST "expiries" "Ljava/util/BitSet;" .null) (F_a1_moves : Fld Z h0 a1 cST "moves" "J" (.long mv)) (g_a1 : n0 ≤ a1) :
    MetFree l yR (head1 (Jvm.Cond.code yR prog_36_method_27_code 11 none :: ws) ({ frames := 0, cells := 3, slots := 12, locals := 0 } : Room)) (fun a U => a = #[(.ref a1), (.int (4 : Int32))] ∧ Z.Warmed39 U.vm ∧ U.heap = h0) (fun _ _ _ _ _ => True) (fun _ U o U' => ∃ v L, o = .returned v ∧ Q_rmR Z a1 cn mv h0 n0 v U'.heap L ∧ FrameEnd U o U' L ({ frames := 0, cells := 3, slots := 12, locals := 0 } : Room).cells ({ frames := 0, cells := 3, slots := 12, locals := 0 } : Room).slots) := by
  refine MetFree.of_bodySF (plainFor_of_name pn_com_example_slotwise_slotwise_keyspace_SlotTable) hisR ?_
  intro p e s m args below meth c s₁ Bd hml0 hP hK
  obtain ⟨rfl, hZ, hh⟩ := hP
  have hx := Bd.exec
  have hby := Bd.bytes
  have hml : c.maxLocals = 11 := hml0
  have hown : s.vm.findClass cST = some m.cls := findClass_of_methodNamed Bd.named
  have hnm := (name_of_methodNamed Bd.named Bd.method).1
  have hret := Bd.returns
  have hlk : meth.locks = false := BodyLoose.notSynchronized Bd
  have X0 : Stand p l e ({ frames := 0, cells := 3, slots := 12, locals := 0 } : Room) s m #[(.ref a1), (.int (4 : Int32))] below meth c s₁ [] 0 0 := Stand.of_body Bd
  have e0 : s₁.heap = h0 := by rw [← hh, Bd.state]; rfl
  have N0 := Fr.nil n0
  have K0 := Keep.refl h0 [a1]
  refine Rch.body (Q := Q_rmR Z a1 cn mv h0 n0) (U' := s₁.setTop (mkF m 0 #[rv a1, iv (4 : Int32), uv, uv, uv, uv, uv, uv, uv, uv, uv] [])) (fun t k => castTop (ef_rmR m a1) k) ?_
  refine Rch.go (U' := s₁.setTop (mkF m 1 #[rv a1, iv (4 : Int32), uv, uv, uv, uv, uv, uv, uv, uv, uv] [(.ref a1)])) (fun _ k => XS.aloadN X0.here hx rfl (hb hby d35_0) rfl rfl k) ?_
  obtain ⟨T131, X131, e131, st131⟩ := getF X0 hx hZ hown (host := "") (Or.inl (wi hw 26 rfl)) Via.refl e0 F_a1_handles (g := (mkF m 1 #[rv a1, iv (4 : Int32), uv, uv, uv, uv, uv, uv, uv, uv, uv] [(.ref a1)])) rfl rfl (hb hby d35_1)
  refine Rch.go (U' := T131.setTop (mkF m 4 #[rv a1, iv (4 : Int32), uv, uv, uv, uv, uv, uv, uv, uv, uv] [.null])) st131 ?_
  refine Rch.go (U' := T131.setTop (mkF m 5 #[rv a1, iv (4 : Int32), .val .null, uv, uv, uv, uv, uv, uv, uv, uv] [])) (fun _ k => XS.astoreN X131.here hx rfl (hb hby d35_4) rfl rfl (l' := #[rv a1, iv (4 : Int32), .val .null, uv, uv, uv, uv, uv, uv, uv, uv]) rfl k) ?_
  refine Rch.go (U' := T131.setTop (mkF m 6 #[rv a1, iv (4 : Int32), .val .null, uv, uv, uv, uv, uv, uv, uv, uv] [(.ref a1)])) (fun _ k => XS.aloadN X131.here hx rfl (hb hby d35_5) rfl rfl k) ?_
  obtain ⟨T132, X132, e132, st132⟩ := getF X131 hx hZ hown (host := "") (Or.inl (wi hw 36 rfl)) Via.refl e131 F_a1_hashes (g := (mkF m 6 #[rv a1, iv (4 : Int32), .val .null, uv, uv, uv, uv, uv, uv, uv, uv] [(.ref a1)])) rfl rfl (hb hby d35_6)
  refine Rch.go (U' := T132.setTop (mkF m 9 #[rv a1, iv (4 : Int32), .val .null, uv, uv, uv, uv, uv, uv, uv, uv] [.null])) st132 ?_
  refine Rch.go (U' := T132.setTop (mkF m 10 #[rv a1, iv (4 : Int32), .val .null, .val .null, uv, uv, uv, uv, uv, uv, uv] [])) (fun _ k => XS.astoreN X132.here hx rfl (hb hby d35_9) rfl rfl (l' := #[rv a1, iv (4 : Int32), .val .null, .val .null, uv, uv, uv, uv, uv, uv, uv]) rfl k) ?_
  refine Rch.go (U' := T132.setTop (mkF m 11 #[rv a1, iv (4 : Int32), .val .null, .val .null, uv, uv, uv, uv, uv, uv, uv] [(.ref a1)])) (fun _ k => XS.aloadN X132.here hx rfl (hb hby d35_10) rfl rfl k) ?_
  obtain ⟨T133, X133, e133, st133⟩ := getF X132 hx hZ hown (host := "") (Or.inl (wi hw 38 rfl)) Via.refl e132 F_a1_lengths (g := (mkF m 11 #[rv a1, iv (4 : Int32), .val .null, .val .null, uv, uv, uv, uv, uv, uv, uv] [(.ref a1)])) rfl rfl (hb hby d35_11)
  refine Rch.go (U' := T133.setTop (mkF m 14 #[rv a1, iv (4 : Int32), .val .null, .val .null, uv, uv, uv, uv, uv, uv, uv] [.null])) st133 ?_
  refine Rch.go (U' := T133.setTop (mkF m 16 #[rv a1, iv (4 : Int32), .val .null, .val .null, .val .null, uv, uv, uv, uv, uv, uv] [])) (fun _ k => XS.astore X133.here hx rfl (hb hby d35_14) rfl rfl (l' := #[rv a1, iv (4 : Int32), .val .null, .val .null, .val .null, uv, uv, uv, uv, uv, uv]) rfl k) ?_
  refine Rch.go (U' := T133.setTop (mkF m 17 #[rv a1, iv (4 : Int32), .val .null, .val .null, .val .null, uv, uv, uv, uv, uv, uv] [(.ref a1)])) (fun _ k => XS.aloadN X133.here hx rfl (hb hby d35_16) rfl rfl k) ?_
  obtain ⟨T134, X134, e134, st134⟩ := getF X133 hx hZ hown (host := "") (Or.inl (wi hw 40 rfl)) Via.refl e133 F_a1_outside (g := (mkF m 17 #[rv a1, iv (4 : Int32), .val .null, .val .null, .val .null, uv, uv, uv, uv, uv, uv] [(.ref a1)])) rfl rfl (hb hby d35_17)
  refine Rch.go (U' := T134.setTop (mkF m 20 #[rv a1, iv (4 : Int32), .val .null, .val .null, .val .null, uv, uv, uv, uv, uv, uv] [.null])) st134 ?_
  refine Rch.go (U' := T134.setTop (mkF m 22 #[rv a1, iv (4 : Int32), .val .null, .val .null, .val .null, .val .null, uv, uv, uv, uv, uv] [])) (fun _ k => XS.astore X134.here hx rfl (hb hby d35_20) rfl rfl (l' := #[rv a1, iv (4 : Int32), .val .null, .val .null, .val .null, .val .null, uv, uv, uv, uv, uv]) rfl k) ?_
  refine Rch.go (U' := T134.setTop (mkF m 23 #[rv a1, iv (4 : Int32), .val .null, .val .null, .val .null, .val .null, uv, uv, uv, uv, uv] [(.ref a1)])) (fun _ k => XS.aloadN X134.here hx rfl (hb hby d35_22) rfl rfl k) ?_
  obtain ⟨T135, X135, e135, st135⟩ := getF X134 hx hZ hown (host := "") (Or.inl (wi hw 42 rfl)) Via.refl e134 F_a1_marks (g := (mkF m 23 #[rv a1, iv (4 : Int32), .val .null, .val .null, .val .null, .val .null, uv, uv, uv, uv, uv] [(.ref a1)])) rfl rfl (hb hby d35_23)
  refine Rch.go (U' := T135.setTop (mkF m 26 #[rv a1, iv (4 : Int32), .val .null, .val .null, .val .null, .val .null, uv, uv, uv, uv, uv] [.null])) st135 ?_
  refine Rch.go (U' := T135.setTop (mkF m 28 #[rv a1, iv (4 : Int32), .val .null, .val .null, .val .null, .val .null, .val .null, uv, uv, uv, uv] [])) (fun _ k => XS.astore X135.here hx rfl (hb hby d35_26) rfl rfl (l' := #[rv a1, iv (4 : Int32), .val .null, .val .null, .val .null, .val .null, .val .null, uv, uv, uv, uv]) rfl k) ?_
  refine Rch.go (U' := T135.setTop (mkF m 29 #[rv a1, iv (4 : Int32), .val .null, .val .null, .val .null, .val .null, .val .null, uv, uv, uv, uv] [(.ref a1)])) (fun _ k => XS.aloadN X135.here hx rfl (hb hby d35_28) rfl rfl k) ?_
  obtain ⟨T136, X136, e136, st136⟩ := getF X135 hx hZ hown (host := "") (Or.inl (wi hw 44 rfl)) Via.refl e135 F_a1_expiries (g := (mkF m 29 #[rv a1, iv (4 : Int32), .val .null, .val .null, .val .null, .val .null, .val .null, uv, uv, uv, uv] [(.ref a1)])) rfl rfl (hb hby d35_29)
  refine Rch.go (U' := T136.setTop (mkF m 32 #[rv a1, iv (4 : Int32), .val .null, .val .null, .val .null, .val .null, .val .null, uv, uv, uv, uv] [.null])) st136 ?_
  refine Rch.go (U' := T136.setTop (mkF m 34 #[rv a1, iv (4 : Int32), .val .null, .val .null, .val .null, .val .null, .val .null, .val .null, uv, uv, uv] [])) (fun _ k => XS.astore X136.here hx rfl (hb hby d35_32) rfl rfl (l' := #[rv a1, iv (4 : Int32), .val .null, .val .null, .val .null, .val .null, .val .null, .val .null, uv, uv, uv]) rfl k) ?_
  refine Rch.go (U' := T136.setTop (mkF m 35 #[rv a1, iv (4 : Int32), .val .null, .val .null, .val .null, .val .null, .val .null, .val .null, uv, uv, uv] [(.ref a1)])) (fun _ k => XS.aloadN X136.here hx rfl (hb hby d35_34) rfl rfl k) ?_
  refine Rch.go (U' := T136.setTop (mkF m 36 #[rv a1, iv (4 : Int32), .val .null, .val .null, .val .null, .val .null, .val .null, .val .null, uv, uv, uv] [(.int (4 : Int32)), (.ref a1)])) (fun _ k => XS.iloadN X136.here hx rfl (hb hby d35_35) rfl  k) ?_
  obtain ⟨T137, h137, k137, X137, e137, E137, A137, st137⟩ := newP X136 hx hZ (wi hw 46 rfl) e136 (g := (mkF m 36 #[rv a1, iv (4 : Int32), .val .null, .val .null, .val .null, .val .null, .val .null, .val .null, uv, uv, uv] [(.int (4 : Int32)), (.ref a1)])) rfl (hb hby d35_36) rfl (by decide) (cap := 4) (by decide) (by decide) (by decide) (by decide)
  obtain ⟨b137, g137⟩ : ∃ z, z = h0.size := ⟨_, rfl⟩
  rw [← g137] at A137 st137
  have ne138 : a1 ≠ b137 := Nat.ne_of_lt (Nat.lt_of_lt_of_le E_a1.lt (Nat.le_of_eq g137.symm))
  have n0b137 : n0 ≤ b137 := Nat.le_trans Z0 (Nat.le_of_eq g137.symm)
  have szb137 : h0.size ≤ b137 := Nat.le_trans K0.1 (Nat.le_of_eq g137.symm)
  have f139 := E_a1.ext E137
  have f140 := F_a1_count.ext E137
  have f141 := F_a1_handles.ext E137
  have f142 := F_a1_hashes.ext E137
  have f143 := F_a1_lengths.ext E137
  have f144 := F_a1_outside.ext E137
  have f145 := F_a1_marks.ext E137
  have f146 := F_a1_expiries.ext E137
  have f147 := F_a1_moves.ext E137
  have z148 := Nat.le_trans Z0 E137.1
  have K149 := K0.ext E137
  have V137 : Arv Z h137 b137 k137 .long (4 : Int32) [(.long (0 : Int64)), (.long (0 : Int64)), (.long (0 : Int64)), (.long (0 : Int64))] (.long (0 : Int64)) := (Arv.new A137 (by decide)).pad (pad_rep [] (.long (0 : Int64)) 4)
  refine Rch.go (U' := T137.setTop (mkF m 38 #[rv a1, iv (4 : Int32), .val .null, .val .null, .val .null, .val .null, .val .null, .val .null, uv, uv, uv] [(.ref b137), (.ref a1)])) st137 ?_
  obtain ⟨T150, h150, X150, e150, W150, st150⟩ := putF X137 hx hZ hown (host := "") (Or.inl (wi hw 26 rfl)) Via.refl e137 f141 f139 (Or.inl (wi hw 27 rfl)) (wi hw 1 rfl) (ty := (.array .long)) (by decide) rfl rfl (g := (mkF m 38 #[rv a1, iv (4 : Int32), .val .null, .val .null, .val .null, .val .null, .val .null, .val .null, uv, uv, uv] [(.ref b137), (.ref a1)])) rfl rfl (hb hby d35_38)
  have F150 := f141.same W150
  have f151 := f139.wr W150
  have f152 := f140.other W150 (Or.inr (slot_ne (Or.inl (wi hw 20 rfl)) (Or.inl (wi hw 27 rfl)) (by decide) (t := .int) (t' := (.array .long)) (by decide) (by decide)))
  have f153 := f142.other W150 (Or.inr (slot_ne (Or.inl (wi hw 37 rfl)) (Or.inl (wi hw 27 rfl)) (by decide) (t := (.array .int)) (t' := (.array .long)) (by decide) (by decide)))
  have f154 := f143.other W150 (Or.inr (slot_ne (Or.inl (wi hw 39 rfl)) (Or.inl (wi hw 27 rfl)) (by decide) (t := (.array .int)) (t' := (.array .long)) (by decide) (by decide)))
  have f155 := f144.other W150 (Or.inr (slot_ne (Or.inl (wi hw 41 rfl)) (Or.inl (wi hw 27 rfl)) (by decide) (t := (.array (.array .byte))) (t' := (.array .long)) (by decide) (by decide)))
  have f156 := f145.other W150 (Or.inr (slot_ne (Or.inl (wi hw 43 rfl)) (Or.inl (wi hw 27 rfl)) (by decide) (t := (.object "java/util/BitSet")) (t' := (.array .long)) (by decide) (by decide)))
  have f157 := f146.other W150 (Or.inr (slot_ne (Or.inl (wi hw 45 rfl)) (Or.inl (wi hw 27 rfl)) (by decide) (t := (.object "java/util/BitSet")) (t' := (.array .long)) (by decide) (by decide)))
  have f158 := f147.other W150 (Or.inr (slot_ne (Or.inl (wi hw 49 rfl)) (Or.inl (wi hw 27 rfl)) (by decide) (t := .long) (t' := (.array .long)) (by decide) (by decide)))
  have f159 := V137.other W150 (Ne.symm ne138)
  have N150 := Fr.snoc X150 N0 g_a1
  have z160 := Nat.le_trans z148 (Keep.of_wr W150).1
  have K161 := K149.wr W150 (Or.inl (List.mem_of_getElem? (i := 0) rfl))
  refine Rch.go (U' := T150.setTop (mkF m 41 #[rv a1, iv (4 : Int32), .val .null, .val .null, .val .null, .val .null, .val .null, .val .null, uv, uv, uv] [])) st150 ?_
  refine Rch.go (U' := T150.setTop (mkF m 42 #[rv a1, iv (4 : Int32), .val .null, .val .null, .val .null, .val .null, .val .null, .val .null, uv, uv, uv] [(.ref a1)])) (fun _ k => XS.aloadN X150.here hx rfl (hb hby d35_41) rfl rfl k) ?_
  refine Rch.go (U' := T150.setTop (mkF m 43 #[rv a1, iv (4 : Int32), .val .null, .val .null, .val .null, .val .null, .val .null, .val .null, uv, uv, uv] [(.int (4 : Int32)), (.ref a1)])) (fun _ k => XS.iloadN X150.here hx rfl (hb hby d35_42) rfl  k) ?_
  obtain ⟨T162, h162, k162, X162, e162, E162, A162, st162⟩ := newP X150 hx hZ (wi hw 47 rfl) e150 (g := (mkF m 43 #[rv a1, iv (4 : Int32), .val .null, .val .null, .val .null, .val .null, .val .null, .val .null, uv, uv, uv] [(.int (4 : Int32)), (.ref a1)])) rfl (hb hby d35_43) rfl (by decide) (cap := 4) (by decide) (by decide) (by decide) (by decide)
  obtain ⟨b162, g162⟩ : ∃ z, z = h150.size := ⟨_, rfl⟩
  rw [← g162] at A162 st162
  have ne163 : a1 ≠ b162 := Nat.ne_of_lt (Nat.lt_of_lt_of_le f151.lt (Nat.le_of_eq g162.symm))
  have ne164 : b137 ≠ b162 := Nat.ne_of_lt (Nat.lt_of_lt_of_le f159.lt (Nat.le_of_eq g162.symm))
  have n0b162 : n0 ≤ b162 := Nat.le_trans z160 (Nat.le_of_eq g162.symm)
  have szb162 : h0.size ≤ b162 := Nat.le_trans K161.1 (Nat.le_of_eq g162.symm)
  have f165 := f151.ext E162
  have f166 := f152.ext E162
  have f167 := F150.ext E162
  have f168 := f153.ext E162
  have f169 := f154.ext E162
  have f170 := f155.ext E162
  have f171 := f156.ext E162
  have f172 := f157.ext E162
  have f173 := f158.ext E162
  have f174 := f159.ext E162
  have z175 := Nat.le_trans z160 E162.1
  have K176 := K161.ext E162
  have V162 : Arv Z h162 b162 k162 .int (4 : Int32) [(.int (0 : Int32)), (.int (0 : Int32)), (.int (0 : Int32)), (.int (0 : Int32))] (.int (0 : Int32)) := (Arv.new A162 (by decide)).pad (pad_rep [] (.int (0 : Int32)) 4)
  refine Rch.go (U' := T162.setTop (mkF m 45 #[rv a1, iv (4 : Int32), .val .null, .val .null, .val .null, .val .null, .val .null, .val .null, uv, uv, uv] [(.ref b162), (.ref a1)])) st162 ?_
  obtain ⟨T177, h177, X177, e177, W177, st177⟩ := putF X162 hx hZ hown (host := "") (Or.inl (wi hw 36 rfl)) Via.refl e162 f168 f165 (Or.inl (wi hw 37 rfl)) (wi hw 1 rfl) (ty := (.array .int)) (by decide) rfl rfl (g := (mkF m 45 #[rv a1, iv (4 : Int32), .val .null, .val .null, .val .null, .val .null, .val .null, .val .null, uv, uv, uv] [(.ref b162), (.ref a1)])) rfl rfl (hb hby d35_45)
  have F177 := f168.same W177
  have f178 := f165.wr W177
  have f179 := f166.other W177 (Or.inr (slot_ne (Or.inl (wi hw 20 rfl)) (Or.inl (wi hw 37 rfl)) (by decide) (t := .int) (t' := (.array .int)) (by decide) (by decide)))
  have f180 := f167.other W177 (Or.inr (slot_ne (Or.inl (wi hw 27 rfl)) (Or.inl (wi hw 37 rfl)) (by decide) (t := (.array .long)) (t' := (.array .int)) (by decide) (by decide)))
  have f181 := f169.other W177 (Or.inr (slot_ne (Or.inl (wi hw 39 rfl)) (Or.inl (wi hw 37 rfl)) (by decide) (t := (.array .int)) (t' := (.array .int)) (by decide) (by decide)))
  have f182 := f170.other W177 (Or.inr (slot_ne (Or.inl (wi hw 41 rfl)) (Or.inl (wi hw 37 rfl)) (by decide) (t := (.array (.array .byte))) (t' := (.array .int)) (by decide) (by decide)))
  have f183 := f171.other W177 (Or.inr (slot_ne (Or.inl (wi hw 43 rfl)) (Or.inl (wi hw 37 rfl)) (by decide) (t := (.object "java/util/BitSet")) (t' := (.array .int)) (by decide) (by decide)))
  have f184 := f172.other W177 (Or.inr (slot_ne (Or.inl (wi hw 45 rfl)) (Or.inl (wi hw 37 rfl)) (by decide) (t := (.object "java/util/BitSet")) (t' := (.array .int)) (by decide) (by decide)))
  have f185 := f173.other W177 (Or.inr (slot_ne (Or.inl (wi hw 49 rfl)) (Or.inl (wi hw 37 rfl)) (by decide) (t := .long) (t' := (.array .int)) (by decide) (by decide)))
  have f186 := f174.other W177 (Ne.symm ne138)
  have f187 := V162.other W177 (Ne.symm ne163)
  have N177 := Fr.snoc X177 N150 g_a1
  have z188 := Nat.le_trans z175 (Keep.of_wr W177).1
  have K189 := K176.wr W177 (Or.inl (List.mem_of_getElem? (i := 0) rfl))
  refine Rch.go (U' := T177.setTop (mkF m 48 #[rv a1, iv (4 : Int32), .val .null, .val .null, .val .null, .val .null, .val .null, .val .null, uv, uv, uv] [])) st177 ?_
  refine Rch.go (U' := T177.setTop (mkF m 49 #[rv a1, iv (4 : Int32), .val .null, .val .null, .val .null, .val .null, .val .null, .val .null, uv, uv, uv] [(.ref a1)])) (fun _ k => XS.aloadN X177.here hx rfl (hb hby d35_48) rfl rfl k) ?_
  refine Rch.go (U' := T177.setTop (mkF m 50 #[rv a1, iv (4 : Int32), .val .null, .val .null, .val .null, .val .null, .val .null, .val .null, uv, uv, uv] [(.int (4 : Int32)), (.ref a1)])) (fun _ k => XS.iloadN X177.here hx rfl (hb hby d35_49) rfl  k) ?_
  obtain ⟨T190, h190, k190, X190, e190, E190, A190, st190⟩ := newP X177 hx hZ (wi hw 47 rfl) e177 (g := (mkF m 50 #[rv a1, iv (4 : Int32), .val .null, .val .null, .val .null, .val .null, .val .null, .val .null, uv, uv, uv] [(.int (4 : Int32)), (.ref a1)])) rfl (hb hby d35_50) rfl (by decide) (cap := 4) (by decide) (by decide) (by decide) (by decide)
  obtain ⟨b190, g190⟩ : ∃ z, z = h177.size := ⟨_, rfl⟩
  rw [← g190] at A190 st190
  have ne191 : a1 ≠ b190 := Nat.ne_of_lt (Nat.lt_of_lt_of_le f178.lt (Nat.le_of_eq g190.symm))
  have ne192 : b137 ≠ b190 := Nat.ne_of_lt (Nat.lt_of_lt_of_le f186.lt (Nat.le_of_eq g190.symm))
  have ne193 : b162 ≠ b190 := Nat.ne_of_lt (Nat.lt_of_lt_of_le f187.lt (Nat.le_of_eq g190.symm))
  have n0b190 : n0 ≤ b190 := Nat.le_trans z188 (Nat.le_of_eq g190.symm)
  have szb190 : h0.size ≤ b190 := Nat.le_trans K189.1 (Nat.le_of_eq g190.symm)
  have f194 := f178.ext E190
  have f195 := f179.ext E190
  have f196 := f180.ext E190
  have f197 := F177.ext E190
  have f198 := f181.ext E190
  have f199 := f182.ext E190
  have f200 := f183.ext E190
  have f201 := f184.ext E190
  have f202 := f185.ext E190
  have f203 := f186.ext E190
  have f204 := f187.ext E190
  have z205 := Nat.le_trans z188 E190.1
  have K206 := K189.ext E190
  have V190 : Arv Z h190 b190 k190 .int (4 : Int32) [(.int (0 : Int32)), (.int (0 : Int32)), (.int (0 : Int32)), (.int (0 : Int32))] (.int (0 : Int32)) := (Arv.new A190 (by decide)).pad (pad_rep [] (.int (0 : Int32)) 4)
  refine Rch.go (U' := T190.setTop (mkF m 52 #[rv a1, iv (4 : Int32), .val .null, .val .null, .val .null, .val .null, .val .null, .val .null, uv, uv, uv] [(.ref b190), (.ref a1)])) st190 ?_
  obtain ⟨T207, h207, X207, e207, W207, st207⟩ := putF X190 hx hZ hown (host := "") (Or.inl (wi hw 38 rfl)) Via.refl e190 f198 f194 (Or.inl (wi hw 39 rfl)) (wi hw 1 rfl) (ty := (.array .int)) (by decide) rfl rfl (g := (mkF m 52 #[rv a1, iv (4 : Int32), .val .null, .val .null, .val .null, .val .null, .val .null, .val .null, uv, uv, uv] [(.ref b190), (.ref a1)])) rfl rfl (hb hby d35_52)
  have F207 := f198.same W207
  have f208 := f194.wr W207
  have f209 := f195.other W207 (Or.inr (slot_ne (Or.inl (wi hw 20 rfl)) (Or.inl (wi hw 39 rfl)) (by decide) (t := .int) (t' := (.array .int)) (by decide) (by decide)))
  have f210 := f196.other W207 (Or.inr (slot_ne (Or.inl (wi hw 27 rfl)) (Or.inl (wi hw 39 rfl)) (by decide) (t := (.array .long)) (t' := (.array .int)) (by decide) (by decide)))
  have f211 := f197.other W207 (Or.inr (slot_ne (Or.inl (wi hw 37 rfl)) (Or.inl (wi hw 39 rfl)) (by decide) (t := (.array .int)) (t' := (.array .int)) (by decide) (by decide)))
  have f212 := f199.other W207 (Or.inr (slot_ne (Or.inl (wi hw 41 rfl)) (Or.inl (wi hw 39 rfl)) (by decide) (t := (.array (.array .byte))) (t' := (.array .int)) (by decide) (by decide)))
  have f213 := f200.other W207 (Or.inr (slot_ne (Or.inl (wi hw 43 rfl)) (Or.inl (wi hw 39 rfl)) (by decide) (t := (.object "java/util/BitSet")) (t' := (.array .int)) (by decide) (by decide)))
  have f214 := f201.other W207 (Or.inr (slot_ne (Or.inl (wi hw 45 rfl)) (Or.inl (wi hw 39 rfl)) (by decide) (t := (.object "java/util/BitSet")) (t' := (.array .int)) (by decide) (by decide)))
  have f215 := f202.other W207 (Or.inr (slot_ne (Or.inl (wi hw 49 rfl)) (Or.inl (wi hw 39 rfl)) (by decide) (t := .long) (t' := (.array .int)) (by decide) (by decide)))
  have f216 := f203.other W207 (Ne.symm ne138)
  have f217 := f204.other W207 (Ne.symm ne163)
  have f218 := V190.other W207 (Ne.symm ne191)
  have N207 := Fr.snoc X207 N177 g_a1
  have z219 := Nat.le_trans z205 (Keep.of_wr W207).1
  have K220 := K206.wr W207 (Or.inl (List.mem_of_getElem? (i := 0) rfl))
  refine Rch.go (U' := T207.setTop (mkF m 55 #[rv a1, iv (4 : Int32), .val .null, .val .null, .val .null, .val .null, .val .null, .val .null, uv, uv, uv] [])) st207 ?_
  refine Rch.go (U' := T207.setTop (mkF m 56 #[rv a1, iv (4 : Int32), .val .null, .val .null, .val .null, .val .null, .val .null, .val .null, uv, uv, uv] [(.ref a1)])) (fun _ k => XS.aloadN X207.here hx rfl (hb hby d35_55) rfl rfl k) ?_
  refine Rch.go (U' := T207.setTop (mkF m 58 #[rv a1, iv (4 : Int32), .val .null, .val .null, .val .null, .val .null, .val .null, .val .null, uv, uv, uv] [.null, (.ref a1)])) (fun _ k => XS.aload X207.here hx rfl (hb hby d35_56) rfl rfl k) ?_
  refine Rch.go (U' := T207.setTop (mkF m 61 #[rv a1, iv (4 : Int32), .val .null, .val .null, .val .null, .val .null, .val .null, .val .null, uv, uv, uv] [(.ref a1)])) (fun _ k => XS.ifnonnullNo X207.here hx rfl (hb hby d35_58) rfl k) ?_
  refine Rch.go (U' := T207.setTop (mkF m 62 #[rv a1, iv (4 : Int32), .val .null, .val .null, .val .null, .val .null, .val .null, .val .null, uv, uv, uv] [.null, (.ref a1)])) (fun _ k => XS.aconstNull X207.here hx rfl (hb hby d35_61) k) ?_
  refine Rch.go (U' := T207.setTop (mkF m 69 #[rv a1, iv (4 : Int32), .val .null, .val .null, .val .null, .val .null, .val .null, .val .null, uv, uv, uv] [.null, (.ref a1)])) (fun _ k => XS.goto X207.here hx rfl (pc0 := 62) (pc' := 69) rfl (hb hby d35_62) (by decide) (by decide) k) ?_
  obtain ⟨T221, h221, X221, e221, W221, st221⟩ := putF X207 hx hZ hown (host := "") (Or.inl (wi hw 40 rfl)) Via.refl e207 f212 f208 (Or.inl (wi hw 41 rfl)) (wi hw 1 rfl) (ty := (.array (.array .byte))) (by decide) rfl rfl (g := (mkF m 69 #[rv a1, iv (4 : Int32), .val .null, .val .null, .val .null, .val .null, .val .null, .val .null, uv, uv, uv] [.null, (.ref a1)])) rfl rfl (hb hby d35_69)
  have F221 := f212.same W221
  have f222 := f208.wr W221
  have f223 := f209.other W221 (Or.inr (slot_ne (Or.inl (wi hw 20 rfl)) (Or.inl (wi hw 41 rfl)) (by decide) (t := .int) (t' := (.array (.array .byte))) (by decide) (by decide)))
  have f224 := f210.other W221 (Or.inr (slot_ne (Or.inl (wi hw 27 rfl)) (Or.inl (wi hw 41 rfl)) (by decide) (t := (.array .long)) (t' := (.array (.array .byte))) (by decide) (by decide)))
  have f225 := f211.other W221 (Or.inr (slot_ne (Or.inl (wi hw 37 rfl)) (Or.inl (wi hw 41 rfl)) (by decide) (t := (.array .int)) (t' := (.array (.array .byte))) (by decide) (by decide)))
  have f226 := F207.other W221 (Or.inr (slot_ne (Or.inl (wi hw 39 rfl)) (Or.inl (wi hw 41 rfl)) (by decide) (t := (.array .int)) (t' := (.array (.array .byte))) (by decide) (by decide)))
  have f227 := f213.other W221 (Or.inr (slot_ne (Or.inl (wi hw 43 rfl)) (Or.inl (wi hw 41 rfl)) (by decide) (t := (.object "java/util/BitSet")) (t' := (.array (.array .byte))) (by decide) (by decide)))
  have f228 := f214.other W221 (Or.inr (slot_ne (Or.inl (wi hw 45 rfl)) (Or.inl (wi hw 41 rfl)) (by decide) (t := (.object "java/util/BitSet")) (t' := (.array (.array .byte))) (by decide) (by decide)))
  have f229 := f215.other W221 (Or.inr (slot_ne (Or.inl (wi hw 49 rfl)) (Or.inl (wi hw 41 rfl)) (by decide) (t := .long) (t' := (.array (.array .byte))) (by decide) (by decide)))
  have f230 := f216.other W221 (Ne.symm ne138)
  have f231 := f217.other W221 (Ne.symm ne163)
  have f232 := f218.other W221 (Ne.symm ne191)
  have N221 := Fr.snoc X221 N207 g_a1
  have z233 := Nat.le_trans z219 (Keep.of_wr W221).1
  have K234 := K220.wr W221 (Or.inl (List.mem_of_getElem? (i := 0) rfl))
  refine Rch.go (U' := T221.setTop (mkF m 72 #[rv a1, iv (4 : Int32), .val .null, .val .null, .val .null, .val .null, .val .null, .val .null, uv, uv, uv] [])) st221 ?_
  refine Rch.go (U' := T221.setTop (mkF m 73 #[rv a1, iv (4 : Int32), .val .null, .val .null, .val .null, .val .null, .val .null, .val .null, uv, uv, uv] [(.ref a1)])) (fun _ k => XS.aloadN X221.here hx rfl (hb hby d35_72) rfl rfl k) ?_
  refine Rch.go (U' := T221.setTop (mkF m 75 #[rv a1, iv (4 : Int32), .val .null, .val .null, .val .null, .val .null, .val .null, .val .null, uv, uv, uv] [.null, (.ref a1)])) (fun _ k => XS.aload X221.here hx rfl (hb hby d35_73) rfl rfl k) ?_
  refine Rch.go (U' := T221.setTop (mkF m 78 #[rv a1, iv (4 : Int32), .val .null, .val .null, .val .null, .val .null, .val .null, .val .null, uv, uv, uv] [(.ref a1)])) (fun _ k => XS.ifnonnullNo X221.here hx rfl (hb hby d35_75) rfl k) ?_
  refine Rch.go (U' := T221.setTop (mkF m 79 #[rv a1, iv (4 : Int32), .val .null, .val .null, .val .null, .val .null, .val .null, .val .null, uv, uv, uv] [.null, (.ref a1)])) (fun _ k => XS.aconstNull X221.here hx rfl (hb hby d35_78) k) ?_
  refine Rch.go (U' := T221.setTop (mkF m 90 #[rv a1, iv (4 : Int32), .val .null, .val .null, .val .null, .val .null, .val .null, .val .null, uv, uv, uv] [.null, (.ref a1)])) (fun _ k => XS.goto X221.here hx rfl (pc0 := 79) (pc' := 90) rfl (hb hby d35_79) (by decide) (by decide) k) ?_
  obtain ⟨T235, h235, X235, e235, W235, st235⟩ := putF X221 hx hZ hown (host := "") (Or.inl (wi hw 42 rfl)) Via.refl e221 f227 f222 (Or.inl (wi hw 43 rfl)) (wi hw 1 rfl) (ty := (.object "java/util/BitSet")) (by decide) rfl rfl (g := (mkF m 90 #[rv a1, iv (4 : Int32), .val .null, .val .null, .val .null, .val .null, .val .null, .val .null, uv, uv, uv] [.null, (.ref a1)])) rfl rfl (hb hby d35_90)
  have F235 := f227.same W235
  have f236 := f222.wr W235
  have f237 := f223.other W235 (Or.inr (slot_ne (Or.inl (wi hw 20 rfl)) (Or.inl (wi hw 43 rfl)) (by decide) (t := .int) (t' := (.object "java/util/BitSet")) (by decide) (by decide)))
  have f238 := f224.other W235 (Or.inr (slot_ne (Or.inl (wi hw 27 rfl)) (Or.inl (wi hw 43 rfl)) (by decide) (t := (.array .long)) (t' := (.object "java/util/BitSet")) (by decide) (by decide)))
  have f239 := f225.other W235 (Or.inr (slot_ne (Or.inl (wi hw 37 rfl)) (Or.inl (wi hw 43 rfl)) (by decide) (t := (.array .int)) (t' := (.object "java/util/BitSet")) (by decide) (by decide)))
  have f240 := f226.other W235 (Or.inr (slot_ne (Or.inl (wi hw 39 rfl)) (Or.inl (wi hw 43 rfl)) (by decide) (t := (.array .int)) (t' := (.object "java/util/BitSet")) (by decide) (by decide)))
  have f241 := F221.other W235 (Or.inr (slot_ne (Or.inl (wi hw 41 rfl)) (Or.inl (wi hw 43 rfl)) (by decide) (t := (.array (.array .byte))) (t' := (.object "java/util/BitSet")) (by decide) (by decide)))
  have f242 := f228.other W235 (Or.inr (slot_ne (Or.inl (wi hw 45 rfl)) (Or.inl (wi hw 43 rfl)) (by decide) (t := (.object "java/util/BitSet")) (t' := (.object "java/util/BitSet")) (by decide) (by decide)))
  have f243 := f229.other W235 (Or.inr (slot_ne (Or.inl (wi hw 49 rfl)) (Or.inl (wi hw 43 rfl)) (by decide) (t := .long) (t' := (.object "java/util/BitSet")) (by decide) (by decide)))
  have f244 := f230.other W235 (Ne.symm ne138)
  have f245 := f231.other W235 (Ne.symm ne163)
  have f246 := f232.other W235 (Ne.symm ne191)
  have N235 := Fr.snoc X235 N221 g_a1
  have z247 := Nat.le_trans z233 (Keep.of_wr W235).1
  have K248 := K234.wr W235 (Or.inl (List.mem_of_getElem? (i := 0) rfl))
  refine Rch.go (U' := T235.setTop (mkF m 93 #[rv a1, iv (4 : Int32), .val .null, .val .null, .val .null, .val .null, .val .null, .val .null, uv, uv, uv] [])) st235 ?_
  refine Rch.go (U' := T235.setTop (mkF m 94 #[rv a1, iv (4 : Int32), .val .null, .val .null, .val .null, .val .null, .val .null, .val .null, uv, uv, uv] [(.ref a1)])) (fun _ k => XS.aloadN X235.here hx rfl (hb hby d35_93) rfl rfl k) ?_
  refine Rch.go (U' := T235.setTop (mkF m 96 #[rv a1, iv (4 : Int32), .val .null, .val .null, .val .null, .val .null, .val .null, .val .null, uv, uv, uv] [.null, (.ref a1)])) (fun _ k => XS.aload X235.here hx rfl (hb hby d35_94) rfl rfl k) ?_
  refine Rch.go (U' := T235.setTop (mkF m 99 #[rv a1, iv (4 : Int32), .val .null, .val .null, .val .null, .val .null, .val .null, .val .null, uv, uv, uv] [(.ref a1)])) (fun _ k => XS.ifnonnullNo X235.here hx rfl (hb hby d35_96) rfl k) ?_
  refine Rch.go (U' := T235.setTop (mkF m 100 #[rv a1, iv (4 : Int32), .val .null, .val .null, .val .null, .val .null, .val .null, .val .null, uv, uv, uv] [.null, (.ref a1)])) (fun _ k => XS.aconstNull X235.here hx rfl (hb hby d35_99) k) ?_
  refine Rch.go (U' := T235.setTop (mkF m 111 #[rv a1, iv (4 : Int32), .val .null, .val .null, .val .null, .val .null, .val .null, .val .null, uv, uv, uv] [.null, (.ref a1)])) (fun _ k => XS.goto X235.here hx rfl (pc0 := 100) (pc' := 111) rfl (hb hby d35_100) (by decide) (by decide) k) ?_
  obtain ⟨T249, h249, X249, e249, W249, st249⟩ := putF X235 hx hZ hown (host := "") (Or.inl (wi hw 44 rfl)) Via.refl e235 f242 f236 (Or.inl (wi hw 45 rfl)) (wi hw 1 rfl) (ty := (.object "java/util/BitSet")) (by decide) rfl rfl (g := (mkF m 111 #[rv a1, iv (4 : Int32), .val .null, .val .null, .val .null, .val .null, .val .null, .val .null, uv, uv, uv] [.null, (.ref a1)])) rfl rfl (hb hby d35_111)
  have F249 := f242.same W249
  have f250 := f236.wr W249
  have f251 := f237.other W249 (Or.inr (slot_ne (Or.inl (wi hw 20 rfl)) (Or.inl (wi hw 45 rfl)) (by decide) (t := .int) (t' := (.object "java/util/BitSet")) (by decide) (by decide)))
  have f252 := f238.other W249 (Or.inr (slot_ne (Or.inl (wi hw 27 rfl)) (Or.inl (wi hw 45 rfl)) (by decide) (t := (.array .long)) (t' := (.object "java/util/BitSet")) (by decide) (by decide)))
  have f253 := f239.other W249 (Or.inr (slot_ne (Or.inl (wi hw 37 rfl)) (Or.inl (wi hw 45 rfl)) (by decide) (t := (.array .int)) (t' := (.object "java/util/BitSet")) (by decide) (by decide)))
  have f254 := f240.other W249 (Or.inr (slot_ne (Or.inl (wi hw 39 rfl)) (Or.inl (wi hw 45 rfl)) (by decide) (t := (.array .int)) (t' := (.object "java/util/BitSet")) (by decide) (by decide)))
  have f255 := f241.other W249 (Or.inr (slot_ne (Or.inl (wi hw 41 rfl)) (Or.inl (wi hw 45 rfl)) (by decide) (t := (.array (.array .byte))) (t' := (.object "java/util/BitSet")) (by decide) (by decide)))
  have f256 := F235.other W249 (Or.inr (slot_ne (Or.inl (wi hw 43 rfl)) (Or.inl (wi hw 45 rfl)) (by decide) (t := (.object "java/util/BitSet")) (t' := (.object "java/util/BitSet")) (by decide) (by decide)))
  have f257 := f243.other W249 (Or.inr (slot_ne (Or.inl (wi hw 49 rfl)) (Or.inl (wi hw 45 rfl)) (by decide) (t := .long) (t' := (.object "java/util/BitSet")) (by decide) (by decide)))
  have f258 := f244.other W249 (Ne.symm ne138)
  have f259 := f245.other W249 (Ne.symm ne163)
  have f260 := f246.other W249 (Ne.symm ne191)
  have N249 := Fr.snoc X249 N235 g_a1
  have z261 := Nat.le_trans z247 (Keep.of_wr W249).1
  have K262 := K248.wr W249 (Or.inl (List.mem_of_getElem? (i := 0) rfl))
  refine Rch.go (U' := T249.setTop (mkF m 114 #[rv a1, iv (4 : Int32), .val .null, .val .null, .val .null, .val .null, .val .null, .val .null, uv, uv, uv] [])) st249 ?_
  refine Rch.go (U' := T249.setTop (mkF m 115 #[rv a1, iv (4 : Int32), .val .null, .val .null, .val .null, .val .null, .val .null, .val .null, uv, uv, uv] [(.ref a1)])) (fun _ k => XS.aloadN X249.here hx rfl (hb hby d35_114) rfl rfl k) ?_
  refine Rch.go (U' := T249.setTop (mkF m 116 #[rv a1, iv (4 : Int32), .val .null, .val .null, .val .null, .val .null, .val .null, .val .null, uv, uv, uv] [(.ref a1), (.ref a1)])) (fun _ k => XS.dup X249.here hx rfl (hb hby d35_115) rfl rfl k) ?_
  obtain ⟨T263, X263, e263, st263⟩ := getF X249 hx hZ hown (host := "") (Or.inl (wi hw 48 rfl)) Via.refl e249 f257 (g := (mkF m 116 #[rv a1, iv (4 : Int32), .val .null, .val .null, .val .null, .val .null, .val .null, .val .null, uv, uv, uv] [(.ref a1), (.ref a1)])) rfl rfl (hb hby d35_116)
  refine Rch.go (U' := T263.setTop (mkF m 119 #[rv a1, iv (4 : Int32), .val .null, .val .null, .val .null, .val .null, .val .null, .val .null, uv, uv, uv] [(.long mv), (.ref a1)])) st263 ?_
  refine Rch.go (U' := T263.setTop (mkF m 120 #[rv a1, iv (4 : Int32), .val .null, .val .null, .val .null, .val .null, .val .null, .val .null, uv, uv, uv] [(.long (1 : Int64)), (.long mv), (.ref a1)])) (fun _ k => XS.lconst X263.here hx rfl (hb hby d35_119) k) ?_
  refine Rch.go (U' := T263.setTop (mkF m 121 #[rv a1, iv (4 : Int32), .val .null, .val .null, .val .null, .val .null, .val .null, .val .null, uv, uv, uv] [(.long (mv + (1 : Int64))), (.ref a1)])) (fun _ k => XS.ladd X263.here hx rfl (hb hby d35_120) rfl k) ?_
  obtain ⟨T264, h264, X264, e264, W264, st264⟩ := putF X263 hx hZ hown (host := "") (Or.inl (wi hw 48 rfl)) Via.refl e263 f257 f250 (Or.inl (wi hw 49 rfl)) (wi hw 1 rfl) (ty := .long) (by decide) rfl rfl (g := (mkF m 121 #[rv a1, iv (4 : Int32), .val .null, .val .null, .val .null, .val .null, .val .null, .val .null, uv, uv, uv] [(.long (mv + (1 : Int64))), (.ref a1)])) rfl rfl (hb hby d35_121)
  have F264 := f257.same W264
  have f265 := f250.wr W264
  have f266 := f251.other W264 (Or.inr (slot_ne (Or.inl (wi hw 20 rfl)) (Or.inl (wi hw 49 rfl)) (by decide) (t := .int) (t' := .long) (by decide) (by decide)))
  have f267 := f252.other W264 (Or.inr (slot_ne (Or.inl (wi hw 27 rfl)) (Or.inl (wi hw 49 rfl)) (by decide) (t := (.array .long)) (t' := .long) (by decide) (by decide)))
  have f268 := f253.other W264 (Or.inr (slot_ne (Or.inl (wi hw 37 rfl)) (Or.inl (wi hw 49 rfl)) (by decide) (t := (.array .int)) (t' := .long) (by decide) (by decide)))
  have f269 := f254.other W264 (Or.inr (slot_ne (Or.inl (wi hw 39 rfl)) (Or.inl (wi hw 49 rfl)) (by decide) (t := (.array .int)) (t' := .long) (by decide) (by decide)))
  have f270 := f255.other W264 (Or.inr (slot_ne (Or.inl (wi hw 41 rfl)) (Or.inl (wi hw 49 rfl)) (by decide) (t := (.array (.array .byte))) (t' := .long) (by decide) (by decide)))
  have f271 := f256.other W264 (Or.inr (slot_ne (Or.inl (wi hw 43 rfl)) (Or.inl (wi hw 49 rfl)) (by decide) (t := (.object "java/util/BitSet")) (t' := .long) (by decide) (by decide)))
  have f272 := F249.other W264 (Or.inr (slot_ne (Or.inl (wi hw 45 rfl)) (Or.inl (wi hw 49 rfl)) (by decide) (t := (.object "java/util/BitSet")) (t' := .long) (by decide) (by decide)))
  have f273 := f258.other W264 (Ne.symm ne138)
  have f274 := f259.other W264 (Ne.symm ne163)
  have f275 := f260.other W264 (Ne.symm ne191)
  have N264 := Fr.snoc X264 N249 g_a1
  have z276 := Nat.le_trans z261 (Keep.of_wr W264).1
  have K277 := K262.wr W264 (Or.inl (List.mem_of_getElem? (i := 0) rfl))
  refine Rch.go (U' := T264.setTop (mkF m 124 #[rv a1, iv (4 : Int32), .val .null, .val .null, .val .null, .val .null, .val .null, .val .null, uv, uv, uv] [])) st264 ?_
  refine Rch.go (U' := T264.setTop (mkF m 125 #[rv a1, iv (4 : Int32), .val .null, .val .null, .val .null, .val .null, .val .null, .val .null, uv, uv, uv] [.null])) (fun _ k => XS.aloadN X264.here hx rfl (hb hby d35_124) rfl rfl k) ?_
  refine Rch.go (U' := T264.setTop (mkF m 128 #[rv a1, iv (4 : Int32), .val .null, .val .null, .val .null, .val .null, .val .null, .val .null, uv, uv, uv] [])) (fun _ k => XS.ifnonnullNo X264.here hx rfl (hb hby d35_125) rfl k) ?_
  refine Rch.fin X264 hlk (v := none) (fun _ => rfl) e264 (by decide) (by decide) (fun fs hr => X264.returnOut hx hret (hb hby d35_128) hr) ?_
  exact ⟨b137, b162, b190, k137, k162, k190, rfl, N264, z276, ⟨f265, f266, f267, f268, f269, f270, f272, f273, f274, f275, ⟨rfl, rfl, rfl⟩, ⟨g_a1, n0b137, n0b162, n0b190⟩, ⟨ne138, ne163, ne191⟩, ne164, ne192, ne193⟩⟩
theorem d18_0 : decode prog_36_method_17_code 0 = .ok (.iconst 4, 1) := by decide +kernel
theorem d18_1 : decode prog_36_method_17_code 1 = .ok (.aload_n 0, 1) := by decide +kernel
theorem d18_2 : decode prog_36_method_17_code 2 = .ok (.getfield 20, 3) := by decide +kernel
theorem d18_5 : decode prog_36_method_17_code 5 = .ok (.iconst 1, 1) := by decide +kernel
theorem d18_6 : decode prog_36_method_17_code 6 = .ok (.iadd, 1) := by decide +kernel
theorem d18_7 : decode prog_36_method_17_code 7 = .ok (.imul, 1) := by decide +kernel
theorem d18_8 : decode prog_36_method_17_code 8 = .ok (.iconst 3, 1) := by decide +kernel
theorem d18_9 : decode prog_36_method_17_code 9 = .ok (.aload_n 0, 1) := by decide +kernel
theorem d18_10 : decode prog_36_method_17_code 10 = .ok (.invokevirtual 74, 3) := by decide +kernel
theorem d18_13 : decode prog_36_method_17_code 13 = .ok (.imul, 1) := by decide +kernel
theorem d18_14 : decode prog_36_method_17_code 14 = .ok (.if_icmp .le 17, 3) := by decide +kernel
theorem d18_17 : decode prog_36_method_17_code 17 = .ok (.aload_n 0, 1) := by decide +kernel
theorem d18_18 : decode prog_36_method_17_code 18 = .ok (.iconst 4, 1) := by decide +kernel
theorem d18_19 : decode prog_36_method_17_code 19 = .ok (.iconst 2, 1) := by decide +kernel
theorem d18_20 : decode prog_36_method_17_code 20 = .ok (.aload_n 0, 1) := by decide +kernel
theorem d18_21 : decode prog_36_method_17_code 21 = .ok (.invokevirtual 74, 3) := by decide +kernel
theorem d18_24 : decode prog_36_method_17_code 24 = .ok (.imul, 1) := by decide +kernel
theorem d18_25 : decode prog_36_method_17_code 25 = .ok (.invokestatic 78, 3) := by decide +kernel
theorem d18_28 : decode prog_36_method_17_code 28 = .ok (.invokevirtual 82, 3) := by decide +kernel
theorem d18_31 : decode prog_36_method_17_code 31 = .ok (.aload_n 0, 1) := by decide +kernel
theorem d18_32 : decode prog_36_method_17_code 32 = .ok (.getfield 27, 3) := by decide +kernel
theorem d18_35 : decode prog_36_method_17_code 35 = .ok (.arraylength, 1) := by decide +kernel
theorem d18_36 : decode prog_36_method_17_code 36 = .ok (.iconst 1, 1) := by decide +kernel
theorem d18_37 : decode prog_36_method_17_code 37 = .ok (.isub, 1) := by decide +kernel
theorem d18_38 : decode prog_36_method_17_code 38 = .ok (.istore 7, 2) := by decide +kernel
theorem d18_40 : decode prog_36_method_17_code 40 = .ok (.iload_n 1, 1) := by decide +kernel
theorem d18_41 : decode prog_36_method_17_code 41 = .ok (.iload 7, 2) := by decide +kernel
theorem d18_43 : decode prog_36_method_17_code 43 = .ok (.iand, 1) := by decide +kernel
theorem d18_44 : decode prog_36_method_17_code 44 = .ok (.istore 8, 2) := by decide +kernel
theorem d18_46 : decode prog_36_method_17_code 46 = .ok (.aload_n 0, 1) := by decide +kernel
theorem d18_47 : decode prog_36_method_17_code 47 = .ok (.getfield 27, 3) := by decide +kernel
theorem d18_50 : decode prog_36_method_17_code 50 = .ok (.iload 8, 2) := by decide +kernel
theorem d18_52 : decode prog_36_method_17_code 52 = .ok (.laload, 1) := by decide +kernel
theorem d18_53 : decode prog_36_method_17_code 53 = .ok (.lconst 0, 1) := by decide +kernel
theorem d18_54 : decode prog_36_method_17_code 54 = .ok (.lcmp, 1) := by decide +kernel
theorem d18_55 : decode prog_36_method_17_code 55 = .ok (.ifCond .eq 15, 3) := by decide +kernel
theorem d18_58 : decode prog_36_method_17_code 58 = .ok (.iload 8, 2) := by decide +kernel
theorem d18_60 : decode prog_36_method_17_code 60 = .ok (.iconst 1, 1) := by decide +kernel
theorem d18_61 : decode prog_36_method_17_code 61 = .ok (.iadd, 1) := by decide +kernel
theorem d18_62 : decode prog_36_method_17_code 62 = .ok (.iload 7, 2) := by decide +kernel
theorem d18_64 : decode prog_36_method_17_code 64 = .ok (.iand, 1) := by decide +kernel
theorem d18_65 : decode prog_36_method_17_code 65 = .ok (.istore 8, 2) := by decide +kernel
theorem d18_67 : decode prog_36_method_17_code 67 = .ok (.goto (-21), 3) := by decide +kernel
theorem d18_70 : decode prog_36_method_17_code 70 = .ok (.aload_n 0, 1) := by decide +kernel
theorem d18_71 : decode prog_36_method_17_code 71 = .ok (.getfield 31, 3) := by decide +kernel
theorem d18_74 : decode prog_36_method_17_code 74 = .ok (.iload 8, 2) := by decide +kernel
theorem d18_76 : decode prog_36_method_17_code 76 = .ok (.iload_n 1, 1) := by decide +kernel
theorem d18_77 : decode prog_36_method_17_code 77 = .ok (.iastore, 1) := by decide +kernel
theorem d18_78 : decode prog_36_method_17_code 78 = .ok (.aload_n 0, 1) := by decide +kernel
theorem d18_79 : decode prog_36_method_17_code 79 = .ok (.dup, 1) := by decide +kernel
theorem d18_80 : decode prog_36_method_17_code 80 = .ok (.getfield 20, 3) := by decide +kernel
theorem d18_83 : decode prog_36_method_17_code 83 = .ok (.iconst 1, 1) := by decide +kernel
theorem d18_84 : decode prog_36_method_17_code 84 = .ok (.iadd, 1) := by decide +kernel
theorem d18_85 : decode prog_36_method_17_code 85 = .ok (.putfield 20, 3) := by decide +kernel
theorem d18_88 : decode prog_36_method_17_code 88 = .ok (.aload_n 0, 1) := by decide +kernel
theorem d18_89 : decode prog_36_method_17_code 89 = .ok (.iload 8, 2) := by decide +kernel
theorem d18_91 : decode prog_36_method_17_code 91 = .ok (.lload_n 2, 1) := by decide +kernel
theorem d18_92 : decode prog_36_method_17_code 92 = .ok (.iload 4, 2) := by decide +kernel
theorem d18_94 : decode prog_36_method_17_code 94 = .ok (.aload 5, 2) := by decide +kernel
theorem d18_96 : decode prog_36_method_17_code 96 = .ok (.iload 6, 2) := by decide +kernel
theorem d18_98 : decode prog_36_method_17_code 98 = .ok (.invokevirtual 86, 3) := by decide +kernel
theorem d18_101 : decode prog_36_method_17_code 101 = .ok (.iload 8, 2) := by decide +kernel
theorem d18_103 : decode prog_36_method_17_code 103 = .ok (.ireturn, 1) := by decide +kernel
theorem pd_7 : parseMethodDescriptor "()I" = some ⟨[], some .int⟩ := by decide +kernel
theorem pd_8 : parseMethodDescriptor "(II)I" = some ⟨[.int, .int], some .int⟩ := by decide +kernel
theorem pd_9 : parseMethodDescriptor "(I)V" = some ⟨[.int], none⟩ := by decide +kernel
theorem pd_10 : parseMethodDescriptor "(IJI[BZ)V" = some ⟨[.int, .long, .int, (.array .byte), .boolean], none⟩ := by decide +kernel
set_option maxRecDepth 65536 in
set_option maxHeartbeats 40000000 in
theorem tailN0 {p : Program} {l : Launch} {e : Env} {s : State} {m : MethodId} {args : Array Value} {below : List Frame} {meth : Method} {c : Code} {T0 : State} {locs : List Loc} {Z : State} {a0 : Array Value} {h0 : Heap} {n0 : Nat}  (a1 : Addr) (bh : Addr) (ba : Addr) (bl : Addr) (kh : ClassId) (ka : ClassId) (kl : ClassId) (cn : Int32) (gs : List Int64) (va : List Value) (vl : List Value) (p1 : Int32) (x2 : Int64) (p4 : Int32)
    (X0 : Stand p l e ({ frames := 2, cells := 3, slots := 12, locals := 64 } : Room) s m args below meth c T0 locs 0 0) (hx : p.tables.exec = Jvm.exec) (hZ : Z.Warmed39 s.vm) (hw : ∀ d ∈ tables_1, d.before a0 Z = true) (hby : c.code = prog_36_method_17_code) (hml : c.maxLocals = 9) (hown : s.vm.findClass cST = some m.cls) (hret : meth.sig.returnType = some .int) (hlk : meth.locks = false) (e0 : T0.heap = h0) (N0 : Fr n0 locs) (Z0 : n0 ≤ h0.size) (B : Tb Z h0 n0 a1 bh ba bl kh ka kl cn gs va vl) (hz : gs.getD 0 0 = 0 ∨ gs.getD 1 0 = 0 ∨ gs.getD 2 0 = 0 ∨ gs.getD 3 0 = 0) (hsj : own_s p1 = 0) :
    Rch p e below (Fin s below (fun v h L => ∃ (va' vl' : List Value), v = some (.int (Int32.ofNat (own_free gs 4 (own_s p1)))) ∧ Fr n0 L ∧ n0 ≤ h.size ∧ Tb Z h n0 a1 bh ba bl kh ka kl (cn + (1 : Int32)) (own_add gs (own_s p1) x2) va' vl') 3 12) (T0.setTop (mkF m 46 #[rv a1, iv p1, jv x2, sv, iv p4, .val .null, iv (0 : Int32), iv (3 : Int32), iv (0 : Int32)] [])) := by
  obtain ⟨E_a1, F_a1_count, F_a1_handles, F_a1_hashes, F_a1_lengths, F_a1_outside, F_a1_expiries, V_bh, V_ba, V_bl, ⟨lg, la, ll⟩, ⟨g_a1, g_bh, g_ba, g_bl⟩, ⟨n_h, n_a, n_l⟩, n_ha, n_hl, n_al⟩ := B
  refine Rch.go (U' := T0.setTop (mkF m 47 #[rv a1, iv p1, jv x2, sv, iv p4, .val .null, iv (0 : Int32), iv (3 : Int32), iv (0 : Int32)] [(.ref a1)])) (fun _ k => XS.aloadN X0.here hx rfl (hb hby d18_46) rfl rfl k) ?_
  obtain ⟨T278, X278, e278, st278⟩ := getF X0 hx hZ hown (host := "") (Or.inl (wi hw 26 rfl)) Via.refl e0 F_a1_handles (g := (mkF m 47 #[rv a1, iv p1, jv x2, sv, iv p4, .val .null, iv (0 : Int32), iv (3 : Int32), iv (0 : Int32)] [(.ref a1)])) rfl rfl (hb hby d18_47)
  refine Rch.go (U' := T278.setTop (mkF m 50 #[rv a1, iv p1, jv x2, sv, iv p4, .val .null, iv (0 : Int32), iv (3 : Int32), iv (0 : Int32)] [(.ref bh)])) st278 ?_
  refine Rch.go (U' := T278.setTop (mkF m 52 #[rv a1, iv p1, jv x2, sv, iv p4, .val .null, iv (0 : Int32), iv (3 : Int32), iv (0 : Int32)] [(.int (0 : Int32)), (.ref bh)])) (fun _ k => XS.iload X278.here hx rfl (hb hby d18_50) rfl  k) ?_
  obtain ⟨cl279, Ar279, qk279, Sz279, Mn279, Hs279, Gf279⟩ := id V_bh
  have ib279 : ¬ ((0 : Int32) < 0 ∨ cl279.slots.size ≤ ((0 : Int32)).toNatClampNeg) := inb_of Sz279 ⟨by decide, by decide⟩
  have ea279 : cl279.slots[((0 : Int32)).toNatClampNeg]? = some (.long (gs.getD 0 0)) := Has.at Hs279 ib279 (own_getJ gs 0)
  refine Rch.go (U' := T278.setTop (mkF m 53 #[rv a1, iv p1, jv x2, sv, iv p4, .val .null, iv (0 : Int32), iv (3 : Int32), iv (0 : Int32)] [(.long (gs.getD 0 0))])) (fun _ k => X278.laload hx (j := (0 : Int32)) (v := (.long (gs.getD 0 0))) (by rw [e278]; exact Ar279.1) (State.isArrayOf_alike hZ.alike Ar279.2.1) Ar279.2.2 ib279 ea279 (g := (mkF m 52 #[rv a1, iv p1, jv x2, sv, iv p4, .val .null, iv (0 : Int32), iv (3 : Int32), iv (0 : Int32)] [(.int (0 : Int32)), (.ref bh)])) rfl rfl (hb hby d18_52) _ k) ?_
  refine Rch.go (U' := T278.setTop (mkF m 54 #[rv a1, iv p1, jv x2, sv, iv p4, .val .null, iv (0 : Int32), iv (3 : Int32), iv (0 : Int32)] [(.long (0 : Int64)), (.long (gs.getD 0 0))])) (fun _ k => XS.lconst X278.here hx rfl (hb hby d18_53) k) ?_
  refine Rch.go (U' := T278.setTop (mkF m 55 #[rv a1, iv p1, jv x2, sv, iv p4, .val .null, iv (0 : Int32), iv (3 : Int32), iv (0 : Int32)] [(.int (XT.cmpL (gs.getD 0 0) (0 : Int64)))])) (fun _ k => XT.lcmp X278.here hx rfl (hb hby d18_54) rfl k) ?_
  by_cases br280 : (gs.getD 0 0) = (0 : Int64)
  ·
    refine Rch.go (U' := T278.setTop (mkF m 70 #[rv a1, iv p1, jv x2, sv, iv p4, .val .null, iv (0 : Int32), iv (3 : Int32), iv (0 : Int32)] [])) (fun _ k => XS.ifYes X278.here hx rfl (pc0 := 55) (pc' := 70) rfl (hb hby d18_55) rfl (XT.ll_eq_t br280) (by decide) (by decide) k) ?_
    refine Rch.go (U' := T278.setTop (mkF m 71 #[rv a1, iv p1, jv x2, sv, iv p4, .val .null, iv (0 : Int32), iv (3 : Int32), iv (0 : Int32)] [(.ref a1)])) (fun _ k => XS.aloadN X278.here hx rfl (hb hby d18_70) rfl rfl k) ?_
    obtain ⟨T281, X281, e281, st281⟩ := getF X278 hx hZ hown (host := "") (Or.inl (wi hw 36 rfl)) Via.refl e278 F_a1_hashes (g := (mkF m 71 #[rv a1, iv p1, jv x2, sv, iv p4, .val .null, iv (0 : Int32), iv (3 : Int32), iv (0 : Int32)] [(.ref a1)])) rfl rfl (hb hby d18_71)
    refine Rch.go (U' := T281.setTop (mkF m 74 #[rv a1, iv p1, jv x2, sv, iv p4, .val .null, iv (0 : Int32), iv (3 : Int32), iv (0 : Int32)] [(.ref ba)])) st281 ?_
    refine Rch.go (U' := T281.setTop (mkF m 76 #[rv a1, iv p1, jv x2, sv, iv p4, .val .null, iv (0 : Int32), iv (3 : Int32), iv (0 : Int32)] [(.int (0 : Int32)), (.ref ba)])) (fun _ k => XS.iload X281.here hx rfl (hb hby d18_74) rfl  k) ?_
    refine Rch.go (U' := T281.setTop (mkF m 77 #[rv a1, iv p1, jv x2, sv, iv p4, .val .null, iv (0 : Int32), iv (3 : Int32), iv (0 : Int32)] [(.int p1), (.int (0 : Int32)), (.ref ba)])) (fun _ k => XS.iloadN X281.here hx rfl (hb hby d18_76) rfl  k) ?_
    obtain ⟨cl282, Ar282, qk282, Sz282, Mn282, Hs282, Gf282⟩ := id V_ba
    have ib282 : ¬ ((0 : Int32) < 0 ∨ cl282.slots.size ≤ ((0 : Int32)).toNatClampNeg) := inb_of Sz282 ⟨by decide, by decide⟩
    obtain ⟨T282, h282, X282, e282, W282, st282⟩ := stI X281 hx hZ e281 Ar282 (j := (0 : Int32)) ib282 (g := (mkF m 77 #[rv a1, iv p1, jv x2, sv, iv p4, .val .null, iv (0 : Int32), iv (3 : Int32), iv (0 : Int32)] [(.int p1), (.int (0 : Int32)), (.ref ba)])) rfl rfl (hb hby d18_77)
    have V282 : Arv Z h282 ba ka .int (4 : Int32) (va.set 0 (.int p1)) (.int (0 : Int32)) := Arv.set Ar282 qk282 Sz282 Mn282 Hs282 Gf282 rfl W282 0 rfl (by rw [la]; decide)
    have f283 := E_a1.wr W282
    have f284 := F_a1_count.other W282 (Or.inl n_a)
    have f285 := F_a1_handles.other W282 (Or.inl n_a)
    have f286 := F_a1_hashes.other W282 (Or.inl n_a)
    have f287 := F_a1_lengths.other W282 (Or.inl n_a)
    have f288 := F_a1_outside.other W282 (Or.inl n_a)
    have f289 := F_a1_expiries.other W282 (Or.inl n_a)
    have f290 := V_bh.other W282 n_ha
    have f291 := V_bl.other W282 (Ne.symm n_al)
    have N282 := Fr.snoc X282 N0 g_ba
    have z292 := Nat.le_trans Z0 (Keep.of_wr W282).1
    refine Rch.go (U' := T282.setTop (mkF m 78 #[rv a1, iv p1, jv x2, sv, iv p4, .val .null, iv (0 : Int32), iv (3 : Int32), iv (0 : Int32)] [])) st282 ?_
    refine Rch.go (U' := T282.setTop (mkF m 79 #[rv a1, iv p1, jv x2, sv, iv p4, .val .null, iv (0 : Int32), iv (3 : Int32), iv (0 : Int32)] [(.ref a1)])) (fun _ k => XS.aloadN X282.here hx rfl (hb hby d18_78) rfl rfl k) ?_
    refine Rch.go (U' := T282.setTop (mkF m 80 #[rv a1, iv p1, jv x2, sv, iv p4, .val .null, iv (0 : Int32), iv (3 : Int32), iv (0 : Int32)] [(.ref a1), (.ref a1)])) (fun _ k => XS.dup X282.here hx rfl (hb hby d18_79) rfl rfl k) ?_
    obtain ⟨T293, X293, e293, st293⟩ := getF X282 hx hZ hown (host := "") (Or.inl (wi hw 19 rfl)) Via.refl e282 f284 (g := (mkF m 80 #[rv a1, iv p1, jv x2, sv, iv p4, .val .null, iv (0 : Int32), iv (3 : Int32), iv (0 : Int32)] [(.ref a1), (.ref a1)])) rfl rfl (hb hby d18_80)
    refine Rch.go (U' := T293.setTop (mkF m 83 #[rv a1, iv p1, jv x2, sv, iv p4, .val .null, iv (0 : Int32), iv (3 : Int32), iv (0 : Int32)] [(.int cn), (.ref a1)])) st293 ?_
    refine Rch.go (U' := T293.setTop (mkF m 84 #[rv a1, iv p1, jv x2, sv, iv p4, .val .null, iv (0 : Int32), iv (3 : Int32), iv (0 : Int32)] [(.int (1 : Int32)), (.int cn), (.ref a1)])) (fun _ k => XS.iconst X293.here hx rfl (hb hby d18_83) k) ?_
    refine Rch.go (U' := T293.setTop (mkF m 85 #[rv a1, iv p1, jv x2, sv, iv p4, .val .null, iv (0 : Int32), iv (3 : Int32), iv (0 : Int32)] [(.int (cn + (1 : Int32))), (.ref a1)])) (fun _ k => XS.iadd X293.here hx rfl (hb hby d18_84) rfl k) ?_
    obtain ⟨T294, h294, X294, e294, W294, st294⟩ := putF X293 hx hZ hown (host := "") (Or.inl (wi hw 19 rfl)) Via.refl e293 f284 f283 (Or.inl (wi hw 20 rfl)) (wi hw 1 rfl) (ty := .int) (by decide) rfl rfl (g := (mkF m 85 #[rv a1, iv p1, jv x2, sv, iv p4, .val .null, iv (0 : Int32), iv (3 : Int32), iv (0 : Int32)] [(.int (cn + (1 : Int32))), (.ref a1)])) rfl rfl (hb hby d18_85)
    have F294 := f284.same W294
    have f295 := f283.wr W294
    have f296 := f285.other W294 (Or.inr (slot_ne (Or.inl (wi hw 27 rfl)) (Or.inl (wi hw 20 rfl)) (by decide) (t := (.array .long)) (t' := .int) (by decide) (by decide)))
    have f297 := f286.other W294 (Or.inr (slot_ne (Or.inl (wi hw 37 rfl)) (Or.inl (wi hw 20 rfl)) (by decide) (t := (.array .int)) (t' := .int) (by decide) (by decide)))
    have f298 := f287.other W294 (Or.inr (slot_ne (Or.inl (wi hw 39 rfl)) (Or.inl (wi hw 20 rfl)) (by decide) (t := (.array .int)) (t' := .int) (by decide) (by decide)))
    have f299 := f288.other W294 (Or.inr (slot_ne (Or.inl (wi hw 41 rfl)) (Or.inl (wi hw 20 rfl)) (by decide) (t := (.array (.array .byte))) (t' := .int) (by decide) (by decide)))
    have f300 := f289.other W294 (Or.inr (slot_ne (Or.inl (wi hw 45 rfl)) (Or.inl (wi hw 20 rfl)) (by decide) (t := (.object "java/util/BitSet")) (t' := .int) (by decide) (by decide)))
    have f301 := f290.other W294 (Ne.symm n_h)
    have f302 := V282.other W294 (Ne.symm n_a)
    have f303 := f291.other W294 (Ne.symm n_l)
    have N294 := Fr.snoc X294 N282 g_a1
    have z304 := Nat.le_trans z292 (Keep.of_wr W294).1
    refine Rch.go (U' := T294.setTop (mkF m 88 #[rv a1, iv p1, jv x2, sv, iv p4, .val .null, iv (0 : Int32), iv (3 : Int32), iv (0 : Int32)] [])) st294 ?_
    refine Rch.go (U' := T294.setTop (mkF m 89 #[rv a1, iv p1, jv x2, sv, iv p4, .val .null, iv (0 : Int32), iv (3 : Int32), iv (0 : Int32)] [(.ref a1)])) (fun _ k => XS.aloadN X294.here hx rfl (hb hby d18_88) rfl rfl k) ?_
    refine Rch.go (U' := T294.setTop (mkF m 91 #[rv a1, iv p1, jv x2, sv, iv p4, .val .null, iv (0 : Int32), iv (3 : Int32), iv (0 : Int32)] [(.int (0 : Int32)), (.ref a1)])) (fun _ k => XS.iload X294.here hx rfl (hb hby d18_89) rfl  k) ?_
    refine Rch.go (U' := T294.setTop (mkF m 92 #[rv a1, iv p1, jv x2, sv, iv p4, .val .null, iv (0 : Int32), iv (3 : Int32), iv (0 : Int32)] [(.long x2), (.int (0 : Int32)), (.ref a1)])) (fun _ k => XS.lloadN X294.here hx rfl (hb hby d18_91) rfl  k) ?_
    refine Rch.go (U' := T294.setTop (mkF m 94 #[rv a1, iv p1, jv x2, sv, iv p4, .val .null, iv (0 : Int32), iv (3 : Int32), iv (0 : Int32)] [(.int p4), (.long x2), (.int (0 : Int32)), (.ref a1)])) (fun _ k => XS.iload X294.here hx rfl (hb hby d18_92) rfl  k) ?_
    refine Rch.go (U' := T294.setTop (mkF m 96 #[rv a1, iv p1, jv x2, sv, iv p4, .val .null, iv (0 : Int32), iv (3 : Int32), iv (0 : Int32)] [.null, (.int p4), (.long x2), (.int (0 : Int32)), (.ref a1)])) (fun _ k => XS.aload X294.here hx rfl (hb hby d18_94) rfl rfl k) ?_
    refine Rch.go (U' := T294.setTop (mkF m 98 #[rv a1, iv p1, jv x2, sv, iv p4, .val .null, iv (0 : Int32), iv (3 : Int32), iv (0 : Int32)] [(.int (0 : Int32)), .null, (.int p4), (.long x2), (.int (0 : Int32)), (.ref a1)])) (fun _ k => XS.iload X294.here hx rfl (hb hby d18_96) rfl  k) ?_
    obtain ⟨cq305, kq305, q305a, q305b, q305c⟩ := isOf hZ e294 f295
    obtain ⟨_, _, ⟨T305, L305, k305, n305⟩, -, X305, ⟨Lc305, hQ305, l305, y305, z305⟩, st305⟩ := X294.virtualBack hx (y := yS) (z := yS) hown (mvT hZ (wi hw 50 rfl)) (mvT hZ (wi hw 51 rfl)) (notFace_of_selects (args := #[]) (mvT hZ (wi hw 53 rfl))) (mvT hZ (wi hw 53 rfl)) (mvT hZ (wi hw 52 rfl)) (by decide) (backOf (W := 0) (rmS0 l Z a0 hw [] a1 bh ba bl kh ka kl (cn + (1 : Int32)) gs (va.set 0 (.int p1)) vl x2 p4 h294 n0 z304 ⟨f295, F294, f296, f297, f298, f299, f300, f301, f302, f303, ⟨lg, (by rw [List.length_set, la]), ll⟩, ⟨g_a1, g_bh, g_ba, g_bl⟩, ⟨n_h, n_a, n_l⟩, n_ha, n_hl, n_al⟩) hZ (wi hw 54 rfl) (wi hw 2 rfl) (by decide) (by decide)) q305a q305c (g := (mkF m 98 #[rv a1, iv p1, jv x2, sv, iv p4, .val .null, iv (0 : Int32), iv (3 : Int32), iv (0 : Int32)] [(.int (0 : Int32)), .null, (.int p4), (.long x2), (.int (0 : Int32)), (.ref a1)])) rfl (by rw [hml]; rfl) (Steps.refl _) (argsL := [(.int (0 : Int32)), (.long x2), (.int p4), .null, (.int (0 : Int32))]) (rest := []) (lenOf pd_10 rfl) rfl (by show 2 * 0 + _ ≤ _; exact Nat.le_of_eq rfl) (hb hby d18_98) (fun _ _ => ⟨rfl, e294, (by decide : 0 + 0 ≤ _), (by decide : 0 + 0 ≤ _)⟩)
    dsimp only [Pt.U, Pt.locs, Pt.cells, Pt.slots] at X305 l305 y305 z305 st305 hQ305
    subst l305 y305 z305
    obtain ⟨rfl, N305q, K305q, Vh305, Vl305⟩ := hQ305
    have N305 := Fr.app N294 N305q
    have z306 := Nat.le_trans z304 K305q.1
    have f307 := f295.keep K305q
    have f308 := F294.keep K305q (ninS n_h (ninS n_l nin0))
    have f309 := f296.keep K305q (ninS n_h (ninS n_l nin0))
    have f310 := f297.keep K305q (ninS n_h (ninS n_l nin0))
    have f311 := f298.keep K305q (ninS n_h (ninS n_l nin0))
    have f312 := f299.keep K305q (ninS n_h (ninS n_l nin0))
    have f313 := f300.keep K305q (ninS n_h (ninS n_l nin0))
    have f314 := f302.keep K305q (ninS (Ne.symm n_ha) (ninS n_al nin0))
    refine Rch.to (U' := T305.setTop (mkF m 101 #[rv a1, iv p1, jv x2, sv, iv p4, .val .null, iv (0 : Int32), iv (3 : Int32), iv (0 : Int32)] [])) st305 ?_
    refine Rch.go (U' := T305.setTop (mkF m 103 #[rv a1, iv p1, jv x2, sv, iv p4, .val .null, iv (0 : Int32), iv (3 : Int32), iv (0 : Int32)] [(.int (0 : Int32))])) (fun _ k => XS.iload X305.here hx rfl (hb hby d18_101) rfl  k) ?_
    refine Rch.fin X305 hlk (v := some (.int (0 : Int32))) (fun h => by rw [hret] at h; cases h) rfl (by decide) (by decide) (fun fs hr => retI X305 hx hret (hb hby d18_103) hr) ?_
    have hfr : own_free gs 4 (own_s p1) = 0 := by rw [hsj]; simp only [own_free, br280, ↓reduceIte]
    refine ⟨_, _, by rw [hfr]; rfl, N305, z306, ⟨f307, f308, f309, f310, f311, f312, f313, (by unfold own_add; rw [hfr]; exact Vh305), f314, Vl305, ⟨by unfold own_add; rw [List.length_set, lg], by rw [List.length_set, la], by rw [List.length_set, ll]⟩, ⟨g_a1, g_bh, g_ba, g_bl⟩, ⟨n_h, n_a, n_l⟩, n_ha, n_hl, n_al⟩⟩
  ·
    refine Rch.go (U' := T278.setTop (mkF m 58 #[rv a1, iv p1, jv x2, sv, iv p4, .val .null, iv (0 : Int32), iv (3 : Int32), iv (0 : Int32)] [])) (fun _ k => XS.ifNo X278.here hx rfl (hb hby d18_55) rfl (XT.ll_eq_f br280) k) ?_
    refine Rch.go (U' := T278.setTop (mkF m 60 #[rv a1, iv p1, jv x2, sv, iv p4, .val .null, iv (0 : Int32), iv (3 : Int32), iv (0 : Int32)] [(.int (0 : Int32))])) (fun _ k => XS.iload X278.here hx rfl (hb hby d18_58) rfl  k) ?_
    refine Rch.go (U' := T278.setTop (mkF m 61 #[rv a1, iv p1, jv x2, sv, iv p4, .val .null, iv (0 : Int32), iv (3 : Int32), iv (0 : Int32)] [(.int (1 : Int32)), (.int (0 : Int32))])) (fun _ k => XS.iconst X278.here hx rfl (hb hby d18_60) k) ?_
    refine Rch.go (U' := T278.setTop (mkF m 62 #[rv a1, iv p1, jv x2, sv, iv p4, .val .null, iv (0 : Int32), iv (3 : Int32), iv (0 : Int32)] [(.int ((0 : Int32) + (1 : Int32)))])) (fun _ k => XS.iadd X278.here hx rfl (hb hby d18_61) rfl k) ?_
    rw [(by decide : ((0 : Int32) + (1 : Int32)) = (1 : Int32))]
    refine Rch.go (U' := T278.setTop (mkF m 64 #[rv a1, iv p1, jv x2, sv, iv p4, .val .null, iv (0 : Int32), iv (3 : Int32), iv (0 : Int32)] [(.int (3 : Int32)), (.int (1 : Int32))])) (fun _ k => XS.iload X278.here hx rfl (hb hby d18_62) rfl  k) ?_
    refine Rch.go (U' := T278.setTop (mkF m 65 #[rv a1, iv p1, jv x2, sv, iv p4, .val .null, iv (0 : Int32), iv (3 : Int32), iv (0 : Int32)] [(.int ((1 : Int32) &&& (3 : Int32)))])) (fun _ k => XS.iand X278.here hx rfl (hb hby d18_64) rfl k) ?_
    rw [(by decide : ((1 : Int32) &&& (3 : Int32)) = (1 : Int32))]
    refine Rch.go (U' := T278.setTop (mkF m 67 #[rv a1, iv p1, jv x2, sv, iv p4, .val .null, iv (0 : Int32), iv (3 : Int32), iv (1 : Int32)] [])) (fun _ k => XS.istore X278.here hx rfl (hb hby d18_65) rfl (l' := #[rv a1, iv p1, jv x2, sv, iv p4, .val .null, iv (0 : Int32), iv (3 : Int32), iv (1 : Int32)]) rfl k) ?_
    refine Rch.go (U' := T278.setTop (mkF m 46 #[rv a1, iv p1, jv x2, sv, iv p4, .val .null, iv (0 : Int32), iv (3 : Int32), iv (1 : Int32)] [])) (fun _ k => XS.goto X278.here hx rfl (pc0 := 67) (pc' := 46) rfl (hb hby d18_67) (by decide) (by decide) k) ?_
    refine Rch.go (U' := T278.setTop (mkF m 47 #[rv a1, iv p1, jv x2, sv, iv p4, .val .null, iv (0 : Int32), iv (3 : Int32), iv (1 : Int32)] [(.ref a1)])) (fun _ k => XS.aloadN X278.here hx rfl (hb hby d18_46) rfl rfl k) ?_
    obtain ⟨T315, X315, e315, st315⟩ := getF X278 hx hZ hown (host := "") (Or.inl (wi hw 26 rfl)) Via.refl e278 F_a1_handles (g := (mkF m 47 #[rv a1, iv p1, jv x2, sv, iv p4, .val .null, iv (0 : Int32), iv (3 : Int32), iv (1 : Int32)] [(.ref a1)])) rfl rfl (hb hby d18_47)
    refine Rch.go (U' := T315.setTop (mkF m 50 #[rv a1, iv p1, jv x2, sv, iv p4, .val .null, iv (0 : Int32), iv (3 : Int32), iv (1 : Int32)] [(.ref bh)])) st315 ?_
    refine Rch.go (U' := T315.setTop (mkF m 52 #[rv a1, iv p1, jv x2, sv, iv p4, .val .null, iv (0 : Int32), iv (3 : Int32), iv (1 : Int32)] [(.int (1 : Int32)), (.ref bh)])) (fun _ k => XS.iload X315.here hx rfl (hb hby d18_50) rfl  k) ?_
    obtain ⟨cl316, Ar316, qk316, Sz316, Mn316, Hs316, Gf316⟩ := id V_bh
    have ib316 : ¬ ((1 : Int32) < 0 ∨ cl316.slots.size ≤ ((1 : Int32)).toNatClampNeg) := inb_of Sz316 ⟨by decide, by decide⟩
    have ea316 : cl316.slots[((1 : Int32)).toNatClampNeg]? = some (.long (gs.getD 1 0)) := Has.at Hs316 ib316 (own_getJ gs 1)
    refine Rch.go (U' := T315.setTop (mkF m 53 #[rv a1, iv p1, jv x2, sv, iv p4, .val .null, iv (0 : Int32), iv (3 : Int32), iv (1 : Int32)] [(.long (gs.getD 1 0))])) (fun _ k => X315.laload hx (j := (1 : Int32)) (v := (.long (gs.getD 1 0))) (by rw [e315]; exact Ar316.1) (State.isArrayOf_alike hZ.alike Ar316.2.1) Ar316.2.2 ib316 ea316 (g := (mkF m 52 #[rv a1, iv p1, jv x2, sv, iv p4, .val .null, iv (0 : Int32), iv (3 : Int32), iv (1 : Int32)] [(.int (1 : Int32)), (.ref bh)])) rfl rfl (hb hby d18_52) _ k) ?_
    refine Rch.go (U' := T315.setTop (mkF m 54 #[rv a1, iv p1, jv x2, sv, iv p4, .val .null, iv (0 : Int32), iv (3 : Int32), iv (1 : Int32)] [(.long (0 : Int64)), (.long (gs.getD 1 0))])) (fun _ k => XS.lconst X315.here hx rfl (hb hby d18_53) k) ?_
    refine Rch.go (U' := T315.setTop (mkF m 55 #[rv a1, iv p1, jv x2, sv, iv p4, .val .null, iv (0 : Int32), iv (3 : Int32), iv (1 : Int32)] [(.int (XT.cmpL (gs.getD 1 0) (0 : Int64)))])) (fun _ k => XT.lcmp X315.here hx rfl (hb hby d18_54) rfl k) ?_
    by_cases br317 : (gs.getD 1 0) = (0 : Int64)
    ·
      refine Rch.go (U' := T315.setTop (mkF m 70 #[rv a1, iv p1, jv x2, sv, iv p4, .val .null, iv (0 : Int32), iv (3 : Int32), iv (1 : Int32)] [])) (fun _ k => XS.ifYes X315.here hx rfl (pc0 := 55) (pc' := 70) rfl (hb hby d18_55) rfl (XT.ll_eq_t br317) (by decide) (by decide) k) ?_
      refine Rch.go (U' := T315.setTop (mkF m 71 #[rv a1, iv p1, jv x2, sv, iv p4, .val .null, iv (0 : Int32), iv (3 : Int32), iv (1 : Int32)] [(.ref a1)])) (fun _ k => XS.aloadN X315.here hx rfl (hb hby d18_70) rfl rfl k) ?_
      obtain ⟨T318, X318, e318, st318⟩ := getF X315 hx hZ hown (host := "") (Or.inl (wi hw 36 rfl)) Via.refl e315 F_a1_hashes (g := (mkF m 71 #[rv a1, iv p1, jv x2, sv, iv p4, .val .null, iv (0 : Int32), iv (3 : Int32), iv (1 : Int32)] [(.ref a1)])) rfl rfl (hb hby d18_71)
      refine Rch.go (U' := T318.setTop (mkF m 74 #[rv a1, iv p1, jv x2, sv, iv p4, .val .null, iv (0 : Int32), iv (3 : Int32), iv (1 : Int32)] [(.ref ba)])) st318 ?_
      refine Rch.go (U' := T318.setTop (mkF m 76 #[rv a1, iv p1, jv x2, sv, iv p4, .val .null, iv (0 : Int32), iv (3 : Int32), iv (1 : Int32)] [(.int (1 : Int32)), (.ref ba)])) (fun _ k => XS.iload X318.here hx rfl (hb hby d18_74) rfl  k) ?_
      refine Rch.go (U' := T318.setTop (mkF m 77 #[rv a1, iv p1, jv x2, sv, iv p4, .val .null, iv (0 : Int32), iv (3 : Int32), iv (1 : Int32)] [(.int p1), (.int (1 : Int32)), (.ref ba)])) (fun _ k => XS.iloadN X318.here hx rfl (hb hby d18_76) rfl  k) ?_
      obtain ⟨cl319, Ar319, qk319, Sz319, Mn319, Hs319, Gf319⟩ := id V_ba
      have ib319 : ¬ ((1 : Int32) < 0 ∨ cl319.slots.size ≤ ((1 : Int32)).toNatClampNeg) := inb_of Sz319 ⟨by decide, by decide⟩
      obtain ⟨T319, h319, X319, e319, W319, st319⟩ := stI X318 hx hZ e318 Ar319 (j := (1 : Int32)) ib319 (g := (mkF m 77 #[rv a1, iv p1, jv x2, sv, iv p4, .val .null, iv (0 : Int32), iv (3 : Int32), iv (1 : Int32)] [(.int p1), (.int (1 : Int32)), (.ref ba)])) rfl rfl (hb hby d18_77)
      have V319 : Arv Z h319 ba ka .int (4 : Int32) (va.set 1 (.int p1)) (.int (0 : Int32)) := Arv.set Ar319 qk319 Sz319 Mn319 Hs319 Gf319 rfl W319 1 rfl (by rw [la]; decide)
      have f320 := E_a1.wr W319
      have f321 := F_a1_count.other W319 (Or.inl n_a)
      have f322 := F_a1_handles.other W319 (Or.inl n_a)
      have f323 := F_a1_hashes.other W319 (Or.inl n_a)
      have f324 := F_a1_lengths.other W319 (Or.inl n_a)
      have f325 := F_a1_outside.other W319 (Or.inl n_a)
      have f326 := F_a1_expiries.other W319 (Or.inl n_a)
      have f327 := V_bh.other W319 n_ha
      have f328 := V_bl.other W319 (Ne.symm n_al)
      have N319 := Fr.snoc X319 N0 g_ba
      have z329 := Nat.le_trans Z0 (Keep.of_wr W319).1
      refine Rch.go (U' := T319.setTop (mkF m 78 #[rv a1, iv p1, jv x2, sv, iv p4, .val .null, iv (0 : Int32), iv (3 : Int32), iv (1 : Int32)] [])) st319 ?_
      refine Rch.go (U' := T319.setTop (mkF m 79 #[rv a1, iv p1, jv x2, sv, iv p4, .val .null, iv (0 : Int32), iv (3 : Int32), iv (1 : Int32)] [(.ref a1)])) (fun _ k => XS.aloadN X319.here hx rfl (hb hby d18_78) rfl rfl k) ?_
      refine Rch.go (U' := T319.setTop (mkF m 80 #[rv a1, iv p1, jv x2, sv, iv p4, .val .null, iv (0 : Int32), iv (3 : Int32), iv (1 : Int32)] [(.ref a1), (.ref a1)])) (fun _ k => XS.dup X319.here hx rfl (hb hby d18_79) rfl rfl k) ?_
      obtain ⟨T330, X330, e330, st330⟩ := getF X319 hx hZ hown (host := "") (Or.inl (wi hw 19 rfl)) Via.refl e319 f321 (g := (mkF m 80 #[rv a1, iv p1, jv x2, sv, iv p4, .val .null, iv (0 : Int32), iv (3 : Int32), iv (1 : Int32)] [(.ref a1), (.ref a1)])) rfl rfl (hb hby d18_80)
      refine Rch.go (U' := T330.setTop (mkF m 83 #[rv a1, iv p1, jv x2, sv, iv p4, .val .null, iv (0 : Int32), iv (3 : Int32), iv (1 : Int32)] [(.int cn), (.ref a1)])) st330 ?_
      refine Rch.go (U' := T330.setTop (mkF m 84 #[rv a1, iv p1, jv x2, sv, iv p4, .val .null, iv (0 : Int32), iv (3 : Int32), iv (1 : Int32)] [(.int (1 : Int32)), (.int cn), (.ref a1)])) (fun _ k => XS.iconst X330.here hx rfl (hb hby d18_83) k) ?_
      refine Rch.go (U' := T330.setTop (mkF m 85 #[rv a1, iv p1, jv x2, sv, iv p4, .val .null, iv (0 : Int32), iv (3 : Int32), iv (1 : Int32)] [(.int (cn + (1 : Int32))), (.ref a1)])) (fun _ k => XS.iadd X330.here hx rfl (hb hby d18_84) rfl k) ?_
      obtain ⟨T331, h331, X331, e331, W331, st331⟩ := putF X330 hx hZ hown (host := "") (Or.inl (wi hw 19 rfl)) Via.refl e330 f321 f320 (Or.inl (wi hw 20 rfl)) (wi hw 1 rfl) (ty := .int) (by decide) rfl rfl (g := (mkF m 85 #[rv a1, iv p1, jv x2, sv, iv p4, .val .null, iv (0 : Int32), iv (3 : Int32), iv (1 : Int32)] [(.int (cn + (1 : Int32))), (.ref a1)])) rfl rfl (hb hby d18_85)
      have F331 := f321.same W331
      have f332 := f320.wr W331
      have f333 := f322.other W331 (Or.inr (slot_ne (Or.inl (wi hw 27 rfl)) (Or.inl (wi hw 20 rfl)) (by decide) (t := (.array .long)) (t' := .int) (by decide) (by decide)))
      have f334 := f323.other W331 (Or.inr (slot_ne (Or.inl (wi hw 37 rfl)) (Or.inl (wi hw 20 rfl)) (by decide) (t := (.array .int)) (t' := .int) (by decide) (by decide)))
      have f335 := f324.other W331 (Or.inr (slot_ne (Or.inl (wi hw 39 rfl)) (Or.inl (wi hw 20 rfl)) (by decide) (t := (.array .int)) (t' := .int) (by decide) (by decide)))
      have f336 := f325.other W331 (Or.inr (slot_ne (Or.inl (wi hw 41 rfl)) (Or.inl (wi hw 20 rfl)) (by decide) (t := (.array (.array .byte))) (t' := .int) (by decide) (by decide)))
      have f337 := f326.other W331 (Or.inr (slot_ne (Or.inl (wi hw 45 rfl)) (Or.inl (wi hw 20 rfl)) (by decide) (t := (.object "java/util/BitSet")) (t' := .int) (by decide) (by decide)))
      have f338 := f327.other W331 (Ne.symm n_h)
      have f339 := V319.other W331 (Ne.symm n_a)
      have f340 := f328.other W331 (Ne.symm n_l)
      have N331 := Fr.snoc X331 N319 g_a1
      have z341 := Nat.le_trans z329 (Keep.of_wr W331).1
      refine Rch.go (U' := T331.setTop (mkF m 88 #[rv a1, iv p1, jv x2, sv, iv p4, .val .null, iv (0 : Int32), iv (3 : Int32), iv (1 : Int32)] [])) st331 ?_
      refine Rch.go (U' := T331.setTop (mkF m 89 #[rv a1, iv p1, jv x2, sv, iv p4, .val .null, iv (0 : Int32), iv (3 : Int32), iv (1 : Int32)] [(.ref a1)])) (fun _ k => XS.aloadN X331.here hx rfl (hb hby d18_88) rfl rfl k) ?_
      refine Rch.go (U' := T331.setTop (mkF m 91 #[rv a1, iv p1, jv x2, sv, iv p4, .val .null, iv (0 : Int32), iv (3 : Int32), iv (1 : Int32)] [(.int (1 : Int32)), (.ref a1)])) (fun _ k => XS.iload X331.here hx rfl (hb hby d18_89) rfl  k) ?_
      refine Rch.go (U' := T331.setTop (mkF m 92 #[rv a1, iv p1, jv x2, sv, iv p4, .val .null, iv (0 : Int32), iv (3 : Int32), iv (1 : Int32)] [(.long x2), (.int (1 : Int32)), (.ref a1)])) (fun _ k => XS.lloadN X331.here hx rfl (hb hby d18_91) rfl  k) ?_
      refine Rch.go (U' := T331.setTop (mkF m 94 #[rv a1, iv p1, jv x2, sv, iv p4, .val .null, iv (0 : Int32), iv (3 : Int32), iv (1 : Int32)] [(.int p4), (.long x2), (.int (1 : Int32)), (.ref a1)])) (fun _ k => XS.iload X331.here hx rfl (hb hby d18_92) rfl  k) ?_
      refine Rch.go (U' := T331.setTop (mkF m 96 #[rv a1, iv p1, jv x2, sv, iv p4, .val .null, iv (0 : Int32), iv (3 : Int32), iv (1 : Int32)] [.null, (.int p4), (.long x2), (.int (1 : Int32)), (.ref a1)])) (fun _ k => XS.aload X331.here hx rfl (hb hby d18_94) rfl rfl k) ?_
      refine Rch.go (U' := T331.setTop (mkF m 98 #[rv a1, iv p1, jv x2, sv, iv p4, .val .null, iv (0 : Int32), iv (3 : Int32), iv (1 : Int32)] [(.int (0 : Int32)), .null, (.int p4), (.long x2), (.int (1 : Int32)), (.ref a1)])) (fun _ k => XS.iload X331.here hx rfl (hb hby d18_96) rfl  k) ?_
      obtain ⟨cq342, kq342, q342a, q342b, q342c⟩ := isOf hZ e331 f332
      obtain ⟨_, _, ⟨T342, L342, k342, n342⟩, -, X342, ⟨Lc342, hQ342, l342, y342, z342⟩, st342⟩ := X331.virtualBack hx (y := yS) (z := yS) hown (mvT hZ (wi hw 50 rfl)) (mvT hZ (wi hw 51 rfl)) (notFace_of_selects (args := #[]) (mvT hZ (wi hw 53 rfl))) (mvT hZ (wi hw 53 rfl)) (mvT hZ (wi hw 52 rfl)) (by decide) (backOf (W := 0) (rmS1 l Z a0 hw [] a1 bh ba bl kh ka kl (cn + (1 : Int32)) gs (va.set 1 (.int p1)) vl x2 p4 h331 n0 z341 ⟨f332, F331, f333, f334, f335, f336, f337, f338, f339, f340, ⟨lg, (by rw [List.length_set, la]), ll⟩, ⟨g_a1, g_bh, g_ba, g_bl⟩, ⟨n_h, n_a, n_l⟩, n_ha, n_hl, n_al⟩) hZ (wi hw 54 rfl) (wi hw 2 rfl) (by decide) (by decide)) q342a q342c (g := (mkF m 98 #[rv a1, iv p1, jv x2, sv, iv p4, .val .null, iv (0 : Int32), iv (3 : Int32), iv (1 : Int32)] [(.int (0 : Int32)), .null, (.int p4), (.long x2), (.int (1 : Int32)), (.ref a1)])) rfl (by rw [hml]; rfl) (Steps.refl _) (argsL := [(.int (1 : Int32)), (.long x2), (.int p4), .null, (.int (0 : Int32))]) (rest := []) (lenOf pd_10 rfl) rfl (by show 2 * 0 + _ ≤ _; exact Nat.le_of_eq rfl) (hb hby d18_98) (fun _ _ => ⟨rfl, e331, (by decide : 0 + 0 ≤ _), (by decide : 0 + 0 ≤ _)⟩)
      dsimp only [Pt.U, Pt.locs, Pt.cells, Pt.slots] at X342 l342 y342 z342 st342 hQ342
      subst l342 y342 z342
      obtain ⟨rfl, N342q, K342q, Vh342, Vl342⟩ := hQ342
      have N342 := Fr.app N331 N342q
      have z343 := Nat.le_trans z341 K342q.1
      have f344 := f332.keep K342q
      have f345 := F331.keep K342q (ninS n_h (ninS n_l nin0))
      have f346 := f333.keep K342q (ninS n_h (ninS n_l nin0))
      have f347 := f334.keep K342q (ninS n_h (ninS n_l nin0))
      have f348 := f335.keep K342q (ninS n_h (ninS n_l nin0))
      have f349 := f336.keep K342q (ninS n_h (ninS n_l nin0))
      have f350 := f337.keep K342q (ninS n_h (ninS n_l nin0))
      have f351 := f339.keep K342q (ninS (Ne.symm n_ha) (ninS n_al nin0))
      refine Rch.to (U' := T342.setTop (mkF m 101 #[rv a1, iv p1, jv x2, sv, iv p4, .val .null, iv (0 : Int32), iv (3 : Int32), iv (1 : Int32)] [])) st342 ?_
      refine Rch.go (U' := T342.setTop (mkF m 103 #[rv a1, iv p1, jv x2, sv, iv p4, .val .null, iv (0 : Int32), iv (3 : Int32), iv (1 : Int32)] [(.int (1 : Int32))])) (fun _ k => XS.iload X342.here hx rfl (hb hby d18_101) rfl  k) ?_
      refine Rch.fin X342 hlk (v := some (.int (1 : Int32))) (fun h => by rw [hret] at h; cases h) rfl (by decide) (by decide) (fun fs hr => retI X342 hx hret (hb hby d18_103) hr) ?_
      have hfr : own_free gs 4 (own_s p1) = 1 := by rw [hsj]; simp only [own_free, br280, br317, ↓reduceIte]
      refine ⟨_, _, by rw [hfr]; rfl, N342, z343, ⟨f344, f345, f346, f347, f348, f349, f350, (by unfold own_add; rw [hfr]; exact Vh342), f351, Vl342, ⟨by unfold own_add; rw [List.length_set, lg], by rw [List.length_set, la], by rw [List.length_set, ll]⟩, ⟨g_a1, g_bh, g_ba, g_bl⟩, ⟨n_h, n_a, n_l⟩, n_ha, n_hl, n_al⟩⟩
    ·
      refine Rch.go (U' := T315.setTop (mkF m 58 #[rv a1, iv p1, jv x2, sv, iv p4, .val .null, iv (0 : Int32), iv (3 : Int32), iv (1 : Int32)] [])) (fun _ k => XS.ifNo X315.here hx rfl (hb hby d18_55) rfl (XT.ll_eq_f br317) k) ?_
      refine Rch.go (U' := T315.setTop (mkF m 60 #[rv a1, iv p1, jv x2, sv, iv p4, .val .null, iv (0 : Int32), iv (3 : Int32), iv (1 : Int32)] [(.int (1 : Int32))])) (fun _ k => XS.iload X315.here hx rfl (hb hby d18_58) rfl  k) ?_
      refine Rch.go (U' := T315.setTop (mkF m 61 #[rv a1, iv p1, jv x2, sv, iv p4, .val .null, iv (0 : Int32), iv (3 : Int32), iv (1 : Int32)] [(.int (1 : Int32)), (.int (1 : Int32))])) (fun _ k => XS.iconst X315.here hx rfl (hb hby d18_60) k) ?_
      refine Rch.go (U' := T315.setTop (mkF m 62 #[rv a1, iv p1, jv x2, sv, iv p4, .val .null, iv (0 : Int32), iv (3 : Int32), iv (1 : Int32)] [(.int ((1 : Int32) + (1 : Int32)))])) (fun _ k => XS.iadd X315.here hx rfl (hb hby d18_61) rfl k) ?_
      rw [(by decide : ((1 : Int32) + (1 : Int32)) = (2 : Int32))]
      refine Rch.go (U' := T315.setTop (mkF m 64 #[rv a1, iv p1, jv x2, sv, iv p4, .val .null, iv (0 : Int32), iv (3 : Int32), iv (1 : Int32)] [(.int (3 : Int32)), (.int (2 : Int32))])) (fun _ k => XS.iload X315.here hx rfl (hb hby d18_62) rfl  k) ?_
      refine Rch.go (U' := T315.setTop (mkF m 65 #[rv a1, iv p1, jv x2, sv, iv p4, .val .null, iv (0 : Int32), iv (3 : Int32), iv (1 : Int32)] [(.int ((2 : Int32) &&& (3 : Int32)))])) (fun _ k => XS.iand X315.here hx rfl (hb hby d18_64) rfl k) ?_
      rw [(by decide : ((2 : Int32) &&& (3 : Int32)) = (2 : Int32))]
      refine Rch.go (U' := T315.setTop (mkF m 67 #[rv a1, iv p1, jv x2, sv, iv p4, .val .null, iv (0 : Int32), iv (3 : Int32), iv (2 : Int32)] [])) (fun _ k => XS.istore X315.here hx rfl (hb hby d18_65) rfl (l' := #[rv a1, iv p1, jv x2, sv, iv p4, .val .null, iv (0 : Int32), iv (3 : Int32), iv (2 : Int32)]) rfl k) ?_
      refine Rch.go (U' := T315.setTop (mkF m 46 #[rv a1, iv p1, jv x2, sv, iv p4, .val .null, iv (0 : Int32), iv (3 : Int32), iv (2 : Int32)] [])) (fun _ k => XS.goto X315.here hx rfl (pc0 := 67) (pc' := 46) rfl (hb hby d18_67) (by decide) (by decide) k) ?_
      refine Rch.go (U' := T315.setTop (mkF m 47 #[rv a1, iv p1, jv x2, sv, iv p4, .val .null, iv (0 : Int32), iv (3 : Int32), iv (2 : Int32)] [(.ref a1)])) (fun _ k => XS.aloadN X315.here hx rfl (hb hby d18_46) rfl rfl k) ?_
      obtain ⟨T352, X352, e352, st352⟩ := getF X315 hx hZ hown (host := "") (Or.inl (wi hw 26 rfl)) Via.refl e315 F_a1_handles (g := (mkF m 47 #[rv a1, iv p1, jv x2, sv, iv p4, .val .null, iv (0 : Int32), iv (3 : Int32), iv (2 : Int32)] [(.ref a1)])) rfl rfl (hb hby d18_47)
      refine Rch.go (U' := T352.setTop (mkF m 50 #[rv a1, iv p1, jv x2, sv, iv p4, .val .null, iv (0 : Int32), iv (3 : Int32), iv (2 : Int32)] [(.ref bh)])) st352 ?_
      refine Rch.go (U' := T352.setTop (mkF m 52 #[rv a1, iv p1, jv x2, sv, iv p4, .val .null, iv (0 : Int32), iv (3 : Int32), iv (2 : Int32)] [(.int (2 : Int32)), (.ref bh)])) (fun _ k => XS.iload X352.here hx rfl (hb hby d18_50) rfl  k) ?_
      obtain ⟨cl353, Ar353, qk353, Sz353, Mn353, Hs353, Gf353⟩ := id V_bh
      have ib353 : ¬ ((2 : Int32) < 0 ∨ cl353.slots.size ≤ ((2 : Int32)).toNatClampNeg) := inb_of Sz353 ⟨by decide, by decide⟩
      have ea353 : cl353.slots[((2 : Int32)).toNatClampNeg]? = some (.long (gs.getD 2 0)) := Has.at Hs353 ib353 (own_getJ gs 2)
      refine Rch.go (U' := T352.setTop (mkF m 53 #[rv a1, iv p1, jv x2, sv, iv p4, .val .null, iv (0 : Int32), iv (3 : Int32), iv (2 : Int32)] [(.long (gs.getD 2 0))])) (fun _ k => X352.laload hx (j := (2 : Int32)) (v := (.long (gs.getD 2 0))) (by rw [e352]; exact Ar353.1) (State.isArrayOf_alike hZ.alike Ar353.2.1) Ar353.2.2 ib353 ea353 (g := (mkF m 52 #[rv a1, iv p1, jv x2, sv, iv p4, .val .null, iv (0 : Int32), iv (3 : Int32), iv (2 : Int32)] [(.int (2 : Int32)), (.ref bh)])) rfl rfl (hb hby d18_52) _ k) ?_
      refine Rch.go (U' := T352.setTop (mkF m 54 #[rv a1, iv p1, jv x2, sv, iv p4, .val .null, iv (0 : Int32), iv (3 : Int32), iv (2 : Int32)] [(.long (0 : Int64)), (.long (gs.getD 2 0))])) (fun _ k => XS.lconst X352.here hx rfl (hb hby d18_53) k) ?_
      refine Rch.go (U' := T352.setTop (mkF m 55 #[rv a1, iv p1, jv x2, sv, iv p4, .val .null, iv (0 : Int32), iv (3 : Int32), iv (2 : Int32)] [(.int (XT.cmpL (gs.getD 2 0) (0 : Int64)))])) (fun _ k => XT.lcmp X352.here hx rfl (hb hby d18_54) rfl k) ?_
      by_cases br354 : (gs.getD 2 0) = (0 : Int64)
      ·
        refine Rch.go (U' := T352.setTop (mkF m 70 #[rv a1, iv p1, jv x2, sv, iv p4, .val .null, iv (0 : Int32), iv (3 : Int32), iv (2 : Int32)] [])) (fun _ k => XS.ifYes X352.here hx rfl (pc0 := 55) (pc' := 70) rfl (hb hby d18_55) rfl (XT.ll_eq_t br354) (by decide) (by decide) k) ?_
        refine Rch.go (U' := T352.setTop (mkF m 71 #[rv a1, iv p1, jv x2, sv, iv p4, .val .null, iv (0 : Int32), iv (3 : Int32), iv (2 : Int32)] [(.ref a1)])) (fun _ k => XS.aloadN X352.here hx rfl (hb hby d18_70) rfl rfl k) ?_
        obtain ⟨T355, X355, e355, st355⟩ := getF X352 hx hZ hown (host := "") (Or.inl (wi hw 36 rfl)) Via.refl e352 F_a1_hashes (g := (mkF m 71 #[rv a1, iv p1, jv x2, sv, iv p4, .val .null, iv (0 : Int32), iv (3 : Int32), iv (2 : Int32)] [(.ref a1)])) rfl rfl (hb hby d18_71)
        refine Rch.go (U' := T355.setTop (mkF m 74 #[rv a1, iv p1, jv x2, sv, iv p4, .val .null, iv (0 : Int32), iv (3 : Int32), iv (2 : Int32)] [(.ref ba)])) st355 ?_
        refine Rch.go (U' := T355.setTop (mkF m 76 #[rv a1, iv p1, jv x2, sv, iv p4, .val .null, iv (0 : Int32), iv (3 : Int32), iv (2 : Int32)] [(.int (2 : Int32)), (.ref ba)])) (fun _ k => XS.iload X355.here hx rfl (hb hby d18_74) rfl  k) ?_
        refine Rch.go (U' := T355.setTop (mkF m 77 #[rv a1, iv p1, jv x2, sv, iv p4, .val .null, iv (0 : Int32), iv (3 : Int32), iv (2 : Int32)] [(.int p1), (.int (2 : Int32)), (.ref ba)])) (fun _ k => XS.iloadN X355.here hx rfl (hb hby d18_76) rfl  k) ?_
        obtain ⟨cl356, Ar356, qk356, Sz356, Mn356, Hs356, Gf356⟩ := id V_ba
        have ib356 : ¬ ((2 : Int32) < 0 ∨ cl356.slots.size ≤ ((2 : Int32)).toNatClampNeg) := inb_of Sz356 ⟨by decide, by decide⟩
        obtain ⟨T356, h356, X356, e356, W356, st356⟩ := stI X355 hx hZ e355 Ar356 (j := (2 : Int32)) ib356 (g := (mkF m 77 #[rv a1, iv p1, jv x2, sv, iv p4, .val .null, iv (0 : Int32), iv (3 : Int32), iv (2 : Int32)] [(.int p1), (.int (2 : Int32)), (.ref ba)])) rfl rfl (hb hby d18_77)
        have V356 : Arv Z h356 ba ka .int (4 : Int32) (va.set 2 (.int p1)) (.int (0 : Int32)) := Arv.set Ar356 qk356 Sz356 Mn356 Hs356 Gf356 rfl W356 2 rfl (by rw [la]; decide)
        have f357 := E_a1.wr W356
        have f358 := F_a1_count.other W356 (Or.inl n_a)
        have f359 := F_a1_handles.other W356 (Or.inl n_a)
        have f360 := F_a1_hashes.other W356 (Or.inl n_a)
        have f361 := F_a1_lengths.other W356 (Or.inl n_a)
        have f362 := F_a1_outside.other W356 (Or.inl n_a)
        have f363 := F_a1_expiries.other W356 (Or.inl n_a)
        have f364 := V_bh.other W356 n_ha
        have f365 := V_bl.other W356 (Ne.symm n_al)
        have N356 := Fr.snoc X356 N0 g_ba
        have z366 := Nat.le_trans Z0 (Keep.of_wr W356).1
        refine Rch.go (U' := T356.setTop (mkF m 78 #[rv a1, iv p1, jv x2, sv, iv p4, .val .null, iv (0 : Int32), iv (3 : Int32), iv (2 : Int32)] [])) st356 ?_
        refine Rch.go (U' := T356.setTop (mkF m 79 #[rv a1, iv p1, jv x2, sv, iv p4, .val .null, iv (0 : Int32), iv (3 : Int32), iv (2 : Int32)] [(.ref a1)])) (fun _ k => XS.aloadN X356.here hx rfl (hb hby d18_78) rfl rfl k) ?_
        refine Rch.go (U' := T356.setTop (mkF m 80 #[rv a1, iv p1, jv x2, sv, iv p4, .val .null, iv (0 : Int32), iv (3 : Int32), iv (2 : Int32)] [(.ref a1), (.ref a1)])) (fun _ k => XS.dup X356.here hx rfl (hb hby d18_79) rfl rfl k) ?_
        obtain ⟨T367, X367, e367, st367⟩ := getF X356 hx hZ hown (host := "") (Or.inl (wi hw 19 rfl)) Via.refl e356 f358 (g := (mkF m 80 #[rv a1, iv p1, jv x2, sv, iv p4, .val .null, iv (0 : Int32), iv (3 : Int32), iv (2 : Int32)] [(.ref a1), (.ref a1)])) rfl rfl (hb hby d18_80)
        refine Rch.go (U' := T367.setTop (mkF m 83 #[rv a1, iv p1, jv x2, sv, iv p4, .val .null, iv (0 : Int32), iv (3 : Int32), iv (2 : Int32)] [(.int cn), (.ref a1)])) st367 ?_
        refine Rch.go (U' := T367.setTop (mkF m 84 #[rv a1, iv p1, jv x2, sv, iv p4, .val .null, iv (0 : Int32), iv (3 : Int32), iv (2 : Int32)] [(.int (1 : Int32)), (.int cn), (.ref a1)])) (fun _ k => XS.iconst X367.here hx rfl (hb hby d18_83) k) ?_
        refine Rch.go (U' := T367.setTop (mkF m 85 #[rv a1, iv p1, jv x2, sv, iv p4, .val .null, iv (0 : Int32), iv (3 : Int32), iv (2 : Int32)] [(.int (cn + (1 : Int32))), (.ref a1)])) (fun _ k => XS.iadd X367.here hx rfl (hb hby d18_84) rfl k) ?_
        obtain ⟨T368, h368, X368, e368, W368, st368⟩ := putF X367 hx hZ hown (host := "") (Or.inl (wi hw 19 rfl)) Via.refl e367 f358 f357 (Or.inl (wi hw 20 rfl)) (wi hw 1 rfl) (ty := .int) (by decide) rfl rfl (g := (mkF m 85 #[rv a1, iv p1, jv x2, sv, iv p4, .val .null, iv (0 : Int32), iv (3 : Int32), iv (2 : Int32)] [(.int (cn + (1 : Int32))), (.ref a1)])) rfl rfl (hb hby d18_85)
        have F368 := f358.same W368
        have f369 := f357.wr W368
        have f370 := f359.other W368 (Or.inr (slot_ne (Or.inl (wi hw 27 rfl)) (Or.inl (wi hw 20 rfl)) (by decide) (t := (.array .long)) (t' := .int) (by decide) (by decide)))
        have f371 := f360.other W368 (Or.inr (slot_ne (Or.inl (wi hw 37 rfl)) (Or.inl (wi hw 20 rfl)) (by decide) (t := (.array .int)) (t' := .int) (by decide) (by decide)))
        have f372 := f361.other W368 (Or.inr (slot_ne (Or.inl (wi hw 39 rfl)) (Or.inl (wi hw 20 rfl)) (by decide) (t := (.array .int)) (t' := .int) (by decide) (by decide)))
        have f373 := f362.other W368 (Or.inr (slot_ne (Or.inl (wi hw 41 rfl)) (Or.inl (wi hw 20 rfl)) (by decide) (t := (.array (.array .byte))) (t' := .int) (by decide) (by decide)))
        have f374 := f363.other W368 (Or.inr (slot_ne (Or.inl (wi hw 45 rfl)) (Or.inl (wi hw 20 rfl)) (by decide) (t := (.object "java/util/BitSet")) (t' := .int) (by decide) (by decide)))
        have f375 := f364.other W368 (Ne.symm n_h)
        have f376 := V356.other W368 (Ne.symm n_a)
        have f377 := f365.other W368 (Ne.symm n_l)
        have N368 := Fr.snoc X368 N356 g_a1
        have z378 := Nat.le_trans z366 (Keep.of_wr W368).1
        refine Rch.go (U' := T368.setTop (mkF m 88 #[rv a1, iv p1, jv x2, sv, iv p4, .val .null, iv (0 : Int32), iv (3 : Int32), iv (2 : Int32)] [])) st368 ?_
        refine Rch.go (U' := T368.setTop (mkF m 89 #[rv a1, iv p1, jv x2, sv, iv p4, .val .null, iv (0 : Int32), iv (3 : Int32), iv (2 : Int32)] [(.ref a1)])) (fun _ k => XS.aloadN X368.here hx rfl (hb hby d18_88) rfl rfl k) ?_
        refine Rch.go (U' := T368.setTop (mkF m 91 #[rv a1, iv p1, jv x2, sv, iv p4, .val .null, iv (0 : Int32), iv (3 : Int32), iv (2 : Int32)] [(.int (2 : Int32)), (.ref a1)])) (fun _ k => XS.iload X368.here hx rfl (hb hby d18_89) rfl  k) ?_
        refine Rch.go (U' := T368.setTop (mkF m 92 #[rv a1, iv p1, jv x2, sv, iv p4, .val .null, iv (0 : Int32), iv (3 : Int32), iv (2 : Int32)] [(.long x2), (.int (2 : Int32)), (.ref a1)])) (fun _ k => XS.lloadN X368.here hx rfl (hb hby d18_91) rfl  k) ?_
        refine Rch.go (U' := T368.setTop (mkF m 94 #[rv a1, iv p1, jv x2, sv, iv p4, .val .null, iv (0 : Int32), iv (3 : Int32), iv (2 : Int32)] [(.int p4), (.long x2), (.int (2 : Int32)), (.ref a1)])) (fun _ k => XS.iload X368.here hx rfl (hb hby d18_92) rfl  k) ?_
        refine Rch.go (U' := T368.setTop (mkF m 96 #[rv a1, iv p1, jv x2, sv, iv p4, .val .null, iv (0 : Int32), iv (3 : Int32), iv (2 : Int32)] [.null, (.int p4), (.long x2), (.int (2 : Int32)), (.ref a1)])) (fun _ k => XS.aload X368.here hx rfl (hb hby d18_94) rfl rfl k) ?_
        refine Rch.go (U' := T368.setTop (mkF m 98 #[rv a1, iv p1, jv x2, sv, iv p4, .val .null, iv (0 : Int32), iv (3 : Int32), iv (2 : Int32)] [(.int (0 : Int32)), .null, (.int p4), (.long x2), (.int (2 : Int32)), (.ref a1)])) (fun _ k => XS.iload X368.here hx rfl (hb hby d18_96) rfl  k) ?_
        obtain ⟨cq379, kq379, q379a, q379b, q379c⟩ := isOf hZ e368 f369
        obtain ⟨_, _, ⟨T379, L379, k379, n379⟩, -, X379, ⟨Lc379, hQ379, l379, y379, z379⟩, st379⟩ := X368.virtualBack hx (y := yS) (z := yS) hown (mvT hZ (wi hw 50 rfl)) (mvT hZ (wi hw 51 rfl)) (notFace_of_selects (args := #[]) (mvT hZ (wi hw 53 rfl))) (mvT hZ (wi hw 53 rfl)) (mvT hZ (wi hw 52 rfl)) (by decide) (backOf (W := 0) (rmS2 l Z a0 hw [] a1 bh ba bl kh ka kl (cn + (1 : Int32)) gs (va.set 2 (.int p1)) vl x2 p4 h368 n0 z378 ⟨f369, F368, f370, f371, f372, f373, f374, f375, f376, f377, ⟨lg, (by rw [List.length_set, la]), ll⟩, ⟨g_a1, g_bh, g_ba, g_bl⟩, ⟨n_h, n_a, n_l⟩, n_ha, n_hl, n_al⟩) hZ (wi hw 54 rfl) (wi hw 2 rfl) (by decide) (by decide)) q379a q379c (g := (mkF m 98 #[rv a1, iv p1, jv x2, sv, iv p4, .val .null, iv (0 : Int32), iv (3 : Int32), iv (2 : Int32)] [(.int (0 : Int32)), .null, (.int p4), (.long x2), (.int (2 : Int32)), (.ref a1)])) rfl (by rw [hml]; rfl) (Steps.refl _) (argsL := [(.int (2 : Int32)), (.long x2), (.int p4), .null, (.int (0 : Int32))]) (rest := []) (lenOf pd_10 rfl) rfl (by show 2 * 0 + _ ≤ _; exact Nat.le_of_eq rfl) (hb hby d18_98) (fun _ _ => ⟨rfl, e368, (by decide : 0 + 0 ≤ _), (by decide : 0 + 0 ≤ _)⟩)
        dsimp only [Pt.U, Pt.locs, Pt.cells, Pt.slots] at X379 l379 y379 z379 st379 hQ379
        subst l379 y379 z379
        obtain ⟨rfl, N379q, K379q, Vh379, Vl379⟩ := hQ379
        have N379 := Fr.app N368 N379q
        have z380 := Nat.le_trans z378 K379q.1
        have f381 := f369.keep K379q
        have f382 := F368.keep K379q (ninS n_h (ninS n_l nin0))
        have f383 := f370.keep K379q (ninS n_h (ninS n_l nin0))
        have f384 := f371.keep K379q (ninS n_h (ninS n_l nin0))
        have f385 := f372.keep K379q (ninS n_h (ninS n_l nin0))
        have f386 := f373.keep K379q (ninS n_h (ninS n_l nin0))
        have f387 := f374.keep K379q (ninS n_h (ninS n_l nin0))
        have f388 := f376.keep K379q (ninS (Ne.symm n_ha) (ninS n_al nin0))
        refine Rch.to (U' := T379.setTop (mkF m 101 #[rv a1, iv p1, jv x2, sv, iv p4, .val .null, iv (0 : Int32), iv (3 : Int32), iv (2 : Int32)] [])) st379 ?_
        refine Rch.go (U' := T379.setTop (mkF m 103 #[rv a1, iv p1, jv x2, sv, iv p4, .val .null, iv (0 : Int32), iv (3 : Int32), iv (2 : Int32)] [(.int (2 : Int32))])) (fun _ k => XS.iload X379.here hx rfl (hb hby d18_101) rfl  k) ?_
        refine Rch.fin X379 hlk (v := some (.int (2 : Int32))) (fun h => by rw [hret] at h; cases h) rfl (by decide) (by decide) (fun fs hr => retI X379 hx hret (hb hby d18_103) hr) ?_
        have hfr : own_free gs 4 (own_s p1) = 2 := by rw [hsj]; simp only [own_free, br280, br317, br354, ↓reduceIte]
        refine ⟨_, _, by rw [hfr]; rfl, N379, z380, ⟨f381, f382, f383, f384, f385, f386, f387, (by unfold own_add; rw [hfr]; exact Vh379), f388, Vl379, ⟨by unfold own_add; rw [List.length_set, lg], by rw [List.length_set, la], by rw [List.length_set, ll]⟩, ⟨g_a1, g_bh, g_ba, g_bl⟩, ⟨n_h, n_a, n_l⟩, n_ha, n_hl, n_al⟩⟩
      ·
        refine Rch.go (U' := T352.setTop (mkF m 58 #[rv a1, iv p1, jv x2, sv, iv p4, .val .null, iv (0 : Int32), iv (3 : Int32), iv (2 : Int32)] [])) (fun _ k => XS.ifNo X352.here hx rfl (hb hby d18_55) rfl (XT.ll_eq_f br354) k) ?_
        refine Rch.go (U' := T352.setTop (mkF m 60 #[rv a1, iv p1, jv x2, sv, iv p4, .val .null, iv (0 : Int32), iv (3 : Int32), iv (2 : Int32)] [(.int (2 : Int32))])) (fun _ k => XS.iload X352.here hx rfl (hb hby d18_58) rfl  k) ?_
        refine Rch.go (U' := T352.setTop (mkF m 61 #[rv a1, iv p1, jv x2, sv, iv p4, .val .null, iv (0 : Int32), iv (3 : Int32), iv (2 : Int32)] [(.int (1 : Int32)), (.int (2 : Int32))])) (fun _ k => XS.iconst X352.here hx rfl (hb hby d18_60) k) ?_
        refine Rch.go (U' := T352.setTop (mkF m 62 #[rv a1, iv p1, jv x2, sv, iv p4, .val .null, iv (0 : Int32), iv (3 : Int32), iv (2 : Int32)] [(.int ((2 : Int32) + (1 : Int32)))])) (fun _ k => XS.iadd X352.here hx rfl (hb hby d18_61) rfl k) ?_
        rw [(by decide : ((2 : Int32) + (1 : Int32)) = (3 : Int32))]
        refine Rch.go (U' := T352.setTop (mkF m 64 #[rv a1, iv p1, jv x2, sv, iv p4, .val .null, iv (0 : Int32), iv (3 : Int32), iv (2 : Int32)] [(.int (3 : Int32)), (.int (3 : Int32))])) (fun _ k => XS.iload X352.here hx rfl (hb hby d18_62) rfl  k) ?_
        refine Rch.go (U' := T352.setTop (mkF m 65 #[rv a1, iv p1, jv x2, sv, iv p4, .val .null, iv (0 : Int32), iv (3 : Int32), iv (2 : Int32)] [(.int ((3 : Int32) &&& (3 : Int32)))])) (fun _ k => XS.iand X352.here hx rfl (hb hby d18_64) rfl k) ?_
        rw [(by decide : ((3 : Int32) &&& (3 : Int32)) = (3 : Int32))]
        refine Rch.go (U' := T352.setTop (mkF m 67 #[rv a1, iv p1, jv x2, sv, iv p4, .val .null, iv (0 : Int32), iv (3 : Int32), iv (3 : Int32)] [])) (fun _ k => XS.istore X352.here hx rfl (hb hby d18_65) rfl (l' := #[rv a1, iv p1, jv x2, sv, iv p4, .val .null, iv (0 : Int32), iv (3 : Int32), iv (3 : Int32)]) rfl k) ?_
        refine Rch.go (U' := T352.setTop (mkF m 46 #[rv a1, iv p1, jv x2, sv, iv p4, .val .null, iv (0 : Int32), iv (3 : Int32), iv (3 : Int32)] [])) (fun _ k => XS.goto X352.here hx rfl (pc0 := 67) (pc' := 46) rfl (hb hby d18_67) (by decide) (by decide) k) ?_
        refine Rch.go (U' := T352.setTop (mkF m 47 #[rv a1, iv p1, jv x2, sv, iv p4, .val .null, iv (0 : Int32), iv (3 : Int32), iv (3 : Int32)] [(.ref a1)])) (fun _ k => XS.aloadN X352.here hx rfl (hb hby d18_46) rfl rfl k) ?_
        obtain ⟨T389, X389, e389, st389⟩ := getF X352 hx hZ hown (host := "") (Or.inl (wi hw 26 rfl)) Via.refl e352 F_a1_handles (g := (mkF m 47 #[rv a1, iv p1, jv x2, sv, iv p4, .val .null, iv (0 : Int32), iv (3 : Int32), iv (3 : Int32)] [(.ref a1)])) rfl rfl (hb hby d18_47)
        refine Rch.go (U' := T389.setTop (mkF m 50 #[rv a1, iv p1, jv x2, sv, iv p4, .val .null, iv (0 : Int32), iv (3 : Int32), iv (3 : Int32)] [(.ref bh)])) st389 ?_
        refine Rch.go (U' := T389.setTop (mkF m 52 #[rv a1, iv p1, jv x2, sv, iv p4, .val .null, iv (0 : Int32), iv (3 : Int32), iv (3 : Int32)] [(.int (3 : Int32)), (.ref bh)])) (fun _ k => XS.iload X389.here hx rfl (hb hby d18_50) rfl  k) ?_
        obtain ⟨cl390, Ar390, qk390, Sz390, Mn390, Hs390, Gf390⟩ := id V_bh
        have ib390 : ¬ ((3 : Int32) < 0 ∨ cl390.slots.size ≤ ((3 : Int32)).toNatClampNeg) := inb_of Sz390 ⟨by decide, by decide⟩
        have ea390 : cl390.slots[((3 : Int32)).toNatClampNeg]? = some (.long (gs.getD 3 0)) := Has.at Hs390 ib390 (own_getJ gs 3)
        refine Rch.go (U' := T389.setTop (mkF m 53 #[rv a1, iv p1, jv x2, sv, iv p4, .val .null, iv (0 : Int32), iv (3 : Int32), iv (3 : Int32)] [(.long (gs.getD 3 0))])) (fun _ k => X389.laload hx (j := (3 : Int32)) (v := (.long (gs.getD 3 0))) (by rw [e389]; exact Ar390.1) (State.isArrayOf_alike hZ.alike Ar390.2.1) Ar390.2.2 ib390 ea390 (g := (mkF m 52 #[rv a1, iv p1, jv x2, sv, iv p4, .val .null, iv (0 : Int32), iv (3 : Int32), iv (3 : Int32)] [(.int (3 : Int32)), (.ref bh)])) rfl rfl (hb hby d18_52) _ k) ?_
        refine Rch.go (U' := T389.setTop (mkF m 54 #[rv a1, iv p1, jv x2, sv, iv p4, .val .null, iv (0 : Int32), iv (3 : Int32), iv (3 : Int32)] [(.long (0 : Int64)), (.long (gs.getD 3 0))])) (fun _ k => XS.lconst X389.here hx rfl (hb hby d18_53) k) ?_
        refine Rch.go (U' := T389.setTop (mkF m 55 #[rv a1, iv p1, jv x2, sv, iv p4, .val .null, iv (0 : Int32), iv (3 : Int32), iv (3 : Int32)] [(.int (XT.cmpL (gs.getD 3 0) (0 : Int64)))])) (fun _ k => XT.lcmp X389.here hx rfl (hb hby d18_54) rfl k) ?_
        have br391 : (gs.getD 3 0) = (0 : Int64) := (by rcases hz with q | q | q | q <;> first | exact q | exact absurd q br280 | exact absurd q br317 | exact absurd q br354)
        refine Rch.go (U' := T389.setTop (mkF m 70 #[rv a1, iv p1, jv x2, sv, iv p4, .val .null, iv (0 : Int32), iv (3 : Int32), iv (3 : Int32)] [])) (fun _ k => XS.ifYes X389.here hx rfl (pc0 := 55) (pc' := 70) rfl (hb hby d18_55) rfl (XT.ll_eq_t br391) (by decide) (by decide) k) ?_
        refine Rch.go (U' := T389.setTop (mkF m 71 #[rv a1, iv p1, jv x2, sv, iv p4, .val .null, iv (0 : Int32), iv (3 : Int32), iv (3 : Int32)] [(.ref a1)])) (fun _ k => XS.aloadN X389.here hx rfl (hb hby d18_70) rfl rfl k) ?_
        obtain ⟨T392, X392, e392, st392⟩ := getF X389 hx hZ hown (host := "") (Or.inl (wi hw 36 rfl)) Via.refl e389 F_a1_hashes (g := (mkF m 71 #[rv a1, iv p1, jv x2, sv, iv p4, .val .null, iv (0 : Int32), iv (3 : Int32), iv (3 : Int32)] [(.ref a1)])) rfl rfl (hb hby d18_71)
        refine Rch.go (U' := T392.setTop (mkF m 74 #[rv a1, iv p1, jv x2, sv, iv p4, .val .null, iv (0 : Int32), iv (3 : Int32), iv (3 : Int32)] [(.ref ba)])) st392 ?_
        refine Rch.go (U' := T392.setTop (mkF m 76 #[rv a1, iv p1, jv x2, sv, iv p4, .val .null, iv (0 : Int32), iv (3 : Int32), iv (3 : Int32)] [(.int (3 : Int32)), (.ref ba)])) (fun _ k => XS.iload X392.here hx rfl (hb hby d18_74) rfl  k) ?_
        refine Rch.go (U' := T392.setTop (mkF m 77 #[rv a1, iv p1, jv x2, sv, iv p4, .val .null, iv (0 : Int32), iv (3 : Int32), iv (3 : Int32)] [(.int p1), (.int (3 : Int32)), (.ref ba)])) (fun _ k => XS.iloadN X392.here hx rfl (hb hby d18_76) rfl  k) ?_
        obtain ⟨cl393, Ar393, qk393, Sz393, Mn393, Hs393, Gf393⟩ := id V_ba
        have ib393 : ¬ ((3 : Int32) < 0 ∨ cl393.slots.size ≤ ((3 : Int32)).toNatClampNeg) := inb_of Sz393 ⟨by decide, by decide⟩
        obtain ⟨T393, h393, X393, e393, W393, st393⟩ := stI X392 hx hZ e392 Ar393 (j := (3 : Int32)) ib393 (g := (mkF m 77 #[rv a1, iv p1, jv x2, sv, iv p4, .val .null, iv (0 : Int32), iv (3 : Int32), iv (3 : Int32)] [(.int p1), (.int (3 : Int32)), (.ref ba)])) rfl rfl (hb hby d18_77)
        have V393 : Arv Z h393 ba ka .int (4 : Int32) (va.set 3 (.int p1)) (.int (0 : Int32)) := Arv.set Ar393 qk393 Sz393 Mn393 Hs393 Gf393 rfl W393 3 rfl (by rw [la]; decide)
        have f394 := E_a1.wr W393
        have f395 := F_a1_count.other W393 (Or.inl n_a)
        have f396 := F_a1_handles.other W393 (Or.inl n_a)
        have f397 := F_a1_hashes.other W393 (Or.inl n_a)
        have f398 := F_a1_lengths.other W393 (Or.inl n_a)
        have f399 := F_a1_outside.other W393 (Or.inl n_a)
        have f400 := F_a1_expiries.other W393 (Or.inl n_a)
        have f401 := V_bh.other W393 n_ha
        have f402 := V_bl.other W393 (Ne.symm n_al)
        have N393 := Fr.snoc X393 N0 g_ba
        have z403 := Nat.le_trans Z0 (Keep.of_wr W393).1
        refine Rch.go (U' := T393.setTop (mkF m 78 #[rv a1, iv p1, jv x2, sv, iv p4, .val .null, iv (0 : Int32), iv (3 : Int32), iv (3 : Int32)] [])) st393 ?_
        refine Rch.go (U' := T393.setTop (mkF m 79 #[rv a1, iv p1, jv x2, sv, iv p4, .val .null, iv (0 : Int32), iv (3 : Int32), iv (3 : Int32)] [(.ref a1)])) (fun _ k => XS.aloadN X393.here hx rfl (hb hby d18_78) rfl rfl k) ?_
        refine Rch.go (U' := T393.setTop (mkF m 80 #[rv a1, iv p1, jv x2, sv, iv p4, .val .null, iv (0 : Int32), iv (3 : Int32), iv (3 : Int32)] [(.ref a1), (.ref a1)])) (fun _ k => XS.dup X393.here hx rfl (hb hby d18_79) rfl rfl k) ?_
        obtain ⟨T404, X404, e404, st404⟩ := getF X393 hx hZ hown (host := "") (Or.inl (wi hw 19 rfl)) Via.refl e393 f395 (g := (mkF m 80 #[rv a1, iv p1, jv x2, sv, iv p4, .val .null, iv (0 : Int32), iv (3 : Int32), iv (3 : Int32)] [(.ref a1), (.ref a1)])) rfl rfl (hb hby d18_80)
        refine Rch.go (U' := T404.setTop (mkF m 83 #[rv a1, iv p1, jv x2, sv, iv p4, .val .null, iv (0 : Int32), iv (3 : Int32), iv (3 : Int32)] [(.int cn), (.ref a1)])) st404 ?_
        refine Rch.go (U' := T404.setTop (mkF m 84 #[rv a1, iv p1, jv x2, sv, iv p4, .val .null, iv (0 : Int32), iv (3 : Int32), iv (3 : Int32)] [(.int (1 : Int32)), (.int cn), (.ref a1)])) (fun _ k => XS.iconst X404.here hx rfl (hb hby d18_83) k) ?_
        refine Rch.go (U' := T404.setTop (mkF m 85 #[rv a1, iv p1, jv x2, sv, iv p4, .val .null, iv (0 : Int32), iv (3 : Int32), iv (3 : Int32)] [(.int (cn + (1 : Int32))), (.ref a1)])) (fun _ k => XS.iadd X404.here hx rfl (hb hby d18_84) rfl k) ?_
        obtain ⟨T405, h405, X405, e405, W405, st405⟩ := putF X404 hx hZ hown (host := "") (Or.inl (wi hw 19 rfl)) Via.refl e404 f395 f394 (Or.inl (wi hw 20 rfl)) (wi hw 1 rfl) (ty := .int) (by decide) rfl rfl (g := (mkF m 85 #[rv a1, iv p1, jv x2, sv, iv p4, .val .null, iv (0 : Int32), iv (3 : Int32), iv (3 : Int32)] [(.int (cn + (1 : Int32))), (.ref a1)])) rfl rfl (hb hby d18_85)
        have F405 := f395.same W405
        have f406 := f394.wr W405
        have f407 := f396.other W405 (Or.inr (slot_ne (Or.inl (wi hw 27 rfl)) (Or.inl (wi hw 20 rfl)) (by decide) (t := (.array .long)) (t' := .int) (by decide) (by decide)))
        have f408 := f397.other W405 (Or.inr (slot_ne (Or.inl (wi hw 37 rfl)) (Or.inl (wi hw 20 rfl)) (by decide) (t := (.array .int)) (t' := .int) (by decide) (by decide)))
        have f409 := f398.other W405 (Or.inr (slot_ne (Or.inl (wi hw 39 rfl)) (Or.inl (wi hw 20 rfl)) (by decide) (t := (.array .int)) (t' := .int) (by decide) (by decide)))
        have f410 := f399.other W405 (Or.inr (slot_ne (Or.inl (wi hw 41 rfl)) (Or.inl (wi hw 20 rfl)) (by decide) (t := (.array (.array .byte))) (t' := .int) (by decide) (by decide)))
        have f411 := f400.other W405 (Or.inr (slot_ne (Or.inl (wi hw 45 rfl)) (Or.inl (wi hw 20 rfl)) (by decide) (t := (.object "java/util/BitSet")) (t' := .int) (by decide) (by decide)))
        have f412 := f401.other W405 (Ne.symm n_h)
        have f413 := V393.other W405 (Ne.symm n_a)
        have f414 := f402.other W405 (Ne.symm n_l)
        have N405 := Fr.snoc X405 N393 g_a1
        have z415 := Nat.le_trans z403 (Keep.of_wr W405).1
        refine Rch.go (U' := T405.setTop (mkF m 88 #[rv a1, iv p1, jv x2, sv, iv p4, .val .null, iv (0 : Int32), iv (3 : Int32), iv (3 : Int32)] [])) st405 ?_
        refine Rch.go (U' := T405.setTop (mkF m 89 #[rv a1, iv p1, jv x2, sv, iv p4, .val .null, iv (0 : Int32), iv (3 : Int32), iv (3 : Int32)] [(.ref a1)])) (fun _ k => XS.aloadN X405.here hx rfl (hb hby d18_88) rfl rfl k) ?_
        refine Rch.go (U' := T405.setTop (mkF m 91 #[rv a1, iv p1, jv x2, sv, iv p4, .val .null, iv (0 : Int32), iv (3 : Int32), iv (3 : Int32)] [(.int (3 : Int32)), (.ref a1)])) (fun _ k => XS.iload X405.here hx rfl (hb hby d18_89) rfl  k) ?_
        refine Rch.go (U' := T405.setTop (mkF m 92 #[rv a1, iv p1, jv x2, sv, iv p4, .val .null, iv (0 : Int32), iv (3 : Int32), iv (3 : Int32)] [(.long x2), (.int (3 : Int32)), (.ref a1)])) (fun _ k => XS.lloadN X405.here hx rfl (hb hby d18_91) rfl  k) ?_
        refine Rch.go (U' := T405.setTop (mkF m 94 #[rv a1, iv p1, jv x2, sv, iv p4, .val .null, iv (0 : Int32), iv (3 : Int32), iv (3 : Int32)] [(.int p4), (.long x2), (.int (3 : Int32)), (.ref a1)])) (fun _ k => XS.iload X405.here hx rfl (hb hby d18_92) rfl  k) ?_
        refine Rch.go (U' := T405.setTop (mkF m 96 #[rv a1, iv p1, jv x2, sv, iv p4, .val .null, iv (0 : Int32), iv (3 : Int32), iv (3 : Int32)] [.null, (.int p4), (.long x2), (.int (3 : Int32)), (.ref a1)])) (fun _ k => XS.aload X405.here hx rfl (hb hby d18_94) rfl rfl k) ?_
        refine Rch.go (U' := T405.setTop (mkF m 98 #[rv a1, iv p1, jv x2, sv, iv p4, .val .null, iv (0 : Int32), iv (3 : Int32), iv (3 : Int32)] [(.int (0 : Int32)), .null, (.int p4), (.long x2), (.int (3 : Int32)), (.ref a1)])) (fun _ k => XS.iload X405.here hx rfl (hb hby d18_96) rfl  k) ?_
        obtain ⟨cq416, kq416, q416a, q416b, q416c⟩ := isOf hZ e405 f406
        obtain ⟨_, _, ⟨T416, L416, k416, n416⟩, -, X416, ⟨Lc416, hQ416, l416, y416, z416⟩, st416⟩ := X405.virtualBack hx (y := yS) (z := yS) hown (mvT hZ (wi hw 50 rfl)) (mvT hZ (wi hw 51 rfl)) (notFace_of_selects (args := #[]) (mvT hZ (wi hw 53 rfl))) (mvT hZ (wi hw 53 rfl)) (mvT hZ (wi hw 52 rfl)) (by decide) (backOf (W := 0) (rmS3 l Z a0 hw [] a1 bh ba bl kh ka kl (cn + (1 : Int32)) gs (va.set 3 (.int p1)) vl x2 p4 h405 n0 z415 ⟨f406, F405, f407, f408, f409, f410, f411, f412, f413, f414, ⟨lg, (by rw [List.length_set, la]), ll⟩, ⟨g_a1, g_bh, g_ba, g_bl⟩, ⟨n_h, n_a, n_l⟩, n_ha, n_hl, n_al⟩) hZ (wi hw 54 rfl) (wi hw 2 rfl) (by decide) (by decide)) q416a q416c (g := (mkF m 98 #[rv a1, iv p1, jv x2, sv, iv p4, .val .null, iv (0 : Int32), iv (3 : Int32), iv (3 : Int32)] [(.int (0 : Int32)), .null, (.int p4), (.long x2), (.int (3 : Int32)), (.ref a1)])) rfl (by rw [hml]; rfl) (Steps.refl _) (argsL := [(.int (3 : Int32)), (.long x2), (.int p4), .null, (.int (0 : Int32))]) (rest := []) (lenOf pd_10 rfl) rfl (by show 2 * 0 + _ ≤ _; exact Nat.le_of_eq rfl) (hb hby d18_98) (fun _ _ => ⟨rfl, e405, (by decide : 0 + 0 ≤ _), (by decide : 0 + 0 ≤ _)⟩)
        dsimp only [Pt.U, Pt.locs, Pt.cells, Pt.slots] at X416 l416 y416 z416 st416 hQ416
        subst l416 y416 z416
        obtain ⟨rfl, N416q, K416q, Vh416, Vl416⟩ := hQ416
        have N416 := Fr.app N405 N416q
        have z417 := Nat.le_trans z415 K416q.1
        have f418 := f406.keep K416q
        have f419 := F405.keep K416q (ninS n_h (ninS n_l nin0))
        have f420 := f407.keep K416q (ninS n_h (ninS n_l nin0))
        have f421 := f408.keep K416q (ninS n_h (ninS n_l nin0))
        have f422 := f409.keep K416q (ninS n_h (ninS n_l nin0))
        have f423 := f410.keep K416q (ninS n_h (ninS n_l nin0))
        have f424 := f411.keep K416q (ninS n_h (ninS n_l nin0))
        have f425 := f413.keep K416q (ninS (Ne.symm n_ha) (ninS n_al nin0))
        refine Rch.to (U' := T416.setTop (mkF m 101 #[rv a1, iv p1, jv x2, sv, iv p4, .val .null, iv (0 : Int32), iv (3 : Int32), iv (3 : Int32)] [])) st416 ?_
        refine Rch.go (U' := T416.setTop (mkF m 103 #[rv a1, iv p1, jv x2, sv, iv p4, .val .null, iv (0 : Int32), iv (3 : Int32), iv (3 : Int32)] [(.int (3 : Int32))])) (fun _ k => XS.iload X416.here hx rfl (hb hby d18_101) rfl  k) ?_
        refine Rch.fin X416 hlk (v := some (.int (3 : Int32))) (fun h => by rw [hret] at h; cases h) rfl (by decide) (by decide) (fun fs hr => retI X416 hx hret (hb hby d18_103) hr) ?_
        have hfr : own_free gs 4 (own_s p1) = 3 := by rw [hsj]; simp only [own_free, br280, br317, br354, br391, ↓reduceIte]
        refine ⟨_, _, by rw [hfr]; rfl, N416, z417, ⟨f418, f419, f420, f421, f422, f423, f424, (by unfold own_add; rw [hfr]; exact Vh416), f425, Vl416, ⟨by unfold own_add; rw [List.length_set, lg], by rw [List.length_set, la], by rw [List.length_set, ll]⟩, ⟨g_a1, g_bh, g_ba, g_bl⟩, ⟨n_h, n_a, n_l⟩, n_ha, n_hl, n_al⟩⟩
set_option maxRecDepth 65536 in
set_option maxHeartbeats 40000000 in
theorem tailN1 {p : Program} {l : Launch} {e : Env} {s : State} {m : MethodId} {args : Array Value} {below : List Frame} {meth : Method} {c : Code} {T0 : State} {locs : List Loc} {Z : State} {a0 : Array Value} {h0 : Heap} {n0 : Nat}  (a1 : Addr) (bh : Addr) (ba : Addr) (bl : Addr) (kh : ClassId) (ka : ClassId) (kl : ClassId) (cn : Int32) (gs : List Int64) (va : List Value) (vl : List Value) (p1 : Int32) (x2 : Int64) (p4 : Int32)
    (X0 : Stand p l e ({ frames := 2, cells := 3, slots := 12, locals := 64 } : Room) s m args below meth c T0 locs 0 0) (hx : p.tables.exec = Jvm.exec) (hZ : Z.Warmed39 s.vm) (hw : ∀ d ∈ tables_1, d.before a0 Z = true) (hby : c.code = prog_36_method_17_code) (hml : c.maxLocals = 9) (hown : s.vm.findClass cST = some m.cls) (hret : meth.sig.returnType = some .int) (hlk : meth.locks = false) (e0 : T0.heap = h0) (N0 : Fr n0 locs) (Z0 : n0 ≤ h0.size) (B : Tb Z h0 n0 a1 bh ba bl kh ka kl cn gs va vl) (hz : gs.getD 0 0 = 0 ∨ gs.getD 1 0 = 0 ∨ gs.getD 2 0 = 0 ∨ gs.getD 3 0 = 0) (hsj : own_s p1 = 1) :
    Rch p e below (Fin s below (fun v h L => ∃ (va' vl' : List Value), v = some (.int (Int32.ofNat (own_free gs 4 (own_s p1)))) ∧ Fr n0 L ∧ n0 ≤ h.size ∧ Tb Z h n0 a1 bh ba bl kh ka kl (cn + (1 : Int32)) (own_add gs (own_s p1) x2) va' vl') 3 12) (T0.setTop (mkF m 46 #[rv a1, iv p1, jv x2, sv, iv p4, .val .null, iv (0 : Int32), iv (3 : Int32), iv (1 : Int32)] [])) := by
  obtain ⟨E_a1, F_a1_count, F_a1_handles, F_a1_hashes, F_a1_lengths, F_a1_outside, F_a1_expiries, V_bh, V_ba, V_bl, ⟨lg, la, ll⟩, ⟨g_a1, g_bh, g_ba, g_bl⟩, ⟨n_h, n_a, n_l⟩, n_ha, n_hl, n_al⟩ := B
  refine Rch.go (U' := T0.setTop (mkF m 47 #[rv a1, iv p1, jv x2, sv, iv p4, .val .null, iv (0 : Int32), iv (3 : Int32), iv (1 : Int32)] [(.ref a1)])) (fun _ k => XS.aloadN X0.here hx rfl (hb hby d18_46) rfl rfl k) ?_
  obtain ⟨T426, X426, e426, st426⟩ := getF X0 hx hZ hown (host := "") (Or.inl (wi hw 26 rfl)) Via.refl e0 F_a1_handles (g := (mkF m 47 #[rv a1, iv p1, jv x2, sv, iv p4, .val .null, iv (0 : Int32), iv (3 : Int32), iv (1 : Int32)] [(.ref a1)])) rfl rfl (hb hby d18_47)
  refine Rch.go (U' := T426.setTop (mkF m 50 #[rv a1, iv p1, jv x2, sv, iv p4, .val .null, iv (0 : Int32), iv (3 : Int32), iv (1 : Int32)] [(.ref bh)])) st426 ?_
  refine Rch.go (U' := T426.setTop (mkF m 52 #[rv a1, iv p1, jv x2, sv, iv p4, .val .null, iv (0 : Int32), iv (3 : Int32), iv (1 : Int32)] [(.int (1 : Int32)), (.ref bh)])) (fun _ k => XS.iload X426.here hx rfl (hb hby d18_50) rfl  k) ?_
  obtain ⟨cl427, Ar427, qk427, Sz427, Mn427, Hs427, Gf427⟩ := id V_bh
  have ib427 : ¬ ((1 : Int32) < 0 ∨ cl427.slots.size ≤ ((1 : Int32)).toNatClampNeg) := inb_of Sz427 ⟨by decide, by decide⟩
  have ea427 : cl427.slots[((1 : Int32)).toNatClampNeg]? = some (.long (gs.getD 1 0)) := Has.at Hs427 ib427 (own_getJ gs 1)
  refine Rch.go (U' := T426.setTop (mkF m 53 #[rv a1, iv p1, jv x2, sv, iv p4, .val .null, iv (0 : Int32), iv (3 : Int32), iv (1 : Int32)] [(.long (gs.getD 1 0))])) (fun _ k => X426.laload hx (j := (1 : Int32)) (v := (.long (gs.getD 1 0))) (by rw [e426]; exact Ar427.1) (State.isArrayOf_alike hZ.alike Ar427.2.1) Ar427.2.2 ib427 ea427 (g := (mkF m 52 #[rv a1, iv p1, jv x2, sv, iv p4, .val .null, iv (0 : Int32), iv (3 : Int32), iv (1 : Int32)] [(.int (1 : Int32)), (.ref bh)])) rfl rfl (hb hby d18_52) _ k) ?_
  refine Rch.go (U' := T426.setTop (mkF m 54 #[rv a1, iv p1, jv x2, sv, iv p4, .val .null, iv (0 : Int32), iv (3 : Int32), iv (1 : Int32)] [(.long (0 : Int64)), (.long (gs.getD 1 0))])) (fun _ k => XS.lconst X426.here hx rfl (hb hby d18_53) k) ?_
  refine Rch.go (U' := T426.setTop (mkF m 55 #[rv a1, iv p1, jv x2, sv, iv p4, .val .null, iv (0 : Int32), iv (3 : Int32), iv (1 : Int32)] [(.int (XT.cmpL (gs.getD 1 0) (0 : Int64)))])) (fun _ k => XT.lcmp X426.here hx rfl (hb hby d18_54) rfl k) ?_
  by_cases br428 : (gs.getD 1 0) = (0 : Int64)
  ·
    refine Rch.go (U' := T426.setTop (mkF m 70 #[rv a1, iv p1, jv x2, sv, iv p4, .val .null, iv (0 : Int32), iv (3 : Int32), iv (1 : Int32)] [])) (fun _ k => XS.ifYes X426.here hx rfl (pc0 := 55) (pc' := 70) rfl (hb hby d18_55) rfl (XT.ll_eq_t br428) (by decide) (by decide) k) ?_
    refine Rch.go (U' := T426.setTop (mkF m 71 #[rv a1, iv p1, jv x2, sv, iv p4, .val .null, iv (0 : Int32), iv (3 : Int32), iv (1 : Int32)] [(.ref a1)])) (fun _ k => XS.aloadN X426.here hx rfl (hb hby d18_70) rfl rfl k) ?_
    obtain ⟨T429, X429, e429, st429⟩ := getF X426 hx hZ hown (host := "") (Or.inl (wi hw 36 rfl)) Via.refl e426 F_a1_hashes (g := (mkF m 71 #[rv a1, iv p1, jv x2, sv, iv p4, .val .null, iv (0 : Int32), iv (3 : Int32), iv (1 : Int32)] [(.ref a1)])) rfl rfl (hb hby d18_71)
    refine Rch.go (U' := T429.setTop (mkF m 74 #[rv a1, iv p1, jv x2, sv, iv p4, .val .null, iv (0 : Int32), iv (3 : Int32), iv (1 : Int32)] [(.ref ba)])) st429 ?_
    refine Rch.go (U' := T429.setTop (mkF m 76 #[rv a1, iv p1, jv x2, sv, iv p4, .val .null, iv (0 : Int32), iv (3 : Int32), iv (1 : Int32)] [(.int (1 : Int32)), (.ref ba)])) (fun _ k => XS.iload X429.here hx rfl (hb hby d18_74) rfl  k) ?_
    refine Rch.go (U' := T429.setTop (mkF m 77 #[rv a1, iv p1, jv x2, sv, iv p4, .val .null, iv (0 : Int32), iv (3 : Int32), iv (1 : Int32)] [(.int p1), (.int (1 : Int32)), (.ref ba)])) (fun _ k => XS.iloadN X429.here hx rfl (hb hby d18_76) rfl  k) ?_
    obtain ⟨cl430, Ar430, qk430, Sz430, Mn430, Hs430, Gf430⟩ := id V_ba
    have ib430 : ¬ ((1 : Int32) < 0 ∨ cl430.slots.size ≤ ((1 : Int32)).toNatClampNeg) := inb_of Sz430 ⟨by decide, by decide⟩
    obtain ⟨T430, h430, X430, e430, W430, st430⟩ := stI X429 hx hZ e429 Ar430 (j := (1 : Int32)) ib430 (g := (mkF m 77 #[rv a1, iv p1, jv x2, sv, iv p4, .val .null, iv (0 : Int32), iv (3 : Int32), iv (1 : Int32)] [(.int p1), (.int (1 : Int32)), (.ref ba)])) rfl rfl (hb hby d18_77)
    have V430 : Arv Z h430 ba ka .int (4 : Int32) (va.set 1 (.int p1)) (.int (0 : Int32)) := Arv.set Ar430 qk430 Sz430 Mn430 Hs430 Gf430 rfl W430 1 rfl (by rw [la]; decide)
    have f431 := E_a1.wr W430
    have f432 := F_a1_count.other W430 (Or.inl n_a)
    have f433 := F_a1_handles.other W430 (Or.inl n_a)
    have f434 := F_a1_hashes.other W430 (Or.inl n_a)
    have f435 := F_a1_lengths.other W430 (Or.inl n_a)
    have f436 := F_a1_outside.other W430 (Or.inl n_a)
    have f437 := F_a1_expiries.other W430 (Or.inl n_a)
    have f438 := V_bh.other W430 n_ha
    have f439 := V_bl.other W430 (Ne.symm n_al)
    have N430 := Fr.snoc X430 N0 g_ba
    have z440 := Nat.le_trans Z0 (Keep.of_wr W430).1
    refine Rch.go (U' := T430.setTop (mkF m 78 #[rv a1, iv p1, jv x2, sv, iv p4, .val .null, iv (0 : Int32), iv (3 : Int32), iv (1 : Int32)] [])) st430 ?_
    refine Rch.go (U' := T430.setTop (mkF m 79 #[rv a1, iv p1, jv x2, sv, iv p4, .val .null, iv (0 : Int32), iv (3 : Int32), iv (1 : Int32)] [(.ref a1)])) (fun _ k => XS.aloadN X430.here hx rfl (hb hby d18_78) rfl rfl k) ?_
    refine Rch.go (U' := T430.setTop (mkF m 80 #[rv a1, iv p1, jv x2, sv, iv p4, .val .null, iv (0 : Int32), iv (3 : Int32), iv (1 : Int32)] [(.ref a1), (.ref a1)])) (fun _ k => XS.dup X430.here hx rfl (hb hby d18_79) rfl rfl k) ?_
    obtain ⟨T441, X441, e441, st441⟩ := getF X430 hx hZ hown (host := "") (Or.inl (wi hw 19 rfl)) Via.refl e430 f432 (g := (mkF m 80 #[rv a1, iv p1, jv x2, sv, iv p4, .val .null, iv (0 : Int32), iv (3 : Int32), iv (1 : Int32)] [(.ref a1), (.ref a1)])) rfl rfl (hb hby d18_80)
    refine Rch.go (U' := T441.setTop (mkF m 83 #[rv a1, iv p1, jv x2, sv, iv p4, .val .null, iv (0 : Int32), iv (3 : Int32), iv (1 : Int32)] [(.int cn), (.ref a1)])) st441 ?_
    refine Rch.go (U' := T441.setTop (mkF m 84 #[rv a1, iv p1, jv x2, sv, iv p4, .val .null, iv (0 : Int32), iv (3 : Int32), iv (1 : Int32)] [(.int (1 : Int32)), (.int cn), (.ref a1)])) (fun _ k => XS.iconst X441.here hx rfl (hb hby d18_83) k) ?_
    refine Rch.go (U' := T441.setTop (mkF m 85 #[rv a1, iv p1, jv x2, sv, iv p4, .val .null, iv (0 : Int32), iv (3 : Int32), iv (1 : Int32)] [(.int (cn + (1 : Int32))), (.ref a1)])) (fun _ k => XS.iadd X441.here hx rfl (hb hby d18_84) rfl k) ?_
    obtain ⟨T442, h442, X442, e442, W442, st442⟩ := putF X441 hx hZ hown (host := "") (Or.inl (wi hw 19 rfl)) Via.refl e441 f432 f431 (Or.inl (wi hw 20 rfl)) (wi hw 1 rfl) (ty := .int) (by decide) rfl rfl (g := (mkF m 85 #[rv a1, iv p1, jv x2, sv, iv p4, .val .null, iv (0 : Int32), iv (3 : Int32), iv (1 : Int32)] [(.int (cn + (1 : Int32))), (.ref a1)])) rfl rfl (hb hby d18_85)
    have F442 := f432.same W442
    have f443 := f431.wr W442
    have f444 := f433.other W442 (Or.inr (slot_ne (Or.inl (wi hw 27 rfl)) (Or.inl (wi hw 20 rfl)) (by decide) (t := (.array .long)) (t' := .int) (by decide) (by decide)))
    have f445 := f434.other W442 (Or.inr (slot_ne (Or.inl (wi hw 37 rfl)) (Or.inl (wi hw 20 rfl)) (by decide) (t := (.array .int)) (t' := .int) (by decide) (by decide)))
    have f446 := f435.other W442 (Or.inr (slot_ne (Or.inl (wi hw 39 rfl)) (Or.inl (wi hw 20 rfl)) (by decide) (t := (.array .int)) (t' := .int) (by decide) (by decide)))
    have f447 := f436.other W442 (Or.inr (slot_ne (Or.inl (wi hw 41 rfl)) (Or.inl (wi hw 20 rfl)) (by decide) (t := (.array (.array .byte))) (t' := .int) (by decide) (by decide)))
    have f448 := f437.other W442 (Or.inr (slot_ne (Or.inl (wi hw 45 rfl)) (Or.inl (wi hw 20 rfl)) (by decide) (t := (.object "java/util/BitSet")) (t' := .int) (by decide) (by decide)))
    have f449 := f438.other W442 (Ne.symm n_h)
    have f450 := V430.other W442 (Ne.symm n_a)
    have f451 := f439.other W442 (Ne.symm n_l)
    have N442 := Fr.snoc X442 N430 g_a1
    have z452 := Nat.le_trans z440 (Keep.of_wr W442).1
    refine Rch.go (U' := T442.setTop (mkF m 88 #[rv a1, iv p1, jv x2, sv, iv p4, .val .null, iv (0 : Int32), iv (3 : Int32), iv (1 : Int32)] [])) st442 ?_
    refine Rch.go (U' := T442.setTop (mkF m 89 #[rv a1, iv p1, jv x2, sv, iv p4, .val .null, iv (0 : Int32), iv (3 : Int32), iv (1 : Int32)] [(.ref a1)])) (fun _ k => XS.aloadN X442.here hx rfl (hb hby d18_88) rfl rfl k) ?_
    refine Rch.go (U' := T442.setTop (mkF m 91 #[rv a1, iv p1, jv x2, sv, iv p4, .val .null, iv (0 : Int32), iv (3 : Int32), iv (1 : Int32)] [(.int (1 : Int32)), (.ref a1)])) (fun _ k => XS.iload X442.here hx rfl (hb hby d18_89) rfl  k) ?_
    refine Rch.go (U' := T442.setTop (mkF m 92 #[rv a1, iv p1, jv x2, sv, iv p4, .val .null, iv (0 : Int32), iv (3 : Int32), iv (1 : Int32)] [(.long x2), (.int (1 : Int32)), (.ref a1)])) (fun _ k => XS.lloadN X442.here hx rfl (hb hby d18_91) rfl  k) ?_
    refine Rch.go (U' := T442.setTop (mkF m 94 #[rv a1, iv p1, jv x2, sv, iv p4, .val .null, iv (0 : Int32), iv (3 : Int32), iv (1 : Int32)] [(.int p4), (.long x2), (.int (1 : Int32)), (.ref a1)])) (fun _ k => XS.iload X442.here hx rfl (hb hby d18_92) rfl  k) ?_
    refine Rch.go (U' := T442.setTop (mkF m 96 #[rv a1, iv p1, jv x2, sv, iv p4, .val .null, iv (0 : Int32), iv (3 : Int32), iv (1 : Int32)] [.null, (.int p4), (.long x2), (.int (1 : Int32)), (.ref a1)])) (fun _ k => XS.aload X442.here hx rfl (hb hby d18_94) rfl rfl k) ?_
    refine Rch.go (U' := T442.setTop (mkF m 98 #[rv a1, iv p1, jv x2, sv, iv p4, .val .null, iv (0 : Int32), iv (3 : Int32), iv (1 : Int32)] [(.int (0 : Int32)), .null, (.int p4), (.long x2), (.int (1 : Int32)), (.ref a1)])) (fun _ k => XS.iload X442.here hx rfl (hb hby d18_96) rfl  k) ?_
    obtain ⟨cq453, kq453, q453a, q453b, q453c⟩ := isOf hZ e442 f443
    obtain ⟨_, _, ⟨T453, L453, k453, n453⟩, -, X453, ⟨Lc453, hQ453, l453, y453, z453⟩, st453⟩ := X442.virtualBack hx (y := yS) (z := yS) hown (mvT hZ (wi hw 50 rfl)) (mvT hZ (wi hw 51 rfl)) (notFace_of_selects (args := #[]) (mvT hZ (wi hw 53 rfl))) (mvT hZ (wi hw 53 rfl)) (mvT hZ (wi hw 52 rfl)) (by decide) (backOf (W := 0) (rmS1 l Z a0 hw [] a1 bh ba bl kh ka kl (cn + (1 : Int32)) gs (va.set 1 (.int p1)) vl x2 p4 h442 n0 z452 ⟨f443, F442, f444, f445, f446, f447, f448, f449, f450, f451, ⟨lg, (by rw [List.length_set, la]), ll⟩, ⟨g_a1, g_bh, g_ba, g_bl⟩, ⟨n_h, n_a, n_l⟩, n_ha, n_hl, n_al⟩) hZ (wi hw 54 rfl) (wi hw 2 rfl) (by decide) (by decide)) q453a q453c (g := (mkF m 98 #[rv a1, iv p1, jv x2, sv, iv p4, .val .null, iv (0 : Int32), iv (3 : Int32), iv (1 : Int32)] [(.int (0 : Int32)), .null, (.int p4), (.long x2), (.int (1 : Int32)), (.ref a1)])) rfl (by rw [hml]; rfl) (Steps.refl _) (argsL := [(.int (1 : Int32)), (.long x2), (.int p4), .null, (.int (0 : Int32))]) (rest := []) (lenOf pd_10 rfl) rfl (by show 2 * 0 + _ ≤ _; exact Nat.le_of_eq rfl) (hb hby d18_98) (fun _ _ => ⟨rfl, e442, (by decide : 0 + 0 ≤ _), (by decide : 0 + 0 ≤ _)⟩)
    dsimp only [Pt.U, Pt.locs, Pt.cells, Pt.slots] at X453 l453 y453 z453 st453 hQ453
    subst l453 y453 z453
    obtain ⟨rfl, N453q, K453q, Vh453, Vl453⟩ := hQ453
    have N453 := Fr.app N442 N453q
    have z454 := Nat.le_trans z452 K453q.1
    have f455 := f443.keep K453q
    have f456 := F442.keep K453q (ninS n_h (ninS n_l nin0))
    have f457 := f444.keep K453q (ninS n_h (ninS n_l nin0))
    have f458 := f445.keep K453q (ninS n_h (ninS n_l nin0))
    have f459 := f446.keep K453q (ninS n_h (ninS n_l nin0))
    have f460 := f447.keep K453q (ninS n_h (ninS n_l nin0))
    have f461 := f448.keep K453q (ninS n_h (ninS n_l nin0))
    have f462 := f450.keep K453q (ninS (Ne.symm n_ha) (ninS n_al nin0))
    refine Rch.to (U' := T453.setTop (mkF m 101 #[rv a1, iv p1, jv x2, sv, iv p4, .val .null, iv (0 : Int32), iv (3 : Int32), iv (1 : Int32)] [])) st453 ?_
    refine Rch.go (U' := T453.setTop (mkF m 103 #[rv a1, iv p1, jv x2, sv, iv p4, .val .null, iv (0 : Int32), iv (3 : Int32), iv (1 : Int32)] [(.int (1 : Int32))])) (fun _ k => XS.iload X453.here hx rfl (hb hby d18_101) rfl  k) ?_
    refine Rch.fin X453 hlk (v := some (.int (1 : Int32))) (fun h => by rw [hret] at h; cases h) rfl (by decide) (by decide) (fun fs hr => retI X453 hx hret (hb hby d18_103) hr) ?_
    have hfr : own_free gs 4 (own_s p1) = 1 := by rw [hsj]; simp only [own_free, br428, ↓reduceIte]
    refine ⟨_, _, by rw [hfr]; rfl, N453, z454, ⟨f455, f456, f457, f458, f459, f460, f461, (by unfold own_add; rw [hfr]; exact Vh453), f462, Vl453, ⟨by unfold own_add; rw [List.length_set, lg], by rw [List.length_set, la], by rw [List.length_set, ll]⟩, ⟨g_a1, g_bh, g_ba, g_bl⟩, ⟨n_h, n_a, n_l⟩, n_ha, n_hl, n_al⟩⟩
  ·
    refine Rch.go (U' := T426.setTop (mkF m 58 #[rv a1, iv p1, jv x2, sv, iv p4, .val .null, iv (0 : Int32), iv (3 : Int32), iv (1 : Int32)] [])) (fun _ k => XS.ifNo X426.here hx rfl (hb hby d18_55) rfl (XT.ll_eq_f br428) k) ?_
    refine Rch.go (U' := T426.setTop (mkF m 60 #[rv a1, iv p1, jv x2, sv, iv p4, .val .null, iv (0 : Int32), iv (3 : Int32), iv (1 : Int32)] [(.int (1 : Int32))])) (fun _ k => XS.iload X426.here hx rfl (hb hby d18_58) rfl  k) ?_
    refine Rch.go (U' := T426.setTop (mkF m 61 #[rv a1, iv p1, jv x2, sv, iv p4, .val .null, iv (0 : Int32), iv (3 : Int32), iv (1 : Int32)] [(.int (1 : Int32)), (.int (1 : Int32))])) (fun _ k => XS.iconst X426.here hx rfl (hb hby d18_60) k) ?_
    refine Rch.go (U' := T426.setTop (mkF m 62 #[rv a1, iv p1, jv x2, sv, iv p4, .val .null, iv (0 : Int32), iv (3 : Int32), iv (1 : Int32)] [(.int ((1 : Int32) + (1 : Int32)))])) (fun _ k => XS.iadd X426.here hx rfl (hb hby d18_61) rfl k) ?_
    rw [(by decide : ((1 : Int32) + (1 : Int32)) = (2 : Int32))]
    refine Rch.go (U' := T426.setTop (mkF m 64 #[rv a1, iv p1, jv x2, sv, iv p4, .val .null, iv (0 : Int32), iv (3 : Int32), iv (1 : Int32)] [(.int (3 : Int32)), (.int (2 : Int32))])) (fun _ k => XS.iload X426.here hx rfl (hb hby d18_62) rfl  k) ?_
    refine Rch.go (U' := T426.setTop (mkF m 65 #[rv a1, iv p1, jv x2, sv, iv p4, .val .null, iv (0 : Int32), iv (3 : Int32), iv (1 : Int32)] [(.int ((2 : Int32) &&& (3 : Int32)))])) (fun _ k => XS.iand X426.here hx rfl (hb hby d18_64) rfl k) ?_
    rw [(by decide : ((2 : Int32) &&& (3 : Int32)) = (2 : Int32))]
    refine Rch.go (U' := T426.setTop (mkF m 67 #[rv a1, iv p1, jv x2, sv, iv p4, .val .null, iv (0 : Int32), iv (3 : Int32), iv (2 : Int32)] [])) (fun _ k => XS.istore X426.here hx rfl (hb hby d18_65) rfl (l' := #[rv a1, iv p1, jv x2, sv, iv p4, .val .null, iv (0 : Int32), iv (3 : Int32), iv (2 : Int32)]) rfl k) ?_
    refine Rch.go (U' := T426.setTop (mkF m 46 #[rv a1, iv p1, jv x2, sv, iv p4, .val .null, iv (0 : Int32), iv (3 : Int32), iv (2 : Int32)] [])) (fun _ k => XS.goto X426.here hx rfl (pc0 := 67) (pc' := 46) rfl (hb hby d18_67) (by decide) (by decide) k) ?_
    refine Rch.go (U' := T426.setTop (mkF m 47 #[rv a1, iv p1, jv x2, sv, iv p4, .val .null, iv (0 : Int32), iv (3 : Int32), iv (2 : Int32)] [(.ref a1)])) (fun _ k => XS.aloadN X426.here hx rfl (hb hby d18_46) rfl rfl k) ?_
    obtain ⟨T463, X463, e463, st463⟩ := getF X426 hx hZ hown (host := "") (Or.inl (wi hw 26 rfl)) Via.refl e426 F_a1_handles (g := (mkF m 47 #[rv a1, iv p1, jv x2, sv, iv p4, .val .null, iv (0 : Int32), iv (3 : Int32), iv (2 : Int32)] [(.ref a1)])) rfl rfl (hb hby d18_47)
    refine Rch.go (U' := T463.setTop (mkF m 50 #[rv a1, iv p1, jv x2, sv, iv p4, .val .null, iv (0 : Int32), iv (3 : Int32), iv (2 : Int32)] [(.ref bh)])) st463 ?_
    refine Rch.go (U' := T463.setTop (mkF m 52 #[rv a1, iv p1, jv x2, sv, iv p4, .val .null, iv (0 : Int32), iv (3 : Int32), iv (2 : Int32)] [(.int (2 : Int32)), (.ref bh)])) (fun _ k => XS.iload X463.here hx rfl (hb hby d18_50) rfl  k) ?_
    obtain ⟨cl464, Ar464, qk464, Sz464, Mn464, Hs464, Gf464⟩ := id V_bh
    have ib464 : ¬ ((2 : Int32) < 0 ∨ cl464.slots.size ≤ ((2 : Int32)).toNatClampNeg) := inb_of Sz464 ⟨by decide, by decide⟩
    have ea464 : cl464.slots[((2 : Int32)).toNatClampNeg]? = some (.long (gs.getD 2 0)) := Has.at Hs464 ib464 (own_getJ gs 2)
    refine Rch.go (U' := T463.setTop (mkF m 53 #[rv a1, iv p1, jv x2, sv, iv p4, .val .null, iv (0 : Int32), iv (3 : Int32), iv (2 : Int32)] [(.long (gs.getD 2 0))])) (fun _ k => X463.laload hx (j := (2 : Int32)) (v := (.long (gs.getD 2 0))) (by rw [e463]; exact Ar464.1) (State.isArrayOf_alike hZ.alike Ar464.2.1) Ar464.2.2 ib464 ea464 (g := (mkF m 52 #[rv a1, iv p1, jv x2, sv, iv p4, .val .null, iv (0 : Int32), iv (3 : Int32), iv (2 : Int32)] [(.int (2 : Int32)), (.ref bh)])) rfl rfl (hb hby d18_52) _ k) ?_
    refine Rch.go (U' := T463.setTop (mkF m 54 #[rv a1, iv p1, jv x2, sv, iv p4, .val .null, iv (0 : Int32), iv (3 : Int32), iv (2 : Int32)] [(.long (0 : Int64)), (.long (gs.getD 2 0))])) (fun _ k => XS.lconst X463.here hx rfl (hb hby d18_53) k) ?_
    refine Rch.go (U' := T463.setTop (mkF m 55 #[rv a1, iv p1, jv x2, sv, iv p4, .val .null, iv (0 : Int32), iv (3 : Int32), iv (2 : Int32)] [(.int (XT.cmpL (gs.getD 2 0) (0 : Int64)))])) (fun _ k => XT.lcmp X463.here hx rfl (hb hby d18_54) rfl k) ?_
    by_cases br465 : (gs.getD 2 0) = (0 : Int64)
    ·
      refine Rch.go (U' := T463.setTop (mkF m 70 #[rv a1, iv p1, jv x2, sv, iv p4, .val .null, iv (0 : Int32), iv (3 : Int32), iv (2 : Int32)] [])) (fun _ k => XS.ifYes X463.here hx rfl (pc0 := 55) (pc' := 70) rfl (hb hby d18_55) rfl (XT.ll_eq_t br465) (by decide) (by decide) k) ?_
      refine Rch.go (U' := T463.setTop (mkF m 71 #[rv a1, iv p1, jv x2, sv, iv p4, .val .null, iv (0 : Int32), iv (3 : Int32), iv (2 : Int32)] [(.ref a1)])) (fun _ k => XS.aloadN X463.here hx rfl (hb hby d18_70) rfl rfl k) ?_
      obtain ⟨T466, X466, e466, st466⟩ := getF X463 hx hZ hown (host := "") (Or.inl (wi hw 36 rfl)) Via.refl e463 F_a1_hashes (g := (mkF m 71 #[rv a1, iv p1, jv x2, sv, iv p4, .val .null, iv (0 : Int32), iv (3 : Int32), iv (2 : Int32)] [(.ref a1)])) rfl rfl (hb hby d18_71)
      refine Rch.go (U' := T466.setTop (mkF m 74 #[rv a1, iv p1, jv x2, sv, iv p4, .val .null, iv (0 : Int32), iv (3 : Int32), iv (2 : Int32)] [(.ref ba)])) st466 ?_
      refine Rch.go (U' := T466.setTop (mkF m 76 #[rv a1, iv p1, jv x2, sv, iv p4, .val .null, iv (0 : Int32), iv (3 : Int32), iv (2 : Int32)] [(.int (2 : Int32)), (.ref ba)])) (fun _ k => XS.iload X466.here hx rfl (hb hby d18_74) rfl  k) ?_
      refine Rch.go (U' := T466.setTop (mkF m 77 #[rv a1, iv p1, jv x2, sv, iv p4, .val .null, iv (0 : Int32), iv (3 : Int32), iv (2 : Int32)] [(.int p1), (.int (2 : Int32)), (.ref ba)])) (fun _ k => XS.iloadN X466.here hx rfl (hb hby d18_76) rfl  k) ?_
      obtain ⟨cl467, Ar467, qk467, Sz467, Mn467, Hs467, Gf467⟩ := id V_ba
      have ib467 : ¬ ((2 : Int32) < 0 ∨ cl467.slots.size ≤ ((2 : Int32)).toNatClampNeg) := inb_of Sz467 ⟨by decide, by decide⟩
      obtain ⟨T467, h467, X467, e467, W467, st467⟩ := stI X466 hx hZ e466 Ar467 (j := (2 : Int32)) ib467 (g := (mkF m 77 #[rv a1, iv p1, jv x2, sv, iv p4, .val .null, iv (0 : Int32), iv (3 : Int32), iv (2 : Int32)] [(.int p1), (.int (2 : Int32)), (.ref ba)])) rfl rfl (hb hby d18_77)
      have V467 : Arv Z h467 ba ka .int (4 : Int32) (va.set 2 (.int p1)) (.int (0 : Int32)) := Arv.set Ar467 qk467 Sz467 Mn467 Hs467 Gf467 rfl W467 2 rfl (by rw [la]; decide)
      have f468 := E_a1.wr W467
      have f469 := F_a1_count.other W467 (Or.inl n_a)
      have f470 := F_a1_handles.other W467 (Or.inl n_a)
      have f471 := F_a1_hashes.other W467 (Or.inl n_a)
      have f472 := F_a1_lengths.other W467 (Or.inl n_a)
      have f473 := F_a1_outside.other W467 (Or.inl n_a)
      have f474 := F_a1_expiries.other W467 (Or.inl n_a)
      have f475 := V_bh.other W467 n_ha
      have f476 := V_bl.other W467 (Ne.symm n_al)
      have N467 := Fr.snoc X467 N0 g_ba
      have z477 := Nat.le_trans Z0 (Keep.of_wr W467).1
      refine Rch.go (U' := T467.setTop (mkF m 78 #[rv a1, iv p1, jv x2, sv, iv p4, .val .null, iv (0 : Int32), iv (3 : Int32), iv (2 : Int32)] [])) st467 ?_
      refine Rch.go (U' := T467.setTop (mkF m 79 #[rv a1, iv p1, jv x2, sv, iv p4, .val .null, iv (0 : Int32), iv (3 : Int32), iv (2 : Int32)] [(.ref a1)])) (fun _ k => XS.aloadN X467.here hx rfl (hb hby d18_78) rfl rfl k) ?_
      refine Rch.go (U' := T467.setTop (mkF m 80 #[rv a1, iv p1, jv x2, sv, iv p4, .val .null, iv (0 : Int32), iv (3 : Int32), iv (2 : Int32)] [(.ref a1), (.ref a1)])) (fun _ k => XS.dup X467.here hx rfl (hb hby d18_79) rfl rfl k) ?_
      obtain ⟨T478, X478, e478, st478⟩ := getF X467 hx hZ hown (host := "") (Or.inl (wi hw 19 rfl)) Via.refl e467 f469 (g := (mkF m 80 #[rv a1, iv p1, jv x2, sv, iv p4, .val .null, iv (0 : Int32), iv (3 : Int32), iv (2 : Int32)] [(.ref a1), (.ref a1)])) rfl rfl (hb hby d18_80)
      refine Rch.go (U' := T478.setTop (mkF m 83 #[rv a1, iv p1, jv x2, sv, iv p4, .val .null, iv (0 : Int32), iv (3 : Int32), iv (2 : Int32)] [(.int cn), (.ref a1)])) st478 ?_
      refine Rch.go (U' := T478.setTop (mkF m 84 #[rv a1, iv p1, jv x2, sv, iv p4, .val .null, iv (0 : Int32), iv (3 : Int32), iv (2 : Int32)] [(.int (1 : Int32)), (.int cn), (.ref a1)])) (fun _ k => XS.iconst X478.here hx rfl (hb hby d18_83) k) ?_
      refine Rch.go (U' := T478.setTop (mkF m 85 #[rv a1, iv p1, jv x2, sv, iv p4, .val .null, iv (0 : Int32), iv (3 : Int32), iv (2 : Int32)] [(.int (cn + (1 : Int32))), (.ref a1)])) (fun _ k => XS.iadd X478.here hx rfl (hb hby d18_84) rfl k) ?_
      obtain ⟨T479, h479, X479, e479, W479, st479⟩ := putF X478 hx hZ hown (host := "") (Or.inl (wi hw 19 rfl)) Via.refl e478 f469 f468 (Or.inl (wi hw 20 rfl)) (wi hw 1 rfl) (ty := .int) (by decide) rfl rfl (g := (mkF m 85 #[rv a1, iv p1, jv x2, sv, iv p4, .val .null, iv (0 : Int32), iv (3 : Int32), iv (2 : Int32)] [(.int (cn + (1 : Int32))), (.ref a1)])) rfl rfl (hb hby d18_85)
      have F479 := f469.same W479
      have f480 := f468.wr W479
      have f481 := f470.other W479 (Or.inr (slot_ne (Or.inl (wi hw 27 rfl)) (Or.inl (wi hw 20 rfl)) (by decide) (t := (.array .long)) (t' := .int) (by decide) (by decide)))
      have f482 := f471.other W479 (Or.inr (slot_ne (Or.inl (wi hw 37 rfl)) (Or.inl (wi hw 20 rfl)) (by decide) (t := (.array .int)) (t' := .int) (by decide) (by decide)))
      have f483 := f472.other W479 (Or.inr (slot_ne (Or.inl (wi hw 39 rfl)) (Or.inl (wi hw 20 rfl)) (by decide) (t := (.array .int)) (t' := .int) (by decide) (by decide)))
      have f484 := f473.other W479 (Or.inr (slot_ne (Or.inl (wi hw 41 rfl)) (Or.inl (wi hw 20 rfl)) (by decide) (t := (.array (.array .byte))) (t' := .int) (by decide) (by decide)))
      have f485 := f474.other W479 (Or.inr (slot_ne (Or.inl (wi hw 45 rfl)) (Or.inl (wi hw 20 rfl)) (by decide) (t := (.object "java/util/BitSet")) (t' := .int) (by decide) (by decide)))
      have f486 := f475.other W479 (Ne.symm n_h)
      have f487 := V467.other W479 (Ne.symm n_a)
      have f488 := f476.other W479 (Ne.symm n_l)
      have N479 := Fr.snoc X479 N467 g_a1
      have z489 := Nat.le_trans z477 (Keep.of_wr W479).1
      refine Rch.go (U' := T479.setTop (mkF m 88 #[rv a1, iv p1, jv x2, sv, iv p4, .val .null, iv (0 : Int32), iv (3 : Int32), iv (2 : Int32)] [])) st479 ?_
      refine Rch.go (U' := T479.setTop (mkF m 89 #[rv a1, iv p1, jv x2, sv, iv p4, .val .null, iv (0 : Int32), iv (3 : Int32), iv (2 : Int32)] [(.ref a1)])) (fun _ k => XS.aloadN X479.here hx rfl (hb hby d18_88) rfl rfl k) ?_
      refine Rch.go (U' := T479.setTop (mkF m 91 #[rv a1, iv p1, jv x2, sv, iv p4, .val .null, iv (0 : Int32), iv (3 : Int32), iv (2 : Int32)] [(.int (2 : Int32)), (.ref a1)])) (fun _ k => XS.iload X479.here hx rfl (hb hby d18_89) rfl  k) ?_
      refine Rch.go (U' := T479.setTop (mkF m 92 #[rv a1, iv p1, jv x2, sv, iv p4, .val .null, iv (0 : Int32), iv (3 : Int32), iv (2 : Int32)] [(.long x2), (.int (2 : Int32)), (.ref a1)])) (fun _ k => XS.lloadN X479.here hx rfl (hb hby d18_91) rfl  k) ?_
      refine Rch.go (U' := T479.setTop (mkF m 94 #[rv a1, iv p1, jv x2, sv, iv p4, .val .null, iv (0 : Int32), iv (3 : Int32), iv (2 : Int32)] [(.int p4), (.long x2), (.int (2 : Int32)), (.ref a1)])) (fun _ k => XS.iload X479.here hx rfl (hb hby d18_92) rfl  k) ?_
      refine Rch.go (U' := T479.setTop (mkF m 96 #[rv a1, iv p1, jv x2, sv, iv p4, .val .null, iv (0 : Int32), iv (3 : Int32), iv (2 : Int32)] [.null, (.int p4), (.long x2), (.int (2 : Int32)), (.ref a1)])) (fun _ k => XS.aload X479.here hx rfl (hb hby d18_94) rfl rfl k) ?_
      refine Rch.go (U' := T479.setTop (mkF m 98 #[rv a1, iv p1, jv x2, sv, iv p4, .val .null, iv (0 : Int32), iv (3 : Int32), iv (2 : Int32)] [(.int (0 : Int32)), .null, (.int p4), (.long x2), (.int (2 : Int32)), (.ref a1)])) (fun _ k => XS.iload X479.here hx rfl (hb hby d18_96) rfl  k) ?_
      obtain ⟨cq490, kq490, q490a, q490b, q490c⟩ := isOf hZ e479 f480
      obtain ⟨_, _, ⟨T490, L490, k490, n490⟩, -, X490, ⟨Lc490, hQ490, l490, y490, z490⟩, st490⟩ := X479.virtualBack hx (y := yS) (z := yS) hown (mvT hZ (wi hw 50 rfl)) (mvT hZ (wi hw 51 rfl)) (notFace_of_selects (args := #[]) (mvT hZ (wi hw 53 rfl))) (mvT hZ (wi hw 53 rfl)) (mvT hZ (wi hw 52 rfl)) (by decide) (backOf (W := 0) (rmS2 l Z a0 hw [] a1 bh ba bl kh ka kl (cn + (1 : Int32)) gs (va.set 2 (.int p1)) vl x2 p4 h479 n0 z489 ⟨f480, F479, f481, f482, f483, f484, f485, f486, f487, f488, ⟨lg, (by rw [List.length_set, la]), ll⟩, ⟨g_a1, g_bh, g_ba, g_bl⟩, ⟨n_h, n_a, n_l⟩, n_ha, n_hl, n_al⟩) hZ (wi hw 54 rfl) (wi hw 2 rfl) (by decide) (by decide)) q490a q490c (g := (mkF m 98 #[rv a1, iv p1, jv x2, sv, iv p4, .val .null, iv (0 : Int32), iv (3 : Int32), iv (2 : Int32)] [(.int (0 : Int32)), .null, (.int p4), (.long x2), (.int (2 : Int32)), (.ref a1)])) rfl (by rw [hml]; rfl) (Steps.refl _) (argsL := [(.int (2 : Int32)), (.long x2), (.int p4), .null, (.int (0 : Int32))]) (rest := []) (lenOf pd_10 rfl) rfl (by show 2 * 0 + _ ≤ _; exact Nat.le_of_eq rfl) (hb hby d18_98) (fun _ _ => ⟨rfl, e479, (by decide : 0 + 0 ≤ _), (by decide : 0 + 0 ≤ _)⟩)
      dsimp only [Pt.U, Pt.locs, Pt.cells, Pt.slots] at X490 l490 y490 z490 st490 hQ490
      subst l490 y490 z490
      obtain ⟨rfl, N490q, K490q, Vh490, Vl490⟩ := hQ490
      have N490 := Fr.app N479 N490q
      have z491 := Nat.le_trans z489 K490q.1
      have f492 := f480.keep K490q
      have f493 := F479.keep K490q (ninS n_h (ninS n_l nin0))
      have f494 := f481.keep K490q (ninS n_h (ninS n_l nin0))
      have f495 := f482.keep K490q (ninS n_h (ninS n_l nin0))
      have f496 := f483.keep K490q (ninS n_h (ninS n_l nin0))
      have f497 := f484.keep K490q (ninS n_h (ninS n_l nin0))
      have f498 := f485.keep K490q (ninS n_h (ninS n_l nin0))
      have f499 := f487.keep K490q (ninS (Ne.symm n_ha) (ninS n_al nin0))
      refine Rch.to (U' := T490.setTop (mkF m 101 #[rv a1, iv p1, jv x2, sv, iv p4, .val .null, iv (0 : Int32), iv (3 : Int32), iv (2 : Int32)] [])) st490 ?_
      refine Rch.go (U' := T490.setTop (mkF m 103 #[rv a1, iv p1, jv x2, sv, iv p4, .val .null, iv (0 : Int32), iv (3 : Int32), iv (2 : Int32)] [(.int (2 : Int32))])) (fun _ k => XS.iload X490.here hx rfl (hb hby d18_101) rfl  k) ?_
      refine Rch.fin X490 hlk (v := some (.int (2 : Int32))) (fun h => by rw [hret] at h; cases h) rfl (by decide) (by decide) (fun fs hr => retI X490 hx hret (hb hby d18_103) hr) ?_
      have hfr : own_free gs 4 (own_s p1) = 2 := by rw [hsj]; simp only [own_free, br428, br465, ↓reduceIte]
      refine ⟨_, _, by rw [hfr]; rfl, N490, z491, ⟨f492, f493, f494, f495, f496, f497, f498, (by unfold own_add; rw [hfr]; exact Vh490), f499, Vl490, ⟨by unfold own_add; rw [List.length_set, lg], by rw [List.length_set, la], by rw [List.length_set, ll]⟩, ⟨g_a1, g_bh, g_ba, g_bl⟩, ⟨n_h, n_a, n_l⟩, n_ha, n_hl, n_al⟩⟩
    ·
      refine Rch.go (U' := T463.setTop (mkF m 58 #[rv a1, iv p1, jv x2, sv, iv p4, .val .null, iv (0 : Int32), iv (3 : Int32), iv (2 : Int32)] [])) (fun _ k => XS.ifNo X463.here hx rfl (hb hby d18_55) rfl (XT.ll_eq_f br465) k) ?_
      refine Rch.go (U' := T463.setTop (mkF m 60 #[rv a1, iv p1, jv x2, sv, iv p4, .val .null, iv (0 : Int32), iv (3 : Int32), iv (2 : Int32)] [(.int (2 : Int32))])) (fun _ k => XS.iload X463.here hx rfl (hb hby d18_58) rfl  k) ?_
      refine Rch.go (U' := T463.setTop (mkF m 61 #[rv a1, iv p1, jv x2, sv, iv p4, .val .null, iv (0 : Int32), iv (3 : Int32), iv (2 : Int32)] [(.int (1 : Int32)), (.int (2 : Int32))])) (fun _ k => XS.iconst X463.here hx rfl (hb hby d18_60) k) ?_
      refine Rch.go (U' := T463.setTop (mkF m 62 #[rv a1, iv p1, jv x2, sv, iv p4, .val .null, iv (0 : Int32), iv (3 : Int32), iv (2 : Int32)] [(.int ((2 : Int32) + (1 : Int32)))])) (fun _ k => XS.iadd X463.here hx rfl (hb hby d18_61) rfl k) ?_
      rw [(by decide : ((2 : Int32) + (1 : Int32)) = (3 : Int32))]
      refine Rch.go (U' := T463.setTop (mkF m 64 #[rv a1, iv p1, jv x2, sv, iv p4, .val .null, iv (0 : Int32), iv (3 : Int32), iv (2 : Int32)] [(.int (3 : Int32)), (.int (3 : Int32))])) (fun _ k => XS.iload X463.here hx rfl (hb hby d18_62) rfl  k) ?_
      refine Rch.go (U' := T463.setTop (mkF m 65 #[rv a1, iv p1, jv x2, sv, iv p4, .val .null, iv (0 : Int32), iv (3 : Int32), iv (2 : Int32)] [(.int ((3 : Int32) &&& (3 : Int32)))])) (fun _ k => XS.iand X463.here hx rfl (hb hby d18_64) rfl k) ?_
      rw [(by decide : ((3 : Int32) &&& (3 : Int32)) = (3 : Int32))]
      refine Rch.go (U' := T463.setTop (mkF m 67 #[rv a1, iv p1, jv x2, sv, iv p4, .val .null, iv (0 : Int32), iv (3 : Int32), iv (3 : Int32)] [])) (fun _ k => XS.istore X463.here hx rfl (hb hby d18_65) rfl (l' := #[rv a1, iv p1, jv x2, sv, iv p4, .val .null, iv (0 : Int32), iv (3 : Int32), iv (3 : Int32)]) rfl k) ?_
      refine Rch.go (U' := T463.setTop (mkF m 46 #[rv a1, iv p1, jv x2, sv, iv p4, .val .null, iv (0 : Int32), iv (3 : Int32), iv (3 : Int32)] [])) (fun _ k => XS.goto X463.here hx rfl (pc0 := 67) (pc' := 46) rfl (hb hby d18_67) (by decide) (by decide) k) ?_
      refine Rch.go (U' := T463.setTop (mkF m 47 #[rv a1, iv p1, jv x2, sv, iv p4, .val .null, iv (0 : Int32), iv (3 : Int32), iv (3 : Int32)] [(.ref a1)])) (fun _ k => XS.aloadN X463.here hx rfl (hb hby d18_46) rfl rfl k) ?_
      obtain ⟨T500, X500, e500, st500⟩ := getF X463 hx hZ hown (host := "") (Or.inl (wi hw 26 rfl)) Via.refl e463 F_a1_handles (g := (mkF m 47 #[rv a1, iv p1, jv x2, sv, iv p4, .val .null, iv (0 : Int32), iv (3 : Int32), iv (3 : Int32)] [(.ref a1)])) rfl rfl (hb hby d18_47)
      refine Rch.go (U' := T500.setTop (mkF m 50 #[rv a1, iv p1, jv x2, sv, iv p4, .val .null, iv (0 : Int32), iv (3 : Int32), iv (3 : Int32)] [(.ref bh)])) st500 ?_
      refine Rch.go (U' := T500.setTop (mkF m 52 #[rv a1, iv p1, jv x2, sv, iv p4, .val .null, iv (0 : Int32), iv (3 : Int32), iv (3 : Int32)] [(.int (3 : Int32)), (.ref bh)])) (fun _ k => XS.iload X500.here hx rfl (hb hby d18_50) rfl  k) ?_
      obtain ⟨cl501, Ar501, qk501, Sz501, Mn501, Hs501, Gf501⟩ := id V_bh
      have ib501 : ¬ ((3 : Int32) < 0 ∨ cl501.slots.size ≤ ((3 : Int32)).toNatClampNeg) := inb_of Sz501 ⟨by decide, by decide⟩
      have ea501 : cl501.slots[((3 : Int32)).toNatClampNeg]? = some (.long (gs.getD 3 0)) := Has.at Hs501 ib501 (own_getJ gs 3)
      refine Rch.go (U' := T500.setTop (mkF m 53 #[rv a1, iv p1, jv x2, sv, iv p4, .val .null, iv (0 : Int32), iv (3 : Int32), iv (3 : Int32)] [(.long (gs.getD 3 0))])) (fun _ k => X500.laload hx (j := (3 : Int32)) (v := (.long (gs.getD 3 0))) (by rw [e500]; exact Ar501.1) (State.isArrayOf_alike hZ.alike Ar501.2.1) Ar501.2.2 ib501 ea501 (g := (mkF m 52 #[rv a1, iv p1, jv x2, sv, iv p4, .val .null, iv (0 : Int32), iv (3 : Int32), iv (3 : Int32)] [(.int (3 : Int32)), (.ref bh)])) rfl rfl (hb hby d18_52) _ k) ?_
      refine Rch.go (U' := T500.setTop (mkF m 54 #[rv a1, iv p1, jv x2, sv, iv p4, .val .null, iv (0 : Int32), iv (3 : Int32), iv (3 : Int32)] [(.long (0 : Int64)), (.long (gs.getD 3 0))])) (fun _ k => XS.lconst X500.here hx rfl (hb hby d18_53) k) ?_
      refine Rch.go (U' := T500.setTop (mkF m 55 #[rv a1, iv p1, jv x2, sv, iv p4, .val .null, iv (0 : Int32), iv (3 : Int32), iv (3 : Int32)] [(.int (XT.cmpL (gs.getD 3 0) (0 : Int64)))])) (fun _ k => XT.lcmp X500.here hx rfl (hb hby d18_54) rfl k) ?_
      by_cases br502 : (gs.getD 3 0) = (0 : Int64)
      ·
        refine Rch.go (U' := T500.setTop (mkF m 70 #[rv a1, iv p1, jv x2, sv, iv p4, .val .null, iv (0 : Int32), iv (3 : Int32), iv (3 : Int32)] [])) (fun _ k => XS.ifYes X500.here hx rfl (pc0 := 55) (pc' := 70) rfl (hb hby d18_55) rfl (XT.ll_eq_t br502) (by decide) (by decide) k) ?_
        refine Rch.go (U' := T500.setTop (mkF m 71 #[rv a1, iv p1, jv x2, sv, iv p4, .val .null, iv (0 : Int32), iv (3 : Int32), iv (3 : Int32)] [(.ref a1)])) (fun _ k => XS.aloadN X500.here hx rfl (hb hby d18_70) rfl rfl k) ?_
        obtain ⟨T503, X503, e503, st503⟩ := getF X500 hx hZ hown (host := "") (Or.inl (wi hw 36 rfl)) Via.refl e500 F_a1_hashes (g := (mkF m 71 #[rv a1, iv p1, jv x2, sv, iv p4, .val .null, iv (0 : Int32), iv (3 : Int32), iv (3 : Int32)] [(.ref a1)])) rfl rfl (hb hby d18_71)
        refine Rch.go (U' := T503.setTop (mkF m 74 #[rv a1, iv p1, jv x2, sv, iv p4, .val .null, iv (0 : Int32), iv (3 : Int32), iv (3 : Int32)] [(.ref ba)])) st503 ?_
        refine Rch.go (U' := T503.setTop (mkF m 76 #[rv a1, iv p1, jv x2, sv, iv p4, .val .null, iv (0 : Int32), iv (3 : Int32), iv (3 : Int32)] [(.int (3 : Int32)), (.ref ba)])) (fun _ k => XS.iload X503.here hx rfl (hb hby d18_74) rfl  k) ?_
        refine Rch.go (U' := T503.setTop (mkF m 77 #[rv a1, iv p1, jv x2, sv, iv p4, .val .null, iv (0 : Int32), iv (3 : Int32), iv (3 : Int32)] [(.int p1), (.int (3 : Int32)), (.ref ba)])) (fun _ k => XS.iloadN X503.here hx rfl (hb hby d18_76) rfl  k) ?_
        obtain ⟨cl504, Ar504, qk504, Sz504, Mn504, Hs504, Gf504⟩ := id V_ba
        have ib504 : ¬ ((3 : Int32) < 0 ∨ cl504.slots.size ≤ ((3 : Int32)).toNatClampNeg) := inb_of Sz504 ⟨by decide, by decide⟩
        obtain ⟨T504, h504, X504, e504, W504, st504⟩ := stI X503 hx hZ e503 Ar504 (j := (3 : Int32)) ib504 (g := (mkF m 77 #[rv a1, iv p1, jv x2, sv, iv p4, .val .null, iv (0 : Int32), iv (3 : Int32), iv (3 : Int32)] [(.int p1), (.int (3 : Int32)), (.ref ba)])) rfl rfl (hb hby d18_77)
        have V504 : Arv Z h504 ba ka .int (4 : Int32) (va.set 3 (.int p1)) (.int (0 : Int32)) := Arv.set Ar504 qk504 Sz504 Mn504 Hs504 Gf504 rfl W504 3 rfl (by rw [la]; decide)
        have f505 := E_a1.wr W504
        have f506 := F_a1_count.other W504 (Or.inl n_a)
        have f507 := F_a1_handles.other W504 (Or.inl n_a)
        have f508 := F_a1_hashes.other W504 (Or.inl n_a)
        have f509 := F_a1_lengths.other W504 (Or.inl n_a)
        have f510 := F_a1_outside.other W504 (Or.inl n_a)
        have f511 := F_a1_expiries.other W504 (Or.inl n_a)
        have f512 := V_bh.other W504 n_ha
        have f513 := V_bl.other W504 (Ne.symm n_al)
        have N504 := Fr.snoc X504 N0 g_ba
        have z514 := Nat.le_trans Z0 (Keep.of_wr W504).1
        refine Rch.go (U' := T504.setTop (mkF m 78 #[rv a1, iv p1, jv x2, sv, iv p4, .val .null, iv (0 : Int32), iv (3 : Int32), iv (3 : Int32)] [])) st504 ?_
        refine Rch.go (U' := T504.setTop (mkF m 79 #[rv a1, iv p1, jv x2, sv, iv p4, .val .null, iv (0 : Int32), iv (3 : Int32), iv (3 : Int32)] [(.ref a1)])) (fun _ k => XS.aloadN X504.here hx rfl (hb hby d18_78) rfl rfl k) ?_
        refine Rch.go (U' := T504.setTop (mkF m 80 #[rv a1, iv p1, jv x2, sv, iv p4, .val .null, iv (0 : Int32), iv (3 : Int32), iv (3 : Int32)] [(.ref a1), (.ref a1)])) (fun _ k => XS.dup X504.here hx rfl (hb hby d18_79) rfl rfl k) ?_
        obtain ⟨T515, X515, e515, st515⟩ := getF X504 hx hZ hown (host := "") (Or.inl (wi hw 19 rfl)) Via.refl e504 f506 (g := (mkF m 80 #[rv a1, iv p1, jv x2, sv, iv p4, .val .null, iv (0 : Int32), iv (3 : Int32), iv (3 : Int32)] [(.ref a1), (.ref a1)])) rfl rfl (hb hby d18_80)
        refine Rch.go (U' := T515.setTop (mkF m 83 #[rv a1, iv p1, jv x2, sv, iv p4, .val .null, iv (0 : Int32), iv (3 : Int32), iv (3 : Int32)] [(.int cn), (.ref a1)])) st515 ?_
        refine Rch.go (U' := T515.setTop (mkF m 84 #[rv a1, iv p1, jv x2, sv, iv p4, .val .null, iv (0 : Int32), iv (3 : Int32), iv (3 : Int32)] [(.int (1 : Int32)), (.int cn), (.ref a1)])) (fun _ k => XS.iconst X515.here hx rfl (hb hby d18_83) k) ?_
        refine Rch.go (U' := T515.setTop (mkF m 85 #[rv a1, iv p1, jv x2, sv, iv p4, .val .null, iv (0 : Int32), iv (3 : Int32), iv (3 : Int32)] [(.int (cn + (1 : Int32))), (.ref a1)])) (fun _ k => XS.iadd X515.here hx rfl (hb hby d18_84) rfl k) ?_
        obtain ⟨T516, h516, X516, e516, W516, st516⟩ := putF X515 hx hZ hown (host := "") (Or.inl (wi hw 19 rfl)) Via.refl e515 f506 f505 (Or.inl (wi hw 20 rfl)) (wi hw 1 rfl) (ty := .int) (by decide) rfl rfl (g := (mkF m 85 #[rv a1, iv p1, jv x2, sv, iv p4, .val .null, iv (0 : Int32), iv (3 : Int32), iv (3 : Int32)] [(.int (cn + (1 : Int32))), (.ref a1)])) rfl rfl (hb hby d18_85)
        have F516 := f506.same W516
        have f517 := f505.wr W516
        have f518 := f507.other W516 (Or.inr (slot_ne (Or.inl (wi hw 27 rfl)) (Or.inl (wi hw 20 rfl)) (by decide) (t := (.array .long)) (t' := .int) (by decide) (by decide)))
        have f519 := f508.other W516 (Or.inr (slot_ne (Or.inl (wi hw 37 rfl)) (Or.inl (wi hw 20 rfl)) (by decide) (t := (.array .int)) (t' := .int) (by decide) (by decide)))
        have f520 := f509.other W516 (Or.inr (slot_ne (Or.inl (wi hw 39 rfl)) (Or.inl (wi hw 20 rfl)) (by decide) (t := (.array .int)) (t' := .int) (by decide) (by decide)))
        have f521 := f510.other W516 (Or.inr (slot_ne (Or.inl (wi hw 41 rfl)) (Or.inl (wi hw 20 rfl)) (by decide) (t := (.array (.array .byte))) (t' := .int) (by decide) (by decide)))
        have f522 := f511.other W516 (Or.inr (slot_ne (Or.inl (wi hw 45 rfl)) (Or.inl (wi hw 20 rfl)) (by decide) (t := (.object "java/util/BitSet")) (t' := .int) (by decide) (by decide)))
        have f523 := f512.other W516 (Ne.symm n_h)
        have f524 := V504.other W516 (Ne.symm n_a)
        have f525 := f513.other W516 (Ne.symm n_l)
        have N516 := Fr.snoc X516 N504 g_a1
        have z526 := Nat.le_trans z514 (Keep.of_wr W516).1
        refine Rch.go (U' := T516.setTop (mkF m 88 #[rv a1, iv p1, jv x2, sv, iv p4, .val .null, iv (0 : Int32), iv (3 : Int32), iv (3 : Int32)] [])) st516 ?_
        refine Rch.go (U' := T516.setTop (mkF m 89 #[rv a1, iv p1, jv x2, sv, iv p4, .val .null, iv (0 : Int32), iv (3 : Int32), iv (3 : Int32)] [(.ref a1)])) (fun _ k => XS.aloadN X516.here hx rfl (hb hby d18_88) rfl rfl k) ?_
        refine Rch.go (U' := T516.setTop (mkF m 91 #[rv a1, iv p1, jv x2, sv, iv p4, .val .null, iv (0 : Int32), iv (3 : Int32), iv (3 : Int32)] [(.int (3 : Int32)), (.ref a1)])) (fun _ k => XS.iload X516.here hx rfl (hb hby d18_89) rfl  k) ?_
        refine Rch.go (U' := T516.setTop (mkF m 92 #[rv a1, iv p1, jv x2, sv, iv p4, .val .null, iv (0 : Int32), iv (3 : Int32), iv (3 : Int32)] [(.long x2), (.int (3 : Int32)), (.ref a1)])) (fun _ k => XS.lloadN X516.here hx rfl (hb hby d18_91) rfl  k) ?_
        refine Rch.go (U' := T516.setTop (mkF m 94 #[rv a1, iv p1, jv x2, sv, iv p4, .val .null, iv (0 : Int32), iv (3 : Int32), iv (3 : Int32)] [(.int p4), (.long x2), (.int (3 : Int32)), (.ref a1)])) (fun _ k => XS.iload X516.here hx rfl (hb hby d18_92) rfl  k) ?_
        refine Rch.go (U' := T516.setTop (mkF m 96 #[rv a1, iv p1, jv x2, sv, iv p4, .val .null, iv (0 : Int32), iv (3 : Int32), iv (3 : Int32)] [.null, (.int p4), (.long x2), (.int (3 : Int32)), (.ref a1)])) (fun _ k => XS.aload X516.here hx rfl (hb hby d18_94) rfl rfl k) ?_
        refine Rch.go (U' := T516.setTop (mkF m 98 #[rv a1, iv p1, jv x2, sv, iv p4, .val .null, iv (0 : Int32), iv (3 : Int32), iv (3 : Int32)] [(.int (0 : Int32)), .null, (.int p4), (.long x2), (.int (3 : Int32)), (.ref a1)])) (fun _ k => XS.iload X516.here hx rfl (hb hby d18_96) rfl  k) ?_
        obtain ⟨cq527, kq527, q527a, q527b, q527c⟩ := isOf hZ e516 f517
        obtain ⟨_, _, ⟨T527, L527, k527, n527⟩, -, X527, ⟨Lc527, hQ527, l527, y527, z527⟩, st527⟩ := X516.virtualBack hx (y := yS) (z := yS) hown (mvT hZ (wi hw 50 rfl)) (mvT hZ (wi hw 51 rfl)) (notFace_of_selects (args := #[]) (mvT hZ (wi hw 53 rfl))) (mvT hZ (wi hw 53 rfl)) (mvT hZ (wi hw 52 rfl)) (by decide) (backOf (W := 0) (rmS3 l Z a0 hw [] a1 bh ba bl kh ka kl (cn + (1 : Int32)) gs (va.set 3 (.int p1)) vl x2 p4 h516 n0 z526 ⟨f517, F516, f518, f519, f520, f521, f522, f523, f524, f525, ⟨lg, (by rw [List.length_set, la]), ll⟩, ⟨g_a1, g_bh, g_ba, g_bl⟩, ⟨n_h, n_a, n_l⟩, n_ha, n_hl, n_al⟩) hZ (wi hw 54 rfl) (wi hw 2 rfl) (by decide) (by decide)) q527a q527c (g := (mkF m 98 #[rv a1, iv p1, jv x2, sv, iv p4, .val .null, iv (0 : Int32), iv (3 : Int32), iv (3 : Int32)] [(.int (0 : Int32)), .null, (.int p4), (.long x2), (.int (3 : Int32)), (.ref a1)])) rfl (by rw [hml]; rfl) (Steps.refl _) (argsL := [(.int (3 : Int32)), (.long x2), (.int p4), .null, (.int (0 : Int32))]) (rest := []) (lenOf pd_10 rfl) rfl (by show 2 * 0 + _ ≤ _; exact Nat.le_of_eq rfl) (hb hby d18_98) (fun _ _ => ⟨rfl, e516, (by decide : 0 + 0 ≤ _), (by decide : 0 + 0 ≤ _)⟩)
        dsimp only [Pt.U, Pt.locs, Pt.cells, Pt.slots] at X527 l527 y527 z527 st527 hQ527
        subst l527 y527 z527
        obtain ⟨rfl, N527q, K527q, Vh527, Vl527⟩ := hQ527
        have N527 := Fr.app N516 N527q
        have z528 := Nat.le_trans z526 K527q.1
        have f529 := f517.keep K527q
        have f530 := F516.keep K527q (ninS n_h (ninS n_l nin0))
        have f531 := f518.keep K527q (ninS n_h (ninS n_l nin0))
        have f532 := f519.keep K527q (ninS n_h (ninS n_l nin0))
        have f533 := f520.keep K527q (ninS n_h (ninS n_l nin0))
        have f534 := f521.keep K527q (ninS n_h (ninS n_l nin0))
        have f535 := f522.keep K527q (ninS n_h (ninS n_l nin0))
        have f536 := f524.keep K527q (ninS (Ne.symm n_ha) (ninS n_al nin0))
        refine Rch.to (U' := T527.setTop (mkF m 101 #[rv a1, iv p1, jv x2, sv, iv p4, .val .null, iv (0 : Int32), iv (3 : Int32), iv (3 : Int32)] [])) st527 ?_
        refine Rch.go (U' := T527.setTop (mkF m 103 #[rv a1, iv p1, jv x2, sv, iv p4, .val .null, iv (0 : Int32), iv (3 : Int32), iv (3 : Int32)] [(.int (3 : Int32))])) (fun _ k => XS.iload X527.here hx rfl (hb hby d18_101) rfl  k) ?_
        refine Rch.fin X527 hlk (v := some (.int (3 : Int32))) (fun h => by rw [hret] at h; cases h) rfl (by decide) (by decide) (fun fs hr => retI X527 hx hret (hb hby d18_103) hr) ?_
        have hfr : own_free gs 4 (own_s p1) = 3 := by rw [hsj]; simp only [own_free, br428, br465, br502, ↓reduceIte]
        refine ⟨_, _, by rw [hfr]; rfl, N527, z528, ⟨f529, f530, f531, f532, f533, f534, f535, (by unfold own_add; rw [hfr]; exact Vh527), f536, Vl527, ⟨by unfold own_add; rw [List.length_set, lg], by rw [List.length_set, la], by rw [List.length_set, ll]⟩, ⟨g_a1, g_bh, g_ba, g_bl⟩, ⟨n_h, n_a, n_l⟩, n_ha, n_hl, n_al⟩⟩
      ·
        refine Rch.go (U' := T500.setTop (mkF m 58 #[rv a1, iv p1, jv x2, sv, iv p4, .val .null, iv (0 : Int32), iv (3 : Int32), iv (3 : Int32)] [])) (fun _ k => XS.ifNo X500.here hx rfl (hb hby d18_55) rfl (XT.ll_eq_f br502) k) ?_
        refine Rch.go (U' := T500.setTop (mkF m 60 #[rv a1, iv p1, jv x2, sv, iv p4, .val .null, iv (0 : Int32), iv (3 : Int32), iv (3 : Int32)] [(.int (3 : Int32))])) (fun _ k => XS.iload X500.here hx rfl (hb hby d18_58) rfl  k) ?_
        refine Rch.go (U' := T500.setTop (mkF m 61 #[rv a1, iv p1, jv x2, sv, iv p4, .val .null, iv (0 : Int32), iv (3 : Int32), iv (3 : Int32)] [(.int (1 : Int32)), (.int (3 : Int32))])) (fun _ k => XS.iconst X500.here hx rfl (hb hby d18_60) k) ?_
        refine Rch.go (U' := T500.setTop (mkF m 62 #[rv a1, iv p1, jv x2, sv, iv p4, .val .null, iv (0 : Int32), iv (3 : Int32), iv (3 : Int32)] [(.int ((3 : Int32) + (1 : Int32)))])) (fun _ k => XS.iadd X500.here hx rfl (hb hby d18_61) rfl k) ?_
        rw [(by decide : ((3 : Int32) + (1 : Int32)) = (4 : Int32))]
        refine Rch.go (U' := T500.setTop (mkF m 64 #[rv a1, iv p1, jv x2, sv, iv p4, .val .null, iv (0 : Int32), iv (3 : Int32), iv (3 : Int32)] [(.int (3 : Int32)), (.int (4 : Int32))])) (fun _ k => XS.iload X500.here hx rfl (hb hby d18_62) rfl  k) ?_
        refine Rch.go (U' := T500.setTop (mkF m 65 #[rv a1, iv p1, jv x2, sv, iv p4, .val .null, iv (0 : Int32), iv (3 : Int32), iv (3 : Int32)] [(.int ((4 : Int32) &&& (3 : Int32)))])) (fun _ k => XS.iand X500.here hx rfl (hb hby d18_64) rfl k) ?_
        rw [(by decide : ((4 : Int32) &&& (3 : Int32)) = (0 : Int32))]
        refine Rch.go (U' := T500.setTop (mkF m 67 #[rv a1, iv p1, jv x2, sv, iv p4, .val .null, iv (0 : Int32), iv (3 : Int32), iv (0 : Int32)] [])) (fun _ k => XS.istore X500.here hx rfl (hb hby d18_65) rfl (l' := #[rv a1, iv p1, jv x2, sv, iv p4, .val .null, iv (0 : Int32), iv (3 : Int32), iv (0 : Int32)]) rfl k) ?_
        refine Rch.go (U' := T500.setTop (mkF m 46 #[rv a1, iv p1, jv x2, sv, iv p4, .val .null, iv (0 : Int32), iv (3 : Int32), iv (0 : Int32)] [])) (fun _ k => XS.goto X500.here hx rfl (pc0 := 67) (pc' := 46) rfl (hb hby d18_67) (by decide) (by decide) k) ?_
        refine Rch.go (U' := T500.setTop (mkF m 47 #[rv a1, iv p1, jv x2, sv, iv p4, .val .null, iv (0 : Int32), iv (3 : Int32), iv (0 : Int32)] [(.ref a1)])) (fun _ k => XS.aloadN X500.here hx rfl (hb hby d18_46) rfl rfl k) ?_
        obtain ⟨T537, X537, e537, st537⟩ := getF X500 hx hZ hown (host := "") (Or.inl (wi hw 26 rfl)) Via.refl e500 F_a1_handles (g := (mkF m 47 #[rv a1, iv p1, jv x2, sv, iv p4, .val .null, iv (0 : Int32), iv (3 : Int32), iv (0 : Int32)] [(.ref a1)])) rfl rfl (hb hby d18_47)
        refine Rch.go (U' := T537.setTop (mkF m 50 #[rv a1, iv p1, jv x2, sv, iv p4, .val .null, iv (0 : Int32), iv (3 : Int32), iv (0 : Int32)] [(.ref bh)])) st537 ?_
        refine Rch.go (U' := T537.setTop (mkF m 52 #[rv a1, iv p1, jv x2, sv, iv p4, .val .null, iv (0 : Int32), iv (3 : Int32), iv (0 : Int32)] [(.int (0 : Int32)), (.ref bh)])) (fun _ k => XS.iload X537.here hx rfl (hb hby d18_50) rfl  k) ?_
        obtain ⟨cl538, Ar538, qk538, Sz538, Mn538, Hs538, Gf538⟩ := id V_bh
        have ib538 : ¬ ((0 : Int32) < 0 ∨ cl538.slots.size ≤ ((0 : Int32)).toNatClampNeg) := inb_of Sz538 ⟨by decide, by decide⟩
        have ea538 : cl538.slots[((0 : Int32)).toNatClampNeg]? = some (.long (gs.getD 0 0)) := Has.at Hs538 ib538 (own_getJ gs 0)
        refine Rch.go (U' := T537.setTop (mkF m 53 #[rv a1, iv p1, jv x2, sv, iv p4, .val .null, iv (0 : Int32), iv (3 : Int32), iv (0 : Int32)] [(.long (gs.getD 0 0))])) (fun _ k => X537.laload hx (j := (0 : Int32)) (v := (.long (gs.getD 0 0))) (by rw [e537]; exact Ar538.1) (State.isArrayOf_alike hZ.alike Ar538.2.1) Ar538.2.2 ib538 ea538 (g := (mkF m 52 #[rv a1, iv p1, jv x2, sv, iv p4, .val .null, iv (0 : Int32), iv (3 : Int32), iv (0 : Int32)] [(.int (0 : Int32)), (.ref bh)])) rfl rfl (hb hby d18_52) _ k) ?_
        refine Rch.go (U' := T537.setTop (mkF m 54 #[rv a1, iv p1, jv x2, sv, iv p4, .val .null, iv (0 : Int32), iv (3 : Int32), iv (0 : Int32)] [(.long (0 : Int64)), (.long (gs.getD 0 0))])) (fun _ k => XS.lconst X537.here hx rfl (hb hby d18_53) k) ?_
        refine Rch.go (U' := T537.setTop (mkF m 55 #[rv a1, iv p1, jv x2, sv, iv p4, .val .null, iv (0 : Int32), iv (3 : Int32), iv (0 : Int32)] [(.int (XT.cmpL (gs.getD 0 0) (0 : Int64)))])) (fun _ k => XT.lcmp X537.here hx rfl (hb hby d18_54) rfl k) ?_
        have br539 : (gs.getD 0 0) = (0 : Int64) := (by rcases hz with q | q | q | q <;> first | exact q | exact absurd q br428 | exact absurd q br465 | exact absurd q br502)
        refine Rch.go (U' := T537.setTop (mkF m 70 #[rv a1, iv p1, jv x2, sv, iv p4, .val .null, iv (0 : Int32), iv (3 : Int32), iv (0 : Int32)] [])) (fun _ k => XS.ifYes X537.here hx rfl (pc0 := 55) (pc' := 70) rfl (hb hby d18_55) rfl (XT.ll_eq_t br539) (by decide) (by decide) k) ?_
        refine Rch.go (U' := T537.setTop (mkF m 71 #[rv a1, iv p1, jv x2, sv, iv p4, .val .null, iv (0 : Int32), iv (3 : Int32), iv (0 : Int32)] [(.ref a1)])) (fun _ k => XS.aloadN X537.here hx rfl (hb hby d18_70) rfl rfl k) ?_
        obtain ⟨T540, X540, e540, st540⟩ := getF X537 hx hZ hown (host := "") (Or.inl (wi hw 36 rfl)) Via.refl e537 F_a1_hashes (g := (mkF m 71 #[rv a1, iv p1, jv x2, sv, iv p4, .val .null, iv (0 : Int32), iv (3 : Int32), iv (0 : Int32)] [(.ref a1)])) rfl rfl (hb hby d18_71)
        refine Rch.go (U' := T540.setTop (mkF m 74 #[rv a1, iv p1, jv x2, sv, iv p4, .val .null, iv (0 : Int32), iv (3 : Int32), iv (0 : Int32)] [(.ref ba)])) st540 ?_
        refine Rch.go (U' := T540.setTop (mkF m 76 #[rv a1, iv p1, jv x2, sv, iv p4, .val .null, iv (0 : Int32), iv (3 : Int32), iv (0 : Int32)] [(.int (0 : Int32)), (.ref ba)])) (fun _ k => XS.iload X540.here hx rfl (hb hby d18_74) rfl  k) ?_
        refine Rch.go (U' := T540.setTop (mkF m 77 #[rv a1, iv p1, jv x2, sv, iv p4, .val .null, iv (0 : Int32), iv (3 : Int32), iv (0 : Int32)] [(.int p1), (.int (0 : Int32)), (.ref ba)])) (fun _ k => XS.iloadN X540.here hx rfl (hb hby d18_76) rfl  k) ?_
        obtain ⟨cl541, Ar541, qk541, Sz541, Mn541, Hs541, Gf541⟩ := id V_ba
        have ib541 : ¬ ((0 : Int32) < 0 ∨ cl541.slots.size ≤ ((0 : Int32)).toNatClampNeg) := inb_of Sz541 ⟨by decide, by decide⟩
        obtain ⟨T541, h541, X541, e541, W541, st541⟩ := stI X540 hx hZ e540 Ar541 (j := (0 : Int32)) ib541 (g := (mkF m 77 #[rv a1, iv p1, jv x2, sv, iv p4, .val .null, iv (0 : Int32), iv (3 : Int32), iv (0 : Int32)] [(.int p1), (.int (0 : Int32)), (.ref ba)])) rfl rfl (hb hby d18_77)
        have V541 : Arv Z h541 ba ka .int (4 : Int32) (va.set 0 (.int p1)) (.int (0 : Int32)) := Arv.set Ar541 qk541 Sz541 Mn541 Hs541 Gf541 rfl W541 0 rfl (by rw [la]; decide)
        have f542 := E_a1.wr W541
        have f543 := F_a1_count.other W541 (Or.inl n_a)
        have f544 := F_a1_handles.other W541 (Or.inl n_a)
        have f545 := F_a1_hashes.other W541 (Or.inl n_a)
        have f546 := F_a1_lengths.other W541 (Or.inl n_a)
        have f547 := F_a1_outside.other W541 (Or.inl n_a)
        have f548 := F_a1_expiries.other W541 (Or.inl n_a)
        have f549 := V_bh.other W541 n_ha
        have f550 := V_bl.other W541 (Ne.symm n_al)
        have N541 := Fr.snoc X541 N0 g_ba
        have z551 := Nat.le_trans Z0 (Keep.of_wr W541).1
        refine Rch.go (U' := T541.setTop (mkF m 78 #[rv a1, iv p1, jv x2, sv, iv p4, .val .null, iv (0 : Int32), iv (3 : Int32), iv (0 : Int32)] [])) st541 ?_
        refine Rch.go (U' := T541.setTop (mkF m 79 #[rv a1, iv p1, jv x2, sv, iv p4, .val .null, iv (0 : Int32), iv (3 : Int32), iv (0 : Int32)] [(.ref a1)])) (fun _ k => XS.aloadN X541.here hx rfl (hb hby d18_78) rfl rfl k) ?_
        refine Rch.go (U' := T541.setTop (mkF m 80 #[rv a1, iv p1, jv x2, sv, iv p4, .val .null, iv (0 : Int32), iv (3 : Int32), iv (0 : Int32)] [(.ref a1), (.ref a1)])) (fun _ k => XS.dup X541.here hx rfl (hb hby d18_79) rfl rfl k) ?_
        obtain ⟨T552, X552, e552, st552⟩ := getF X541 hx hZ hown (host := "") (Or.inl (wi hw 19 rfl)) Via.refl e541 f543 (g := (mkF m 80 #[rv a1, iv p1, jv x2, sv, iv p4, .val .null, iv (0 : Int32), iv (3 : Int32), iv (0 : Int32)] [(.ref a1), (.ref a1)])) rfl rfl (hb hby d18_80)
        refine Rch.go (U' := T552.setTop (mkF m 83 #[rv a1, iv p1, jv x2, sv, iv p4, .val .null, iv (0 : Int32), iv (3 : Int32), iv (0 : Int32)] [(.int cn), (.ref a1)])) st552 ?_
        refine Rch.go (U' := T552.setTop (mkF m 84 #[rv a1, iv p1, jv x2, sv, iv p4, .val .null, iv (0 : Int32), iv (3 : Int32), iv (0 : Int32)] [(.int (1 : Int32)), (.int cn), (.ref a1)])) (fun _ k => XS.iconst X552.here hx rfl (hb hby d18_83) k) ?_
        refine Rch.go (U' := T552.setTop (mkF m 85 #[rv a1, iv p1, jv x2, sv, iv p4, .val .null, iv (0 : Int32), iv (3 : Int32), iv (0 : Int32)] [(.int (cn + (1 : Int32))), (.ref a1)])) (fun _ k => XS.iadd X552.here hx rfl (hb hby d18_84) rfl k) ?_
        obtain ⟨T553, h553, X553, e553, W553, st553⟩ := putF X552 hx hZ hown (host := "") (Or.inl (wi hw 19 rfl)) Via.refl e552 f543 f542 (Or.inl (wi hw 20 rfl)) (wi hw 1 rfl) (ty := .int) (by decide) rfl rfl (g := (mkF m 85 #[rv a1, iv p1, jv x2, sv, iv p4, .val .null, iv (0 : Int32), iv (3 : Int32), iv (0 : Int32)] [(.int (cn + (1 : Int32))), (.ref a1)])) rfl rfl (hb hby d18_85)
        have F553 := f543.same W553
        have f554 := f542.wr W553
        have f555 := f544.other W553 (Or.inr (slot_ne (Or.inl (wi hw 27 rfl)) (Or.inl (wi hw 20 rfl)) (by decide) (t := (.array .long)) (t' := .int) (by decide) (by decide)))
        have f556 := f545.other W553 (Or.inr (slot_ne (Or.inl (wi hw 37 rfl)) (Or.inl (wi hw 20 rfl)) (by decide) (t := (.array .int)) (t' := .int) (by decide) (by decide)))
        have f557 := f546.other W553 (Or.inr (slot_ne (Or.inl (wi hw 39 rfl)) (Or.inl (wi hw 20 rfl)) (by decide) (t := (.array .int)) (t' := .int) (by decide) (by decide)))
        have f558 := f547.other W553 (Or.inr (slot_ne (Or.inl (wi hw 41 rfl)) (Or.inl (wi hw 20 rfl)) (by decide) (t := (.array (.array .byte))) (t' := .int) (by decide) (by decide)))
        have f559 := f548.other W553 (Or.inr (slot_ne (Or.inl (wi hw 45 rfl)) (Or.inl (wi hw 20 rfl)) (by decide) (t := (.object "java/util/BitSet")) (t' := .int) (by decide) (by decide)))
        have f560 := f549.other W553 (Ne.symm n_h)
        have f561 := V541.other W553 (Ne.symm n_a)
        have f562 := f550.other W553 (Ne.symm n_l)
        have N553 := Fr.snoc X553 N541 g_a1
        have z563 := Nat.le_trans z551 (Keep.of_wr W553).1
        refine Rch.go (U' := T553.setTop (mkF m 88 #[rv a1, iv p1, jv x2, sv, iv p4, .val .null, iv (0 : Int32), iv (3 : Int32), iv (0 : Int32)] [])) st553 ?_
        refine Rch.go (U' := T553.setTop (mkF m 89 #[rv a1, iv p1, jv x2, sv, iv p4, .val .null, iv (0 : Int32), iv (3 : Int32), iv (0 : Int32)] [(.ref a1)])) (fun _ k => XS.aloadN X553.here hx rfl (hb hby d18_88) rfl rfl k) ?_
        refine Rch.go (U' := T553.setTop (mkF m 91 #[rv a1, iv p1, jv x2, sv, iv p4, .val .null, iv (0 : Int32), iv (3 : Int32), iv (0 : Int32)] [(.int (0 : Int32)), (.ref a1)])) (fun _ k => XS.iload X553.here hx rfl (hb hby d18_89) rfl  k) ?_
        refine Rch.go (U' := T553.setTop (mkF m 92 #[rv a1, iv p1, jv x2, sv, iv p4, .val .null, iv (0 : Int32), iv (3 : Int32), iv (0 : Int32)] [(.long x2), (.int (0 : Int32)), (.ref a1)])) (fun _ k => XS.lloadN X553.here hx rfl (hb hby d18_91) rfl  k) ?_
        refine Rch.go (U' := T553.setTop (mkF m 94 #[rv a1, iv p1, jv x2, sv, iv p4, .val .null, iv (0 : Int32), iv (3 : Int32), iv (0 : Int32)] [(.int p4), (.long x2), (.int (0 : Int32)), (.ref a1)])) (fun _ k => XS.iload X553.here hx rfl (hb hby d18_92) rfl  k) ?_
        refine Rch.go (U' := T553.setTop (mkF m 96 #[rv a1, iv p1, jv x2, sv, iv p4, .val .null, iv (0 : Int32), iv (3 : Int32), iv (0 : Int32)] [.null, (.int p4), (.long x2), (.int (0 : Int32)), (.ref a1)])) (fun _ k => XS.aload X553.here hx rfl (hb hby d18_94) rfl rfl k) ?_
        refine Rch.go (U' := T553.setTop (mkF m 98 #[rv a1, iv p1, jv x2, sv, iv p4, .val .null, iv (0 : Int32), iv (3 : Int32), iv (0 : Int32)] [(.int (0 : Int32)), .null, (.int p4), (.long x2), (.int (0 : Int32)), (.ref a1)])) (fun _ k => XS.iload X553.here hx rfl (hb hby d18_96) rfl  k) ?_
        obtain ⟨cq564, kq564, q564a, q564b, q564c⟩ := isOf hZ e553 f554
        obtain ⟨_, _, ⟨T564, L564, k564, n564⟩, -, X564, ⟨Lc564, hQ564, l564, y564, z564⟩, st564⟩ := X553.virtualBack hx (y := yS) (z := yS) hown (mvT hZ (wi hw 50 rfl)) (mvT hZ (wi hw 51 rfl)) (notFace_of_selects (args := #[]) (mvT hZ (wi hw 53 rfl))) (mvT hZ (wi hw 53 rfl)) (mvT hZ (wi hw 52 rfl)) (by decide) (backOf (W := 0) (rmS0 l Z a0 hw [] a1 bh ba bl kh ka kl (cn + (1 : Int32)) gs (va.set 0 (.int p1)) vl x2 p4 h553 n0 z563 ⟨f554, F553, f555, f556, f557, f558, f559, f560, f561, f562, ⟨lg, (by rw [List.length_set, la]), ll⟩, ⟨g_a1, g_bh, g_ba, g_bl⟩, ⟨n_h, n_a, n_l⟩, n_ha, n_hl, n_al⟩) hZ (wi hw 54 rfl) (wi hw 2 rfl) (by decide) (by decide)) q564a q564c (g := (mkF m 98 #[rv a1, iv p1, jv x2, sv, iv p4, .val .null, iv (0 : Int32), iv (3 : Int32), iv (0 : Int32)] [(.int (0 : Int32)), .null, (.int p4), (.long x2), (.int (0 : Int32)), (.ref a1)])) rfl (by rw [hml]; rfl) (Steps.refl _) (argsL := [(.int (0 : Int32)), (.long x2), (.int p4), .null, (.int (0 : Int32))]) (rest := []) (lenOf pd_10 rfl) rfl (by show 2 * 0 + _ ≤ _; exact Nat.le_of_eq rfl) (hb hby d18_98) (fun _ _ => ⟨rfl, e553, (by decide : 0 + 0 ≤ _), (by decide : 0 + 0 ≤ _)⟩)
        dsimp only [Pt.U, Pt.locs, Pt.cells, Pt.slots] at X564 l564 y564 z564 st564 hQ564
        subst l564 y564 z564
        obtain ⟨rfl, N564q, K564q, Vh564, Vl564⟩ := hQ564
        have N564 := Fr.app N553 N564q
        have z565 := Nat.le_trans z563 K564q.1
        have f566 := f554.keep K564q
        have f567 := F553.keep K564q (ninS n_h (ninS n_l nin0))
        have f568 := f555.keep K564q (ninS n_h (ninS n_l nin0))
        have f569 := f556.keep K564q (ninS n_h (ninS n_l nin0))
        have f570 := f557.keep K564q (ninS n_h (ninS n_l nin0))
        have f571 := f558.keep K564q (ninS n_h (ninS n_l nin0))
        have f572 := f559.keep K564q (ninS n_h (ninS n_l nin0))
        have f573 := f561.keep K564q (ninS (Ne.symm n_ha) (ninS n_al nin0))
        refine Rch.to (U' := T564.setTop (mkF m 101 #[rv a1, iv p1, jv x2, sv, iv p4, .val .null, iv (0 : Int32), iv (3 : Int32), iv (0 : Int32)] [])) st564 ?_
        refine Rch.go (U' := T564.setTop (mkF m 103 #[rv a1, iv p1, jv x2, sv, iv p4, .val .null, iv (0 : Int32), iv (3 : Int32), iv (0 : Int32)] [(.int (0 : Int32))])) (fun _ k => XS.iload X564.here hx rfl (hb hby d18_101) rfl  k) ?_
        refine Rch.fin X564 hlk (v := some (.int (0 : Int32))) (fun h => by rw [hret] at h; cases h) rfl (by decide) (by decide) (fun fs hr => retI X564 hx hret (hb hby d18_103) hr) ?_
        have hfr : own_free gs 4 (own_s p1) = 0 := by rw [hsj]; simp only [own_free, br428, br465, br502, br539, ↓reduceIte]
        refine ⟨_, _, by rw [hfr]; rfl, N564, z565, ⟨f566, f567, f568, f569, f570, f571, f572, (by unfold own_add; rw [hfr]; exact Vh564), f573, Vl564, ⟨by unfold own_add; rw [List.length_set, lg], by rw [List.length_set, la], by rw [List.length_set, ll]⟩, ⟨g_a1, g_bh, g_ba, g_bl⟩, ⟨n_h, n_a, n_l⟩, n_ha, n_hl, n_al⟩⟩
set_option maxRecDepth 65536 in
set_option maxHeartbeats 40000000 in
theorem tailN2 {p : Program} {l : Launch} {e : Env} {s : State} {m : MethodId} {args : Array Value} {below : List Frame} {meth : Method} {c : Code} {T0 : State} {locs : List Loc} {Z : State} {a0 : Array Value} {h0 : Heap} {n0 : Nat}  (a1 : Addr) (bh : Addr) (ba : Addr) (bl : Addr) (kh : ClassId) (ka : ClassId) (kl : ClassId) (cn : Int32) (gs : List Int64) (va : List Value) (vl : List Value) (p1 : Int32) (x2 : Int64) (p4 : Int32)
    (X0 : Stand p l e ({ frames := 2, cells := 3, slots := 12, locals := 64 } : Room) s m args below meth c T0 locs 0 0) (hx : p.tables.exec = Jvm.exec) (hZ : Z.Warmed39 s.vm) (hw : ∀ d ∈ tables_1, d.before a0 Z = true) (hby : c.code = prog_36_method_17_code) (hml : c.maxLocals = 9) (hown : s.vm.findClass cST = some m.cls) (hret : meth.sig.returnType = some .int) (hlk : meth.locks = false) (e0 : T0.heap = h0) (N0 : Fr n0 locs) (Z0 : n0 ≤ h0.size) (B : Tb Z h0 n0 a1 bh ba bl kh ka kl cn gs va vl) (hz : gs.getD 0 0 = 0 ∨ gs.getD 1 0 = 0 ∨ gs.getD 2 0 = 0 ∨ gs.getD 3 0 = 0) (hsj : own_s p1 = 2) :
    Rch p e below (Fin s below (fun v h L => ∃ (va' vl' : List Value), v = some (.int (Int32.ofNat (own_free gs 4 (own_s p1)))) ∧ Fr n0 L ∧ n0 ≤ h.size ∧ Tb Z h n0 a1 bh ba bl kh ka kl (cn + (1 : Int32)) (own_add gs (own_s p1) x2) va' vl') 3 12) (T0.setTop (mkF m 46 #[rv a1, iv p1, jv x2, sv, iv p4, .val .null, iv (0 : Int32), iv (3 : Int32), iv (2 : Int32)] [])) := by
  obtain ⟨E_a1, F_a1_count, F_a1_handles, F_a1_hashes, F_a1_lengths, F_a1_outside, F_a1_expiries, V_bh, V_ba, V_bl, ⟨lg, la, ll⟩, ⟨g_a1, g_bh, g_ba, g_bl⟩, ⟨n_h, n_a, n_l⟩, n_ha, n_hl, n_al⟩ := B
  refine Rch.go (U' := T0.setTop (mkF m 47 #[rv a1, iv p1, jv x2, sv, iv p4, .val .null, iv (0 : Int32), iv (3 : Int32), iv (2 : Int32)] [(.ref a1)])) (fun _ k => XS.aloadN X0.here hx rfl (hb hby d18_46) rfl rfl k) ?_
  obtain ⟨T574, X574, e574, st574⟩ := getF X0 hx hZ hown (host := "") (Or.inl (wi hw 26 rfl)) Via.refl e0 F_a1_handles (g := (mkF m 47 #[rv a1, iv p1, jv x2, sv, iv p4, .val .null, iv (0 : Int32), iv (3 : Int32), iv (2 : Int32)] [(.ref a1)])) rfl rfl (hb hby d18_47)
  refine Rch.go (U' := T574.setTop (mkF m 50 #[rv a1, iv p1, jv x2, sv, iv p4, .val .null, iv (0 : Int32), iv (3 : Int32), iv (2 : Int32)] [(.ref bh)])) st574 ?_
  refine Rch.go (U' := T574.setTop (mkF m 52 #[rv a1, iv p1, jv x2, sv, iv p4, .val .null, iv (0 : Int32), iv (3 : Int32), iv (2 : Int32)] [(.int (2 : Int32)), (.ref bh)])) (fun _ k => XS.iload X574.here hx rfl (hb hby d18_50) rfl  k) ?_
  obtain ⟨cl575, Ar575, qk575, Sz575, Mn575, Hs575, Gf575⟩ := id V_bh
  have ib575 : ¬ ((2 : Int32) < 0 ∨ cl575.slots.size ≤ ((2 : Int32)).toNatClampNeg) := inb_of Sz575 ⟨by decide, by decide⟩
  have ea575 : cl575.slots[((2 : Int32)).toNatClampNeg]? = some (.long (gs.getD 2 0)) := Has.at Hs575 ib575 (own_getJ gs 2)
  refine Rch.go (U' := T574.setTop (mkF m 53 #[rv a1, iv p1, jv x2, sv, iv p4, .val .null, iv (0 : Int32), iv (3 : Int32), iv (2 : Int32)] [(.long (gs.getD 2 0))])) (fun _ k => X574.laload hx (j := (2 : Int32)) (v := (.long (gs.getD 2 0))) (by rw [e574]; exact Ar575.1) (State.isArrayOf_alike hZ.alike Ar575.2.1) Ar575.2.2 ib575 ea575 (g := (mkF m 52 #[rv a1, iv p1, jv x2, sv, iv p4, .val .null, iv (0 : Int32), iv (3 : Int32), iv (2 : Int32)] [(.int (2 : Int32)), (.ref bh)])) rfl rfl (hb hby d18_52) _ k) ?_
  refine Rch.go (U' := T574.setTop (mkF m 54 #[rv a1, iv p1, jv x2, sv, iv p4, .val .null, iv (0 : Int32), iv (3 : Int32), iv (2 : Int32)] [(.long (0 : Int64)), (.long (gs.getD 2 0))])) (fun _ k => XS.lconst X574.here hx rfl (hb hby d18_53) k) ?_
  refine Rch.go (U' := T574.setTop (mkF m 55 #[rv a1, iv p1, jv x2, sv, iv p4, .val .null, iv (0 : Int32), iv (3 : Int32), iv (2 : Int32)] [(.int (XT.cmpL (gs.getD 2 0) (0 : Int64)))])) (fun _ k => XT.lcmp X574.here hx rfl (hb hby d18_54) rfl k) ?_
  by_cases br576 : (gs.getD 2 0) = (0 : Int64)
  ·
    refine Rch.go (U' := T574.setTop (mkF m 70 #[rv a1, iv p1, jv x2, sv, iv p4, .val .null, iv (0 : Int32), iv (3 : Int32), iv (2 : Int32)] [])) (fun _ k => XS.ifYes X574.here hx rfl (pc0 := 55) (pc' := 70) rfl (hb hby d18_55) rfl (XT.ll_eq_t br576) (by decide) (by decide) k) ?_
    refine Rch.go (U' := T574.setTop (mkF m 71 #[rv a1, iv p1, jv x2, sv, iv p4, .val .null, iv (0 : Int32), iv (3 : Int32), iv (2 : Int32)] [(.ref a1)])) (fun _ k => XS.aloadN X574.here hx rfl (hb hby d18_70) rfl rfl k) ?_
    obtain ⟨T577, X577, e577, st577⟩ := getF X574 hx hZ hown (host := "") (Or.inl (wi hw 36 rfl)) Via.refl e574 F_a1_hashes (g := (mkF m 71 #[rv a1, iv p1, jv x2, sv, iv p4, .val .null, iv (0 : Int32), iv (3 : Int32), iv (2 : Int32)] [(.ref a1)])) rfl rfl (hb hby d18_71)
    refine Rch.go (U' := T577.setTop (mkF m 74 #[rv a1, iv p1, jv x2, sv, iv p4, .val .null, iv (0 : Int32), iv (3 : Int32), iv (2 : Int32)] [(.ref ba)])) st577 ?_
    refine Rch.go (U' := T577.setTop (mkF m 76 #[rv a1, iv p1, jv x2, sv, iv p4, .val .null, iv (0 : Int32), iv (3 : Int32), iv (2 : Int32)] [(.int (2 : Int32)), (.ref ba)])) (fun _ k => XS.iload X577.here hx rfl (hb hby d18_74) rfl  k) ?_
    refine Rch.go (U' := T577.setTop (mkF m 77 #[rv a1, iv p1, jv x2, sv, iv p4, .val .null, iv (0 : Int32), iv (3 : Int32), iv (2 : Int32)] [(.int p1), (.int (2 : Int32)), (.ref ba)])) (fun _ k => XS.iloadN X577.here hx rfl (hb hby d18_76) rfl  k) ?_
    obtain ⟨cl578, Ar578, qk578, Sz578, Mn578, Hs578, Gf578⟩ := id V_ba
    have ib578 : ¬ ((2 : Int32) < 0 ∨ cl578.slots.size ≤ ((2 : Int32)).toNatClampNeg) := inb_of Sz578 ⟨by decide, by decide⟩
    obtain ⟨T578, h578, X578, e578, W578, st578⟩ := stI X577 hx hZ e577 Ar578 (j := (2 : Int32)) ib578 (g := (mkF m 77 #[rv a1, iv p1, jv x2, sv, iv p4, .val .null, iv (0 : Int32), iv (3 : Int32), iv (2 : Int32)] [(.int p1), (.int (2 : Int32)), (.ref ba)])) rfl rfl (hb hby d18_77)
    have V578 : Arv Z h578 ba ka .int (4 : Int32) (va.set 2 (.int p1)) (.int (0 : Int32)) := Arv.set Ar578 qk578 Sz578 Mn578 Hs578 Gf578 rfl W578 2 rfl (by rw [la]; decide)
    have f579 := E_a1.wr W578
    have f580 := F_a1_count.other W578 (Or.inl n_a)
    have f581 := F_a1_handles.other W578 (Or.inl n_a)
    have f582 := F_a1_hashes.other W578 (Or.inl n_a)
    have f583 := F_a1_lengths.other W578 (Or.inl n_a)
    have f584 := F_a1_outside.other W578 (Or.inl n_a)
    have f585 := F_a1_expiries.other W578 (Or.inl n_a)
    have f586 := V_bh.other W578 n_ha
    have f587 := V_bl.other W578 (Ne.symm n_al)
    have N578 := Fr.snoc X578 N0 g_ba
    have z588 := Nat.le_trans Z0 (Keep.of_wr W578).1
    refine Rch.go (U' := T578.setTop (mkF m 78 #[rv a1, iv p1, jv x2, sv, iv p4, .val .null, iv (0 : Int32), iv (3 : Int32), iv (2 : Int32)] [])) st578 ?_
    refine Rch.go (U' := T578.setTop (mkF m 79 #[rv a1, iv p1, jv x2, sv, iv p4, .val .null, iv (0 : Int32), iv (3 : Int32), iv (2 : Int32)] [(.ref a1)])) (fun _ k => XS.aloadN X578.here hx rfl (hb hby d18_78) rfl rfl k) ?_
    refine Rch.go (U' := T578.setTop (mkF m 80 #[rv a1, iv p1, jv x2, sv, iv p4, .val .null, iv (0 : Int32), iv (3 : Int32), iv (2 : Int32)] [(.ref a1), (.ref a1)])) (fun _ k => XS.dup X578.here hx rfl (hb hby d18_79) rfl rfl k) ?_
    obtain ⟨T589, X589, e589, st589⟩ := getF X578 hx hZ hown (host := "") (Or.inl (wi hw 19 rfl)) Via.refl e578 f580 (g := (mkF m 80 #[rv a1, iv p1, jv x2, sv, iv p4, .val .null, iv (0 : Int32), iv (3 : Int32), iv (2 : Int32)] [(.ref a1), (.ref a1)])) rfl rfl (hb hby d18_80)
    refine Rch.go (U' := T589.setTop (mkF m 83 #[rv a1, iv p1, jv x2, sv, iv p4, .val .null, iv (0 : Int32), iv (3 : Int32), iv (2 : Int32)] [(.int cn), (.ref a1)])) st589 ?_
    refine Rch.go (U' := T589.setTop (mkF m 84 #[rv a1, iv p1, jv x2, sv, iv p4, .val .null, iv (0 : Int32), iv (3 : Int32), iv (2 : Int32)] [(.int (1 : Int32)), (.int cn), (.ref a1)])) (fun _ k => XS.iconst X589.here hx rfl (hb hby d18_83) k) ?_
    refine Rch.go (U' := T589.setTop (mkF m 85 #[rv a1, iv p1, jv x2, sv, iv p4, .val .null, iv (0 : Int32), iv (3 : Int32), iv (2 : Int32)] [(.int (cn + (1 : Int32))), (.ref a1)])) (fun _ k => XS.iadd X589.here hx rfl (hb hby d18_84) rfl k) ?_
    obtain ⟨T590, h590, X590, e590, W590, st590⟩ := putF X589 hx hZ hown (host := "") (Or.inl (wi hw 19 rfl)) Via.refl e589 f580 f579 (Or.inl (wi hw 20 rfl)) (wi hw 1 rfl) (ty := .int) (by decide) rfl rfl (g := (mkF m 85 #[rv a1, iv p1, jv x2, sv, iv p4, .val .null, iv (0 : Int32), iv (3 : Int32), iv (2 : Int32)] [(.int (cn + (1 : Int32))), (.ref a1)])) rfl rfl (hb hby d18_85)
    have F590 := f580.same W590
    have f591 := f579.wr W590
    have f592 := f581.other W590 (Or.inr (slot_ne (Or.inl (wi hw 27 rfl)) (Or.inl (wi hw 20 rfl)) (by decide) (t := (.array .long)) (t' := .int) (by decide) (by decide)))
    have f593 := f582.other W590 (Or.inr (slot_ne (Or.inl (wi hw 37 rfl)) (Or.inl (wi hw 20 rfl)) (by decide) (t := (.array .int)) (t' := .int) (by decide) (by decide)))
    have f594 := f583.other W590 (Or.inr (slot_ne (Or.inl (wi hw 39 rfl)) (Or.inl (wi hw 20 rfl)) (by decide) (t := (.array .int)) (t' := .int) (by decide) (by decide)))
    have f595 := f584.other W590 (Or.inr (slot_ne (Or.inl (wi hw 41 rfl)) (Or.inl (wi hw 20 rfl)) (by decide) (t := (.array (.array .byte))) (t' := .int) (by decide) (by decide)))
    have f596 := f585.other W590 (Or.inr (slot_ne (Or.inl (wi hw 45 rfl)) (Or.inl (wi hw 20 rfl)) (by decide) (t := (.object "java/util/BitSet")) (t' := .int) (by decide) (by decide)))
    have f597 := f586.other W590 (Ne.symm n_h)
    have f598 := V578.other W590 (Ne.symm n_a)
    have f599 := f587.other W590 (Ne.symm n_l)
    have N590 := Fr.snoc X590 N578 g_a1
    have z600 := Nat.le_trans z588 (Keep.of_wr W590).1
    refine Rch.go (U' := T590.setTop (mkF m 88 #[rv a1, iv p1, jv x2, sv, iv p4, .val .null, iv (0 : Int32), iv (3 : Int32), iv (2 : Int32)] [])) st590 ?_
    refine Rch.go (U' := T590.setTop (mkF m 89 #[rv a1, iv p1, jv x2, sv, iv p4, .val .null, iv (0 : Int32), iv (3 : Int32), iv (2 : Int32)] [(.ref a1)])) (fun _ k => XS.aloadN X590.here hx rfl (hb hby d18_88) rfl rfl k) ?_
    refine Rch.go (U' := T590.setTop (mkF m 91 #[rv a1, iv p1, jv x2, sv, iv p4, .val .null, iv (0 : Int32), iv (3 : Int32), iv (2 : Int32)] [(.int (2 : Int32)), (.ref a1)])) (fun _ k => XS.iload X590.here hx rfl (hb hby d18_89) rfl  k) ?_
    refine Rch.go (U' := T590.setTop (mkF m 92 #[rv a1, iv p1, jv x2, sv, iv p4, .val .null, iv (0 : Int32), iv (3 : Int32), iv (2 : Int32)] [(.long x2), (.int (2 : Int32)), (.ref a1)])) (fun _ k => XS.lloadN X590.here hx rfl (hb hby d18_91) rfl  k) ?_
    refine Rch.go (U' := T590.setTop (mkF m 94 #[rv a1, iv p1, jv x2, sv, iv p4, .val .null, iv (0 : Int32), iv (3 : Int32), iv (2 : Int32)] [(.int p4), (.long x2), (.int (2 : Int32)), (.ref a1)])) (fun _ k => XS.iload X590.here hx rfl (hb hby d18_92) rfl  k) ?_
    refine Rch.go (U' := T590.setTop (mkF m 96 #[rv a1, iv p1, jv x2, sv, iv p4, .val .null, iv (0 : Int32), iv (3 : Int32), iv (2 : Int32)] [.null, (.int p4), (.long x2), (.int (2 : Int32)), (.ref a1)])) (fun _ k => XS.aload X590.here hx rfl (hb hby d18_94) rfl rfl k) ?_
    refine Rch.go (U' := T590.setTop (mkF m 98 #[rv a1, iv p1, jv x2, sv, iv p4, .val .null, iv (0 : Int32), iv (3 : Int32), iv (2 : Int32)] [(.int (0 : Int32)), .null, (.int p4), (.long x2), (.int (2 : Int32)), (.ref a1)])) (fun _ k => XS.iload X590.here hx rfl (hb hby d18_96) rfl  k) ?_
    obtain ⟨cq601, kq601, q601a, q601b, q601c⟩ := isOf hZ e590 f591
    obtain ⟨_, _, ⟨T601, L601, k601, n601⟩, -, X601, ⟨Lc601, hQ601, l601, y601, z601⟩, st601⟩ := X590.virtualBack hx (y := yS) (z := yS) hown (mvT hZ (wi hw 50 rfl)) (mvT hZ (wi hw 51 rfl)) (notFace_of_selects (args := #[]) (mvT hZ (wi hw 53 rfl))) (mvT hZ (wi hw 53 rfl)) (mvT hZ (wi hw 52 rfl)) (by decide) (backOf (W := 0) (rmS2 l Z a0 hw [] a1 bh ba bl kh ka kl (cn + (1 : Int32)) gs (va.set 2 (.int p1)) vl x2 p4 h590 n0 z600 ⟨f591, F590, f592, f593, f594, f595, f596, f597, f598, f599, ⟨lg, (by rw [List.length_set, la]), ll⟩, ⟨g_a1, g_bh, g_ba, g_bl⟩, ⟨n_h, n_a, n_l⟩, n_ha, n_hl, n_al⟩) hZ (wi hw 54 rfl) (wi hw 2 rfl) (by decide) (by decide)) q601a q601c (g := (mkF m 98 #[rv a1, iv p1, jv x2, sv, iv p4, .val .null, iv (0 : Int32), iv (3 : Int32), iv (2 : Int32)] [(.int (0 : Int32)), .null, (.int p4), (.long x2), (.int (2 : Int32)), (.ref a1)])) rfl (by rw [hml]; rfl) (Steps.refl _) (argsL := [(.int (2 : Int32)), (.long x2), (.int p4), .null, (.int (0 : Int32))]) (rest := []) (lenOf pd_10 rfl) rfl (by show 2 * 0 + _ ≤ _; exact Nat.le_of_eq rfl) (hb hby d18_98) (fun _ _ => ⟨rfl, e590, (by decide : 0 + 0 ≤ _), (by decide : 0 + 0 ≤ _)⟩)
    dsimp only [Pt.U, Pt.locs, Pt.cells, Pt.slots] at X601 l601 y601 z601 st601 hQ601
    subst l601 y601 z601
    obtain ⟨rfl, N601q, K601q, Vh601, Vl601⟩ := hQ601
    have N601 := Fr.app N590 N601q
    have z602 := Nat.le_trans z600 K601q.1
    have f603 := f591.keep K601q
    have f604 := F590.keep K601q (ninS n_h (ninS n_l nin0))
    have f605 := f592.keep K601q (ninS n_h (ninS n_l nin0))
    have f606 := f593.keep K601q (ninS n_h (ninS n_l nin0))
    have f607 := f594.keep K601q (ninS n_h (ninS n_l nin0))
    have f608 := f595.keep K601q (ninS n_h (ninS n_l nin0))
    have f609 := f596.keep K601q (ninS n_h (ninS n_l nin0))
    have f610 := f598.keep K601q (ninS (Ne.symm n_ha) (ninS n_al nin0))
    refine Rch.to (U' := T601.setTop (mkF m 101 #[rv a1, iv p1, jv x2, sv, iv p4, .val .null, iv (0 : Int32), iv (3 : Int32), iv (2 : Int32)] [])) st601 ?_
    refine Rch.go (U' := T601.setTop (mkF m 103 #[rv a1, iv p1, jv x2, sv, iv p4, .val .null, iv (0 : Int32), iv (3 : Int32), iv (2 : Int32)] [(.int (2 : Int32))])) (fun _ k => XS.iload X601.here hx rfl (hb hby d18_101) rfl  k) ?_
    refine Rch.fin X601 hlk (v := some (.int (2 : Int32))) (fun h => by rw [hret] at h; cases h) rfl (by decide) (by decide) (fun fs hr => retI X601 hx hret (hb hby d18_103) hr) ?_
    have hfr : own_free gs 4 (own_s p1) = 2 := by rw [hsj]; simp only [own_free, br576, ↓reduceIte]
    refine ⟨_, _, by rw [hfr]; rfl, N601, z602, ⟨f603, f604, f605, f606, f607, f608, f609, (by unfold own_add; rw [hfr]; exact Vh601), f610, Vl601, ⟨by unfold own_add; rw [List.length_set, lg], by rw [List.length_set, la], by rw [List.length_set, ll]⟩, ⟨g_a1, g_bh, g_ba, g_bl⟩, ⟨n_h, n_a, n_l⟩, n_ha, n_hl, n_al⟩⟩
  ·
    refine Rch.go (U' := T574.setTop (mkF m 58 #[rv a1, iv p1, jv x2, sv, iv p4, .val .null, iv (0 : Int32), iv (3 : Int32), iv (2 : Int32)] [])) (fun _ k => XS.ifNo X574.here hx rfl (hb hby d18_55) rfl (XT.ll_eq_f br576) k) ?_
    refine Rch.go (U' := T574.setTop (mkF m 60 #[rv a1, iv p1, jv x2, sv, iv p4, .val .null, iv (0 : Int32), iv (3 : Int32), iv (2 : Int32)] [(.int (2 : Int32))])) (fun _ k => XS.iload X574.here hx rfl (hb hby d18_58) rfl  k) ?_
    refine Rch.go (U' := T574.setTop (mkF m 61 #[rv a1, iv p1, jv x2, sv, iv p4, .val .null, iv (0 : Int32), iv (3 : Int32), iv (2 : Int32)] [(.int (1 : Int32)), (.int (2 : Int32))])) (fun _ k => XS.iconst X574.here hx rfl (hb hby d18_60) k) ?_
    refine Rch.go (U' := T574.setTop (mkF m 62 #[rv a1, iv p1, jv x2, sv, iv p4, .val .null, iv (0 : Int32), iv (3 : Int32), iv (2 : Int32)] [(.int ((2 : Int32) + (1 : Int32)))])) (fun _ k => XS.iadd X574.here hx rfl (hb hby d18_61) rfl k) ?_
    rw [(by decide : ((2 : Int32) + (1 : Int32)) = (3 : Int32))]
    refine Rch.go (U' := T574.setTop (mkF m 64 #[rv a1, iv p1, jv x2, sv, iv p4, .val .null, iv (0 : Int32), iv (3 : Int32), iv (2 : Int32)] [(.int (3 : Int32)), (.int (3 : Int32))])) (fun _ k => XS.iload X574.here hx rfl (hb hby d18_62) rfl  k) ?_
    refine Rch.go (U' := T574.setTop (mkF m 65 #[rv a1, iv p1, jv x2, sv, iv p4, .val .null, iv (0 : Int32), iv (3 : Int32), iv (2 : Int32)] [(.int ((3 : Int32) &&& (3 : Int32)))])) (fun _ k => XS.iand X574.here hx rfl (hb hby d18_64) rfl k) ?_
    rw [(by decide : ((3 : Int32) &&& (3 : Int32)) = (3 : Int32))]
    refine Rch.go (U' := T574.setTop (mkF m 67 #[rv a1, iv p1, jv x2, sv, iv p4, .val .null, iv (0 : Int32), iv (3 : Int32), iv (3 : Int32)] [])) (fun _ k => XS.istore X574.here hx rfl (hb hby d18_65) rfl (l' := #[rv a1, iv p1, jv x2, sv, iv p4, .val .null, iv (0 : Int32), iv (3 : Int32), iv (3 : Int32)]) rfl k) ?_
    refine Rch.go (U' := T574.setTop (mkF m 46 #[rv a1, iv p1, jv x2, sv, iv p4, .val .null, iv (0 : Int32), iv (3 : Int32), iv (3 : Int32)] [])) (fun _ k => XS.goto X574.here hx rfl (pc0 := 67) (pc' := 46) rfl (hb hby d18_67) (by decide) (by decide) k) ?_
    refine Rch.go (U' := T574.setTop (mkF m 47 #[rv a1, iv p1, jv x2, sv, iv p4, .val .null, iv (0 : Int32), iv (3 : Int32), iv (3 : Int32)] [(.ref a1)])) (fun _ k => XS.aloadN X574.here hx rfl (hb hby d18_46) rfl rfl k) ?_
    obtain ⟨T611, X611, e611, st611⟩ := getF X574 hx hZ hown (host := "") (Or.inl (wi hw 26 rfl)) Via.refl e574 F_a1_handles (g := (mkF m 47 #[rv a1, iv p1, jv x2, sv, iv p4, .val .null, iv (0 : Int32), iv (3 : Int32), iv (3 : Int32)] [(.ref a1)])) rfl rfl (hb hby d18_47)
    refine Rch.go (U' := T611.setTop (mkF m 50 #[rv a1, iv p1, jv x2, sv, iv p4, .val .null, iv (0 : Int32), iv (3 : Int32), iv (3 : Int32)] [(.ref bh)])) st611 ?_
    refine Rch.go (U' := T611.setTop (mkF m 52 #[rv a1, iv p1, jv x2, sv, iv p4, .val .null, iv (0 : Int32), iv (3 : Int32), iv (3 : Int32)] [(.int (3 : Int32)), (.ref bh)])) (fun _ k => XS.iload X611.here hx rfl (hb hby d18_50) rfl  k) ?_
    obtain ⟨cl612, Ar612, qk612, Sz612, Mn612, Hs612, Gf612⟩ := id V_bh
    have ib612 : ¬ ((3 : Int32) < 0 ∨ cl612.slots.size ≤ ((3 : Int32)).toNatClampNeg) := inb_of Sz612 ⟨by decide, by decide⟩
    have ea612 : cl612.slots[((3 : Int32)).toNatClampNeg]? = some (.long (gs.getD 3 0)) := Has.at Hs612 ib612 (own_getJ gs 3)
    refine Rch.go (U' := T611.setTop (mkF m 53 #[rv a1, iv p1, jv x2, sv, iv p4, .val .null, iv (0 : Int32), iv (3 : Int32), iv (3 : Int32)] [(.long (gs.getD 3 0))])) (fun _ k => X611.laload hx (j := (3 : Int32)) (v := (.long (gs.getD 3 0))) (by rw [e611]; exact Ar612.1) (State.isArrayOf_alike hZ.alike Ar612.2.1) Ar612.2.2 ib612 ea612 (g := (mkF m 52 #[rv a1, iv p1, jv x2, sv, iv p4, .val .null, iv (0 : Int32), iv (3 : Int32), iv (3 : Int32)] [(.int (3 : Int32)), (.ref bh)])) rfl rfl (hb hby d18_52) _ k) ?_
    refine Rch.go (U' := T611.setTop (mkF m 54 #[rv a1, iv p1, jv x2, sv, iv p4, .val .null, iv (0 : Int32), iv (3 : Int32), iv (3 : Int32)] [(.long (0 : Int64)), (.long (gs.getD 3 0))])) (fun _ k => XS.lconst X611.here hx rfl (hb hby d18_53) k) ?_
    refine Rch.go (U' := T611.setTop (mkF m 55 #[rv a1, iv p1, jv x2, sv, iv p4, .val .null, iv (0 : Int32), iv (3 : Int32), iv (3 : Int32)] [(.int (XT.cmpL (gs.getD 3 0) (0 : Int64)))])) (fun _ k => XT.lcmp X611.here hx rfl (hb hby d18_54) rfl k) ?_
    by_cases br613 : (gs.getD 3 0) = (0 : Int64)
    ·
      refine Rch.go (U' := T611.setTop (mkF m 70 #[rv a1, iv p1, jv x2, sv, iv p4, .val .null, iv (0 : Int32), iv (3 : Int32), iv (3 : Int32)] [])) (fun _ k => XS.ifYes X611.here hx rfl (pc0 := 55) (pc' := 70) rfl (hb hby d18_55) rfl (XT.ll_eq_t br613) (by decide) (by decide) k) ?_
      refine Rch.go (U' := T611.setTop (mkF m 71 #[rv a1, iv p1, jv x2, sv, iv p4, .val .null, iv (0 : Int32), iv (3 : Int32), iv (3 : Int32)] [(.ref a1)])) (fun _ k => XS.aloadN X611.here hx rfl (hb hby d18_70) rfl rfl k) ?_
      obtain ⟨T614, X614, e614, st614⟩ := getF X611 hx hZ hown (host := "") (Or.inl (wi hw 36 rfl)) Via.refl e611 F_a1_hashes (g := (mkF m 71 #[rv a1, iv p1, jv x2, sv, iv p4, .val .null, iv (0 : Int32), iv (3 : Int32), iv (3 : Int32)] [(.ref a1)])) rfl rfl (hb hby d18_71)
      refine Rch.go (U' := T614.setTop (mkF m 74 #[rv a1, iv p1, jv x2, sv, iv p4, .val .null, iv (0 : Int32), iv (3 : Int32), iv (3 : Int32)] [(.ref ba)])) st614 ?_
      refine Rch.go (U' := T614.setTop (mkF m 76 #[rv a1, iv p1, jv x2, sv, iv p4, .val .null, iv (0 : Int32), iv (3 : Int32), iv (3 : Int32)] [(.int (3 : Int32)), (.ref ba)])) (fun _ k => XS.iload X614.here hx rfl (hb hby d18_74) rfl  k) ?_
      refine Rch.go (U' := T614.setTop (mkF m 77 #[rv a1, iv p1, jv x2, sv, iv p4, .val .null, iv (0 : Int32), iv (3 : Int32), iv (3 : Int32)] [(.int p1), (.int (3 : Int32)), (.ref ba)])) (fun _ k => XS.iloadN X614.here hx rfl (hb hby d18_76) rfl  k) ?_
      obtain ⟨cl615, Ar615, qk615, Sz615, Mn615, Hs615, Gf615⟩ := id V_ba
      have ib615 : ¬ ((3 : Int32) < 0 ∨ cl615.slots.size ≤ ((3 : Int32)).toNatClampNeg) := inb_of Sz615 ⟨by decide, by decide⟩
      obtain ⟨T615, h615, X615, e615, W615, st615⟩ := stI X614 hx hZ e614 Ar615 (j := (3 : Int32)) ib615 (g := (mkF m 77 #[rv a1, iv p1, jv x2, sv, iv p4, .val .null, iv (0 : Int32), iv (3 : Int32), iv (3 : Int32)] [(.int p1), (.int (3 : Int32)), (.ref ba)])) rfl rfl (hb hby d18_77)
      have V615 : Arv Z h615 ba ka .int (4 : Int32) (va.set 3 (.int p1)) (.int (0 : Int32)) := Arv.set Ar615 qk615 Sz615 Mn615 Hs615 Gf615 rfl W615 3 rfl (by rw [la]; decide)
      have f616 := E_a1.wr W615
      have f617 := F_a1_count.other W615 (Or.inl n_a)
      have f618 := F_a1_handles.other W615 (Or.inl n_a)
      have f619 := F_a1_hashes.other W615 (Or.inl n_a)
      have f620 := F_a1_lengths.other W615 (Or.inl n_a)
      have f621 := F_a1_outside.other W615 (Or.inl n_a)
      have f622 := F_a1_expiries.other W615 (Or.inl n_a)
      have f623 := V_bh.other W615 n_ha
      have f624 := V_bl.other W615 (Ne.symm n_al)
      have N615 := Fr.snoc X615 N0 g_ba
      have z625 := Nat.le_trans Z0 (Keep.of_wr W615).1
      refine Rch.go (U' := T615.setTop (mkF m 78 #[rv a1, iv p1, jv x2, sv, iv p4, .val .null, iv (0 : Int32), iv (3 : Int32), iv (3 : Int32)] [])) st615 ?_
      refine Rch.go (U' := T615.setTop (mkF m 79 #[rv a1, iv p1, jv x2, sv, iv p4, .val .null, iv (0 : Int32), iv (3 : Int32), iv (3 : Int32)] [(.ref a1)])) (fun _ k => XS.aloadN X615.here hx rfl (hb hby d18_78) rfl rfl k) ?_
      refine Rch.go (U' := T615.setTop (mkF m 80 #[rv a1, iv p1, jv x2, sv, iv p4, .val .null, iv (0 : Int32), iv (3 : Int32), iv (3 : Int32)] [(.ref a1), (.ref a1)])) (fun _ k => XS.dup X615.here hx rfl (hb hby d18_79) rfl rfl k) ?_
      obtain ⟨T626, X626, e626, st626⟩ := getF X615 hx hZ hown (host := "") (Or.inl (wi hw 19 rfl)) Via.refl e615 f617 (g := (mkF m 80 #[rv a1, iv p1, jv x2, sv, iv p4, .val .null, iv (0 : Int32), iv (3 : Int32), iv (3 : Int32)] [(.ref a1), (.ref a1)])) rfl rfl (hb hby d18_80)
      refine Rch.go (U' := T626.setTop (mkF m 83 #[rv a1, iv p1, jv x2, sv, iv p4, .val .null, iv (0 : Int32), iv (3 : Int32), iv (3 : Int32)] [(.int cn), (.ref a1)])) st626 ?_
      refine Rch.go (U' := T626.setTop (mkF m 84 #[rv a1, iv p1, jv x2, sv, iv p4, .val .null, iv (0 : Int32), iv (3 : Int32), iv (3 : Int32)] [(.int (1 : Int32)), (.int cn), (.ref a1)])) (fun _ k => XS.iconst X626.here hx rfl (hb hby d18_83) k) ?_
      refine Rch.go (U' := T626.setTop (mkF m 85 #[rv a1, iv p1, jv x2, sv, iv p4, .val .null, iv (0 : Int32), iv (3 : Int32), iv (3 : Int32)] [(.int (cn + (1 : Int32))), (.ref a1)])) (fun _ k => XS.iadd X626.here hx rfl (hb hby d18_84) rfl k) ?_
      obtain ⟨T627, h627, X627, e627, W627, st627⟩ := putF X626 hx hZ hown (host := "") (Or.inl (wi hw 19 rfl)) Via.refl e626 f617 f616 (Or.inl (wi hw 20 rfl)) (wi hw 1 rfl) (ty := .int) (by decide) rfl rfl (g := (mkF m 85 #[rv a1, iv p1, jv x2, sv, iv p4, .val .null, iv (0 : Int32), iv (3 : Int32), iv (3 : Int32)] [(.int (cn + (1 : Int32))), (.ref a1)])) rfl rfl (hb hby d18_85)
      have F627 := f617.same W627
      have f628 := f616.wr W627
      have f629 := f618.other W627 (Or.inr (slot_ne (Or.inl (wi hw 27 rfl)) (Or.inl (wi hw 20 rfl)) (by decide) (t := (.array .long)) (t' := .int) (by decide) (by decide)))
      have f630 := f619.other W627 (Or.inr (slot_ne (Or.inl (wi hw 37 rfl)) (Or.inl (wi hw 20 rfl)) (by decide) (t := (.array .int)) (t' := .int) (by decide) (by decide)))
      have f631 := f620.other W627 (Or.inr (slot_ne (Or.inl (wi hw 39 rfl)) (Or.inl (wi hw 20 rfl)) (by decide) (t := (.array .int)) (t' := .int) (by decide) (by decide)))
      have f632 := f621.other W627 (Or.inr (slot_ne (Or.inl (wi hw 41 rfl)) (Or.inl (wi hw 20 rfl)) (by decide) (t := (.array (.array .byte))) (t' := .int) (by decide) (by decide)))
      have f633 := f622.other W627 (Or.inr (slot_ne (Or.inl (wi hw 45 rfl)) (Or.inl (wi hw 20 rfl)) (by decide) (t := (.object "java/util/BitSet")) (t' := .int) (by decide) (by decide)))
      have f634 := f623.other W627 (Ne.symm n_h)
      have f635 := V615.other W627 (Ne.symm n_a)
      have f636 := f624.other W627 (Ne.symm n_l)
      have N627 := Fr.snoc X627 N615 g_a1
      have z637 := Nat.le_trans z625 (Keep.of_wr W627).1
      refine Rch.go (U' := T627.setTop (mkF m 88 #[rv a1, iv p1, jv x2, sv, iv p4, .val .null, iv (0 : Int32), iv (3 : Int32), iv (3 : Int32)] [])) st627 ?_
      refine Rch.go (U' := T627.setTop (mkF m 89 #[rv a1, iv p1, jv x2, sv, iv p4, .val .null, iv (0 : Int32), iv (3 : Int32), iv (3 : Int32)] [(.ref a1)])) (fun _ k => XS.aloadN X627.here hx rfl (hb hby d18_88) rfl rfl k) ?_
      refine Rch.go (U' := T627.setTop (mkF m 91 #[rv a1, iv p1, jv x2, sv, iv p4, .val .null, iv (0 : Int32), iv (3 : Int32), iv (3 : Int32)] [(.int (3 : Int32)), (.ref a1)])) (fun _ k => XS.iload X627.here hx rfl (hb hby d18_89) rfl  k) ?_
      refine Rch.go (U' := T627.setTop (mkF m 92 #[rv a1, iv p1, jv x2, sv, iv p4, .val .null, iv (0 : Int32), iv (3 : Int32), iv (3 : Int32)] [(.long x2), (.int (3 : Int32)), (.ref a1)])) (fun _ k => XS.lloadN X627.here hx rfl (hb hby d18_91) rfl  k) ?_
      refine Rch.go (U' := T627.setTop (mkF m 94 #[rv a1, iv p1, jv x2, sv, iv p4, .val .null, iv (0 : Int32), iv (3 : Int32), iv (3 : Int32)] [(.int p4), (.long x2), (.int (3 : Int32)), (.ref a1)])) (fun _ k => XS.iload X627.here hx rfl (hb hby d18_92) rfl  k) ?_
      refine Rch.go (U' := T627.setTop (mkF m 96 #[rv a1, iv p1, jv x2, sv, iv p4, .val .null, iv (0 : Int32), iv (3 : Int32), iv (3 : Int32)] [.null, (.int p4), (.long x2), (.int (3 : Int32)), (.ref a1)])) (fun _ k => XS.aload X627.here hx rfl (hb hby d18_94) rfl rfl k) ?_
      refine Rch.go (U' := T627.setTop (mkF m 98 #[rv a1, iv p1, jv x2, sv, iv p4, .val .null, iv (0 : Int32), iv (3 : Int32), iv (3 : Int32)] [(.int (0 : Int32)), .null, (.int p4), (.long x2), (.int (3 : Int32)), (.ref a1)])) (fun _ k => XS.iload X627.here hx rfl (hb hby d18_96) rfl  k) ?_
      obtain ⟨cq638, kq638, q638a, q638b, q638c⟩ := isOf hZ e627 f628
      obtain ⟨_, _, ⟨T638, L638, k638, n638⟩, -, X638, ⟨Lc638, hQ638, l638, y638, z638⟩, st638⟩ := X627.virtualBack hx (y := yS) (z := yS) hown (mvT hZ (wi hw 50 rfl)) (mvT hZ (wi hw 51 rfl)) (notFace_of_selects (args := #[]) (mvT hZ (wi hw 53 rfl))) (mvT hZ (wi hw 53 rfl)) (mvT hZ (wi hw 52 rfl)) (by decide) (backOf (W := 0) (rmS3 l Z a0 hw [] a1 bh ba bl kh ka kl (cn + (1 : Int32)) gs (va.set 3 (.int p1)) vl x2 p4 h627 n0 z637 ⟨f628, F627, f629, f630, f631, f632, f633, f634, f635, f636, ⟨lg, (by rw [List.length_set, la]), ll⟩, ⟨g_a1, g_bh, g_ba, g_bl⟩, ⟨n_h, n_a, n_l⟩, n_ha, n_hl, n_al⟩) hZ (wi hw 54 rfl) (wi hw 2 rfl) (by decide) (by decide)) q638a q638c (g := (mkF m 98 #[rv a1, iv p1, jv x2, sv, iv p4, .val .null, iv (0 : Int32), iv (3 : Int32), iv (3 : Int32)] [(.int (0 : Int32)), .null, (.int p4), (.long x2), (.int (3 : Int32)), (.ref a1)])) rfl (by rw [hml]; rfl) (Steps.refl _) (argsL := [(.int (3 : Int32)), (.long x2), (.int p4), .null, (.int (0 : Int32))]) (rest := []) (lenOf pd_10 rfl) rfl (by show 2 * 0 + _ ≤ _; exact Nat.le_of_eq rfl) (hb hby d18_98) (fun _ _ => ⟨rfl, e627, (by decide : 0 + 0 ≤ _), (by decide : 0 + 0 ≤ _)⟩)
      dsimp only [Pt.U, Pt.locs, Pt.cells, Pt.slots] at X638 l638 y638 z638 st638 hQ638
      subst l638 y638 z638
      obtain ⟨rfl, N638q, K638q, Vh638, Vl638⟩ := hQ638
      have N638 := Fr.app N627 N638q
      have z639 := Nat.le_trans z637 K638q.1
      have f640 := f628.keep K638q
      have f641 := F627.keep K638q (ninS n_h (ninS n_l nin0))
      have f642 := f629.keep K638q (ninS n_h (ninS n_l nin0))
      have f643 := f630.keep K638q (ninS n_h (ninS n_l nin0))
      have f644 := f631.keep K638q (ninS n_h (ninS n_l nin0))
      have f645 := f632.keep K638q (ninS n_h (ninS n_l nin0))
      have f646 := f633.keep K638q (ninS n_h (ninS n_l nin0))
      have f647 := f635.keep K638q (ninS (Ne.symm n_ha) (ninS n_al nin0))
      refine Rch.to (U' := T638.setTop (mkF m 101 #[rv a1, iv p1, jv x2, sv, iv p4, .val .null, iv (0 : Int32), iv (3 : Int32), iv (3 : Int32)] [])) st638 ?_
      refine Rch.go (U' := T638.setTop (mkF m 103 #[rv a1, iv p1, jv x2, sv, iv p4, .val .null, iv (0 : Int32), iv (3 : Int32), iv (3 : Int32)] [(.int (3 : Int32))])) (fun _ k => XS.iload X638.here hx rfl (hb hby d18_101) rfl  k) ?_
      refine Rch.fin X638 hlk (v := some (.int (3 : Int32))) (fun h => by rw [hret] at h; cases h) rfl (by decide) (by decide) (fun fs hr => retI X638 hx hret (hb hby d18_103) hr) ?_
      have hfr : own_free gs 4 (own_s p1) = 3 := by rw [hsj]; simp only [own_free, br576, br613, ↓reduceIte]
      refine ⟨_, _, by rw [hfr]; rfl, N638, z639, ⟨f640, f641, f642, f643, f644, f645, f646, (by unfold own_add; rw [hfr]; exact Vh638), f647, Vl638, ⟨by unfold own_add; rw [List.length_set, lg], by rw [List.length_set, la], by rw [List.length_set, ll]⟩, ⟨g_a1, g_bh, g_ba, g_bl⟩, ⟨n_h, n_a, n_l⟩, n_ha, n_hl, n_al⟩⟩
    ·
      refine Rch.go (U' := T611.setTop (mkF m 58 #[rv a1, iv p1, jv x2, sv, iv p4, .val .null, iv (0 : Int32), iv (3 : Int32), iv (3 : Int32)] [])) (fun _ k => XS.ifNo X611.here hx rfl (hb hby d18_55) rfl (XT.ll_eq_f br613) k) ?_
      refine Rch.go (U' := T611.setTop (mkF m 60 #[rv a1, iv p1, jv x2, sv, iv p4, .val .null, iv (0 : Int32), iv (3 : Int32), iv (3 : Int32)] [(.int (3 : Int32))])) (fun _ k => XS.iload X611.here hx rfl (hb hby d18_58) rfl  k) ?_
      refine Rch.go (U' := T611.setTop (mkF m 61 #[rv a1, iv p1, jv x2, sv, iv p4, .val .null, iv (0 : Int32), iv (3 : Int32), iv (3 : Int32)] [(.int (1 : Int32)), (.int (3 : Int32))])) (fun _ k => XS.iconst X611.here hx rfl (hb hby d18_60) k) ?_
      refine Rch.go (U' := T611.setTop (mkF m 62 #[rv a1, iv p1, jv x2, sv, iv p4, .val .null, iv (0 : Int32), iv (3 : Int32), iv (3 : Int32)] [(.int ((3 : Int32) + (1 : Int32)))])) (fun _ k => XS.iadd X611.here hx rfl (hb hby d18_61) rfl k) ?_
      rw [(by decide : ((3 : Int32) + (1 : Int32)) = (4 : Int32))]
      refine Rch.go (U' := T611.setTop (mkF m 64 #[rv a1, iv p1, jv x2, sv, iv p4, .val .null, iv (0 : Int32), iv (3 : Int32), iv (3 : Int32)] [(.int (3 : Int32)), (.int (4 : Int32))])) (fun _ k => XS.iload X611.here hx rfl (hb hby d18_62) rfl  k) ?_
      refine Rch.go (U' := T611.setTop (mkF m 65 #[rv a1, iv p1, jv x2, sv, iv p4, .val .null, iv (0 : Int32), iv (3 : Int32), iv (3 : Int32)] [(.int ((4 : Int32) &&& (3 : Int32)))])) (fun _ k => XS.iand X611.here hx rfl (hb hby d18_64) rfl k) ?_
      rw [(by decide : ((4 : Int32) &&& (3 : Int32)) = (0 : Int32))]
      refine Rch.go (U' := T611.setTop (mkF m 67 #[rv a1, iv p1, jv x2, sv, iv p4, .val .null, iv (0 : Int32), iv (3 : Int32), iv (0 : Int32)] [])) (fun _ k => XS.istore X611.here hx rfl (hb hby d18_65) rfl (l' := #[rv a1, iv p1, jv x2, sv, iv p4, .val .null, iv (0 : Int32), iv (3 : Int32), iv (0 : Int32)]) rfl k) ?_
      refine Rch.go (U' := T611.setTop (mkF m 46 #[rv a1, iv p1, jv x2, sv, iv p4, .val .null, iv (0 : Int32), iv (3 : Int32), iv (0 : Int32)] [])) (fun _ k => XS.goto X611.here hx rfl (pc0 := 67) (pc' := 46) rfl (hb hby d18_67) (by decide) (by decide) k) ?_
      refine Rch.go (U' := T611.setTop (mkF m 47 #[rv a1, iv p1, jv x2, sv, iv p4, .val .null, iv (0 : Int32), iv (3 : Int32), iv (0 : Int32)] [(.ref a1)])) (fun _ k => XS.aloadN X611.here hx rfl (hb hby d18_46) rfl rfl k) ?_
      obtain ⟨T648, X648, e648, st648⟩ := getF X611 hx hZ hown (host := "") (Or.inl (wi hw 26 rfl)) Via.refl e611 F_a1_handles (g := (mkF m 47 #[rv a1, iv p1, jv x2, sv, iv p4, .val .null, iv (0 : Int32), iv (3 : Int32), iv (0 : Int32)] [(.ref a1)])) rfl rfl (hb hby d18_47)
      refine Rch.go (U' := T648.setTop (mkF m 50 #[rv a1, iv p1, jv x2, sv, iv p4, .val .null, iv (0 : Int32), iv (3 : Int32), iv (0 : Int32)] [(.ref bh)])) st648 ?_
      refine Rch.go (U' := T648.setTop (mkF m 52 #[rv a1, iv p1, jv x2, sv, iv p4, .val .null, iv (0 : Int32), iv (3 : Int32), iv (0 : Int32)] [(.int (0 : Int32)), (.ref bh)])) (fun _ k => XS.iload X648.here hx rfl (hb hby d18_50) rfl  k) ?_
      obtain ⟨cl649, Ar649, qk649, Sz649, Mn649, Hs649, Gf649⟩ := id V_bh
      have ib649 : ¬ ((0 : Int32) < 0 ∨ cl649.slots.size ≤ ((0 : Int32)).toNatClampNeg) := inb_of Sz649 ⟨by decide, by decide⟩
      have ea649 : cl649.slots[((0 : Int32)).toNatClampNeg]? = some (.long (gs.getD 0 0)) := Has.at Hs649 ib649 (own_getJ gs 0)
      refine Rch.go (U' := T648.setTop (mkF m 53 #[rv a1, iv p1, jv x2, sv, iv p4, .val .null, iv (0 : Int32), iv (3 : Int32), iv (0 : Int32)] [(.long (gs.getD 0 0))])) (fun _ k => X648.laload hx (j := (0 : Int32)) (v := (.long (gs.getD 0 0))) (by rw [e648]; exact Ar649.1) (State.isArrayOf_alike hZ.alike Ar649.2.1) Ar649.2.2 ib649 ea649 (g := (mkF m 52 #[rv a1, iv p1, jv x2, sv, iv p4, .val .null, iv (0 : Int32), iv (3 : Int32), iv (0 : Int32)] [(.int (0 : Int32)), (.ref bh)])) rfl rfl (hb hby d18_52) _ k) ?_
      refine Rch.go (U' := T648.setTop (mkF m 54 #[rv a1, iv p1, jv x2, sv, iv p4, .val .null, iv (0 : Int32), iv (3 : Int32), iv (0 : Int32)] [(.long (0 : Int64)), (.long (gs.getD 0 0))])) (fun _ k => XS.lconst X648.here hx rfl (hb hby d18_53) k) ?_
      refine Rch.go (U' := T648.setTop (mkF m 55 #[rv a1, iv p1, jv x2, sv, iv p4, .val .null, iv (0 : Int32), iv (3 : Int32), iv (0 : Int32)] [(.int (XT.cmpL (gs.getD 0 0) (0 : Int64)))])) (fun _ k => XT.lcmp X648.here hx rfl (hb hby d18_54) rfl k) ?_
      by_cases br650 : (gs.getD 0 0) = (0 : Int64)
      ·
        refine Rch.go (U' := T648.setTop (mkF m 70 #[rv a1, iv p1, jv x2, sv, iv p4, .val .null, iv (0 : Int32), iv (3 : Int32), iv (0 : Int32)] [])) (fun _ k => XS.ifYes X648.here hx rfl (pc0 := 55) (pc' := 70) rfl (hb hby d18_55) rfl (XT.ll_eq_t br650) (by decide) (by decide) k) ?_
        refine Rch.go (U' := T648.setTop (mkF m 71 #[rv a1, iv p1, jv x2, sv, iv p4, .val .null, iv (0 : Int32), iv (3 : Int32), iv (0 : Int32)] [(.ref a1)])) (fun _ k => XS.aloadN X648.here hx rfl (hb hby d18_70) rfl rfl k) ?_
        obtain ⟨T651, X651, e651, st651⟩ := getF X648 hx hZ hown (host := "") (Or.inl (wi hw 36 rfl)) Via.refl e648 F_a1_hashes (g := (mkF m 71 #[rv a1, iv p1, jv x2, sv, iv p4, .val .null, iv (0 : Int32), iv (3 : Int32), iv (0 : Int32)] [(.ref a1)])) rfl rfl (hb hby d18_71)
        refine Rch.go (U' := T651.setTop (mkF m 74 #[rv a1, iv p1, jv x2, sv, iv p4, .val .null, iv (0 : Int32), iv (3 : Int32), iv (0 : Int32)] [(.ref ba)])) st651 ?_
        refine Rch.go (U' := T651.setTop (mkF m 76 #[rv a1, iv p1, jv x2, sv, iv p4, .val .null, iv (0 : Int32), iv (3 : Int32), iv (0 : Int32)] [(.int (0 : Int32)), (.ref ba)])) (fun _ k => XS.iload X651.here hx rfl (hb hby d18_74) rfl  k) ?_
        refine Rch.go (U' := T651.setTop (mkF m 77 #[rv a1, iv p1, jv x2, sv, iv p4, .val .null, iv (0 : Int32), iv (3 : Int32), iv (0 : Int32)] [(.int p1), (.int (0 : Int32)), (.ref ba)])) (fun _ k => XS.iloadN X651.here hx rfl (hb hby d18_76) rfl  k) ?_
        obtain ⟨cl652, Ar652, qk652, Sz652, Mn652, Hs652, Gf652⟩ := id V_ba
        have ib652 : ¬ ((0 : Int32) < 0 ∨ cl652.slots.size ≤ ((0 : Int32)).toNatClampNeg) := inb_of Sz652 ⟨by decide, by decide⟩
        obtain ⟨T652, h652, X652, e652, W652, st652⟩ := stI X651 hx hZ e651 Ar652 (j := (0 : Int32)) ib652 (g := (mkF m 77 #[rv a1, iv p1, jv x2, sv, iv p4, .val .null, iv (0 : Int32), iv (3 : Int32), iv (0 : Int32)] [(.int p1), (.int (0 : Int32)), (.ref ba)])) rfl rfl (hb hby d18_77)
        have V652 : Arv Z h652 ba ka .int (4 : Int32) (va.set 0 (.int p1)) (.int (0 : Int32)) := Arv.set Ar652 qk652 Sz652 Mn652 Hs652 Gf652 rfl W652 0 rfl (by rw [la]; decide)
        have f653 := E_a1.wr W652
        have f654 := F_a1_count.other W652 (Or.inl n_a)
        have f655 := F_a1_handles.other W652 (Or.inl n_a)
        have f656 := F_a1_hashes.other W652 (Or.inl n_a)
        have f657 := F_a1_lengths.other W652 (Or.inl n_a)
        have f658 := F_a1_outside.other W652 (Or.inl n_a)
        have f659 := F_a1_expiries.other W652 (Or.inl n_a)
        have f660 := V_bh.other W652 n_ha
        have f661 := V_bl.other W652 (Ne.symm n_al)
        have N652 := Fr.snoc X652 N0 g_ba
        have z662 := Nat.le_trans Z0 (Keep.of_wr W652).1
        refine Rch.go (U' := T652.setTop (mkF m 78 #[rv a1, iv p1, jv x2, sv, iv p4, .val .null, iv (0 : Int32), iv (3 : Int32), iv (0 : Int32)] [])) st652 ?_
        refine Rch.go (U' := T652.setTop (mkF m 79 #[rv a1, iv p1, jv x2, sv, iv p4, .val .null, iv (0 : Int32), iv (3 : Int32), iv (0 : Int32)] [(.ref a1)])) (fun _ k => XS.aloadN X652.here hx rfl (hb hby d18_78) rfl rfl k) ?_
        refine Rch.go (U' := T652.setTop (mkF m 80 #[rv a1, iv p1, jv x2, sv, iv p4, .val .null, iv (0 : Int32), iv (3 : Int32), iv (0 : Int32)] [(.ref a1), (.ref a1)])) (fun _ k => XS.dup X652.here hx rfl (hb hby d18_79) rfl rfl k) ?_
        obtain ⟨T663, X663, e663, st663⟩ := getF X652 hx hZ hown (host := "") (Or.inl (wi hw 19 rfl)) Via.refl e652 f654 (g := (mkF m 80 #[rv a1, iv p1, jv x2, sv, iv p4, .val .null, iv (0 : Int32), iv (3 : Int32), iv (0 : Int32)] [(.ref a1), (.ref a1)])) rfl rfl (hb hby d18_80)
        refine Rch.go (U' := T663.setTop (mkF m 83 #[rv a1, iv p1, jv x2, sv, iv p4, .val .null, iv (0 : Int32), iv (3 : Int32), iv (0 : Int32)] [(.int cn), (.ref a1)])) st663 ?_
        refine Rch.go (U' := T663.setTop (mkF m 84 #[rv a1, iv p1, jv x2, sv, iv p4, .val .null, iv (0 : Int32), iv (3 : Int32), iv (0 : Int32)] [(.int (1 : Int32)), (.int cn), (.ref a1)])) (fun _ k => XS.iconst X663.here hx rfl (hb hby d18_83) k) ?_
        refine Rch.go (U' := T663.setTop (mkF m 85 #[rv a1, iv p1, jv x2, sv, iv p4, .val .null, iv (0 : Int32), iv (3 : Int32), iv (0 : Int32)] [(.int (cn + (1 : Int32))), (.ref a1)])) (fun _ k => XS.iadd X663.here hx rfl (hb hby d18_84) rfl k) ?_
        obtain ⟨T664, h664, X664, e664, W664, st664⟩ := putF X663 hx hZ hown (host := "") (Or.inl (wi hw 19 rfl)) Via.refl e663 f654 f653 (Or.inl (wi hw 20 rfl)) (wi hw 1 rfl) (ty := .int) (by decide) rfl rfl (g := (mkF m 85 #[rv a1, iv p1, jv x2, sv, iv p4, .val .null, iv (0 : Int32), iv (3 : Int32), iv (0 : Int32)] [(.int (cn + (1 : Int32))), (.ref a1)])) rfl rfl (hb hby d18_85)
        have F664 := f654.same W664
        have f665 := f653.wr W664
        have f666 := f655.other W664 (Or.inr (slot_ne (Or.inl (wi hw 27 rfl)) (Or.inl (wi hw 20 rfl)) (by decide) (t := (.array .long)) (t' := .int) (by decide) (by decide)))
        have f667 := f656.other W664 (Or.inr (slot_ne (Or.inl (wi hw 37 rfl)) (Or.inl (wi hw 20 rfl)) (by decide) (t := (.array .int)) (t' := .int) (by decide) (by decide)))
        have f668 := f657.other W664 (Or.inr (slot_ne (Or.inl (wi hw 39 rfl)) (Or.inl (wi hw 20 rfl)) (by decide) (t := (.array .int)) (t' := .int) (by decide) (by decide)))
        have f669 := f658.other W664 (Or.inr (slot_ne (Or.inl (wi hw 41 rfl)) (Or.inl (wi hw 20 rfl)) (by decide) (t := (.array (.array .byte))) (t' := .int) (by decide) (by decide)))
        have f670 := f659.other W664 (Or.inr (slot_ne (Or.inl (wi hw 45 rfl)) (Or.inl (wi hw 20 rfl)) (by decide) (t := (.object "java/util/BitSet")) (t' := .int) (by decide) (by decide)))
        have f671 := f660.other W664 (Ne.symm n_h)
        have f672 := V652.other W664 (Ne.symm n_a)
        have f673 := f661.other W664 (Ne.symm n_l)
        have N664 := Fr.snoc X664 N652 g_a1
        have z674 := Nat.le_trans z662 (Keep.of_wr W664).1
        refine Rch.go (U' := T664.setTop (mkF m 88 #[rv a1, iv p1, jv x2, sv, iv p4, .val .null, iv (0 : Int32), iv (3 : Int32), iv (0 : Int32)] [])) st664 ?_
        refine Rch.go (U' := T664.setTop (mkF m 89 #[rv a1, iv p1, jv x2, sv, iv p4, .val .null, iv (0 : Int32), iv (3 : Int32), iv (0 : Int32)] [(.ref a1)])) (fun _ k => XS.aloadN X664.here hx rfl (hb hby d18_88) rfl rfl k) ?_
        refine Rch.go (U' := T664.setTop (mkF m 91 #[rv a1, iv p1, jv x2, sv, iv p4, .val .null, iv (0 : Int32), iv (3 : Int32), iv (0 : Int32)] [(.int (0 : Int32)), (.ref a1)])) (fun _ k => XS.iload X664.here hx rfl (hb hby d18_89) rfl  k) ?_
        refine Rch.go (U' := T664.setTop (mkF m 92 #[rv a1, iv p1, jv x2, sv, iv p4, .val .null, iv (0 : Int32), iv (3 : Int32), iv (0 : Int32)] [(.long x2), (.int (0 : Int32)), (.ref a1)])) (fun _ k => XS.lloadN X664.here hx rfl (hb hby d18_91) rfl  k) ?_
        refine Rch.go (U' := T664.setTop (mkF m 94 #[rv a1, iv p1, jv x2, sv, iv p4, .val .null, iv (0 : Int32), iv (3 : Int32), iv (0 : Int32)] [(.int p4), (.long x2), (.int (0 : Int32)), (.ref a1)])) (fun _ k => XS.iload X664.here hx rfl (hb hby d18_92) rfl  k) ?_
        refine Rch.go (U' := T664.setTop (mkF m 96 #[rv a1, iv p1, jv x2, sv, iv p4, .val .null, iv (0 : Int32), iv (3 : Int32), iv (0 : Int32)] [.null, (.int p4), (.long x2), (.int (0 : Int32)), (.ref a1)])) (fun _ k => XS.aload X664.here hx rfl (hb hby d18_94) rfl rfl k) ?_
        refine Rch.go (U' := T664.setTop (mkF m 98 #[rv a1, iv p1, jv x2, sv, iv p4, .val .null, iv (0 : Int32), iv (3 : Int32), iv (0 : Int32)] [(.int (0 : Int32)), .null, (.int p4), (.long x2), (.int (0 : Int32)), (.ref a1)])) (fun _ k => XS.iload X664.here hx rfl (hb hby d18_96) rfl  k) ?_
        obtain ⟨cq675, kq675, q675a, q675b, q675c⟩ := isOf hZ e664 f665
        obtain ⟨_, _, ⟨T675, L675, k675, n675⟩, -, X675, ⟨Lc675, hQ675, l675, y675, z675⟩, st675⟩ := X664.virtualBack hx (y := yS) (z := yS) hown (mvT hZ (wi hw 50 rfl)) (mvT hZ (wi hw 51 rfl)) (notFace_of_selects (args := #[]) (mvT hZ (wi hw 53 rfl))) (mvT hZ (wi hw 53 rfl)) (mvT hZ (wi hw 52 rfl)) (by decide) (backOf (W := 0) (rmS0 l Z a0 hw [] a1 bh ba bl kh ka kl (cn + (1 : Int32)) gs (va.set 0 (.int p1)) vl x2 p4 h664 n0 z674 ⟨f665, F664, f666, f667, f668, f669, f670, f671, f672, f673, ⟨lg, (by rw [List.length_set, la]), ll⟩, ⟨g_a1, g_bh, g_ba, g_bl⟩, ⟨n_h, n_a, n_l⟩, n_ha, n_hl, n_al⟩) hZ (wi hw 54 rfl) (wi hw 2 rfl) (by decide) (by decide)) q675a q675c (g := (mkF m 98 #[rv a1, iv p1, jv x2, sv, iv p4, .val .null, iv (0 : Int32), iv (3 : Int32), iv (0 : Int32)] [(.int (0 : Int32)), .null, (.int p4), (.long x2), (.int (0 : Int32)), (.ref a1)])) rfl (by rw [hml]; rfl) (Steps.refl _) (argsL := [(.int (0 : Int32)), (.long x2), (.int p4), .null, (.int (0 : Int32))]) (rest := []) (lenOf pd_10 rfl) rfl (by show 2 * 0 + _ ≤ _; exact Nat.le_of_eq rfl) (hb hby d18_98) (fun _ _ => ⟨rfl, e664, (by decide : 0 + 0 ≤ _), (by decide : 0 + 0 ≤ _)⟩)
        dsimp only [Pt.U, Pt.locs, Pt.cells, Pt.slots] at X675 l675 y675 z675 st675 hQ675
        subst l675 y675 z675
        obtain ⟨rfl, N675q, K675q, Vh675, Vl675⟩ := hQ675
        have N675 := Fr.app N664 N675q
        have z676 := Nat.le_trans z674 K675q.1
        have f677 := f665.keep K675q
        have f678 := F664.keep K675q (ninS n_h (ninS n_l nin0))
        have f679 := f666.keep K675q (ninS n_h (ninS n_l nin0))
        have f680 := f667.keep K675q (ninS n_h (ninS n_l nin0))
        have f681 := f668.keep K675q (ninS n_h (ninS n_l nin0))
        have f682 := f669.keep K675q (ninS n_h (ninS n_l nin0))
        have f683 := f670.keep K675q (ninS n_h (ninS n_l nin0))
        have f684 := f672.keep K675q (ninS (Ne.symm n_ha) (ninS n_al nin0))
        refine Rch.to (U' := T675.setTop (mkF m 101 #[rv a1, iv p1, jv x2, sv, iv p4, .val .null, iv (0 : Int32), iv (3 : Int32), iv (0 : Int32)] [])) st675 ?_
        refine Rch.go (U' := T675.setTop (mkF m 103 #[rv a1, iv p1, jv x2, sv, iv p4, .val .null, iv (0 : Int32), iv (3 : Int32), iv (0 : Int32)] [(.int (0 : Int32))])) (fun _ k => XS.iload X675.here hx rfl (hb hby d18_101) rfl  k) ?_
        refine Rch.fin X675 hlk (v := some (.int (0 : Int32))) (fun h => by rw [hret] at h; cases h) rfl (by decide) (by decide) (fun fs hr => retI X675 hx hret (hb hby d18_103) hr) ?_
        have hfr : own_free gs 4 (own_s p1) = 0 := by rw [hsj]; simp only [own_free, br576, br613, br650, ↓reduceIte]
        refine ⟨_, _, by rw [hfr]; rfl, N675, z676, ⟨f677, f678, f679, f680, f681, f682, f683, (by unfold own_add; rw [hfr]; exact Vh675), f684, Vl675, ⟨by unfold own_add; rw [List.length_set, lg], by rw [List.length_set, la], by rw [List.length_set, ll]⟩, ⟨g_a1, g_bh, g_ba, g_bl⟩, ⟨n_h, n_a, n_l⟩, n_ha, n_hl, n_al⟩⟩
      ·
        refine Rch.go (U' := T648.setTop (mkF m 58 #[rv a1, iv p1, jv x2, sv, iv p4, .val .null, iv (0 : Int32), iv (3 : Int32), iv (0 : Int32)] [])) (fun _ k => XS.ifNo X648.here hx rfl (hb hby d18_55) rfl (XT.ll_eq_f br650) k) ?_
        refine Rch.go (U' := T648.setTop (mkF m 60 #[rv a1, iv p1, jv x2, sv, iv p4, .val .null, iv (0 : Int32), iv (3 : Int32), iv (0 : Int32)] [(.int (0 : Int32))])) (fun _ k => XS.iload X648.here hx rfl (hb hby d18_58) rfl  k) ?_
        refine Rch.go (U' := T648.setTop (mkF m 61 #[rv a1, iv p1, jv x2, sv, iv p4, .val .null, iv (0 : Int32), iv (3 : Int32), iv (0 : Int32)] [(.int (1 : Int32)), (.int (0 : Int32))])) (fun _ k => XS.iconst X648.here hx rfl (hb hby d18_60) k) ?_
        refine Rch.go (U' := T648.setTop (mkF m 62 #[rv a1, iv p1, jv x2, sv, iv p4, .val .null, iv (0 : Int32), iv (3 : Int32), iv (0 : Int32)] [(.int ((0 : Int32) + (1 : Int32)))])) (fun _ k => XS.iadd X648.here hx rfl (hb hby d18_61) rfl k) ?_
        rw [(by decide : ((0 : Int32) + (1 : Int32)) = (1 : Int32))]
        refine Rch.go (U' := T648.setTop (mkF m 64 #[rv a1, iv p1, jv x2, sv, iv p4, .val .null, iv (0 : Int32), iv (3 : Int32), iv (0 : Int32)] [(.int (3 : Int32)), (.int (1 : Int32))])) (fun _ k => XS.iload X648.here hx rfl (hb hby d18_62) rfl  k) ?_
        refine Rch.go (U' := T648.setTop (mkF m 65 #[rv a1, iv p1, jv x2, sv, iv p4, .val .null, iv (0 : Int32), iv (3 : Int32), iv (0 : Int32)] [(.int ((1 : Int32) &&& (3 : Int32)))])) (fun _ k => XS.iand X648.here hx rfl (hb hby d18_64) rfl k) ?_
        rw [(by decide : ((1 : Int32) &&& (3 : Int32)) = (1 : Int32))]
        refine Rch.go (U' := T648.setTop (mkF m 67 #[rv a1, iv p1, jv x2, sv, iv p4, .val .null, iv (0 : Int32), iv (3 : Int32), iv (1 : Int32)] [])) (fun _ k => XS.istore X648.here hx rfl (hb hby d18_65) rfl (l' := #[rv a1, iv p1, jv x2, sv, iv p4, .val .null, iv (0 : Int32), iv (3 : Int32), iv (1 : Int32)]) rfl k) ?_
        refine Rch.go (U' := T648.setTop (mkF m 46 #[rv a1, iv p1, jv x2, sv, iv p4, .val .null, iv (0 : Int32), iv (3 : Int32), iv (1 : Int32)] [])) (fun _ k => XS.goto X648.here hx rfl (pc0 := 67) (pc' := 46) rfl (hb hby d18_67) (by decide) (by decide) k) ?_
        refine Rch.go (U' := T648.setTop (mkF m 47 #[rv a1, iv p1, jv x2, sv, iv p4, .val .null, iv (0 : Int32), iv (3 : Int32), iv (1 : Int32)] [(.ref a1)])) (fun _ k => XS.aloadN X648.here hx rfl (hb hby d18_46) rfl rfl k) ?_
        obtain ⟨T685, X685, e685, st685⟩ := getF X648 hx hZ hown (host := "") (Or.inl (wi hw 26 rfl)) Via.refl e648 F_a1_handles (g := (mkF m 47 #[rv a1, iv p1, jv x2, sv, iv p4, .val .null, iv (0 : Int32), iv (3 : Int32), iv (1 : Int32)] [(.ref a1)])) rfl rfl (hb hby d18_47)
        refine Rch.go (U' := T685.setTop (mkF m 50 #[rv a1, iv p1, jv x2, sv, iv p4, .val .null, iv (0 : Int32), iv (3 : Int32), iv (1 : Int32)] [(.ref bh)])) st685 ?_
        refine Rch.go (U' := T685.setTop (mkF m 52 #[rv a1, iv p1, jv x2, sv, iv p4, .val .null, iv (0 : Int32), iv (3 : Int32), iv (1 : Int32)] [(.int (1 : Int32)), (.ref bh)])) (fun _ k => XS.iload X685.here hx rfl (hb hby d18_50) rfl  k) ?_
        obtain ⟨cl686, Ar686, qk686, Sz686, Mn686, Hs686, Gf686⟩ := id V_bh
        have ib686 : ¬ ((1 : Int32) < 0 ∨ cl686.slots.size ≤ ((1 : Int32)).toNatClampNeg) := inb_of Sz686 ⟨by decide, by decide⟩
        have ea686 : cl686.slots[((1 : Int32)).toNatClampNeg]? = some (.long (gs.getD 1 0)) := Has.at Hs686 ib686 (own_getJ gs 1)
        refine Rch.go (U' := T685.setTop (mkF m 53 #[rv a1, iv p1, jv x2, sv, iv p4, .val .null, iv (0 : Int32), iv (3 : Int32), iv (1 : Int32)] [(.long (gs.getD 1 0))])) (fun _ k => X685.laload hx (j := (1 : Int32)) (v := (.long (gs.getD 1 0))) (by rw [e685]; exact Ar686.1) (State.isArrayOf_alike hZ.alike Ar686.2.1) Ar686.2.2 ib686 ea686 (g := (mkF m 52 #[rv a1, iv p1, jv x2, sv, iv p4, .val .null, iv (0 : Int32), iv (3 : Int32), iv (1 : Int32)] [(.int (1 : Int32)), (.ref bh)])) rfl rfl (hb hby d18_52) _ k) ?_
        refine Rch.go (U' := T685.setTop (mkF m 54 #[rv a1, iv p1, jv x2, sv, iv p4, .val .null, iv (0 : Int32), iv (3 : Int32), iv (1 : Int32)] [(.long (0 : Int64)), (.long (gs.getD 1 0))])) (fun _ k => XS.lconst X685.here hx rfl (hb hby d18_53) k) ?_
        refine Rch.go (U' := T685.setTop (mkF m 55 #[rv a1, iv p1, jv x2, sv, iv p4, .val .null, iv (0 : Int32), iv (3 : Int32), iv (1 : Int32)] [(.int (XT.cmpL (gs.getD 1 0) (0 : Int64)))])) (fun _ k => XT.lcmp X685.here hx rfl (hb hby d18_54) rfl k) ?_
        have br687 : (gs.getD 1 0) = (0 : Int64) := (by rcases hz with q | q | q | q <;> first | exact q | exact absurd q br576 | exact absurd q br613 | exact absurd q br650)
        refine Rch.go (U' := T685.setTop (mkF m 70 #[rv a1, iv p1, jv x2, sv, iv p4, .val .null, iv (0 : Int32), iv (3 : Int32), iv (1 : Int32)] [])) (fun _ k => XS.ifYes X685.here hx rfl (pc0 := 55) (pc' := 70) rfl (hb hby d18_55) rfl (XT.ll_eq_t br687) (by decide) (by decide) k) ?_
        refine Rch.go (U' := T685.setTop (mkF m 71 #[rv a1, iv p1, jv x2, sv, iv p4, .val .null, iv (0 : Int32), iv (3 : Int32), iv (1 : Int32)] [(.ref a1)])) (fun _ k => XS.aloadN X685.here hx rfl (hb hby d18_70) rfl rfl k) ?_
        obtain ⟨T688, X688, e688, st688⟩ := getF X685 hx hZ hown (host := "") (Or.inl (wi hw 36 rfl)) Via.refl e685 F_a1_hashes (g := (mkF m 71 #[rv a1, iv p1, jv x2, sv, iv p4, .val .null, iv (0 : Int32), iv (3 : Int32), iv (1 : Int32)] [(.ref a1)])) rfl rfl (hb hby d18_71)
        refine Rch.go (U' := T688.setTop (mkF m 74 #[rv a1, iv p1, jv x2, sv, iv p4, .val .null, iv (0 : Int32), iv (3 : Int32), iv (1 : Int32)] [(.ref ba)])) st688 ?_
        refine Rch.go (U' := T688.setTop (mkF m 76 #[rv a1, iv p1, jv x2, sv, iv p4, .val .null, iv (0 : Int32), iv (3 : Int32), iv (1 : Int32)] [(.int (1 : Int32)), (.ref ba)])) (fun _ k => XS.iload X688.here hx rfl (hb hby d18_74) rfl  k) ?_
        refine Rch.go (U' := T688.setTop (mkF m 77 #[rv a1, iv p1, jv x2, sv, iv p4, .val .null, iv (0 : Int32), iv (3 : Int32), iv (1 : Int32)] [(.int p1), (.int (1 : Int32)), (.ref ba)])) (fun _ k => XS.iloadN X688.here hx rfl (hb hby d18_76) rfl  k) ?_
        obtain ⟨cl689, Ar689, qk689, Sz689, Mn689, Hs689, Gf689⟩ := id V_ba
        have ib689 : ¬ ((1 : Int32) < 0 ∨ cl689.slots.size ≤ ((1 : Int32)).toNatClampNeg) := inb_of Sz689 ⟨by decide, by decide⟩
        obtain ⟨T689, h689, X689, e689, W689, st689⟩ := stI X688 hx hZ e688 Ar689 (j := (1 : Int32)) ib689 (g := (mkF m 77 #[rv a1, iv p1, jv x2, sv, iv p4, .val .null, iv (0 : Int32), iv (3 : Int32), iv (1 : Int32)] [(.int p1), (.int (1 : Int32)), (.ref ba)])) rfl rfl (hb hby d18_77)
        have V689 : Arv Z h689 ba ka .int (4 : Int32) (va.set 1 (.int p1)) (.int (0 : Int32)) := Arv.set Ar689 qk689 Sz689 Mn689 Hs689 Gf689 rfl W689 1 rfl (by rw [la]; decide)
        have f690 := E_a1.wr W689
        have f691 := F_a1_count.other W689 (Or.inl n_a)
        have f692 := F_a1_handles.other W689 (Or.inl n_a)
        have f693 := F_a1_hashes.other W689 (Or.inl n_a)
        have f694 := F_a1_lengths.other W689 (Or.inl n_a)
        have f695 := F_a1_outside.other W689 (Or.inl n_a)
        have f696 := F_a1_expiries.other W689 (Or.inl n_a)
        have f697 := V_bh.other W689 n_ha
        have f698 := V_bl.other W689 (Ne.symm n_al)
        have N689 := Fr.snoc X689 N0 g_ba
        have z699 := Nat.le_trans Z0 (Keep.of_wr W689).1
        refine Rch.go (U' := T689.setTop (mkF m 78 #[rv a1, iv p1, jv x2, sv, iv p4, .val .null, iv (0 : Int32), iv (3 : Int32), iv (1 : Int32)] [])) st689 ?_
        refine Rch.go (U' := T689.setTop (mkF m 79 #[rv a1, iv p1, jv x2, sv, iv p4, .val .null, iv (0 : Int32), iv (3 : Int32), iv (1 : Int32)] [(.ref a1)])) (fun _ k => XS.aloadN X689.here hx rfl (hb hby d18_78) rfl rfl k) ?_
        refine Rch.go (U' := T689.setTop (mkF m 80 #[rv a1, iv p1, jv x2, sv, iv p4, .val .null, iv (0 : Int32), iv (3 : Int32), iv (1 : Int32)] [(.ref a1), (.ref a1)])) (fun _ k => XS.dup X689.here hx rfl (hb hby d18_79) rfl rfl k) ?_
        obtain ⟨T700, X700, e700, st700⟩ := getF X689 hx hZ hown (host := "") (Or.inl (wi hw 19 rfl)) Via.refl e689 f691 (g := (mkF m 80 #[rv a1, iv p1, jv x2, sv, iv p4, .val .null, iv (0 : Int32), iv (3 : Int32), iv (1 : Int32)] [(.ref a1), (.ref a1)])) rfl rfl (hb hby d18_80)
        refine Rch.go (U' := T700.setTop (mkF m 83 #[rv a1, iv p1, jv x2, sv, iv p4, .val .null, iv (0 : Int32), iv (3 : Int32), iv (1 : Int32)] [(.int cn), (.ref a1)])) st700 ?_
        refine Rch.go (U' := T700.setTop (mkF m 84 #[rv a1, iv p1, jv x2, sv, iv p4, .val .null, iv (0 : Int32), iv (3 : Int32), iv (1 : Int32)] [(.int (1 : Int32)), (.int cn), (.ref a1)])) (fun _ k => XS.iconst X700.here hx rfl (hb hby d18_83) k) ?_
        refine Rch.go (U' := T700.setTop (mkF m 85 #[rv a1, iv p1, jv x2, sv, iv p4, .val .null, iv (0 : Int32), iv (3 : Int32), iv (1 : Int32)] [(.int (cn + (1 : Int32))), (.ref a1)])) (fun _ k => XS.iadd X700.here hx rfl (hb hby d18_84) rfl k) ?_
        obtain ⟨T701, h701, X701, e701, W701, st701⟩ := putF X700 hx hZ hown (host := "") (Or.inl (wi hw 19 rfl)) Via.refl e700 f691 f690 (Or.inl (wi hw 20 rfl)) (wi hw 1 rfl) (ty := .int) (by decide) rfl rfl (g := (mkF m 85 #[rv a1, iv p1, jv x2, sv, iv p4, .val .null, iv (0 : Int32), iv (3 : Int32), iv (1 : Int32)] [(.int (cn + (1 : Int32))), (.ref a1)])) rfl rfl (hb hby d18_85)
        have F701 := f691.same W701
        have f702 := f690.wr W701
        have f703 := f692.other W701 (Or.inr (slot_ne (Or.inl (wi hw 27 rfl)) (Or.inl (wi hw 20 rfl)) (by decide) (t := (.array .long)) (t' := .int) (by decide) (by decide)))
        have f704 := f693.other W701 (Or.inr (slot_ne (Or.inl (wi hw 37 rfl)) (Or.inl (wi hw 20 rfl)) (by decide) (t := (.array .int)) (t' := .int) (by decide) (by decide)))
        have f705 := f694.other W701 (Or.inr (slot_ne (Or.inl (wi hw 39 rfl)) (Or.inl (wi hw 20 rfl)) (by decide) (t := (.array .int)) (t' := .int) (by decide) (by decide)))
        have f706 := f695.other W701 (Or.inr (slot_ne (Or.inl (wi hw 41 rfl)) (Or.inl (wi hw 20 rfl)) (by decide) (t := (.array (.array .byte))) (t' := .int) (by decide) (by decide)))
        have f707 := f696.other W701 (Or.inr (slot_ne (Or.inl (wi hw 45 rfl)) (Or.inl (wi hw 20 rfl)) (by decide) (t := (.object "java/util/BitSet")) (t' := .int) (by decide) (by decide)))
        have f708 := f697.other W701 (Ne.symm n_h)
        have f709 := V689.other W701 (Ne.symm n_a)
        have f710 := f698.other W701 (Ne.symm n_l)
        have N701 := Fr.snoc X701 N689 g_a1
        have z711 := Nat.le_trans z699 (Keep.of_wr W701).1
        refine Rch.go (U' := T701.setTop (mkF m 88 #[rv a1, iv p1, jv x2, sv, iv p4, .val .null, iv (0 : Int32), iv (3 : Int32), iv (1 : Int32)] [])) st701 ?_
        refine Rch.go (U' := T701.setTop (mkF m 89 #[rv a1, iv p1, jv x2, sv, iv p4, .val .null, iv (0 : Int32), iv (3 : Int32), iv (1 : Int32)] [(.ref a1)])) (fun _ k => XS.aloadN X701.here hx rfl (hb hby d18_88) rfl rfl k) ?_
        refine Rch.go (U' := T701.setTop (mkF m 91 #[rv a1, iv p1, jv x2, sv, iv p4, .val .null, iv (0 : Int32), iv (3 : Int32), iv (1 : Int32)] [(.int (1 : Int32)), (.ref a1)])) (fun _ k => XS.iload X701.here hx rfl (hb hby d18_89) rfl  k) ?_
        refine Rch.go (U' := T701.setTop (mkF m 92 #[rv a1, iv p1, jv x2, sv, iv p4, .val .null, iv (0 : Int32), iv (3 : Int32), iv (1 : Int32)] [(.long x2), (.int (1 : Int32)), (.ref a1)])) (fun _ k => XS.lloadN X701.here hx rfl (hb hby d18_91) rfl  k) ?_
        refine Rch.go (U' := T701.setTop (mkF m 94 #[rv a1, iv p1, jv x2, sv, iv p4, .val .null, iv (0 : Int32), iv (3 : Int32), iv (1 : Int32)] [(.int p4), (.long x2), (.int (1 : Int32)), (.ref a1)])) (fun _ k => XS.iload X701.here hx rfl (hb hby d18_92) rfl  k) ?_
        refine Rch.go (U' := T701.setTop (mkF m 96 #[rv a1, iv p1, jv x2, sv, iv p4, .val .null, iv (0 : Int32), iv (3 : Int32), iv (1 : Int32)] [.null, (.int p4), (.long x2), (.int (1 : Int32)), (.ref a1)])) (fun _ k => XS.aload X701.here hx rfl (hb hby d18_94) rfl rfl k) ?_
        refine Rch.go (U' := T701.setTop (mkF m 98 #[rv a1, iv p1, jv x2, sv, iv p4, .val .null, iv (0 : Int32), iv (3 : Int32), iv (1 : Int32)] [(.int (0 : Int32)), .null, (.int p4), (.long x2), (.int (1 : Int32)), (.ref a1)])) (fun _ k => XS.iload X701.here hx rfl (hb hby d18_96) rfl  k) ?_
        obtain ⟨cq712, kq712, q712a, q712b, q712c⟩ := isOf hZ e701 f702
        obtain ⟨_, _, ⟨T712, L712, k712, n712⟩, -, X712, ⟨Lc712, hQ712, l712, y712, z712⟩, st712⟩ := X701.virtualBack hx (y := yS) (z := yS) hown (mvT hZ (wi hw 50 rfl)) (mvT hZ (wi hw 51 rfl)) (notFace_of_selects (args := #[]) (mvT hZ (wi hw 53 rfl))) (mvT hZ (wi hw 53 rfl)) (mvT hZ (wi hw 52 rfl)) (by decide) (backOf (W := 0) (rmS1 l Z a0 hw [] a1 bh ba bl kh ka kl (cn + (1 : Int32)) gs (va.set 1 (.int p1)) vl x2 p4 h701 n0 z711 ⟨f702, F701, f703, f704, f705, f706, f707, f708, f709, f710, ⟨lg, (by rw [List.length_set, la]), ll⟩, ⟨g_a1, g_bh, g_ba, g_bl⟩, ⟨n_h, n_a, n_l⟩, n_ha, n_hl, n_al⟩) hZ (wi hw 54 rfl) (wi hw 2 rfl) (by decide) (by decide)) q712a q712c (g := (mkF m 98 #[rv a1, iv p1, jv x2, sv, iv p4, .val .null, iv (0 : Int32), iv (3 : Int32), iv (1 : Int32)] [(.int (0 : Int32)), .null, (.int p4), (.long x2), (.int (1 : Int32)), (.ref a1)])) rfl (by rw [hml]; rfl) (Steps.refl _) (argsL := [(.int (1 : Int32)), (.long x2), (.int p4), .null, (.int (0 : Int32))]) (rest := []) (lenOf pd_10 rfl) rfl (by show 2 * 0 + _ ≤ _; exact Nat.le_of_eq rfl) (hb hby d18_98) (fun _ _ => ⟨rfl, e701, (by decide : 0 + 0 ≤ _), (by decide : 0 + 0 ≤ _)⟩)
        dsimp only [Pt.U, Pt.locs, Pt.cells, Pt.slots] at X712 l712 y712 z712 st712 hQ712
        subst l712 y712 z712
        obtain ⟨rfl, N712q, K712q, Vh712, Vl712⟩ := hQ712
        have N712 := Fr.app N701 N712q
        have z713 := Nat.le_trans z711 K712q.1
        have f714 := f702.keep K712q
        have f715 := F701.keep K712q (ninS n_h (ninS n_l nin0))
        have f716 := f703.keep K712q (ninS n_h (ninS n_l nin0))
        have f717 := f704.keep K712q (ninS n_h (ninS n_l nin0))
        have f718 := f705.keep K712q (ninS n_h (ninS n_l nin0))
        have f719 := f706.keep K712q (ninS n_h (ninS n_l nin0))
        have f720 := f707.keep K712q (ninS n_h (ninS n_l nin0))
        have f721 := f709.keep K712q (ninS (Ne.symm n_ha) (ninS n_al nin0))
        refine Rch.to (U' := T712.setTop (mkF m 101 #[rv a1, iv p1, jv x2, sv, iv p4, .val .null, iv (0 : Int32), iv (3 : Int32), iv (1 : Int32)] [])) st712 ?_
        refine Rch.go (U' := T712.setTop (mkF m 103 #[rv a1, iv p1, jv x2, sv, iv p4, .val .null, iv (0 : Int32), iv (3 : Int32), iv (1 : Int32)] [(.int (1 : Int32))])) (fun _ k => XS.iload X712.here hx rfl (hb hby d18_101) rfl  k) ?_
        refine Rch.fin X712 hlk (v := some (.int (1 : Int32))) (fun h => by rw [hret] at h; cases h) rfl (by decide) (by decide) (fun fs hr => retI X712 hx hret (hb hby d18_103) hr) ?_
        have hfr : own_free gs 4 (own_s p1) = 1 := by rw [hsj]; simp only [own_free, br576, br613, br650, br687, ↓reduceIte]
        refine ⟨_, _, by rw [hfr]; rfl, N712, z713, ⟨f714, f715, f716, f717, f718, f719, f720, (by unfold own_add; rw [hfr]; exact Vh712), f721, Vl712, ⟨by unfold own_add; rw [List.length_set, lg], by rw [List.length_set, la], by rw [List.length_set, ll]⟩, ⟨g_a1, g_bh, g_ba, g_bl⟩, ⟨n_h, n_a, n_l⟩, n_ha, n_hl, n_al⟩⟩
set_option maxRecDepth 65536 in
set_option maxHeartbeats 40000000 in
theorem tailN3 {p : Program} {l : Launch} {e : Env} {s : State} {m : MethodId} {args : Array Value} {below : List Frame} {meth : Method} {c : Code} {T0 : State} {locs : List Loc} {Z : State} {a0 : Array Value} {h0 : Heap} {n0 : Nat}  (a1 : Addr) (bh : Addr) (ba : Addr) (bl : Addr) (kh : ClassId) (ka : ClassId) (kl : ClassId) (cn : Int32) (gs : List Int64) (va : List Value) (vl : List Value) (p1 : Int32) (x2 : Int64) (p4 : Int32)
    (X0 : Stand p l e ({ frames := 2, cells := 3, slots := 12, locals := 64 } : Room) s m args below meth c T0 locs 0 0) (hx : p.tables.exec = Jvm.exec) (hZ : Z.Warmed39 s.vm) (hw : ∀ d ∈ tables_1, d.before a0 Z = true) (hby : c.code = prog_36_method_17_code) (hml : c.maxLocals = 9) (hown : s.vm.findClass cST = some m.cls) (hret : meth.sig.returnType = some .int) (hlk : meth.locks = false) (e0 : T0.heap = h0) (N0 : Fr n0 locs) (Z0 : n0 ≤ h0.size) (B : Tb Z h0 n0 a1 bh ba bl kh ka kl cn gs va vl) (hz : gs.getD 0 0 = 0 ∨ gs.getD 1 0 = 0 ∨ gs.getD 2 0 = 0 ∨ gs.getD 3 0 = 0) (hsj : own_s p1 = 3) :
    Rch p e below (Fin s below (fun v h L => ∃ (va' vl' : List Value), v = some (.int (Int32.ofNat (own_free gs 4 (own_s p1)))) ∧ Fr n0 L ∧ n0 ≤ h.size ∧ Tb Z h n0 a1 bh ba bl kh ka kl (cn + (1 : Int32)) (own_add gs (own_s p1) x2) va' vl') 3 12) (T0.setTop (mkF m 46 #[rv a1, iv p1, jv x2, sv, iv p4, .val .null, iv (0 : Int32), iv (3 : Int32), iv (3 : Int32)] [])) := by
  obtain ⟨E_a1, F_a1_count, F_a1_handles, F_a1_hashes, F_a1_lengths, F_a1_outside, F_a1_expiries, V_bh, V_ba, V_bl, ⟨lg, la, ll⟩, ⟨g_a1, g_bh, g_ba, g_bl⟩, ⟨n_h, n_a, n_l⟩, n_ha, n_hl, n_al⟩ := B
  refine Rch.go (U' := T0.setTop (mkF m 47 #[rv a1, iv p1, jv x2, sv, iv p4, .val .null, iv (0 : Int32), iv (3 : Int32), iv (3 : Int32)] [(.ref a1)])) (fun _ k => XS.aloadN X0.here hx rfl (hb hby d18_46) rfl rfl k) ?_
  obtain ⟨T722, X722, e722, st722⟩ := getF X0 hx hZ hown (host := "") (Or.inl (wi hw 26 rfl)) Via.refl e0 F_a1_handles (g := (mkF m 47 #[rv a1, iv p1, jv x2, sv, iv p4, .val .null, iv (0 : Int32), iv (3 : Int32), iv (3 : Int32)] [(.ref a1)])) rfl rfl (hb hby d18_47)
  refine Rch.go (U' := T722.setTop (mkF m 50 #[rv a1, iv p1, jv x2, sv, iv p4, .val .null, iv (0 : Int32), iv (3 : Int32), iv (3 : Int32)] [(.ref bh)])) st722 ?_
  refine Rch.go (U' := T722.setTop (mkF m 52 #[rv a1, iv p1, jv x2, sv, iv p4, .val .null, iv (0 : Int32), iv (3 : Int32), iv (3 : Int32)] [(.int (3 : Int32)), (.ref bh)])) (fun _ k => XS.iload X722.here hx rfl (hb hby d18_50) rfl  k) ?_
  obtain ⟨cl723, Ar723, qk723, Sz723, Mn723, Hs723, Gf723⟩ := id V_bh
  have ib723 : ¬ ((3 : Int32) < 0 ∨ cl723.slots.size ≤ ((3 : Int32)).toNatClampNeg) := inb_of Sz723 ⟨by decide, by decide⟩
  have ea723 : cl723.slots[((3 : Int32)).toNatClampNeg]? = some (.long (gs.getD 3 0)) := Has.at Hs723 ib723 (own_getJ gs 3)
  refine Rch.go (U' := T722.setTop (mkF m 53 #[rv a1, iv p1, jv x2, sv, iv p4, .val .null, iv (0 : Int32), iv (3 : Int32), iv (3 : Int32)] [(.long (gs.getD 3 0))])) (fun _ k => X722.laload hx (j := (3 : Int32)) (v := (.long (gs.getD 3 0))) (by rw [e722]; exact Ar723.1) (State.isArrayOf_alike hZ.alike Ar723.2.1) Ar723.2.2 ib723 ea723 (g := (mkF m 52 #[rv a1, iv p1, jv x2, sv, iv p4, .val .null, iv (0 : Int32), iv (3 : Int32), iv (3 : Int32)] [(.int (3 : Int32)), (.ref bh)])) rfl rfl (hb hby d18_52) _ k) ?_
  refine Rch.go (U' := T722.setTop (mkF m 54 #[rv a1, iv p1, jv x2, sv, iv p4, .val .null, iv (0 : Int32), iv (3 : Int32), iv (3 : Int32)] [(.long (0 : Int64)), (.long (gs.getD 3 0))])) (fun _ k => XS.lconst X722.here hx rfl (hb hby d18_53) k) ?_
  refine Rch.go (U' := T722.setTop (mkF m 55 #[rv a1, iv p1, jv x2, sv, iv p4, .val .null, iv (0 : Int32), iv (3 : Int32), iv (3 : Int32)] [(.int (XT.cmpL (gs.getD 3 0) (0 : Int64)))])) (fun _ k => XT.lcmp X722.here hx rfl (hb hby d18_54) rfl k) ?_
  by_cases br724 : (gs.getD 3 0) = (0 : Int64)
  ·
    refine Rch.go (U' := T722.setTop (mkF m 70 #[rv a1, iv p1, jv x2, sv, iv p4, .val .null, iv (0 : Int32), iv (3 : Int32), iv (3 : Int32)] [])) (fun _ k => XS.ifYes X722.here hx rfl (pc0 := 55) (pc' := 70) rfl (hb hby d18_55) rfl (XT.ll_eq_t br724) (by decide) (by decide) k) ?_
    refine Rch.go (U' := T722.setTop (mkF m 71 #[rv a1, iv p1, jv x2, sv, iv p4, .val .null, iv (0 : Int32), iv (3 : Int32), iv (3 : Int32)] [(.ref a1)])) (fun _ k => XS.aloadN X722.here hx rfl (hb hby d18_70) rfl rfl k) ?_
    obtain ⟨T725, X725, e725, st725⟩ := getF X722 hx hZ hown (host := "") (Or.inl (wi hw 36 rfl)) Via.refl e722 F_a1_hashes (g := (mkF m 71 #[rv a1, iv p1, jv x2, sv, iv p4, .val .null, iv (0 : Int32), iv (3 : Int32), iv (3 : Int32)] [(.ref a1)])) rfl rfl (hb hby d18_71)
    refine Rch.go (U' := T725.setTop (mkF m 74 #[rv a1, iv p1, jv x2, sv, iv p4, .val .null, iv (0 : Int32), iv (3 : Int32), iv (3 : Int32)] [(.ref ba)])) st725 ?_
    refine Rch.go (U' := T725.setTop (mkF m 76 #[rv a1, iv p1, jv x2, sv, iv p4, .val .null, iv (0 : Int32), iv (3 : Int32), iv (3 : Int32)] [(.int (3 : Int32)), (.ref ba)])) (fun _ k => XS.iload X725.here hx rfl (hb hby d18_74) rfl  k) ?_
    refine Rch.go (U' := T725.setTop (mkF m 77 #[rv a1, iv p1, jv x2, sv, iv p4, .val .null, iv (0 : Int32), iv (3 : Int32), iv (3 : Int32)] [(.int p1), (.int (3 : Int32)), (.ref ba)])) (fun _ k => XS.iloadN X725.here hx rfl (hb hby d18_76) rfl  k) ?_
    obtain ⟨cl726, Ar726, qk726, Sz726, Mn726, Hs726, Gf726⟩ := id V_ba
    have ib726 : ¬ ((3 : Int32) < 0 ∨ cl726.slots.size ≤ ((3 : Int32)).toNatClampNeg) := inb_of Sz726 ⟨by decide, by decide⟩
    obtain ⟨T726, h726, X726, e726, W726, st726⟩ := stI X725 hx hZ e725 Ar726 (j := (3 : Int32)) ib726 (g := (mkF m 77 #[rv a1, iv p1, jv x2, sv, iv p4, .val .null, iv (0 : Int32), iv (3 : Int32), iv (3 : Int32)] [(.int p1), (.int (3 : Int32)), (.ref ba)])) rfl rfl (hb hby d18_77)
    have V726 : Arv Z h726 ba ka .int (4 : Int32) (va.set 3 (.int p1)) (.int (0 : Int32)) := Arv.set Ar726 qk726 Sz726 Mn726 Hs726 Gf726 rfl W726 3 rfl (by rw [la]; decide)
    have f727 := E_a1.wr W726
    have f728 := F_a1_count.other W726 (Or.inl n_a)
    have f729 := F_a1_handles.other W726 (Or.inl n_a)
    have f730 := F_a1_hashes.other W726 (Or.inl n_a)
    have f731 := F_a1_lengths.other W726 (Or.inl n_a)
    have f732 := F_a1_outside.other W726 (Or.inl n_a)
    have f733 := F_a1_expiries.other W726 (Or.inl n_a)
    have f734 := V_bh.other W726 n_ha
    have f735 := V_bl.other W726 (Ne.symm n_al)
    have N726 := Fr.snoc X726 N0 g_ba
    have z736 := Nat.le_trans Z0 (Keep.of_wr W726).1
    refine Rch.go (U' := T726.setTop (mkF m 78 #[rv a1, iv p1, jv x2, sv, iv p4, .val .null, iv (0 : Int32), iv (3 : Int32), iv (3 : Int32)] [])) st726 ?_
    refine Rch.go (U' := T726.setTop (mkF m 79 #[rv a1, iv p1, jv x2, sv, iv p4, .val .null, iv (0 : Int32), iv (3 : Int32), iv (3 : Int32)] [(.ref a1)])) (fun _ k => XS.aloadN X726.here hx rfl (hb hby d18_78) rfl rfl k) ?_
    refine Rch.go (U' := T726.setTop (mkF m 80 #[rv a1, iv p1, jv x2, sv, iv p4, .val .null, iv (0 : Int32), iv (3 : Int32), iv (3 : Int32)] [(.ref a1), (.ref a1)])) (fun _ k => XS.dup X726.here hx rfl (hb hby d18_79) rfl rfl k) ?_
    obtain ⟨T737, X737, e737, st737⟩ := getF X726 hx hZ hown (host := "") (Or.inl (wi hw 19 rfl)) Via.refl e726 f728 (g := (mkF m 80 #[rv a1, iv p1, jv x2, sv, iv p4, .val .null, iv (0 : Int32), iv (3 : Int32), iv (3 : Int32)] [(.ref a1), (.ref a1)])) rfl rfl (hb hby d18_80)
    refine Rch.go (U' := T737.setTop (mkF m 83 #[rv a1, iv p1, jv x2, sv, iv p4, .val .null, iv (0 : Int32), iv (3 : Int32), iv (3 : Int32)] [(.int cn), (.ref a1)])) st737 ?_
    refine Rch.go (U' := T737.setTop (mkF m 84 #[rv a1, iv p1, jv x2, sv, iv p4, .val .null, iv (0 : Int32), iv (3 : Int32), iv (3 : Int32)] [(.int (1 : Int32)), (.int cn), (.ref a1)])) (fun _ k => XS.iconst X737.here hx rfl (hb hby d18_83) k) ?_
    refine Rch.go (U' := T737.setTop (mkF m 85 #[rv a1, iv p1, jv x2, sv, iv p4, .val .null, iv (0 : Int32), iv (3 : Int32), iv (3 : Int32)] [(.int (cn + (1 : Int32))), (.ref a1)])) (fun _ k => XS.iadd X737.here hx rfl (hb hby d18_84) rfl k) ?_
    obtain ⟨T738, h738, X738, e738, W738, st738⟩ := putF X737 hx hZ hown (host := "") (Or.inl (wi hw 19 rfl)) Via.refl e737 f728 f727 (Or.inl (wi hw 20 rfl)) (wi hw 1 rfl) (ty := .int) (by decide) rfl rfl (g := (mkF m 85 #[rv a1, iv p1, jv x2, sv, iv p4, .val .null, iv (0 : Int32), iv (3 : Int32), iv (3 : Int32)] [(.int (cn + (1 : Int32))), (.ref a1)])) rfl rfl (hb hby d18_85)
    have F738 := f728.same W738
    have f739 := f727.wr W738
    have f740 := f729.other W738 (Or.inr (slot_ne (Or.inl (wi hw 27 rfl)) (Or.inl (wi hw 20 rfl)) (by decide) (t := (.array .long)) (t' := .int) (by decide) (by decide)))
    have f741 := f730.other W738 (Or.inr (slot_ne (Or.inl (wi hw 37 rfl)) (Or.inl (wi hw 20 rfl)) (by decide) (t := (.array .int)) (t' := .int) (by decide) (by decide)))
    have f742 := f731.other W738 (Or.inr (slot_ne (Or.inl (wi hw 39 rfl)) (Or.inl (wi hw 20 rfl)) (by decide) (t := (.array .int)) (t' := .int) (by decide) (by decide)))
    have f743 := f732.other W738 (Or.inr (slot_ne (Or.inl (wi hw 41 rfl)) (Or.inl (wi hw 20 rfl)) (by decide) (t := (.array (.array .byte))) (t' := .int) (by decide) (by decide)))
    have f744 := f733.other W738 (Or.inr (slot_ne (Or.inl (wi hw 45 rfl)) (Or.inl (wi hw 20 rfl)) (by decide) (t := (.object "java/util/BitSet")) (t' := .int) (by decide) (by decide)))
    have f745 := f734.other W738 (Ne.symm n_h)
    have f746 := V726.other W738 (Ne.symm n_a)
    have f747 := f735.other W738 (Ne.symm n_l)
    have N738 := Fr.snoc X738 N726 g_a1
    have z748 := Nat.le_trans z736 (Keep.of_wr W738).1
    refine Rch.go (U' := T738.setTop (mkF m 88 #[rv a1, iv p1, jv x2, sv, iv p4, .val .null, iv (0 : Int32), iv (3 : Int32), iv (3 : Int32)] [])) st738 ?_
    refine Rch.go (U' := T738.setTop (mkF m 89 #[rv a1, iv p1, jv x2, sv, iv p4, .val .null, iv (0 : Int32), iv (3 : Int32), iv (3 : Int32)] [(.ref a1)])) (fun _ k => XS.aloadN X738.here hx rfl (hb hby d18_88) rfl rfl k) ?_
    refine Rch.go (U' := T738.setTop (mkF m 91 #[rv a1, iv p1, jv x2, sv, iv p4, .val .null, iv (0 : Int32), iv (3 : Int32), iv (3 : Int32)] [(.int (3 : Int32)), (.ref a1)])) (fun _ k => XS.iload X738.here hx rfl (hb hby d18_89) rfl  k) ?_
    refine Rch.go (U' := T738.setTop (mkF m 92 #[rv a1, iv p1, jv x2, sv, iv p4, .val .null, iv (0 : Int32), iv (3 : Int32), iv (3 : Int32)] [(.long x2), (.int (3 : Int32)), (.ref a1)])) (fun _ k => XS.lloadN X738.here hx rfl (hb hby d18_91) rfl  k) ?_
    refine Rch.go (U' := T738.setTop (mkF m 94 #[rv a1, iv p1, jv x2, sv, iv p4, .val .null, iv (0 : Int32), iv (3 : Int32), iv (3 : Int32)] [(.int p4), (.long x2), (.int (3 : Int32)), (.ref a1)])) (fun _ k => XS.iload X738.here hx rfl (hb hby d18_92) rfl  k) ?_
    refine Rch.go (U' := T738.setTop (mkF m 96 #[rv a1, iv p1, jv x2, sv, iv p4, .val .null, iv (0 : Int32), iv (3 : Int32), iv (3 : Int32)] [.null, (.int p4), (.long x2), (.int (3 : Int32)), (.ref a1)])) (fun _ k => XS.aload X738.here hx rfl (hb hby d18_94) rfl rfl k) ?_
    refine Rch.go (U' := T738.setTop (mkF m 98 #[rv a1, iv p1, jv x2, sv, iv p4, .val .null, iv (0 : Int32), iv (3 : Int32), iv (3 : Int32)] [(.int (0 : Int32)), .null, (.int p4), (.long x2), (.int (3 : Int32)), (.ref a1)])) (fun _ k => XS.iload X738.here hx rfl (hb hby d18_96) rfl  k) ?_
    obtain ⟨cq749, kq749, q749a, q749b, q749c⟩ := isOf hZ e738 f739
    obtain ⟨_, _, ⟨T749, L749, k749, n749⟩, -, X749, ⟨Lc749, hQ749, l749, y749, z749⟩, st749⟩ := X738.virtualBack hx (y := yS) (z := yS) hown (mvT hZ (wi hw 50 rfl)) (mvT hZ (wi hw 51 rfl)) (notFace_of_selects (args := #[]) (mvT hZ (wi hw 53 rfl))) (mvT hZ (wi hw 53 rfl)) (mvT hZ (wi hw 52 rfl)) (by decide) (backOf (W := 0) (rmS3 l Z a0 hw [] a1 bh ba bl kh ka kl (cn + (1 : Int32)) gs (va.set 3 (.int p1)) vl x2 p4 h738 n0 z748 ⟨f739, F738, f740, f741, f742, f743, f744, f745, f746, f747, ⟨lg, (by rw [List.length_set, la]), ll⟩, ⟨g_a1, g_bh, g_ba, g_bl⟩, ⟨n_h, n_a, n_l⟩, n_ha, n_hl, n_al⟩) hZ (wi hw 54 rfl) (wi hw 2 rfl) (by decide) (by decide)) q749a q749c (g := (mkF m 98 #[rv a1, iv p1, jv x2, sv, iv p4, .val .null, iv (0 : Int32), iv (3 : Int32), iv (3 : Int32)] [(.int (0 : Int32)), .null, (.int p4), (.long x2), (.int (3 : Int32)), (.ref a1)])) rfl (by rw [hml]; rfl) (Steps.refl _) (argsL := [(.int (3 : Int32)), (.long x2), (.int p4), .null, (.int (0 : Int32))]) (rest := []) (lenOf pd_10 rfl) rfl (by show 2 * 0 + _ ≤ _; exact Nat.le_of_eq rfl) (hb hby d18_98) (fun _ _ => ⟨rfl, e738, (by decide : 0 + 0 ≤ _), (by decide : 0 + 0 ≤ _)⟩)
    dsimp only [Pt.U, Pt.locs, Pt.cells, Pt.slots] at X749 l749 y749 z749 st749 hQ749
    subst l749 y749 z749
    obtain ⟨rfl, N749q, K749q, Vh749, Vl749⟩ := hQ749
    have N749 := Fr.app N738 N749q
    have z750 := Nat.le_trans z748 K749q.1
    have f751 := f739.keep K749q
    have f752 := F738.keep K749q (ninS n_h (ninS n_l nin0))
    have f753 := f740.keep K749q (ninS n_h (ninS n_l nin0))
    have f754 := f741.keep K749q (ninS n_h (ninS n_l nin0))
    have f755 := f742.keep K749q (ninS n_h (ninS n_l nin0))
    have f756 := f743.keep K749q (ninS n_h (ninS n_l nin0))
    have f757 := f744.keep K749q (ninS n_h (ninS n_l nin0))
    have f758 := f746.keep K749q (ninS (Ne.symm n_ha) (ninS n_al nin0))
    refine Rch.to (U' := T749.setTop (mkF m 101 #[rv a1, iv p1, jv x2, sv, iv p4, .val .null, iv (0 : Int32), iv (3 : Int32), iv (3 : Int32)] [])) st749 ?_
    refine Rch.go (U' := T749.setTop (mkF m 103 #[rv a1, iv p1, jv x2, sv, iv p4, .val .null, iv (0 : Int32), iv (3 : Int32), iv (3 : Int32)] [(.int (3 : Int32))])) (fun _ k => XS.iload X749.here hx rfl (hb hby d18_101) rfl  k) ?_
    refine Rch.fin X749 hlk (v := some (.int (3 : Int32))) (fun h => by rw [hret] at h; cases h) rfl (by decide) (by decide) (fun fs hr => retI X749 hx hret (hb hby d18_103) hr) ?_
    have hfr : own_free gs 4 (own_s p1) = 3 := by rw [hsj]; simp only [own_free, br724, ↓reduceIte]
    refine ⟨_, _, by rw [hfr]; rfl, N749, z750, ⟨f751, f752, f753, f754, f755, f756, f757, (by unfold own_add; rw [hfr]; exact Vh749), f758, Vl749, ⟨by unfold own_add; rw [List.length_set, lg], by rw [List.length_set, la], by rw [List.length_set, ll]⟩, ⟨g_a1, g_bh, g_ba, g_bl⟩, ⟨n_h, n_a, n_l⟩, n_ha, n_hl, n_al⟩⟩
  ·
    refine Rch.go (U' := T722.setTop (mkF m 58 #[rv a1, iv p1, jv x2, sv, iv p4, .val .null, iv (0 : Int32), iv (3 : Int32), iv (3 : Int32)] [])) (fun _ k => XS.ifNo X722.here hx rfl (hb hby d18_55) rfl (XT.ll_eq_f br724) k) ?_
    refine Rch.go (U' := T722.setTop (mkF m 60 #[rv a1, iv p1, jv x2, sv, iv p4, .val .null, iv (0 : Int32), iv (3 : Int32), iv (3 : Int32)] [(.int (3 : Int32))])) (fun _ k => XS.iload X722.here hx rfl (hb hby d18_58) rfl  k) ?_
    refine Rch.go (U' := T722.setTop (mkF m 61 #[rv a1, iv p1, jv x2, sv, iv p4, .val .null, iv (0 : Int32), iv (3 : Int32), iv (3 : Int32)] [(.int (1 : Int32)), (.int (3 : Int32))])) (fun _ k => XS.iconst X722.here hx rfl (hb hby d18_60) k) ?_
    refine Rch.go (U' := T722.setTop (mkF m 62 #[rv a1, iv p1, jv x2, sv, iv p4, .val .null, iv (0 : Int32), iv (3 : Int32), iv (3 : Int32)] [(.int ((3 : Int32) + (1 : Int32)))])) (fun _ k => XS.iadd X722.here hx rfl (hb hby d18_61) rfl k) ?_
    rw [(by decide : ((3 : Int32) + (1 : Int32)) = (4 : Int32))]
    refine Rch.go (U' := T722.setTop (mkF m 64 #[rv a1, iv p1, jv x2, sv, iv p4, .val .null, iv (0 : Int32), iv (3 : Int32), iv (3 : Int32)] [(.int (3 : Int32)), (.int (4 : Int32))])) (fun _ k => XS.iload X722.here hx rfl (hb hby d18_62) rfl  k) ?_
    refine Rch.go (U' := T722.setTop (mkF m 65 #[rv a1, iv p1, jv x2, sv, iv p4, .val .null, iv (0 : Int32), iv (3 : Int32), iv (3 : Int32)] [(.int ((4 : Int32) &&& (3 : Int32)))])) (fun _ k => XS.iand X722.here hx rfl (hb hby d18_64) rfl k) ?_
    rw [(by decide : ((4 : Int32) &&& (3 : Int32)) = (0 : Int32))]
    refine Rch.go (U' := T722.setTop (mkF m 67 #[rv a1, iv p1, jv x2, sv, iv p4, .val .null, iv (0 : Int32), iv (3 : Int32), iv (0 : Int32)] [])) (fun _ k => XS.istore X722.here hx rfl (hb hby d18_65) rfl (l' := #[rv a1, iv p1, jv x2, sv, iv p4, .val .null, iv (0 : Int32), iv (3 : Int32), iv (0 : Int32)]) rfl k) ?_
    refine Rch.go (U' := T722.setTop (mkF m 46 #[rv a1, iv p1, jv x2, sv, iv p4, .val .null, iv (0 : Int32), iv (3 : Int32), iv (0 : Int32)] [])) (fun _ k => XS.goto X722.here hx rfl (pc0 := 67) (pc' := 46) rfl (hb hby d18_67) (by decide) (by decide) k) ?_
    refine Rch.go (U' := T722.setTop (mkF m 47 #[rv a1, iv p1, jv x2, sv, iv p4, .val .null, iv (0 : Int32), iv (3 : Int32), iv (0 : Int32)] [(.ref a1)])) (fun _ k => XS.aloadN X722.here hx rfl (hb hby d18_46) rfl rfl k) ?_
    obtain ⟨T759, X759, e759, st759⟩ := getF X722 hx hZ hown (host := "") (Or.inl (wi hw 26 rfl)) Via.refl e722 F_a1_handles (g := (mkF m 47 #[rv a1, iv p1, jv x2, sv, iv p4, .val .null, iv (0 : Int32), iv (3 : Int32), iv (0 : Int32)] [(.ref a1)])) rfl rfl (hb hby d18_47)
    refine Rch.go (U' := T759.setTop (mkF m 50 #[rv a1, iv p1, jv x2, sv, iv p4, .val .null, iv (0 : Int32), iv (3 : Int32), iv (0 : Int32)] [(.ref bh)])) st759 ?_
    refine Rch.go (U' := T759.setTop (mkF m 52 #[rv a1, iv p1, jv x2, sv, iv p4, .val .null, iv (0 : Int32), iv (3 : Int32), iv (0 : Int32)] [(.int (0 : Int32)), (.ref bh)])) (fun _ k => XS.iload X759.here hx rfl (hb hby d18_50) rfl  k) ?_
    obtain ⟨cl760, Ar760, qk760, Sz760, Mn760, Hs760, Gf760⟩ := id V_bh
    have ib760 : ¬ ((0 : Int32) < 0 ∨ cl760.slots.size ≤ ((0 : Int32)).toNatClampNeg) := inb_of Sz760 ⟨by decide, by decide⟩
    have ea760 : cl760.slots[((0 : Int32)).toNatClampNeg]? = some (.long (gs.getD 0 0)) := Has.at Hs760 ib760 (own_getJ gs 0)
    refine Rch.go (U' := T759.setTop (mkF m 53 #[rv a1, iv p1, jv x2, sv, iv p4, .val .null, iv (0 : Int32), iv (3 : Int32), iv (0 : Int32)] [(.long (gs.getD 0 0))])) (fun _ k => X759.laload hx (j := (0 : Int32)) (v := (.long (gs.getD 0 0))) (by rw [e759]; exact Ar760.1) (State.isArrayOf_alike hZ.alike Ar760.2.1) Ar760.2.2 ib760 ea760 (g := (mkF m 52 #[rv a1, iv p1, jv x2, sv, iv p4, .val .null, iv (0 : Int32), iv (3 : Int32), iv (0 : Int32)] [(.int (0 : Int32)), (.ref bh)])) rfl rfl (hb hby d18_52) _ k) ?_
    refine Rch.go (U' := T759.setTop (mkF m 54 #[rv a1, iv p1, jv x2, sv, iv p4, .val .null, iv (0 : Int32), iv (3 : Int32), iv (0 : Int32)] [(.long (0 : Int64)), (.long (gs.getD 0 0))])) (fun _ k => XS.lconst X759.here hx rfl (hb hby d18_53) k) ?_
    refine Rch.go (U' := T759.setTop (mkF m 55 #[rv a1, iv p1, jv x2, sv, iv p4, .val .null, iv (0 : Int32), iv (3 : Int32), iv (0 : Int32)] [(.int (XT.cmpL (gs.getD 0 0) (0 : Int64)))])) (fun _ k => XT.lcmp X759.here hx rfl (hb hby d18_54) rfl k) ?_
    by_cases br761 : (gs.getD 0 0) = (0 : Int64)
    ·
      refine Rch.go (U' := T759.setTop (mkF m 70 #[rv a1, iv p1, jv x2, sv, iv p4, .val .null, iv (0 : Int32), iv (3 : Int32), iv (0 : Int32)] [])) (fun _ k => XS.ifYes X759.here hx rfl (pc0 := 55) (pc' := 70) rfl (hb hby d18_55) rfl (XT.ll_eq_t br761) (by decide) (by decide) k) ?_
      refine Rch.go (U' := T759.setTop (mkF m 71 #[rv a1, iv p1, jv x2, sv, iv p4, .val .null, iv (0 : Int32), iv (3 : Int32), iv (0 : Int32)] [(.ref a1)])) (fun _ k => XS.aloadN X759.here hx rfl (hb hby d18_70) rfl rfl k) ?_
      obtain ⟨T762, X762, e762, st762⟩ := getF X759 hx hZ hown (host := "") (Or.inl (wi hw 36 rfl)) Via.refl e759 F_a1_hashes (g := (mkF m 71 #[rv a1, iv p1, jv x2, sv, iv p4, .val .null, iv (0 : Int32), iv (3 : Int32), iv (0 : Int32)] [(.ref a1)])) rfl rfl (hb hby d18_71)
      refine Rch.go (U' := T762.setTop (mkF m 74 #[rv a1, iv p1, jv x2, sv, iv p4, .val .null, iv (0 : Int32), iv (3 : Int32), iv (0 : Int32)] [(.ref ba)])) st762 ?_
      refine Rch.go (U' := T762.setTop (mkF m 76 #[rv a1, iv p1, jv x2, sv, iv p4, .val .null, iv (0 : Int32), iv (3 : Int32), iv (0 : Int32)] [(.int (0 : Int32)), (.ref ba)])) (fun _ k => XS.iload X762.here hx rfl (hb hby d18_74) rfl  k) ?_
      refine Rch.go (U' := T762.setTop (mkF m 77 #[rv a1, iv p1, jv x2, sv, iv p4, .val .null, iv (0 : Int32), iv (3 : Int32), iv (0 : Int32)] [(.int p1), (.int (0 : Int32)), (.ref ba)])) (fun _ k => XS.iloadN X762.here hx rfl (hb hby d18_76) rfl  k) ?_
      obtain ⟨cl763, Ar763, qk763, Sz763, Mn763, Hs763, Gf763⟩ := id V_ba
      have ib763 : ¬ ((0 : Int32) < 0 ∨ cl763.slots.size ≤ ((0 : Int32)).toNatClampNeg) := inb_of Sz763 ⟨by decide, by decide⟩
      obtain ⟨T763, h763, X763, e763, W763, st763⟩ := stI X762 hx hZ e762 Ar763 (j := (0 : Int32)) ib763 (g := (mkF m 77 #[rv a1, iv p1, jv x2, sv, iv p4, .val .null, iv (0 : Int32), iv (3 : Int32), iv (0 : Int32)] [(.int p1), (.int (0 : Int32)), (.ref ba)])) rfl rfl (hb hby d18_77)
      have V763 : Arv Z h763 ba ka .int (4 : Int32) (va.set 0 (.int p1)) (.int (0 : Int32)) := Arv.set Ar763 qk763 Sz763 Mn763 Hs763 Gf763 rfl W763 0 rfl (by rw [la]; decide)
      have f764 := E_a1.wr W763
      have f765 := F_a1_count.other W763 (Or.inl n_a)
      have f766 := F_a1_handles.other W763 (Or.inl n_a)
      have f767 := F_a1_hashes.other W763 (Or.inl n_a)
      have f768 := F_a1_lengths.other W763 (Or.inl n_a)
      have f769 := F_a1_outside.other W763 (Or.inl n_a)
      have f770 := F_a1_expiries.other W763 (Or.inl n_a)
      have f771 := V_bh.other W763 n_ha
      have f772 := V_bl.other W763 (Ne.symm n_al)
      have N763 := Fr.snoc X763 N0 g_ba
      have z773 := Nat.le_trans Z0 (Keep.of_wr W763).1
      refine Rch.go (U' := T763.setTop (mkF m 78 #[rv a1, iv p1, jv x2, sv, iv p4, .val .null, iv (0 : Int32), iv (3 : Int32), iv (0 : Int32)] [])) st763 ?_
      refine Rch.go (U' := T763.setTop (mkF m 79 #[rv a1, iv p1, jv x2, sv, iv p4, .val .null, iv (0 : Int32), iv (3 : Int32), iv (0 : Int32)] [(.ref a1)])) (fun _ k => XS.aloadN X763.here hx rfl (hb hby d18_78) rfl rfl k) ?_
      refine Rch.go (U' := T763.setTop (mkF m 80 #[rv a1, iv p1, jv x2, sv, iv p4, .val .null, iv (0 : Int32), iv (3 : Int32), iv (0 : Int32)] [(.ref a1), (.ref a1)])) (fun _ k => XS.dup X763.here hx rfl (hb hby d18_79) rfl rfl k) ?_
      obtain ⟨T774, X774, e774, st774⟩ := getF X763 hx hZ hown (host := "") (Or.inl (wi hw 19 rfl)) Via.refl e763 f765 (g := (mkF m 80 #[rv a1, iv p1, jv x2, sv, iv p4, .val .null, iv (0 : Int32), iv (3 : Int32), iv (0 : Int32)] [(.ref a1), (.ref a1)])) rfl rfl (hb hby d18_80)
      refine Rch.go (U' := T774.setTop (mkF m 83 #[rv a1, iv p1, jv x2, sv, iv p4, .val .null, iv (0 : Int32), iv (3 : Int32), iv (0 : Int32)] [(.int cn), (.ref a1)])) st774 ?_
      refine Rch.go (U' := T774.setTop (mkF m 84 #[rv a1, iv p1, jv x2, sv, iv p4, .val .null, iv (0 : Int32), iv (3 : Int32), iv (0 : Int32)] [(.int (1 : Int32)), (.int cn), (.ref a1)])) (fun _ k => XS.iconst X774.here hx rfl (hb hby d18_83) k) ?_
      refine Rch.go (U' := T774.setTop (mkF m 85 #[rv a1, iv p1, jv x2, sv, iv p4, .val .null, iv (0 : Int32), iv (3 : Int32), iv (0 : Int32)] [(.int (cn + (1 : Int32))), (.ref a1)])) (fun _ k => XS.iadd X774.here hx rfl (hb hby d18_84) rfl k) ?_
      obtain ⟨T775, h775, X775, e775, W775, st775⟩ := putF X774 hx hZ hown (host := "") (Or.inl (wi hw 19 rfl)) Via.refl e774 f765 f764 (Or.inl (wi hw 20 rfl)) (wi hw 1 rfl) (ty := .int) (by decide) rfl rfl (g := (mkF m 85 #[rv a1, iv p1, jv x2, sv, iv p4, .val .null, iv (0 : Int32), iv (3 : Int32), iv (0 : Int32)] [(.int (cn + (1 : Int32))), (.ref a1)])) rfl rfl (hb hby d18_85)
      have F775 := f765.same W775
      have f776 := f764.wr W775
      have f777 := f766.other W775 (Or.inr (slot_ne (Or.inl (wi hw 27 rfl)) (Or.inl (wi hw 20 rfl)) (by decide) (t := (.array .long)) (t' := .int) (by decide) (by decide)))
      have f778 := f767.other W775 (Or.inr (slot_ne (Or.inl (wi hw 37 rfl)) (Or.inl (wi hw 20 rfl)) (by decide) (t := (.array .int)) (t' := .int) (by decide) (by decide)))
      have f779 := f768.other W775 (Or.inr (slot_ne (Or.inl (wi hw 39 rfl)) (Or.inl (wi hw 20 rfl)) (by decide) (t := (.array .int)) (t' := .int) (by decide) (by decide)))
      have f780 := f769.other W775 (Or.inr (slot_ne (Or.inl (wi hw 41 rfl)) (Or.inl (wi hw 20 rfl)) (by decide) (t := (.array (.array .byte))) (t' := .int) (by decide) (by decide)))
      have f781 := f770.other W775 (Or.inr (slot_ne (Or.inl (wi hw 45 rfl)) (Or.inl (wi hw 20 rfl)) (by decide) (t := (.object "java/util/BitSet")) (t' := .int) (by decide) (by decide)))
      have f782 := f771.other W775 (Ne.symm n_h)
      have f783 := V763.other W775 (Ne.symm n_a)
      have f784 := f772.other W775 (Ne.symm n_l)
      have N775 := Fr.snoc X775 N763 g_a1
      have z785 := Nat.le_trans z773 (Keep.of_wr W775).1
      refine Rch.go (U' := T775.setTop (mkF m 88 #[rv a1, iv p1, jv x2, sv, iv p4, .val .null, iv (0 : Int32), iv (3 : Int32), iv (0 : Int32)] [])) st775 ?_
      refine Rch.go (U' := T775.setTop (mkF m 89 #[rv a1, iv p1, jv x2, sv, iv p4, .val .null, iv (0 : Int32), iv (3 : Int32), iv (0 : Int32)] [(.ref a1)])) (fun _ k => XS.aloadN X775.here hx rfl (hb hby d18_88) rfl rfl k) ?_
      refine Rch.go (U' := T775.setTop (mkF m 91 #[rv a1, iv p1, jv x2, sv, iv p4, .val .null, iv (0 : Int32), iv (3 : Int32), iv (0 : Int32)] [(.int (0 : Int32)), (.ref a1)])) (fun _ k => XS.iload X775.here hx rfl (hb hby d18_89) rfl  k) ?_
      refine Rch.go (U' := T775.setTop (mkF m 92 #[rv a1, iv p1, jv x2, sv, iv p4, .val .null, iv (0 : Int32), iv (3 : Int32), iv (0 : Int32)] [(.long x2), (.int (0 : Int32)), (.ref a1)])) (fun _ k => XS.lloadN X775.here hx rfl (hb hby d18_91) rfl  k) ?_
      refine Rch.go (U' := T775.setTop (mkF m 94 #[rv a1, iv p1, jv x2, sv, iv p4, .val .null, iv (0 : Int32), iv (3 : Int32), iv (0 : Int32)] [(.int p4), (.long x2), (.int (0 : Int32)), (.ref a1)])) (fun _ k => XS.iload X775.here hx rfl (hb hby d18_92) rfl  k) ?_
      refine Rch.go (U' := T775.setTop (mkF m 96 #[rv a1, iv p1, jv x2, sv, iv p4, .val .null, iv (0 : Int32), iv (3 : Int32), iv (0 : Int32)] [.null, (.int p4), (.long x2), (.int (0 : Int32)), (.ref a1)])) (fun _ k => XS.aload X775.here hx rfl (hb hby d18_94) rfl rfl k) ?_
      refine Rch.go (U' := T775.setTop (mkF m 98 #[rv a1, iv p1, jv x2, sv, iv p4, .val .null, iv (0 : Int32), iv (3 : Int32), iv (0 : Int32)] [(.int (0 : Int32)), .null, (.int p4), (.long x2), (.int (0 : Int32)), (.ref a1)])) (fun _ k => XS.iload X775.here hx rfl (hb hby d18_96) rfl  k) ?_
      obtain ⟨cq786, kq786, q786a, q786b, q786c⟩ := isOf hZ e775 f776
      obtain ⟨_, _, ⟨T786, L786, k786, n786⟩, -, X786, ⟨Lc786, hQ786, l786, y786, z786⟩, st786⟩ := X775.virtualBack hx (y := yS) (z := yS) hown (mvT hZ (wi hw 50 rfl)) (mvT hZ (wi hw 51 rfl)) (notFace_of_selects (args := #[]) (mvT hZ (wi hw 53 rfl))) (mvT hZ (wi hw 53 rfl)) (mvT hZ (wi hw 52 rfl)) (by decide) (backOf (W := 0) (rmS0 l Z a0 hw [] a1 bh ba bl kh ka kl (cn + (1 : Int32)) gs (va.set 0 (.int p1)) vl x2 p4 h775 n0 z785 ⟨f776, F775, f777, f778, f779, f780, f781, f782, f783, f784, ⟨lg, (by rw [List.length_set, la]), ll⟩, ⟨g_a1, g_bh, g_ba, g_bl⟩, ⟨n_h, n_a, n_l⟩, n_ha, n_hl, n_al⟩) hZ (wi hw 54 rfl) (wi hw 2 rfl) (by decide) (by decide)) q786a q786c (g := (mkF m 98 #[rv a1, iv p1, jv x2, sv, iv p4, .val .null, iv (0 : Int32), iv (3 : Int32), iv (0 : Int32)] [(.int (0 : Int32)), .null, (.int p4), (.long x2), (.int (0 : Int32)), (.ref a1)])) rfl (by rw [hml]; rfl) (Steps.refl _) (argsL := [(.int (0 : Int32)), (.long x2), (.int p4), .null, (.int (0 : Int32))]) (rest := []) (lenOf pd_10 rfl) rfl (by show 2 * 0 + _ ≤ _; exact Nat.le_of_eq rfl) (hb hby d18_98) (fun _ _ => ⟨rfl, e775, (by decide : 0 + 0 ≤ _), (by decide : 0 + 0 ≤ _)⟩)
      dsimp only [Pt.U, Pt.locs, Pt.cells, Pt.slots] at X786 l786 y786 z786 st786 hQ786
      subst l786 y786 z786
      obtain ⟨rfl, N786q, K786q, Vh786, Vl786⟩ := hQ786
      have N786 := Fr.app N775 N786q
      have z787 := Nat.le_trans z785 K786q.1
      have f788 := f776.keep K786q
      have f789 := F775.keep K786q (ninS n_h (ninS n_l nin0))
      have f790 := f777.keep K786q (ninS n_h (ninS n_l nin0))
      have f791 := f778.keep K786q (ninS n_h (ninS n_l nin0))
      have f792 := f779.keep K786q (ninS n_h (ninS n_l nin0))
      have f793 := f780.keep K786q (ninS n_h (ninS n_l nin0))
      have f794 := f781.keep K786q (ninS n_h (ninS n_l nin0))
      have f795 := f783.keep K786q (ninS (Ne.symm n_ha) (ninS n_al nin0))
      refine Rch.to (U' := T786.setTop (mkF m 101 #[rv a1, iv p1, jv x2, sv, iv p4, .val .null, iv (0 : Int32), iv (3 : Int32), iv (0 : Int32)] [])) st786 ?_
      refine Rch.go (U' := T786.setTop (mkF m 103 #[rv a1, iv p1, jv x2, sv, iv p4, .val .null, iv (0 : Int32), iv (3 : Int32), iv (0 : Int32)] [(.int (0 : Int32))])) (fun _ k => XS.iload X786.here hx rfl (hb hby d18_101) rfl  k) ?_
      refine Rch.fin X786 hlk (v := some (.int (0 : Int32))) (fun h => by rw [hret] at h; cases h) rfl (by decide) (by decide) (fun fs hr => retI X786 hx hret (hb hby d18_103) hr) ?_
      have hfr : own_free gs 4 (own_s p1) = 0 := by rw [hsj]; simp only [own_free, br724, br761, ↓reduceIte]
      refine ⟨_, _, by rw [hfr]; rfl, N786, z787, ⟨f788, f789, f790, f791, f792, f793, f794, (by unfold own_add; rw [hfr]; exact Vh786), f795, Vl786, ⟨by unfold own_add; rw [List.length_set, lg], by rw [List.length_set, la], by rw [List.length_set, ll]⟩, ⟨g_a1, g_bh, g_ba, g_bl⟩, ⟨n_h, n_a, n_l⟩, n_ha, n_hl, n_al⟩⟩
    ·
      refine Rch.go (U' := T759.setTop (mkF m 58 #[rv a1, iv p1, jv x2, sv, iv p4, .val .null, iv (0 : Int32), iv (3 : Int32), iv (0 : Int32)] [])) (fun _ k => XS.ifNo X759.here hx rfl (hb hby d18_55) rfl (XT.ll_eq_f br761) k) ?_
      refine Rch.go (U' := T759.setTop (mkF m 60 #[rv a1, iv p1, jv x2, sv, iv p4, .val .null, iv (0 : Int32), iv (3 : Int32), iv (0 : Int32)] [(.int (0 : Int32))])) (fun _ k => XS.iload X759.here hx rfl (hb hby d18_58) rfl  k) ?_
      refine Rch.go (U' := T759.setTop (mkF m 61 #[rv a1, iv p1, jv x2, sv, iv p4, .val .null, iv (0 : Int32), iv (3 : Int32), iv (0 : Int32)] [(.int (1 : Int32)), (.int (0 : Int32))])) (fun _ k => XS.iconst X759.here hx rfl (hb hby d18_60) k) ?_
      refine Rch.go (U' := T759.setTop (mkF m 62 #[rv a1, iv p1, jv x2, sv, iv p4, .val .null, iv (0 : Int32), iv (3 : Int32), iv (0 : Int32)] [(.int ((0 : Int32) + (1 : Int32)))])) (fun _ k => XS.iadd X759.here hx rfl (hb hby d18_61) rfl k) ?_
      rw [(by decide : ((0 : Int32) + (1 : Int32)) = (1 : Int32))]
      refine Rch.go (U' := T759.setTop (mkF m 64 #[rv a1, iv p1, jv x2, sv, iv p4, .val .null, iv (0 : Int32), iv (3 : Int32), iv (0 : Int32)] [(.int (3 : Int32)), (.int (1 : Int32))])) (fun _ k => XS.iload X759.here hx rfl (hb hby d18_62) rfl  k) ?_
      refine Rch.go (U' := T759.setTop (mkF m 65 #[rv a1, iv p1, jv x2, sv, iv p4, .val .null, iv (0 : Int32), iv (3 : Int32), iv (0 : Int32)] [(.int ((1 : Int32) &&& (3 : Int32)))])) (fun _ k => XS.iand X759.here hx rfl (hb hby d18_64) rfl k) ?_
      rw [(by decide : ((1 : Int32) &&& (3 : Int32)) = (1 : Int32))]
      refine Rch.go (U' := T759.setTop (mkF m 67 #[rv a1, iv p1, jv x2, sv, iv p4, .val .null, iv (0 : Int32), iv (3 : Int32), iv (1 : Int32)] [])) (fun _ k => XS.istore X759.here hx rfl (hb hby d18_65) rfl (l' := #[rv a1, iv p1, jv x2, sv, iv p4, .val .null, iv (0 : Int32), iv (3 : Int32), iv (1 : Int32)]) rfl k) ?_
      refine Rch.go (U' := T759.setTop (mkF m 46 #[rv a1, iv p1, jv x2, sv, iv p4, .val .null, iv (0 : Int32), iv (3 : Int32), iv (1 : Int32)] [])) (fun _ k => XS.goto X759.here hx rfl (pc0 := 67) (pc' := 46) rfl (hb hby d18_67) (by decide) (by decide) k) ?_
      refine Rch.go (U' := T759.setTop (mkF m 47 #[rv a1, iv p1, jv x2, sv, iv p4, .val .null, iv (0 : Int32), iv (3 : Int32), iv (1 : Int32)] [(.ref a1)])) (fun _ k => XS.aloadN X759.here hx rfl (hb hby d18_46) rfl rfl k) ?_
      obtain ⟨T796, X796, e796, st796⟩ := getF X759 hx hZ hown (host := "") (Or.inl (wi hw 26 rfl)) Via.refl e759 F_a1_handles (g := (mkF m 47 #[rv a1, iv p1, jv x2, sv, iv p4, .val .null, iv (0 : Int32), iv (3 : Int32), iv (1 : Int32)] [(.ref a1)])) rfl rfl (hb hby d18_47)
      refine Rch.go (U' := T796.setTop (mkF m 50 #[rv a1, iv p1, jv x2, sv, iv p4, .val .null, iv (0 : Int32), iv (3 : Int32), iv (1 : Int32)] [(.ref bh)])) st796 ?_
      refine Rch.go (U' := T796.setTop (mkF m 52 #[rv a1, iv p1, jv x2, sv, iv p4, .val .null, iv (0 : Int32), iv (3 : Int32), iv (1 : Int32)] [(.int (1 : Int32)), (.ref bh)])) (fun _ k => XS.iload X796.here hx rfl (hb hby d18_50) rfl  k) ?_
      obtain ⟨cl797, Ar797, qk797, Sz797, Mn797, Hs797, Gf797⟩ := id V_bh
      have ib797 : ¬ ((1 : Int32) < 0 ∨ cl797.slots.size ≤ ((1 : Int32)).toNatClampNeg) := inb_of Sz797 ⟨by decide, by decide⟩
      have ea797 : cl797.slots[((1 : Int32)).toNatClampNeg]? = some (.long (gs.getD 1 0)) := Has.at Hs797 ib797 (own_getJ gs 1)
      refine Rch.go (U' := T796.setTop (mkF m 53 #[rv a1, iv p1, jv x2, sv, iv p4, .val .null, iv (0 : Int32), iv (3 : Int32), iv (1 : Int32)] [(.long (gs.getD 1 0))])) (fun _ k => X796.laload hx (j := (1 : Int32)) (v := (.long (gs.getD 1 0))) (by rw [e796]; exact Ar797.1) (State.isArrayOf_alike hZ.alike Ar797.2.1) Ar797.2.2 ib797 ea797 (g := (mkF m 52 #[rv a1, iv p1, jv x2, sv, iv p4, .val .null, iv (0 : Int32), iv (3 : Int32), iv (1 : Int32)] [(.int (1 : Int32)), (.ref bh)])) rfl rfl (hb hby d18_52) _ k) ?_
      refine Rch.go (U' := T796.setTop (mkF m 54 #[rv a1, iv p1, jv x2, sv, iv p4, .val .null, iv (0 : Int32), iv (3 : Int32), iv (1 : Int32)] [(.long (0 : Int64)), (.long (gs.getD 1 0))])) (fun _ k => XS.lconst X796.here hx rfl (hb hby d18_53) k) ?_
      refine Rch.go (U' := T796.setTop (mkF m 55 #[rv a1, iv p1, jv x2, sv, iv p4, .val .null, iv (0 : Int32), iv (3 : Int32), iv (1 : Int32)] [(.int (XT.cmpL (gs.getD 1 0) (0 : Int64)))])) (fun _ k => XT.lcmp X796.here hx rfl (hb hby d18_54) rfl k) ?_
      by_cases br798 : (gs.getD 1 0) = (0 : Int64)
      ·
        refine Rch.go (U' := T796.setTop (mkF m 70 #[rv a1, iv p1, jv x2, sv, iv p4, .val .null, iv (0 : Int32), iv (3 : Int32), iv (1 : Int32)] [])) (fun _ k => XS.ifYes X796.here hx rfl (pc0 := 55) (pc' := 70) rfl (hb hby d18_55) rfl (XT.ll_eq_t br798) (by decide) (by decide) k) ?_
        refine Rch.go (U' := T796.setTop (mkF m 71 #[rv a1, iv p1, jv x2, sv, iv p4, .val .null, iv (0 : Int32), iv (3 : Int32), iv (1 : Int32)] [(.ref a1)])) (fun _ k => XS.aloadN X796.here hx rfl (hb hby d18_70) rfl rfl k) ?_
        obtain ⟨T799, X799, e799, st799⟩ := getF X796 hx hZ hown (host := "") (Or.inl (wi hw 36 rfl)) Via.refl e796 F_a1_hashes (g := (mkF m 71 #[rv a1, iv p1, jv x2, sv, iv p4, .val .null, iv (0 : Int32), iv (3 : Int32), iv (1 : Int32)] [(.ref a1)])) rfl rfl (hb hby d18_71)
        refine Rch.go (U' := T799.setTop (mkF m 74 #[rv a1, iv p1, jv x2, sv, iv p4, .val .null, iv (0 : Int32), iv (3 : Int32), iv (1 : Int32)] [(.ref ba)])) st799 ?_
        refine Rch.go (U' := T799.setTop (mkF m 76 #[rv a1, iv p1, jv x2, sv, iv p4, .val .null, iv (0 : Int32), iv (3 : Int32), iv (1 : Int32)] [(.int (1 : Int32)), (.ref ba)])) (fun _ k => XS.iload X799.here hx rfl (hb hby d18_74) rfl  k) ?_
        refine Rch.go (U' := T799.setTop (mkF m 77 #[rv a1, iv p1, jv x2, sv, iv p4, .val .null, iv (0 : Int32), iv (3 : Int32), iv (1 : Int32)] [(.int p1), (.int (1 : Int32)), (.ref ba)])) (fun _ k => XS.iloadN X799.here hx rfl (hb hby d18_76) rfl  k) ?_
        obtain ⟨cl800, Ar800, qk800, Sz800, Mn800, Hs800, Gf800⟩ := id V_ba
        have ib800 : ¬ ((1 : Int32) < 0 ∨ cl800.slots.size ≤ ((1 : Int32)).toNatClampNeg) := inb_of Sz800 ⟨by decide, by decide⟩
        obtain ⟨T800, h800, X800, e800, W800, st800⟩ := stI X799 hx hZ e799 Ar800 (j := (1 : Int32)) ib800 (g := (mkF m 77 #[rv a1, iv p1, jv x2, sv, iv p4, .val .null, iv (0 : Int32), iv (3 : Int32), iv (1 : Int32)] [(.int p1), (.int (1 : Int32)), (.ref ba)])) rfl rfl (hb hby d18_77)
        have V800 : Arv Z h800 ba ka .int (4 : Int32) (va.set 1 (.int p1)) (.int (0 : Int32)) := Arv.set Ar800 qk800 Sz800 Mn800 Hs800 Gf800 rfl W800 1 rfl (by rw [la]; decide)
        have f801 := E_a1.wr W800
        have f802 := F_a1_count.other W800 (Or.inl n_a)
        have f803 := F_a1_handles.other W800 (Or.inl n_a)
        have f804 := F_a1_hashes.other W800 (Or.inl n_a)
        have f805 := F_a1_lengths.other W800 (Or.inl n_a)
        have f806 := F_a1_outside.other W800 (Or.inl n_a)
        have f807 := F_a1_expiries.other W800 (Or.inl n_a)
        have f808 := V_bh.other W800 n_ha
        have f809 := V_bl.other W800 (Ne.symm n_al)
        have N800 := Fr.snoc X800 N0 g_ba
        have z810 := Nat.le_trans Z0 (Keep.of_wr W800).1
        refine Rch.go (U' := T800.setTop (mkF m 78 #[rv a1, iv p1, jv x2, sv, iv p4, .val .null, iv (0 : Int32), iv (3 : Int32), iv (1 : Int32)] [])) st800 ?_
        refine Rch.go (U' := T800.setTop (mkF m 79 #[rv a1, iv p1, jv x2, sv, iv p4, .val .null, iv (0 : Int32), iv (3 : Int32), iv (1 : Int32)] [(.ref a1)])) (fun _ k => XS.aloadN X800.here hx rfl (hb hby d18_78) rfl rfl k) ?_
        refine Rch.go (U' := T800.setTop (mkF m 80 #[rv a1, iv p1, jv x2, sv, iv p4, .val .null, iv (0 : Int32), iv (3 : Int32), iv (1 : Int32)] [(.ref a1), (.ref a1)])) (fun _ k => XS.dup X800.here hx rfl (hb hby d18_79) rfl rfl k) ?_
        obtain ⟨T811, X811, e811, st811⟩ := getF X800 hx hZ hown (host := "") (Or.inl (wi hw 19 rfl)) Via.refl e800 f802 (g := (mkF m 80 #[rv a1, iv p1, jv x2, sv, iv p4, .val .null, iv (0 : Int32), iv (3 : Int32), iv (1 : Int32)] [(.ref a1), (.ref a1)])) rfl rfl (hb hby d18_80)
        refine Rch.go (U' := T811.setTop (mkF m 83 #[rv a1, iv p1, jv x2, sv, iv p4, .val .null, iv (0 : Int32), iv (3 : Int32), iv (1 : Int32)] [(.int cn), (.ref a1)])) st811 ?_
        refine Rch.go (U' := T811.setTop (mkF m 84 #[rv a1, iv p1, jv x2, sv, iv p4, .val .null, iv (0 : Int32), iv (3 : Int32), iv (1 : Int32)] [(.int (1 : Int32)), (.int cn), (.ref a1)])) (fun _ k => XS.iconst X811.here hx rfl (hb hby d18_83) k) ?_
        refine Rch.go (U' := T811.setTop (mkF m 85 #[rv a1, iv p1, jv x2, sv, iv p4, .val .null, iv (0 : Int32), iv (3 : Int32), iv (1 : Int32)] [(.int (cn + (1 : Int32))), (.ref a1)])) (fun _ k => XS.iadd X811.here hx rfl (hb hby d18_84) rfl k) ?_
        obtain ⟨T812, h812, X812, e812, W812, st812⟩ := putF X811 hx hZ hown (host := "") (Or.inl (wi hw 19 rfl)) Via.refl e811 f802 f801 (Or.inl (wi hw 20 rfl)) (wi hw 1 rfl) (ty := .int) (by decide) rfl rfl (g := (mkF m 85 #[rv a1, iv p1, jv x2, sv, iv p4, .val .null, iv (0 : Int32), iv (3 : Int32), iv (1 : Int32)] [(.int (cn + (1 : Int32))), (.ref a1)])) rfl rfl (hb hby d18_85)
        have F812 := f802.same W812
        have f813 := f801.wr W812
        have f814 := f803.other W812 (Or.inr (slot_ne (Or.inl (wi hw 27 rfl)) (Or.inl (wi hw 20 rfl)) (by decide) (t := (.array .long)) (t' := .int) (by decide) (by decide)))
        have f815 := f804.other W812 (Or.inr (slot_ne (Or.inl (wi hw 37 rfl)) (Or.inl (wi hw 20 rfl)) (by decide) (t := (.array .int)) (t' := .int) (by decide) (by decide)))
        have f816 := f805.other W812 (Or.inr (slot_ne (Or.inl (wi hw 39 rfl)) (Or.inl (wi hw 20 rfl)) (by decide) (t := (.array .int)) (t' := .int) (by decide) (by decide)))
        have f817 := f806.other W812 (Or.inr (slot_ne (Or.inl (wi hw 41 rfl)) (Or.inl (wi hw 20 rfl)) (by decide) (t := (.array (.array .byte))) (t' := .int) (by decide) (by decide)))
        have f818 := f807.other W812 (Or.inr (slot_ne (Or.inl (wi hw 45 rfl)) (Or.inl (wi hw 20 rfl)) (by decide) (t := (.object "java/util/BitSet")) (t' := .int) (by decide) (by decide)))
        have f819 := f808.other W812 (Ne.symm n_h)
        have f820 := V800.other W812 (Ne.symm n_a)
        have f821 := f809.other W812 (Ne.symm n_l)
        have N812 := Fr.snoc X812 N800 g_a1
        have z822 := Nat.le_trans z810 (Keep.of_wr W812).1
        refine Rch.go (U' := T812.setTop (mkF m 88 #[rv a1, iv p1, jv x2, sv, iv p4, .val .null, iv (0 : Int32), iv (3 : Int32), iv (1 : Int32)] [])) st812 ?_
        refine Rch.go (U' := T812.setTop (mkF m 89 #[rv a1, iv p1, jv x2, sv, iv p4, .val .null, iv (0 : Int32), iv (3 : Int32), iv (1 : Int32)] [(.ref a1)])) (fun _ k => XS.aloadN X812.here hx rfl (hb hby d18_88) rfl rfl k) ?_
        refine Rch.go (U' := T812.setTop (mkF m 91 #[rv a1, iv p1, jv x2, sv, iv p4, .val .null, iv (0 : Int32), iv (3 : Int32), iv (1 : Int32)] [(.int (1 : Int32)), (.ref a1)])) (fun _ k => XS.iload X812.here hx rfl (hb hby d18_89) rfl  k) ?_
        refine Rch.go (U' := T812.setTop (mkF m 92 #[rv a1, iv p1, jv x2, sv, iv p4, .val .null, iv (0 : Int32), iv (3 : Int32), iv (1 : Int32)] [(.long x2), (.int (1 : Int32)), (.ref a1)])) (fun _ k => XS.lloadN X812.here hx rfl (hb hby d18_91) rfl  k) ?_
        refine Rch.go (U' := T812.setTop (mkF m 94 #[rv a1, iv p1, jv x2, sv, iv p4, .val .null, iv (0 : Int32), iv (3 : Int32), iv (1 : Int32)] [(.int p4), (.long x2), (.int (1 : Int32)), (.ref a1)])) (fun _ k => XS.iload X812.here hx rfl (hb hby d18_92) rfl  k) ?_
        refine Rch.go (U' := T812.setTop (mkF m 96 #[rv a1, iv p1, jv x2, sv, iv p4, .val .null, iv (0 : Int32), iv (3 : Int32), iv (1 : Int32)] [.null, (.int p4), (.long x2), (.int (1 : Int32)), (.ref a1)])) (fun _ k => XS.aload X812.here hx rfl (hb hby d18_94) rfl rfl k) ?_
        refine Rch.go (U' := T812.setTop (mkF m 98 #[rv a1, iv p1, jv x2, sv, iv p4, .val .null, iv (0 : Int32), iv (3 : Int32), iv (1 : Int32)] [(.int (0 : Int32)), .null, (.int p4), (.long x2), (.int (1 : Int32)), (.ref a1)])) (fun _ k => XS.iload X812.here hx rfl (hb hby d18_96) rfl  k) ?_
        obtain ⟨cq823, kq823, q823a, q823b, q823c⟩ := isOf hZ e812 f813
        obtain ⟨_, _, ⟨T823, L823, k823, n823⟩, -, X823, ⟨Lc823, hQ823, l823, y823, z823⟩, st823⟩ := X812.virtualBack hx (y := yS) (z := yS) hown (mvT hZ (wi hw 50 rfl)) (mvT hZ (wi hw 51 rfl)) (notFace_of_selects (args := #[]) (mvT hZ (wi hw 53 rfl))) (mvT hZ (wi hw 53 rfl)) (mvT hZ (wi hw 52 rfl)) (by decide) (backOf (W := 0) (rmS1 l Z a0 hw [] a1 bh ba bl kh ka kl (cn + (1 : Int32)) gs (va.set 1 (.int p1)) vl x2 p4 h812 n0 z822 ⟨f813, F812, f814, f815, f816, f817, f818, f819, f820, f821, ⟨lg, (by rw [List.length_set, la]), ll⟩, ⟨g_a1, g_bh, g_ba, g_bl⟩, ⟨n_h, n_a, n_l⟩, n_ha, n_hl, n_al⟩) hZ (wi hw 54 rfl) (wi hw 2 rfl) (by decide) (by decide)) q823a q823c (g := (mkF m 98 #[rv a1, iv p1, jv x2, sv, iv p4, .val .null, iv (0 : Int32), iv (3 : Int32), iv (1 : Int32)] [(.int (0 : Int32)), .null, (.int p4), (.long x2), (.int (1 : Int32)), (.ref a1)])) rfl (by rw [hml]; rfl) (Steps.refl _) (argsL := [(.int (1 : Int32)), (.long x2), (.int p4), .null, (.int (0 : Int32))]) (rest := []) (lenOf pd_10 rfl) rfl (by show 2 * 0 + _ ≤ _; exact Nat.le_of_eq rfl) (hb hby d18_98) (fun _ _ => ⟨rfl, e812, (by decide : 0 + 0 ≤ _), (by decide : 0 + 0 ≤ _)⟩)
        dsimp only [Pt.U, Pt.locs, Pt.cells, Pt.slots] at X823 l823 y823 z823 st823 hQ823
        subst l823 y823 z823
        obtain ⟨rfl, N823q, K823q, Vh823, Vl823⟩ := hQ823
        have N823 := Fr.app N812 N823q
        have z824 := Nat.le_trans z822 K823q.1
        have f825 := f813.keep K823q
        have f826 := F812.keep K823q (ninS n_h (ninS n_l nin0))
        have f827 := f814.keep K823q (ninS n_h (ninS n_l nin0))
        have f828 := f815.keep K823q (ninS n_h (ninS n_l nin0))
        have f829 := f816.keep K823q (ninS n_h (ninS n_l nin0))
        have f830 := f817.keep K823q (ninS n_h (ninS n_l nin0))
        have f831 := f818.keep K823q (ninS n_h (ninS n_l nin0))
        have f832 := f820.keep K823q (ninS (Ne.symm n_ha) (ninS n_al nin0))
        refine Rch.to (U' := T823.setTop (mkF m 101 #[rv a1, iv p1, jv x2, sv, iv p4, .val .null, iv (0 : Int32), iv (3 : Int32), iv (1 : Int32)] [])) st823 ?_
        refine Rch.go (U' := T823.setTop (mkF m 103 #[rv a1, iv p1, jv x2, sv, iv p4, .val .null, iv (0 : Int32), iv (3 : Int32), iv (1 : Int32)] [(.int (1 : Int32))])) (fun _ k => XS.iload X823.here hx rfl (hb hby d18_101) rfl  k) ?_
        refine Rch.fin X823 hlk (v := some (.int (1 : Int32))) (fun h => by rw [hret] at h; cases h) rfl (by decide) (by decide) (fun fs hr => retI X823 hx hret (hb hby d18_103) hr) ?_
        have hfr : own_free gs 4 (own_s p1) = 1 := by rw [hsj]; simp only [own_free, br724, br761, br798, ↓reduceIte]
        refine ⟨_, _, by rw [hfr]; rfl, N823, z824, ⟨f825, f826, f827, f828, f829, f830, f831, (by unfold own_add; rw [hfr]; exact Vh823), f832, Vl823, ⟨by unfold own_add; rw [List.length_set, lg], by rw [List.length_set, la], by rw [List.length_set, ll]⟩, ⟨g_a1, g_bh, g_ba, g_bl⟩, ⟨n_h, n_a, n_l⟩, n_ha, n_hl, n_al⟩⟩
      ·
        refine Rch.go (U' := T796.setTop (mkF m 58 #[rv a1, iv p1, jv x2, sv, iv p4, .val .null, iv (0 : Int32), iv (3 : Int32), iv (1 : Int32)] [])) (fun _ k => XS.ifNo X796.here hx rfl (hb hby d18_55) rfl (XT.ll_eq_f br798) k) ?_
        refine Rch.go (U' := T796.setTop (mkF m 60 #[rv a1, iv p1, jv x2, sv, iv p4, .val .null, iv (0 : Int32), iv (3 : Int32), iv (1 : Int32)] [(.int (1 : Int32))])) (fun _ k => XS.iload X796.here hx rfl (hb hby d18_58) rfl  k) ?_
        refine Rch.go (U' := T796.setTop (mkF m 61 #[rv a1, iv p1, jv x2, sv, iv p4, .val .null, iv (0 : Int32), iv (3 : Int32), iv (1 : Int32)] [(.int (1 : Int32)), (.int (1 : Int32))])) (fun _ k => XS.iconst X796.here hx rfl (hb hby d18_60) k) ?_
        refine Rch.go (U' := T796.setTop (mkF m 62 #[rv a1, iv p1, jv x2, sv, iv p4, .val .null, iv (0 : Int32), iv (3 : Int32), iv (1 : Int32)] [(.int ((1 : Int32) + (1 : Int32)))])) (fun _ k => XS.iadd X796.here hx rfl (hb hby d18_61) rfl k) ?_
        rw [(by decide : ((1 : Int32) + (1 : Int32)) = (2 : Int32))]
        refine Rch.go (U' := T796.setTop (mkF m 64 #[rv a1, iv p1, jv x2, sv, iv p4, .val .null, iv (0 : Int32), iv (3 : Int32), iv (1 : Int32)] [(.int (3 : Int32)), (.int (2 : Int32))])) (fun _ k => XS.iload X796.here hx rfl (hb hby d18_62) rfl  k) ?_
        refine Rch.go (U' := T796.setTop (mkF m 65 #[rv a1, iv p1, jv x2, sv, iv p4, .val .null, iv (0 : Int32), iv (3 : Int32), iv (1 : Int32)] [(.int ((2 : Int32) &&& (3 : Int32)))])) (fun _ k => XS.iand X796.here hx rfl (hb hby d18_64) rfl k) ?_
        rw [(by decide : ((2 : Int32) &&& (3 : Int32)) = (2 : Int32))]
        refine Rch.go (U' := T796.setTop (mkF m 67 #[rv a1, iv p1, jv x2, sv, iv p4, .val .null, iv (0 : Int32), iv (3 : Int32), iv (2 : Int32)] [])) (fun _ k => XS.istore X796.here hx rfl (hb hby d18_65) rfl (l' := #[rv a1, iv p1, jv x2, sv, iv p4, .val .null, iv (0 : Int32), iv (3 : Int32), iv (2 : Int32)]) rfl k) ?_
        refine Rch.go (U' := T796.setTop (mkF m 46 #[rv a1, iv p1, jv x2, sv, iv p4, .val .null, iv (0 : Int32), iv (3 : Int32), iv (2 : Int32)] [])) (fun _ k => XS.goto X796.here hx rfl (pc0 := 67) (pc' := 46) rfl (hb hby d18_67) (by decide) (by decide) k) ?_
        refine Rch.go (U' := T796.setTop (mkF m 47 #[rv a1, iv p1, jv x2, sv, iv p4, .val .null, iv (0 : Int32), iv (3 : Int32), iv (2 : Int32)] [(.ref a1)])) (fun _ k => XS.aloadN X796.here hx rfl (hb hby d18_46) rfl rfl k) ?_
        obtain ⟨T833, X833, e833, st833⟩ := getF X796 hx hZ hown (host := "") (Or.inl (wi hw 26 rfl)) Via.refl e796 F_a1_handles (g := (mkF m 47 #[rv a1, iv p1, jv x2, sv, iv p4, .val .null, iv (0 : Int32), iv (3 : Int32), iv (2 : Int32)] [(.ref a1)])) rfl rfl (hb hby d18_47)
        refine Rch.go (U' := T833.setTop (mkF m 50 #[rv a1, iv p1, jv x2, sv, iv p4, .val .null, iv (0 : Int32), iv (3 : Int32), iv (2 : Int32)] [(.ref bh)])) st833 ?_
        refine Rch.go (U' := T833.setTop (mkF m 52 #[rv a1, iv p1, jv x2, sv, iv p4, .val .null, iv (0 : Int32), iv (3 : Int32), iv (2 : Int32)] [(.int (2 : Int32)), (.ref bh)])) (fun _ k => XS.iload X833.here hx rfl (hb hby d18_50) rfl  k) ?_
        obtain ⟨cl834, Ar834, qk834, Sz834, Mn834, Hs834, Gf834⟩ := id V_bh
        have ib834 : ¬ ((2 : Int32) < 0 ∨ cl834.slots.size ≤ ((2 : Int32)).toNatClampNeg) := inb_of Sz834 ⟨by decide, by decide⟩
        have ea834 : cl834.slots[((2 : Int32)).toNatClampNeg]? = some (.long (gs.getD 2 0)) := Has.at Hs834 ib834 (own_getJ gs 2)
        refine Rch.go (U' := T833.setTop (mkF m 53 #[rv a1, iv p1, jv x2, sv, iv p4, .val .null, iv (0 : Int32), iv (3 : Int32), iv (2 : Int32)] [(.long (gs.getD 2 0))])) (fun _ k => X833.laload hx (j := (2 : Int32)) (v := (.long (gs.getD 2 0))) (by rw [e833]; exact Ar834.1) (State.isArrayOf_alike hZ.alike Ar834.2.1) Ar834.2.2 ib834 ea834 (g := (mkF m 52 #[rv a1, iv p1, jv x2, sv, iv p4, .val .null, iv (0 : Int32), iv (3 : Int32), iv (2 : Int32)] [(.int (2 : Int32)), (.ref bh)])) rfl rfl (hb hby d18_52) _ k) ?_
        refine Rch.go (U' := T833.setTop (mkF m 54 #[rv a1, iv p1, jv x2, sv, iv p4, .val .null, iv (0 : Int32), iv (3 : Int32), iv (2 : Int32)] [(.long (0 : Int64)), (.long (gs.getD 2 0))])) (fun _ k => XS.lconst X833.here hx rfl (hb hby d18_53) k) ?_
        refine Rch.go (U' := T833.setTop (mkF m 55 #[rv a1, iv p1, jv x2, sv, iv p4, .val .null, iv (0 : Int32), iv (3 : Int32), iv (2 : Int32)] [(.int (XT.cmpL (gs.getD 2 0) (0 : Int64)))])) (fun _ k => XT.lcmp X833.here hx rfl (hb hby d18_54) rfl k) ?_
        have br835 : (gs.getD 2 0) = (0 : Int64) := (by rcases hz with q | q | q | q <;> first | exact q | exact absurd q br724 | exact absurd q br761 | exact absurd q br798)
        refine Rch.go (U' := T833.setTop (mkF m 70 #[rv a1, iv p1, jv x2, sv, iv p4, .val .null, iv (0 : Int32), iv (3 : Int32), iv (2 : Int32)] [])) (fun _ k => XS.ifYes X833.here hx rfl (pc0 := 55) (pc' := 70) rfl (hb hby d18_55) rfl (XT.ll_eq_t br835) (by decide) (by decide) k) ?_
        refine Rch.go (U' := T833.setTop (mkF m 71 #[rv a1, iv p1, jv x2, sv, iv p4, .val .null, iv (0 : Int32), iv (3 : Int32), iv (2 : Int32)] [(.ref a1)])) (fun _ k => XS.aloadN X833.here hx rfl (hb hby d18_70) rfl rfl k) ?_
        obtain ⟨T836, X836, e836, st836⟩ := getF X833 hx hZ hown (host := "") (Or.inl (wi hw 36 rfl)) Via.refl e833 F_a1_hashes (g := (mkF m 71 #[rv a1, iv p1, jv x2, sv, iv p4, .val .null, iv (0 : Int32), iv (3 : Int32), iv (2 : Int32)] [(.ref a1)])) rfl rfl (hb hby d18_71)
        refine Rch.go (U' := T836.setTop (mkF m 74 #[rv a1, iv p1, jv x2, sv, iv p4, .val .null, iv (0 : Int32), iv (3 : Int32), iv (2 : Int32)] [(.ref ba)])) st836 ?_
        refine Rch.go (U' := T836.setTop (mkF m 76 #[rv a1, iv p1, jv x2, sv, iv p4, .val .null, iv (0 : Int32), iv (3 : Int32), iv (2 : Int32)] [(.int (2 : Int32)), (.ref ba)])) (fun _ k => XS.iload X836.here hx rfl (hb hby d18_74) rfl  k) ?_
        refine Rch.go (U' := T836.setTop (mkF m 77 #[rv a1, iv p1, jv x2, sv, iv p4, .val .null, iv (0 : Int32), iv (3 : Int32), iv (2 : Int32)] [(.int p1), (.int (2 : Int32)), (.ref ba)])) (fun _ k => XS.iloadN X836.here hx rfl (hb hby d18_76) rfl  k) ?_
        obtain ⟨cl837, Ar837, qk837, Sz837, Mn837, Hs837, Gf837⟩ := id V_ba
        have ib837 : ¬ ((2 : Int32) < 0 ∨ cl837.slots.size ≤ ((2 : Int32)).toNatClampNeg) := inb_of Sz837 ⟨by decide, by decide⟩
        obtain ⟨T837, h837, X837, e837, W837, st837⟩ := stI X836 hx hZ e836 Ar837 (j := (2 : Int32)) ib837 (g := (mkF m 77 #[rv a1, iv p1, jv x2, sv, iv p4, .val .null, iv (0 : Int32), iv (3 : Int32), iv (2 : Int32)] [(.int p1), (.int (2 : Int32)), (.ref ba)])) rfl rfl (hb hby d18_77)
        have V837 : Arv Z h837 ba ka .int (4 : Int32) (va.set 2 (.int p1)) (.int (0 : Int32)) := Arv.set Ar837 qk837 Sz837 Mn837 Hs837 Gf837 rfl W837 2 rfl (by rw [la]; decide)
        have f838 := E_a1.wr W837
        have f839 := F_a1_count.other W837 (Or.inl n_a)
        have f840 := F_a1_handles.other W837 (Or.inl n_a)
        have f841 := F_a1_hashes.other W837 (Or.inl n_a)
        have f842 := F_a1_lengths.other W837 (Or.inl n_a)
        have f843 := F_a1_outside.other W837 (Or.inl n_a)
        have f844 := F_a1_expiries.other W837 (Or.inl n_a)
        have f845 := V_bh.other W837 n_ha
        have f846 := V_bl.other W837 (Ne.symm n_al)
        have N837 := Fr.snoc X837 N0 g_ba
        have z847 := Nat.le_trans Z0 (Keep.of_wr W837).1
        refine Rch.go (U' := T837.setTop (mkF m 78 #[rv a1, iv p1, jv x2, sv, iv p4, .val .null, iv (0 : Int32), iv (3 : Int32), iv (2 : Int32)] [])) st837 ?_
        refine Rch.go (U' := T837.setTop (mkF m 79 #[rv a1, iv p1, jv x2, sv, iv p4, .val .null, iv (0 : Int32), iv (3 : Int32), iv (2 : Int32)] [(.ref a1)])) (fun _ k => XS.aloadN X837.here hx rfl (hb hby d18_78) rfl rfl k) ?_
        refine Rch.go (U' := T837.setTop (mkF m 80 #[rv a1, iv p1, jv x2, sv, iv p4, .val .null, iv (0 : Int32), iv (3 : Int32), iv (2 : Int32)] [(.ref a1), (.ref a1)])) (fun _ k => XS.dup X837.here hx rfl (hb hby d18_79) rfl rfl k) ?_
        obtain ⟨T848, X848, e848, st848⟩ := getF X837 hx hZ hown (host := "") (Or.inl (wi hw 19 rfl)) Via.refl e837 f839 (g := (mkF m 80 #[rv a1, iv p1, jv x2, sv, iv p4, .val .null, iv (0 : Int32), iv (3 : Int32), iv (2 : Int32)] [(.ref a1), (.ref a1)])) rfl rfl (hb hby d18_80)
        refine Rch.go (U' := T848.setTop (mkF m 83 #[rv a1, iv p1, jv x2, sv, iv p4, .val .null, iv (0 : Int32), iv (3 : Int32), iv (2 : Int32)] [(.int cn), (.ref a1)])) st848 ?_
        refine Rch.go (U' := T848.setTop (mkF m 84 #[rv a1, iv p1, jv x2, sv, iv p4, .val .null, iv (0 : Int32), iv (3 : Int32), iv (2 : Int32)] [(.int (1 : Int32)), (.int cn), (.ref a1)])) (fun _ k => XS.iconst X848.here hx rfl (hb hby d18_83) k) ?_
        refine Rch.go (U' := T848.setTop (mkF m 85 #[rv a1, iv p1, jv x2, sv, iv p4, .val .null, iv (0 : Int32), iv (3 : Int32), iv (2 : Int32)] [(.int (cn + (1 : Int32))), (.ref a1)])) (fun _ k => XS.iadd X848.here hx rfl (hb hby d18_84) rfl k) ?_
        obtain ⟨T849, h849, X849, e849, W849, st849⟩ := putF X848 hx hZ hown (host := "") (Or.inl (wi hw 19 rfl)) Via.refl e848 f839 f838 (Or.inl (wi hw 20 rfl)) (wi hw 1 rfl) (ty := .int) (by decide) rfl rfl (g := (mkF m 85 #[rv a1, iv p1, jv x2, sv, iv p4, .val .null, iv (0 : Int32), iv (3 : Int32), iv (2 : Int32)] [(.int (cn + (1 : Int32))), (.ref a1)])) rfl rfl (hb hby d18_85)
        have F849 := f839.same W849
        have f850 := f838.wr W849
        have f851 := f840.other W849 (Or.inr (slot_ne (Or.inl (wi hw 27 rfl)) (Or.inl (wi hw 20 rfl)) (by decide) (t := (.array .long)) (t' := .int) (by decide) (by decide)))
        have f852 := f841.other W849 (Or.inr (slot_ne (Or.inl (wi hw 37 rfl)) (Or.inl (wi hw 20 rfl)) (by decide) (t := (.array .int)) (t' := .int) (by decide) (by decide)))
        have f853 := f842.other W849 (Or.inr (slot_ne (Or.inl (wi hw 39 rfl)) (Or.inl (wi hw 20 rfl)) (by decide) (t := (.array .int)) (t' := .int) (by decide) (by decide)))
        have f854 := f843.other W849 (Or.inr (slot_ne (Or.inl (wi hw 41 rfl)) (Or.inl (wi hw 20 rfl)) (by decide) (t := (.array (.array .byte))) (t' := .int) (by decide) (by decide)))
        have f855 := f844.other W849 (Or.inr (slot_ne (Or.inl (wi hw 45 rfl)) (Or.inl (wi hw 20 rfl)) (by decide) (t := (.object "java/util/BitSet")) (t' := .int) (by decide) (by decide)))
        have f856 := f845.other W849 (Ne.symm n_h)
        have f857 := V837.other W849 (Ne.symm n_a)
        have f858 := f846.other W849 (Ne.symm n_l)
        have N849 := Fr.snoc X849 N837 g_a1
        have z859 := Nat.le_trans z847 (Keep.of_wr W849).1
        refine Rch.go (U' := T849.setTop (mkF m 88 #[rv a1, iv p1, jv x2, sv, iv p4, .val .null, iv (0 : Int32), iv (3 : Int32), iv (2 : Int32)] [])) st849 ?_
        refine Rch.go (U' := T849.setTop (mkF m 89 #[rv a1, iv p1, jv x2, sv, iv p4, .val .null, iv (0 : Int32), iv (3 : Int32), iv (2 : Int32)] [(.ref a1)])) (fun _ k => XS.aloadN X849.here hx rfl (hb hby d18_88) rfl rfl k) ?_
        refine Rch.go (U' := T849.setTop (mkF m 91 #[rv a1, iv p1, jv x2, sv, iv p4, .val .null, iv (0 : Int32), iv (3 : Int32), iv (2 : Int32)] [(.int (2 : Int32)), (.ref a1)])) (fun _ k => XS.iload X849.here hx rfl (hb hby d18_89) rfl  k) ?_
        refine Rch.go (U' := T849.setTop (mkF m 92 #[rv a1, iv p1, jv x2, sv, iv p4, .val .null, iv (0 : Int32), iv (3 : Int32), iv (2 : Int32)] [(.long x2), (.int (2 : Int32)), (.ref a1)])) (fun _ k => XS.lloadN X849.here hx rfl (hb hby d18_91) rfl  k) ?_
        refine Rch.go (U' := T849.setTop (mkF m 94 #[rv a1, iv p1, jv x2, sv, iv p4, .val .null, iv (0 : Int32), iv (3 : Int32), iv (2 : Int32)] [(.int p4), (.long x2), (.int (2 : Int32)), (.ref a1)])) (fun _ k => XS.iload X849.here hx rfl (hb hby d18_92) rfl  k) ?_
        refine Rch.go (U' := T849.setTop (mkF m 96 #[rv a1, iv p1, jv x2, sv, iv p4, .val .null, iv (0 : Int32), iv (3 : Int32), iv (2 : Int32)] [.null, (.int p4), (.long x2), (.int (2 : Int32)), (.ref a1)])) (fun _ k => XS.aload X849.here hx rfl (hb hby d18_94) rfl rfl k) ?_
        refine Rch.go (U' := T849.setTop (mkF m 98 #[rv a1, iv p1, jv x2, sv, iv p4, .val .null, iv (0 : Int32), iv (3 : Int32), iv (2 : Int32)] [(.int (0 : Int32)), .null, (.int p4), (.long x2), (.int (2 : Int32)), (.ref a1)])) (fun _ k => XS.iload X849.here hx rfl (hb hby d18_96) rfl  k) ?_
        obtain ⟨cq860, kq860, q860a, q860b, q860c⟩ := isOf hZ e849 f850
        obtain ⟨_, _, ⟨T860, L860, k860, n860⟩, -, X860, ⟨Lc860, hQ860, l860, y860, z860⟩, st860⟩ := X849.virtualBack hx (y := yS) (z := yS) hown (mvT hZ (wi hw 50 rfl)) (mvT hZ (wi hw 51 rfl)) (notFace_of_selects (args := #[]) (mvT hZ (wi hw 53 rfl))) (mvT hZ (wi hw 53 rfl)) (mvT hZ (wi hw 52 rfl)) (by decide) (backOf (W := 0) (rmS2 l Z a0 hw [] a1 bh ba bl kh ka kl (cn + (1 : Int32)) gs (va.set 2 (.int p1)) vl x2 p4 h849 n0 z859 ⟨f850, F849, f851, f852, f853, f854, f855, f856, f857, f858, ⟨lg, (by rw [List.length_set, la]), ll⟩, ⟨g_a1, g_bh, g_ba, g_bl⟩, ⟨n_h, n_a, n_l⟩, n_ha, n_hl, n_al⟩) hZ (wi hw 54 rfl) (wi hw 2 rfl) (by decide) (by decide)) q860a q860c (g := (mkF m 98 #[rv a1, iv p1, jv x2, sv, iv p4, .val .null, iv (0 : Int32), iv (3 : Int32), iv (2 : Int32)] [(.int (0 : Int32)), .null, (.int p4), (.long x2), (.int (2 : Int32)), (.ref a1)])) rfl (by rw [hml]; rfl) (Steps.refl _) (argsL := [(.int (2 : Int32)), (.long x2), (.int p4), .null, (.int (0 : Int32))]) (rest := []) (lenOf pd_10 rfl) rfl (by show 2 * 0 + _ ≤ _; exact Nat.le_of_eq rfl) (hb hby d18_98) (fun _ _ => ⟨rfl, e849, (by decide : 0 + 0 ≤ _), (by decide : 0 + 0 ≤ _)⟩)
        dsimp only [Pt.U, Pt.locs, Pt.cells, Pt.slots] at X860 l860 y860 z860 st860 hQ860
        subst l860 y860 z860
        obtain ⟨rfl, N860q, K860q, Vh860, Vl860⟩ := hQ860
        have N860 := Fr.app N849 N860q
        have z861 := Nat.le_trans z859 K860q.1
        have f862 := f850.keep K860q
        have f863 := F849.keep K860q (ninS n_h (ninS n_l nin0))
        have f864 := f851.keep K860q (ninS n_h (ninS n_l nin0))
        have f865 := f852.keep K860q (ninS n_h (ninS n_l nin0))
        have f866 := f853.keep K860q (ninS n_h (ninS n_l nin0))
        have f867 := f854.keep K860q (ninS n_h (ninS n_l nin0))
        have f868 := f855.keep K860q (ninS n_h (ninS n_l nin0))
        have f869 := f857.keep K860q (ninS (Ne.symm n_ha) (ninS n_al nin0))
        refine Rch.to (U' := T860.setTop (mkF m 101 #[rv a1, iv p1, jv x2, sv, iv p4, .val .null, iv (0 : Int32), iv (3 : Int32), iv (2 : Int32)] [])) st860 ?_
        refine Rch.go (U' := T860.setTop (mkF m 103 #[rv a1, iv p1, jv x2, sv, iv p4, .val .null, iv (0 : Int32), iv (3 : Int32), iv (2 : Int32)] [(.int (2 : Int32))])) (fun _ k => XS.iload X860.here hx rfl (hb hby d18_101) rfl  k) ?_
        refine Rch.fin X860 hlk (v := some (.int (2 : Int32))) (fun h => by rw [hret] at h; cases h) rfl (by decide) (by decide) (fun fs hr => retI X860 hx hret (hb hby d18_103) hr) ?_
        have hfr : own_free gs 4 (own_s p1) = 2 := by rw [hsj]; simp only [own_free, br724, br761, br798, br835, ↓reduceIte]
        refine ⟨_, _, by rw [hfr]; rfl, N860, z861, ⟨f862, f863, f864, f865, f866, f867, f868, (by unfold own_add; rw [hfr]; exact Vh860), f869, Vl860, ⟨by unfold own_add; rw [List.length_set, lg], by rw [List.length_set, la], by rw [List.length_set, ll]⟩, ⟨g_a1, g_bh, g_ba, g_bl⟩, ⟨n_h, n_a, n_l⟩, n_ha, n_hl, n_al⟩⟩
set_option maxRecDepth 65536 in
set_option maxHeartbeats 40000000 in
theorem tailE0 {p : Program} {l : Launch} {e : Env} {s : State} {m : MethodId} {args : Array Value} {below : List Frame} {meth : Method} {c : Code} {T0 : State} {locs : List Loc} {Z : State} {a0 : Array Value} {h0 : Heap} {n0 : Nat}  (a1 : Addr) (bh : Addr) (ba : Addr) (bl : Addr) (kh : ClassId) (ka : ClassId) (kl : ClassId) (p1 : Int32) (x2 : Int64) (p4 : Int32)
    (X0 : Stand p l e ({ frames := 2, cells := 3, slots := 12, locals := 64 } : Room) s m args below meth c T0 locs 3 12) (hx : p.tables.exec = Jvm.exec) (hZ : Z.Warmed39 s.vm) (hw : ∀ d ∈ tables_1, d.before a0 Z = true) (hby : c.code = prog_36_method_17_code) (hml : c.maxLocals = 9) (hown : s.vm.findClass cST = some m.cls) (hret : meth.sig.returnType = some .int) (hlk : meth.locks = false) (e0 : T0.heap = h0) (N0 : Fr n0 locs) (Z0 : n0 ≤ h0.size) (B : Tb Z h0 n0 a1 bh ba bl kh ka kl (0 : Int32) own_g0 [(.int (0 : Int32)), (.int (0 : Int32)), (.int (0 : Int32)), (.int (0 : Int32))] [(.int (0 : Int32)), (.int (0 : Int32)), (.int (0 : Int32)), (.int (0 : Int32))]) (hsj : own_s p1 = 0) :
    Rch p e below (Fin s below (fun v h L => ∃ (va' vl' : List Value), v = some (.int (Int32.ofNat (own_free own_g0 4 (own_s p1)))) ∧ Fr n0 L ∧ n0 ≤ h.size ∧ Tb Z h n0 a1 bh ba bl kh ka kl ((0 : Int32) + (1 : Int32)) (own_add own_g0 (own_s p1) x2) va' vl') 3 12) (T0.setTop (mkF m 46 #[rv a1, iv p1, jv x2, sv, iv p4, .val .null, iv (0 : Int32), iv (3 : Int32), iv (0 : Int32)] [])) := by
  obtain ⟨E_a1, F_a1_count, F_a1_handles, F_a1_hashes, F_a1_lengths, F_a1_outside, F_a1_expiries, V_bh, V_ba, V_bl, ⟨lg, la, ll⟩, ⟨g_a1, g_bh, g_ba, g_bl⟩, ⟨n_h, n_a, n_l⟩, n_ha, n_hl, n_al⟩ := B
  refine Rch.go (U' := T0.setTop (mkF m 47 #[rv a1, iv p1, jv x2, sv, iv p4, .val .null, iv (0 : Int32), iv (3 : Int32), iv (0 : Int32)] [(.ref a1)])) (fun _ k => XS.aloadN X0.here hx rfl (hb hby d18_46) rfl rfl k) ?_
  obtain ⟨T870, X870, e870, st870⟩ := getF X0 hx hZ hown (host := "") (Or.inl (wi hw 26 rfl)) Via.refl e0 F_a1_handles (g := (mkF m 47 #[rv a1, iv p1, jv x2, sv, iv p4, .val .null, iv (0 : Int32), iv (3 : Int32), iv (0 : Int32)] [(.ref a1)])) rfl rfl (hb hby d18_47)
  refine Rch.go (U' := T870.setTop (mkF m 50 #[rv a1, iv p1, jv x2, sv, iv p4, .val .null, iv (0 : Int32), iv (3 : Int32), iv (0 : Int32)] [(.ref bh)])) st870 ?_
  refine Rch.go (U' := T870.setTop (mkF m 52 #[rv a1, iv p1, jv x2, sv, iv p4, .val .null, iv (0 : Int32), iv (3 : Int32), iv (0 : Int32)] [(.int (0 : Int32)), (.ref bh)])) (fun _ k => XS.iload X870.here hx rfl (hb hby d18_50) rfl  k) ?_
  obtain ⟨cl871, Ar871, qk871, Sz871, Mn871, Hs871, Gf871⟩ := id V_bh
  have ib871 : ¬ ((0 : Int32) < 0 ∨ cl871.slots.size ≤ ((0 : Int32)).toNatClampNeg) := inb_of Sz871 ⟨by decide, by decide⟩
  have ea871 : cl871.slots[((0 : Int32)).toNatClampNeg]? = some (.long (0 : Int64)) := Has.at Hs871 ib871 rfl
  refine Rch.go (U' := T870.setTop (mkF m 53 #[rv a1, iv p1, jv x2, sv, iv p4, .val .null, iv (0 : Int32), iv (3 : Int32), iv (0 : Int32)] [(.long (0 : Int64))])) (fun _ k => X870.laload hx (j := (0 : Int32)) (v := (.long (0 : Int64))) (by rw [e870]; exact Ar871.1) (State.isArrayOf_alike hZ.alike Ar871.2.1) Ar871.2.2 ib871 ea871 (g := (mkF m 52 #[rv a1, iv p1, jv x2, sv, iv p4, .val .null, iv (0 : Int32), iv (3 : Int32), iv (0 : Int32)] [(.int (0 : Int32)), (.ref bh)])) rfl rfl (hb hby d18_52) _ k) ?_
  refine Rch.go (U' := T870.setTop (mkF m 54 #[rv a1, iv p1, jv x2, sv, iv p4, .val .null, iv (0 : Int32), iv (3 : Int32), iv (0 : Int32)] [(.long (0 : Int64)), (.long (0 : Int64))])) (fun _ k => XS.lconst X870.here hx rfl (hb hby d18_53) k) ?_
  refine Rch.go (U' := T870.setTop (mkF m 55 #[rv a1, iv p1, jv x2, sv, iv p4, .val .null, iv (0 : Int32), iv (3 : Int32), iv (0 : Int32)] [(.int (XT.cmpL (0 : Int64) (0 : Int64)))])) (fun _ k => XT.lcmp X870.here hx rfl (hb hby d18_54) rfl k) ?_
  have br872 : (0 : Int64) = (0 : Int64) := (by decide)
  refine Rch.go (U' := T870.setTop (mkF m 70 #[rv a1, iv p1, jv x2, sv, iv p4, .val .null, iv (0 : Int32), iv (3 : Int32), iv (0 : Int32)] [])) (fun _ k => XS.ifYes X870.here hx rfl (pc0 := 55) (pc' := 70) rfl (hb hby d18_55) rfl (XT.ll_eq_t br872) (by decide) (by decide) k) ?_
  refine Rch.go (U' := T870.setTop (mkF m 71 #[rv a1, iv p1, jv x2, sv, iv p4, .val .null, iv (0 : Int32), iv (3 : Int32), iv (0 : Int32)] [(.ref a1)])) (fun _ k => XS.aloadN X870.here hx rfl (hb hby d18_70) rfl rfl k) ?_
  obtain ⟨T873, X873, e873, st873⟩ := getF X870 hx hZ hown (host := "") (Or.inl (wi hw 36 rfl)) Via.refl e870 F_a1_hashes (g := (mkF m 71 #[rv a1, iv p1, jv x2, sv, iv p4, .val .null, iv (0 : Int32), iv (3 : Int32), iv (0 : Int32)] [(.ref a1)])) rfl rfl (hb hby d18_71)
  refine Rch.go (U' := T873.setTop (mkF m 74 #[rv a1, iv p1, jv x2, sv, iv p4, .val .null, iv (0 : Int32), iv (3 : Int32), iv (0 : Int32)] [(.ref ba)])) st873 ?_
  refine Rch.go (U' := T873.setTop (mkF m 76 #[rv a1, iv p1, jv x2, sv, iv p4, .val .null, iv (0 : Int32), iv (3 : Int32), iv (0 : Int32)] [(.int (0 : Int32)), (.ref ba)])) (fun _ k => XS.iload X873.here hx rfl (hb hby d18_74) rfl  k) ?_
  refine Rch.go (U' := T873.setTop (mkF m 77 #[rv a1, iv p1, jv x2, sv, iv p4, .val .null, iv (0 : Int32), iv (3 : Int32), iv (0 : Int32)] [(.int p1), (.int (0 : Int32)), (.ref ba)])) (fun _ k => XS.iloadN X873.here hx rfl (hb hby d18_76) rfl  k) ?_
  obtain ⟨cl874, Ar874, qk874, Sz874, Mn874, Hs874, Gf874⟩ := id V_ba
  have ib874 : ¬ ((0 : Int32) < 0 ∨ cl874.slots.size ≤ ((0 : Int32)).toNatClampNeg) := inb_of Sz874 ⟨by decide, by decide⟩
  obtain ⟨T874, h874, X874, e874, W874, st874⟩ := stI X873 hx hZ e873 Ar874 (j := (0 : Int32)) ib874 (g := (mkF m 77 #[rv a1, iv p1, jv x2, sv, iv p4, .val .null, iv (0 : Int32), iv (3 : Int32), iv (0 : Int32)] [(.int p1), (.int (0 : Int32)), (.ref ba)])) rfl rfl (hb hby d18_77)
  have V874 : Arv Z h874 ba ka .int (4 : Int32) ([(.int (0 : Int32)), (.int (0 : Int32)), (.int (0 : Int32)), (.int (0 : Int32))].set 0 (.int p1)) (.int (0 : Int32)) := Arv.set Ar874 qk874 Sz874 Mn874 Hs874 Gf874 rfl W874 0 rfl (by rw [la]; decide)
  have f875 := E_a1.wr W874
  have f876 := F_a1_count.other W874 (Or.inl n_a)
  have f877 := F_a1_handles.other W874 (Or.inl n_a)
  have f878 := F_a1_hashes.other W874 (Or.inl n_a)
  have f879 := F_a1_lengths.other W874 (Or.inl n_a)
  have f880 := F_a1_outside.other W874 (Or.inl n_a)
  have f881 := F_a1_expiries.other W874 (Or.inl n_a)
  have f882 := V_bh.other W874 n_ha
  have f883 := V_bl.other W874 (Ne.symm n_al)
  have N874 := Fr.snoc X874 N0 g_ba
  have z884 := Nat.le_trans Z0 (Keep.of_wr W874).1
  refine Rch.go (U' := T874.setTop (mkF m 78 #[rv a1, iv p1, jv x2, sv, iv p4, .val .null, iv (0 : Int32), iv (3 : Int32), iv (0 : Int32)] [])) st874 ?_
  refine Rch.go (U' := T874.setTop (mkF m 79 #[rv a1, iv p1, jv x2, sv, iv p4, .val .null, iv (0 : Int32), iv (3 : Int32), iv (0 : Int32)] [(.ref a1)])) (fun _ k => XS.aloadN X874.here hx rfl (hb hby d18_78) rfl rfl k) ?_
  refine Rch.go (U' := T874.setTop (mkF m 80 #[rv a1, iv p1, jv x2, sv, iv p4, .val .null, iv (0 : Int32), iv (3 : Int32), iv (0 : Int32)] [(.ref a1), (.ref a1)])) (fun _ k => XS.dup X874.here hx rfl (hb hby d18_79) rfl rfl k) ?_
  obtain ⟨T885, X885, e885, st885⟩ := getF X874 hx hZ hown (host := "") (Or.inl (wi hw 19 rfl)) Via.refl e874 f876 (g := (mkF m 80 #[rv a1, iv p1, jv x2, sv, iv p4, .val .null, iv (0 : Int32), iv (3 : Int32), iv (0 : Int32)] [(.ref a1), (.ref a1)])) rfl rfl (hb hby d18_80)
  refine Rch.go (U' := T885.setTop (mkF m 83 #[rv a1, iv p1, jv x2, sv, iv p4, .val .null, iv (0 : Int32), iv (3 : Int32), iv (0 : Int32)] [(.int (0 : Int32)), (.ref a1)])) st885 ?_
  refine Rch.go (U' := T885.setTop (mkF m 84 #[rv a1, iv p1, jv x2, sv, iv p4, .val .null, iv (0 : Int32), iv (3 : Int32), iv (0 : Int32)] [(.int (1 : Int32)), (.int (0 : Int32)), (.ref a1)])) (fun _ k => XS.iconst X885.here hx rfl (hb hby d18_83) k) ?_
  refine Rch.go (U' := T885.setTop (mkF m 85 #[rv a1, iv p1, jv x2, sv, iv p4, .val .null, iv (0 : Int32), iv (3 : Int32), iv (0 : Int32)] [(.int ((0 : Int32) + (1 : Int32))), (.ref a1)])) (fun _ k => XS.iadd X885.here hx rfl (hb hby d18_84) rfl k) ?_
  rw [(by decide : ((0 : Int32) + (1 : Int32)) = (1 : Int32))]
  obtain ⟨T886, h886, X886, e886, W886, st886⟩ := putF X885 hx hZ hown (host := "") (Or.inl (wi hw 19 rfl)) Via.refl e885 f876 f875 (Or.inl (wi hw 20 rfl)) (wi hw 1 rfl) (ty := .int) (by decide) rfl rfl (g := (mkF m 85 #[rv a1, iv p1, jv x2, sv, iv p4, .val .null, iv (0 : Int32), iv (3 : Int32), iv (0 : Int32)] [(.int (1 : Int32)), (.ref a1)])) rfl rfl (hb hby d18_85)
  have F886 := f876.same W886
  have f887 := f875.wr W886
  have f888 := f877.other W886 (Or.inr (slot_ne (Or.inl (wi hw 27 rfl)) (Or.inl (wi hw 20 rfl)) (by decide) (t := (.array .long)) (t' := .int) (by decide) (by decide)))
  have f889 := f878.other W886 (Or.inr (slot_ne (Or.inl (wi hw 37 rfl)) (Or.inl (wi hw 20 rfl)) (by decide) (t := (.array .int)) (t' := .int) (by decide) (by decide)))
  have f890 := f879.other W886 (Or.inr (slot_ne (Or.inl (wi hw 39 rfl)) (Or.inl (wi hw 20 rfl)) (by decide) (t := (.array .int)) (t' := .int) (by decide) (by decide)))
  have f891 := f880.other W886 (Or.inr (slot_ne (Or.inl (wi hw 41 rfl)) (Or.inl (wi hw 20 rfl)) (by decide) (t := (.array (.array .byte))) (t' := .int) (by decide) (by decide)))
  have f892 := f881.other W886 (Or.inr (slot_ne (Or.inl (wi hw 45 rfl)) (Or.inl (wi hw 20 rfl)) (by decide) (t := (.object "java/util/BitSet")) (t' := .int) (by decide) (by decide)))
  have f893 := f882.other W886 (Ne.symm n_h)
  have f894 := V874.other W886 (Ne.symm n_a)
  have f895 := f883.other W886 (Ne.symm n_l)
  have N886 := Fr.snoc X886 N874 g_a1
  have z896 := Nat.le_trans z884 (Keep.of_wr W886).1
  refine Rch.go (U' := T886.setTop (mkF m 88 #[rv a1, iv p1, jv x2, sv, iv p4, .val .null, iv (0 : Int32), iv (3 : Int32), iv (0 : Int32)] [])) st886 ?_
  refine Rch.go (U' := T886.setTop (mkF m 89 #[rv a1, iv p1, jv x2, sv, iv p4, .val .null, iv (0 : Int32), iv (3 : Int32), iv (0 : Int32)] [(.ref a1)])) (fun _ k => XS.aloadN X886.here hx rfl (hb hby d18_88) rfl rfl k) ?_
  refine Rch.go (U' := T886.setTop (mkF m 91 #[rv a1, iv p1, jv x2, sv, iv p4, .val .null, iv (0 : Int32), iv (3 : Int32), iv (0 : Int32)] [(.int (0 : Int32)), (.ref a1)])) (fun _ k => XS.iload X886.here hx rfl (hb hby d18_89) rfl  k) ?_
  refine Rch.go (U' := T886.setTop (mkF m 92 #[rv a1, iv p1, jv x2, sv, iv p4, .val .null, iv (0 : Int32), iv (3 : Int32), iv (0 : Int32)] [(.long x2), (.int (0 : Int32)), (.ref a1)])) (fun _ k => XS.lloadN X886.here hx rfl (hb hby d18_91) rfl  k) ?_
  refine Rch.go (U' := T886.setTop (mkF m 94 #[rv a1, iv p1, jv x2, sv, iv p4, .val .null, iv (0 : Int32), iv (3 : Int32), iv (0 : Int32)] [(.int p4), (.long x2), (.int (0 : Int32)), (.ref a1)])) (fun _ k => XS.iload X886.here hx rfl (hb hby d18_92) rfl  k) ?_
  refine Rch.go (U' := T886.setTop (mkF m 96 #[rv a1, iv p1, jv x2, sv, iv p4, .val .null, iv (0 : Int32), iv (3 : Int32), iv (0 : Int32)] [.null, (.int p4), (.long x2), (.int (0 : Int32)), (.ref a1)])) (fun _ k => XS.aload X886.here hx rfl (hb hby d18_94) rfl rfl k) ?_
  refine Rch.go (U' := T886.setTop (mkF m 98 #[rv a1, iv p1, jv x2, sv, iv p4, .val .null, iv (0 : Int32), iv (3 : Int32), iv (0 : Int32)] [(.int (0 : Int32)), .null, (.int p4), (.long x2), (.int (0 : Int32)), (.ref a1)])) (fun _ k => XS.iload X886.here hx rfl (hb hby d18_96) rfl  k) ?_
  obtain ⟨cq897, kq897, q897a, q897b, q897c⟩ := isOf hZ e886 f887
  obtain ⟨_, _, ⟨T897, L897, k897, n897⟩, -, X897, ⟨Lc897, hQ897, l897, y897, z897⟩, st897⟩ := X886.virtualBack hx (y := yS) (z := yS) hown (mvT hZ (wi hw 50 rfl)) (mvT hZ (wi hw 51 rfl)) (notFace_of_selects (args := #[]) (mvT hZ (wi hw 53 rfl))) (mvT hZ (wi hw 53 rfl)) (mvT hZ (wi hw 52 rfl)) (by decide) (backOf (W := 0) (rmS0 l Z a0 hw [] a1 bh ba bl kh ka kl (1 : Int32) own_g0 ([(.int (0 : Int32)), (.int (0 : Int32)), (.int (0 : Int32)), (.int (0 : Int32))].set 0 (.int p1)) [(.int (0 : Int32)), (.int (0 : Int32)), (.int (0 : Int32)), (.int (0 : Int32))] x2 p4 h886 n0 z896 ⟨f887, F886, f888, f889, f890, f891, f892, f893, f894, f895, ⟨lg, (by rw [List.length_set, la]), ll⟩, ⟨g_a1, g_bh, g_ba, g_bl⟩, ⟨n_h, n_a, n_l⟩, n_ha, n_hl, n_al⟩) hZ (wi hw 54 rfl) (wi hw 2 rfl) (by decide) (by decide)) q897a q897c (g := (mkF m 98 #[rv a1, iv p1, jv x2, sv, iv p4, .val .null, iv (0 : Int32), iv (3 : Int32), iv (0 : Int32)] [(.int (0 : Int32)), .null, (.int p4), (.long x2), (.int (0 : Int32)), (.ref a1)])) rfl (by rw [hml]; rfl) (Steps.refl _) (argsL := [(.int (0 : Int32)), (.long x2), (.int p4), .null, (.int (0 : Int32))]) (rest := []) (lenOf pd_10 rfl) rfl (by show 2 * 0 + _ ≤ _; exact Nat.le_of_eq rfl) (hb hby d18_98) (fun _ _ => ⟨rfl, e886, (by decide : 3 + 0 ≤ _), (by decide : 12 + 0 ≤ _)⟩)
  dsimp only [Pt.U, Pt.locs, Pt.cells, Pt.slots] at X897 l897 y897 z897 st897 hQ897
  subst l897 y897 z897
  obtain ⟨rfl, N897q, K897q, Vh897, Vl897⟩ := hQ897
  have N897 := Fr.app N886 N897q
  have z898 := Nat.le_trans z896 K897q.1
  have f899 := f887.keep K897q
  have f900 := F886.keep K897q (ninS n_h (ninS n_l nin0))
  have f901 := f888.keep K897q (ninS n_h (ninS n_l nin0))
  have f902 := f889.keep K897q (ninS n_h (ninS n_l nin0))
  have f903 := f890.keep K897q (ninS n_h (ninS n_l nin0))
  have f904 := f891.keep K897q (ninS n_h (ninS n_l nin0))
  have f905 := f892.keep K897q (ninS n_h (ninS n_l nin0))
  have f906 := f894.keep K897q (ninS (Ne.symm n_ha) (ninS n_al nin0))
  refine Rch.to (U' := T897.setTop (mkF m 101 #[rv a1, iv p1, jv x2, sv, iv p4, .val .null, iv (0 : Int32), iv (3 : Int32), iv (0 : Int32)] [])) st897 ?_
  refine Rch.go (U' := T897.setTop (mkF m 103 #[rv a1, iv p1, jv x2, sv, iv p4, .val .null, iv (0 : Int32), iv (3 : Int32), iv (0 : Int32)] [(.int (0 : Int32))])) (fun _ k => XS.iload X897.here hx rfl (hb hby d18_101) rfl  k) ?_
  refine Rch.fin X897 hlk (v := some (.int (0 : Int32))) (fun h => by rw [hret] at h; cases h) rfl (by decide) (by decide) (fun fs hr => retI X897 hx hret (hb hby d18_103) hr) ?_
  have hfr : own_free own_g0 4 (own_s p1) = 0 := by rw [hsj]; simp only [own_free, ↓reduceIte]; rfl
  refine ⟨_, _, by rw [hfr]; rfl, N897, z898, ⟨f899, f900, f901, f902, f903, f904, f905, (by unfold own_add; rw [hfr]; exact Vh897), f906, Vl897, ⟨by unfold own_add; rw [List.length_set, lg], by rw [List.length_set, la], by rw [List.length_set, ll]⟩, ⟨g_a1, g_bh, g_ba, g_bl⟩, ⟨n_h, n_a, n_l⟩, n_ha, n_hl, n_al⟩⟩
set_option maxRecDepth 65536 in
set_option maxHeartbeats 40000000 in
theorem tailE1 {p : Program} {l : Launch} {e : Env} {s : State} {m : MethodId} {args : Array Value} {below : List Frame} {meth : Method} {c : Code} {T0 : State} {locs : List Loc} {Z : State} {a0 : Array Value} {h0 : Heap} {n0 : Nat}  (a1 : Addr) (bh : Addr) (ba : Addr) (bl : Addr) (kh : ClassId) (ka : ClassId) (kl : ClassId) (p1 : Int32) (x2 : Int64) (p4 : Int32)
    (X0 : Stand p l e ({ frames := 2, cells := 3, slots := 12, locals := 64 } : Room) s m args below meth c T0 locs 3 12) (hx : p.tables.exec = Jvm.exec) (hZ : Z.Warmed39 s.vm) (hw : ∀ d ∈ tables_1, d.before a0 Z = true) (hby : c.code = prog_36_method_17_code) (hml : c.maxLocals = 9) (hown : s.vm.findClass cST = some m.cls) (hret : meth.sig.returnType = some .int) (hlk : meth.locks = false) (e0 : T0.heap = h0) (N0 : Fr n0 locs) (Z0 : n0 ≤ h0.size) (B : Tb Z h0 n0 a1 bh ba bl kh ka kl (0 : Int32) own_g0 [(.int (0 : Int32)), (.int (0 : Int32)), (.int (0 : Int32)), (.int (0 : Int32))] [(.int (0 : Int32)), (.int (0 : Int32)), (.int (0 : Int32)), (.int (0 : Int32))]) (hsj : own_s p1 = 1) :
    Rch p e below (Fin s below (fun v h L => ∃ (va' vl' : List Value), v = some (.int (Int32.ofNat (own_free own_g0 4 (own_s p1)))) ∧ Fr n0 L ∧ n0 ≤ h.size ∧ Tb Z h n0 a1 bh ba bl kh ka kl ((0 : Int32) + (1 : Int32)) (own_add own_g0 (own_s p1) x2) va' vl') 3 12) (T0.setTop (mkF m 46 #[rv a1, iv p1, jv x2, sv, iv p4, .val .null, iv (0 : Int32), iv (3 : Int32), iv (1 : Int32)] [])) := by
  obtain ⟨E_a1, F_a1_count, F_a1_handles, F_a1_hashes, F_a1_lengths, F_a1_outside, F_a1_expiries, V_bh, V_ba, V_bl, ⟨lg, la, ll⟩, ⟨g_a1, g_bh, g_ba, g_bl⟩, ⟨n_h, n_a, n_l⟩, n_ha, n_hl, n_al⟩ := B
  refine Rch.go (U' := T0.setTop (mkF m 47 #[rv a1, iv p1, jv x2, sv, iv p4, .val .null, iv (0 : Int32), iv (3 : Int32), iv (1 : Int32)] [(.ref a1)])) (fun _ k => XS.aloadN X0.here hx rfl (hb hby d18_46) rfl rfl k) ?_
  obtain ⟨T907, X907, e907, st907⟩ := getF X0 hx hZ hown (host := "") (Or.inl (wi hw 26 rfl)) Via.refl e0 F_a1_handles (g := (mkF m 47 #[rv a1, iv p1, jv x2, sv, iv p4, .val .null, iv (0 : Int32), iv (3 : Int32), iv (1 : Int32)] [(.ref a1)])) rfl rfl (hb hby d18_47)
  refine Rch.go (U' := T907.setTop (mkF m 50 #[rv a1, iv p1, jv x2, sv, iv p4, .val .null, iv (0 : Int32), iv (3 : Int32), iv (1 : Int32)] [(.ref bh)])) st907 ?_
  refine Rch.go (U' := T907.setTop (mkF m 52 #[rv a1, iv p1, jv x2, sv, iv p4, .val .null, iv (0 : Int32), iv (3 : Int32), iv (1 : Int32)] [(.int (1 : Int32)), (.ref bh)])) (fun _ k => XS.iload X907.here hx rfl (hb hby d18_50) rfl  k) ?_
  obtain ⟨cl908, Ar908, qk908, Sz908, Mn908, Hs908, Gf908⟩ := id V_bh
  have ib908 : ¬ ((1 : Int32) < 0 ∨ cl908.slots.size ≤ ((1 : Int32)).toNatClampNeg) := inb_of Sz908 ⟨by decide, by decide⟩
  have ea908 : cl908.slots[((1 : Int32)).toNatClampNeg]? = some (.long (0 : Int64)) := Has.at Hs908 ib908 rfl
  refine Rch.go (U' := T907.setTop (mkF m 53 #[rv a1, iv p1, jv x2, sv, iv p4, .val .null, iv (0 : Int32), iv (3 : Int32), iv (1 : Int32)] [(.long (0 : Int64))])) (fun _ k => X907.laload hx (j := (1 : Int32)) (v := (.long (0 : Int64))) (by rw [e907]; exact Ar908.1) (State.isArrayOf_alike hZ.alike Ar908.2.1) Ar908.2.2 ib908 ea908 (g := (mkF m 52 #[rv a1, iv p1, jv x2, sv, iv p4, .val .null, iv (0 : Int32), iv (3 : Int32), iv (1 : Int32)] [(.int (1 : Int32)), (.ref bh)])) rfl rfl (hb hby d18_52) _ k) ?_
  refine Rch.go (U' := T907.setTop (mkF m 54 #[rv a1, iv p1, jv x2, sv, iv p4, .val .null, iv (0 : Int32), iv (3 : Int32), iv (1 : Int32)] [(.long (0 : Int64)), (.long (0 : Int64))])) (fun _ k => XS.lconst X907.here hx rfl (hb hby d18_53) k) ?_
  refine Rch.go (U' := T907.setTop (mkF m 55 #[rv a1, iv p1, jv x2, sv, iv p4, .val .null, iv (0 : Int32), iv (3 : Int32), iv (1 : Int32)] [(.int (XT.cmpL (0 : Int64) (0 : Int64)))])) (fun _ k => XT.lcmp X907.here hx rfl (hb hby d18_54) rfl k) ?_
  have br909 : (0 : Int64) = (0 : Int64) := (by decide)
  refine Rch.go (U' := T907.setTop (mkF m 70 #[rv a1, iv p1, jv x2, sv, iv p4, .val .null, iv (0 : Int32), iv (3 : Int32), iv (1 : Int32)] [])) (fun _ k => XS.ifYes X907.here hx rfl (pc0 := 55) (pc' := 70) rfl (hb hby d18_55) rfl (XT.ll_eq_t br909) (by decide) (by decide) k) ?_
  refine Rch.go (U' := T907.setTop (mkF m 71 #[rv a1, iv p1, jv x2, sv, iv p4, .val .null, iv (0 : Int32), iv (3 : Int32), iv (1 : Int32)] [(.ref a1)])) (fun _ k => XS.aloadN X907.here hx rfl (hb hby d18_70) rfl rfl k) ?_
  obtain ⟨T910, X910, e910, st910⟩ := getF X907 hx hZ hown (host := "") (Or.inl (wi hw 36 rfl)) Via.refl e907 F_a1_hashes (g := (mkF m 71 #[rv a1, iv p1, jv x2, sv, iv p4, .val .null, iv (0 : Int32), iv (3 : Int32), iv (1 : Int32)] [(.ref a1)])) rfl rfl (hb hby d18_71)
  refine Rch.go (U' := T910.setTop (mkF m 74 #[rv a1, iv p1, jv x2, sv, iv p4, .val .null, iv (0 : Int32), iv (3 : Int32), iv (1 : Int32)] [(.ref ba)])) st910 ?_
  refine Rch.go (U' := T910.setTop (mkF m 76 #[rv a1, iv p1, jv x2, sv, iv p4, .val .null, iv (0 : Int32), iv (3 : Int32), iv (1 : Int32)] [(.int (1 : Int32)), (.ref ba)])) (fun _ k => XS.iload X910.here hx rfl (hb hby d18_74) rfl  k) ?_
  refine Rch.go (U' := T910.setTop (mkF m 77 #[rv a1, iv p1, jv x2, sv, iv p4, .val .null, iv (0 : Int32), iv (3 : Int32), iv (1 : Int32)] [(.int p1), (.int (1 : Int32)), (.ref ba)])) (fun _ k => XS.iloadN X910.here hx rfl (hb hby d18_76) rfl  k) ?_
  obtain ⟨cl911, Ar911, qk911, Sz911, Mn911, Hs911, Gf911⟩ := id V_ba
  have ib911 : ¬ ((1 : Int32) < 0 ∨ cl911.slots.size ≤ ((1 : Int32)).toNatClampNeg) := inb_of Sz911 ⟨by decide, by decide⟩
  obtain ⟨T911, h911, X911, e911, W911, st911⟩ := stI X910 hx hZ e910 Ar911 (j := (1 : Int32)) ib911 (g := (mkF m 77 #[rv a1, iv p1, jv x2, sv, iv p4, .val .null, iv (0 : Int32), iv (3 : Int32), iv (1 : Int32)] [(.int p1), (.int (1 : Int32)), (.ref ba)])) rfl rfl (hb hby d18_77)
  have V911 : Arv Z h911 ba ka .int (4 : Int32) ([(.int (0 : Int32)), (.int (0 : Int32)), (.int (0 : Int32)), (.int (0 : Int32))].set 1 (.int p1)) (.int (0 : Int32)) := Arv.set Ar911 qk911 Sz911 Mn911 Hs911 Gf911 rfl W911 1 rfl (by rw [la]; decide)
  have f912 := E_a1.wr W911
  have f913 := F_a1_count.other W911 (Or.inl n_a)
  have f914 := F_a1_handles.other W911 (Or.inl n_a)
  have f915 := F_a1_hashes.other W911 (Or.inl n_a)
  have f916 := F_a1_lengths.other W911 (Or.inl n_a)
  have f917 := F_a1_outside.other W911 (Or.inl n_a)
  have f918 := F_a1_expiries.other W911 (Or.inl n_a)
  have f919 := V_bh.other W911 n_ha
  have f920 := V_bl.other W911 (Ne.symm n_al)
  have N911 := Fr.snoc X911 N0 g_ba
  have z921 := Nat.le_trans Z0 (Keep.of_wr W911).1
  refine Rch.go (U' := T911.setTop (mkF m 78 #[rv a1, iv p1, jv x2, sv, iv p4, .val .null, iv (0 : Int32), iv (3 : Int32), iv (1 : Int32)] [])) st911 ?_
  refine Rch.go (U' := T911.setTop (mkF m 79 #[rv a1, iv p1, jv x2, sv, iv p4, .val .null, iv (0 : Int32), iv (3 : Int32), iv (1 : Int32)] [(.ref a1)])) (fun _ k => XS.aloadN X911.here hx rfl (hb hby d18_78) rfl rfl k) ?_
  refine Rch.go (U' := T911.setTop (mkF m 80 #[rv a1, iv p1, jv x2, sv, iv p4, .val .null, iv (0 : Int32), iv (3 : Int32), iv (1 : Int32)] [(.ref a1), (.ref a1)])) (fun _ k => XS.dup X911.here hx rfl (hb hby d18_79) rfl rfl k) ?_
  obtain ⟨T922, X922, e922, st922⟩ := getF X911 hx hZ hown (host := "") (Or.inl (wi hw 19 rfl)) Via.refl e911 f913 (g := (mkF m 80 #[rv a1, iv p1, jv x2, sv, iv p4, .val .null, iv (0 : Int32), iv (3 : Int32), iv (1 : Int32)] [(.ref a1), (.ref a1)])) rfl rfl (hb hby d18_80)
  refine Rch.go (U' := T922.setTop (mkF m 83 #[rv a1, iv p1, jv x2, sv, iv p4, .val .null, iv (0 : Int32), iv (3 : Int32), iv (1 : Int32)] [(.int (0 : Int32)), (.ref a1)])) st922 ?_
  refine Rch.go (U' := T922.setTop (mkF m 84 #[rv a1, iv p1, jv x2, sv, iv p4, .val .null, iv (0 : Int32), iv (3 : Int32), iv (1 : Int32)] [(.int (1 : Int32)), (.int (0 : Int32)), (.ref a1)])) (fun _ k => XS.iconst X922.here hx rfl (hb hby d18_83) k) ?_
  refine Rch.go (U' := T922.setTop (mkF m 85 #[rv a1, iv p1, jv x2, sv, iv p4, .val .null, iv (0 : Int32), iv (3 : Int32), iv (1 : Int32)] [(.int ((0 : Int32) + (1 : Int32))), (.ref a1)])) (fun _ k => XS.iadd X922.here hx rfl (hb hby d18_84) rfl k) ?_
  rw [(by decide : ((0 : Int32) + (1 : Int32)) = (1 : Int32))]
  obtain ⟨T923, h923, X923, e923, W923, st923⟩ := putF X922 hx hZ hown (host := "") (Or.inl (wi hw 19 rfl)) Via.refl e922 f913 f912 (Or.inl (wi hw 20 rfl)) (wi hw 1 rfl) (ty := .int) (by decide) rfl rfl (g := (mkF m 85 #[rv a1, iv p1, jv x2, sv, iv p4, .val .null, iv (0 : Int32), iv (3 : Int32), iv (1 : Int32)] [(.int (1 : Int32)), (.ref a1)])) rfl rfl (hb hby d18_85)
  have F923 := f913.same W923
  have f924 := f912.wr W923
  have f925 := f914.other W923 (Or.inr (slot_ne (Or.inl (wi hw 27 rfl)) (Or.inl (wi hw 20 rfl)) (by decide) (t := (.array .long)) (t' := .int) (by decide) (by decide)))
  have f926 := f915.other W923 (Or.inr (slot_ne (Or.inl (wi hw 37 rfl)) (Or.inl (wi hw 20 rfl)) (by decide) (t := (.array .int)) (t' := .int) (by decide) (by decide)))
  have f927 := f916.other W923 (Or.inr (slot_ne (Or.inl (wi hw 39 rfl)) (Or.inl (wi hw 20 rfl)) (by decide) (t := (.array .int)) (t' := .int) (by decide) (by decide)))
  have f928 := f917.other W923 (Or.inr (slot_ne (Or.inl (wi hw 41 rfl)) (Or.inl (wi hw 20 rfl)) (by decide) (t := (.array (.array .byte))) (t' := .int) (by decide) (by decide)))
  have f929 := f918.other W923 (Or.inr (slot_ne (Or.inl (wi hw 45 rfl)) (Or.inl (wi hw 20 rfl)) (by decide) (t := (.object "java/util/BitSet")) (t' := .int) (by decide) (by decide)))
  have f930 := f919.other W923 (Ne.symm n_h)
  have f931 := V911.other W923 (Ne.symm n_a)
  have f932 := f920.other W923 (Ne.symm n_l)
  have N923 := Fr.snoc X923 N911 g_a1
  have z933 := Nat.le_trans z921 (Keep.of_wr W923).1
  refine Rch.go (U' := T923.setTop (mkF m 88 #[rv a1, iv p1, jv x2, sv, iv p4, .val .null, iv (0 : Int32), iv (3 : Int32), iv (1 : Int32)] [])) st923 ?_
  refine Rch.go (U' := T923.setTop (mkF m 89 #[rv a1, iv p1, jv x2, sv, iv p4, .val .null, iv (0 : Int32), iv (3 : Int32), iv (1 : Int32)] [(.ref a1)])) (fun _ k => XS.aloadN X923.here hx rfl (hb hby d18_88) rfl rfl k) ?_
  refine Rch.go (U' := T923.setTop (mkF m 91 #[rv a1, iv p1, jv x2, sv, iv p4, .val .null, iv (0 : Int32), iv (3 : Int32), iv (1 : Int32)] [(.int (1 : Int32)), (.ref a1)])) (fun _ k => XS.iload X923.here hx rfl (hb hby d18_89) rfl  k) ?_
  refine Rch.go (U' := T923.setTop (mkF m 92 #[rv a1, iv p1, jv x2, sv, iv p4, .val .null, iv (0 : Int32), iv (3 : Int32), iv (1 : Int32)] [(.long x2), (.int (1 : Int32)), (.ref a1)])) (fun _ k => XS.lloadN X923.here hx rfl (hb hby d18_91) rfl  k) ?_
  refine Rch.go (U' := T923.setTop (mkF m 94 #[rv a1, iv p1, jv x2, sv, iv p4, .val .null, iv (0 : Int32), iv (3 : Int32), iv (1 : Int32)] [(.int p4), (.long x2), (.int (1 : Int32)), (.ref a1)])) (fun _ k => XS.iload X923.here hx rfl (hb hby d18_92) rfl  k) ?_
  refine Rch.go (U' := T923.setTop (mkF m 96 #[rv a1, iv p1, jv x2, sv, iv p4, .val .null, iv (0 : Int32), iv (3 : Int32), iv (1 : Int32)] [.null, (.int p4), (.long x2), (.int (1 : Int32)), (.ref a1)])) (fun _ k => XS.aload X923.here hx rfl (hb hby d18_94) rfl rfl k) ?_
  refine Rch.go (U' := T923.setTop (mkF m 98 #[rv a1, iv p1, jv x2, sv, iv p4, .val .null, iv (0 : Int32), iv (3 : Int32), iv (1 : Int32)] [(.int (0 : Int32)), .null, (.int p4), (.long x2), (.int (1 : Int32)), (.ref a1)])) (fun _ k => XS.iload X923.here hx rfl (hb hby d18_96) rfl  k) ?_
  obtain ⟨cq934, kq934, q934a, q934b, q934c⟩ := isOf hZ e923 f924
  obtain ⟨_, _, ⟨T934, L934, k934, n934⟩, -, X934, ⟨Lc934, hQ934, l934, y934, z934⟩, st934⟩ := X923.virtualBack hx (y := yS) (z := yS) hown (mvT hZ (wi hw 50 rfl)) (mvT hZ (wi hw 51 rfl)) (notFace_of_selects (args := #[]) (mvT hZ (wi hw 53 rfl))) (mvT hZ (wi hw 53 rfl)) (mvT hZ (wi hw 52 rfl)) (by decide) (backOf (W := 0) (rmS1 l Z a0 hw [] a1 bh ba bl kh ka kl (1 : Int32) own_g0 ([(.int (0 : Int32)), (.int (0 : Int32)), (.int (0 : Int32)), (.int (0 : Int32))].set 1 (.int p1)) [(.int (0 : Int32)), (.int (0 : Int32)), (.int (0 : Int32)), (.int (0 : Int32))] x2 p4 h923 n0 z933 ⟨f924, F923, f925, f926, f927, f928, f929, f930, f931, f932, ⟨lg, (by rw [List.length_set, la]), ll⟩, ⟨g_a1, g_bh, g_ba, g_bl⟩, ⟨n_h, n_a, n_l⟩, n_ha, n_hl, n_al⟩) hZ (wi hw 54 rfl) (wi hw 2 rfl) (by decide) (by decide)) q934a q934c (g := (mkF m 98 #[rv a1, iv p1, jv x2, sv, iv p4, .val .null, iv (0 : Int32), iv (3 : Int32), iv (1 : Int32)] [(.int (0 : Int32)), .null, (.int p4), (.long x2), (.int (1 : Int32)), (.ref a1)])) rfl (by rw [hml]; rfl) (Steps.refl _) (argsL := [(.int (1 : Int32)), (.long x2), (.int p4), .null, (.int (0 : Int32))]) (rest := []) (lenOf pd_10 rfl) rfl (by show 2 * 0 + _ ≤ _; exact Nat.le_of_eq rfl) (hb hby d18_98) (fun _ _ => ⟨rfl, e923, (by decide : 3 + 0 ≤ _), (by decide : 12 + 0 ≤ _)⟩)
  dsimp only [Pt.U, Pt.locs, Pt.cells, Pt.slots] at X934 l934 y934 z934 st934 hQ934
  subst l934 y934 z934
  obtain ⟨rfl, N934q, K934q, Vh934, Vl934⟩ := hQ934
  have N934 := Fr.app N923 N934q
  have z935 := Nat.le_trans z933 K934q.1
  have f936 := f924.keep K934q
  have f937 := F923.keep K934q (ninS n_h (ninS n_l nin0))
  have f938 := f925.keep K934q (ninS n_h (ninS n_l nin0))
  have f939 := f926.keep K934q (ninS n_h (ninS n_l nin0))
  have f940 := f927.keep K934q (ninS n_h (ninS n_l nin0))
  have f941 := f928.keep K934q (ninS n_h (ninS n_l nin0))
  have f942 := f929.keep K934q (ninS n_h (ninS n_l nin0))
  have f943 := f931.keep K934q (ninS (Ne.symm n_ha) (ninS n_al nin0))
  refine Rch.to (U' := T934.setTop (mkF m 101 #[rv a1, iv p1, jv x2, sv, iv p4, .val .null, iv (0 : Int32), iv (3 : Int32), iv (1 : Int32)] [])) st934 ?_
  refine Rch.go (U' := T934.setTop (mkF m 103 #[rv a1, iv p1, jv x2, sv, iv p4, .val .null, iv (0 : Int32), iv (3 : Int32), iv (1 : Int32)] [(.int (1 : Int32))])) (fun _ k => XS.iload X934.here hx rfl (hb hby d18_101) rfl  k) ?_
  refine Rch.fin X934 hlk (v := some (.int (1 : Int32))) (fun h => by rw [hret] at h; cases h) rfl (by decide) (by decide) (fun fs hr => retI X934 hx hret (hb hby d18_103) hr) ?_
  have hfr : own_free own_g0 4 (own_s p1) = 1 := by rw [hsj]; simp only [own_free, ↓reduceIte]; rfl
  refine ⟨_, _, by rw [hfr]; rfl, N934, z935, ⟨f936, f937, f938, f939, f940, f941, f942, (by unfold own_add; rw [hfr]; exact Vh934), f943, Vl934, ⟨by unfold own_add; rw [List.length_set, lg], by rw [List.length_set, la], by rw [List.length_set, ll]⟩, ⟨g_a1, g_bh, g_ba, g_bl⟩, ⟨n_h, n_a, n_l⟩, n_ha, n_hl, n_al⟩⟩
set_option maxRecDepth 65536 in
set_option maxHeartbeats 40000000 in
theorem tailE2 {p : Program} {l : Launch} {e : Env} {s : State} {m : MethodId} {args : Array Value} {below : List Frame} {meth : Method} {c : Code} {T0 : State} {locs : List Loc} {Z : State} {a0 : Array Value} {h0 : Heap} {n0 : Nat}  (a1 : Addr) (bh : Addr) (ba : Addr) (bl : Addr) (kh : ClassId) (ka : ClassId) (kl : ClassId) (p1 : Int32) (x2 : Int64) (p4 : Int32)
    (X0 : Stand p l e ({ frames := 2, cells := 3, slots := 12, locals := 64 } : Room) s m args below meth c T0 locs 3 12) (hx : p.tables.exec = Jvm.exec) (hZ : Z.Warmed39 s.vm) (hw : ∀ d ∈ tables_1, d.before a0 Z = true) (hby : c.code = prog_36_method_17_code) (hml : c.maxLocals = 9) (hown : s.vm.findClass cST = some m.cls) (hret : meth.sig.returnType = some .int) (hlk : meth.locks = false) (e0 : T0.heap = h0) (N0 : Fr n0 locs) (Z0 : n0 ≤ h0.size) (B : Tb Z h0 n0 a1 bh ba bl kh ka kl (0 : Int32) own_g0 [(.int (0 : Int32)), (.int (0 : Int32)), (.int (0 : Int32)), (.int (0 : Int32))] [(.int (0 : Int32)), (.int (0 : Int32)), (.int (0 : Int32)), (.int (0 : Int32))]) (hsj : own_s p1 = 2) :
    Rch p e below (Fin s below (fun v h L => ∃ (va' vl' : List Value), v = some (.int (Int32.ofNat (own_free own_g0 4 (own_s p1)))) ∧ Fr n0 L ∧ n0 ≤ h.size ∧ Tb Z h n0 a1 bh ba bl kh ka kl ((0 : Int32) + (1 : Int32)) (own_add own_g0 (own_s p1) x2) va' vl') 3 12) (T0.setTop (mkF m 46 #[rv a1, iv p1, jv x2, sv, iv p4, .val .null, iv (0 : Int32), iv (3 : Int32), iv (2 : Int32)] [])) := by
  obtain ⟨E_a1, F_a1_count, F_a1_handles, F_a1_hashes, F_a1_lengths, F_a1_outside, F_a1_expiries, V_bh, V_ba, V_bl, ⟨lg, la, ll⟩, ⟨g_a1, g_bh, g_ba, g_bl⟩, ⟨n_h, n_a, n_l⟩, n_ha, n_hl, n_al⟩ := B
  refine Rch.go (U' := T0.setTop (mkF m 47 #[rv a1, iv p1, jv x2, sv, iv p4, .val .null, iv (0 : Int32), iv (3 : Int32), iv (2 : Int32)] [(.ref a1)])) (fun _ k => XS.aloadN X0.here hx rfl (hb hby d18_46) rfl rfl k) ?_
  obtain ⟨T944, X944, e944, st944⟩ := getF X0 hx hZ hown (host := "") (Or.inl (wi hw 26 rfl)) Via.refl e0 F_a1_handles (g := (mkF m 47 #[rv a1, iv p1, jv x2, sv, iv p4, .val .null, iv (0 : Int32), iv (3 : Int32), iv (2 : Int32)] [(.ref a1)])) rfl rfl (hb hby d18_47)
  refine Rch.go (U' := T944.setTop (mkF m 50 #[rv a1, iv p1, jv x2, sv, iv p4, .val .null, iv (0 : Int32), iv (3 : Int32), iv (2 : Int32)] [(.ref bh)])) st944 ?_
  refine Rch.go (U' := T944.setTop (mkF m 52 #[rv a1, iv p1, jv x2, sv, iv p4, .val .null, iv (0 : Int32), iv (3 : Int32), iv (2 : Int32)] [(.int (2 : Int32)), (.ref bh)])) (fun _ k => XS.iload X944.here hx rfl (hb hby d18_50) rfl  k) ?_
  obtain ⟨cl945, Ar945, qk945, Sz945, Mn945, Hs945, Gf945⟩ := id V_bh
  have ib945 : ¬ ((2 : Int32) < 0 ∨ cl945.slots.size ≤ ((2 : Int32)).toNatClampNeg) := inb_of Sz945 ⟨by decide, by decide⟩
  have ea945 : cl945.slots[((2 : Int32)).toNatClampNeg]? = some (.long (0 : Int64)) := Has.at Hs945 ib945 rfl
  refine Rch.go (U' := T944.setTop (mkF m 53 #[rv a1, iv p1, jv x2, sv, iv p4, .val .null, iv (0 : Int32), iv (3 : Int32), iv (2 : Int32)] [(.long (0 : Int64))])) (fun _ k => X944.laload hx (j := (2 : Int32)) (v := (.long (0 : Int64))) (by rw [e944]; exact Ar945.1) (State.isArrayOf_alike hZ.alike Ar945.2.1) Ar945.2.2 ib945 ea945 (g := (mkF m 52 #[rv a1, iv p1, jv x2, sv, iv p4, .val .null, iv (0 : Int32), iv (3 : Int32), iv (2 : Int32)] [(.int (2 : Int32)), (.ref bh)])) rfl rfl (hb hby d18_52) _ k) ?_
  refine Rch.go (U' := T944.setTop (mkF m 54 #[rv a1, iv p1, jv x2, sv, iv p4, .val .null, iv (0 : Int32), iv (3 : Int32), iv (2 : Int32)] [(.long (0 : Int64)), (.long (0 : Int64))])) (fun _ k => XS.lconst X944.here hx rfl (hb hby d18_53) k) ?_
  refine Rch.go (U' := T944.setTop (mkF m 55 #[rv a1, iv p1, jv x2, sv, iv p4, .val .null, iv (0 : Int32), iv (3 : Int32), iv (2 : Int32)] [(.int (XT.cmpL (0 : Int64) (0 : Int64)))])) (fun _ k => XT.lcmp X944.here hx rfl (hb hby d18_54) rfl k) ?_
  have br946 : (0 : Int64) = (0 : Int64) := (by decide)
  refine Rch.go (U' := T944.setTop (mkF m 70 #[rv a1, iv p1, jv x2, sv, iv p4, .val .null, iv (0 : Int32), iv (3 : Int32), iv (2 : Int32)] [])) (fun _ k => XS.ifYes X944.here hx rfl (pc0 := 55) (pc' := 70) rfl (hb hby d18_55) rfl (XT.ll_eq_t br946) (by decide) (by decide) k) ?_
  refine Rch.go (U' := T944.setTop (mkF m 71 #[rv a1, iv p1, jv x2, sv, iv p4, .val .null, iv (0 : Int32), iv (3 : Int32), iv (2 : Int32)] [(.ref a1)])) (fun _ k => XS.aloadN X944.here hx rfl (hb hby d18_70) rfl rfl k) ?_
  obtain ⟨T947, X947, e947, st947⟩ := getF X944 hx hZ hown (host := "") (Or.inl (wi hw 36 rfl)) Via.refl e944 F_a1_hashes (g := (mkF m 71 #[rv a1, iv p1, jv x2, sv, iv p4, .val .null, iv (0 : Int32), iv (3 : Int32), iv (2 : Int32)] [(.ref a1)])) rfl rfl (hb hby d18_71)
  refine Rch.go (U' := T947.setTop (mkF m 74 #[rv a1, iv p1, jv x2, sv, iv p4, .val .null, iv (0 : Int32), iv (3 : Int32), iv (2 : Int32)] [(.ref ba)])) st947 ?_
  refine Rch.go (U' := T947.setTop (mkF m 76 #[rv a1, iv p1, jv x2, sv, iv p4, .val .null, iv (0 : Int32), iv (3 : Int32), iv (2 : Int32)] [(.int (2 : Int32)), (.ref ba)])) (fun _ k => XS.iload X947.here hx rfl (hb hby d18_74) rfl  k) ?_
  refine Rch.go (U' := T947.setTop (mkF m 77 #[rv a1, iv p1, jv x2, sv, iv p4, .val .null, iv (0 : Int32), iv (3 : Int32), iv (2 : Int32)] [(.int p1), (.int (2 : Int32)), (.ref ba)])) (fun _ k => XS.iloadN X947.here hx rfl (hb hby d18_76) rfl  k) ?_
  obtain ⟨cl948, Ar948, qk948, Sz948, Mn948, Hs948, Gf948⟩ := id V_ba
  have ib948 : ¬ ((2 : Int32) < 0 ∨ cl948.slots.size ≤ ((2 : Int32)).toNatClampNeg) := inb_of Sz948 ⟨by decide, by decide⟩
  obtain ⟨T948, h948, X948, e948, W948, st948⟩ := stI X947 hx hZ e947 Ar948 (j := (2 : Int32)) ib948 (g := (mkF m 77 #[rv a1, iv p1, jv x2, sv, iv p4, .val .null, iv (0 : Int32), iv (3 : Int32), iv (2 : Int32)] [(.int p1), (.int (2 : Int32)), (.ref ba)])) rfl rfl (hb hby d18_77)
  have V948 : Arv Z h948 ba ka .int (4 : Int32) ([(.int (0 : Int32)), (.int (0 : Int32)), (.int (0 : Int32)), (.int (0 : Int32))].set 2 (.int p1)) (.int (0 : Int32)) := Arv.set Ar948 qk948 Sz948 Mn948 Hs948 Gf948 rfl W948 2 rfl (by rw [la]; decide)
  have f949 := E_a1.wr W948
  have f950 := F_a1_count.other W948 (Or.inl n_a)
  have f951 := F_a1_handles.other W948 (Or.inl n_a)
  have f952 := F_a1_hashes.other W948 (Or.inl n_a)
  have f953 := F_a1_lengths.other W948 (Or.inl n_a)
  have f954 := F_a1_outside.other W948 (Or.inl n_a)
  have f955 := F_a1_expiries.other W948 (Or.inl n_a)
  have f956 := V_bh.other W948 n_ha
  have f957 := V_bl.other W948 (Ne.symm n_al)
  have N948 := Fr.snoc X948 N0 g_ba
  have z958 := Nat.le_trans Z0 (Keep.of_wr W948).1
  refine Rch.go (U' := T948.setTop (mkF m 78 #[rv a1, iv p1, jv x2, sv, iv p4, .val .null, iv (0 : Int32), iv (3 : Int32), iv (2 : Int32)] [])) st948 ?_
  refine Rch.go (U' := T948.setTop (mkF m 79 #[rv a1, iv p1, jv x2, sv, iv p4, .val .null, iv (0 : Int32), iv (3 : Int32), iv (2 : Int32)] [(.ref a1)])) (fun _ k => XS.aloadN X948.here hx rfl (hb hby d18_78) rfl rfl k) ?_
  refine Rch.go (U' := T948.setTop (mkF m 80 #[rv a1, iv p1, jv x2, sv, iv p4, .val .null, iv (0 : Int32), iv (3 : Int32), iv (2 : Int32)] [(.ref a1), (.ref a1)])) (fun _ k => XS.dup X948.here hx rfl (hb hby d18_79) rfl rfl k) ?_
  obtain ⟨T959, X959, e959, st959⟩ := getF X948 hx hZ hown (host := "") (Or.inl (wi hw 19 rfl)) Via.refl e948 f950 (g := (mkF m 80 #[rv a1, iv p1, jv x2, sv, iv p4, .val .null, iv (0 : Int32), iv (3 : Int32), iv (2 : Int32)] [(.ref a1), (.ref a1)])) rfl rfl (hb hby d18_80)
  refine Rch.go (U' := T959.setTop (mkF m 83 #[rv a1, iv p1, jv x2, sv, iv p4, .val .null, iv (0 : Int32), iv (3 : Int32), iv (2 : Int32)] [(.int (0 : Int32)), (.ref a1)])) st959 ?_
  refine Rch.go (U' := T959.setTop (mkF m 84 #[rv a1, iv p1, jv x2, sv, iv p4, .val .null, iv (0 : Int32), iv (3 : Int32), iv (2 : Int32)] [(.int (1 : Int32)), (.int (0 : Int32)), (.ref a1)])) (fun _ k => XS.iconst X959.here hx rfl (hb hby d18_83) k) ?_
  refine Rch.go (U' := T959.setTop (mkF m 85 #[rv a1, iv p1, jv x2, sv, iv p4, .val .null, iv (0 : Int32), iv (3 : Int32), iv (2 : Int32)] [(.int ((0 : Int32) + (1 : Int32))), (.ref a1)])) (fun _ k => XS.iadd X959.here hx rfl (hb hby d18_84) rfl k) ?_
  rw [(by decide : ((0 : Int32) + (1 : Int32)) = (1 : Int32))]
  obtain ⟨T960, h960, X960, e960, W960, st960⟩ := putF X959 hx hZ hown (host := "") (Or.inl (wi hw 19 rfl)) Via.refl e959 f950 f949 (Or.inl (wi hw 20 rfl)) (wi hw 1 rfl) (ty := .int) (by decide) rfl rfl (g := (mkF m 85 #[rv a1, iv p1, jv x2, sv, iv p4, .val .null, iv (0 : Int32), iv (3 : Int32), iv (2 : Int32)] [(.int (1 : Int32)), (.ref a1)])) rfl rfl (hb hby d18_85)
  have F960 := f950.same W960
  have f961 := f949.wr W960
  have f962 := f951.other W960 (Or.inr (slot_ne (Or.inl (wi hw 27 rfl)) (Or.inl (wi hw 20 rfl)) (by decide) (t := (.array .long)) (t' := .int) (by decide) (by decide)))
  have f963 := f952.other W960 (Or.inr (slot_ne (Or.inl (wi hw 37 rfl)) (Or.inl (wi hw 20 rfl)) (by decide) (t := (.array .int)) (t' := .int) (by decide) (by decide)))
  have f964 := f953.other W960 (Or.inr (slot_ne (Or.inl (wi hw 39 rfl)) (Or.inl (wi hw 20 rfl)) (by decide) (t := (.array .int)) (t' := .int) (by decide) (by decide)))
  have f965 := f954.other W960 (Or.inr (slot_ne (Or.inl (wi hw 41 rfl)) (Or.inl (wi hw 20 rfl)) (by decide) (t := (.array (.array .byte))) (t' := .int) (by decide) (by decide)))
  have f966 := f955.other W960 (Or.inr (slot_ne (Or.inl (wi hw 45 rfl)) (Or.inl (wi hw 20 rfl)) (by decide) (t := (.object "java/util/BitSet")) (t' := .int) (by decide) (by decide)))
  have f967 := f956.other W960 (Ne.symm n_h)
  have f968 := V948.other W960 (Ne.symm n_a)
  have f969 := f957.other W960 (Ne.symm n_l)
  have N960 := Fr.snoc X960 N948 g_a1
  have z970 := Nat.le_trans z958 (Keep.of_wr W960).1
  refine Rch.go (U' := T960.setTop (mkF m 88 #[rv a1, iv p1, jv x2, sv, iv p4, .val .null, iv (0 : Int32), iv (3 : Int32), iv (2 : Int32)] [])) st960 ?_
  refine Rch.go (U' := T960.setTop (mkF m 89 #[rv a1, iv p1, jv x2, sv, iv p4, .val .null, iv (0 : Int32), iv (3 : Int32), iv (2 : Int32)] [(.ref a1)])) (fun _ k => XS.aloadN X960.here hx rfl (hb hby d18_88) rfl rfl k) ?_
  refine Rch.go (U' := T960.setTop (mkF m 91 #[rv a1, iv p1, jv x2, sv, iv p4, .val .null, iv (0 : Int32), iv (3 : Int32), iv (2 : Int32)] [(.int (2 : Int32)), (.ref a1)])) (fun _ k => XS.iload X960.here hx rfl (hb hby d18_89) rfl  k) ?_
  refine Rch.go (U' := T960.setTop (mkF m 92 #[rv a1, iv p1, jv x2, sv, iv p4, .val .null, iv (0 : Int32), iv (3 : Int32), iv (2 : Int32)] [(.long x2), (.int (2 : Int32)), (.ref a1)])) (fun _ k => XS.lloadN X960.here hx rfl (hb hby d18_91) rfl  k) ?_
  refine Rch.go (U' := T960.setTop (mkF m 94 #[rv a1, iv p1, jv x2, sv, iv p4, .val .null, iv (0 : Int32), iv (3 : Int32), iv (2 : Int32)] [(.int p4), (.long x2), (.int (2 : Int32)), (.ref a1)])) (fun _ k => XS.iload X960.here hx rfl (hb hby d18_92) rfl  k) ?_
  refine Rch.go (U' := T960.setTop (mkF m 96 #[rv a1, iv p1, jv x2, sv, iv p4, .val .null, iv (0 : Int32), iv (3 : Int32), iv (2 : Int32)] [.null, (.int p4), (.long x2), (.int (2 : Int32)), (.ref a1)])) (fun _ k => XS.aload X960.here hx rfl (hb hby d18_94) rfl rfl k) ?_
  refine Rch.go (U' := T960.setTop (mkF m 98 #[rv a1, iv p1, jv x2, sv, iv p4, .val .null, iv (0 : Int32), iv (3 : Int32), iv (2 : Int32)] [(.int (0 : Int32)), .null, (.int p4), (.long x2), (.int (2 : Int32)), (.ref a1)])) (fun _ k => XS.iload X960.here hx rfl (hb hby d18_96) rfl  k) ?_
  obtain ⟨cq971, kq971, q971a, q971b, q971c⟩ := isOf hZ e960 f961
  obtain ⟨_, _, ⟨T971, L971, k971, n971⟩, -, X971, ⟨Lc971, hQ971, l971, y971, z971⟩, st971⟩ := X960.virtualBack hx (y := yS) (z := yS) hown (mvT hZ (wi hw 50 rfl)) (mvT hZ (wi hw 51 rfl)) (notFace_of_selects (args := #[]) (mvT hZ (wi hw 53 rfl))) (mvT hZ (wi hw 53 rfl)) (mvT hZ (wi hw 52 rfl)) (by decide) (backOf (W := 0) (rmS2 l Z a0 hw [] a1 bh ba bl kh ka kl (1 : Int32) own_g0 ([(.int (0 : Int32)), (.int (0 : Int32)), (.int (0 : Int32)), (.int (0 : Int32))].set 2 (.int p1)) [(.int (0 : Int32)), (.int (0 : Int32)), (.int (0 : Int32)), (.int (0 : Int32))] x2 p4 h960 n0 z970 ⟨f961, F960, f962, f963, f964, f965, f966, f967, f968, f969, ⟨lg, (by rw [List.length_set, la]), ll⟩, ⟨g_a1, g_bh, g_ba, g_bl⟩, ⟨n_h, n_a, n_l⟩, n_ha, n_hl, n_al⟩) hZ (wi hw 54 rfl) (wi hw 2 rfl) (by decide) (by decide)) q971a q971c (g := (mkF m 98 #[rv a1, iv p1, jv x2, sv, iv p4, .val .null, iv (0 : Int32), iv (3 : Int32), iv (2 : Int32)] [(.int (0 : Int32)), .null, (.int p4), (.long x2), (.int (2 : Int32)), (.ref a1)])) rfl (by rw [hml]; rfl) (Steps.refl _) (argsL := [(.int (2 : Int32)), (.long x2), (.int p4), .null, (.int (0 : Int32))]) (rest := []) (lenOf pd_10 rfl) rfl (by show 2 * 0 + _ ≤ _; exact Nat.le_of_eq rfl) (hb hby d18_98) (fun _ _ => ⟨rfl, e960, (by decide : 3 + 0 ≤ _), (by decide : 12 + 0 ≤ _)⟩)
  dsimp only [Pt.U, Pt.locs, Pt.cells, Pt.slots] at X971 l971 y971 z971 st971 hQ971
  subst l971 y971 z971
  obtain ⟨rfl, N971q, K971q, Vh971, Vl971⟩ := hQ971
  have N971 := Fr.app N960 N971q
  have z972 := Nat.le_trans z970 K971q.1
  have f973 := f961.keep K971q
  have f974 := F960.keep K971q (ninS n_h (ninS n_l nin0))
  have f975 := f962.keep K971q (ninS n_h (ninS n_l nin0))
  have f976 := f963.keep K971q (ninS n_h (ninS n_l nin0))
  have f977 := f964.keep K971q (ninS n_h (ninS n_l nin0))
  have f978 := f965.keep K971q (ninS n_h (ninS n_l nin0))
  have f979 := f966.keep K971q (ninS n_h (ninS n_l nin0))
  have f980 := f968.keep K971q (ninS (Ne.symm n_ha) (ninS n_al nin0))
  refine Rch.to (U' := T971.setTop (mkF m 101 #[rv a1, iv p1, jv x2, sv, iv p4, .val .null, iv (0 : Int32), iv (3 : Int32), iv (2 : Int32)] [])) st971 ?_
  refine Rch.go (U' := T971.setTop (mkF m 103 #[rv a1, iv p1, jv x2, sv, iv p4, .val .null, iv (0 : Int32), iv (3 : Int32), iv (2 : Int32)] [(.int (2 : Int32))])) (fun _ k => XS.iload X971.here hx rfl (hb hby d18_101) rfl  k) ?_
  refine Rch.fin X971 hlk (v := some (.int (2 : Int32))) (fun h => by rw [hret] at h; cases h) rfl (by decide) (by decide) (fun fs hr => retI X971 hx hret (hb hby d18_103) hr) ?_
  have hfr : own_free own_g0 4 (own_s p1) = 2 := by rw [hsj]; simp only [own_free, ↓reduceIte]; rfl
  refine ⟨_, _, by rw [hfr]; rfl, N971, z972, ⟨f973, f974, f975, f976, f977, f978, f979, (by unfold own_add; rw [hfr]; exact Vh971), f980, Vl971, ⟨by unfold own_add; rw [List.length_set, lg], by rw [List.length_set, la], by rw [List.length_set, ll]⟩, ⟨g_a1, g_bh, g_ba, g_bl⟩, ⟨n_h, n_a, n_l⟩, n_ha, n_hl, n_al⟩⟩
set_option maxRecDepth 65536 in
set_option maxHeartbeats 40000000 in
theorem tailE3 {p : Program} {l : Launch} {e : Env} {s : State} {m : MethodId} {args : Array Value} {below : List Frame} {meth : Method} {c : Code} {T0 : State} {locs : List Loc} {Z : State} {a0 : Array Value} {h0 : Heap} {n0 : Nat}  (a1 : Addr) (bh : Addr) (ba : Addr) (bl : Addr) (kh : ClassId) (ka : ClassId) (kl : ClassId) (p1 : Int32) (x2 : Int64) (p4 : Int32)
    (X0 : Stand p l e ({ frames := 2, cells := 3, slots := 12, locals := 64 } : Room) s m args below meth c T0 locs 3 12) (hx : p.tables.exec = Jvm.exec) (hZ : Z.Warmed39 s.vm) (hw : ∀ d ∈ tables_1, d.before a0 Z = true) (hby : c.code = prog_36_method_17_code) (hml : c.maxLocals = 9) (hown : s.vm.findClass cST = some m.cls) (hret : meth.sig.returnType = some .int) (hlk : meth.locks = false) (e0 : T0.heap = h0) (N0 : Fr n0 locs) (Z0 : n0 ≤ h0.size) (B : Tb Z h0 n0 a1 bh ba bl kh ka kl (0 : Int32) own_g0 [(.int (0 : Int32)), (.int (0 : Int32)), (.int (0 : Int32)), (.int (0 : Int32))] [(.int (0 : Int32)), (.int (0 : Int32)), (.int (0 : Int32)), (.int (0 : Int32))]) (hsj : own_s p1 = 3) :
    Rch p e below (Fin s below (fun v h L => ∃ (va' vl' : List Value), v = some (.int (Int32.ofNat (own_free own_g0 4 (own_s p1)))) ∧ Fr n0 L ∧ n0 ≤ h.size ∧ Tb Z h n0 a1 bh ba bl kh ka kl ((0 : Int32) + (1 : Int32)) (own_add own_g0 (own_s p1) x2) va' vl') 3 12) (T0.setTop (mkF m 46 #[rv a1, iv p1, jv x2, sv, iv p4, .val .null, iv (0 : Int32), iv (3 : Int32), iv (3 : Int32)] [])) := by
  obtain ⟨E_a1, F_a1_count, F_a1_handles, F_a1_hashes, F_a1_lengths, F_a1_outside, F_a1_expiries, V_bh, V_ba, V_bl, ⟨lg, la, ll⟩, ⟨g_a1, g_bh, g_ba, g_bl⟩, ⟨n_h, n_a, n_l⟩, n_ha, n_hl, n_al⟩ := B
  refine Rch.go (U' := T0.setTop (mkF m 47 #[rv a1, iv p1, jv x2, sv, iv p4, .val .null, iv (0 : Int32), iv (3 : Int32), iv (3 : Int32)] [(.ref a1)])) (fun _ k => XS.aloadN X0.here hx rfl (hb hby d18_46) rfl rfl k) ?_
  obtain ⟨T981, X981, e981, st981⟩ := getF X0 hx hZ hown (host := "") (Or.inl (wi hw 26 rfl)) Via.refl e0 F_a1_handles (g := (mkF m 47 #[rv a1, iv p1, jv x2, sv, iv p4, .val .null, iv (0 : Int32), iv (3 : Int32), iv (3 : Int32)] [(.ref a1)])) rfl rfl (hb hby d18_47)
  refine Rch.go (U' := T981.setTop (mkF m 50 #[rv a1, iv p1, jv x2, sv, iv p4, .val .null, iv (0 : Int32), iv (3 : Int32), iv (3 : Int32)] [(.ref bh)])) st981 ?_
  refine Rch.go (U' := T981.setTop (mkF m 52 #[rv a1, iv p1, jv x2, sv, iv p4, .val .null, iv (0 : Int32), iv (3 : Int32), iv (3 : Int32)] [(.int (3 : Int32)), (.ref bh)])) (fun _ k => XS.iload X981.here hx rfl (hb hby d18_50) rfl  k) ?_
  obtain ⟨cl982, Ar982, qk982, Sz982, Mn982, Hs982, Gf982⟩ := id V_bh
  have ib982 : ¬ ((3 : Int32) < 0 ∨ cl982.slots.size ≤ ((3 : Int32)).toNatClampNeg) := inb_of Sz982 ⟨by decide, by decide⟩
  have ea982 : cl982.slots[((3 : Int32)).toNatClampNeg]? = some (.long (0 : Int64)) := Has.at Hs982 ib982 rfl
  refine Rch.go (U' := T981.setTop (mkF m 53 #[rv a1, iv p1, jv x2, sv, iv p4, .val .null, iv (0 : Int32), iv (3 : Int32), iv (3 : Int32)] [(.long (0 : Int64))])) (fun _ k => X981.laload hx (j := (3 : Int32)) (v := (.long (0 : Int64))) (by rw [e981]; exact Ar982.1) (State.isArrayOf_alike hZ.alike Ar982.2.1) Ar982.2.2 ib982 ea982 (g := (mkF m 52 #[rv a1, iv p1, jv x2, sv, iv p4, .val .null, iv (0 : Int32), iv (3 : Int32), iv (3 : Int32)] [(.int (3 : Int32)), (.ref bh)])) rfl rfl (hb hby d18_52) _ k) ?_
  refine Rch.go (U' := T981.setTop (mkF m 54 #[rv a1, iv p1, jv x2, sv, iv p4, .val .null, iv (0 : Int32), iv (3 : Int32), iv (3 : Int32)] [(.long (0 : Int64)), (.long (0 : Int64))])) (fun _ k => XS.lconst X981.here hx rfl (hb hby d18_53) k) ?_
  refine Rch.go (U' := T981.setTop (mkF m 55 #[rv a1, iv p1, jv x2, sv, iv p4, .val .null, iv (0 : Int32), iv (3 : Int32), iv (3 : Int32)] [(.int (XT.cmpL (0 : Int64) (0 : Int64)))])) (fun _ k => XT.lcmp X981.here hx rfl (hb hby d18_54) rfl k) ?_
  have br983 : (0 : Int64) = (0 : Int64) := (by decide)
  refine Rch.go (U' := T981.setTop (mkF m 70 #[rv a1, iv p1, jv x2, sv, iv p4, .val .null, iv (0 : Int32), iv (3 : Int32), iv (3 : Int32)] [])) (fun _ k => XS.ifYes X981.here hx rfl (pc0 := 55) (pc' := 70) rfl (hb hby d18_55) rfl (XT.ll_eq_t br983) (by decide) (by decide) k) ?_
  refine Rch.go (U' := T981.setTop (mkF m 71 #[rv a1, iv p1, jv x2, sv, iv p4, .val .null, iv (0 : Int32), iv (3 : Int32), iv (3 : Int32)] [(.ref a1)])) (fun _ k => XS.aloadN X981.here hx rfl (hb hby d18_70) rfl rfl k) ?_
  obtain ⟨T984, X984, e984, st984⟩ := getF X981 hx hZ hown (host := "") (Or.inl (wi hw 36 rfl)) Via.refl e981 F_a1_hashes (g := (mkF m 71 #[rv a1, iv p1, jv x2, sv, iv p4, .val .null, iv (0 : Int32), iv (3 : Int32), iv (3 : Int32)] [(.ref a1)])) rfl rfl (hb hby d18_71)
  refine Rch.go (U' := T984.setTop (mkF m 74 #[rv a1, iv p1, jv x2, sv, iv p4, .val .null, iv (0 : Int32), iv (3 : Int32), iv (3 : Int32)] [(.ref ba)])) st984 ?_
  refine Rch.go (U' := T984.setTop (mkF m 76 #[rv a1, iv p1, jv x2, sv, iv p4, .val .null, iv (0 : Int32), iv (3 : Int32), iv (3 : Int32)] [(.int (3 : Int32)), (.ref ba)])) (fun _ k => XS.iload X984.here hx rfl (hb hby d18_74) rfl  k) ?_
  refine Rch.go (U' := T984.setTop (mkF m 77 #[rv a1, iv p1, jv x2, sv, iv p4, .val .null, iv (0 : Int32), iv (3 : Int32), iv (3 : Int32)] [(.int p1), (.int (3 : Int32)), (.ref ba)])) (fun _ k => XS.iloadN X984.here hx rfl (hb hby d18_76) rfl  k) ?_
  obtain ⟨cl985, Ar985, qk985, Sz985, Mn985, Hs985, Gf985⟩ := id V_ba
  have ib985 : ¬ ((3 : Int32) < 0 ∨ cl985.slots.size ≤ ((3 : Int32)).toNatClampNeg) := inb_of Sz985 ⟨by decide, by decide⟩
  obtain ⟨T985, h985, X985, e985, W985, st985⟩ := stI X984 hx hZ e984 Ar985 (j := (3 : Int32)) ib985 (g := (mkF m 77 #[rv a1, iv p1, jv x2, sv, iv p4, .val .null, iv (0 : Int32), iv (3 : Int32), iv (3 : Int32)] [(.int p1), (.int (3 : Int32)), (.ref ba)])) rfl rfl (hb hby d18_77)
  have V985 : Arv Z h985 ba ka .int (4 : Int32) ([(.int (0 : Int32)), (.int (0 : Int32)), (.int (0 : Int32)), (.int (0 : Int32))].set 3 (.int p1)) (.int (0 : Int32)) := Arv.set Ar985 qk985 Sz985 Mn985 Hs985 Gf985 rfl W985 3 rfl (by rw [la]; decide)
  have f986 := E_a1.wr W985
  have f987 := F_a1_count.other W985 (Or.inl n_a)
  have f988 := F_a1_handles.other W985 (Or.inl n_a)
  have f989 := F_a1_hashes.other W985 (Or.inl n_a)
  have f990 := F_a1_lengths.other W985 (Or.inl n_a)
  have f991 := F_a1_outside.other W985 (Or.inl n_a)
  have f992 := F_a1_expiries.other W985 (Or.inl n_a)
  have f993 := V_bh.other W985 n_ha
  have f994 := V_bl.other W985 (Ne.symm n_al)
  have N985 := Fr.snoc X985 N0 g_ba
  have z995 := Nat.le_trans Z0 (Keep.of_wr W985).1
  refine Rch.go (U' := T985.setTop (mkF m 78 #[rv a1, iv p1, jv x2, sv, iv p4, .val .null, iv (0 : Int32), iv (3 : Int32), iv (3 : Int32)] [])) st985 ?_
  refine Rch.go (U' := T985.setTop (mkF m 79 #[rv a1, iv p1, jv x2, sv, iv p4, .val .null, iv (0 : Int32), iv (3 : Int32), iv (3 : Int32)] [(.ref a1)])) (fun _ k => XS.aloadN X985.here hx rfl (hb hby d18_78) rfl rfl k) ?_
  refine Rch.go (U' := T985.setTop (mkF m 80 #[rv a1, iv p1, jv x2, sv, iv p4, .val .null, iv (0 : Int32), iv (3 : Int32), iv (3 : Int32)] [(.ref a1), (.ref a1)])) (fun _ k => XS.dup X985.here hx rfl (hb hby d18_79) rfl rfl k) ?_
  obtain ⟨T996, X996, e996, st996⟩ := getF X985 hx hZ hown (host := "") (Or.inl (wi hw 19 rfl)) Via.refl e985 f987 (g := (mkF m 80 #[rv a1, iv p1, jv x2, sv, iv p4, .val .null, iv (0 : Int32), iv (3 : Int32), iv (3 : Int32)] [(.ref a1), (.ref a1)])) rfl rfl (hb hby d18_80)
  refine Rch.go (U' := T996.setTop (mkF m 83 #[rv a1, iv p1, jv x2, sv, iv p4, .val .null, iv (0 : Int32), iv (3 : Int32), iv (3 : Int32)] [(.int (0 : Int32)), (.ref a1)])) st996 ?_
  refine Rch.go (U' := T996.setTop (mkF m 84 #[rv a1, iv p1, jv x2, sv, iv p4, .val .null, iv (0 : Int32), iv (3 : Int32), iv (3 : Int32)] [(.int (1 : Int32)), (.int (0 : Int32)), (.ref a1)])) (fun _ k => XS.iconst X996.here hx rfl (hb hby d18_83) k) ?_
  refine Rch.go (U' := T996.setTop (mkF m 85 #[rv a1, iv p1, jv x2, sv, iv p4, .val .null, iv (0 : Int32), iv (3 : Int32), iv (3 : Int32)] [(.int ((0 : Int32) + (1 : Int32))), (.ref a1)])) (fun _ k => XS.iadd X996.here hx rfl (hb hby d18_84) rfl k) ?_
  rw [(by decide : ((0 : Int32) + (1 : Int32)) = (1 : Int32))]
  obtain ⟨T997, h997, X997, e997, W997, st997⟩ := putF X996 hx hZ hown (host := "") (Or.inl (wi hw 19 rfl)) Via.refl e996 f987 f986 (Or.inl (wi hw 20 rfl)) (wi hw 1 rfl) (ty := .int) (by decide) rfl rfl (g := (mkF m 85 #[rv a1, iv p1, jv x2, sv, iv p4, .val .null, iv (0 : Int32), iv (3 : Int32), iv (3 : Int32)] [(.int (1 : Int32)), (.ref a1)])) rfl rfl (hb hby d18_85)
  have F997 := f987.same W997
  have f998 := f986.wr W997
  have f999 := f988.other W997 (Or.inr (slot_ne (Or.inl (wi hw 27 rfl)) (Or.inl (wi hw 20 rfl)) (by decide) (t := (.array .long)) (t' := .int) (by decide) (by decide)))
  have f1000 := f989.other W997 (Or.inr (slot_ne (Or.inl (wi hw 37 rfl)) (Or.inl (wi hw 20 rfl)) (by decide) (t := (.array .int)) (t' := .int) (by decide) (by decide)))
  have f1001 := f990.other W997 (Or.inr (slot_ne (Or.inl (wi hw 39 rfl)) (Or.inl (wi hw 20 rfl)) (by decide) (t := (.array .int)) (t' := .int) (by decide) (by decide)))
  have f1002 := f991.other W997 (Or.inr (slot_ne (Or.inl (wi hw 41 rfl)) (Or.inl (wi hw 20 rfl)) (by decide) (t := (.array (.array .byte))) (t' := .int) (by decide) (by decide)))
  have f1003 := f992.other W997 (Or.inr (slot_ne (Or.inl (wi hw 45 rfl)) (Or.inl (wi hw 20 rfl)) (by decide) (t := (.object "java/util/BitSet")) (t' := .int) (by decide) (by decide)))
  have f1004 := f993.other W997 (Ne.symm n_h)
  have f1005 := V985.other W997 (Ne.symm n_a)
  have f1006 := f994.other W997 (Ne.symm n_l)
  have N997 := Fr.snoc X997 N985 g_a1
  have z1007 := Nat.le_trans z995 (Keep.of_wr W997).1
  refine Rch.go (U' := T997.setTop (mkF m 88 #[rv a1, iv p1, jv x2, sv, iv p4, .val .null, iv (0 : Int32), iv (3 : Int32), iv (3 : Int32)] [])) st997 ?_
  refine Rch.go (U' := T997.setTop (mkF m 89 #[rv a1, iv p1, jv x2, sv, iv p4, .val .null, iv (0 : Int32), iv (3 : Int32), iv (3 : Int32)] [(.ref a1)])) (fun _ k => XS.aloadN X997.here hx rfl (hb hby d18_88) rfl rfl k) ?_
  refine Rch.go (U' := T997.setTop (mkF m 91 #[rv a1, iv p1, jv x2, sv, iv p4, .val .null, iv (0 : Int32), iv (3 : Int32), iv (3 : Int32)] [(.int (3 : Int32)), (.ref a1)])) (fun _ k => XS.iload X997.here hx rfl (hb hby d18_89) rfl  k) ?_
  refine Rch.go (U' := T997.setTop (mkF m 92 #[rv a1, iv p1, jv x2, sv, iv p4, .val .null, iv (0 : Int32), iv (3 : Int32), iv (3 : Int32)] [(.long x2), (.int (3 : Int32)), (.ref a1)])) (fun _ k => XS.lloadN X997.here hx rfl (hb hby d18_91) rfl  k) ?_
  refine Rch.go (U' := T997.setTop (mkF m 94 #[rv a1, iv p1, jv x2, sv, iv p4, .val .null, iv (0 : Int32), iv (3 : Int32), iv (3 : Int32)] [(.int p4), (.long x2), (.int (3 : Int32)), (.ref a1)])) (fun _ k => XS.iload X997.here hx rfl (hb hby d18_92) rfl  k) ?_
  refine Rch.go (U' := T997.setTop (mkF m 96 #[rv a1, iv p1, jv x2, sv, iv p4, .val .null, iv (0 : Int32), iv (3 : Int32), iv (3 : Int32)] [.null, (.int p4), (.long x2), (.int (3 : Int32)), (.ref a1)])) (fun _ k => XS.aload X997.here hx rfl (hb hby d18_94) rfl rfl k) ?_
  refine Rch.go (U' := T997.setTop (mkF m 98 #[rv a1, iv p1, jv x2, sv, iv p4, .val .null, iv (0 : Int32), iv (3 : Int32), iv (3 : Int32)] [(.int (0 : Int32)), .null, (.int p4), (.long x2), (.int (3 : Int32)), (.ref a1)])) (fun _ k => XS.iload X997.here hx rfl (hb hby d18_96) rfl  k) ?_
  obtain ⟨cq1008, kq1008, q1008a, q1008b, q1008c⟩ := isOf hZ e997 f998
  obtain ⟨_, _, ⟨T1008, L1008, k1008, n1008⟩, -, X1008, ⟨Lc1008, hQ1008, l1008, y1008, z1008⟩, st1008⟩ := X997.virtualBack hx (y := yS) (z := yS) hown (mvT hZ (wi hw 50 rfl)) (mvT hZ (wi hw 51 rfl)) (notFace_of_selects (args := #[]) (mvT hZ (wi hw 53 rfl))) (mvT hZ (wi hw 53 rfl)) (mvT hZ (wi hw 52 rfl)) (by decide) (backOf (W := 0) (rmS3 l Z a0 hw [] a1 bh ba bl kh ka kl (1 : Int32) own_g0 ([(.int (0 : Int32)), (.int (0 : Int32)), (.int (0 : Int32)), (.int (0 : Int32))].set 3 (.int p1)) [(.int (0 : Int32)), (.int (0 : Int32)), (.int (0 : Int32)), (.int (0 : Int32))] x2 p4 h997 n0 z1007 ⟨f998, F997, f999, f1000, f1001, f1002, f1003, f1004, f1005, f1006, ⟨lg, (by rw [List.length_set, la]), ll⟩, ⟨g_a1, g_bh, g_ba, g_bl⟩, ⟨n_h, n_a, n_l⟩, n_ha, n_hl, n_al⟩) hZ (wi hw 54 rfl) (wi hw 2 rfl) (by decide) (by decide)) q1008a q1008c (g := (mkF m 98 #[rv a1, iv p1, jv x2, sv, iv p4, .val .null, iv (0 : Int32), iv (3 : Int32), iv (3 : Int32)] [(.int (0 : Int32)), .null, (.int p4), (.long x2), (.int (3 : Int32)), (.ref a1)])) rfl (by rw [hml]; rfl) (Steps.refl _) (argsL := [(.int (3 : Int32)), (.long x2), (.int p4), .null, (.int (0 : Int32))]) (rest := []) (lenOf pd_10 rfl) rfl (by show 2 * 0 + _ ≤ _; exact Nat.le_of_eq rfl) (hb hby d18_98) (fun _ _ => ⟨rfl, e997, (by decide : 3 + 0 ≤ _), (by decide : 12 + 0 ≤ _)⟩)
  dsimp only [Pt.U, Pt.locs, Pt.cells, Pt.slots] at X1008 l1008 y1008 z1008 st1008 hQ1008
  subst l1008 y1008 z1008
  obtain ⟨rfl, N1008q, K1008q, Vh1008, Vl1008⟩ := hQ1008
  have N1008 := Fr.app N997 N1008q
  have z1009 := Nat.le_trans z1007 K1008q.1
  have f1010 := f998.keep K1008q
  have f1011 := F997.keep K1008q (ninS n_h (ninS n_l nin0))
  have f1012 := f999.keep K1008q (ninS n_h (ninS n_l nin0))
  have f1013 := f1000.keep K1008q (ninS n_h (ninS n_l nin0))
  have f1014 := f1001.keep K1008q (ninS n_h (ninS n_l nin0))
  have f1015 := f1002.keep K1008q (ninS n_h (ninS n_l nin0))
  have f1016 := f1003.keep K1008q (ninS n_h (ninS n_l nin0))
  have f1017 := f1005.keep K1008q (ninS (Ne.symm n_ha) (ninS n_al nin0))
  refine Rch.to (U' := T1008.setTop (mkF m 101 #[rv a1, iv p1, jv x2, sv, iv p4, .val .null, iv (0 : Int32), iv (3 : Int32), iv (3 : Int32)] [])) st1008 ?_
  refine Rch.go (U' := T1008.setTop (mkF m 103 #[rv a1, iv p1, jv x2, sv, iv p4, .val .null, iv (0 : Int32), iv (3 : Int32), iv (3 : Int32)] [(.int (3 : Int32))])) (fun _ k => XS.iload X1008.here hx rfl (hb hby d18_101) rfl  k) ?_
  refine Rch.fin X1008 hlk (v := some (.int (3 : Int32))) (fun h => by rw [hret] at h; cases h) rfl (by decide) (by decide) (fun fs hr => retI X1008 hx hret (hb hby d18_103) hr) ?_
  have hfr : own_free own_g0 4 (own_s p1) = 3 := by rw [hsj]; simp only [own_free, ↓reduceIte]; rfl
  refine ⟨_, _, by rw [hfr]; rfl, N1008, z1009, ⟨f1010, f1011, f1012, f1013, f1014, f1015, f1016, (by unfold own_add; rw [hfr]; exact Vh1008), f1017, Vl1008, ⟨by unfold own_add; rw [List.length_set, lg], by rw [List.length_set, la], by rw [List.length_set, ll]⟩, ⟨g_a1, g_bh, g_ba, g_bl⟩, ⟨n_h, n_a, n_l⟩, n_ha, n_hl, n_al⟩⟩
theorem ef_rmAN (m : MethodId) (a1 : Addr) (p1 : Int32) (x2 : Int64) (p4 : Int32) : entryFrame m #[(.ref a1), (.int p1), (.long x2), (.int p4), .null, (.int (0 : Int32))] 9 = mkF m 0 #[rv a1, iv p1, jv x2, sv, iv p4, .val .null, iv (0 : Int32), uv, uv] [] := by first | (simp [entryFrame, mkF, argsToLocals, Value.category]; done) | rfl
def Q_rmAN (Z : State) (a1 : Addr) (bh : Addr) (ba : Addr) (bl : Addr) (kh : ClassId) (ka : ClassId) (kl : ClassId) (cn : Int32) (gs : List Int64) (va : List Value) (vl : List Value) (p1 : Int32) (x2 : Int64) (p4 : Int32) (h0 : Heap) (n0 : Nat) (v : Option Value) (h : Heap) (L : List Loc) : Prop := ∃ (va' vl' : List Value), v = some (.int (Int32.ofNat (own_free gs 4 (own_s p1)))) ∧ Fr n0 L ∧ n0 ≤ h.size ∧ Tb Z h n0 a1 bh ba bl kh ka kl (cn + (1 : Int32)) (own_add gs (own_s p1) x2) va' vl'
set_option maxRecDepth 65536 in
set_option maxHeartbeats 40000000 in
theorem rmAN (l : Launch) (Z : State) (a0 : Array Value) (hw : ∀ d ∈ tables_1, d.before a0 Z = true) (ws : List Jvm.Cond) (a1 : Addr) (bh : Addr) (ba : Addr) (bl : Addr) (kh : ClassId) (ka : ClassId) (kl : ClassId) (cn : Int32) (gs : List Int64) (va : List Value) (vl : List Value) (p1 : Int32) (x2 : Int64) (p4 : Int32) (h0 : Heap) (n0 : Nat) (Z0 : n0 ≤ h0.size) (B : Tb Z h0 n0 a1 bh ba bl kh ka kl cn gs va vl) (hz : gs.getD 0 0 = 0 ∨ gs.getD 1 0 = 0 ∨ gs.getD 2 0 = 0 ∨ gs.getD 3 0 = 0) (hcn : ¬ ((12 : Int32) < ((4 : Int32) * (cn + (1 : Int32))))) :
    MetFree l yA (head1 (Jvm.Cond.code yA prog_36_method_17_code 9 (some .int) :: ws) ({ frames := 2, cells := 3, slots := 12, locals := 64 } : Room)) (fun a U => a = #[(.ref a1), (.int p1), (.long x2), (.int p4), .null, (.int (0 : Int32))] ∧ Z.Warmed39 U.vm ∧ U.heap = h0) (fun _ _ _ _ _ => True) (fun _ U o U' => ∃ v L, o = .returned v ∧ Q_rmAN Z a1 bh ba bl kh ka kl cn gs va vl p1 x2 p4 h0 n0 v U'.heap L ∧ FrameEnd U o U' L ({ frames := 2, cells := 3, slots := 12, locals := 64 } : Room).cells ({ frames := 2, cells := 3, slots := 12, locals := 64 } : Room).slots) := by
  refine MetFree.of_bodySF (plainFor_of_name pn_com_example_slotwise_slotwise_keyspace_SlotTable) hisR ?_
  intro p e s m args below meth c s₁ Bd hml0 hP hK
  obtain ⟨rfl, hZ, hh⟩ := hP
  have hx := Bd.exec
  have hby := Bd.bytes
  have hml : c.maxLocals = 9 := hml0
  have hown : s.vm.findClass cST = some m.cls := findClass_of_methodNamed Bd.named
  have hnm := (name_of_methodNamed Bd.named Bd.method).1
  have hret := Bd.returns
  have hlk : meth.locks = false := BodyLoose.notSynchronized Bd
  have X0 : Stand p l e ({ frames := 2, cells := 3, slots := 12, locals := 64 } : Room) s m #[(.ref a1), (.int p1), (.long x2), (.int p4), .null, (.int (0 : Int32))] below meth c s₁ [] 0 0 := Stand.of_body Bd
  have e0 : s₁.heap = h0 := by rw [← hh, Bd.state]; rfl
  have N0 := Fr.nil n0
  obtain ⟨E_a1, F_a1_count, F_a1_handles, F_a1_hashes, F_a1_lengths, F_a1_outside, F_a1_expiries, V_bh, V_ba, V_bl, ⟨lg, la, ll⟩, ⟨g_a1, g_bh, g_ba, g_bl⟩, ⟨n_h, n_a, n_l⟩, n_ha, n_hl, n_al⟩ := B
  refine Rch.body (Q := Q_rmAN Z a1 bh ba bl kh ka kl cn gs va vl p1 x2 p4 h0 n0) (U' := s₁.setTop (mkF m 0 #[rv a1, iv p1, jv x2, sv, iv p4, .val .null, iv (0 : Int32), uv, uv] [])) (fun t k => castTop (ef_rmAN m a1 p1 x2 p4) k) ?_
  refine Rch.go (U' := s₁.setTop (mkF m 1 #[rv a1, iv p1, jv x2, sv, iv p4, .val .null, iv (0 : Int32), uv, uv] [(.int (4 : Int32))])) (fun _ k => XS.iconst X0.here hx rfl (hb hby d18_0) k) ?_
  refine Rch.go (U' := s₁.setTop (mkF m 2 #[rv a1, iv p1, jv x2, sv, iv p4, .val .null, iv (0 : Int32), uv, uv] [(.ref a1), (.int (4 : Int32))])) (fun _ k => XS.aloadN X0.here hx rfl (hb hby d18_1) rfl rfl k) ?_
  obtain ⟨T1018, X1018, e1018, st1018⟩ := getF X0 hx hZ hown (host := "") (Or.inl (wi hw 19 rfl)) Via.refl e0 F_a1_count (g := (mkF m 2 #[rv a1, iv p1, jv x2, sv, iv p4, .val .null, iv (0 : Int32), uv, uv] [(.ref a1), (.int (4 : Int32))])) rfl rfl (hb hby d18_2)
  refine Rch.go (U' := T1018.setTop (mkF m 5 #[rv a1, iv p1, jv x2, sv, iv p4, .val .null, iv (0 : Int32), uv, uv] [(.int cn), (.int (4 : Int32))])) st1018 ?_
  refine Rch.go (U' := T1018.setTop (mkF m 6 #[rv a1, iv p1, jv x2, sv, iv p4, .val .null, iv (0 : Int32), uv, uv] [(.int (1 : Int32)), (.int cn), (.int (4 : Int32))])) (fun _ k => XS.iconst X1018.here hx rfl (hb hby d18_5) k) ?_
  refine Rch.go (U' := T1018.setTop (mkF m 7 #[rv a1, iv p1, jv x2, sv, iv p4, .val .null, iv (0 : Int32), uv, uv] [(.int (cn + (1 : Int32))), (.int (4 : Int32))])) (fun _ k => XS.iadd X1018.here hx rfl (hb hby d18_6) rfl k) ?_
  refine Rch.go (U' := T1018.setTop (mkF m 8 #[rv a1, iv p1, jv x2, sv, iv p4, .val .null, iv (0 : Int32), uv, uv] [(.int ((4 : Int32) * (cn + (1 : Int32))))])) (fun _ k => XS.imul X1018.here hx rfl (hb hby d18_7) rfl k) ?_
  refine Rch.go (U' := T1018.setTop (mkF m 9 #[rv a1, iv p1, jv x2, sv, iv p4, .val .null, iv (0 : Int32), uv, uv] [(.int (3 : Int32)), (.int ((4 : Int32) * (cn + (1 : Int32))))])) (fun _ k => XS.iconst X1018.here hx rfl (hb hby d18_8) k) ?_
  refine Rch.go (U' := T1018.setTop (mkF m 10 #[rv a1, iv p1, jv x2, sv, iv p4, .val .null, iv (0 : Int32), uv, uv] [(.ref a1), (.int (3 : Int32)), (.int ((4 : Int32) * (cn + (1 : Int32))))])) (fun _ k => XS.aloadN X1018.here hx rfl (hb hby d18_9) rfl rfl k) ?_
  obtain ⟨cq1019, kq1019, q1019a, q1019b, q1019c⟩ := isOf hZ e1018 E_a1
  obtain ⟨_, _, ⟨T1019, L1019, k1019, n1019⟩, -, X1019, ⟨Lc1019, hQ1019, l1019, y1019, z1019⟩, st1019⟩ := X1018.virtualBack hx (y := yP) (z := yP) hown (mvT hZ (wi hw 21 rfl)) (mvT hZ (wi hw 22 rfl)) (notFace_of_selects (args := #[]) (mvT hZ (wi hw 24 rfl))) (mvT hZ (wi hw 24 rfl)) (mvT hZ (wi hw 23 rfl)) (by decide) (backOf (W := 2) (rmP4 l Z a0 hw [] a1 bh kh gs h0 n0 Z0 F_a1_handles V_bh) hZ (wi hw 25 rfl) (wi hw 2 rfl) (by decide) (by decide)) q1019a q1019c (g := (mkF m 10 #[rv a1, iv p1, jv x2, sv, iv p4, .val .null, iv (0 : Int32), uv, uv] [(.ref a1), (.int (3 : Int32)), (.int ((4 : Int32) * (cn + (1 : Int32))))])) rfl (by rw [hml]; rfl) (Steps.refl _) (argsL := []) (rest := [(.int (3 : Int32)), (.int ((4 : Int32) * (cn + (1 : Int32))))]) (lenOf pd_7 rfl) rfl (by show 2 * 0 + _ ≤ _; exact Nat.le_of_eq rfl) (hb hby d18_10) (fun _ _ => ⟨rfl, e1018, (by decide : 0 + 0 ≤ _), (by decide : 0 + 0 ≤ _)⟩)
  dsimp only [Pt.U, Pt.locs, Pt.cells, Pt.slots] at X1019 l1019 y1019 z1019 st1019 hQ1019
  subst l1019 y1019 z1019
  obtain ⟨rfl, N1019q, e1019⟩ := hQ1019
  have N1019 := Fr.app N0 N1019q
  refine Rch.to (U' := T1019.setTop (mkF m 13 #[rv a1, iv p1, jv x2, sv, iv p4, .val .null, iv (0 : Int32), uv, uv] [(.int (4 : Int32)), (.int (3 : Int32)), (.int ((4 : Int32) * (cn + (1 : Int32))))])) st1019 ?_
  refine Rch.go (U' := T1019.setTop (mkF m 14 #[rv a1, iv p1, jv x2, sv, iv p4, .val .null, iv (0 : Int32), uv, uv] [(.int ((3 : Int32) * (4 : Int32))), (.int ((4 : Int32) * (cn + (1 : Int32))))])) (fun _ k => XS.imul X1019.here hx rfl (hb hby d18_13) rfl k) ?_
  rw [(by decide : ((3 : Int32) * (4 : Int32)) = (12 : Int32))]
  have br1020 : ¬ ((12 : Int32) < ((4 : Int32) * (cn + (1 : Int32)))) := hcn
  refine Rch.go (U' := T1019.setTop (mkF m 31 #[rv a1, iv p1, jv x2, sv, iv p4, .val .null, iv (0 : Int32), uv, uv] [])) (fun _ k => XS.icmpYes X1019.here hx rfl (pc0 := 14) (pc' := 31) rfl (hb hby d18_14) rfl (XT.ii_le_t br1020) (by decide) (by decide) k) ?_
  refine Rch.go (U' := T1019.setTop (mkF m 32 #[rv a1, iv p1, jv x2, sv, iv p4, .val .null, iv (0 : Int32), uv, uv] [(.ref a1)])) (fun _ k => XS.aloadN X1019.here hx rfl (hb hby d18_31) rfl rfl k) ?_
  obtain ⟨T1021, X1021, e1021, st1021⟩ := getF X1019 hx hZ hown (host := "") (Or.inl (wi hw 26 rfl)) Via.refl e1019 F_a1_handles (g := (mkF m 32 #[rv a1, iv p1, jv x2, sv, iv p4, .val .null, iv (0 : Int32), uv, uv] [(.ref a1)])) rfl rfl (hb hby d18_32)
  refine Rch.go (U' := T1021.setTop (mkF m 35 #[rv a1, iv p1, jv x2, sv, iv p4, .val .null, iv (0 : Int32), uv, uv] [(.ref bh)])) st1021 ?_
  obtain ⟨cl1022, Ar1022, -, Sz1022, Mn1022, -, -⟩ := id V_bh
  refine Rch.go (U' := T1021.setTop (mkF m 36 #[rv a1, iv p1, jv x2, sv, iv p4, .val .null, iv (0 : Int32), uv, uv] [(.int cl1022.slots.size.toInt32)])) (fun _ k => X1021.arraylength hx (by rw [e1021]; exact Ar1022.1) (State.isArrayOf_alike hZ.alike Ar1022.2.1) (g := (mkF m 35 #[rv a1, iv p1, jv x2, sv, iv p4, .val .null, iv (0 : Int32), uv, uv] [(.ref bh)])) rfl rfl (hb hby d18_35) _ k) ?_
  rw [len_of Sz1022 Mn1022]
  refine Rch.go (U' := T1021.setTop (mkF m 37 #[rv a1, iv p1, jv x2, sv, iv p4, .val .null, iv (0 : Int32), uv, uv] [(.int (1 : Int32)), (.int (4 : Int32))])) (fun _ k => XS.iconst X1021.here hx rfl (hb hby d18_36) k) ?_
  refine Rch.go (U' := T1021.setTop (mkF m 38 #[rv a1, iv p1, jv x2, sv, iv p4, .val .null, iv (0 : Int32), uv, uv] [(.int ((4 : Int32) - (1 : Int32)))])) (fun _ k => XS.isub X1021.here hx rfl (hb hby d18_37) rfl k) ?_
  rw [(by decide : ((4 : Int32) - (1 : Int32)) = (3 : Int32))]
  refine Rch.go (U' := T1021.setTop (mkF m 40 #[rv a1, iv p1, jv x2, sv, iv p4, .val .null, iv (0 : Int32), iv (3 : Int32), uv] [])) (fun _ k => XS.istore X1021.here hx rfl (hb hby d18_38) rfl (l' := #[rv a1, iv p1, jv x2, sv, iv p4, .val .null, iv (0 : Int32), iv (3 : Int32), uv]) rfl k) ?_
  refine Rch.go (U' := T1021.setTop (mkF m 41 #[rv a1, iv p1, jv x2, sv, iv p4, .val .null, iv (0 : Int32), iv (3 : Int32), uv] [(.int p1)])) (fun _ k => XS.iloadN X1021.here hx rfl (hb hby d18_40) rfl  k) ?_
  refine Rch.go (U' := T1021.setTop (mkF m 43 #[rv a1, iv p1, jv x2, sv, iv p4, .val .null, iv (0 : Int32), iv (3 : Int32), uv] [(.int (3 : Int32)), (.int p1)])) (fun _ k => XS.iload X1021.here hx rfl (hb hby d18_41) rfl  k) ?_
  refine Rch.go (U' := T1021.setTop (mkF m 44 #[rv a1, iv p1, jv x2, sv, iv p4, .val .null, iv (0 : Int32), iv (3 : Int32), uv] [(.int (p1 &&& (3 : Int32)))])) (fun _ k => XS.iand X1021.here hx rfl (hb hby d18_43) rfl k) ?_
  generalize hpl : (p1 &&& (3 : Int32)) = pl
  refine Rch.go (U' := T1021.setTop (mkF m 46 #[rv a1, iv p1, jv x2, sv, iv p4, .val .null, iv (0 : Int32), iv (3 : Int32), iv pl] [])) (fun _ k => XS.istore X1021.here hx rfl (hb hby d18_44) rfl (l' := #[rv a1, iv p1, jv x2, sv, iv p4, .val .null, iv (0 : Int32), iv (3 : Int32), iv pl]) rfl k) ?_
  rcases own_s4 p1 with ⟨q, q'⟩ | ⟨q, q'⟩ | ⟨q, q'⟩ | ⟨q, q'⟩ <;> rw [hpl] at q <;> subst q
  · exact tailN0 a1 bh ba bl kh ka kl cn gs va vl p1 x2 p4 X1021 hx hZ hw hby hml hown hret hlk e1021 N1019 Z0 ⟨E_a1, F_a1_count, F_a1_handles, F_a1_hashes, F_a1_lengths, F_a1_outside, F_a1_expiries, V_bh, V_ba, V_bl, ⟨lg, la, ll⟩, ⟨g_a1, g_bh, g_ba, g_bl⟩, ⟨n_h, n_a, n_l⟩, n_ha, n_hl, n_al⟩ hz q'
  · exact tailN1 a1 bh ba bl kh ka kl cn gs va vl p1 x2 p4 X1021 hx hZ hw hby hml hown hret hlk e1021 N1019 Z0 ⟨E_a1, F_a1_count, F_a1_handles, F_a1_hashes, F_a1_lengths, F_a1_outside, F_a1_expiries, V_bh, V_ba, V_bl, ⟨lg, la, ll⟩, ⟨g_a1, g_bh, g_ba, g_bl⟩, ⟨n_h, n_a, n_l⟩, n_ha, n_hl, n_al⟩ hz q'
  · exact tailN2 a1 bh ba bl kh ka kl cn gs va vl p1 x2 p4 X1021 hx hZ hw hby hml hown hret hlk e1021 N1019 Z0 ⟨E_a1, F_a1_count, F_a1_handles, F_a1_hashes, F_a1_lengths, F_a1_outside, F_a1_expiries, V_bh, V_ba, V_bl, ⟨lg, la, ll⟩, ⟨g_a1, g_bh, g_ba, g_bl⟩, ⟨n_h, n_a, n_l⟩, n_ha, n_hl, n_al⟩ hz q'
  · exact tailN3 a1 bh ba bl kh ka kl cn gs va vl p1 x2 p4 X1021 hx hZ hw hby hml hown hret hlk e1021 N1019 Z0 ⟨E_a1, F_a1_count, F_a1_handles, F_a1_hashes, F_a1_lengths, F_a1_outside, F_a1_expiries, V_bh, V_ba, V_bl, ⟨lg, la, ll⟩, ⟨g_a1, g_bh, g_ba, g_bl⟩, ⟨n_h, n_a, n_l⟩, n_ha, n_hl, n_al⟩ hz q'
theorem ef_rmAE (m : MethodId) (a1 : Addr) (p1 : Int32) (x2 : Int64) (p4 : Int32) : entryFrame m #[(.ref a1), (.int p1), (.long x2), (.int p4), .null, (.int (0 : Int32))] 9 = mkF m 0 #[rv a1, iv p1, jv x2, sv, iv p4, .val .null, iv (0 : Int32), uv, uv] [] := by first | (simp [entryFrame, mkF, argsToLocals, Value.category]; done) | rfl
def Q_rmAE (Z : State) (a1 : Addr) (mv : Int64) (p1 : Int32) (x2 : Int64) (p4 : Int32) (h0 : Heap) (n0 : Nat) (v : Option Value) (h : Heap) (L : List Loc) : Prop := ∃ (bh ba bl : Addr) (kh ka kl : ClassId), ∃ (va' vl' : List Value), v = some (.int (Int32.ofNat (own_free own_g0 4 (own_s p1)))) ∧ Fr n0 L ∧ n0 ≤ h.size ∧ Tb Z h n0 a1 bh ba bl kh ka kl ((0 : Int32) + (1 : Int32)) (own_add own_g0 (own_s p1) x2) va' vl'
set_option maxRecDepth 65536 in
set_option maxHeartbeats 40000000 in
theorem rmAE (l : Launch) (Z : State) (a0 : Array Value) (hw : ∀ d ∈ tables_1, d.before a0 Z = true) (ws : List Jvm.Cond) (a1 : Addr) (mv : Int64) (p1 : Int32) (x2 : Int64) (p4 : Int32) (h0 : Heap) (n0 : Nat) (Z0 : n0 ≤ h0.size) (E_a1 : Exa Z h0 a1 cST) (F_a1_count : Fld Z h0 a1 cST "count" "I" (.int (0 : Int32))) (F_a1_handles : Fld Z h0 a1 cST "handles" "[J" .null) (F_a1_hashes : Fld Z h0 a1 cST "hashes" "[I" .null) (F_a1_lengths : Fld Z h0 a1 cST "lengths" "[I" .null) (F_a1_outside : Fld Z h0 a1 cST "outside" "[[B" .null) (F_a1_marks : Fld Z h0 a1 cST "marks" "Ljava/util/BitSet;" .null) (F_a1_expiries : Fld Z h0 a1 cST "expiries" "Ljava/util/BitSet;" .null) (F_a1_moves : Fld Z h0 a1 cST "moves" "J" (.long mv)) (g_a1 : n0 ≤ a1) :
    MetFree l yA (head1 (Jvm.Cond.code yA prog_36_method_17_code 9 (some .int) :: ws) ({ frames := 2, cells := 3, slots := 12, locals := 64 } : Room)) (fun a U => a = #[(.ref a1), (.int p1), (.long x2), (.int p4), .null, (.int (0 : Int32))] ∧ Z.Warmed39 U.vm ∧ U.heap = h0) (fun _ _ _ _ _ => True) (fun _ U o U' => ∃ v L, o = .returned v ∧ Q_rmAE Z a1 mv p1 x2 p4 h0 n0 v U'.heap L ∧ FrameEnd U o U' L ({ frames := 2, cells := 3, slots := 12, locals := 64 } : Room).cells ({ frames := 2, cells := 3, slots := 12, locals := 64 } : Room).slots) := by
  refine MetFree.of_bodySF (plainFor_of_name pn_com_example_slotwise_slotwise_keyspace_SlotTable) hisR ?_
  intro p e s m args below meth c s₁ Bd hml0 hP hK
  obtain ⟨rfl, hZ, hh⟩ := hP
  have hx := Bd.exec
  have hby := Bd.bytes
  have hml : c.maxLocals = 9 := hml0
  have hown : s.vm.findClass cST = some m.cls := findClass_of_methodNamed Bd.named
  have hnm := (name_of_methodNamed Bd.named Bd.method).1
  have hret := Bd.returns
  have hlk : meth.locks = false := BodyLoose.notSynchronized Bd
  have X0 : Stand p l e ({ frames := 2, cells := 3, slots := 12, locals := 64 } : Room) s m #[(.ref a1), (.int p1), (.long x2), (.int p4), .null, (.int (0 : Int32))] below meth c s₁ [] 0 0 := Stand.of_body Bd
  have e0 : s₁.heap = h0 := by rw [← hh, Bd.state]; rfl
  have N0 := Fr.nil n0
  refine Rch.body (Q := Q_rmAE Z a1 mv p1 x2 p4 h0 n0) (U' := s₁.setTop (mkF m 0 #[rv a1, iv p1, jv x2, sv, iv p4, .val .null, iv (0 : Int32), uv, uv] [])) (fun t k => castTop (ef_rmAE m a1 p1 x2 p4) k) ?_
  refine Rch.go (U' := s₁.setTop (mkF m 1 #[rv a1, iv p1, jv x2, sv, iv p4, .val .null, iv (0 : Int32), uv, uv] [(.int (4 : Int32))])) (fun _ k => XS.iconst X0.here hx rfl (hb hby d18_0) k) ?_
  refine Rch.go (U' := s₁.setTop (mkF m 2 #[rv a1, iv p1, jv x2, sv, iv p4, .val .null, iv (0 : Int32), uv, uv] [(.ref a1), (.int (4 : Int32))])) (fun _ k => XS.aloadN X0.here hx rfl (hb hby d18_1) rfl rfl k) ?_
  obtain ⟨T1023, X1023, e1023, st1023⟩ := getF X0 hx hZ hown (host := "") (Or.inl (wi hw 19 rfl)) Via.refl e0 F_a1_count (g := (mkF m 2 #[rv a1, iv p1, jv x2, sv, iv p4, .val .null, iv (0 : Int32), uv, uv] [(.ref a1), (.int (4 : Int32))])) rfl rfl (hb hby d18_2)
  refine Rch.go (U' := T1023.setTop (mkF m 5 #[rv a1, iv p1, jv x2, sv, iv p4, .val .null, iv (0 : Int32), uv, uv] [(.int (0 : Int32)), (.int (4 : Int32))])) st1023 ?_
  refine Rch.go (U' := T1023.setTop (mkF m 6 #[rv a1, iv p1, jv x2, sv, iv p4, .val .null, iv (0 : Int32), uv, uv] [(.int (1 : Int32)), (.int (0 : Int32)), (.int (4 : Int32))])) (fun _ k => XS.iconst X1023.here hx rfl (hb hby d18_5) k) ?_
  refine Rch.go (U' := T1023.setTop (mkF m 7 #[rv a1, iv p1, jv x2, sv, iv p4, .val .null, iv (0 : Int32), uv, uv] [(.int ((0 : Int32) + (1 : Int32))), (.int (4 : Int32))])) (fun _ k => XS.iadd X1023.here hx rfl (hb hby d18_6) rfl k) ?_
  rw [(by decide : ((0 : Int32) + (1 : Int32)) = (1 : Int32))]
  refine Rch.go (U' := T1023.setTop (mkF m 8 #[rv a1, iv p1, jv x2, sv, iv p4, .val .null, iv (0 : Int32), uv, uv] [(.int ((4 : Int32) * (1 : Int32)))])) (fun _ k => XS.imul X1023.here hx rfl (hb hby d18_7) rfl k) ?_
  rw [(by decide : ((4 : Int32) * (1 : Int32)) = (4 : Int32))]
  refine Rch.go (U' := T1023.setTop (mkF m 9 #[rv a1, iv p1, jv x2, sv, iv p4, .val .null, iv (0 : Int32), uv, uv] [(.int (3 : Int32)), (.int (4 : Int32))])) (fun _ k => XS.iconst X1023.here hx rfl (hb hby d18_8) k) ?_
  refine Rch.go (U' := T1023.setTop (mkF m 10 #[rv a1, iv p1, jv x2, sv, iv p4, .val .null, iv (0 : Int32), uv, uv] [(.ref a1), (.int (3 : Int32)), (.int (4 : Int32))])) (fun _ k => XS.aloadN X1023.here hx rfl (hb hby d18_9) rfl rfl k) ?_
  obtain ⟨cq1024, kq1024, q1024a, q1024b, q1024c⟩ := isOf hZ e1023 E_a1
  obtain ⟨_, _, ⟨T1024, L1024, k1024, n1024⟩, -, X1024, ⟨Lc1024, hQ1024, l1024, y1024, z1024⟩, st1024⟩ := X1023.virtualBack hx (y := yP) (z := yP) hown (mvT hZ (wi hw 21 rfl)) (mvT hZ (wi hw 22 rfl)) (notFace_of_selects (args := #[]) (mvT hZ (wi hw 24 rfl))) (mvT hZ (wi hw 24 rfl)) (mvT hZ (wi hw 23 rfl)) (by decide) (backOf (W := 2) (rmP0 l Z a0 hw [] a1 h0 n0 Z0 F_a1_handles) hZ (wi hw 25 rfl) (wi hw 2 rfl) (by decide) (by decide)) q1024a q1024c (g := (mkF m 10 #[rv a1, iv p1, jv x2, sv, iv p4, .val .null, iv (0 : Int32), uv, uv] [(.ref a1), (.int (3 : Int32)), (.int (4 : Int32))])) rfl (by rw [hml]; rfl) (Steps.refl _) (argsL := []) (rest := [(.int (3 : Int32)), (.int (4 : Int32))]) (lenOf pd_7 rfl) rfl (by show 2 * 0 + _ ≤ _; exact Nat.le_of_eq rfl) (hb hby d18_10) (fun _ _ => ⟨rfl, e1023, (by decide : 0 + 0 ≤ _), (by decide : 0 + 0 ≤ _)⟩)
  dsimp only [Pt.U, Pt.locs, Pt.cells, Pt.slots] at X1024 l1024 y1024 z1024 st1024 hQ1024
  subst l1024 y1024 z1024
  obtain ⟨rfl, N1024q, e1024⟩ := hQ1024
  have N1024 := Fr.app N0 N1024q
  refine Rch.to (U' := T1024.setTop (mkF m 13 #[rv a1, iv p1, jv x2, sv, iv p4, .val .null, iv (0 : Int32), uv, uv] [(.int (0 : Int32)), (.int (3 : Int32)), (.int (4 : Int32))])) st1024 ?_
  refine Rch.go (U' := T1024.setTop (mkF m 14 #[rv a1, iv p1, jv x2, sv, iv p4, .val .null, iv (0 : Int32), uv, uv] [(.int ((3 : Int32) * (0 : Int32))), (.int (4 : Int32))])) (fun _ k => XS.imul X1024.here hx rfl (hb hby d18_13) rfl k) ?_
  rw [(by decide : ((3 : Int32) * (0 : Int32)) = (0 : Int32))]
  have br1025 : (0 : Int32) < (4 : Int32) := (by decide)
  refine Rch.go (U' := T1024.setTop (mkF m 17 #[rv a1, iv p1, jv x2, sv, iv p4, .val .null, iv (0 : Int32), uv, uv] [])) (fun _ k => XS.icmpNo X1024.here hx rfl (hb hby d18_14) rfl (XT.ii_le_f br1025) k) ?_
  refine Rch.go (U' := T1024.setTop (mkF m 18 #[rv a1, iv p1, jv x2, sv, iv p4, .val .null, iv (0 : Int32), uv, uv] [(.ref a1)])) (fun _ k => XS.aloadN X1024.here hx rfl (hb hby d18_17) rfl rfl k) ?_
  refine Rch.go (U' := T1024.setTop (mkF m 19 #[rv a1, iv p1, jv x2, sv, iv p4, .val .null, iv (0 : Int32), uv, uv] [(.int (4 : Int32)), (.ref a1)])) (fun _ k => XS.iconst X1024.here hx rfl (hb hby d18_18) k) ?_
  refine Rch.go (U' := T1024.setTop (mkF m 20 #[rv a1, iv p1, jv x2, sv, iv p4, .val .null, iv (0 : Int32), uv, uv] [(.int (2 : Int32)), (.int (4 : Int32)), (.ref a1)])) (fun _ k => XS.iconst X1024.here hx rfl (hb hby d18_19) k) ?_
  refine Rch.go (U' := T1024.setTop (mkF m 21 #[rv a1, iv p1, jv x2, sv, iv p4, .val .null, iv (0 : Int32), uv, uv] [(.ref a1), (.int (2 : Int32)), (.int (4 : Int32)), (.ref a1)])) (fun _ k => XS.aloadN X1024.here hx rfl (hb hby d18_20) rfl rfl k) ?_
  obtain ⟨cq1026, kq1026, q1026a, q1026b, q1026c⟩ := isOf hZ e1024 E_a1
  obtain ⟨_, _, ⟨T1026, L1026, k1026, n1026⟩, -, X1026, ⟨Lc1026, hQ1026, l1026, y1026, z1026⟩, st1026⟩ := X1024.virtualBack hx (y := yP) (z := yP) hown (mvT hZ (wi hw 21 rfl)) (mvT hZ (wi hw 22 rfl)) (notFace_of_selects (args := #[]) (mvT hZ (wi hw 24 rfl))) (mvT hZ (wi hw 24 rfl)) (mvT hZ (wi hw 23 rfl)) (by decide) (backOf (W := 3) (rmP0 l Z a0 hw [] a1 h0 n0 Z0 F_a1_handles) hZ (wi hw 25 rfl) (wi hw 2 rfl) (by decide) (by decide)) q1026a q1026c (g := (mkF m 21 #[rv a1, iv p1, jv x2, sv, iv p4, .val .null, iv (0 : Int32), uv, uv] [(.ref a1), (.int (2 : Int32)), (.int (4 : Int32)), (.ref a1)])) rfl (by rw [hml]; rfl) (Steps.refl _) (argsL := []) (rest := [(.int (2 : Int32)), (.int (4 : Int32)), (.ref a1)]) (lenOf pd_7 rfl) rfl (by show 2 * 0 + _ ≤ _; exact Nat.le_of_eq rfl) (hb hby d18_21) (fun _ _ => ⟨rfl, e1024, (by decide : 0 + 0 ≤ _), (by decide : 0 + 0 ≤ _)⟩)
  dsimp only [Pt.U, Pt.locs, Pt.cells, Pt.slots] at X1026 l1026 y1026 z1026 st1026 hQ1026
  subst l1026 y1026 z1026
  obtain ⟨rfl, N1026q, e1026⟩ := hQ1026
  have N1026 := Fr.app N1024 N1026q
  refine Rch.to (U' := T1026.setTop (mkF m 24 #[rv a1, iv p1, jv x2, sv, iv p4, .val .null, iv (0 : Int32), uv, uv] [(.int (0 : Int32)), (.int (2 : Int32)), (.int (4 : Int32)), (.ref a1)])) st1026 ?_
  refine Rch.go (U' := T1026.setTop (mkF m 25 #[rv a1, iv p1, jv x2, sv, iv p4, .val .null, iv (0 : Int32), uv, uv] [(.int ((2 : Int32) * (0 : Int32))), (.int (4 : Int32)), (.ref a1)])) (fun _ k => XS.imul X1026.here hx rfl (hb hby d18_24) rfl k) ?_
  rw [(by decide : ((2 : Int32) * (0 : Int32)) = (0 : Int32))]
  obtain ⟨_, _, ⟨T1027, L1027, k1027, n1027⟩, -, X1027, ⟨Lc1027, hQ1027, l1027, y1027, z1027⟩, st1027⟩ := Jvm.LawKit.callS X1026 hx (y := yMx) hown (mvT hZ (wi hw 28 rfl)) (mvT hZ (wi hw 29 rfl)) (mvT hZ (wi hw 30 rfl)) (mvT hZ (wi hw 31 rfl)) (by decide) (backOf (W := 1) (rmMax l Z a0 hw [] (4 : Int32) (0 : Int32) h0 n0 Z0 ) hZ (wi hw 31 rfl) (wi hw 30 rfl) (by decide) (by decide)) (g := (mkF m 25 #[rv a1, iv p1, jv x2, sv, iv p4, .val .null, iv (0 : Int32), uv, uv] [(.int (0 : Int32)), (.int (4 : Int32)), (.ref a1)])) rfl (by rw [hml]; rfl) (argsL := [(.int (4 : Int32)), (.int (0 : Int32))]) (rest := [(.ref a1)]) (lenOf pd_8 rfl) rfl (by show 2 * 0 + _ ≤ _; exact Nat.le_of_eq rfl) (hb hby d18_25) (fun _ _ => ⟨rfl, e1026, (by decide : 0 + 0 ≤ _), (by decide : 0 + 0 ≤ _)⟩)
  dsimp only [Pt.U, Pt.locs, Pt.cells, Pt.slots] at X1027 l1027 y1027 z1027 st1027 hQ1027
  subst l1027 y1027 z1027
  obtain ⟨rfl, N1027q, e1027⟩ := hQ1027
  have N1027 := Fr.app N1026 N1027q
  refine Rch.go (U' := T1027.setTop (mkF m 28 #[rv a1, iv p1, jv x2, sv, iv p4, .val .null, iv (0 : Int32), uv, uv] [(.int (own_max (4 : Int32) (0 : Int32))), (.ref a1)])) st1027 ?_
  obtain ⟨cq1028, q1028, q1028'⟩ := E_a1.cell
  obtain ⟨_, _, ⟨T1028, L1028, k1028, n1028⟩, -, X1028, ⟨Lc1028, hQ1028, l1028, y1028, z1028⟩, st1028⟩ := X1027.privateBack hx (y := yR) hown (mvT hZ (wi hw 32 rfl)) (mvT hZ (wi hw 33 rfl)) (own_selp (by decide) (mvT hZ (wi hw 1 rfl)) (mvP hZ (wi hw 34 rfl)) (mvT hZ (wi hw 33 rfl))) (Cond.privateMethod_at (mvP hZ (wi hw 34 rfl) (args := #[]))) (mvT hZ (wi hw 35 rfl)) (by decide) (backOf (W := 0) (rmR l Z a0 hw [] a1 (0 : Int32) mv h0 n0 Z0 E_a1 F_a1_count F_a1_handles F_a1_hashes F_a1_lengths F_a1_outside F_a1_marks F_a1_expiries F_a1_moves g_a1) hZ (wi hw 35 rfl) (wi hw 2 rfl) (by decide) (by decide)) (g := (mkF m 28 #[rv a1, iv p1, jv x2, sv, iv p4, .val .null, iv (0 : Int32), uv, uv] [(.int (own_max (4 : Int32) (0 : Int32))), (.ref a1)])) rfl (by rw [hml]; rfl) (Steps.refl _) (a := a1) (by rw [e1027]; exact q1028) q1028' (argsL := [(.int (own_max (4 : Int32) (0 : Int32)))]) (rest := []) (lenOf pd_9 rfl) rfl (by show 2 * 0 + _ ≤ _; exact Nat.le_of_eq rfl) (hb hby d18_28) (fun _ _ => ⟨rfl, e1027, (by decide : 0 + 3 ≤ _), (by decide : 0 + 12 ≤ _)⟩)
  dsimp only [Pt.U, Pt.locs, Pt.cells, Pt.slots] at X1028 l1028 y1028 z1028 st1028 hQ1028
  subst l1028 y1028 z1028
  obtain ⟨bh, ba, bl, kh, ka, kl, rfl, N1028q, z1028, E_a1, F_a1_count, F_a1_handles, F_a1_hashes, F_a1_lengths, F_a1_outside, F_a1_expiries, V_bh, V_ba, V_bl, ⟨lg, la, ll⟩, ⟨g_a1', g_bh, g_ba, g_bl⟩, ⟨n_h, n_a, n_l⟩, n_ha, n_hl, n_al⟩ := hQ1028
  have N1028 := Fr.app N1027 N1028q
  refine Rch.to (U' := T1028.setTop (mkF m 31 #[rv a1, iv p1, jv x2, sv, iv p4, .val .null, iv (0 : Int32), uv, uv] [])) st1028 ?_
  refine Rch.go (U' := T1028.setTop (mkF m 32 #[rv a1, iv p1, jv x2, sv, iv p4, .val .null, iv (0 : Int32), uv, uv] [(.ref a1)])) (fun _ k => XS.aloadN X1028.here hx rfl (hb hby d18_31) rfl rfl k) ?_
  obtain ⟨T1029, X1029, e1029, st1029⟩ := getF X1028 hx hZ hown (host := "") (Or.inl (wi hw 26 rfl)) Via.refl rfl F_a1_handles (g := (mkF m 32 #[rv a1, iv p1, jv x2, sv, iv p4, .val .null, iv (0 : Int32), uv, uv] [(.ref a1)])) rfl rfl (hb hby d18_32)
  refine Rch.go (U' := T1029.setTop (mkF m 35 #[rv a1, iv p1, jv x2, sv, iv p4, .val .null, iv (0 : Int32), uv, uv] [(.ref bh)])) st1029 ?_
  obtain ⟨cl1030, Ar1030, -, Sz1030, Mn1030, -, -⟩ := id V_bh
  refine Rch.go (U' := T1029.setTop (mkF m 36 #[rv a1, iv p1, jv x2, sv, iv p4, .val .null, iv (0 : Int32), uv, uv] [(.int cl1030.slots.size.toInt32)])) (fun _ k => X1029.arraylength hx (by rw [e1029]; exact Ar1030.1) (State.isArrayOf_alike hZ.alike Ar1030.2.1) (g := (mkF m 35 #[rv a1, iv p1, jv x2, sv, iv p4, .val .null, iv (0 : Int32), uv, uv] [(.ref bh)])) rfl rfl (hb hby d18_35) _ k) ?_
  rw [len_of Sz1030 Mn1030]
  refine Rch.go (U' := T1029.setTop (mkF m 37 #[rv a1, iv p1, jv x2, sv, iv p4, .val .null, iv (0 : Int32), uv, uv] [(.int (1 : Int32)), (.int (4 : Int32))])) (fun _ k => XS.iconst X1029.here hx rfl (hb hby d18_36) k) ?_
  refine Rch.go (U' := T1029.setTop (mkF m 38 #[rv a1, iv p1, jv x2, sv, iv p4, .val .null, iv (0 : Int32), uv, uv] [(.int ((4 : Int32) - (1 : Int32)))])) (fun _ k => XS.isub X1029.here hx rfl (hb hby d18_37) rfl k) ?_
  rw [(by decide : ((4 : Int32) - (1 : Int32)) = (3 : Int32))]
  refine Rch.go (U' := T1029.setTop (mkF m 40 #[rv a1, iv p1, jv x2, sv, iv p4, .val .null, iv (0 : Int32), iv (3 : Int32), uv] [])) (fun _ k => XS.istore X1029.here hx rfl (hb hby d18_38) rfl (l' := #[rv a1, iv p1, jv x2, sv, iv p4, .val .null, iv (0 : Int32), iv (3 : Int32), uv]) rfl k) ?_
  refine Rch.go (U' := T1029.setTop (mkF m 41 #[rv a1, iv p1, jv x2, sv, iv p4, .val .null, iv (0 : Int32), iv (3 : Int32), uv] [(.int p1)])) (fun _ k => XS.iloadN X1029.here hx rfl (hb hby d18_40) rfl  k) ?_
  refine Rch.go (U' := T1029.setTop (mkF m 43 #[rv a1, iv p1, jv x2, sv, iv p4, .val .null, iv (0 : Int32), iv (3 : Int32), uv] [(.int (3 : Int32)), (.int p1)])) (fun _ k => XS.iload X1029.here hx rfl (hb hby d18_41) rfl  k) ?_
  refine Rch.go (U' := T1029.setTop (mkF m 44 #[rv a1, iv p1, jv x2, sv, iv p4, .val .null, iv (0 : Int32), iv (3 : Int32), uv] [(.int (p1 &&& (3 : Int32)))])) (fun _ k => XS.iand X1029.here hx rfl (hb hby d18_43) rfl k) ?_
  generalize hpl : (p1 &&& (3 : Int32)) = pl
  refine Rch.go (U' := T1029.setTop (mkF m 46 #[rv a1, iv p1, jv x2, sv, iv p4, .val .null, iv (0 : Int32), iv (3 : Int32), iv pl] [])) (fun _ k => XS.istore X1029.here hx rfl (hb hby d18_44) rfl (l' := #[rv a1, iv p1, jv x2, sv, iv p4, .val .null, iv (0 : Int32), iv (3 : Int32), iv pl]) rfl k) ?_
  rcases own_s4 p1 with ⟨q, q'⟩ | ⟨q, q'⟩ | ⟨q, q'⟩ | ⟨q, q'⟩ <;> rw [hpl] at q <;> subst q
  · obtain ⟨s₂, st, o, h1, h2, v, L, h3, ⟨va', vl', hq⟩, h4⟩ := tailE0 a1 bh ba bl kh ka kl p1 x2 p4 X1029 hx hZ hw hby hml hown hret hlk e1029 N1028 z1028 ⟨E_a1, F_a1_count, F_a1_handles, F_a1_hashes, F_a1_lengths, F_a1_outside, F_a1_expiries, V_bh, V_ba, V_bl, ⟨lg, la, ll⟩, ⟨g_a1, g_bh, g_ba, g_bl⟩, ⟨n_h, n_a, n_l⟩, n_ha, n_hl, n_al⟩ q'; exact ⟨s₂, st, o, h1, h2, v, L, h3, ⟨bh, ba, bl, kh, ka, kl, va', vl', hq⟩, h4⟩
  · obtain ⟨s₂, st, o, h1, h2, v, L, h3, ⟨va', vl', hq⟩, h4⟩ := tailE1 a1 bh ba bl kh ka kl p1 x2 p4 X1029 hx hZ hw hby hml hown hret hlk e1029 N1028 z1028 ⟨E_a1, F_a1_count, F_a1_handles, F_a1_hashes, F_a1_lengths, F_a1_outside, F_a1_expiries, V_bh, V_ba, V_bl, ⟨lg, la, ll⟩, ⟨g_a1, g_bh, g_ba, g_bl⟩, ⟨n_h, n_a, n_l⟩, n_ha, n_hl, n_al⟩ q'; exact ⟨s₂, st, o, h1, h2, v, L, h3, ⟨bh, ba, bl, kh, ka, kl, va', vl', hq⟩, h4⟩
  · obtain ⟨s₂, st, o, h1, h2, v, L, h3, ⟨va', vl', hq⟩, h4⟩ := tailE2 a1 bh ba bl kh ka kl p1 x2 p4 X1029 hx hZ hw hby hml hown hret hlk e1029 N1028 z1028 ⟨E_a1, F_a1_count, F_a1_handles, F_a1_hashes, F_a1_lengths, F_a1_outside, F_a1_expiries, V_bh, V_ba, V_bl, ⟨lg, la, ll⟩, ⟨g_a1, g_bh, g_ba, g_bl⟩, ⟨n_h, n_a, n_l⟩, n_ha, n_hl, n_al⟩ q'; exact ⟨s₂, st, o, h1, h2, v, L, h3, ⟨bh, ba, bl, kh, ka, kl, va', vl', hq⟩, h4⟩
  · obtain ⟨s₂, st, o, h1, h2, v, L, h3, ⟨va', vl', hq⟩, h4⟩ := tailE3 a1 bh ba bl kh ka kl p1 x2 p4 X1029 hx hZ hw hby hml hown hret hlk e1029 N1028 z1028 ⟨E_a1, F_a1_count, F_a1_handles, F_a1_hashes, F_a1_lengths, F_a1_outside, F_a1_expiries, V_bh, V_ba, V_bl, ⟨lg, la, ll⟩, ⟨g_a1, g_bh, g_ba, g_bl⟩, ⟨n_h, n_a, n_l⟩, n_ha, n_hl, n_al⟩ q'; exact ⟨s₂, st, o, h1, h2, v, L, h3, ⟨bh, ba, bl, kh, ka, kl, va', vl', hq⟩, h4⟩
theorem d64_0 : decode prog_36_method_6_code 0 = .ok (.aload_n 0, 1) := by decide +kernel
theorem d64_1 : decode prog_36_method_6_code 1 = .ok (.getfield 20, 3) := by decide +kernel
theorem d64_4 : decode prog_36_method_6_code 4 = .ok (.ifCond .ne 5, 3) := by decide +kernel
theorem d64_7 : decode prog_36_method_6_code 7 = .ok (.iconst (-1), 1) := by decide +kernel
theorem d64_8 : decode prog_36_method_6_code 8 = .ok (.ireturn, 1) := by decide +kernel
theorem d64_9 : decode prog_36_method_6_code 9 = .ok (.aload_n 0, 1) := by decide +kernel
theorem d64_10 : decode prog_36_method_6_code 10 = .ok (.getfield 27, 3) := by decide +kernel
theorem d64_13 : decode prog_36_method_6_code 13 = .ok (.arraylength, 1) := by decide +kernel
theorem d64_14 : decode prog_36_method_6_code 14 = .ok (.iconst 1, 1) := by decide +kernel
theorem d64_15 : decode prog_36_method_6_code 15 = .ok (.isub, 1) := by decide +kernel
theorem d64_16 : decode prog_36_method_6_code 16 = .ok (.istore 4, 2) := by decide +kernel
theorem d64_18 : decode prog_36_method_6_code 18 = .ok (.iload_n 1, 1) := by decide +kernel
theorem d64_19 : decode prog_36_method_6_code 19 = .ok (.iload 4, 2) := by decide +kernel
theorem d64_21 : decode prog_36_method_6_code 21 = .ok (.iand, 1) := by decide +kernel
theorem d64_22 : decode prog_36_method_6_code 22 = .ok (.istore 5, 2) := by decide +kernel
theorem d64_24 : decode prog_36_method_6_code 24 = .ok (.aload_n 0, 1) := by decide +kernel
theorem d64_25 : decode prog_36_method_6_code 25 = .ok (.getfield 27, 3) := by decide +kernel
theorem d64_28 : decode prog_36_method_6_code 28 = .ok (.iload 5, 2) := by decide +kernel
theorem d64_30 : decode prog_36_method_6_code 30 = .ok (.laload, 1) := by decide +kernel
theorem d64_31 : decode prog_36_method_6_code 31 = .ok (.lconst 0, 1) := by decide +kernel
theorem d64_32 : decode prog_36_method_6_code 32 = .ok (.lcmp, 1) := by decide +kernel
theorem d64_33 : decode prog_36_method_6_code 33 = .ok (.ifCond .eq 30, 3) := by decide +kernel
theorem d64_36 : decode prog_36_method_6_code 36 = .ok (.aload_n 0, 1) := by decide +kernel
theorem d64_37 : decode prog_36_method_6_code 37 = .ok (.getfield 27, 3) := by decide +kernel
theorem d64_40 : decode prog_36_method_6_code 40 = .ok (.iload 5, 2) := by decide +kernel
theorem d64_42 : decode prog_36_method_6_code 42 = .ok (.laload, 1) := by decide +kernel
theorem d64_43 : decode prog_36_method_6_code 43 = .ok (.lload_n 2, 1) := by decide +kernel
theorem d64_44 : decode prog_36_method_6_code 44 = .ok (.lcmp, 1) := by decide +kernel
theorem d64_45 : decode prog_36_method_6_code 45 = .ok (.ifCond .ne 6, 3) := by decide +kernel
theorem d64_48 : decode prog_36_method_6_code 48 = .ok (.iload 5, 2) := by decide +kernel
theorem d64_50 : decode prog_36_method_6_code 50 = .ok (.ireturn, 1) := by decide +kernel
theorem d64_51 : decode prog_36_method_6_code 51 = .ok (.iload 5, 2) := by decide +kernel
theorem d64_53 : decode prog_36_method_6_code 53 = .ok (.iconst 1, 1) := by decide +kernel
theorem d64_54 : decode prog_36_method_6_code 54 = .ok (.iadd, 1) := by decide +kernel
theorem d64_55 : decode prog_36_method_6_code 55 = .ok (.iload 4, 2) := by decide +kernel
theorem d64_57 : decode prog_36_method_6_code 57 = .ok (.iand, 1) := by decide +kernel
theorem d64_58 : decode prog_36_method_6_code 58 = .ok (.istore 5, 2) := by decide +kernel
theorem d64_60 : decode prog_36_method_6_code 60 = .ok (.goto (-36), 3) := by decide +kernel
theorem d64_63 : decode prog_36_method_6_code 63 = .ok (.iconst (-1), 1) := by decide +kernel
theorem d64_64 : decode prog_36_method_6_code 64 = .ok (.ireturn, 1) := by decide +kernel
set_option maxRecDepth 65536 in
set_option maxHeartbeats 40000000 in
theorem find0 {p : Program} {l : Launch} {e : Env} {s : State} {m : MethodId} {args : Array Value} {below : List Frame} {meth : Method} {c : Code} {T0 : State} {locs : List Loc} {Z : State} {a0 : Array Value} {h0 : Heap} {n0 : Nat}  (a1 : Addr) (bh : Addr) (ba : Addr) (bl : Addr) (kh : ClassId) (ka : ClassId) (kl : ClassId) (cn : Int32) (gs : List Int64) (va : List Value) (vl : List Value) (p1 : Int32) (x2 : Int64)
    (X0 : Stand p l e ({ frames := 0, cells := 0, slots := 0, locals := 0 } : Room) s m args below meth c T0 locs 0 0) (hx : p.tables.exec = Jvm.exec) (hZ : Z.Warmed39 s.vm) (hw : ∀ d ∈ tables_1, d.before a0 Z = true) (hby : c.code = prog_36_method_6_code) (hml : c.maxLocals = 6) (hown : s.vm.findClass cST = some m.cls) (hret : meth.sig.returnType = some .int) (hlk : meth.locks = false) (e0 : T0.heap = h0) (N0 : Fr n0 locs) (Z0 : n0 ≤ h0.size) (B : Tb Z h0 n0 a1 bh ba bl kh ka kl cn gs va vl) (hz : gs.getD 0 0 = 0 ∨ gs.getD 1 0 = 0 ∨ gs.getD 2 0 = 0 ∨ gs.getD 3 0 = 0) (hsj : own_s p1 = 0) :
    Rch p e below (Fin s below (fun v h L => v = some (.int (own_find gs x2 4 (own_s p1))) ∧ Fr n0 L ∧ h = h0) 0 0) (T0.setTop (mkF m 24 #[rv a1, iv p1, jv x2, sv, iv (3 : Int32), iv (0 : Int32)] [])) := by
  obtain ⟨E_a1, F_a1_count, F_a1_handles, F_a1_hashes, F_a1_lengths, F_a1_outside, F_a1_expiries, V_bh, V_ba, V_bl, ⟨lg, la, ll⟩, ⟨g_a1, g_bh, g_ba, g_bl⟩, ⟨n_h, n_a, n_l⟩, n_ha, n_hl, n_al⟩ := B
  refine Rch.go (U' := T0.setTop (mkF m 25 #[rv a1, iv p1, jv x2, sv, iv (3 : Int32), iv (0 : Int32)] [(.ref a1)])) (fun _ k => XS.aloadN X0.here hx rfl (hb hby d64_24) rfl rfl k) ?_
  obtain ⟨T1031, X1031, e1031, st1031⟩ := getF X0 hx hZ hown (host := "") (Or.inl (wi hw 26 rfl)) Via.refl e0 F_a1_handles (g := (mkF m 25 #[rv a1, iv p1, jv x2, sv, iv (3 : Int32), iv (0 : Int32)] [(.ref a1)])) rfl rfl (hb hby d64_25)
  refine Rch.go (U' := T1031.setTop (mkF m 28 #[rv a1, iv p1, jv x2, sv, iv (3 : Int32), iv (0 : Int32)] [(.ref bh)])) st1031 ?_
  refine Rch.go (U' := T1031.setTop (mkF m 30 #[rv a1, iv p1, jv x2, sv, iv (3 : Int32), iv (0 : Int32)] [(.int (0 : Int32)), (.ref bh)])) (fun _ k => XS.iload X1031.here hx rfl (hb hby d64_28) rfl  k) ?_
  obtain ⟨cl1032, Ar1032, qk1032, Sz1032, Mn1032, Hs1032, Gf1032⟩ := id V_bh
  have ib1032 : ¬ ((0 : Int32) < 0 ∨ cl1032.slots.size ≤ ((0 : Int32)).toNatClampNeg) := inb_of Sz1032 ⟨by decide, by decide⟩
  have ea1032 : cl1032.slots[((0 : Int32)).toNatClampNeg]? = some (.long (gs.getD 0 0)) := Has.at Hs1032 ib1032 (own_getJ gs 0)
  refine Rch.go (U' := T1031.setTop (mkF m 31 #[rv a1, iv p1, jv x2, sv, iv (3 : Int32), iv (0 : Int32)] [(.long (gs.getD 0 0))])) (fun _ k => X1031.laload hx (j := (0 : Int32)) (v := (.long (gs.getD 0 0))) (by rw [e1031]; exact Ar1032.1) (State.isArrayOf_alike hZ.alike Ar1032.2.1) Ar1032.2.2 ib1032 ea1032 (g := (mkF m 30 #[rv a1, iv p1, jv x2, sv, iv (3 : Int32), iv (0 : Int32)] [(.int (0 : Int32)), (.ref bh)])) rfl rfl (hb hby d64_30) _ k) ?_
  refine Rch.go (U' := T1031.setTop (mkF m 32 #[rv a1, iv p1, jv x2, sv, iv (3 : Int32), iv (0 : Int32)] [(.long (0 : Int64)), (.long (gs.getD 0 0))])) (fun _ k => XS.lconst X1031.here hx rfl (hb hby d64_31) k) ?_
  refine Rch.go (U' := T1031.setTop (mkF m 33 #[rv a1, iv p1, jv x2, sv, iv (3 : Int32), iv (0 : Int32)] [(.int (XT.cmpL (gs.getD 0 0) (0 : Int64)))])) (fun _ k => XT.lcmp X1031.here hx rfl (hb hby d64_32) rfl k) ?_
  by_cases br1033 : (gs.getD 0 0) = (0 : Int64)
  ·
    refine Rch.go (U' := T1031.setTop (mkF m 63 #[rv a1, iv p1, jv x2, sv, iv (3 : Int32), iv (0 : Int32)] [])) (fun _ k => XS.ifYes X1031.here hx rfl (pc0 := 33) (pc' := 63) rfl (hb hby d64_33) rfl (XT.ll_eq_t br1033) (by decide) (by decide) k) ?_
    refine Rch.go (U' := T1031.setTop (mkF m 64 #[rv a1, iv p1, jv x2, sv, iv (3 : Int32), iv (0 : Int32)] [(.int (-1 : Int32))])) (fun _ k => XS.iconst X1031.here hx rfl (hb hby d64_63) k) ?_
    refine Rch.fin X1031 hlk (v := some (.int (-1 : Int32))) (fun h => by rw [hret] at h; cases h) e1031 (by decide) (by decide) (fun fs hr => retI X1031 hx hret (hb hby d64_64) hr) ?_
    exact ⟨by rw [hsj]; simp only [own_find, br1033, ↓reduceIte] <;> rfl, N0, rfl⟩
  ·
    refine Rch.go (U' := T1031.setTop (mkF m 36 #[rv a1, iv p1, jv x2, sv, iv (3 : Int32), iv (0 : Int32)] [])) (fun _ k => XS.ifNo X1031.here hx rfl (hb hby d64_33) rfl (XT.ll_eq_f br1033) k) ?_
    refine Rch.go (U' := T1031.setTop (mkF m 37 #[rv a1, iv p1, jv x2, sv, iv (3 : Int32), iv (0 : Int32)] [(.ref a1)])) (fun _ k => XS.aloadN X1031.here hx rfl (hb hby d64_36) rfl rfl k) ?_
    obtain ⟨T1034, X1034, e1034, st1034⟩ := getF X1031 hx hZ hown (host := "") (Or.inl (wi hw 26 rfl)) Via.refl e1031 F_a1_handles (g := (mkF m 37 #[rv a1, iv p1, jv x2, sv, iv (3 : Int32), iv (0 : Int32)] [(.ref a1)])) rfl rfl (hb hby d64_37)
    refine Rch.go (U' := T1034.setTop (mkF m 40 #[rv a1, iv p1, jv x2, sv, iv (3 : Int32), iv (0 : Int32)] [(.ref bh)])) st1034 ?_
    refine Rch.go (U' := T1034.setTop (mkF m 42 #[rv a1, iv p1, jv x2, sv, iv (3 : Int32), iv (0 : Int32)] [(.int (0 : Int32)), (.ref bh)])) (fun _ k => XS.iload X1034.here hx rfl (hb hby d64_40) rfl  k) ?_
    obtain ⟨cl1035, Ar1035, qk1035, Sz1035, Mn1035, Hs1035, Gf1035⟩ := id V_bh
    have ib1035 : ¬ ((0 : Int32) < 0 ∨ cl1035.slots.size ≤ ((0 : Int32)).toNatClampNeg) := inb_of Sz1035 ⟨by decide, by decide⟩
    have ea1035 : cl1035.slots[((0 : Int32)).toNatClampNeg]? = some (.long (gs.getD 0 0)) := Has.at Hs1035 ib1035 (own_getJ gs 0)
    refine Rch.go (U' := T1034.setTop (mkF m 43 #[rv a1, iv p1, jv x2, sv, iv (3 : Int32), iv (0 : Int32)] [(.long (gs.getD 0 0))])) (fun _ k => X1034.laload hx (j := (0 : Int32)) (v := (.long (gs.getD 0 0))) (by rw [e1034]; exact Ar1035.1) (State.isArrayOf_alike hZ.alike Ar1035.2.1) Ar1035.2.2 ib1035 ea1035 (g := (mkF m 42 #[rv a1, iv p1, jv x2, sv, iv (3 : Int32), iv (0 : Int32)] [(.int (0 : Int32)), (.ref bh)])) rfl rfl (hb hby d64_42) _ k) ?_
    refine Rch.go (U' := T1034.setTop (mkF m 44 #[rv a1, iv p1, jv x2, sv, iv (3 : Int32), iv (0 : Int32)] [(.long x2), (.long (gs.getD 0 0))])) (fun _ k => XS.lloadN X1034.here hx rfl (hb hby d64_43) rfl  k) ?_
    refine Rch.go (U' := T1034.setTop (mkF m 45 #[rv a1, iv p1, jv x2, sv, iv (3 : Int32), iv (0 : Int32)] [(.int (XT.cmpL (gs.getD 0 0) x2))])) (fun _ k => XT.lcmp X1034.here hx rfl (hb hby d64_44) rfl k) ?_
    by_cases br1036 : (gs.getD 0 0) = x2
    ·
      refine Rch.go (U' := T1034.setTop (mkF m 48 #[rv a1, iv p1, jv x2, sv, iv (3 : Int32), iv (0 : Int32)] [])) (fun _ k => XS.ifNo X1034.here hx rfl (hb hby d64_45) rfl (XT.ll_ne_f br1036) k) ?_
      refine Rch.go (U' := T1034.setTop (mkF m 50 #[rv a1, iv p1, jv x2, sv, iv (3 : Int32), iv (0 : Int32)] [(.int (0 : Int32))])) (fun _ k => XS.iload X1034.here hx rfl (hb hby d64_48) rfl  k) ?_
      refine Rch.fin X1034 hlk (v := some (.int (0 : Int32))) (fun h => by rw [hret] at h; cases h) e1034 (by decide) (by decide) (fun fs hr => retI X1034 hx hret (hb hby d64_50) hr) ?_
      have hx2 : ¬ x2 = 0 := fun q => br1033 (br1036.trans q)
      exact ⟨by rw [hsj]; simp only [own_find, br1033, br1036, hx2, ↓reduceIte] <;> rfl, N0, rfl⟩
    ·
      refine Rch.go (U' := T1034.setTop (mkF m 51 #[rv a1, iv p1, jv x2, sv, iv (3 : Int32), iv (0 : Int32)] [])) (fun _ k => XS.ifYes X1034.here hx rfl (pc0 := 45) (pc' := 51) rfl (hb hby d64_45) rfl (XT.ll_ne_t br1036) (by decide) (by decide) k) ?_
      refine Rch.go (U' := T1034.setTop (mkF m 53 #[rv a1, iv p1, jv x2, sv, iv (3 : Int32), iv (0 : Int32)] [(.int (0 : Int32))])) (fun _ k => XS.iload X1034.here hx rfl (hb hby d64_51) rfl  k) ?_
      refine Rch.go (U' := T1034.setTop (mkF m 54 #[rv a1, iv p1, jv x2, sv, iv (3 : Int32), iv (0 : Int32)] [(.int (1 : Int32)), (.int (0 : Int32))])) (fun _ k => XS.iconst X1034.here hx rfl (hb hby d64_53) k) ?_
      refine Rch.go (U' := T1034.setTop (mkF m 55 #[rv a1, iv p1, jv x2, sv, iv (3 : Int32), iv (0 : Int32)] [(.int ((0 : Int32) + (1 : Int32)))])) (fun _ k => XS.iadd X1034.here hx rfl (hb hby d64_54) rfl k) ?_
      rw [(by decide : ((0 : Int32) + (1 : Int32)) = (1 : Int32))]
      refine Rch.go (U' := T1034.setTop (mkF m 57 #[rv a1, iv p1, jv x2, sv, iv (3 : Int32), iv (0 : Int32)] [(.int (3 : Int32)), (.int (1 : Int32))])) (fun _ k => XS.iload X1034.here hx rfl (hb hby d64_55) rfl  k) ?_
      refine Rch.go (U' := T1034.setTop (mkF m 58 #[rv a1, iv p1, jv x2, sv, iv (3 : Int32), iv (0 : Int32)] [(.int ((1 : Int32) &&& (3 : Int32)))])) (fun _ k => XS.iand X1034.here hx rfl (hb hby d64_57) rfl k) ?_
      rw [(by decide : ((1 : Int32) &&& (3 : Int32)) = (1 : Int32))]
      refine Rch.go (U' := T1034.setTop (mkF m 60 #[rv a1, iv p1, jv x2, sv, iv (3 : Int32), iv (1 : Int32)] [])) (fun _ k => XS.istore X1034.here hx rfl (hb hby d64_58) rfl (l' := #[rv a1, iv p1, jv x2, sv, iv (3 : Int32), iv (1 : Int32)]) rfl k) ?_
      refine Rch.go (U' := T1034.setTop (mkF m 24 #[rv a1, iv p1, jv x2, sv, iv (3 : Int32), iv (1 : Int32)] [])) (fun _ k => XS.goto X1034.here hx rfl (pc0 := 60) (pc' := 24) rfl (hb hby d64_60) (by decide) (by decide) k) ?_
      refine Rch.go (U' := T1034.setTop (mkF m 25 #[rv a1, iv p1, jv x2, sv, iv (3 : Int32), iv (1 : Int32)] [(.ref a1)])) (fun _ k => XS.aloadN X1034.here hx rfl (hb hby d64_24) rfl rfl k) ?_
      obtain ⟨T1037, X1037, e1037, st1037⟩ := getF X1034 hx hZ hown (host := "") (Or.inl (wi hw 26 rfl)) Via.refl e1034 F_a1_handles (g := (mkF m 25 #[rv a1, iv p1, jv x2, sv, iv (3 : Int32), iv (1 : Int32)] [(.ref a1)])) rfl rfl (hb hby d64_25)
      refine Rch.go (U' := T1037.setTop (mkF m 28 #[rv a1, iv p1, jv x2, sv, iv (3 : Int32), iv (1 : Int32)] [(.ref bh)])) st1037 ?_
      refine Rch.go (U' := T1037.setTop (mkF m 30 #[rv a1, iv p1, jv x2, sv, iv (3 : Int32), iv (1 : Int32)] [(.int (1 : Int32)), (.ref bh)])) (fun _ k => XS.iload X1037.here hx rfl (hb hby d64_28) rfl  k) ?_
      obtain ⟨cl1038, Ar1038, qk1038, Sz1038, Mn1038, Hs1038, Gf1038⟩ := id V_bh
      have ib1038 : ¬ ((1 : Int32) < 0 ∨ cl1038.slots.size ≤ ((1 : Int32)).toNatClampNeg) := inb_of Sz1038 ⟨by decide, by decide⟩
      have ea1038 : cl1038.slots[((1 : Int32)).toNatClampNeg]? = some (.long (gs.getD 1 0)) := Has.at Hs1038 ib1038 (own_getJ gs 1)
      refine Rch.go (U' := T1037.setTop (mkF m 31 #[rv a1, iv p1, jv x2, sv, iv (3 : Int32), iv (1 : Int32)] [(.long (gs.getD 1 0))])) (fun _ k => X1037.laload hx (j := (1 : Int32)) (v := (.long (gs.getD 1 0))) (by rw [e1037]; exact Ar1038.1) (State.isArrayOf_alike hZ.alike Ar1038.2.1) Ar1038.2.2 ib1038 ea1038 (g := (mkF m 30 #[rv a1, iv p1, jv x2, sv, iv (3 : Int32), iv (1 : Int32)] [(.int (1 : Int32)), (.ref bh)])) rfl rfl (hb hby d64_30) _ k) ?_
      refine Rch.go (U' := T1037.setTop (mkF m 32 #[rv a1, iv p1, jv x2, sv, iv (3 : Int32), iv (1 : Int32)] [(.long (0 : Int64)), (.long (gs.getD 1 0))])) (fun _ k => XS.lconst X1037.here hx rfl (hb hby d64_31) k) ?_
      refine Rch.go (U' := T1037.setTop (mkF m 33 #[rv a1, iv p1, jv x2, sv, iv (3 : Int32), iv (1 : Int32)] [(.int (XT.cmpL (gs.getD 1 0) (0 : Int64)))])) (fun _ k => XT.lcmp X1037.here hx rfl (hb hby d64_32) rfl k) ?_
      by_cases br1039 : (gs.getD 1 0) = (0 : Int64)
      ·
        refine Rch.go (U' := T1037.setTop (mkF m 63 #[rv a1, iv p1, jv x2, sv, iv (3 : Int32), iv (1 : Int32)] [])) (fun _ k => XS.ifYes X1037.here hx rfl (pc0 := 33) (pc' := 63) rfl (hb hby d64_33) rfl (XT.ll_eq_t br1039) (by decide) (by decide) k) ?_
        refine Rch.go (U' := T1037.setTop (mkF m 64 #[rv a1, iv p1, jv x2, sv, iv (3 : Int32), iv (1 : Int32)] [(.int (-1 : Int32))])) (fun _ k => XS.iconst X1037.here hx rfl (hb hby d64_63) k) ?_
        refine Rch.fin X1037 hlk (v := some (.int (-1 : Int32))) (fun h => by rw [hret] at h; cases h) e1037 (by decide) (by decide) (fun fs hr => retI X1037 hx hret (hb hby d64_64) hr) ?_
        exact ⟨by rw [hsj]; simp only [own_find, br1033, br1036, br1039, ↓reduceIte] <;> rfl, N0, rfl⟩
      ·
        refine Rch.go (U' := T1037.setTop (mkF m 36 #[rv a1, iv p1, jv x2, sv, iv (3 : Int32), iv (1 : Int32)] [])) (fun _ k => XS.ifNo X1037.here hx rfl (hb hby d64_33) rfl (XT.ll_eq_f br1039) k) ?_
        refine Rch.go (U' := T1037.setTop (mkF m 37 #[rv a1, iv p1, jv x2, sv, iv (3 : Int32), iv (1 : Int32)] [(.ref a1)])) (fun _ k => XS.aloadN X1037.here hx rfl (hb hby d64_36) rfl rfl k) ?_
        obtain ⟨T1040, X1040, e1040, st1040⟩ := getF X1037 hx hZ hown (host := "") (Or.inl (wi hw 26 rfl)) Via.refl e1037 F_a1_handles (g := (mkF m 37 #[rv a1, iv p1, jv x2, sv, iv (3 : Int32), iv (1 : Int32)] [(.ref a1)])) rfl rfl (hb hby d64_37)
        refine Rch.go (U' := T1040.setTop (mkF m 40 #[rv a1, iv p1, jv x2, sv, iv (3 : Int32), iv (1 : Int32)] [(.ref bh)])) st1040 ?_
        refine Rch.go (U' := T1040.setTop (mkF m 42 #[rv a1, iv p1, jv x2, sv, iv (3 : Int32), iv (1 : Int32)] [(.int (1 : Int32)), (.ref bh)])) (fun _ k => XS.iload X1040.here hx rfl (hb hby d64_40) rfl  k) ?_
        obtain ⟨cl1041, Ar1041, qk1041, Sz1041, Mn1041, Hs1041, Gf1041⟩ := id V_bh
        have ib1041 : ¬ ((1 : Int32) < 0 ∨ cl1041.slots.size ≤ ((1 : Int32)).toNatClampNeg) := inb_of Sz1041 ⟨by decide, by decide⟩
        have ea1041 : cl1041.slots[((1 : Int32)).toNatClampNeg]? = some (.long (gs.getD 1 0)) := Has.at Hs1041 ib1041 (own_getJ gs 1)
        refine Rch.go (U' := T1040.setTop (mkF m 43 #[rv a1, iv p1, jv x2, sv, iv (3 : Int32), iv (1 : Int32)] [(.long (gs.getD 1 0))])) (fun _ k => X1040.laload hx (j := (1 : Int32)) (v := (.long (gs.getD 1 0))) (by rw [e1040]; exact Ar1041.1) (State.isArrayOf_alike hZ.alike Ar1041.2.1) Ar1041.2.2 ib1041 ea1041 (g := (mkF m 42 #[rv a1, iv p1, jv x2, sv, iv (3 : Int32), iv (1 : Int32)] [(.int (1 : Int32)), (.ref bh)])) rfl rfl (hb hby d64_42) _ k) ?_
        refine Rch.go (U' := T1040.setTop (mkF m 44 #[rv a1, iv p1, jv x2, sv, iv (3 : Int32), iv (1 : Int32)] [(.long x2), (.long (gs.getD 1 0))])) (fun _ k => XS.lloadN X1040.here hx rfl (hb hby d64_43) rfl  k) ?_
        refine Rch.go (U' := T1040.setTop (mkF m 45 #[rv a1, iv p1, jv x2, sv, iv (3 : Int32), iv (1 : Int32)] [(.int (XT.cmpL (gs.getD 1 0) x2))])) (fun _ k => XT.lcmp X1040.here hx rfl (hb hby d64_44) rfl k) ?_
        by_cases br1042 : (gs.getD 1 0) = x2
        ·
          refine Rch.go (U' := T1040.setTop (mkF m 48 #[rv a1, iv p1, jv x2, sv, iv (3 : Int32), iv (1 : Int32)] [])) (fun _ k => XS.ifNo X1040.here hx rfl (hb hby d64_45) rfl (XT.ll_ne_f br1042) k) ?_
          refine Rch.go (U' := T1040.setTop (mkF m 50 #[rv a1, iv p1, jv x2, sv, iv (3 : Int32), iv (1 : Int32)] [(.int (1 : Int32))])) (fun _ k => XS.iload X1040.here hx rfl (hb hby d64_48) rfl  k) ?_
          refine Rch.fin X1040 hlk (v := some (.int (1 : Int32))) (fun h => by rw [hret] at h; cases h) e1040 (by decide) (by decide) (fun fs hr => retI X1040 hx hret (hb hby d64_50) hr) ?_
          have hx2 : ¬ x2 = 0 := fun q => br1039 (br1042.trans q)
          exact ⟨by rw [hsj]; simp only [own_find, br1033, br1036, br1039, br1042, hx2, ↓reduceIte] <;> rfl, N0, rfl⟩
        ·
          refine Rch.go (U' := T1040.setTop (mkF m 51 #[rv a1, iv p1, jv x2, sv, iv (3 : Int32), iv (1 : Int32)] [])) (fun _ k => XS.ifYes X1040.here hx rfl (pc0 := 45) (pc' := 51) rfl (hb hby d64_45) rfl (XT.ll_ne_t br1042) (by decide) (by decide) k) ?_
          refine Rch.go (U' := T1040.setTop (mkF m 53 #[rv a1, iv p1, jv x2, sv, iv (3 : Int32), iv (1 : Int32)] [(.int (1 : Int32))])) (fun _ k => XS.iload X1040.here hx rfl (hb hby d64_51) rfl  k) ?_
          refine Rch.go (U' := T1040.setTop (mkF m 54 #[rv a1, iv p1, jv x2, sv, iv (3 : Int32), iv (1 : Int32)] [(.int (1 : Int32)), (.int (1 : Int32))])) (fun _ k => XS.iconst X1040.here hx rfl (hb hby d64_53) k) ?_
          refine Rch.go (U' := T1040.setTop (mkF m 55 #[rv a1, iv p1, jv x2, sv, iv (3 : Int32), iv (1 : Int32)] [(.int ((1 : Int32) + (1 : Int32)))])) (fun _ k => XS.iadd X1040.here hx rfl (hb hby d64_54) rfl k) ?_
          rw [(by decide : ((1 : Int32) + (1 : Int32)) = (2 : Int32))]
          refine Rch.go (U' := T1040.setTop (mkF m 57 #[rv a1, iv p1, jv x2, sv, iv (3 : Int32), iv (1 : Int32)] [(.int (3 : Int32)), (.int (2 : Int32))])) (fun _ k => XS.iload X1040.here hx rfl (hb hby d64_55) rfl  k) ?_
          refine Rch.go (U' := T1040.setTop (mkF m 58 #[rv a1, iv p1, jv x2, sv, iv (3 : Int32), iv (1 : Int32)] [(.int ((2 : Int32) &&& (3 : Int32)))])) (fun _ k => XS.iand X1040.here hx rfl (hb hby d64_57) rfl k) ?_
          rw [(by decide : ((2 : Int32) &&& (3 : Int32)) = (2 : Int32))]
          refine Rch.go (U' := T1040.setTop (mkF m 60 #[rv a1, iv p1, jv x2, sv, iv (3 : Int32), iv (2 : Int32)] [])) (fun _ k => XS.istore X1040.here hx rfl (hb hby d64_58) rfl (l' := #[rv a1, iv p1, jv x2, sv, iv (3 : Int32), iv (2 : Int32)]) rfl k) ?_
          refine Rch.go (U' := T1040.setTop (mkF m 24 #[rv a1, iv p1, jv x2, sv, iv (3 : Int32), iv (2 : Int32)] [])) (fun _ k => XS.goto X1040.here hx rfl (pc0 := 60) (pc' := 24) rfl (hb hby d64_60) (by decide) (by decide) k) ?_
          refine Rch.go (U' := T1040.setTop (mkF m 25 #[rv a1, iv p1, jv x2, sv, iv (3 : Int32), iv (2 : Int32)] [(.ref a1)])) (fun _ k => XS.aloadN X1040.here hx rfl (hb hby d64_24) rfl rfl k) ?_
          obtain ⟨T1043, X1043, e1043, st1043⟩ := getF X1040 hx hZ hown (host := "") (Or.inl (wi hw 26 rfl)) Via.refl e1040 F_a1_handles (g := (mkF m 25 #[rv a1, iv p1, jv x2, sv, iv (3 : Int32), iv (2 : Int32)] [(.ref a1)])) rfl rfl (hb hby d64_25)
          refine Rch.go (U' := T1043.setTop (mkF m 28 #[rv a1, iv p1, jv x2, sv, iv (3 : Int32), iv (2 : Int32)] [(.ref bh)])) st1043 ?_
          refine Rch.go (U' := T1043.setTop (mkF m 30 #[rv a1, iv p1, jv x2, sv, iv (3 : Int32), iv (2 : Int32)] [(.int (2 : Int32)), (.ref bh)])) (fun _ k => XS.iload X1043.here hx rfl (hb hby d64_28) rfl  k) ?_
          obtain ⟨cl1044, Ar1044, qk1044, Sz1044, Mn1044, Hs1044, Gf1044⟩ := id V_bh
          have ib1044 : ¬ ((2 : Int32) < 0 ∨ cl1044.slots.size ≤ ((2 : Int32)).toNatClampNeg) := inb_of Sz1044 ⟨by decide, by decide⟩
          have ea1044 : cl1044.slots[((2 : Int32)).toNatClampNeg]? = some (.long (gs.getD 2 0)) := Has.at Hs1044 ib1044 (own_getJ gs 2)
          refine Rch.go (U' := T1043.setTop (mkF m 31 #[rv a1, iv p1, jv x2, sv, iv (3 : Int32), iv (2 : Int32)] [(.long (gs.getD 2 0))])) (fun _ k => X1043.laload hx (j := (2 : Int32)) (v := (.long (gs.getD 2 0))) (by rw [e1043]; exact Ar1044.1) (State.isArrayOf_alike hZ.alike Ar1044.2.1) Ar1044.2.2 ib1044 ea1044 (g := (mkF m 30 #[rv a1, iv p1, jv x2, sv, iv (3 : Int32), iv (2 : Int32)] [(.int (2 : Int32)), (.ref bh)])) rfl rfl (hb hby d64_30) _ k) ?_
          refine Rch.go (U' := T1043.setTop (mkF m 32 #[rv a1, iv p1, jv x2, sv, iv (3 : Int32), iv (2 : Int32)] [(.long (0 : Int64)), (.long (gs.getD 2 0))])) (fun _ k => XS.lconst X1043.here hx rfl (hb hby d64_31) k) ?_
          refine Rch.go (U' := T1043.setTop (mkF m 33 #[rv a1, iv p1, jv x2, sv, iv (3 : Int32), iv (2 : Int32)] [(.int (XT.cmpL (gs.getD 2 0) (0 : Int64)))])) (fun _ k => XT.lcmp X1043.here hx rfl (hb hby d64_32) rfl k) ?_
          by_cases br1045 : (gs.getD 2 0) = (0 : Int64)
          ·
            refine Rch.go (U' := T1043.setTop (mkF m 63 #[rv a1, iv p1, jv x2, sv, iv (3 : Int32), iv (2 : Int32)] [])) (fun _ k => XS.ifYes X1043.here hx rfl (pc0 := 33) (pc' := 63) rfl (hb hby d64_33) rfl (XT.ll_eq_t br1045) (by decide) (by decide) k) ?_
            refine Rch.go (U' := T1043.setTop (mkF m 64 #[rv a1, iv p1, jv x2, sv, iv (3 : Int32), iv (2 : Int32)] [(.int (-1 : Int32))])) (fun _ k => XS.iconst X1043.here hx rfl (hb hby d64_63) k) ?_
            refine Rch.fin X1043 hlk (v := some (.int (-1 : Int32))) (fun h => by rw [hret] at h; cases h) e1043 (by decide) (by decide) (fun fs hr => retI X1043 hx hret (hb hby d64_64) hr) ?_
            exact ⟨by rw [hsj]; simp only [own_find, br1033, br1036, br1039, br1042, br1045, ↓reduceIte] <;> rfl, N0, rfl⟩
          ·
            refine Rch.go (U' := T1043.setTop (mkF m 36 #[rv a1, iv p1, jv x2, sv, iv (3 : Int32), iv (2 : Int32)] [])) (fun _ k => XS.ifNo X1043.here hx rfl (hb hby d64_33) rfl (XT.ll_eq_f br1045) k) ?_
            refine Rch.go (U' := T1043.setTop (mkF m 37 #[rv a1, iv p1, jv x2, sv, iv (3 : Int32), iv (2 : Int32)] [(.ref a1)])) (fun _ k => XS.aloadN X1043.here hx rfl (hb hby d64_36) rfl rfl k) ?_
            obtain ⟨T1046, X1046, e1046, st1046⟩ := getF X1043 hx hZ hown (host := "") (Or.inl (wi hw 26 rfl)) Via.refl e1043 F_a1_handles (g := (mkF m 37 #[rv a1, iv p1, jv x2, sv, iv (3 : Int32), iv (2 : Int32)] [(.ref a1)])) rfl rfl (hb hby d64_37)
            refine Rch.go (U' := T1046.setTop (mkF m 40 #[rv a1, iv p1, jv x2, sv, iv (3 : Int32), iv (2 : Int32)] [(.ref bh)])) st1046 ?_
            refine Rch.go (U' := T1046.setTop (mkF m 42 #[rv a1, iv p1, jv x2, sv, iv (3 : Int32), iv (2 : Int32)] [(.int (2 : Int32)), (.ref bh)])) (fun _ k => XS.iload X1046.here hx rfl (hb hby d64_40) rfl  k) ?_
            obtain ⟨cl1047, Ar1047, qk1047, Sz1047, Mn1047, Hs1047, Gf1047⟩ := id V_bh
            have ib1047 : ¬ ((2 : Int32) < 0 ∨ cl1047.slots.size ≤ ((2 : Int32)).toNatClampNeg) := inb_of Sz1047 ⟨by decide, by decide⟩
            have ea1047 : cl1047.slots[((2 : Int32)).toNatClampNeg]? = some (.long (gs.getD 2 0)) := Has.at Hs1047 ib1047 (own_getJ gs 2)
            refine Rch.go (U' := T1046.setTop (mkF m 43 #[rv a1, iv p1, jv x2, sv, iv (3 : Int32), iv (2 : Int32)] [(.long (gs.getD 2 0))])) (fun _ k => X1046.laload hx (j := (2 : Int32)) (v := (.long (gs.getD 2 0))) (by rw [e1046]; exact Ar1047.1) (State.isArrayOf_alike hZ.alike Ar1047.2.1) Ar1047.2.2 ib1047 ea1047 (g := (mkF m 42 #[rv a1, iv p1, jv x2, sv, iv (3 : Int32), iv (2 : Int32)] [(.int (2 : Int32)), (.ref bh)])) rfl rfl (hb hby d64_42) _ k) ?_
            refine Rch.go (U' := T1046.setTop (mkF m 44 #[rv a1, iv p1, jv x2, sv, iv (3 : Int32), iv (2 : Int32)] [(.long x2), (.long (gs.getD 2 0))])) (fun _ k => XS.lloadN X1046.here hx rfl (hb hby d64_43) rfl  k) ?_
            refine Rch.go (U' := T1046.setTop (mkF m 45 #[rv a1, iv p1, jv x2, sv, iv (3 : Int32), iv (2 : Int32)] [(.int (XT.cmpL (gs.getD 2 0) x2))])) (fun _ k => XT.lcmp X1046.here hx rfl (hb hby d64_44) rfl k) ?_
            by_cases br1048 : (gs.getD 2 0) = x2
            ·
              refine Rch.go (U' := T1046.setTop (mkF m 48 #[rv a1, iv p1, jv x2, sv, iv (3 : Int32), iv (2 : Int32)] [])) (fun _ k => XS.ifNo X1046.here hx rfl (hb hby d64_45) rfl (XT.ll_ne_f br1048) k) ?_
              refine Rch.go (U' := T1046.setTop (mkF m 50 #[rv a1, iv p1, jv x2, sv, iv (3 : Int32), iv (2 : Int32)] [(.int (2 : Int32))])) (fun _ k => XS.iload X1046.here hx rfl (hb hby d64_48) rfl  k) ?_
              refine Rch.fin X1046 hlk (v := some (.int (2 : Int32))) (fun h => by rw [hret] at h; cases h) e1046 (by decide) (by decide) (fun fs hr => retI X1046 hx hret (hb hby d64_50) hr) ?_
              have hx2 : ¬ x2 = 0 := fun q => br1045 (br1048.trans q)
              exact ⟨by rw [hsj]; simp only [own_find, br1033, br1036, br1039, br1042, br1045, br1048, hx2, ↓reduceIte] <;> rfl, N0, rfl⟩
            ·
              refine Rch.go (U' := T1046.setTop (mkF m 51 #[rv a1, iv p1, jv x2, sv, iv (3 : Int32), iv (2 : Int32)] [])) (fun _ k => XS.ifYes X1046.here hx rfl (pc0 := 45) (pc' := 51) rfl (hb hby d64_45) rfl (XT.ll_ne_t br1048) (by decide) (by decide) k) ?_
              refine Rch.go (U' := T1046.setTop (mkF m 53 #[rv a1, iv p1, jv x2, sv, iv (3 : Int32), iv (2 : Int32)] [(.int (2 : Int32))])) (fun _ k => XS.iload X1046.here hx rfl (hb hby d64_51) rfl  k) ?_
              refine Rch.go (U' := T1046.setTop (mkF m 54 #[rv a1, iv p1, jv x2, sv, iv (3 : Int32), iv (2 : Int32)] [(.int (1 : Int32)), (.int (2 : Int32))])) (fun _ k => XS.iconst X1046.here hx rfl (hb hby d64_53) k) ?_
              refine Rch.go (U' := T1046.setTop (mkF m 55 #[rv a1, iv p1, jv x2, sv, iv (3 : Int32), iv (2 : Int32)] [(.int ((2 : Int32) + (1 : Int32)))])) (fun _ k => XS.iadd X1046.here hx rfl (hb hby d64_54) rfl k) ?_
              rw [(by decide : ((2 : Int32) + (1 : Int32)) = (3 : Int32))]
              refine Rch.go (U' := T1046.setTop (mkF m 57 #[rv a1, iv p1, jv x2, sv, iv (3 : Int32), iv (2 : Int32)] [(.int (3 : Int32)), (.int (3 : Int32))])) (fun _ k => XS.iload X1046.here hx rfl (hb hby d64_55) rfl  k) ?_
              refine Rch.go (U' := T1046.setTop (mkF m 58 #[rv a1, iv p1, jv x2, sv, iv (3 : Int32), iv (2 : Int32)] [(.int ((3 : Int32) &&& (3 : Int32)))])) (fun _ k => XS.iand X1046.here hx rfl (hb hby d64_57) rfl k) ?_
              rw [(by decide : ((3 : Int32) &&& (3 : Int32)) = (3 : Int32))]
              refine Rch.go (U' := T1046.setTop (mkF m 60 #[rv a1, iv p1, jv x2, sv, iv (3 : Int32), iv (3 : Int32)] [])) (fun _ k => XS.istore X1046.here hx rfl (hb hby d64_58) rfl (l' := #[rv a1, iv p1, jv x2, sv, iv (3 : Int32), iv (3 : Int32)]) rfl k) ?_
              refine Rch.go (U' := T1046.setTop (mkF m 24 #[rv a1, iv p1, jv x2, sv, iv (3 : Int32), iv (3 : Int32)] [])) (fun _ k => XS.goto X1046.here hx rfl (pc0 := 60) (pc' := 24) rfl (hb hby d64_60) (by decide) (by decide) k) ?_
              refine Rch.go (U' := T1046.setTop (mkF m 25 #[rv a1, iv p1, jv x2, sv, iv (3 : Int32), iv (3 : Int32)] [(.ref a1)])) (fun _ k => XS.aloadN X1046.here hx rfl (hb hby d64_24) rfl rfl k) ?_
              obtain ⟨T1049, X1049, e1049, st1049⟩ := getF X1046 hx hZ hown (host := "") (Or.inl (wi hw 26 rfl)) Via.refl e1046 F_a1_handles (g := (mkF m 25 #[rv a1, iv p1, jv x2, sv, iv (3 : Int32), iv (3 : Int32)] [(.ref a1)])) rfl rfl (hb hby d64_25)
              refine Rch.go (U' := T1049.setTop (mkF m 28 #[rv a1, iv p1, jv x2, sv, iv (3 : Int32), iv (3 : Int32)] [(.ref bh)])) st1049 ?_
              refine Rch.go (U' := T1049.setTop (mkF m 30 #[rv a1, iv p1, jv x2, sv, iv (3 : Int32), iv (3 : Int32)] [(.int (3 : Int32)), (.ref bh)])) (fun _ k => XS.iload X1049.here hx rfl (hb hby d64_28) rfl  k) ?_
              obtain ⟨cl1050, Ar1050, qk1050, Sz1050, Mn1050, Hs1050, Gf1050⟩ := id V_bh
              have ib1050 : ¬ ((3 : Int32) < 0 ∨ cl1050.slots.size ≤ ((3 : Int32)).toNatClampNeg) := inb_of Sz1050 ⟨by decide, by decide⟩
              have ea1050 : cl1050.slots[((3 : Int32)).toNatClampNeg]? = some (.long (gs.getD 3 0)) := Has.at Hs1050 ib1050 (own_getJ gs 3)
              refine Rch.go (U' := T1049.setTop (mkF m 31 #[rv a1, iv p1, jv x2, sv, iv (3 : Int32), iv (3 : Int32)] [(.long (gs.getD 3 0))])) (fun _ k => X1049.laload hx (j := (3 : Int32)) (v := (.long (gs.getD 3 0))) (by rw [e1049]; exact Ar1050.1) (State.isArrayOf_alike hZ.alike Ar1050.2.1) Ar1050.2.2 ib1050 ea1050 (g := (mkF m 30 #[rv a1, iv p1, jv x2, sv, iv (3 : Int32), iv (3 : Int32)] [(.int (3 : Int32)), (.ref bh)])) rfl rfl (hb hby d64_30) _ k) ?_
              refine Rch.go (U' := T1049.setTop (mkF m 32 #[rv a1, iv p1, jv x2, sv, iv (3 : Int32), iv (3 : Int32)] [(.long (0 : Int64)), (.long (gs.getD 3 0))])) (fun _ k => XS.lconst X1049.here hx rfl (hb hby d64_31) k) ?_
              refine Rch.go (U' := T1049.setTop (mkF m 33 #[rv a1, iv p1, jv x2, sv, iv (3 : Int32), iv (3 : Int32)] [(.int (XT.cmpL (gs.getD 3 0) (0 : Int64)))])) (fun _ k => XT.lcmp X1049.here hx rfl (hb hby d64_32) rfl k) ?_
              have br1051 : (gs.getD 3 0) = (0 : Int64) := (by rcases hz with q | q | q | q <;> first | exact q | exact absurd q br1033 | exact absurd q br1039 | exact absurd q br1045)
              refine Rch.go (U' := T1049.setTop (mkF m 63 #[rv a1, iv p1, jv x2, sv, iv (3 : Int32), iv (3 : Int32)] [])) (fun _ k => XS.ifYes X1049.here hx rfl (pc0 := 33) (pc' := 63) rfl (hb hby d64_33) rfl (XT.ll_eq_t br1051) (by decide) (by decide) k) ?_
              refine Rch.go (U' := T1049.setTop (mkF m 64 #[rv a1, iv p1, jv x2, sv, iv (3 : Int32), iv (3 : Int32)] [(.int (-1 : Int32))])) (fun _ k => XS.iconst X1049.here hx rfl (hb hby d64_63) k) ?_
              refine Rch.fin X1049 hlk (v := some (.int (-1 : Int32))) (fun h => by rw [hret] at h; cases h) e1049 (by decide) (by decide) (fun fs hr => retI X1049 hx hret (hb hby d64_64) hr) ?_
              exact ⟨by rw [hsj]; simp only [own_find, br1033, br1036, br1039, br1042, br1045, br1048, br1051, ↓reduceIte] <;> rfl, N0, rfl⟩
set_option maxRecDepth 65536 in
set_option maxHeartbeats 40000000 in
theorem find1 {p : Program} {l : Launch} {e : Env} {s : State} {m : MethodId} {args : Array Value} {below : List Frame} {meth : Method} {c : Code} {T0 : State} {locs : List Loc} {Z : State} {a0 : Array Value} {h0 : Heap} {n0 : Nat}  (a1 : Addr) (bh : Addr) (ba : Addr) (bl : Addr) (kh : ClassId) (ka : ClassId) (kl : ClassId) (cn : Int32) (gs : List Int64) (va : List Value) (vl : List Value) (p1 : Int32) (x2 : Int64)
    (X0 : Stand p l e ({ frames := 0, cells := 0, slots := 0, locals := 0 } : Room) s m args below meth c T0 locs 0 0) (hx : p.tables.exec = Jvm.exec) (hZ : Z.Warmed39 s.vm) (hw : ∀ d ∈ tables_1, d.before a0 Z = true) (hby : c.code = prog_36_method_6_code) (hml : c.maxLocals = 6) (hown : s.vm.findClass cST = some m.cls) (hret : meth.sig.returnType = some .int) (hlk : meth.locks = false) (e0 : T0.heap = h0) (N0 : Fr n0 locs) (Z0 : n0 ≤ h0.size) (B : Tb Z h0 n0 a1 bh ba bl kh ka kl cn gs va vl) (hz : gs.getD 0 0 = 0 ∨ gs.getD 1 0 = 0 ∨ gs.getD 2 0 = 0 ∨ gs.getD 3 0 = 0) (hsj : own_s p1 = 1) :
    Rch p e below (Fin s below (fun v h L => v = some (.int (own_find gs x2 4 (own_s p1))) ∧ Fr n0 L ∧ h = h0) 0 0) (T0.setTop (mkF m 24 #[rv a1, iv p1, jv x2, sv, iv (3 : Int32), iv (1 : Int32)] [])) := by
  obtain ⟨E_a1, F_a1_count, F_a1_handles, F_a1_hashes, F_a1_lengths, F_a1_outside, F_a1_expiries, V_bh, V_ba, V_bl, ⟨lg, la, ll⟩, ⟨g_a1, g_bh, g_ba, g_bl⟩, ⟨n_h, n_a, n_l⟩, n_ha, n_hl, n_al⟩ := B
  refine Rch.go (U' := T0.setTop (mkF m 25 #[rv a1, iv p1, jv x2, sv, iv (3 : Int32), iv (1 : Int32)] [(.ref a1)])) (fun _ k => XS.aloadN X0.here hx rfl (hb hby d64_24) rfl rfl k) ?_
  obtain ⟨T1052, X1052, e1052, st1052⟩ := getF X0 hx hZ hown (host := "") (Or.inl (wi hw 26 rfl)) Via.refl e0 F_a1_handles (g := (mkF m 25 #[rv a1, iv p1, jv x2, sv, iv (3 : Int32), iv (1 : Int32)] [(.ref a1)])) rfl rfl (hb hby d64_25)
  refine Rch.go (U' := T1052.setTop (mkF m 28 #[rv a1, iv p1, jv x2, sv, iv (3 : Int32), iv (1 : Int32)] [(.ref bh)])) st1052 ?_
  refine Rch.go (U' := T1052.setTop (mkF m 30 #[rv a1, iv p1, jv x2, sv, iv (3 : Int32), iv (1 : Int32)] [(.int (1 : Int32)), (.ref bh)])) (fun _ k => XS.iload X1052.here hx rfl (hb hby d64_28) rfl  k) ?_
  obtain ⟨cl1053, Ar1053, qk1053, Sz1053, Mn1053, Hs1053, Gf1053⟩ := id V_bh
  have ib1053 : ¬ ((1 : Int32) < 0 ∨ cl1053.slots.size ≤ ((1 : Int32)).toNatClampNeg) := inb_of Sz1053 ⟨by decide, by decide⟩
  have ea1053 : cl1053.slots[((1 : Int32)).toNatClampNeg]? = some (.long (gs.getD 1 0)) := Has.at Hs1053 ib1053 (own_getJ gs 1)
  refine Rch.go (U' := T1052.setTop (mkF m 31 #[rv a1, iv p1, jv x2, sv, iv (3 : Int32), iv (1 : Int32)] [(.long (gs.getD 1 0))])) (fun _ k => X1052.laload hx (j := (1 : Int32)) (v := (.long (gs.getD 1 0))) (by rw [e1052]; exact Ar1053.1) (State.isArrayOf_alike hZ.alike Ar1053.2.1) Ar1053.2.2 ib1053 ea1053 (g := (mkF m 30 #[rv a1, iv p1, jv x2, sv, iv (3 : Int32), iv (1 : Int32)] [(.int (1 : Int32)), (.ref bh)])) rfl rfl (hb hby d64_30) _ k) ?_
  refine Rch.go (U' := T1052.setTop (mkF m 32 #[rv a1, iv p1, jv x2, sv, iv (3 : Int32), iv (1 : Int32)] [(.long (0 : Int64)), (.long (gs.getD 1 0))])) (fun _ k => XS.lconst X1052.here hx rfl (hb hby d64_31) k) ?_
  refine Rch.go (U' := T1052.setTop (mkF m 33 #[rv a1, iv p1, jv x2, sv, iv (3 : Int32), iv (1 : Int32)] [(.int (XT.cmpL (gs.getD 1 0) (0 : Int64)))])) (fun _ k => XT.lcmp X1052.here hx rfl (hb hby d64_32) rfl k) ?_
  by_cases br1054 : (gs.getD 1 0) = (0 : Int64)
  ·
    refine Rch.go (U' := T1052.setTop (mkF m 63 #[rv a1, iv p1, jv x2, sv, iv (3 : Int32), iv (1 : Int32)] [])) (fun _ k => XS.ifYes X1052.here hx rfl (pc0 := 33) (pc' := 63) rfl (hb hby d64_33) rfl (XT.ll_eq_t br1054) (by decide) (by decide) k) ?_
    refine Rch.go (U' := T1052.setTop (mkF m 64 #[rv a1, iv p1, jv x2, sv, iv (3 : Int32), iv (1 : Int32)] [(.int (-1 : Int32))])) (fun _ k => XS.iconst X1052.here hx rfl (hb hby d64_63) k) ?_
    refine Rch.fin X1052 hlk (v := some (.int (-1 : Int32))) (fun h => by rw [hret] at h; cases h) e1052 (by decide) (by decide) (fun fs hr => retI X1052 hx hret (hb hby d64_64) hr) ?_
    exact ⟨by rw [hsj]; simp only [own_find, br1054, ↓reduceIte] <;> rfl, N0, rfl⟩
  ·
    refine Rch.go (U' := T1052.setTop (mkF m 36 #[rv a1, iv p1, jv x2, sv, iv (3 : Int32), iv (1 : Int32)] [])) (fun _ k => XS.ifNo X1052.here hx rfl (hb hby d64_33) rfl (XT.ll_eq_f br1054) k) ?_
    refine Rch.go (U' := T1052.setTop (mkF m 37 #[rv a1, iv p1, jv x2, sv, iv (3 : Int32), iv (1 : Int32)] [(.ref a1)])) (fun _ k => XS.aloadN X1052.here hx rfl (hb hby d64_36) rfl rfl k) ?_
    obtain ⟨T1055, X1055, e1055, st1055⟩ := getF X1052 hx hZ hown (host := "") (Or.inl (wi hw 26 rfl)) Via.refl e1052 F_a1_handles (g := (mkF m 37 #[rv a1, iv p1, jv x2, sv, iv (3 : Int32), iv (1 : Int32)] [(.ref a1)])) rfl rfl (hb hby d64_37)
    refine Rch.go (U' := T1055.setTop (mkF m 40 #[rv a1, iv p1, jv x2, sv, iv (3 : Int32), iv (1 : Int32)] [(.ref bh)])) st1055 ?_
    refine Rch.go (U' := T1055.setTop (mkF m 42 #[rv a1, iv p1, jv x2, sv, iv (3 : Int32), iv (1 : Int32)] [(.int (1 : Int32)), (.ref bh)])) (fun _ k => XS.iload X1055.here hx rfl (hb hby d64_40) rfl  k) ?_
    obtain ⟨cl1056, Ar1056, qk1056, Sz1056, Mn1056, Hs1056, Gf1056⟩ := id V_bh
    have ib1056 : ¬ ((1 : Int32) < 0 ∨ cl1056.slots.size ≤ ((1 : Int32)).toNatClampNeg) := inb_of Sz1056 ⟨by decide, by decide⟩
    have ea1056 : cl1056.slots[((1 : Int32)).toNatClampNeg]? = some (.long (gs.getD 1 0)) := Has.at Hs1056 ib1056 (own_getJ gs 1)
    refine Rch.go (U' := T1055.setTop (mkF m 43 #[rv a1, iv p1, jv x2, sv, iv (3 : Int32), iv (1 : Int32)] [(.long (gs.getD 1 0))])) (fun _ k => X1055.laload hx (j := (1 : Int32)) (v := (.long (gs.getD 1 0))) (by rw [e1055]; exact Ar1056.1) (State.isArrayOf_alike hZ.alike Ar1056.2.1) Ar1056.2.2 ib1056 ea1056 (g := (mkF m 42 #[rv a1, iv p1, jv x2, sv, iv (3 : Int32), iv (1 : Int32)] [(.int (1 : Int32)), (.ref bh)])) rfl rfl (hb hby d64_42) _ k) ?_
    refine Rch.go (U' := T1055.setTop (mkF m 44 #[rv a1, iv p1, jv x2, sv, iv (3 : Int32), iv (1 : Int32)] [(.long x2), (.long (gs.getD 1 0))])) (fun _ k => XS.lloadN X1055.here hx rfl (hb hby d64_43) rfl  k) ?_
    refine Rch.go (U' := T1055.setTop (mkF m 45 #[rv a1, iv p1, jv x2, sv, iv (3 : Int32), iv (1 : Int32)] [(.int (XT.cmpL (gs.getD 1 0) x2))])) (fun _ k => XT.lcmp X1055.here hx rfl (hb hby d64_44) rfl k) ?_
    by_cases br1057 : (gs.getD 1 0) = x2
    ·
      refine Rch.go (U' := T1055.setTop (mkF m 48 #[rv a1, iv p1, jv x2, sv, iv (3 : Int32), iv (1 : Int32)] [])) (fun _ k => XS.ifNo X1055.here hx rfl (hb hby d64_45) rfl (XT.ll_ne_f br1057) k) ?_
      refine Rch.go (U' := T1055.setTop (mkF m 50 #[rv a1, iv p1, jv x2, sv, iv (3 : Int32), iv (1 : Int32)] [(.int (1 : Int32))])) (fun _ k => XS.iload X1055.here hx rfl (hb hby d64_48) rfl  k) ?_
      refine Rch.fin X1055 hlk (v := some (.int (1 : Int32))) (fun h => by rw [hret] at h; cases h) e1055 (by decide) (by decide) (fun fs hr => retI X1055 hx hret (hb hby d64_50) hr) ?_
      have hx2 : ¬ x2 = 0 := fun q => br1054 (br1057.trans q)
      exact ⟨by rw [hsj]; simp only [own_find, br1054, br1057, hx2, ↓reduceIte] <;> rfl, N0, rfl⟩
    ·
      refine Rch.go (U' := T1055.setTop (mkF m 51 #[rv a1, iv p1, jv x2, sv, iv (3 : Int32), iv (1 : Int32)] [])) (fun _ k => XS.ifYes X1055.here hx rfl (pc0 := 45) (pc' := 51) rfl (hb hby d64_45) rfl (XT.ll_ne_t br1057) (by decide) (by decide) k) ?_
      refine Rch.go (U' := T1055.setTop (mkF m 53 #[rv a1, iv p1, jv x2, sv, iv (3 : Int32), iv (1 : Int32)] [(.int (1 : Int32))])) (fun _ k => XS.iload X1055.here hx rfl (hb hby d64_51) rfl  k) ?_
      refine Rch.go (U' := T1055.setTop (mkF m 54 #[rv a1, iv p1, jv x2, sv, iv (3 : Int32), iv (1 : Int32)] [(.int (1 : Int32)), (.int (1 : Int32))])) (fun _ k => XS.iconst X1055.here hx rfl (hb hby d64_53) k) ?_
      refine Rch.go (U' := T1055.setTop (mkF m 55 #[rv a1, iv p1, jv x2, sv, iv (3 : Int32), iv (1 : Int32)] [(.int ((1 : Int32) + (1 : Int32)))])) (fun _ k => XS.iadd X1055.here hx rfl (hb hby d64_54) rfl k) ?_
      rw [(by decide : ((1 : Int32) + (1 : Int32)) = (2 : Int32))]
      refine Rch.go (U' := T1055.setTop (mkF m 57 #[rv a1, iv p1, jv x2, sv, iv (3 : Int32), iv (1 : Int32)] [(.int (3 : Int32)), (.int (2 : Int32))])) (fun _ k => XS.iload X1055.here hx rfl (hb hby d64_55) rfl  k) ?_
      refine Rch.go (U' := T1055.setTop (mkF m 58 #[rv a1, iv p1, jv x2, sv, iv (3 : Int32), iv (1 : Int32)] [(.int ((2 : Int32) &&& (3 : Int32)))])) (fun _ k => XS.iand X1055.here hx rfl (hb hby d64_57) rfl k) ?_
      rw [(by decide : ((2 : Int32) &&& (3 : Int32)) = (2 : Int32))]
      refine Rch.go (U' := T1055.setTop (mkF m 60 #[rv a1, iv p1, jv x2, sv, iv (3 : Int32), iv (2 : Int32)] [])) (fun _ k => XS.istore X1055.here hx rfl (hb hby d64_58) rfl (l' := #[rv a1, iv p1, jv x2, sv, iv (3 : Int32), iv (2 : Int32)]) rfl k) ?_
      refine Rch.go (U' := T1055.setTop (mkF m 24 #[rv a1, iv p1, jv x2, sv, iv (3 : Int32), iv (2 : Int32)] [])) (fun _ k => XS.goto X1055.here hx rfl (pc0 := 60) (pc' := 24) rfl (hb hby d64_60) (by decide) (by decide) k) ?_
      refine Rch.go (U' := T1055.setTop (mkF m 25 #[rv a1, iv p1, jv x2, sv, iv (3 : Int32), iv (2 : Int32)] [(.ref a1)])) (fun _ k => XS.aloadN X1055.here hx rfl (hb hby d64_24) rfl rfl k) ?_
      obtain ⟨T1058, X1058, e1058, st1058⟩ := getF X1055 hx hZ hown (host := "") (Or.inl (wi hw 26 rfl)) Via.refl e1055 F_a1_handles (g := (mkF m 25 #[rv a1, iv p1, jv x2, sv, iv (3 : Int32), iv (2 : Int32)] [(.ref a1)])) rfl rfl (hb hby d64_25)
      refine Rch.go (U' := T1058.setTop (mkF m 28 #[rv a1, iv p1, jv x2, sv, iv (3 : Int32), iv (2 : Int32)] [(.ref bh)])) st1058 ?_
      refine Rch.go (U' := T1058.setTop (mkF m 30 #[rv a1, iv p1, jv x2, sv, iv (3 : Int32), iv (2 : Int32)] [(.int (2 : Int32)), (.ref bh)])) (fun _ k => XS.iload X1058.here hx rfl (hb hby d64_28) rfl  k) ?_
      obtain ⟨cl1059, Ar1059, qk1059, Sz1059, Mn1059, Hs1059, Gf1059⟩ := id V_bh
      have ib1059 : ¬ ((2 : Int32) < 0 ∨ cl1059.slots.size ≤ ((2 : Int32)).toNatClampNeg) := inb_of Sz1059 ⟨by decide, by decide⟩
      have ea1059 : cl1059.slots[((2 : Int32)).toNatClampNeg]? = some (.long (gs.getD 2 0)) := Has.at Hs1059 ib1059 (own_getJ gs 2)
      refine Rch.go (U' := T1058.setTop (mkF m 31 #[rv a1, iv p1, jv x2, sv, iv (3 : Int32), iv (2 : Int32)] [(.long (gs.getD 2 0))])) (fun _ k => X1058.laload hx (j := (2 : Int32)) (v := (.long (gs.getD 2 0))) (by rw [e1058]; exact Ar1059.1) (State.isArrayOf_alike hZ.alike Ar1059.2.1) Ar1059.2.2 ib1059 ea1059 (g := (mkF m 30 #[rv a1, iv p1, jv x2, sv, iv (3 : Int32), iv (2 : Int32)] [(.int (2 : Int32)), (.ref bh)])) rfl rfl (hb hby d64_30) _ k) ?_
      refine Rch.go (U' := T1058.setTop (mkF m 32 #[rv a1, iv p1, jv x2, sv, iv (3 : Int32), iv (2 : Int32)] [(.long (0 : Int64)), (.long (gs.getD 2 0))])) (fun _ k => XS.lconst X1058.here hx rfl (hb hby d64_31) k) ?_
      refine Rch.go (U' := T1058.setTop (mkF m 33 #[rv a1, iv p1, jv x2, sv, iv (3 : Int32), iv (2 : Int32)] [(.int (XT.cmpL (gs.getD 2 0) (0 : Int64)))])) (fun _ k => XT.lcmp X1058.here hx rfl (hb hby d64_32) rfl k) ?_
      by_cases br1060 : (gs.getD 2 0) = (0 : Int64)
      ·
        refine Rch.go (U' := T1058.setTop (mkF m 63 #[rv a1, iv p1, jv x2, sv, iv (3 : Int32), iv (2 : Int32)] [])) (fun _ k => XS.ifYes X1058.here hx rfl (pc0 := 33) (pc' := 63) rfl (hb hby d64_33) rfl (XT.ll_eq_t br1060) (by decide) (by decide) k) ?_
        refine Rch.go (U' := T1058.setTop (mkF m 64 #[rv a1, iv p1, jv x2, sv, iv (3 : Int32), iv (2 : Int32)] [(.int (-1 : Int32))])) (fun _ k => XS.iconst X1058.here hx rfl (hb hby d64_63) k) ?_
        refine Rch.fin X1058 hlk (v := some (.int (-1 : Int32))) (fun h => by rw [hret] at h; cases h) e1058 (by decide) (by decide) (fun fs hr => retI X1058 hx hret (hb hby d64_64) hr) ?_
        exact ⟨by rw [hsj]; simp only [own_find, br1054, br1057, br1060, ↓reduceIte] <;> rfl, N0, rfl⟩
      ·
        refine Rch.go (U' := T1058.setTop (mkF m 36 #[rv a1, iv p1, jv x2, sv, iv (3 : Int32), iv (2 : Int32)] [])) (fun _ k => XS.ifNo X1058.here hx rfl (hb hby d64_33) rfl (XT.ll_eq_f br1060) k) ?_
        refine Rch.go (U' := T1058.setTop (mkF m 37 #[rv a1, iv p1, jv x2, sv, iv (3 : Int32), iv (2 : Int32)] [(.ref a1)])) (fun _ k => XS.aloadN X1058.here hx rfl (hb hby d64_36) rfl rfl k) ?_
        obtain ⟨T1061, X1061, e1061, st1061⟩ := getF X1058 hx hZ hown (host := "") (Or.inl (wi hw 26 rfl)) Via.refl e1058 F_a1_handles (g := (mkF m 37 #[rv a1, iv p1, jv x2, sv, iv (3 : Int32), iv (2 : Int32)] [(.ref a1)])) rfl rfl (hb hby d64_37)
        refine Rch.go (U' := T1061.setTop (mkF m 40 #[rv a1, iv p1, jv x2, sv, iv (3 : Int32), iv (2 : Int32)] [(.ref bh)])) st1061 ?_
        refine Rch.go (U' := T1061.setTop (mkF m 42 #[rv a1, iv p1, jv x2, sv, iv (3 : Int32), iv (2 : Int32)] [(.int (2 : Int32)), (.ref bh)])) (fun _ k => XS.iload X1061.here hx rfl (hb hby d64_40) rfl  k) ?_
        obtain ⟨cl1062, Ar1062, qk1062, Sz1062, Mn1062, Hs1062, Gf1062⟩ := id V_bh
        have ib1062 : ¬ ((2 : Int32) < 0 ∨ cl1062.slots.size ≤ ((2 : Int32)).toNatClampNeg) := inb_of Sz1062 ⟨by decide, by decide⟩
        have ea1062 : cl1062.slots[((2 : Int32)).toNatClampNeg]? = some (.long (gs.getD 2 0)) := Has.at Hs1062 ib1062 (own_getJ gs 2)
        refine Rch.go (U' := T1061.setTop (mkF m 43 #[rv a1, iv p1, jv x2, sv, iv (3 : Int32), iv (2 : Int32)] [(.long (gs.getD 2 0))])) (fun _ k => X1061.laload hx (j := (2 : Int32)) (v := (.long (gs.getD 2 0))) (by rw [e1061]; exact Ar1062.1) (State.isArrayOf_alike hZ.alike Ar1062.2.1) Ar1062.2.2 ib1062 ea1062 (g := (mkF m 42 #[rv a1, iv p1, jv x2, sv, iv (3 : Int32), iv (2 : Int32)] [(.int (2 : Int32)), (.ref bh)])) rfl rfl (hb hby d64_42) _ k) ?_
        refine Rch.go (U' := T1061.setTop (mkF m 44 #[rv a1, iv p1, jv x2, sv, iv (3 : Int32), iv (2 : Int32)] [(.long x2), (.long (gs.getD 2 0))])) (fun _ k => XS.lloadN X1061.here hx rfl (hb hby d64_43) rfl  k) ?_
        refine Rch.go (U' := T1061.setTop (mkF m 45 #[rv a1, iv p1, jv x2, sv, iv (3 : Int32), iv (2 : Int32)] [(.int (XT.cmpL (gs.getD 2 0) x2))])) (fun _ k => XT.lcmp X1061.here hx rfl (hb hby d64_44) rfl k) ?_
        by_cases br1063 : (gs.getD 2 0) = x2
        ·
          refine Rch.go (U' := T1061.setTop (mkF m 48 #[rv a1, iv p1, jv x2, sv, iv (3 : Int32), iv (2 : Int32)] [])) (fun _ k => XS.ifNo X1061.here hx rfl (hb hby d64_45) rfl (XT.ll_ne_f br1063) k) ?_
          refine Rch.go (U' := T1061.setTop (mkF m 50 #[rv a1, iv p1, jv x2, sv, iv (3 : Int32), iv (2 : Int32)] [(.int (2 : Int32))])) (fun _ k => XS.iload X1061.here hx rfl (hb hby d64_48) rfl  k) ?_
          refine Rch.fin X1061 hlk (v := some (.int (2 : Int32))) (fun h => by rw [hret] at h; cases h) e1061 (by decide) (by decide) (fun fs hr => retI X1061 hx hret (hb hby d64_50) hr) ?_
          have hx2 : ¬ x2 = 0 := fun q => br1060 (br1063.trans q)
          exact ⟨by rw [hsj]; simp only [own_find, br1054, br1057, br1060, br1063, hx2, ↓reduceIte] <;> rfl, N0, rfl⟩
        ·
          refine Rch.go (U' := T1061.setTop (mkF m 51 #[rv a1, iv p1, jv x2, sv, iv (3 : Int32), iv (2 : Int32)] [])) (fun _ k => XS.ifYes X1061.here hx rfl (pc0 := 45) (pc' := 51) rfl (hb hby d64_45) rfl (XT.ll_ne_t br1063) (by decide) (by decide) k) ?_
          refine Rch.go (U' := T1061.setTop (mkF m 53 #[rv a1, iv p1, jv x2, sv, iv (3 : Int32), iv (2 : Int32)] [(.int (2 : Int32))])) (fun _ k => XS.iload X1061.here hx rfl (hb hby d64_51) rfl  k) ?_
          refine Rch.go (U' := T1061.setTop (mkF m 54 #[rv a1, iv p1, jv x2, sv, iv (3 : Int32), iv (2 : Int32)] [(.int (1 : Int32)), (.int (2 : Int32))])) (fun _ k => XS.iconst X1061.here hx rfl (hb hby d64_53) k) ?_
          refine Rch.go (U' := T1061.setTop (mkF m 55 #[rv a1, iv p1, jv x2, sv, iv (3 : Int32), iv (2 : Int32)] [(.int ((2 : Int32) + (1 : Int32)))])) (fun _ k => XS.iadd X1061.here hx rfl (hb hby d64_54) rfl k) ?_
          rw [(by decide : ((2 : Int32) + (1 : Int32)) = (3 : Int32))]
          refine Rch.go (U' := T1061.setTop (mkF m 57 #[rv a1, iv p1, jv x2, sv, iv (3 : Int32), iv (2 : Int32)] [(.int (3 : Int32)), (.int (3 : Int32))])) (fun _ k => XS.iload X1061.here hx rfl (hb hby d64_55) rfl  k) ?_
          refine Rch.go (U' := T1061.setTop (mkF m 58 #[rv a1, iv p1, jv x2, sv, iv (3 : Int32), iv (2 : Int32)] [(.int ((3 : Int32) &&& (3 : Int32)))])) (fun _ k => XS.iand X1061.here hx rfl (hb hby d64_57) rfl k) ?_
          rw [(by decide : ((3 : Int32) &&& (3 : Int32)) = (3 : Int32))]
          refine Rch.go (U' := T1061.setTop (mkF m 60 #[rv a1, iv p1, jv x2, sv, iv (3 : Int32), iv (3 : Int32)] [])) (fun _ k => XS.istore X1061.here hx rfl (hb hby d64_58) rfl (l' := #[rv a1, iv p1, jv x2, sv, iv (3 : Int32), iv (3 : Int32)]) rfl k) ?_
          refine Rch.go (U' := T1061.setTop (mkF m 24 #[rv a1, iv p1, jv x2, sv, iv (3 : Int32), iv (3 : Int32)] [])) (fun _ k => XS.goto X1061.here hx rfl (pc0 := 60) (pc' := 24) rfl (hb hby d64_60) (by decide) (by decide) k) ?_
          refine Rch.go (U' := T1061.setTop (mkF m 25 #[rv a1, iv p1, jv x2, sv, iv (3 : Int32), iv (3 : Int32)] [(.ref a1)])) (fun _ k => XS.aloadN X1061.here hx rfl (hb hby d64_24) rfl rfl k) ?_
          obtain ⟨T1064, X1064, e1064, st1064⟩ := getF X1061 hx hZ hown (host := "") (Or.inl (wi hw 26 rfl)) Via.refl e1061 F_a1_handles (g := (mkF m 25 #[rv a1, iv p1, jv x2, sv, iv (3 : Int32), iv (3 : Int32)] [(.ref a1)])) rfl rfl (hb hby d64_25)
          refine Rch.go (U' := T1064.setTop (mkF m 28 #[rv a1, iv p1, jv x2, sv, iv (3 : Int32), iv (3 : Int32)] [(.ref bh)])) st1064 ?_
          refine Rch.go (U' := T1064.setTop (mkF m 30 #[rv a1, iv p1, jv x2, sv, iv (3 : Int32), iv (3 : Int32)] [(.int (3 : Int32)), (.ref bh)])) (fun _ k => XS.iload X1064.here hx rfl (hb hby d64_28) rfl  k) ?_
          obtain ⟨cl1065, Ar1065, qk1065, Sz1065, Mn1065, Hs1065, Gf1065⟩ := id V_bh
          have ib1065 : ¬ ((3 : Int32) < 0 ∨ cl1065.slots.size ≤ ((3 : Int32)).toNatClampNeg) := inb_of Sz1065 ⟨by decide, by decide⟩
          have ea1065 : cl1065.slots[((3 : Int32)).toNatClampNeg]? = some (.long (gs.getD 3 0)) := Has.at Hs1065 ib1065 (own_getJ gs 3)
          refine Rch.go (U' := T1064.setTop (mkF m 31 #[rv a1, iv p1, jv x2, sv, iv (3 : Int32), iv (3 : Int32)] [(.long (gs.getD 3 0))])) (fun _ k => X1064.laload hx (j := (3 : Int32)) (v := (.long (gs.getD 3 0))) (by rw [e1064]; exact Ar1065.1) (State.isArrayOf_alike hZ.alike Ar1065.2.1) Ar1065.2.2 ib1065 ea1065 (g := (mkF m 30 #[rv a1, iv p1, jv x2, sv, iv (3 : Int32), iv (3 : Int32)] [(.int (3 : Int32)), (.ref bh)])) rfl rfl (hb hby d64_30) _ k) ?_
          refine Rch.go (U' := T1064.setTop (mkF m 32 #[rv a1, iv p1, jv x2, sv, iv (3 : Int32), iv (3 : Int32)] [(.long (0 : Int64)), (.long (gs.getD 3 0))])) (fun _ k => XS.lconst X1064.here hx rfl (hb hby d64_31) k) ?_
          refine Rch.go (U' := T1064.setTop (mkF m 33 #[rv a1, iv p1, jv x2, sv, iv (3 : Int32), iv (3 : Int32)] [(.int (XT.cmpL (gs.getD 3 0) (0 : Int64)))])) (fun _ k => XT.lcmp X1064.here hx rfl (hb hby d64_32) rfl k) ?_
          by_cases br1066 : (gs.getD 3 0) = (0 : Int64)
          ·
            refine Rch.go (U' := T1064.setTop (mkF m 63 #[rv a1, iv p1, jv x2, sv, iv (3 : Int32), iv (3 : Int32)] [])) (fun _ k => XS.ifYes X1064.here hx rfl (pc0 := 33) (pc' := 63) rfl (hb hby d64_33) rfl (XT.ll_eq_t br1066) (by decide) (by decide) k) ?_
            refine Rch.go (U' := T1064.setTop (mkF m 64 #[rv a1, iv p1, jv x2, sv, iv (3 : Int32), iv (3 : Int32)] [(.int (-1 : Int32))])) (fun _ k => XS.iconst X1064.here hx rfl (hb hby d64_63) k) ?_
            refine Rch.fin X1064 hlk (v := some (.int (-1 : Int32))) (fun h => by rw [hret] at h; cases h) e1064 (by decide) (by decide) (fun fs hr => retI X1064 hx hret (hb hby d64_64) hr) ?_
            exact ⟨by rw [hsj]; simp only [own_find, br1054, br1057, br1060, br1063, br1066, ↓reduceIte] <;> rfl, N0, rfl⟩
          ·
            refine Rch.go (U' := T1064.setTop (mkF m 36 #[rv a1, iv p1, jv x2, sv, iv (3 : Int32), iv (3 : Int32)] [])) (fun _ k => XS.ifNo X1064.here hx rfl (hb hby d64_33) rfl (XT.ll_eq_f br1066) k) ?_
            refine Rch.go (U' := T1064.setTop (mkF m 37 #[rv a1, iv p1, jv x2, sv, iv (3 : Int32), iv (3 : Int32)] [(.ref a1)])) (fun _ k => XS.aloadN X1064.here hx rfl (hb hby d64_36) rfl rfl k) ?_
            obtain ⟨T1067, X1067, e1067, st1067⟩ := getF X1064 hx hZ hown (host := "") (Or.inl (wi hw 26 rfl)) Via.refl e1064 F_a1_handles (g := (mkF m 37 #[rv a1, iv p1, jv x2, sv, iv (3 : Int32), iv (3 : Int32)] [(.ref a1)])) rfl rfl (hb hby d64_37)
            refine Rch.go (U' := T1067.setTop (mkF m 40 #[rv a1, iv p1, jv x2, sv, iv (3 : Int32), iv (3 : Int32)] [(.ref bh)])) st1067 ?_
            refine Rch.go (U' := T1067.setTop (mkF m 42 #[rv a1, iv p1, jv x2, sv, iv (3 : Int32), iv (3 : Int32)] [(.int (3 : Int32)), (.ref bh)])) (fun _ k => XS.iload X1067.here hx rfl (hb hby d64_40) rfl  k) ?_
            obtain ⟨cl1068, Ar1068, qk1068, Sz1068, Mn1068, Hs1068, Gf1068⟩ := id V_bh
            have ib1068 : ¬ ((3 : Int32) < 0 ∨ cl1068.slots.size ≤ ((3 : Int32)).toNatClampNeg) := inb_of Sz1068 ⟨by decide, by decide⟩
            have ea1068 : cl1068.slots[((3 : Int32)).toNatClampNeg]? = some (.long (gs.getD 3 0)) := Has.at Hs1068 ib1068 (own_getJ gs 3)
            refine Rch.go (U' := T1067.setTop (mkF m 43 #[rv a1, iv p1, jv x2, sv, iv (3 : Int32), iv (3 : Int32)] [(.long (gs.getD 3 0))])) (fun _ k => X1067.laload hx (j := (3 : Int32)) (v := (.long (gs.getD 3 0))) (by rw [e1067]; exact Ar1068.1) (State.isArrayOf_alike hZ.alike Ar1068.2.1) Ar1068.2.2 ib1068 ea1068 (g := (mkF m 42 #[rv a1, iv p1, jv x2, sv, iv (3 : Int32), iv (3 : Int32)] [(.int (3 : Int32)), (.ref bh)])) rfl rfl (hb hby d64_42) _ k) ?_
            refine Rch.go (U' := T1067.setTop (mkF m 44 #[rv a1, iv p1, jv x2, sv, iv (3 : Int32), iv (3 : Int32)] [(.long x2), (.long (gs.getD 3 0))])) (fun _ k => XS.lloadN X1067.here hx rfl (hb hby d64_43) rfl  k) ?_
            refine Rch.go (U' := T1067.setTop (mkF m 45 #[rv a1, iv p1, jv x2, sv, iv (3 : Int32), iv (3 : Int32)] [(.int (XT.cmpL (gs.getD 3 0) x2))])) (fun _ k => XT.lcmp X1067.here hx rfl (hb hby d64_44) rfl k) ?_
            by_cases br1069 : (gs.getD 3 0) = x2
            ·
              refine Rch.go (U' := T1067.setTop (mkF m 48 #[rv a1, iv p1, jv x2, sv, iv (3 : Int32), iv (3 : Int32)] [])) (fun _ k => XS.ifNo X1067.here hx rfl (hb hby d64_45) rfl (XT.ll_ne_f br1069) k) ?_
              refine Rch.go (U' := T1067.setTop (mkF m 50 #[rv a1, iv p1, jv x2, sv, iv (3 : Int32), iv (3 : Int32)] [(.int (3 : Int32))])) (fun _ k => XS.iload X1067.here hx rfl (hb hby d64_48) rfl  k) ?_
              refine Rch.fin X1067 hlk (v := some (.int (3 : Int32))) (fun h => by rw [hret] at h; cases h) e1067 (by decide) (by decide) (fun fs hr => retI X1067 hx hret (hb hby d64_50) hr) ?_
              have hx2 : ¬ x2 = 0 := fun q => br1066 (br1069.trans q)
              exact ⟨by rw [hsj]; simp only [own_find, br1054, br1057, br1060, br1063, br1066, br1069, hx2, ↓reduceIte] <;> rfl, N0, rfl⟩
            ·
              refine Rch.go (U' := T1067.setTop (mkF m 51 #[rv a1, iv p1, jv x2, sv, iv (3 : Int32), iv (3 : Int32)] [])) (fun _ k => XS.ifYes X1067.here hx rfl (pc0 := 45) (pc' := 51) rfl (hb hby d64_45) rfl (XT.ll_ne_t br1069) (by decide) (by decide) k) ?_
              refine Rch.go (U' := T1067.setTop (mkF m 53 #[rv a1, iv p1, jv x2, sv, iv (3 : Int32), iv (3 : Int32)] [(.int (3 : Int32))])) (fun _ k => XS.iload X1067.here hx rfl (hb hby d64_51) rfl  k) ?_
              refine Rch.go (U' := T1067.setTop (mkF m 54 #[rv a1, iv p1, jv x2, sv, iv (3 : Int32), iv (3 : Int32)] [(.int (1 : Int32)), (.int (3 : Int32))])) (fun _ k => XS.iconst X1067.here hx rfl (hb hby d64_53) k) ?_
              refine Rch.go (U' := T1067.setTop (mkF m 55 #[rv a1, iv p1, jv x2, sv, iv (3 : Int32), iv (3 : Int32)] [(.int ((3 : Int32) + (1 : Int32)))])) (fun _ k => XS.iadd X1067.here hx rfl (hb hby d64_54) rfl k) ?_
              rw [(by decide : ((3 : Int32) + (1 : Int32)) = (4 : Int32))]
              refine Rch.go (U' := T1067.setTop (mkF m 57 #[rv a1, iv p1, jv x2, sv, iv (3 : Int32), iv (3 : Int32)] [(.int (3 : Int32)), (.int (4 : Int32))])) (fun _ k => XS.iload X1067.here hx rfl (hb hby d64_55) rfl  k) ?_
              refine Rch.go (U' := T1067.setTop (mkF m 58 #[rv a1, iv p1, jv x2, sv, iv (3 : Int32), iv (3 : Int32)] [(.int ((4 : Int32) &&& (3 : Int32)))])) (fun _ k => XS.iand X1067.here hx rfl (hb hby d64_57) rfl k) ?_
              rw [(by decide : ((4 : Int32) &&& (3 : Int32)) = (0 : Int32))]
              refine Rch.go (U' := T1067.setTop (mkF m 60 #[rv a1, iv p1, jv x2, sv, iv (3 : Int32), iv (0 : Int32)] [])) (fun _ k => XS.istore X1067.here hx rfl (hb hby d64_58) rfl (l' := #[rv a1, iv p1, jv x2, sv, iv (3 : Int32), iv (0 : Int32)]) rfl k) ?_
              refine Rch.go (U' := T1067.setTop (mkF m 24 #[rv a1, iv p1, jv x2, sv, iv (3 : Int32), iv (0 : Int32)] [])) (fun _ k => XS.goto X1067.here hx rfl (pc0 := 60) (pc' := 24) rfl (hb hby d64_60) (by decide) (by decide) k) ?_
              refine Rch.go (U' := T1067.setTop (mkF m 25 #[rv a1, iv p1, jv x2, sv, iv (3 : Int32), iv (0 : Int32)] [(.ref a1)])) (fun _ k => XS.aloadN X1067.here hx rfl (hb hby d64_24) rfl rfl k) ?_
              obtain ⟨T1070, X1070, e1070, st1070⟩ := getF X1067 hx hZ hown (host := "") (Or.inl (wi hw 26 rfl)) Via.refl e1067 F_a1_handles (g := (mkF m 25 #[rv a1, iv p1, jv x2, sv, iv (3 : Int32), iv (0 : Int32)] [(.ref a1)])) rfl rfl (hb hby d64_25)
              refine Rch.go (U' := T1070.setTop (mkF m 28 #[rv a1, iv p1, jv x2, sv, iv (3 : Int32), iv (0 : Int32)] [(.ref bh)])) st1070 ?_
              refine Rch.go (U' := T1070.setTop (mkF m 30 #[rv a1, iv p1, jv x2, sv, iv (3 : Int32), iv (0 : Int32)] [(.int (0 : Int32)), (.ref bh)])) (fun _ k => XS.iload X1070.here hx rfl (hb hby d64_28) rfl  k) ?_
              obtain ⟨cl1071, Ar1071, qk1071, Sz1071, Mn1071, Hs1071, Gf1071⟩ := id V_bh
              have ib1071 : ¬ ((0 : Int32) < 0 ∨ cl1071.slots.size ≤ ((0 : Int32)).toNatClampNeg) := inb_of Sz1071 ⟨by decide, by decide⟩
              have ea1071 : cl1071.slots[((0 : Int32)).toNatClampNeg]? = some (.long (gs.getD 0 0)) := Has.at Hs1071 ib1071 (own_getJ gs 0)
              refine Rch.go (U' := T1070.setTop (mkF m 31 #[rv a1, iv p1, jv x2, sv, iv (3 : Int32), iv (0 : Int32)] [(.long (gs.getD 0 0))])) (fun _ k => X1070.laload hx (j := (0 : Int32)) (v := (.long (gs.getD 0 0))) (by rw [e1070]; exact Ar1071.1) (State.isArrayOf_alike hZ.alike Ar1071.2.1) Ar1071.2.2 ib1071 ea1071 (g := (mkF m 30 #[rv a1, iv p1, jv x2, sv, iv (3 : Int32), iv (0 : Int32)] [(.int (0 : Int32)), (.ref bh)])) rfl rfl (hb hby d64_30) _ k) ?_
              refine Rch.go (U' := T1070.setTop (mkF m 32 #[rv a1, iv p1, jv x2, sv, iv (3 : Int32), iv (0 : Int32)] [(.long (0 : Int64)), (.long (gs.getD 0 0))])) (fun _ k => XS.lconst X1070.here hx rfl (hb hby d64_31) k) ?_
              refine Rch.go (U' := T1070.setTop (mkF m 33 #[rv a1, iv p1, jv x2, sv, iv (3 : Int32), iv (0 : Int32)] [(.int (XT.cmpL (gs.getD 0 0) (0 : Int64)))])) (fun _ k => XT.lcmp X1070.here hx rfl (hb hby d64_32) rfl k) ?_
              have br1072 : (gs.getD 0 0) = (0 : Int64) := (by rcases hz with q | q | q | q <;> first | exact q | exact absurd q br1054 | exact absurd q br1060 | exact absurd q br1066)
              refine Rch.go (U' := T1070.setTop (mkF m 63 #[rv a1, iv p1, jv x2, sv, iv (3 : Int32), iv (0 : Int32)] [])) (fun _ k => XS.ifYes X1070.here hx rfl (pc0 := 33) (pc' := 63) rfl (hb hby d64_33) rfl (XT.ll_eq_t br1072) (by decide) (by decide) k) ?_
              refine Rch.go (U' := T1070.setTop (mkF m 64 #[rv a1, iv p1, jv x2, sv, iv (3 : Int32), iv (0 : Int32)] [(.int (-1 : Int32))])) (fun _ k => XS.iconst X1070.here hx rfl (hb hby d64_63) k) ?_
              refine Rch.fin X1070 hlk (v := some (.int (-1 : Int32))) (fun h => by rw [hret] at h; cases h) e1070 (by decide) (by decide) (fun fs hr => retI X1070 hx hret (hb hby d64_64) hr) ?_
              exact ⟨by rw [hsj]; simp only [own_find, br1054, br1057, br1060, br1063, br1066, br1069, br1072, ↓reduceIte] <;> rfl, N0, rfl⟩
set_option maxRecDepth 65536 in
set_option maxHeartbeats 40000000 in
theorem find2 {p : Program} {l : Launch} {e : Env} {s : State} {m : MethodId} {args : Array Value} {below : List Frame} {meth : Method} {c : Code} {T0 : State} {locs : List Loc} {Z : State} {a0 : Array Value} {h0 : Heap} {n0 : Nat}  (a1 : Addr) (bh : Addr) (ba : Addr) (bl : Addr) (kh : ClassId) (ka : ClassId) (kl : ClassId) (cn : Int32) (gs : List Int64) (va : List Value) (vl : List Value) (p1 : Int32) (x2 : Int64)
    (X0 : Stand p l e ({ frames := 0, cells := 0, slots := 0, locals := 0 } : Room) s m args below meth c T0 locs 0 0) (hx : p.tables.exec = Jvm.exec) (hZ : Z.Warmed39 s.vm) (hw : ∀ d ∈ tables_1, d.before a0 Z = true) (hby : c.code = prog_36_method_6_code) (hml : c.maxLocals = 6) (hown : s.vm.findClass cST = some m.cls) (hret : meth.sig.returnType = some .int) (hlk : meth.locks = false) (e0 : T0.heap = h0) (N0 : Fr n0 locs) (Z0 : n0 ≤ h0.size) (B : Tb Z h0 n0 a1 bh ba bl kh ka kl cn gs va vl) (hz : gs.getD 0 0 = 0 ∨ gs.getD 1 0 = 0 ∨ gs.getD 2 0 = 0 ∨ gs.getD 3 0 = 0) (hsj : own_s p1 = 2) :
    Rch p e below (Fin s below (fun v h L => v = some (.int (own_find gs x2 4 (own_s p1))) ∧ Fr n0 L ∧ h = h0) 0 0) (T0.setTop (mkF m 24 #[rv a1, iv p1, jv x2, sv, iv (3 : Int32), iv (2 : Int32)] [])) := by
  obtain ⟨E_a1, F_a1_count, F_a1_handles, F_a1_hashes, F_a1_lengths, F_a1_outside, F_a1_expiries, V_bh, V_ba, V_bl, ⟨lg, la, ll⟩, ⟨g_a1, g_bh, g_ba, g_bl⟩, ⟨n_h, n_a, n_l⟩, n_ha, n_hl, n_al⟩ := B
  refine Rch.go (U' := T0.setTop (mkF m 25 #[rv a1, iv p1, jv x2, sv, iv (3 : Int32), iv (2 : Int32)] [(.ref a1)])) (fun _ k => XS.aloadN X0.here hx rfl (hb hby d64_24) rfl rfl k) ?_
  obtain ⟨T1073, X1073, e1073, st1073⟩ := getF X0 hx hZ hown (host := "") (Or.inl (wi hw 26 rfl)) Via.refl e0 F_a1_handles (g := (mkF m 25 #[rv a1, iv p1, jv x2, sv, iv (3 : Int32), iv (2 : Int32)] [(.ref a1)])) rfl rfl (hb hby d64_25)
  refine Rch.go (U' := T1073.setTop (mkF m 28 #[rv a1, iv p1, jv x2, sv, iv (3 : Int32), iv (2 : Int32)] [(.ref bh)])) st1073 ?_
  refine Rch.go (U' := T1073.setTop (mkF m 30 #[rv a1, iv p1, jv x2, sv, iv (3 : Int32), iv (2 : Int32)] [(.int (2 : Int32)), (.ref bh)])) (fun _ k => XS.iload X1073.here hx rfl (hb hby d64_28) rfl  k) ?_
  obtain ⟨cl1074, Ar1074, qk1074, Sz1074, Mn1074, Hs1074, Gf1074⟩ := id V_bh
  have ib1074 : ¬ ((2 : Int32) < 0 ∨ cl1074.slots.size ≤ ((2 : Int32)).toNatClampNeg) := inb_of Sz1074 ⟨by decide, by decide⟩
  have ea1074 : cl1074.slots[((2 : Int32)).toNatClampNeg]? = some (.long (gs.getD 2 0)) := Has.at Hs1074 ib1074 (own_getJ gs 2)
  refine Rch.go (U' := T1073.setTop (mkF m 31 #[rv a1, iv p1, jv x2, sv, iv (3 : Int32), iv (2 : Int32)] [(.long (gs.getD 2 0))])) (fun _ k => X1073.laload hx (j := (2 : Int32)) (v := (.long (gs.getD 2 0))) (by rw [e1073]; exact Ar1074.1) (State.isArrayOf_alike hZ.alike Ar1074.2.1) Ar1074.2.2 ib1074 ea1074 (g := (mkF m 30 #[rv a1, iv p1, jv x2, sv, iv (3 : Int32), iv (2 : Int32)] [(.int (2 : Int32)), (.ref bh)])) rfl rfl (hb hby d64_30) _ k) ?_
  refine Rch.go (U' := T1073.setTop (mkF m 32 #[rv a1, iv p1, jv x2, sv, iv (3 : Int32), iv (2 : Int32)] [(.long (0 : Int64)), (.long (gs.getD 2 0))])) (fun _ k => XS.lconst X1073.here hx rfl (hb hby d64_31) k) ?_
  refine Rch.go (U' := T1073.setTop (mkF m 33 #[rv a1, iv p1, jv x2, sv, iv (3 : Int32), iv (2 : Int32)] [(.int (XT.cmpL (gs.getD 2 0) (0 : Int64)))])) (fun _ k => XT.lcmp X1073.here hx rfl (hb hby d64_32) rfl k) ?_
  by_cases br1075 : (gs.getD 2 0) = (0 : Int64)
  ·
    refine Rch.go (U' := T1073.setTop (mkF m 63 #[rv a1, iv p1, jv x2, sv, iv (3 : Int32), iv (2 : Int32)] [])) (fun _ k => XS.ifYes X1073.here hx rfl (pc0 := 33) (pc' := 63) rfl (hb hby d64_33) rfl (XT.ll_eq_t br1075) (by decide) (by decide) k) ?_
    refine Rch.go (U' := T1073.setTop (mkF m 64 #[rv a1, iv p1, jv x2, sv, iv (3 : Int32), iv (2 : Int32)] [(.int (-1 : Int32))])) (fun _ k => XS.iconst X1073.here hx rfl (hb hby d64_63) k) ?_
    refine Rch.fin X1073 hlk (v := some (.int (-1 : Int32))) (fun h => by rw [hret] at h; cases h) e1073 (by decide) (by decide) (fun fs hr => retI X1073 hx hret (hb hby d64_64) hr) ?_
    exact ⟨by rw [hsj]; simp only [own_find, br1075, ↓reduceIte] <;> rfl, N0, rfl⟩
  ·
    refine Rch.go (U' := T1073.setTop (mkF m 36 #[rv a1, iv p1, jv x2, sv, iv (3 : Int32), iv (2 : Int32)] [])) (fun _ k => XS.ifNo X1073.here hx rfl (hb hby d64_33) rfl (XT.ll_eq_f br1075) k) ?_
    refine Rch.go (U' := T1073.setTop (mkF m 37 #[rv a1, iv p1, jv x2, sv, iv (3 : Int32), iv (2 : Int32)] [(.ref a1)])) (fun _ k => XS.aloadN X1073.here hx rfl (hb hby d64_36) rfl rfl k) ?_
    obtain ⟨T1076, X1076, e1076, st1076⟩ := getF X1073 hx hZ hown (host := "") (Or.inl (wi hw 26 rfl)) Via.refl e1073 F_a1_handles (g := (mkF m 37 #[rv a1, iv p1, jv x2, sv, iv (3 : Int32), iv (2 : Int32)] [(.ref a1)])) rfl rfl (hb hby d64_37)
    refine Rch.go (U' := T1076.setTop (mkF m 40 #[rv a1, iv p1, jv x2, sv, iv (3 : Int32), iv (2 : Int32)] [(.ref bh)])) st1076 ?_
    refine Rch.go (U' := T1076.setTop (mkF m 42 #[rv a1, iv p1, jv x2, sv, iv (3 : Int32), iv (2 : Int32)] [(.int (2 : Int32)), (.ref bh)])) (fun _ k => XS.iload X1076.here hx rfl (hb hby d64_40) rfl  k) ?_
    obtain ⟨cl1077, Ar1077, qk1077, Sz1077, Mn1077, Hs1077, Gf1077⟩ := id V_bh
    have ib1077 : ¬ ((2 : Int32) < 0 ∨ cl1077.slots.size ≤ ((2 : Int32)).toNatClampNeg) := inb_of Sz1077 ⟨by decide, by decide⟩
    have ea1077 : cl1077.slots[((2 : Int32)).toNatClampNeg]? = some (.long (gs.getD 2 0)) := Has.at Hs1077 ib1077 (own_getJ gs 2)
    refine Rch.go (U' := T1076.setTop (mkF m 43 #[rv a1, iv p1, jv x2, sv, iv (3 : Int32), iv (2 : Int32)] [(.long (gs.getD 2 0))])) (fun _ k => X1076.laload hx (j := (2 : Int32)) (v := (.long (gs.getD 2 0))) (by rw [e1076]; exact Ar1077.1) (State.isArrayOf_alike hZ.alike Ar1077.2.1) Ar1077.2.2 ib1077 ea1077 (g := (mkF m 42 #[rv a1, iv p1, jv x2, sv, iv (3 : Int32), iv (2 : Int32)] [(.int (2 : Int32)), (.ref bh)])) rfl rfl (hb hby d64_42) _ k) ?_
    refine Rch.go (U' := T1076.setTop (mkF m 44 #[rv a1, iv p1, jv x2, sv, iv (3 : Int32), iv (2 : Int32)] [(.long x2), (.long (gs.getD 2 0))])) (fun _ k => XS.lloadN X1076.here hx rfl (hb hby d64_43) rfl  k) ?_
    refine Rch.go (U' := T1076.setTop (mkF m 45 #[rv a1, iv p1, jv x2, sv, iv (3 : Int32), iv (2 : Int32)] [(.int (XT.cmpL (gs.getD 2 0) x2))])) (fun _ k => XT.lcmp X1076.here hx rfl (hb hby d64_44) rfl k) ?_
    by_cases br1078 : (gs.getD 2 0) = x2
    ·
      refine Rch.go (U' := T1076.setTop (mkF m 48 #[rv a1, iv p1, jv x2, sv, iv (3 : Int32), iv (2 : Int32)] [])) (fun _ k => XS.ifNo X1076.here hx rfl (hb hby d64_45) rfl (XT.ll_ne_f br1078) k) ?_
      refine Rch.go (U' := T1076.setTop (mkF m 50 #[rv a1, iv p1, jv x2, sv, iv (3 : Int32), iv (2 : Int32)] [(.int (2 : Int32))])) (fun _ k => XS.iload X1076.here hx rfl (hb hby d64_48) rfl  k) ?_
      refine Rch.fin X1076 hlk (v := some (.int (2 : Int32))) (fun h => by rw [hret] at h; cases h) e1076 (by decide) (by decide) (fun fs hr => retI X1076 hx hret (hb hby d64_50) hr) ?_
      have hx2 : ¬ x2 = 0 := fun q => br1075 (br1078.trans q)
      exact ⟨by rw [hsj]; simp only [own_find, br1075, br1078, hx2, ↓reduceIte] <;> rfl, N0, rfl⟩
    ·
      refine Rch.go (U' := T1076.setTop (mkF m 51 #[rv a1, iv p1, jv x2, sv, iv (3 : Int32), iv (2 : Int32)] [])) (fun _ k => XS.ifYes X1076.here hx rfl (pc0 := 45) (pc' := 51) rfl (hb hby d64_45) rfl (XT.ll_ne_t br1078) (by decide) (by decide) k) ?_
      refine Rch.go (U' := T1076.setTop (mkF m 53 #[rv a1, iv p1, jv x2, sv, iv (3 : Int32), iv (2 : Int32)] [(.int (2 : Int32))])) (fun _ k => XS.iload X1076.here hx rfl (hb hby d64_51) rfl  k) ?_
      refine Rch.go (U' := T1076.setTop (mkF m 54 #[rv a1, iv p1, jv x2, sv, iv (3 : Int32), iv (2 : Int32)] [(.int (1 : Int32)), (.int (2 : Int32))])) (fun _ k => XS.iconst X1076.here hx rfl (hb hby d64_53) k) ?_
      refine Rch.go (U' := T1076.setTop (mkF m 55 #[rv a1, iv p1, jv x2, sv, iv (3 : Int32), iv (2 : Int32)] [(.int ((2 : Int32) + (1 : Int32)))])) (fun _ k => XS.iadd X1076.here hx rfl (hb hby d64_54) rfl k) ?_
      rw [(by decide : ((2 : Int32) + (1 : Int32)) = (3 : Int32))]
      refine Rch.go (U' := T1076.setTop (mkF m 57 #[rv a1, iv p1, jv x2, sv, iv (3 : Int32), iv (2 : Int32)] [(.int (3 : Int32)), (.int (3 : Int32))])) (fun _ k => XS.iload X1076.here hx rfl (hb hby d64_55) rfl  k) ?_
      refine Rch.go (U' := T1076.setTop (mkF m 58 #[rv a1, iv p1, jv x2, sv, iv (3 : Int32), iv (2 : Int32)] [(.int ((3 : Int32) &&& (3 : Int32)))])) (fun _ k => XS.iand X1076.here hx rfl (hb hby d64_57) rfl k) ?_
      rw [(by decide : ((3 : Int32) &&& (3 : Int32)) = (3 : Int32))]
      refine Rch.go (U' := T1076.setTop (mkF m 60 #[rv a1, iv p1, jv x2, sv, iv (3 : Int32), iv (3 : Int32)] [])) (fun _ k => XS.istore X1076.here hx rfl (hb hby d64_58) rfl (l' := #[rv a1, iv p1, jv x2, sv, iv (3 : Int32), iv (3 : Int32)]) rfl k) ?_
      refine Rch.go (U' := T1076.setTop (mkF m 24 #[rv a1, iv p1, jv x2, sv, iv (3 : Int32), iv (3 : Int32)] [])) (fun _ k => XS.goto X1076.here hx rfl (pc0 := 60) (pc' := 24) rfl (hb hby d64_60) (by decide) (by decide) k) ?_
      refine Rch.go (U' := T1076.setTop (mkF m 25 #[rv a1, iv p1, jv x2, sv, iv (3 : Int32), iv (3 : Int32)] [(.ref a1)])) (fun _ k => XS.aloadN X1076.here hx rfl (hb hby d64_24) rfl rfl k) ?_
      obtain ⟨T1079, X1079, e1079, st1079⟩ := getF X1076 hx hZ hown (host := "") (Or.inl (wi hw 26 rfl)) Via.refl e1076 F_a1_handles (g := (mkF m 25 #[rv a1, iv p1, jv x2, sv, iv (3 : Int32), iv (3 : Int32)] [(.ref a1)])) rfl rfl (hb hby d64_25)
      refine Rch.go (U' := T1079.setTop (mkF m 28 #[rv a1, iv p1, jv x2, sv, iv (3 : Int32), iv (3 : Int32)] [(.ref bh)])) st1079 ?_
      refine Rch.go (U' := T1079.setTop (mkF m 30 #[rv a1, iv p1, jv x2, sv, iv (3 : Int32), iv (3 : Int32)] [(.int (3 : Int32)), (.ref bh)])) (fun _ k => XS.iload X1079.here hx rfl (hb hby d64_28) rfl  k) ?_
      obtain ⟨cl1080, Ar1080, qk1080, Sz1080, Mn1080, Hs1080, Gf1080⟩ := id V_bh
      have ib1080 : ¬ ((3 : Int32) < 0 ∨ cl1080.slots.size ≤ ((3 : Int32)).toNatClampNeg) := inb_of Sz1080 ⟨by decide, by decide⟩
      have ea1080 : cl1080.slots[((3 : Int32)).toNatClampNeg]? = some (.long (gs.getD 3 0)) := Has.at Hs1080 ib1080 (own_getJ gs 3)
      refine Rch.go (U' := T1079.setTop (mkF m 31 #[rv a1, iv p1, jv x2, sv, iv (3 : Int32), iv (3 : Int32)] [(.long (gs.getD 3 0))])) (fun _ k => X1079.laload hx (j := (3 : Int32)) (v := (.long (gs.getD 3 0))) (by rw [e1079]; exact Ar1080.1) (State.isArrayOf_alike hZ.alike Ar1080.2.1) Ar1080.2.2 ib1080 ea1080 (g := (mkF m 30 #[rv a1, iv p1, jv x2, sv, iv (3 : Int32), iv (3 : Int32)] [(.int (3 : Int32)), (.ref bh)])) rfl rfl (hb hby d64_30) _ k) ?_
      refine Rch.go (U' := T1079.setTop (mkF m 32 #[rv a1, iv p1, jv x2, sv, iv (3 : Int32), iv (3 : Int32)] [(.long (0 : Int64)), (.long (gs.getD 3 0))])) (fun _ k => XS.lconst X1079.here hx rfl (hb hby d64_31) k) ?_
      refine Rch.go (U' := T1079.setTop (mkF m 33 #[rv a1, iv p1, jv x2, sv, iv (3 : Int32), iv (3 : Int32)] [(.int (XT.cmpL (gs.getD 3 0) (0 : Int64)))])) (fun _ k => XT.lcmp X1079.here hx rfl (hb hby d64_32) rfl k) ?_
      by_cases br1081 : (gs.getD 3 0) = (0 : Int64)
      ·
        refine Rch.go (U' := T1079.setTop (mkF m 63 #[rv a1, iv p1, jv x2, sv, iv (3 : Int32), iv (3 : Int32)] [])) (fun _ k => XS.ifYes X1079.here hx rfl (pc0 := 33) (pc' := 63) rfl (hb hby d64_33) rfl (XT.ll_eq_t br1081) (by decide) (by decide) k) ?_
        refine Rch.go (U' := T1079.setTop (mkF m 64 #[rv a1, iv p1, jv x2, sv, iv (3 : Int32), iv (3 : Int32)] [(.int (-1 : Int32))])) (fun _ k => XS.iconst X1079.here hx rfl (hb hby d64_63) k) ?_
        refine Rch.fin X1079 hlk (v := some (.int (-1 : Int32))) (fun h => by rw [hret] at h; cases h) e1079 (by decide) (by decide) (fun fs hr => retI X1079 hx hret (hb hby d64_64) hr) ?_
        exact ⟨by rw [hsj]; simp only [own_find, br1075, br1078, br1081, ↓reduceIte] <;> rfl, N0, rfl⟩
      ·
        refine Rch.go (U' := T1079.setTop (mkF m 36 #[rv a1, iv p1, jv x2, sv, iv (3 : Int32), iv (3 : Int32)] [])) (fun _ k => XS.ifNo X1079.here hx rfl (hb hby d64_33) rfl (XT.ll_eq_f br1081) k) ?_
        refine Rch.go (U' := T1079.setTop (mkF m 37 #[rv a1, iv p1, jv x2, sv, iv (3 : Int32), iv (3 : Int32)] [(.ref a1)])) (fun _ k => XS.aloadN X1079.here hx rfl (hb hby d64_36) rfl rfl k) ?_
        obtain ⟨T1082, X1082, e1082, st1082⟩ := getF X1079 hx hZ hown (host := "") (Or.inl (wi hw 26 rfl)) Via.refl e1079 F_a1_handles (g := (mkF m 37 #[rv a1, iv p1, jv x2, sv, iv (3 : Int32), iv (3 : Int32)] [(.ref a1)])) rfl rfl (hb hby d64_37)
        refine Rch.go (U' := T1082.setTop (mkF m 40 #[rv a1, iv p1, jv x2, sv, iv (3 : Int32), iv (3 : Int32)] [(.ref bh)])) st1082 ?_
        refine Rch.go (U' := T1082.setTop (mkF m 42 #[rv a1, iv p1, jv x2, sv, iv (3 : Int32), iv (3 : Int32)] [(.int (3 : Int32)), (.ref bh)])) (fun _ k => XS.iload X1082.here hx rfl (hb hby d64_40) rfl  k) ?_
        obtain ⟨cl1083, Ar1083, qk1083, Sz1083, Mn1083, Hs1083, Gf1083⟩ := id V_bh
        have ib1083 : ¬ ((3 : Int32) < 0 ∨ cl1083.slots.size ≤ ((3 : Int32)).toNatClampNeg) := inb_of Sz1083 ⟨by decide, by decide⟩
        have ea1083 : cl1083.slots[((3 : Int32)).toNatClampNeg]? = some (.long (gs.getD 3 0)) := Has.at Hs1083 ib1083 (own_getJ gs 3)
        refine Rch.go (U' := T1082.setTop (mkF m 43 #[rv a1, iv p1, jv x2, sv, iv (3 : Int32), iv (3 : Int32)] [(.long (gs.getD 3 0))])) (fun _ k => X1082.laload hx (j := (3 : Int32)) (v := (.long (gs.getD 3 0))) (by rw [e1082]; exact Ar1083.1) (State.isArrayOf_alike hZ.alike Ar1083.2.1) Ar1083.2.2 ib1083 ea1083 (g := (mkF m 42 #[rv a1, iv p1, jv x2, sv, iv (3 : Int32), iv (3 : Int32)] [(.int (3 : Int32)), (.ref bh)])) rfl rfl (hb hby d64_42) _ k) ?_
        refine Rch.go (U' := T1082.setTop (mkF m 44 #[rv a1, iv p1, jv x2, sv, iv (3 : Int32), iv (3 : Int32)] [(.long x2), (.long (gs.getD 3 0))])) (fun _ k => XS.lloadN X1082.here hx rfl (hb hby d64_43) rfl  k) ?_
        refine Rch.go (U' := T1082.setTop (mkF m 45 #[rv a1, iv p1, jv x2, sv, iv (3 : Int32), iv (3 : Int32)] [(.int (XT.cmpL (gs.getD 3 0) x2))])) (fun _ k => XT.lcmp X1082.here hx rfl (hb hby d64_44) rfl k) ?_
        by_cases br1084 : (gs.getD 3 0) = x2
        ·
          refine Rch.go (U' := T1082.setTop (mkF m 48 #[rv a1, iv p1, jv x2, sv, iv (3 : Int32), iv (3 : Int32)] [])) (fun _ k => XS.ifNo X1082.here hx rfl (hb hby d64_45) rfl (XT.ll_ne_f br1084) k) ?_
          refine Rch.go (U' := T1082.setTop (mkF m 50 #[rv a1, iv p1, jv x2, sv, iv (3 : Int32), iv (3 : Int32)] [(.int (3 : Int32))])) (fun _ k => XS.iload X1082.here hx rfl (hb hby d64_48) rfl  k) ?_
          refine Rch.fin X1082 hlk (v := some (.int (3 : Int32))) (fun h => by rw [hret] at h; cases h) e1082 (by decide) (by decide) (fun fs hr => retI X1082 hx hret (hb hby d64_50) hr) ?_
          have hx2 : ¬ x2 = 0 := fun q => br1081 (br1084.trans q)
          exact ⟨by rw [hsj]; simp only [own_find, br1075, br1078, br1081, br1084, hx2, ↓reduceIte] <;> rfl, N0, rfl⟩
        ·
          refine Rch.go (U' := T1082.setTop (mkF m 51 #[rv a1, iv p1, jv x2, sv, iv (3 : Int32), iv (3 : Int32)] [])) (fun _ k => XS.ifYes X1082.here hx rfl (pc0 := 45) (pc' := 51) rfl (hb hby d64_45) rfl (XT.ll_ne_t br1084) (by decide) (by decide) k) ?_
          refine Rch.go (U' := T1082.setTop (mkF m 53 #[rv a1, iv p1, jv x2, sv, iv (3 : Int32), iv (3 : Int32)] [(.int (3 : Int32))])) (fun _ k => XS.iload X1082.here hx rfl (hb hby d64_51) rfl  k) ?_
          refine Rch.go (U' := T1082.setTop (mkF m 54 #[rv a1, iv p1, jv x2, sv, iv (3 : Int32), iv (3 : Int32)] [(.int (1 : Int32)), (.int (3 : Int32))])) (fun _ k => XS.iconst X1082.here hx rfl (hb hby d64_53) k) ?_
          refine Rch.go (U' := T1082.setTop (mkF m 55 #[rv a1, iv p1, jv x2, sv, iv (3 : Int32), iv (3 : Int32)] [(.int ((3 : Int32) + (1 : Int32)))])) (fun _ k => XS.iadd X1082.here hx rfl (hb hby d64_54) rfl k) ?_
          rw [(by decide : ((3 : Int32) + (1 : Int32)) = (4 : Int32))]
          refine Rch.go (U' := T1082.setTop (mkF m 57 #[rv a1, iv p1, jv x2, sv, iv (3 : Int32), iv (3 : Int32)] [(.int (3 : Int32)), (.int (4 : Int32))])) (fun _ k => XS.iload X1082.here hx rfl (hb hby d64_55) rfl  k) ?_
          refine Rch.go (U' := T1082.setTop (mkF m 58 #[rv a1, iv p1, jv x2, sv, iv (3 : Int32), iv (3 : Int32)] [(.int ((4 : Int32) &&& (3 : Int32)))])) (fun _ k => XS.iand X1082.here hx rfl (hb hby d64_57) rfl k) ?_
          rw [(by decide : ((4 : Int32) &&& (3 : Int32)) = (0 : Int32))]
          refine Rch.go (U' := T1082.setTop (mkF m 60 #[rv a1, iv p1, jv x2, sv, iv (3 : Int32), iv (0 : Int32)] [])) (fun _ k => XS.istore X1082.here hx rfl (hb hby d64_58) rfl (l' := #[rv a1, iv p1, jv x2, sv, iv (3 : Int32), iv (0 : Int32)]) rfl k) ?_
          refine Rch.go (U' := T1082.setTop (mkF m 24 #[rv a1, iv p1, jv x2, sv, iv (3 : Int32), iv (0 : Int32)] [])) (fun _ k => XS.goto X1082.here hx rfl (pc0 := 60) (pc' := 24) rfl (hb hby d64_60) (by decide) (by decide) k) ?_
          refine Rch.go (U' := T1082.setTop (mkF m 25 #[rv a1, iv p1, jv x2, sv, iv (3 : Int32), iv (0 : Int32)] [(.ref a1)])) (fun _ k => XS.aloadN X1082.here hx rfl (hb hby d64_24) rfl rfl k) ?_
          obtain ⟨T1085, X1085, e1085, st1085⟩ := getF X1082 hx hZ hown (host := "") (Or.inl (wi hw 26 rfl)) Via.refl e1082 F_a1_handles (g := (mkF m 25 #[rv a1, iv p1, jv x2, sv, iv (3 : Int32), iv (0 : Int32)] [(.ref a1)])) rfl rfl (hb hby d64_25)
          refine Rch.go (U' := T1085.setTop (mkF m 28 #[rv a1, iv p1, jv x2, sv, iv (3 : Int32), iv (0 : Int32)] [(.ref bh)])) st1085 ?_
          refine Rch.go (U' := T1085.setTop (mkF m 30 #[rv a1, iv p1, jv x2, sv, iv (3 : Int32), iv (0 : Int32)] [(.int (0 : Int32)), (.ref bh)])) (fun _ k => XS.iload X1085.here hx rfl (hb hby d64_28) rfl  k) ?_
          obtain ⟨cl1086, Ar1086, qk1086, Sz1086, Mn1086, Hs1086, Gf1086⟩ := id V_bh
          have ib1086 : ¬ ((0 : Int32) < 0 ∨ cl1086.slots.size ≤ ((0 : Int32)).toNatClampNeg) := inb_of Sz1086 ⟨by decide, by decide⟩
          have ea1086 : cl1086.slots[((0 : Int32)).toNatClampNeg]? = some (.long (gs.getD 0 0)) := Has.at Hs1086 ib1086 (own_getJ gs 0)
          refine Rch.go (U' := T1085.setTop (mkF m 31 #[rv a1, iv p1, jv x2, sv, iv (3 : Int32), iv (0 : Int32)] [(.long (gs.getD 0 0))])) (fun _ k => X1085.laload hx (j := (0 : Int32)) (v := (.long (gs.getD 0 0))) (by rw [e1085]; exact Ar1086.1) (State.isArrayOf_alike hZ.alike Ar1086.2.1) Ar1086.2.2 ib1086 ea1086 (g := (mkF m 30 #[rv a1, iv p1, jv x2, sv, iv (3 : Int32), iv (0 : Int32)] [(.int (0 : Int32)), (.ref bh)])) rfl rfl (hb hby d64_30) _ k) ?_
          refine Rch.go (U' := T1085.setTop (mkF m 32 #[rv a1, iv p1, jv x2, sv, iv (3 : Int32), iv (0 : Int32)] [(.long (0 : Int64)), (.long (gs.getD 0 0))])) (fun _ k => XS.lconst X1085.here hx rfl (hb hby d64_31) k) ?_
          refine Rch.go (U' := T1085.setTop (mkF m 33 #[rv a1, iv p1, jv x2, sv, iv (3 : Int32), iv (0 : Int32)] [(.int (XT.cmpL (gs.getD 0 0) (0 : Int64)))])) (fun _ k => XT.lcmp X1085.here hx rfl (hb hby d64_32) rfl k) ?_
          by_cases br1087 : (gs.getD 0 0) = (0 : Int64)
          ·
            refine Rch.go (U' := T1085.setTop (mkF m 63 #[rv a1, iv p1, jv x2, sv, iv (3 : Int32), iv (0 : Int32)] [])) (fun _ k => XS.ifYes X1085.here hx rfl (pc0 := 33) (pc' := 63) rfl (hb hby d64_33) rfl (XT.ll_eq_t br1087) (by decide) (by decide) k) ?_
            refine Rch.go (U' := T1085.setTop (mkF m 64 #[rv a1, iv p1, jv x2, sv, iv (3 : Int32), iv (0 : Int32)] [(.int (-1 : Int32))])) (fun _ k => XS.iconst X1085.here hx rfl (hb hby d64_63) k) ?_
            refine Rch.fin X1085 hlk (v := some (.int (-1 : Int32))) (fun h => by rw [hret] at h; cases h) e1085 (by decide) (by decide) (fun fs hr => retI X1085 hx hret (hb hby d64_64) hr) ?_
            exact ⟨by rw [hsj]; simp only [own_find, br1075, br1078, br1081, br1084, br1087, ↓reduceIte] <;> rfl, N0, rfl⟩
          ·
            refine Rch.go (U' := T1085.setTop (mkF m 36 #[rv a1, iv p1, jv x2, sv, iv (3 : Int32), iv (0 : Int32)] [])) (fun _ k => XS.ifNo X1085.here hx rfl (hb hby d64_33) rfl (XT.ll_eq_f br1087) k) ?_
            refine Rch.go (U' := T1085.setTop (mkF m 37 #[rv a1, iv p1, jv x2, sv, iv (3 : Int32), iv (0 : Int32)] [(.ref a1)])) (fun _ k => XS.aloadN X1085.here hx rfl (hb hby d64_36) rfl rfl k) ?_
            obtain ⟨T1088, X1088, e1088, st1088⟩ := getF X1085 hx hZ hown (host := "") (Or.inl (wi hw 26 rfl)) Via.refl e1085 F_a1_handles (g := (mkF m 37 #[rv a1, iv p1, jv x2, sv, iv (3 : Int32), iv (0 : Int32)] [(.ref a1)])) rfl rfl (hb hby d64_37)
            refine Rch.go (U' := T1088.setTop (mkF m 40 #[rv a1, iv p1, jv x2, sv, iv (3 : Int32), iv (0 : Int32)] [(.ref bh)])) st1088 ?_
            refine Rch.go (U' := T1088.setTop (mkF m 42 #[rv a1, iv p1, jv x2, sv, iv (3 : Int32), iv (0 : Int32)] [(.int (0 : Int32)), (.ref bh)])) (fun _ k => XS.iload X1088.here hx rfl (hb hby d64_40) rfl  k) ?_
            obtain ⟨cl1089, Ar1089, qk1089, Sz1089, Mn1089, Hs1089, Gf1089⟩ := id V_bh
            have ib1089 : ¬ ((0 : Int32) < 0 ∨ cl1089.slots.size ≤ ((0 : Int32)).toNatClampNeg) := inb_of Sz1089 ⟨by decide, by decide⟩
            have ea1089 : cl1089.slots[((0 : Int32)).toNatClampNeg]? = some (.long (gs.getD 0 0)) := Has.at Hs1089 ib1089 (own_getJ gs 0)
            refine Rch.go (U' := T1088.setTop (mkF m 43 #[rv a1, iv p1, jv x2, sv, iv (3 : Int32), iv (0 : Int32)] [(.long (gs.getD 0 0))])) (fun _ k => X1088.laload hx (j := (0 : Int32)) (v := (.long (gs.getD 0 0))) (by rw [e1088]; exact Ar1089.1) (State.isArrayOf_alike hZ.alike Ar1089.2.1) Ar1089.2.2 ib1089 ea1089 (g := (mkF m 42 #[rv a1, iv p1, jv x2, sv, iv (3 : Int32), iv (0 : Int32)] [(.int (0 : Int32)), (.ref bh)])) rfl rfl (hb hby d64_42) _ k) ?_
            refine Rch.go (U' := T1088.setTop (mkF m 44 #[rv a1, iv p1, jv x2, sv, iv (3 : Int32), iv (0 : Int32)] [(.long x2), (.long (gs.getD 0 0))])) (fun _ k => XS.lloadN X1088.here hx rfl (hb hby d64_43) rfl  k) ?_
            refine Rch.go (U' := T1088.setTop (mkF m 45 #[rv a1, iv p1, jv x2, sv, iv (3 : Int32), iv (0 : Int32)] [(.int (XT.cmpL (gs.getD 0 0) x2))])) (fun _ k => XT.lcmp X1088.here hx rfl (hb hby d64_44) rfl k) ?_
            by_cases br1090 : (gs.getD 0 0) = x2
            ·
              refine Rch.go (U' := T1088.setTop (mkF m 48 #[rv a1, iv p1, jv x2, sv, iv (3 : Int32), iv (0 : Int32)] [])) (fun _ k => XS.ifNo X1088.here hx rfl (hb hby d64_45) rfl (XT.ll_ne_f br1090) k) ?_
              refine Rch.go (U' := T1088.setTop (mkF m 50 #[rv a1, iv p1, jv x2, sv, iv (3 : Int32), iv (0 : Int32)] [(.int (0 : Int32))])) (fun _ k => XS.iload X1088.here hx rfl (hb hby d64_48) rfl  k) ?_
              refine Rch.fin X1088 hlk (v := some (.int (0 : Int32))) (fun h => by rw [hret] at h; cases h) e1088 (by decide) (by decide) (fun fs hr => retI X1088 hx hret (hb hby d64_50) hr) ?_
              have hx2 : ¬ x2 = 0 := fun q => br1087 (br1090.trans q)
              exact ⟨by rw [hsj]; simp only [own_find, br1075, br1078, br1081, br1084, br1087, br1090, hx2, ↓reduceIte] <;> rfl, N0, rfl⟩
            ·
              refine Rch.go (U' := T1088.setTop (mkF m 51 #[rv a1, iv p1, jv x2, sv, iv (3 : Int32), iv (0 : Int32)] [])) (fun _ k => XS.ifYes X1088.here hx rfl (pc0 := 45) (pc' := 51) rfl (hb hby d64_45) rfl (XT.ll_ne_t br1090) (by decide) (by decide) k) ?_
              refine Rch.go (U' := T1088.setTop (mkF m 53 #[rv a1, iv p1, jv x2, sv, iv (3 : Int32), iv (0 : Int32)] [(.int (0 : Int32))])) (fun _ k => XS.iload X1088.here hx rfl (hb hby d64_51) rfl  k) ?_
              refine Rch.go (U' := T1088.setTop (mkF m 54 #[rv a1, iv p1, jv x2, sv, iv (3 : Int32), iv (0 : Int32)] [(.int (1 : Int32)), (.int (0 : Int32))])) (fun _ k => XS.iconst X1088.here hx rfl (hb hby d64_53) k) ?_
              refine Rch.go (U' := T1088.setTop (mkF m 55 #[rv a1, iv p1, jv x2, sv, iv (3 : Int32), iv (0 : Int32)] [(.int ((0 : Int32) + (1 : Int32)))])) (fun _ k => XS.iadd X1088.here hx rfl (hb hby d64_54) rfl k) ?_
              rw [(by decide : ((0 : Int32) + (1 : Int32)) = (1 : Int32))]
              refine Rch.go (U' := T1088.setTop (mkF m 57 #[rv a1, iv p1, jv x2, sv, iv (3 : Int32), iv (0 : Int32)] [(.int (3 : Int32)), (.int (1 : Int32))])) (fun _ k => XS.iload X1088.here hx rfl (hb hby d64_55) rfl  k) ?_
              refine Rch.go (U' := T1088.setTop (mkF m 58 #[rv a1, iv p1, jv x2, sv, iv (3 : Int32), iv (0 : Int32)] [(.int ((1 : Int32) &&& (3 : Int32)))])) (fun _ k => XS.iand X1088.here hx rfl (hb hby d64_57) rfl k) ?_
              rw [(by decide : ((1 : Int32) &&& (3 : Int32)) = (1 : Int32))]
              refine Rch.go (U' := T1088.setTop (mkF m 60 #[rv a1, iv p1, jv x2, sv, iv (3 : Int32), iv (1 : Int32)] [])) (fun _ k => XS.istore X1088.here hx rfl (hb hby d64_58) rfl (l' := #[rv a1, iv p1, jv x2, sv, iv (3 : Int32), iv (1 : Int32)]) rfl k) ?_
              refine Rch.go (U' := T1088.setTop (mkF m 24 #[rv a1, iv p1, jv x2, sv, iv (3 : Int32), iv (1 : Int32)] [])) (fun _ k => XS.goto X1088.here hx rfl (pc0 := 60) (pc' := 24) rfl (hb hby d64_60) (by decide) (by decide) k) ?_
              refine Rch.go (U' := T1088.setTop (mkF m 25 #[rv a1, iv p1, jv x2, sv, iv (3 : Int32), iv (1 : Int32)] [(.ref a1)])) (fun _ k => XS.aloadN X1088.here hx rfl (hb hby d64_24) rfl rfl k) ?_
              obtain ⟨T1091, X1091, e1091, st1091⟩ := getF X1088 hx hZ hown (host := "") (Or.inl (wi hw 26 rfl)) Via.refl e1088 F_a1_handles (g := (mkF m 25 #[rv a1, iv p1, jv x2, sv, iv (3 : Int32), iv (1 : Int32)] [(.ref a1)])) rfl rfl (hb hby d64_25)
              refine Rch.go (U' := T1091.setTop (mkF m 28 #[rv a1, iv p1, jv x2, sv, iv (3 : Int32), iv (1 : Int32)] [(.ref bh)])) st1091 ?_
              refine Rch.go (U' := T1091.setTop (mkF m 30 #[rv a1, iv p1, jv x2, sv, iv (3 : Int32), iv (1 : Int32)] [(.int (1 : Int32)), (.ref bh)])) (fun _ k => XS.iload X1091.here hx rfl (hb hby d64_28) rfl  k) ?_
              obtain ⟨cl1092, Ar1092, qk1092, Sz1092, Mn1092, Hs1092, Gf1092⟩ := id V_bh
              have ib1092 : ¬ ((1 : Int32) < 0 ∨ cl1092.slots.size ≤ ((1 : Int32)).toNatClampNeg) := inb_of Sz1092 ⟨by decide, by decide⟩
              have ea1092 : cl1092.slots[((1 : Int32)).toNatClampNeg]? = some (.long (gs.getD 1 0)) := Has.at Hs1092 ib1092 (own_getJ gs 1)
              refine Rch.go (U' := T1091.setTop (mkF m 31 #[rv a1, iv p1, jv x2, sv, iv (3 : Int32), iv (1 : Int32)] [(.long (gs.getD 1 0))])) (fun _ k => X1091.laload hx (j := (1 : Int32)) (v := (.long (gs.getD 1 0))) (by rw [e1091]; exact Ar1092.1) (State.isArrayOf_alike hZ.alike Ar1092.2.1) Ar1092.2.2 ib1092 ea1092 (g := (mkF m 30 #[rv a1, iv p1, jv x2, sv, iv (3 : Int32), iv (1 : Int32)] [(.int (1 : Int32)), (.ref bh)])) rfl rfl (hb hby d64_30) _ k) ?_
              refine Rch.go (U' := T1091.setTop (mkF m 32 #[rv a1, iv p1, jv x2, sv, iv (3 : Int32), iv (1 : Int32)] [(.long (0 : Int64)), (.long (gs.getD 1 0))])) (fun _ k => XS.lconst X1091.here hx rfl (hb hby d64_31) k) ?_
              refine Rch.go (U' := T1091.setTop (mkF m 33 #[rv a1, iv p1, jv x2, sv, iv (3 : Int32), iv (1 : Int32)] [(.int (XT.cmpL (gs.getD 1 0) (0 : Int64)))])) (fun _ k => XT.lcmp X1091.here hx rfl (hb hby d64_32) rfl k) ?_
              have br1093 : (gs.getD 1 0) = (0 : Int64) := (by rcases hz with q | q | q | q <;> first | exact q | exact absurd q br1075 | exact absurd q br1081 | exact absurd q br1087)
              refine Rch.go (U' := T1091.setTop (mkF m 63 #[rv a1, iv p1, jv x2, sv, iv (3 : Int32), iv (1 : Int32)] [])) (fun _ k => XS.ifYes X1091.here hx rfl (pc0 := 33) (pc' := 63) rfl (hb hby d64_33) rfl (XT.ll_eq_t br1093) (by decide) (by decide) k) ?_
              refine Rch.go (U' := T1091.setTop (mkF m 64 #[rv a1, iv p1, jv x2, sv, iv (3 : Int32), iv (1 : Int32)] [(.int (-1 : Int32))])) (fun _ k => XS.iconst X1091.here hx rfl (hb hby d64_63) k) ?_
              refine Rch.fin X1091 hlk (v := some (.int (-1 : Int32))) (fun h => by rw [hret] at h; cases h) e1091 (by decide) (by decide) (fun fs hr => retI X1091 hx hret (hb hby d64_64) hr) ?_
              exact ⟨by rw [hsj]; simp only [own_find, br1075, br1078, br1081, br1084, br1087, br1090, br1093, ↓reduceIte] <;> rfl, N0, rfl⟩
set_option maxRecDepth 65536 in
set_option maxHeartbeats 40000000 in
theorem find3 {p : Program} {l : Launch} {e : Env} {s : State} {m : MethodId} {args : Array Value} {below : List Frame} {meth : Method} {c : Code} {T0 : State} {locs : List Loc} {Z : State} {a0 : Array Value} {h0 : Heap} {n0 : Nat}  (a1 : Addr) (bh : Addr) (ba : Addr) (bl : Addr) (kh : ClassId) (ka : ClassId) (kl : ClassId) (cn : Int32) (gs : List Int64) (va : List Value) (vl : List Value) (p1 : Int32) (x2 : Int64)
    (X0 : Stand p l e ({ frames := 0, cells := 0, slots := 0, locals := 0 } : Room) s m args below meth c T0 locs 0 0) (hx : p.tables.exec = Jvm.exec) (hZ : Z.Warmed39 s.vm) (hw : ∀ d ∈ tables_1, d.before a0 Z = true) (hby : c.code = prog_36_method_6_code) (hml : c.maxLocals = 6) (hown : s.vm.findClass cST = some m.cls) (hret : meth.sig.returnType = some .int) (hlk : meth.locks = false) (e0 : T0.heap = h0) (N0 : Fr n0 locs) (Z0 : n0 ≤ h0.size) (B : Tb Z h0 n0 a1 bh ba bl kh ka kl cn gs va vl) (hz : gs.getD 0 0 = 0 ∨ gs.getD 1 0 = 0 ∨ gs.getD 2 0 = 0 ∨ gs.getD 3 0 = 0) (hsj : own_s p1 = 3) :
    Rch p e below (Fin s below (fun v h L => v = some (.int (own_find gs x2 4 (own_s p1))) ∧ Fr n0 L ∧ h = h0) 0 0) (T0.setTop (mkF m 24 #[rv a1, iv p1, jv x2, sv, iv (3 : Int32), iv (3 : Int32)] [])) := by
  obtain ⟨E_a1, F_a1_count, F_a1_handles, F_a1_hashes, F_a1_lengths, F_a1_outside, F_a1_expiries, V_bh, V_ba, V_bl, ⟨lg, la, ll⟩, ⟨g_a1, g_bh, g_ba, g_bl⟩, ⟨n_h, n_a, n_l⟩, n_ha, n_hl, n_al⟩ := B
  refine Rch.go (U' := T0.setTop (mkF m 25 #[rv a1, iv p1, jv x2, sv, iv (3 : Int32), iv (3 : Int32)] [(.ref a1)])) (fun _ k => XS.aloadN X0.here hx rfl (hb hby d64_24) rfl rfl k) ?_
  obtain ⟨T1094, X1094, e1094, st1094⟩ := getF X0 hx hZ hown (host := "") (Or.inl (wi hw 26 rfl)) Via.refl e0 F_a1_handles (g := (mkF m 25 #[rv a1, iv p1, jv x2, sv, iv (3 : Int32), iv (3 : Int32)] [(.ref a1)])) rfl rfl (hb hby d64_25)
  refine Rch.go (U' := T1094.setTop (mkF m 28 #[rv a1, iv p1, jv x2, sv, iv (3 : Int32), iv (3 : Int32)] [(.ref bh)])) st1094 ?_
  refine Rch.go (U' := T1094.setTop (mkF m 30 #[rv a1, iv p1, jv x2, sv, iv (3 : Int32), iv (3 : Int32)] [(.int (3 : Int32)), (.ref bh)])) (fun _ k => XS.iload X1094.here hx rfl (hb hby d64_28) rfl  k) ?_
  obtain ⟨cl1095, Ar1095, qk1095, Sz1095, Mn1095, Hs1095, Gf1095⟩ := id V_bh
  have ib1095 : ¬ ((3 : Int32) < 0 ∨ cl1095.slots.size ≤ ((3 : Int32)).toNatClampNeg) := inb_of Sz1095 ⟨by decide, by decide⟩
  have ea1095 : cl1095.slots[((3 : Int32)).toNatClampNeg]? = some (.long (gs.getD 3 0)) := Has.at Hs1095 ib1095 (own_getJ gs 3)
  refine Rch.go (U' := T1094.setTop (mkF m 31 #[rv a1, iv p1, jv x2, sv, iv (3 : Int32), iv (3 : Int32)] [(.long (gs.getD 3 0))])) (fun _ k => X1094.laload hx (j := (3 : Int32)) (v := (.long (gs.getD 3 0))) (by rw [e1094]; exact Ar1095.1) (State.isArrayOf_alike hZ.alike Ar1095.2.1) Ar1095.2.2 ib1095 ea1095 (g := (mkF m 30 #[rv a1, iv p1, jv x2, sv, iv (3 : Int32), iv (3 : Int32)] [(.int (3 : Int32)), (.ref bh)])) rfl rfl (hb hby d64_30) _ k) ?_
  refine Rch.go (U' := T1094.setTop (mkF m 32 #[rv a1, iv p1, jv x2, sv, iv (3 : Int32), iv (3 : Int32)] [(.long (0 : Int64)), (.long (gs.getD 3 0))])) (fun _ k => XS.lconst X1094.here hx rfl (hb hby d64_31) k) ?_
  refine Rch.go (U' := T1094.setTop (mkF m 33 #[rv a1, iv p1, jv x2, sv, iv (3 : Int32), iv (3 : Int32)] [(.int (XT.cmpL (gs.getD 3 0) (0 : Int64)))])) (fun _ k => XT.lcmp X1094.here hx rfl (hb hby d64_32) rfl k) ?_
  by_cases br1096 : (gs.getD 3 0) = (0 : Int64)
  ·
    refine Rch.go (U' := T1094.setTop (mkF m 63 #[rv a1, iv p1, jv x2, sv, iv (3 : Int32), iv (3 : Int32)] [])) (fun _ k => XS.ifYes X1094.here hx rfl (pc0 := 33) (pc' := 63) rfl (hb hby d64_33) rfl (XT.ll_eq_t br1096) (by decide) (by decide) k) ?_
    refine Rch.go (U' := T1094.setTop (mkF m 64 #[rv a1, iv p1, jv x2, sv, iv (3 : Int32), iv (3 : Int32)] [(.int (-1 : Int32))])) (fun _ k => XS.iconst X1094.here hx rfl (hb hby d64_63) k) ?_
    refine Rch.fin X1094 hlk (v := some (.int (-1 : Int32))) (fun h => by rw [hret] at h; cases h) e1094 (by decide) (by decide) (fun fs hr => retI X1094 hx hret (hb hby d64_64) hr) ?_
    exact ⟨by rw [hsj]; simp only [own_find, br1096, ↓reduceIte] <;> rfl, N0, rfl⟩
  ·
    refine Rch.go (U' := T1094.setTop (mkF m 36 #[rv a1, iv p1, jv x2, sv, iv (3 : Int32), iv (3 : Int32)] [])) (fun _ k => XS.ifNo X1094.here hx rfl (hb hby d64_33) rfl (XT.ll_eq_f br1096) k) ?_
    refine Rch.go (U' := T1094.setTop (mkF m 37 #[rv a1, iv p1, jv x2, sv, iv (3 : Int32), iv (3 : Int32)] [(.ref a1)])) (fun _ k => XS.aloadN X1094.here hx rfl (hb hby d64_36) rfl rfl k) ?_
    obtain ⟨T1097, X1097, e1097, st1097⟩ := getF X1094 hx hZ hown (host := "") (Or.inl (wi hw 26 rfl)) Via.refl e1094 F_a1_handles (g := (mkF m 37 #[rv a1, iv p1, jv x2, sv, iv (3 : Int32), iv (3 : Int32)] [(.ref a1)])) rfl rfl (hb hby d64_37)
    refine Rch.go (U' := T1097.setTop (mkF m 40 #[rv a1, iv p1, jv x2, sv, iv (3 : Int32), iv (3 : Int32)] [(.ref bh)])) st1097 ?_
    refine Rch.go (U' := T1097.setTop (mkF m 42 #[rv a1, iv p1, jv x2, sv, iv (3 : Int32), iv (3 : Int32)] [(.int (3 : Int32)), (.ref bh)])) (fun _ k => XS.iload X1097.here hx rfl (hb hby d64_40) rfl  k) ?_
    obtain ⟨cl1098, Ar1098, qk1098, Sz1098, Mn1098, Hs1098, Gf1098⟩ := id V_bh
    have ib1098 : ¬ ((3 : Int32) < 0 ∨ cl1098.slots.size ≤ ((3 : Int32)).toNatClampNeg) := inb_of Sz1098 ⟨by decide, by decide⟩
    have ea1098 : cl1098.slots[((3 : Int32)).toNatClampNeg]? = some (.long (gs.getD 3 0)) := Has.at Hs1098 ib1098 (own_getJ gs 3)
    refine Rch.go (U' := T1097.setTop (mkF m 43 #[rv a1, iv p1, jv x2, sv, iv (3 : Int32), iv (3 : Int32)] [(.long (gs.getD 3 0))])) (fun _ k => X1097.laload hx (j := (3 : Int32)) (v := (.long (gs.getD 3 0))) (by rw [e1097]; exact Ar1098.1) (State.isArrayOf_alike hZ.alike Ar1098.2.1) Ar1098.2.2 ib1098 ea1098 (g := (mkF m 42 #[rv a1, iv p1, jv x2, sv, iv (3 : Int32), iv (3 : Int32)] [(.int (3 : Int32)), (.ref bh)])) rfl rfl (hb hby d64_42) _ k) ?_
    refine Rch.go (U' := T1097.setTop (mkF m 44 #[rv a1, iv p1, jv x2, sv, iv (3 : Int32), iv (3 : Int32)] [(.long x2), (.long (gs.getD 3 0))])) (fun _ k => XS.lloadN X1097.here hx rfl (hb hby d64_43) rfl  k) ?_
    refine Rch.go (U' := T1097.setTop (mkF m 45 #[rv a1, iv p1, jv x2, sv, iv (3 : Int32), iv (3 : Int32)] [(.int (XT.cmpL (gs.getD 3 0) x2))])) (fun _ k => XT.lcmp X1097.here hx rfl (hb hby d64_44) rfl k) ?_
    by_cases br1099 : (gs.getD 3 0) = x2
    ·
      refine Rch.go (U' := T1097.setTop (mkF m 48 #[rv a1, iv p1, jv x2, sv, iv (3 : Int32), iv (3 : Int32)] [])) (fun _ k => XS.ifNo X1097.here hx rfl (hb hby d64_45) rfl (XT.ll_ne_f br1099) k) ?_
      refine Rch.go (U' := T1097.setTop (mkF m 50 #[rv a1, iv p1, jv x2, sv, iv (3 : Int32), iv (3 : Int32)] [(.int (3 : Int32))])) (fun _ k => XS.iload X1097.here hx rfl (hb hby d64_48) rfl  k) ?_
      refine Rch.fin X1097 hlk (v := some (.int (3 : Int32))) (fun h => by rw [hret] at h; cases h) e1097 (by decide) (by decide) (fun fs hr => retI X1097 hx hret (hb hby d64_50) hr) ?_
      have hx2 : ¬ x2 = 0 := fun q => br1096 (br1099.trans q)
      exact ⟨by rw [hsj]; simp only [own_find, br1096, br1099, hx2, ↓reduceIte] <;> rfl, N0, rfl⟩
    ·
      refine Rch.go (U' := T1097.setTop (mkF m 51 #[rv a1, iv p1, jv x2, sv, iv (3 : Int32), iv (3 : Int32)] [])) (fun _ k => XS.ifYes X1097.here hx rfl (pc0 := 45) (pc' := 51) rfl (hb hby d64_45) rfl (XT.ll_ne_t br1099) (by decide) (by decide) k) ?_
      refine Rch.go (U' := T1097.setTop (mkF m 53 #[rv a1, iv p1, jv x2, sv, iv (3 : Int32), iv (3 : Int32)] [(.int (3 : Int32))])) (fun _ k => XS.iload X1097.here hx rfl (hb hby d64_51) rfl  k) ?_
      refine Rch.go (U' := T1097.setTop (mkF m 54 #[rv a1, iv p1, jv x2, sv, iv (3 : Int32), iv (3 : Int32)] [(.int (1 : Int32)), (.int (3 : Int32))])) (fun _ k => XS.iconst X1097.here hx rfl (hb hby d64_53) k) ?_
      refine Rch.go (U' := T1097.setTop (mkF m 55 #[rv a1, iv p1, jv x2, sv, iv (3 : Int32), iv (3 : Int32)] [(.int ((3 : Int32) + (1 : Int32)))])) (fun _ k => XS.iadd X1097.here hx rfl (hb hby d64_54) rfl k) ?_
      rw [(by decide : ((3 : Int32) + (1 : Int32)) = (4 : Int32))]
      refine Rch.go (U' := T1097.setTop (mkF m 57 #[rv a1, iv p1, jv x2, sv, iv (3 : Int32), iv (3 : Int32)] [(.int (3 : Int32)), (.int (4 : Int32))])) (fun _ k => XS.iload X1097.here hx rfl (hb hby d64_55) rfl  k) ?_
      refine Rch.go (U' := T1097.setTop (mkF m 58 #[rv a1, iv p1, jv x2, sv, iv (3 : Int32), iv (3 : Int32)] [(.int ((4 : Int32) &&& (3 : Int32)))])) (fun _ k => XS.iand X1097.here hx rfl (hb hby d64_57) rfl k) ?_
      rw [(by decide : ((4 : Int32) &&& (3 : Int32)) = (0 : Int32))]
      refine Rch.go (U' := T1097.setTop (mkF m 60 #[rv a1, iv p1, jv x2, sv, iv (3 : Int32), iv (0 : Int32)] [])) (fun _ k => XS.istore X1097.here hx rfl (hb hby d64_58) rfl (l' := #[rv a1, iv p1, jv x2, sv, iv (3 : Int32), iv (0 : Int32)]) rfl k) ?_
      refine Rch.go (U' := T1097.setTop (mkF m 24 #[rv a1, iv p1, jv x2, sv, iv (3 : Int32), iv (0 : Int32)] [])) (fun _ k => XS.goto X1097.here hx rfl (pc0 := 60) (pc' := 24) rfl (hb hby d64_60) (by decide) (by decide) k) ?_
      refine Rch.go (U' := T1097.setTop (mkF m 25 #[rv a1, iv p1, jv x2, sv, iv (3 : Int32), iv (0 : Int32)] [(.ref a1)])) (fun _ k => XS.aloadN X1097.here hx rfl (hb hby d64_24) rfl rfl k) ?_
      obtain ⟨T1100, X1100, e1100, st1100⟩ := getF X1097 hx hZ hown (host := "") (Or.inl (wi hw 26 rfl)) Via.refl e1097 F_a1_handles (g := (mkF m 25 #[rv a1, iv p1, jv x2, sv, iv (3 : Int32), iv (0 : Int32)] [(.ref a1)])) rfl rfl (hb hby d64_25)
      refine Rch.go (U' := T1100.setTop (mkF m 28 #[rv a1, iv p1, jv x2, sv, iv (3 : Int32), iv (0 : Int32)] [(.ref bh)])) st1100 ?_
      refine Rch.go (U' := T1100.setTop (mkF m 30 #[rv a1, iv p1, jv x2, sv, iv (3 : Int32), iv (0 : Int32)] [(.int (0 : Int32)), (.ref bh)])) (fun _ k => XS.iload X1100.here hx rfl (hb hby d64_28) rfl  k) ?_
      obtain ⟨cl1101, Ar1101, qk1101, Sz1101, Mn1101, Hs1101, Gf1101⟩ := id V_bh
      have ib1101 : ¬ ((0 : Int32) < 0 ∨ cl1101.slots.size ≤ ((0 : Int32)).toNatClampNeg) := inb_of Sz1101 ⟨by decide, by decide⟩
      have ea1101 : cl1101.slots[((0 : Int32)).toNatClampNeg]? = some (.long (gs.getD 0 0)) := Has.at Hs1101 ib1101 (own_getJ gs 0)
      refine Rch.go (U' := T1100.setTop (mkF m 31 #[rv a1, iv p1, jv x2, sv, iv (3 : Int32), iv (0 : Int32)] [(.long (gs.getD 0 0))])) (fun _ k => X1100.laload hx (j := (0 : Int32)) (v := (.long (gs.getD 0 0))) (by rw [e1100]; exact Ar1101.1) (State.isArrayOf_alike hZ.alike Ar1101.2.1) Ar1101.2.2 ib1101 ea1101 (g := (mkF m 30 #[rv a1, iv p1, jv x2, sv, iv (3 : Int32), iv (0 : Int32)] [(.int (0 : Int32)), (.ref bh)])) rfl rfl (hb hby d64_30) _ k) ?_
      refine Rch.go (U' := T1100.setTop (mkF m 32 #[rv a1, iv p1, jv x2, sv, iv (3 : Int32), iv (0 : Int32)] [(.long (0 : Int64)), (.long (gs.getD 0 0))])) (fun _ k => XS.lconst X1100.here hx rfl (hb hby d64_31) k) ?_
      refine Rch.go (U' := T1100.setTop (mkF m 33 #[rv a1, iv p1, jv x2, sv, iv (3 : Int32), iv (0 : Int32)] [(.int (XT.cmpL (gs.getD 0 0) (0 : Int64)))])) (fun _ k => XT.lcmp X1100.here hx rfl (hb hby d64_32) rfl k) ?_
      by_cases br1102 : (gs.getD 0 0) = (0 : Int64)
      ·
        refine Rch.go (U' := T1100.setTop (mkF m 63 #[rv a1, iv p1, jv x2, sv, iv (3 : Int32), iv (0 : Int32)] [])) (fun _ k => XS.ifYes X1100.here hx rfl (pc0 := 33) (pc' := 63) rfl (hb hby d64_33) rfl (XT.ll_eq_t br1102) (by decide) (by decide) k) ?_
        refine Rch.go (U' := T1100.setTop (mkF m 64 #[rv a1, iv p1, jv x2, sv, iv (3 : Int32), iv (0 : Int32)] [(.int (-1 : Int32))])) (fun _ k => XS.iconst X1100.here hx rfl (hb hby d64_63) k) ?_
        refine Rch.fin X1100 hlk (v := some (.int (-1 : Int32))) (fun h => by rw [hret] at h; cases h) e1100 (by decide) (by decide) (fun fs hr => retI X1100 hx hret (hb hby d64_64) hr) ?_
        exact ⟨by rw [hsj]; simp only [own_find, br1096, br1099, br1102, ↓reduceIte] <;> rfl, N0, rfl⟩
      ·
        refine Rch.go (U' := T1100.setTop (mkF m 36 #[rv a1, iv p1, jv x2, sv, iv (3 : Int32), iv (0 : Int32)] [])) (fun _ k => XS.ifNo X1100.here hx rfl (hb hby d64_33) rfl (XT.ll_eq_f br1102) k) ?_
        refine Rch.go (U' := T1100.setTop (mkF m 37 #[rv a1, iv p1, jv x2, sv, iv (3 : Int32), iv (0 : Int32)] [(.ref a1)])) (fun _ k => XS.aloadN X1100.here hx rfl (hb hby d64_36) rfl rfl k) ?_
        obtain ⟨T1103, X1103, e1103, st1103⟩ := getF X1100 hx hZ hown (host := "") (Or.inl (wi hw 26 rfl)) Via.refl e1100 F_a1_handles (g := (mkF m 37 #[rv a1, iv p1, jv x2, sv, iv (3 : Int32), iv (0 : Int32)] [(.ref a1)])) rfl rfl (hb hby d64_37)
        refine Rch.go (U' := T1103.setTop (mkF m 40 #[rv a1, iv p1, jv x2, sv, iv (3 : Int32), iv (0 : Int32)] [(.ref bh)])) st1103 ?_
        refine Rch.go (U' := T1103.setTop (mkF m 42 #[rv a1, iv p1, jv x2, sv, iv (3 : Int32), iv (0 : Int32)] [(.int (0 : Int32)), (.ref bh)])) (fun _ k => XS.iload X1103.here hx rfl (hb hby d64_40) rfl  k) ?_
        obtain ⟨cl1104, Ar1104, qk1104, Sz1104, Mn1104, Hs1104, Gf1104⟩ := id V_bh
        have ib1104 : ¬ ((0 : Int32) < 0 ∨ cl1104.slots.size ≤ ((0 : Int32)).toNatClampNeg) := inb_of Sz1104 ⟨by decide, by decide⟩
        have ea1104 : cl1104.slots[((0 : Int32)).toNatClampNeg]? = some (.long (gs.getD 0 0)) := Has.at Hs1104 ib1104 (own_getJ gs 0)
        refine Rch.go (U' := T1103.setTop (mkF m 43 #[rv a1, iv p1, jv x2, sv, iv (3 : Int32), iv (0 : Int32)] [(.long (gs.getD 0 0))])) (fun _ k => X1103.laload hx (j := (0 : Int32)) (v := (.long (gs.getD 0 0))) (by rw [e1103]; exact Ar1104.1) (State.isArrayOf_alike hZ.alike Ar1104.2.1) Ar1104.2.2 ib1104 ea1104 (g := (mkF m 42 #[rv a1, iv p1, jv x2, sv, iv (3 : Int32), iv (0 : Int32)] [(.int (0 : Int32)), (.ref bh)])) rfl rfl (hb hby d64_42) _ k) ?_
        refine Rch.go (U' := T1103.setTop (mkF m 44 #[rv a1, iv p1, jv x2, sv, iv (3 : Int32), iv (0 : Int32)] [(.long x2), (.long (gs.getD 0 0))])) (fun _ k => XS.lloadN X1103.here hx rfl (hb hby d64_43) rfl  k) ?_
        refine Rch.go (U' := T1103.setTop (mkF m 45 #[rv a1, iv p1, jv x2, sv, iv (3 : Int32), iv (0 : Int32)] [(.int (XT.cmpL (gs.getD 0 0) x2))])) (fun _ k => XT.lcmp X1103.here hx rfl (hb hby d64_44) rfl k) ?_
        by_cases br1105 : (gs.getD 0 0) = x2
        ·
          refine Rch.go (U' := T1103.setTop (mkF m 48 #[rv a1, iv p1, jv x2, sv, iv (3 : Int32), iv (0 : Int32)] [])) (fun _ k => XS.ifNo X1103.here hx rfl (hb hby d64_45) rfl (XT.ll_ne_f br1105) k) ?_
          refine Rch.go (U' := T1103.setTop (mkF m 50 #[rv a1, iv p1, jv x2, sv, iv (3 : Int32), iv (0 : Int32)] [(.int (0 : Int32))])) (fun _ k => XS.iload X1103.here hx rfl (hb hby d64_48) rfl  k) ?_
          refine Rch.fin X1103 hlk (v := some (.int (0 : Int32))) (fun h => by rw [hret] at h; cases h) e1103 (by decide) (by decide) (fun fs hr => retI X1103 hx hret (hb hby d64_50) hr) ?_
          have hx2 : ¬ x2 = 0 := fun q => br1102 (br1105.trans q)
          exact ⟨by rw [hsj]; simp only [own_find, br1096, br1099, br1102, br1105, hx2, ↓reduceIte] <;> rfl, N0, rfl⟩
        ·
          refine Rch.go (U' := T1103.setTop (mkF m 51 #[rv a1, iv p1, jv x2, sv, iv (3 : Int32), iv (0 : Int32)] [])) (fun _ k => XS.ifYes X1103.here hx rfl (pc0 := 45) (pc' := 51) rfl (hb hby d64_45) rfl (XT.ll_ne_t br1105) (by decide) (by decide) k) ?_
          refine Rch.go (U' := T1103.setTop (mkF m 53 #[rv a1, iv p1, jv x2, sv, iv (3 : Int32), iv (0 : Int32)] [(.int (0 : Int32))])) (fun _ k => XS.iload X1103.here hx rfl (hb hby d64_51) rfl  k) ?_
          refine Rch.go (U' := T1103.setTop (mkF m 54 #[rv a1, iv p1, jv x2, sv, iv (3 : Int32), iv (0 : Int32)] [(.int (1 : Int32)), (.int (0 : Int32))])) (fun _ k => XS.iconst X1103.here hx rfl (hb hby d64_53) k) ?_
          refine Rch.go (U' := T1103.setTop (mkF m 55 #[rv a1, iv p1, jv x2, sv, iv (3 : Int32), iv (0 : Int32)] [(.int ((0 : Int32) + (1 : Int32)))])) (fun _ k => XS.iadd X1103.here hx rfl (hb hby d64_54) rfl k) ?_
          rw [(by decide : ((0 : Int32) + (1 : Int32)) = (1 : Int32))]
          refine Rch.go (U' := T1103.setTop (mkF m 57 #[rv a1, iv p1, jv x2, sv, iv (3 : Int32), iv (0 : Int32)] [(.int (3 : Int32)), (.int (1 : Int32))])) (fun _ k => XS.iload X1103.here hx rfl (hb hby d64_55) rfl  k) ?_
          refine Rch.go (U' := T1103.setTop (mkF m 58 #[rv a1, iv p1, jv x2, sv, iv (3 : Int32), iv (0 : Int32)] [(.int ((1 : Int32) &&& (3 : Int32)))])) (fun _ k => XS.iand X1103.here hx rfl (hb hby d64_57) rfl k) ?_
          rw [(by decide : ((1 : Int32) &&& (3 : Int32)) = (1 : Int32))]
          refine Rch.go (U' := T1103.setTop (mkF m 60 #[rv a1, iv p1, jv x2, sv, iv (3 : Int32), iv (1 : Int32)] [])) (fun _ k => XS.istore X1103.here hx rfl (hb hby d64_58) rfl (l' := #[rv a1, iv p1, jv x2, sv, iv (3 : Int32), iv (1 : Int32)]) rfl k) ?_
          refine Rch.go (U' := T1103.setTop (mkF m 24 #[rv a1, iv p1, jv x2, sv, iv (3 : Int32), iv (1 : Int32)] [])) (fun _ k => XS.goto X1103.here hx rfl (pc0 := 60) (pc' := 24) rfl (hb hby d64_60) (by decide) (by decide) k) ?_
          refine Rch.go (U' := T1103.setTop (mkF m 25 #[rv a1, iv p1, jv x2, sv, iv (3 : Int32), iv (1 : Int32)] [(.ref a1)])) (fun _ k => XS.aloadN X1103.here hx rfl (hb hby d64_24) rfl rfl k) ?_
          obtain ⟨T1106, X1106, e1106, st1106⟩ := getF X1103 hx hZ hown (host := "") (Or.inl (wi hw 26 rfl)) Via.refl e1103 F_a1_handles (g := (mkF m 25 #[rv a1, iv p1, jv x2, sv, iv (3 : Int32), iv (1 : Int32)] [(.ref a1)])) rfl rfl (hb hby d64_25)
          refine Rch.go (U' := T1106.setTop (mkF m 28 #[rv a1, iv p1, jv x2, sv, iv (3 : Int32), iv (1 : Int32)] [(.ref bh)])) st1106 ?_
          refine Rch.go (U' := T1106.setTop (mkF m 30 #[rv a1, iv p1, jv x2, sv, iv (3 : Int32), iv (1 : Int32)] [(.int (1 : Int32)), (.ref bh)])) (fun _ k => XS.iload X1106.here hx rfl (hb hby d64_28) rfl  k) ?_
          obtain ⟨cl1107, Ar1107, qk1107, Sz1107, Mn1107, Hs1107, Gf1107⟩ := id V_bh
          have ib1107 : ¬ ((1 : Int32) < 0 ∨ cl1107.slots.size ≤ ((1 : Int32)).toNatClampNeg) := inb_of Sz1107 ⟨by decide, by decide⟩
          have ea1107 : cl1107.slots[((1 : Int32)).toNatClampNeg]? = some (.long (gs.getD 1 0)) := Has.at Hs1107 ib1107 (own_getJ gs 1)
          refine Rch.go (U' := T1106.setTop (mkF m 31 #[rv a1, iv p1, jv x2, sv, iv (3 : Int32), iv (1 : Int32)] [(.long (gs.getD 1 0))])) (fun _ k => X1106.laload hx (j := (1 : Int32)) (v := (.long (gs.getD 1 0))) (by rw [e1106]; exact Ar1107.1) (State.isArrayOf_alike hZ.alike Ar1107.2.1) Ar1107.2.2 ib1107 ea1107 (g := (mkF m 30 #[rv a1, iv p1, jv x2, sv, iv (3 : Int32), iv (1 : Int32)] [(.int (1 : Int32)), (.ref bh)])) rfl rfl (hb hby d64_30) _ k) ?_
          refine Rch.go (U' := T1106.setTop (mkF m 32 #[rv a1, iv p1, jv x2, sv, iv (3 : Int32), iv (1 : Int32)] [(.long (0 : Int64)), (.long (gs.getD 1 0))])) (fun _ k => XS.lconst X1106.here hx rfl (hb hby d64_31) k) ?_
          refine Rch.go (U' := T1106.setTop (mkF m 33 #[rv a1, iv p1, jv x2, sv, iv (3 : Int32), iv (1 : Int32)] [(.int (XT.cmpL (gs.getD 1 0) (0 : Int64)))])) (fun _ k => XT.lcmp X1106.here hx rfl (hb hby d64_32) rfl k) ?_
          by_cases br1108 : (gs.getD 1 0) = (0 : Int64)
          ·
            refine Rch.go (U' := T1106.setTop (mkF m 63 #[rv a1, iv p1, jv x2, sv, iv (3 : Int32), iv (1 : Int32)] [])) (fun _ k => XS.ifYes X1106.here hx rfl (pc0 := 33) (pc' := 63) rfl (hb hby d64_33) rfl (XT.ll_eq_t br1108) (by decide) (by decide) k) ?_
            refine Rch.go (U' := T1106.setTop (mkF m 64 #[rv a1, iv p1, jv x2, sv, iv (3 : Int32), iv (1 : Int32)] [(.int (-1 : Int32))])) (fun _ k => XS.iconst X1106.here hx rfl (hb hby d64_63) k) ?_
            refine Rch.fin X1106 hlk (v := some (.int (-1 : Int32))) (fun h => by rw [hret] at h; cases h) e1106 (by decide) (by decide) (fun fs hr => retI X1106 hx hret (hb hby d64_64) hr) ?_
            exact ⟨by rw [hsj]; simp only [own_find, br1096, br1099, br1102, br1105, br1108, ↓reduceIte] <;> rfl, N0, rfl⟩
          ·
            refine Rch.go (U' := T1106.setTop (mkF m 36 #[rv a1, iv p1, jv x2, sv, iv (3 : Int32), iv (1 : Int32)] [])) (fun _ k => XS.ifNo X1106.here hx rfl (hb hby d64_33) rfl (XT.ll_eq_f br1108) k) ?_
            refine Rch.go (U' := T1106.setTop (mkF m 37 #[rv a1, iv p1, jv x2, sv, iv (3 : Int32), iv (1 : Int32)] [(.ref a1)])) (fun _ k => XS.aloadN X1106.here hx rfl (hb hby d64_36) rfl rfl k) ?_
            obtain ⟨T1109, X1109, e1109, st1109⟩ := getF X1106 hx hZ hown (host := "") (Or.inl (wi hw 26 rfl)) Via.refl e1106 F_a1_handles (g := (mkF m 37 #[rv a1, iv p1, jv x2, sv, iv (3 : Int32), iv (1 : Int32)] [(.ref a1)])) rfl rfl (hb hby d64_37)
            refine Rch.go (U' := T1109.setTop (mkF m 40 #[rv a1, iv p1, jv x2, sv, iv (3 : Int32), iv (1 : Int32)] [(.ref bh)])) st1109 ?_
            refine Rch.go (U' := T1109.setTop (mkF m 42 #[rv a1, iv p1, jv x2, sv, iv (3 : Int32), iv (1 : Int32)] [(.int (1 : Int32)), (.ref bh)])) (fun _ k => XS.iload X1109.here hx rfl (hb hby d64_40) rfl  k) ?_
            obtain ⟨cl1110, Ar1110, qk1110, Sz1110, Mn1110, Hs1110, Gf1110⟩ := id V_bh
            have ib1110 : ¬ ((1 : Int32) < 0 ∨ cl1110.slots.size ≤ ((1 : Int32)).toNatClampNeg) := inb_of Sz1110 ⟨by decide, by decide⟩
            have ea1110 : cl1110.slots[((1 : Int32)).toNatClampNeg]? = some (.long (gs.getD 1 0)) := Has.at Hs1110 ib1110 (own_getJ gs 1)
            refine Rch.go (U' := T1109.setTop (mkF m 43 #[rv a1, iv p1, jv x2, sv, iv (3 : Int32), iv (1 : Int32)] [(.long (gs.getD 1 0))])) (fun _ k => X1109.laload hx (j := (1 : Int32)) (v := (.long (gs.getD 1 0))) (by rw [e1109]; exact Ar1110.1) (State.isArrayOf_alike hZ.alike Ar1110.2.1) Ar1110.2.2 ib1110 ea1110 (g := (mkF m 42 #[rv a1, iv p1, jv x2, sv, iv (3 : Int32), iv (1 : Int32)] [(.int (1 : Int32)), (.ref bh)])) rfl rfl (hb hby d64_42) _ k) ?_
            refine Rch.go (U' := T1109.setTop (mkF m 44 #[rv a1, iv p1, jv x2, sv, iv (3 : Int32), iv (1 : Int32)] [(.long x2), (.long (gs.getD 1 0))])) (fun _ k => XS.lloadN X1109.here hx rfl (hb hby d64_43) rfl  k) ?_
            refine Rch.go (U' := T1109.setTop (mkF m 45 #[rv a1, iv p1, jv x2, sv, iv (3 : Int32), iv (1 : Int32)] [(.int (XT.cmpL (gs.getD 1 0) x2))])) (fun _ k => XT.lcmp X1109.here hx rfl (hb hby d64_44) rfl k) ?_
            by_cases br1111 : (gs.getD 1 0) = x2
            ·
              refine Rch.go (U' := T1109.setTop (mkF m 48 #[rv a1, iv p1, jv x2, sv, iv (3 : Int32), iv (1 : Int32)] [])) (fun _ k => XS.ifNo X1109.here hx rfl (hb hby d64_45) rfl (XT.ll_ne_f br1111) k) ?_
              refine Rch.go (U' := T1109.setTop (mkF m 50 #[rv a1, iv p1, jv x2, sv, iv (3 : Int32), iv (1 : Int32)] [(.int (1 : Int32))])) (fun _ k => XS.iload X1109.here hx rfl (hb hby d64_48) rfl  k) ?_
              refine Rch.fin X1109 hlk (v := some (.int (1 : Int32))) (fun h => by rw [hret] at h; cases h) e1109 (by decide) (by decide) (fun fs hr => retI X1109 hx hret (hb hby d64_50) hr) ?_
              have hx2 : ¬ x2 = 0 := fun q => br1108 (br1111.trans q)
              exact ⟨by rw [hsj]; simp only [own_find, br1096, br1099, br1102, br1105, br1108, br1111, hx2, ↓reduceIte] <;> rfl, N0, rfl⟩
            ·
              refine Rch.go (U' := T1109.setTop (mkF m 51 #[rv a1, iv p1, jv x2, sv, iv (3 : Int32), iv (1 : Int32)] [])) (fun _ k => XS.ifYes X1109.here hx rfl (pc0 := 45) (pc' := 51) rfl (hb hby d64_45) rfl (XT.ll_ne_t br1111) (by decide) (by decide) k) ?_
              refine Rch.go (U' := T1109.setTop (mkF m 53 #[rv a1, iv p1, jv x2, sv, iv (3 : Int32), iv (1 : Int32)] [(.int (1 : Int32))])) (fun _ k => XS.iload X1109.here hx rfl (hb hby d64_51) rfl  k) ?_
              refine Rch.go (U' := T1109.setTop (mkF m 54 #[rv a1, iv p1, jv x2, sv, iv (3 : Int32), iv (1 : Int32)] [(.int (1 : Int32)), (.int (1 : Int32))])) (fun _ k => XS.iconst X1109.here hx rfl (hb hby d64_53) k) ?_
              refine Rch.go (U' := T1109.setTop (mkF m 55 #[rv a1, iv p1, jv x2, sv, iv (3 : Int32), iv (1 : Int32)] [(.int ((1 : Int32) + (1 : Int32)))])) (fun _ k => XS.iadd X1109.here hx rfl (hb hby d64_54) rfl k) ?_
              rw [(by decide : ((1 : Int32) + (1 : Int32)) = (2 : Int32))]
              refine Rch.go (U' := T1109.setTop (mkF m 57 #[rv a1, iv p1, jv x2, sv, iv (3 : Int32), iv (1 : Int32)] [(.int (3 : Int32)), (.int (2 : Int32))])) (fun _ k => XS.iload X1109.here hx rfl (hb hby d64_55) rfl  k) ?_
              refine Rch.go (U' := T1109.setTop (mkF m 58 #[rv a1, iv p1, jv x2, sv, iv (3 : Int32), iv (1 : Int32)] [(.int ((2 : Int32) &&& (3 : Int32)))])) (fun _ k => XS.iand X1109.here hx rfl (hb hby d64_57) rfl k) ?_
              rw [(by decide : ((2 : Int32) &&& (3 : Int32)) = (2 : Int32))]
              refine Rch.go (U' := T1109.setTop (mkF m 60 #[rv a1, iv p1, jv x2, sv, iv (3 : Int32), iv (2 : Int32)] [])) (fun _ k => XS.istore X1109.here hx rfl (hb hby d64_58) rfl (l' := #[rv a1, iv p1, jv x2, sv, iv (3 : Int32), iv (2 : Int32)]) rfl k) ?_
              refine Rch.go (U' := T1109.setTop (mkF m 24 #[rv a1, iv p1, jv x2, sv, iv (3 : Int32), iv (2 : Int32)] [])) (fun _ k => XS.goto X1109.here hx rfl (pc0 := 60) (pc' := 24) rfl (hb hby d64_60) (by decide) (by decide) k) ?_
              refine Rch.go (U' := T1109.setTop (mkF m 25 #[rv a1, iv p1, jv x2, sv, iv (3 : Int32), iv (2 : Int32)] [(.ref a1)])) (fun _ k => XS.aloadN X1109.here hx rfl (hb hby d64_24) rfl rfl k) ?_
              obtain ⟨T1112, X1112, e1112, st1112⟩ := getF X1109 hx hZ hown (host := "") (Or.inl (wi hw 26 rfl)) Via.refl e1109 F_a1_handles (g := (mkF m 25 #[rv a1, iv p1, jv x2, sv, iv (3 : Int32), iv (2 : Int32)] [(.ref a1)])) rfl rfl (hb hby d64_25)
              refine Rch.go (U' := T1112.setTop (mkF m 28 #[rv a1, iv p1, jv x2, sv, iv (3 : Int32), iv (2 : Int32)] [(.ref bh)])) st1112 ?_
              refine Rch.go (U' := T1112.setTop (mkF m 30 #[rv a1, iv p1, jv x2, sv, iv (3 : Int32), iv (2 : Int32)] [(.int (2 : Int32)), (.ref bh)])) (fun _ k => XS.iload X1112.here hx rfl (hb hby d64_28) rfl  k) ?_
              obtain ⟨cl1113, Ar1113, qk1113, Sz1113, Mn1113, Hs1113, Gf1113⟩ := id V_bh
              have ib1113 : ¬ ((2 : Int32) < 0 ∨ cl1113.slots.size ≤ ((2 : Int32)).toNatClampNeg) := inb_of Sz1113 ⟨by decide, by decide⟩
              have ea1113 : cl1113.slots[((2 : Int32)).toNatClampNeg]? = some (.long (gs.getD 2 0)) := Has.at Hs1113 ib1113 (own_getJ gs 2)
              refine Rch.go (U' := T1112.setTop (mkF m 31 #[rv a1, iv p1, jv x2, sv, iv (3 : Int32), iv (2 : Int32)] [(.long (gs.getD 2 0))])) (fun _ k => X1112.laload hx (j := (2 : Int32)) (v := (.long (gs.getD 2 0))) (by rw [e1112]; exact Ar1113.1) (State.isArrayOf_alike hZ.alike Ar1113.2.1) Ar1113.2.2 ib1113 ea1113 (g := (mkF m 30 #[rv a1, iv p1, jv x2, sv, iv (3 : Int32), iv (2 : Int32)] [(.int (2 : Int32)), (.ref bh)])) rfl rfl (hb hby d64_30) _ k) ?_
              refine Rch.go (U' := T1112.setTop (mkF m 32 #[rv a1, iv p1, jv x2, sv, iv (3 : Int32), iv (2 : Int32)] [(.long (0 : Int64)), (.long (gs.getD 2 0))])) (fun _ k => XS.lconst X1112.here hx rfl (hb hby d64_31) k) ?_
              refine Rch.go (U' := T1112.setTop (mkF m 33 #[rv a1, iv p1, jv x2, sv, iv (3 : Int32), iv (2 : Int32)] [(.int (XT.cmpL (gs.getD 2 0) (0 : Int64)))])) (fun _ k => XT.lcmp X1112.here hx rfl (hb hby d64_32) rfl k) ?_
              have br1114 : (gs.getD 2 0) = (0 : Int64) := (by rcases hz with q | q | q | q <;> first | exact q | exact absurd q br1096 | exact absurd q br1102 | exact absurd q br1108)
              refine Rch.go (U' := T1112.setTop (mkF m 63 #[rv a1, iv p1, jv x2, sv, iv (3 : Int32), iv (2 : Int32)] [])) (fun _ k => XS.ifYes X1112.here hx rfl (pc0 := 33) (pc' := 63) rfl (hb hby d64_33) rfl (XT.ll_eq_t br1114) (by decide) (by decide) k) ?_
              refine Rch.go (U' := T1112.setTop (mkF m 64 #[rv a1, iv p1, jv x2, sv, iv (3 : Int32), iv (2 : Int32)] [(.int (-1 : Int32))])) (fun _ k => XS.iconst X1112.here hx rfl (hb hby d64_63) k) ?_
              refine Rch.fin X1112 hlk (v := some (.int (-1 : Int32))) (fun h => by rw [hret] at h; cases h) e1112 (by decide) (by decide) (fun fs hr => retI X1112 hx hret (hb hby d64_64) hr) ?_
              exact ⟨by rw [hsj]; simp only [own_find, br1096, br1099, br1102, br1105, br1108, br1111, br1114, ↓reduceIte] <;> rfl, N0, rfl⟩
theorem ef_rmF (m : MethodId) (a1 : Addr) (p1 : Int32) (x2 : Int64) : entryFrame m #[(.ref a1), (.int p1), (.long x2)] 6 = mkF m 0 #[rv a1, iv p1, jv x2, sv, uv, uv] [] := by first | (simp [entryFrame, mkF, argsToLocals, Value.category]; done) | rfl
def Q_rmF (Z : State) (a1 : Addr) (bh : Addr) (ba : Addr) (bl : Addr) (kh : ClassId) (ka : ClassId) (kl : ClassId) (cn : Int32) (gs : List Int64) (va : List Value) (vl : List Value) (p1 : Int32) (x2 : Int64) (h0 : Heap) (n0 : Nat) (v : Option Value) (h : Heap) (L : List Loc) : Prop := v = some (.int (own_find gs x2 4 (own_s p1))) ∧ Fr n0 L ∧ h = h0
set_option maxRecDepth 65536 in
set_option maxHeartbeats 40000000 in
theorem rmF (l : Launch) (Z : State) (a0 : Array Value) (hw : ∀ d ∈ tables_1, d.before a0 Z = true) (ws : List Jvm.Cond) (a1 : Addr) (bh : Addr) (ba : Addr) (bl : Addr) (kh : ClassId) (ka : ClassId) (kl : ClassId) (cn : Int32) (gs : List Int64) (va : List Value) (vl : List Value) (p1 : Int32) (x2 : Int64) (h0 : Heap) (n0 : Nat) (Z0 : n0 ≤ h0.size) (B : Tb Z h0 n0 a1 bh ba bl kh ka kl cn gs va vl) (hz : gs.getD 0 0 = 0 ∨ gs.getD 1 0 = 0 ∨ gs.getD 2 0 = 0 ∨ gs.getD 3 0 = 0) (hcn : ¬ (cn = (0 : Int32))) :
    MetFree l yF (head1 (Jvm.Cond.code yF prog_36_method_6_code 6 (some .int) :: ws) ({ frames := 0, cells := 0, slots := 0, locals := 0 } : Room)) (fun a U => a = #[(.ref a1), (.int p1), (.long x2)] ∧ Z.Warmed39 U.vm ∧ U.heap = h0) (fun _ _ _ _ _ => True) (fun _ U o U' => ∃ v L, o = .returned v ∧ Q_rmF Z a1 bh ba bl kh ka kl cn gs va vl p1 x2 h0 n0 v U'.heap L ∧ FrameEnd U o U' L ({ frames := 0, cells := 0, slots := 0, locals := 0 } : Room).cells ({ frames := 0, cells := 0, slots := 0, locals := 0 } : Room).slots) := by
  refine MetFree.of_bodySF (plainFor_of_name pn_com_example_slotwise_slotwise_keyspace_SlotTable) hisR ?_
  intro p e s m args below meth c s₁ Bd hml0 hP hK
  obtain ⟨rfl, hZ, hh⟩ := hP
  have hx := Bd.exec
  have hby := Bd.bytes
  have hml : c.maxLocals = 6 := hml0
  have hown : s.vm.findClass cST = some m.cls := findClass_of_methodNamed Bd.named
  have hnm := (name_of_methodNamed Bd.named Bd.method).1
  have hret := Bd.returns
  have hlk : meth.locks = false := BodyLoose.notSynchronized Bd
  have X0 : Stand p l e ({ frames := 0, cells := 0, slots := 0, locals := 0 } : Room) s m #[(.ref a1), (.int p1), (.long x2)] below meth c s₁ [] 0 0 := Stand.of_body Bd
  have e0 : s₁.heap = h0 := by rw [← hh, Bd.state]; rfl
  have N0 := Fr.nil n0
  obtain ⟨E_a1, F_a1_count, F_a1_handles, F_a1_hashes, F_a1_lengths, F_a1_outside, F_a1_expiries, V_bh, V_ba, V_bl, ⟨lg, la, ll⟩, ⟨g_a1, g_bh, g_ba, g_bl⟩, ⟨n_h, n_a, n_l⟩, n_ha, n_hl, n_al⟩ := B
  refine Rch.body (Q := Q_rmF Z a1 bh ba bl kh ka kl cn gs va vl p1 x2 h0 n0) (U' := s₁.setTop (mkF m 0 #[rv a1, iv p1, jv x2, sv, uv, uv] [])) (fun t k => castTop (ef_rmF m a1 p1 x2) k) ?_
  refine Rch.go (U' := s₁.setTop (mkF m 1 #[rv a1, iv p1, jv x2, sv, uv, uv] [(.ref a1)])) (fun _ k => XS.aloadN X0.here hx rfl (hb hby d64_0) rfl rfl k) ?_
  obtain ⟨T1115, X1115, e1115, st1115⟩ := getF X0 hx hZ hown (host := "") (Or.inl (wi hw 19 rfl)) Via.refl e0 F_a1_count (g := (mkF m 1 #[rv a1, iv p1, jv x2, sv, uv, uv] [(.ref a1)])) rfl rfl (hb hby d64_1)
  refine Rch.go (U' := T1115.setTop (mkF m 4 #[rv a1, iv p1, jv x2, sv, uv, uv] [(.int cn)])) st1115 ?_
  have br1116 : ¬ (cn = (0 : Int32)) := hcn
  refine Rch.go (U' := T1115.setTop (mkF m 9 #[rv a1, iv p1, jv x2, sv, uv, uv] [])) (fun _ k => XS.ifYes X1115.here hx rfl (pc0 := 4) (pc' := 9) rfl (hb hby d64_4) rfl (XT.i0_ne_t br1116) (by decide) (by decide) k) ?_
  refine Rch.go (U' := T1115.setTop (mkF m 10 #[rv a1, iv p1, jv x2, sv, uv, uv] [(.ref a1)])) (fun _ k => XS.aloadN X1115.here hx rfl (hb hby d64_9) rfl rfl k) ?_
  obtain ⟨T1117, X1117, e1117, st1117⟩ := getF X1115 hx hZ hown (host := "") (Or.inl (wi hw 26 rfl)) Via.refl e1115 F_a1_handles (g := (mkF m 10 #[rv a1, iv p1, jv x2, sv, uv, uv] [(.ref a1)])) rfl rfl (hb hby d64_10)
  refine Rch.go (U' := T1117.setTop (mkF m 13 #[rv a1, iv p1, jv x2, sv, uv, uv] [(.ref bh)])) st1117 ?_
  obtain ⟨cl1118, Ar1118, -, Sz1118, Mn1118, -, -⟩ := id V_bh
  refine Rch.go (U' := T1117.setTop (mkF m 14 #[rv a1, iv p1, jv x2, sv, uv, uv] [(.int cl1118.slots.size.toInt32)])) (fun _ k => X1117.arraylength hx (by rw [e1117]; exact Ar1118.1) (State.isArrayOf_alike hZ.alike Ar1118.2.1) (g := (mkF m 13 #[rv a1, iv p1, jv x2, sv, uv, uv] [(.ref bh)])) rfl rfl (hb hby d64_13) _ k) ?_
  rw [len_of Sz1118 Mn1118]
  refine Rch.go (U' := T1117.setTop (mkF m 15 #[rv a1, iv p1, jv x2, sv, uv, uv] [(.int (1 : Int32)), (.int (4 : Int32))])) (fun _ k => XS.iconst X1117.here hx rfl (hb hby d64_14) k) ?_
  refine Rch.go (U' := T1117.setTop (mkF m 16 #[rv a1, iv p1, jv x2, sv, uv, uv] [(.int ((4 : Int32) - (1 : Int32)))])) (fun _ k => XS.isub X1117.here hx rfl (hb hby d64_15) rfl k) ?_
  rw [(by decide : ((4 : Int32) - (1 : Int32)) = (3 : Int32))]
  refine Rch.go (U' := T1117.setTop (mkF m 18 #[rv a1, iv p1, jv x2, sv, iv (3 : Int32), uv] [])) (fun _ k => XS.istore X1117.here hx rfl (hb hby d64_16) rfl (l' := #[rv a1, iv p1, jv x2, sv, iv (3 : Int32), uv]) rfl k) ?_
  refine Rch.go (U' := T1117.setTop (mkF m 19 #[rv a1, iv p1, jv x2, sv, iv (3 : Int32), uv] [(.int p1)])) (fun _ k => XS.iloadN X1117.here hx rfl (hb hby d64_18) rfl  k) ?_
  refine Rch.go (U' := T1117.setTop (mkF m 21 #[rv a1, iv p1, jv x2, sv, iv (3 : Int32), uv] [(.int (3 : Int32)), (.int p1)])) (fun _ k => XS.iload X1117.here hx rfl (hb hby d64_19) rfl  k) ?_
  refine Rch.go (U' := T1117.setTop (mkF m 22 #[rv a1, iv p1, jv x2, sv, iv (3 : Int32), uv] [(.int (p1 &&& (3 : Int32)))])) (fun _ k => XS.iand X1117.here hx rfl (hb hby d64_21) rfl k) ?_
  generalize hpl : (p1 &&& (3 : Int32)) = pl
  refine Rch.go (U' := T1117.setTop (mkF m 24 #[rv a1, iv p1, jv x2, sv, iv (3 : Int32), iv pl] [])) (fun _ k => XS.istore X1117.here hx rfl (hb hby d64_22) rfl (l' := #[rv a1, iv p1, jv x2, sv, iv (3 : Int32), iv pl]) rfl k) ?_
  rcases own_s4 p1 with ⟨q, q'⟩ | ⟨q, q'⟩ | ⟨q, q'⟩ | ⟨q, q'⟩ <;> rw [hpl] at q <;> subst q
  · exact find0 a1 bh ba bl kh ka kl cn gs va vl p1 x2 X1117 hx hZ hw hby hml hown hret hlk e1117 N0 Z0 ⟨E_a1, F_a1_count, F_a1_handles, F_a1_hashes, F_a1_lengths, F_a1_outside, F_a1_expiries, V_bh, V_ba, V_bl, ⟨lg, la, ll⟩, ⟨g_a1, g_bh, g_ba, g_bl⟩, ⟨n_h, n_a, n_l⟩, n_ha, n_hl, n_al⟩ hz q'
  · exact find1 a1 bh ba bl kh ka kl cn gs va vl p1 x2 X1117 hx hZ hw hby hml hown hret hlk e1117 N0 Z0 ⟨E_a1, F_a1_count, F_a1_handles, F_a1_hashes, F_a1_lengths, F_a1_outside, F_a1_expiries, V_bh, V_ba, V_bl, ⟨lg, la, ll⟩, ⟨g_a1, g_bh, g_ba, g_bl⟩, ⟨n_h, n_a, n_l⟩, n_ha, n_hl, n_al⟩ hz q'
  · exact find2 a1 bh ba bl kh ka kl cn gs va vl p1 x2 X1117 hx hZ hw hby hml hown hret hlk e1117 N0 Z0 ⟨E_a1, F_a1_count, F_a1_handles, F_a1_hashes, F_a1_lengths, F_a1_outside, F_a1_expiries, V_bh, V_ba, V_bl, ⟨lg, la, ll⟩, ⟨g_a1, g_bh, g_ba, g_bl⟩, ⟨n_h, n_a, n_l⟩, n_ha, n_hl, n_al⟩ hz q'
  · exact find3 a1 bh ba bl kh ka kl cn gs va vl p1 x2 X1117 hx hZ hw hby hml hown hret hlk e1117 N0 Z0 ⟨E_a1, F_a1_count, F_a1_handles, F_a1_hashes, F_a1_lengths, F_a1_outside, F_a1_expiries, V_bh, V_ba, V_bl, ⟨lg, la, ll⟩, ⟨g_a1, g_bh, g_ba, g_bl⟩, ⟨n_h, n_a, n_l⟩, n_ha, n_hl, n_al⟩ hz q'
theorem ef_rmF0 (m : MethodId) (a1 : Addr) (p1 : Int32) (x2 : Int64) : entryFrame m #[(.ref a1), (.int p1), (.long x2)] 6 = mkF m 0 #[rv a1, iv p1, jv x2, sv, uv, uv] [] := by first | (simp [entryFrame, mkF, argsToLocals, Value.category]; done) | rfl
def Q_rmF0 (Z : State) (a1 : Addr) (p1 : Int32) (x2 : Int64) (h0 : Heap) (n0 : Nat) (v : Option Value) (h : Heap) (L : List Loc) : Prop := v = some (.int (-1 : Int32)) ∧ Fr n0 L ∧ h = h0
set_option maxRecDepth 65536 in
set_option maxHeartbeats 40000000 in
theorem rmF0 (l : Launch) (Z : State) (a0 : Array Value) (hw : ∀ d ∈ tables_1, d.before a0 Z = true) (ws : List Jvm.Cond) (a1 : Addr) (p1 : Int32) (x2 : Int64) (h0 : Heap) (n0 : Nat) (Z0 : n0 ≤ h0.size) (F_c : Fld Z h0 a1 cST "count" "I" (.int (0 : Int32))) :
    MetFree l yF (head1 (Jvm.Cond.code yF prog_36_method_6_code 6 (some .int) :: ws) ({ frames := 0, cells := 0, slots := 0, locals := 0 } : Room)) (fun a U => a = #[(.ref a1), (.int p1), (.long x2)] ∧ Z.Warmed39 U.vm ∧ U.heap = h0) (fun _ _ _ _ _ => True) (fun _ U o U' => ∃ v L, o = .returned v ∧ Q_rmF0 Z a1 p1 x2 h0 n0 v U'.heap L ∧ FrameEnd U o U' L ({ frames := 0, cells := 0, slots := 0, locals := 0 } : Room).cells ({ frames := 0, cells := 0, slots := 0, locals := 0 } : Room).slots) := by
  refine MetFree.of_bodySF (plainFor_of_name pn_com_example_slotwise_slotwise_keyspace_SlotTable) hisR ?_
  intro p e s m args below meth c s₁ Bd hml0 hP hK
  obtain ⟨rfl, hZ, hh⟩ := hP
  have hx := Bd.exec
  have hby := Bd.bytes
  have hml : c.maxLocals = 6 := hml0
  have hown : s.vm.findClass cST = some m.cls := findClass_of_methodNamed Bd.named
  have hnm := (name_of_methodNamed Bd.named Bd.method).1
  have hret := Bd.returns
  have hlk : meth.locks = false := BodyLoose.notSynchronized Bd
  have X0 : Stand p l e ({ frames := 0, cells := 0, slots := 0, locals := 0 } : Room) s m #[(.ref a1), (.int p1), (.long x2)] below meth c s₁ [] 0 0 := Stand.of_body Bd
  have e0 : s₁.heap = h0 := by rw [← hh, Bd.state]; rfl
  have N0 := Fr.nil n0
  refine Rch.body (Q := Q_rmF0 Z a1 p1 x2 h0 n0) (U' := s₁.setTop (mkF m 0 #[rv a1, iv p1, jv x2, sv, uv, uv] [])) (fun t k => castTop (ef_rmF0 m a1 p1 x2) k) ?_
  refine Rch.go (U' := s₁.setTop (mkF m 1 #[rv a1, iv p1, jv x2, sv, uv, uv] [(.ref a1)])) (fun _ k => XS.aloadN X0.here hx rfl (hb hby d64_0) rfl rfl k) ?_
  obtain ⟨T1119, X1119, e1119, st1119⟩ := getF X0 hx hZ hown (host := "") (Or.inl (wi hw 19 rfl)) Via.refl e0 F_c (g := (mkF m 1 #[rv a1, iv p1, jv x2, sv, uv, uv] [(.ref a1)])) rfl rfl (hb hby d64_1)
  refine Rch.go (U' := T1119.setTop (mkF m 4 #[rv a1, iv p1, jv x2, sv, uv, uv] [(.int (0 : Int32))])) st1119 ?_
  have br1120 : (0 : Int32) = (0 : Int32) := (by decide)
  refine Rch.go (U' := T1119.setTop (mkF m 7 #[rv a1, iv p1, jv x2, sv, uv, uv] [])) (fun _ k => XS.ifNo X1119.here hx rfl (hb hby d64_4) rfl (XT.i0_ne_f br1120) k) ?_
  refine Rch.go (U' := T1119.setTop (mkF m 8 #[rv a1, iv p1, jv x2, sv, uv, uv] [(.int (-1 : Int32))])) (fun _ k => XS.iconst X1119.here hx rfl (hb hby d64_7) k) ?_
  refine Rch.fin X1119 hlk (v := some (.int (-1 : Int32))) (fun h => by rw [hret] at h; cases h) e1119 (by decide) (by decide) (fun fs hr => retI X1119 hx hret (hb hby d64_8) hr) ?_
  exact ⟨rfl, N0, rfl⟩
theorem d5_0 : decode prog_36_method_1_code 0 = .ok (.aload_n 0, 1) := by decide +kernel
theorem d5_1 : decode prog_36_method_1_code 1 = .ok (.invokespecial 1, 3) := by decide +kernel
theorem d5_4 : decode prog_36_method_1_code 4 = .ok (.aload_n 0, 1) := by decide +kernel
theorem d5_5 : decode prog_36_method_1_code 5 = .ok (.ldc2_w 9, 3) := by decide +kernel
theorem d5_8 : decode prog_36_method_1_code 8 = .ok (.putfield 11, 3) := by decide +kernel
theorem d5_11 : decode prog_36_method_1_code 11 = .ok (.aload_n 0, 1) := by decide +kernel
theorem d5_12 : decode prog_36_method_1_code 12 = .ok (.ldc2_w 9, 3) := by decide +kernel
theorem d5_15 : decode prog_36_method_1_code 15 = .ok (.putfield 17, 3) := by decide +kernel
theorem d5_18 : decode prog_36_method_1_code 18 = .ok (.return_, 1) := by decide +kernel
theorem pd_13 : parseMethodDescriptor "()V" = some ⟨[], none⟩ := by decide +kernel
theorem ef_rmNew (m : MethodId) (a1 : Addr) : entryFrame m #[(.ref a1)] 1 = mkF m 0 #[rv a1] [] := by first | (simp [entryFrame, mkF, argsToLocals, Value.category]; done) | rfl
def Q_rmNew (Z : State) (a1 : Addr) (z0 : Int64) (z1 : Int64) (z2 : Int32) (z9 : Int64) (z10 : Int32) (h0 : Heap) (n0 : Nat) (v : Option Value) (h : Heap) (L : List Loc) : Prop := v = none ∧ Fr n0 L ∧ Keep h0 h [a1] ∧ Fld Z h a1 cST "earliest" "J" (.long (9223372036854775807 : Int64)) ∧ Fld Z h a1 cST "earliestOfWalk" "J" (.long (9223372036854775807 : Int64)) ∧ Fld Z h a1 cST "count" "I" (.int z2) ∧ Fld Z h a1 cST "handles" "[J" .null ∧ Fld Z h a1 cST "hashes" "[I" .null ∧ Fld Z h a1 cST "lengths" "[I" .null ∧ Fld Z h a1 cST "outside" "[[B" .null ∧ Fld Z h a1 cST "marks" "Ljava/util/BitSet;" .null ∧ Fld Z h a1 cST "expiries" "Ljava/util/BitSet;" .null ∧ Fld Z h a1 cST "moves" "J" (.long z9) ∧ Fld Z h a1 cST "expiring" "I" (.int z10)
set_option maxRecDepth 65536 in
set_option maxHeartbeats 40000000 in
theorem rmNew (l : Launch) (Z : State) (a0 : Array Value) (hw : ∀ d ∈ tables_1, d.before a0 Z = true) (ws : List Jvm.Cond) (a1 : Addr) (z0 : Int64) (z1 : Int64) (z2 : Int32) (z9 : Int64) (z10 : Int32) (h0 : Heap) (n0 : Nat) (Z0 : n0 ≤ h0.size) (E_a1 : Exa Z h0 a1 cST) (F_a1_earliest : Fld Z h0 a1 cST "earliest" "J" (.long z0)) (F_a1_earliestOfWalk : Fld Z h0 a1 cST "earliestOfWalk" "J" (.long z1)) (F_a1_count : Fld Z h0 a1 cST "count" "I" (.int z2)) (F_a1_handles : Fld Z h0 a1 cST "handles" "[J" .null) (F_a1_hashes : Fld Z h0 a1 cST "hashes" "[I" .null) (F_a1_lengths : Fld Z h0 a1 cST "lengths" "[I" .null) (F_a1_outside : Fld Z h0 a1 cST "outside" "[[B" .null) (F_a1_marks : Fld Z h0 a1 cST "marks" "Ljava/util/BitSet;" .null) (F_a1_expiries : Fld Z h0 a1 cST "expiries" "Ljava/util/BitSet;" .null) (F_a1_moves : Fld Z h0 a1 cST "moves" "J" (.long z9)) (F_a1_expiring : Fld Z h0 a1 cST "expiring" "I" (.int z10)) (g_a1 : n0 ≤ a1) :
    MetFree l yN (head1 (Jvm.Cond.code yN prog_36_method_1_code 1 none :: ws) ({ frames := 1, cells := 0, slots := 0, locals := 12 } : Room)) (fun a U => a = #[(.ref a1)] ∧ Z.Warmed39 U.vm ∧ U.heap = h0) (fun _ _ _ _ _ => True) (fun _ U o U' => ∃ v L, o = .returned v ∧ Q_rmNew Z a1 z0 z1 z2 z9 z10 h0 n0 v U'.heap L ∧ FrameEnd U o U' L ({ frames := 1, cells := 0, slots := 0, locals := 12 } : Room).cells ({ frames := 1, cells := 0, slots := 0, locals := 12 } : Room).slots) := by
  refine MetFree.of_bodySF (plainFor_of_name pn_com_example_slotwise_slotwise_keyspace_SlotTable) hisR ?_
  intro p e s m args below meth c s₁ Bd hml0 hP hK
  obtain ⟨rfl, hZ, hh⟩ := hP
  have hx := Bd.exec
  have hby := Bd.bytes
  have hml : c.maxLocals = 1 := hml0
  have hown : s.vm.findClass cST = some m.cls := findClass_of_methodNamed Bd.named
  have hnm := (name_of_methodNamed Bd.named Bd.method).1
  have hret := Bd.returns
  have hlk : meth.locks = false := BodyLoose.notSynchronized Bd
  have X0 : Stand p l e ({ frames := 1, cells := 0, slots := 0, locals := 12 } : Room) s m #[(.ref a1)] below meth c s₁ [] 0 0 := Stand.of_body Bd
  have e0 : s₁.heap = h0 := by rw [← hh, Bd.state]; rfl
  have N0 := Fr.nil n0
  have K0 := Keep.refl h0 [a1]
  refine Rch.body (Q := Q_rmNew Z a1 z0 z1 z2 z9 z10 h0 n0) (U' := s₁.setTop (mkF m 0 #[rv a1] [])) (fun t k => castTop (ef_rmNew m a1) k) ?_
  refine Rch.go (U' := s₁.setTop (mkF m 1 #[rv a1] [(.ref a1)])) (fun _ k => XS.aloadN X0.here hx rfl (hb hby d5_0) rfl rfl k) ?_
  obtain ⟨T1121, X1121, e1121, st1121⟩ := initO X0 hx hZ hown (wi hw 6 rfl) (wi hw 7 rfl) (wi hw 8 rfl) e0 (g := (mkF m 1 #[rv a1] [(.ref a1)])) rfl (by rw [hml]; rfl) rfl (hb hby d5_1) (by decide) (W := 0) (by show 2 * 0 + _ ≤ _; exact Nat.le_of_eq rfl) (by decide)
  refine Rch.go (U' := T1121.setTop (mkF m 4 #[rv a1] [])) st1121 ?_
  refine Rch.go (U' := T1121.setTop (mkF m 5 #[rv a1] [(.ref a1)])) (fun _ k => XS.aloadN X1121.here hx rfl (hb hby d5_4) rfl rfl k) ?_
  refine Rch.go (U' := T1121.setTop (mkF m 8 #[rv a1] [(.long (9223372036854775807 : Int64)), (.ref a1)])) (fun _ k => X1121.ldc2Long hx hown (mvT hZ (wi hw 9 rfl)) (g := (mkF m 5 #[rv a1] [(.ref a1)])) rfl (hb hby d5_5) _ k) ?_
  obtain ⟨T1122, h1122, X1122, e1122, W1122, st1122⟩ := putF X1121 hx hZ hown (host := "") (Or.inl (wi hw 10 rfl)) Via.refl e1121 F_a1_earliest E_a1 (Or.inl (wi hw 11 rfl)) (wi hw 1 rfl) (ty := .long) (by decide) rfl rfl (g := (mkF m 8 #[rv a1] [(.long (9223372036854775807 : Int64)), (.ref a1)])) rfl rfl (hb hby d5_8)
  have F1122 := F_a1_earliest.same W1122
  have f1123 := E_a1.wr W1122
  have f1124 := F_a1_earliestOfWalk.other W1122 (Or.inr (slot_ne (Or.inl (wi hw 13 rfl)) (Or.inl (wi hw 11 rfl)) (by decide) (t := .long) (t' := .long) (by decide) (by decide)))
  have f1125 := F_a1_count.other W1122 (Or.inr (slot_ne (Or.inl (wi hw 20 rfl)) (Or.inl (wi hw 11 rfl)) (by decide) (t := .int) (t' := .long) (by decide) (by decide)))
  have f1126 := F_a1_handles.other W1122 (Or.inr (slot_ne (Or.inl (wi hw 27 rfl)) (Or.inl (wi hw 11 rfl)) (by decide) (t := (.array .long)) (t' := .long) (by decide) (by decide)))
  have f1127 := F_a1_hashes.other W1122 (Or.inr (slot_ne (Or.inl (wi hw 37 rfl)) (Or.inl (wi hw 11 rfl)) (by decide) (t := (.array .int)) (t' := .long) (by decide) (by decide)))
  have f1128 := F_a1_lengths.other W1122 (Or.inr (slot_ne (Or.inl (wi hw 39 rfl)) (Or.inl (wi hw 11 rfl)) (by decide) (t := (.array .int)) (t' := .long) (by decide) (by decide)))
  have f1129 := F_a1_outside.other W1122 (Or.inr (slot_ne (Or.inl (wi hw 41 rfl)) (Or.inl (wi hw 11 rfl)) (by decide) (t := (.array (.array .byte))) (t' := .long) (by decide) (by decide)))
  have f1130 := F_a1_marks.other W1122 (Or.inr (slot_ne (Or.inl (wi hw 43 rfl)) (Or.inl (wi hw 11 rfl)) (by decide) (t := (.object "java/util/BitSet")) (t' := .long) (by decide) (by decide)))
  have f1131 := F_a1_expiries.other W1122 (Or.inr (slot_ne (Or.inl (wi hw 45 rfl)) (Or.inl (wi hw 11 rfl)) (by decide) (t := (.object "java/util/BitSet")) (t' := .long) (by decide) (by decide)))
  have f1132 := F_a1_moves.other W1122 (Or.inr (slot_ne (Or.inl (wi hw 49 rfl)) (Or.inl (wi hw 11 rfl)) (by decide) (t := .long) (t' := .long) (by decide) (by decide)))
  have f1133 := F_a1_expiring.other W1122 (Or.inr (slot_ne (Or.inl (wi hw 66 rfl)) (Or.inl (wi hw 11 rfl)) (by decide) (t := .int) (t' := .long) (by decide) (by decide)))
  have N1122 := Fr.snoc X1122 N0 g_a1
  have z1134 := Nat.le_trans Z0 (Keep.of_wr W1122).1
  have K1135 := K0.wr W1122 (Or.inl (List.mem_of_getElem? (i := 0) rfl))
  refine Rch.go (U' := T1122.setTop (mkF m 11 #[rv a1] [])) st1122 ?_
  refine Rch.go (U' := T1122.setTop (mkF m 12 #[rv a1] [(.ref a1)])) (fun _ k => XS.aloadN X1122.here hx rfl (hb hby d5_11) rfl rfl k) ?_
  refine Rch.go (U' := T1122.setTop (mkF m 15 #[rv a1] [(.long (9223372036854775807 : Int64)), (.ref a1)])) (fun _ k => X1122.ldc2Long hx hown (mvT hZ (wi hw 9 rfl)) (g := (mkF m 12 #[rv a1] [(.ref a1)])) rfl (hb hby d5_12) _ k) ?_
  obtain ⟨T1136, h1136, X1136, e1136, W1136, st1136⟩ := putF X1122 hx hZ hown (host := "") (Or.inl (wi hw 12 rfl)) Via.refl e1122 f1124 f1123 (Or.inl (wi hw 13 rfl)) (wi hw 1 rfl) (ty := .long) (by decide) rfl rfl (g := (mkF m 15 #[rv a1] [(.long (9223372036854775807 : Int64)), (.ref a1)])) rfl rfl (hb hby d5_15)
  have F1136 := f1124.same W1136
  have f1137 := f1123.wr W1136
  have f1138 := F1122.other W1136 (Or.inr (slot_ne (Or.inl (wi hw 11 rfl)) (Or.inl (wi hw 13 rfl)) (by decide) (t := .long) (t' := .long) (by decide) (by decide)))
  have f1139 := f1125.other W1136 (Or.inr (slot_ne (Or.inl (wi hw 20 rfl)) (Or.inl (wi hw 13 rfl)) (by decide) (t := .int) (t' := .long) (by decide) (by decide)))
  have f1140 := f1126.other W1136 (Or.inr (slot_ne (Or.inl (wi hw 27 rfl)) (Or.inl (wi hw 13 rfl)) (by decide) (t := (.array .long)) (t' := .long) (by decide) (by decide)))
  have f1141 := f1127.other W1136 (Or.inr (slot_ne (Or.inl (wi hw 37 rfl)) (Or.inl (wi hw 13 rfl)) (by decide) (t := (.array .int)) (t' := .long) (by decide) (by decide)))
  have f1142 := f1128.other W1136 (Or.inr (slot_ne (Or.inl (wi hw 39 rfl)) (Or.inl (wi hw 13 rfl)) (by decide) (t := (.array .int)) (t' := .long) (by decide) (by decide)))
  have f1143 := f1129.other W1136 (Or.inr (slot_ne (Or.inl (wi hw 41 rfl)) (Or.inl (wi hw 13 rfl)) (by decide) (t := (.array (.array .byte))) (t' := .long) (by decide) (by decide)))
  have f1144 := f1130.other W1136 (Or.inr (slot_ne (Or.inl (wi hw 43 rfl)) (Or.inl (wi hw 13 rfl)) (by decide) (t := (.object "java/util/BitSet")) (t' := .long) (by decide) (by decide)))
  have f1145 := f1131.other W1136 (Or.inr (slot_ne (Or.inl (wi hw 45 rfl)) (Or.inl (wi hw 13 rfl)) (by decide) (t := (.object "java/util/BitSet")) (t' := .long) (by decide) (by decide)))
  have f1146 := f1132.other W1136 (Or.inr (slot_ne (Or.inl (wi hw 49 rfl)) (Or.inl (wi hw 13 rfl)) (by decide) (t := .long) (t' := .long) (by decide) (by decide)))
  have f1147 := f1133.other W1136 (Or.inr (slot_ne (Or.inl (wi hw 66 rfl)) (Or.inl (wi hw 13 rfl)) (by decide) (t := .int) (t' := .long) (by decide) (by decide)))
  have N1136 := Fr.snoc X1136 N1122 g_a1
  have z1148 := Nat.le_trans z1134 (Keep.of_wr W1136).1
  have K1149 := K1135.wr W1136 (Or.inl (List.mem_of_getElem? (i := 0) rfl))
  refine Rch.go (U' := T1136.setTop (mkF m 18 #[rv a1] [])) st1136 ?_
  refine Rch.fin X1136 hlk (v := none) (fun _ => rfl) e1136 (by decide) (by decide) (fun fs hr => X1136.returnOut hx hret (hb hby d5_18) hr) ?_
  exact ⟨rfl, N1136, K1149, (by first | exact f1138 | (simp only [nar_1, nar_0, ↓reduceIte]; exact f1138) | (simp [nar_1, nar_0, ↓reduceIte]; exact f1138)), (by first | exact F1136 | (simp only [nar_1, nar_0, ↓reduceIte]; exact F1136) | (simp [nar_1, nar_0, ↓reduceIte]; exact F1136)), (by first | exact f1139 | (simp only [nar_1, nar_0, ↓reduceIte]; exact f1139) | (simp [nar_1, nar_0, ↓reduceIte]; exact f1139)), (by first | exact f1140 | (simp only [nar_1, nar_0, ↓reduceIte]; exact f1140) | (simp [nar_1, nar_0, ↓reduceIte]; exact f1140)), (by first | exact f1141 | (simp only [nar_1, nar_0, ↓reduceIte]; exact f1141) | (simp [nar_1, nar_0, ↓reduceIte]; exact f1141)), (by first | exact f1142 | (simp only [nar_1, nar_0, ↓reduceIte]; exact f1142) | (simp [nar_1, nar_0, ↓reduceIte]; exact f1142)), (by first | exact f1143 | (simp only [nar_1, nar_0, ↓reduceIte]; exact f1143) | (simp [nar_1, nar_0, ↓reduceIte]; exact f1143)), (by first | exact f1144 | (simp only [nar_1, nar_0, ↓reduceIte]; exact f1144) | (simp [nar_1, nar_0, ↓reduceIte]; exact f1144)), (by first | exact f1145 | (simp only [nar_1, nar_0, ↓reduceIte]; exact f1145) | (simp [nar_1, nar_0, ↓reduceIte]; exact f1145)), (by first | exact f1146 | (simp only [nar_1, nar_0, ↓reduceIte]; exact f1146) | (simp [nar_1, nar_0, ↓reduceIte]; exact f1146)), (by first | exact f1147 | (simp only [nar_1, nar_0, ↓reduceIte]; exact f1147) | (simp [nar_1, nar_0, ↓reduceIte]; exact f1147))⟩
theorem pd_14 : parseMethodDescriptor "(IJI[BZ)I" = some ⟨[.int, .long, .int, (.array .byte), .boolean], some .int⟩ := by decide +kernel
theorem pd_15 : parseMethodDescriptor "(IJ)I" = some ⟨[.int, .long], some .int⟩ := by decide +kernel
set_option maxRecDepth 65536 in
set_option maxHeartbeats 40000000 in
theorem cut19_0 {p : Program} {l : Launch} {e : Env} {s : State} {m : MethodId} {args : Array Value} {below : List Frame} {meth : Method} {c : Code} {T0 : State} {locs : List Loc} {Z : State} {a0 : Array Value} {h0 : Heap} {n0 : Nat}  (p1 : Int32) (p2 : Int32) (p3 : Int32) (q4 : Int64) (q5 : Int64) (p6 : Int32) (x3 : Int64)
    (X0 : Stand p l e room_1 s m args below meth c T0 locs 0 0) (hx : p.tables.exec = Jvm.exec) (hZ : Z.Warmed39 s.vm) (hw : ∀ d ∈ tables_1, d.before a0 Z = true) (hby : c.code = code) (hml : c.maxLocals = 24) (hown : s.vm.findClass cLW = some m.cls) (hret : meth.sig.returnType = some .boolean) (hlk : meth.locks = false) (e0 : T0.heap = h0) (N0 : Fr n0 locs) (Z0 : n0 ≤ h0.size)  :
    Rch p e below (Fin s below (fun v h L => v = some (.int 1) ∧ Fr n0 L) 16 128) (T0.setTop (mkF m 19 #[iv p1, iv p2, iv p3, jv q4, sv, jv q5, sv, iv p6, iv (0 : Int32), jv q4, sv, jv q5, sv, jv x3, sv, uv, uv, uv, uv, uv, uv, uv, uv, uv] [])) := by
  refine Rch.go (U' := T0.setTop (mkF m 21 #[iv p1, iv p2, iv p3, jv q4, sv, jv q5, sv, iv p6, iv (0 : Int32), jv q4, sv, jv q5, sv, jv x3, sv, uv, uv, uv, uv, uv, uv, uv, uv, uv] [(.int (0 : Int32))])) (fun _ k => XS.iload X0.here hx rfl (hb hby at_19) rfl  k) ?_
  refine Rch.go (U' := T0.setTop (mkF m 22 #[iv p1, iv p2, iv p3, jv q4, sv, jv q5, sv, iv p6, iv (0 : Int32), jv q4, sv, jv q5, sv, jv x3, sv, uv, uv, uv, uv, uv, uv, uv, uv, uv] [(.int (1 : Int32)), (.int (0 : Int32))])) (fun _ k => XS.iconst X0.here hx rfl (hb hby at_21) k) ?_
  have br1150 : (0 : Int32) < (1 : Int32) := (by decide)
  refine Rch.go (U' := T0.setTop (mkF m 34 #[iv p1, iv p2, iv p3, jv q4, sv, jv q5, sv, iv p6, iv (0 : Int32), jv q4, sv, jv q5, sv, jv x3, sv, uv, uv, uv, uv, uv, uv, uv, uv, uv] [])) (fun _ k => XS.icmpYes X0.here hx rfl (pc0 := 22) (pc' := 34) rfl (hb hby at_22) rfl (XT.ii_lt_t br1150) (by decide) (by decide) k) ?_
  refine Rch.go (U' := T0.setTop (mkF m 36 #[iv p1, iv p2, iv p3, jv q4, sv, jv q5, sv, iv p6, iv (0 : Int32), jv q4, sv, jv q5, sv, jv x3, sv, uv, uv, uv, uv, uv, uv, uv, uv, uv] [(.int (0 : Int32))])) (fun _ k => XS.iload X0.here hx rfl (hb hby at_34) rfl  k) ?_
  refine Rch.go (U' := T0.setTop (mkF m 37 #[iv p1, iv p2, iv p3, jv q4, sv, jv q5, sv, iv p6, iv (0 : Int32), jv q4, sv, jv q5, sv, jv x3, sv, uv, uv, uv, uv, uv, uv, uv, uv, uv] [(.int (2 : Int32)), (.int (0 : Int32))])) (fun _ k => XS.iconst X0.here hx rfl (hb hby at_36) k) ?_
  have br1151 : (0 : Int32) < (2 : Int32) := (by decide)
  refine Rch.go (U' := T0.setTop (mkF m 57 #[iv p1, iv p2, iv p3, jv q4, sv, jv q5, sv, iv p6, iv (0 : Int32), jv q4, sv, jv q5, sv, jv x3, sv, uv, uv, uv, uv, uv, uv, uv, uv, uv] [])) (fun _ k => XS.icmpYes X0.here hx rfl (pc0 := 37) (pc' := 57) rfl (hb hby at_37) rfl (XT.ii_lt_t br1151) (by decide) (by decide) k) ?_
  refine Rch.go (U' := T0.setTop (mkF m 59 #[iv p1, iv p2, iv p3, jv q4, sv, jv q5, sv, iv p6, iv (0 : Int32), jv q4, sv, jv q5, sv, jv x3, sv, uv, uv, uv, uv, uv, uv, uv, uv, uv] [(.int (0 : Int32))])) (fun _ k => XS.iload X0.here hx rfl (hb hby at_57) rfl  k) ?_
  refine Rch.go (U' := T0.setTop (mkF m 60 #[iv p1, iv p2, iv p3, jv q4, sv, jv q5, sv, iv p6, iv (0 : Int32), jv q4, sv, jv q5, sv, jv x3, sv, uv, uv, uv, uv, uv, uv, uv, uv, uv] [(.int (3 : Int32)), (.int (0 : Int32))])) (fun _ k => XS.iconst X0.here hx rfl (hb hby at_59) k) ?_
  have br1152 : (0 : Int32) < (3 : Int32) := (by decide)
  refine Rch.go (U' := T0.setTop (mkF m 88 #[iv p1, iv p2, iv p3, jv q4, sv, jv q5, sv, iv p6, iv (0 : Int32), jv q4, sv, jv q5, sv, jv x3, sv, uv, uv, uv, uv, uv, uv, uv, uv, uv] [])) (fun _ k => XS.icmpYes X0.here hx rfl (pc0 := 60) (pc' := 88) rfl (hb hby at_60) rfl (XT.ii_lt_t br1152) (by decide) (by decide) k) ?_
  obtain ⟨T1153, h1153, X1153, e1153, E1153, A1153, D1153, -, st1153⟩ := newO X0 hx hZ hown (wi hw 0 rfl) (wi hw 1 rfl) (wi hw 2 rfl) e0 (g := (mkF m 88 #[iv p1, iv p2, iv p3, jv q4, sv, jv q5, sv, iv p6, iv (0 : Int32), jv q4, sv, jv q5, sv, jv x3, sv, uv, uv, uv, uv, uv, uv, uv, uv, uv] [])) rfl (hb hby at_88) (by decide) (by decide)
  obtain ⟨b1153, g1153⟩ : ∃ z, z = h0.size := ⟨_, rfl⟩
  rw [← g1153] at A1153 D1153 st1153
  have n0b1153 : n0 ≤ b1153 := Nat.le_trans Z0 (Nat.le_of_eq g1153.symm)
  have z1154 := Nat.le_trans Z0 E1153.1
  have F1153_earliest : Fld Z h1153 b1153 cST "earliest" "J" (.long (0 : Int64)) := D1153 (Or.inl (wi hw 11 rfl)) (ty := .long) (by decide)
  have F1153_earliestOfWalk : Fld Z h1153 b1153 cST "earliestOfWalk" "J" (.long (0 : Int64)) := D1153 (Or.inl (wi hw 13 rfl)) (ty := .long) (by decide)
  have F1153_count : Fld Z h1153 b1153 cST "count" "I" (.int (0 : Int32)) := D1153 (Or.inl (wi hw 20 rfl)) (ty := .int) (by decide)
  have F1153_handles : Fld Z h1153 b1153 cST "handles" "[J" .null := D1153 (Or.inl (wi hw 27 rfl)) (ty := (.array .long)) (by decide)
  have F1153_hashes : Fld Z h1153 b1153 cST "hashes" "[I" .null := D1153 (Or.inl (wi hw 37 rfl)) (ty := (.array .int)) (by decide)
  have F1153_lengths : Fld Z h1153 b1153 cST "lengths" "[I" .null := D1153 (Or.inl (wi hw 39 rfl)) (ty := (.array .int)) (by decide)
  have F1153_outside : Fld Z h1153 b1153 cST "outside" "[[B" .null := D1153 (Or.inl (wi hw 41 rfl)) (ty := (.array (.array .byte))) (by decide)
  have F1153_marks : Fld Z h1153 b1153 cST "marks" "Ljava/util/BitSet;" .null := D1153 (Or.inl (wi hw 43 rfl)) (ty := (.object "java/util/BitSet")) (by decide)
  have F1153_expiries : Fld Z h1153 b1153 cST "expiries" "Ljava/util/BitSet;" .null := D1153 (Or.inl (wi hw 45 rfl)) (ty := (.object "java/util/BitSet")) (by decide)
  have F1153_moves : Fld Z h1153 b1153 cST "moves" "J" (.long (0 : Int64)) := D1153 (Or.inl (wi hw 49 rfl)) (ty := .long) (by decide)
  have F1153_expiring : Fld Z h1153 b1153 cST "expiring" "I" (.int (0 : Int32)) := D1153 (Or.inl (wi hw 66 rfl)) (ty := .int) (by decide)
  refine Rch.go (U' := T1153.setTop (mkF m 91 #[iv p1, iv p2, iv p3, jv q4, sv, jv q5, sv, iv p6, iv (0 : Int32), jv q4, sv, jv q5, sv, jv x3, sv, uv, uv, uv, uv, uv, uv, uv, uv, uv] [(.ref b1153)])) st1153 ?_
  refine Rch.go (U' := T1153.setTop (mkF m 92 #[iv p1, iv p2, iv p3, jv q4, sv, jv q5, sv, iv p6, iv (0 : Int32), jv q4, sv, jv q5, sv, jv x3, sv, uv, uv, uv, uv, uv, uv, uv, uv, uv] [(.ref b1153), (.ref b1153)])) (fun _ k => XS.dup X1153.here hx rfl (hb hby at_91) rfl rfl k) ?_
  obtain ⟨_, _, ⟨T1155, L1155, k1155, n1155⟩, -, X1155, ⟨Lc1155, hQ1155, l1155, y1155, z1155⟩, st1155⟩ := X1153.specialBack hx (y := yN) rfl hown (mvT hZ (wi hw 3 rfl)) (mvT hZ (wi hw 4 rfl)) (mvT hZ (wi hw 5 rfl)) (by decide) (backOf (W := 1) (rmNew l Z a0 hw [] b1153 (0 : Int64) (0 : Int64) (0 : Int32) (0 : Int64) (0 : Int32) h1153 n0 z1154 A1153 F1153_earliest F1153_earliestOfWalk F1153_count F1153_handles F1153_hashes F1153_lengths F1153_outside F1153_marks F1153_expiries F1153_moves F1153_expiring n0b1153) hZ (wi hw 5 rfl) (wi hw 2 rfl) (by decide) (by decide)) (g := (mkF m 92 #[iv p1, iv p2, iv p3, jv q4, sv, jv q5, sv, iv p6, iv (0 : Int32), jv q4, sv, jv q5, sv, jv x3, sv, uv, uv, uv, uv, uv, uv, uv, uv, uv] [(.ref b1153), (.ref b1153)])) rfl (by rw [hml]; rfl) (Steps.refl _) (a := b1153) (argsL := []) (rest := [(.ref b1153)]) (lenOf pd_13 rfl) rfl (by show 2 * 0 + _ ≤ _; exact Nat.le_of_eq rfl) (hb hby at_92) (fun _ _ => ⟨rfl, e1153, (by decide : 1 + 0 ≤ _), (by decide : 12 + 0 ≤ _)⟩)
  dsimp only [Pt.U, Pt.locs, Pt.cells, Pt.slots] at X1155 l1155 y1155 z1155 st1155 hQ1155
  subst l1155 y1155 z1155
  obtain ⟨rfl, N1155q, K1155q, F1155_earliest, F1155_earliestOfWalk, F1155_count, F1155_handles, F1155_hashes, F1155_lengths, F1155_outside, F1155_marks, F1155_expiries, F1155_moves, F1155_expiring⟩ := hQ1155
  have N1155 := Fr.app N0 N1155q
  have z1156 := Nat.le_trans z1154 K1155q.1
  have f1157 := A1153.keep K1155q
  refine Rch.to (U' := T1155.setTop (mkF m 95 #[iv p1, iv p2, iv p3, jv q4, sv, jv q5, sv, iv p6, iv (0 : Int32), jv q4, sv, jv q5, sv, jv x3, sv, uv, uv, uv, uv, uv, uv, uv, uv, uv] [(.ref b1153)])) st1155 ?_
  refine Rch.go (U' := T1155.setTop (mkF m 97 #[iv p1, iv p2, iv p3, jv q4, sv, jv q5, sv, iv p6, iv (0 : Int32), jv q4, sv, jv q5, sv, jv x3, sv, rv b1153, uv, uv, uv, uv, uv, uv, uv, uv] [])) (fun _ k => XS.astore X1155.here hx rfl (hb hby at_95) rfl rfl (l' := #[iv p1, iv p2, iv p3, jv q4, sv, jv q5, sv, iv p6, iv (0 : Int32), jv q4, sv, jv q5, sv, jv x3, sv, rv b1153, uv, uv, uv, uv, uv, uv, uv, uv]) rfl k) ?_
  refine Rch.go (U' := T1155.setTop (mkF m 98 #[iv p1, iv p2, iv p3, jv q4, sv, jv q5, sv, iv p6, iv (0 : Int32), jv q4, sv, jv q5, sv, jv x3, sv, rv b1153, uv, uv, uv, uv, uv, uv, uv, uv] [(.int (-1 : Int32))])) (fun _ k => XS.iconst X1155.here hx rfl (hb hby at_97) k) ?_
  refine Rch.go (U' := T1155.setTop (mkF m 100 #[iv p1, iv p2, iv p3, jv q4, sv, jv q5, sv, iv p6, iv (0 : Int32), jv q4, sv, jv q5, sv, jv x3, sv, rv b1153, iv (-1 : Int32), uv, uv, uv, uv, uv, uv, uv] [])) (fun _ k => XS.istore X1155.here hx rfl (hb hby at_98) rfl (l' := #[iv p1, iv p2, iv p3, jv q4, sv, jv q5, sv, iv p6, iv (0 : Int32), jv q4, sv, jv q5, sv, jv x3, sv, rv b1153, iv (-1 : Int32), uv, uv, uv, uv, uv, uv, uv]) rfl k) ?_
  refine Rch.go (U' := T1155.setTop (mkF m 101 #[iv p1, iv p2, iv p3, jv q4, sv, jv q5, sv, iv p6, iv (0 : Int32), jv q4, sv, jv q5, sv, jv x3, sv, rv b1153, iv (-1 : Int32), uv, uv, uv, uv, uv, uv, uv] [(.int (-1 : Int32))])) (fun _ k => XS.iconst X1155.here hx rfl (hb hby at_100) k) ?_
  refine Rch.go (U' := T1155.setTop (mkF m 103 #[iv p1, iv p2, iv p3, jv q4, sv, jv q5, sv, iv p6, iv (0 : Int32), jv q4, sv, jv q5, sv, jv x3, sv, rv b1153, iv (-1 : Int32), iv (-1 : Int32), uv, uv, uv, uv, uv, uv] [])) (fun _ k => XS.istore X1155.here hx rfl (hb hby at_101) rfl (l' := #[iv p1, iv p2, iv p3, jv q4, sv, jv q5, sv, iv p6, iv (0 : Int32), jv q4, sv, jv q5, sv, jv x3, sv, rv b1153, iv (-1 : Int32), iv (-1 : Int32), uv, uv, uv, uv, uv, uv]) rfl k) ?_
  refine Rch.go (U' := T1155.setTop (mkF m 104 #[iv p1, iv p2, iv p3, jv q4, sv, jv q5, sv, iv p6, iv (0 : Int32), jv q4, sv, jv q5, sv, jv x3, sv, rv b1153, iv (-1 : Int32), iv (-1 : Int32), uv, uv, uv, uv, uv, uv] [(.int (-1 : Int32))])) (fun _ k => XS.iconst X1155.here hx rfl (hb hby at_103) k) ?_
  refine Rch.go (U' := T1155.setTop (mkF m 106 #[iv p1, iv p2, iv p3, jv q4, sv, jv q5, sv, iv p6, iv (0 : Int32), jv q4, sv, jv q5, sv, jv x3, sv, rv b1153, iv (-1 : Int32), iv (-1 : Int32), iv (-1 : Int32), uv, uv, uv, uv, uv] [])) (fun _ k => XS.istore X1155.here hx rfl (hb hby at_104) rfl (l' := #[iv p1, iv p2, iv p3, jv q4, sv, jv q5, sv, iv p6, iv (0 : Int32), jv q4, sv, jv q5, sv, jv x3, sv, rv b1153, iv (-1 : Int32), iv (-1 : Int32), iv (-1 : Int32), uv, uv, uv, uv, uv]) rfl k) ?_
  refine Rch.go (U' := T1155.setTop (mkF m 108 #[iv p1, iv p2, iv p3, jv q4, sv, jv q5, sv, iv p6, iv (0 : Int32), jv q4, sv, jv q5, sv, jv x3, sv, rv b1153, iv (-1 : Int32), iv (-1 : Int32), iv (-1 : Int32), uv, uv, uv, uv, uv] [(.int (0 : Int32))])) (fun _ k => XS.iload X1155.here hx rfl (hb hby at_106) rfl  k) ?_
  refine Rch.go (U' := T1155.setTop (mkF m 109 #[iv p1, iv p2, iv p3, jv q4, sv, jv q5, sv, iv p6, iv (0 : Int32), jv q4, sv, jv q5, sv, jv x3, sv, rv b1153, iv (-1 : Int32), iv (-1 : Int32), iv (-1 : Int32), uv, uv, uv, uv, uv] [(.int (1 : Int32)), (.int (0 : Int32))])) (fun _ k => XS.iconst X1155.here hx rfl (hb hby at_108) k) ?_
  have br1158 : (0 : Int32) < (1 : Int32) := (by decide)
  refine Rch.go (U' := T1155.setTop (mkF m 126 #[iv p1, iv p2, iv p3, jv q4, sv, jv q5, sv, iv p6, iv (0 : Int32), jv q4, sv, jv q5, sv, jv x3, sv, rv b1153, iv (-1 : Int32), iv (-1 : Int32), iv (-1 : Int32), uv, uv, uv, uv, uv] [])) (fun _ k => XS.icmpYes X1155.here hx rfl (pc0 := 109) (pc' := 126) rfl (hb hby at_109) rfl (XT.ii_lt_t br1158) (by decide) (by decide) k) ?_
  refine Rch.go (U' := T1155.setTop (mkF m 128 #[iv p1, iv p2, iv p3, jv q4, sv, jv q5, sv, iv p6, iv (0 : Int32), jv q4, sv, jv q5, sv, jv x3, sv, rv b1153, iv (-1 : Int32), iv (-1 : Int32), iv (-1 : Int32), uv, uv, uv, uv, uv] [(.int (0 : Int32))])) (fun _ k => XS.iload X1155.here hx rfl (hb hby at_126) rfl  k) ?_
  refine Rch.go (U' := T1155.setTop (mkF m 129 #[iv p1, iv p2, iv p3, jv q4, sv, jv q5, sv, iv p6, iv (0 : Int32), jv q4, sv, jv q5, sv, jv x3, sv, rv b1153, iv (-1 : Int32), iv (-1 : Int32), iv (-1 : Int32), uv, uv, uv, uv, uv] [(.int (2 : Int32)), (.int (0 : Int32))])) (fun _ k => XS.iconst X1155.here hx rfl (hb hby at_128) k) ?_
  have br1159 : (0 : Int32) < (2 : Int32) := (by decide)
  refine Rch.go (U' := T1155.setTop (mkF m 146 #[iv p1, iv p2, iv p3, jv q4, sv, jv q5, sv, iv p6, iv (0 : Int32), jv q4, sv, jv q5, sv, jv x3, sv, rv b1153, iv (-1 : Int32), iv (-1 : Int32), iv (-1 : Int32), uv, uv, uv, uv, uv] [])) (fun _ k => XS.icmpYes X1155.here hx rfl (pc0 := 129) (pc' := 146) rfl (hb hby at_129) rfl (XT.ii_lt_t br1159) (by decide) (by decide) k) ?_
  refine Rch.go (U' := T1155.setTop (mkF m 148 #[iv p1, iv p2, iv p3, jv q4, sv, jv q5, sv, iv p6, iv (0 : Int32), jv q4, sv, jv q5, sv, jv x3, sv, rv b1153, iv (-1 : Int32), iv (-1 : Int32), iv (-1 : Int32), uv, uv, uv, uv, uv] [(.int (0 : Int32))])) (fun _ k => XS.iload X1155.here hx rfl (hb hby at_146) rfl  k) ?_
  refine Rch.go (U' := T1155.setTop (mkF m 149 #[iv p1, iv p2, iv p3, jv q4, sv, jv q5, sv, iv p6, iv (0 : Int32), jv q4, sv, jv q5, sv, jv x3, sv, rv b1153, iv (-1 : Int32), iv (-1 : Int32), iv (-1 : Int32), uv, uv, uv, uv, uv] [(.int (3 : Int32)), (.int (0 : Int32))])) (fun _ k => XS.iconst X1155.here hx rfl (hb hby at_148) k) ?_
  have br1160 : (0 : Int32) < (3 : Int32) := (by decide)
  refine Rch.go (U' := T1155.setTop (mkF m 166 #[iv p1, iv p2, iv p3, jv q4, sv, jv q5, sv, iv p6, iv (0 : Int32), jv q4, sv, jv q5, sv, jv x3, sv, rv b1153, iv (-1 : Int32), iv (-1 : Int32), iv (-1 : Int32), uv, uv, uv, uv, uv] [])) (fun _ k => XS.icmpYes X1155.here hx rfl (pc0 := 149) (pc' := 166) rfl (hb hby at_149) rfl (XT.ii_lt_t br1160) (by decide) (by decide) k) ?_
  refine Rch.go (U' := T1155.setTop (mkF m 167 #[iv p1, iv p2, iv p3, jv q4, sv, jv q5, sv, iv p6, iv (0 : Int32), jv q4, sv, jv q5, sv, jv x3, sv, rv b1153, iv (-1 : Int32), iv (-1 : Int32), iv (-1 : Int32), uv, uv, uv, uv, uv] [(.int (1 : Int32))])) (fun _ k => XS.iconst X1155.here hx rfl (hb hby at_166) k) ?_
  refine Rch.go (U' := T1155.setTop (mkF m 169 #[iv p1, iv p2, iv p3, jv q4, sv, jv q5, sv, iv p6, iv (0 : Int32), jv q4, sv, jv q5, sv, jv x3, sv, rv b1153, iv (-1 : Int32), iv (-1 : Int32), iv (-1 : Int32), iv (1 : Int32), uv, uv, uv, uv] [])) (fun _ k => XS.istore X1155.here hx rfl (hb hby at_167) rfl (l' := #[iv p1, iv p2, iv p3, jv q4, sv, jv q5, sv, iv p6, iv (0 : Int32), jv q4, sv, jv q5, sv, jv x3, sv, rv b1153, iv (-1 : Int32), iv (-1 : Int32), iv (-1 : Int32), iv (1 : Int32), uv, uv, uv, uv]) rfl k) ?_
  refine Rch.go (U' := T1155.setTop (mkF m 171 #[iv p1, iv p2, iv p3, jv q4, sv, jv q5, sv, iv p6, iv (0 : Int32), jv q4, sv, jv q5, sv, jv x3, sv, rv b1153, iv (-1 : Int32), iv (-1 : Int32), iv (-1 : Int32), iv (1 : Int32), uv, uv, uv, uv] [(.int (0 : Int32))])) (fun _ k => XS.iload X1155.here hx rfl (hb hby at_169) rfl  k) ?_
  refine Rch.go (U' := T1155.setTop (mkF m 172 #[iv p1, iv p2, iv p3, jv q4, sv, jv q5, sv, iv p6, iv (0 : Int32), jv q4, sv, jv q5, sv, jv x3, sv, rv b1153, iv (-1 : Int32), iv (-1 : Int32), iv (-1 : Int32), iv (1 : Int32), uv, uv, uv, uv] [(.int (1 : Int32)), (.int (0 : Int32))])) (fun _ k => XS.iconst X1155.here hx rfl (hb hby at_171) k) ?_
  have br1161 : (0 : Int32) < (1 : Int32) := (by decide)
  refine Rch.go (U' := T1155.setTop (mkF m 200 #[iv p1, iv p2, iv p3, jv q4, sv, jv q5, sv, iv p6, iv (0 : Int32), jv q4, sv, jv q5, sv, jv x3, sv, rv b1153, iv (-1 : Int32), iv (-1 : Int32), iv (-1 : Int32), iv (1 : Int32), uv, uv, uv, uv] [])) (fun _ k => XS.icmpYes X1155.here hx rfl (pc0 := 172) (pc' := 200) rfl (hb hby at_172) rfl (XT.ii_lt_t br1161) (by decide) (by decide) k) ?_
  refine Rch.go (U' := T1155.setTop (mkF m 202 #[iv p1, iv p2, iv p3, jv q4, sv, jv q5, sv, iv p6, iv (0 : Int32), jv q4, sv, jv q5, sv, jv x3, sv, rv b1153, iv (-1 : Int32), iv (-1 : Int32), iv (-1 : Int32), iv (1 : Int32), uv, uv, uv, uv] [(.int (0 : Int32))])) (fun _ k => XS.iload X1155.here hx rfl (hb hby at_200) rfl  k) ?_
  refine Rch.go (U' := T1155.setTop (mkF m 203 #[iv p1, iv p2, iv p3, jv q4, sv, jv q5, sv, iv p6, iv (0 : Int32), jv q4, sv, jv q5, sv, jv x3, sv, rv b1153, iv (-1 : Int32), iv (-1 : Int32), iv (-1 : Int32), iv (1 : Int32), uv, uv, uv, uv] [(.int (2 : Int32)), (.int (0 : Int32))])) (fun _ k => XS.iconst X1155.here hx rfl (hb hby at_202) k) ?_
  have br1162 : (0 : Int32) < (2 : Int32) := (by decide)
  refine Rch.go (U' := T1155.setTop (mkF m 231 #[iv p1, iv p2, iv p3, jv q4, sv, jv q5, sv, iv p6, iv (0 : Int32), jv q4, sv, jv q5, sv, jv x3, sv, rv b1153, iv (-1 : Int32), iv (-1 : Int32), iv (-1 : Int32), iv (1 : Int32), uv, uv, uv, uv] [])) (fun _ k => XS.icmpYes X1155.here hx rfl (pc0 := 203) (pc' := 231) rfl (hb hby at_203) rfl (XT.ii_lt_t br1162) (by decide) (by decide) k) ?_
  refine Rch.go (U' := T1155.setTop (mkF m 233 #[iv p1, iv p2, iv p3, jv q4, sv, jv q5, sv, iv p6, iv (0 : Int32), jv q4, sv, jv q5, sv, jv x3, sv, rv b1153, iv (-1 : Int32), iv (-1 : Int32), iv (-1 : Int32), iv (1 : Int32), uv, uv, uv, uv] [(.int (0 : Int32))])) (fun _ k => XS.iload X1155.here hx rfl (hb hby at_231) rfl  k) ?_
  refine Rch.go (U' := T1155.setTop (mkF m 234 #[iv p1, iv p2, iv p3, jv q4, sv, jv q5, sv, iv p6, iv (0 : Int32), jv q4, sv, jv q5, sv, jv x3, sv, rv b1153, iv (-1 : Int32), iv (-1 : Int32), iv (-1 : Int32), iv (1 : Int32), uv, uv, uv, uv] [(.int (3 : Int32)), (.int (0 : Int32))])) (fun _ k => XS.iconst X1155.here hx rfl (hb hby at_233) k) ?_
  have br1163 : (0 : Int32) < (3 : Int32) := (by decide)
  refine Rch.go (U' := T1155.setTop (mkF m 262 #[iv p1, iv p2, iv p3, jv q4, sv, jv q5, sv, iv p6, iv (0 : Int32), jv q4, sv, jv q5, sv, jv x3, sv, rv b1153, iv (-1 : Int32), iv (-1 : Int32), iv (-1 : Int32), iv (1 : Int32), uv, uv, uv, uv] [])) (fun _ k => XS.icmpYes X1155.here hx rfl (pc0 := 234) (pc' := 262) rfl (hb hby at_234) rfl (XT.ii_lt_t br1163) (by decide) (by decide) k) ?_
  refine Rch.go (U' := T1155.setTop (mkF m 263 #[iv p1, iv p2, iv p3, jv q4, sv, jv q5, sv, iv p6, iv (0 : Int32), jv q4, sv, jv q5, sv, jv x3, sv, rv b1153, iv (-1 : Int32), iv (-1 : Int32), iv (-1 : Int32), iv (1 : Int32), uv, uv, uv, uv] [(.long q4)])) (fun _ k => XS.lloadN X1155.here hx rfl (hb hby at_262) rfl  k) ?_
  refine Rch.go (U' := T1155.setTop (mkF m 265 #[iv p1, iv p2, iv p3, jv q4, sv, jv q5, sv, iv p6, iv (0 : Int32), jv q4, sv, jv q5, sv, jv x3, sv, rv b1153, iv (-1 : Int32), iv (-1 : Int32), iv (-1 : Int32), iv (1 : Int32), uv, uv, uv, uv] [(.long q5), (.long q4)])) (fun _ k => XS.lload X1155.here hx rfl (hb hby at_263) rfl  k) ?_
  refine Rch.go (U' := T1155.setTop (mkF m 266 #[iv p1, iv p2, iv p3, jv q4, sv, jv q5, sv, iv p6, iv (0 : Int32), jv q4, sv, jv q5, sv, jv x3, sv, rv b1153, iv (-1 : Int32), iv (-1 : Int32), iv (-1 : Int32), iv (1 : Int32), uv, uv, uv, uv] [(.long (q4 - q5))])) (fun _ k => XS.lsub X1155.here hx rfl (hb hby at_265) rfl k) ?_
  generalize hqq : (q4 - q5) = qq
  refine Rch.go (U' := T1155.setTop (mkF m 268 #[iv p1, iv p2, iv p3, jv q4, sv, jv q5, sv, iv p6, iv (0 : Int32), jv q4, sv, jv q5, sv, jv x3, sv, rv b1153, iv (-1 : Int32), iv (-1 : Int32), iv (-1 : Int32), iv (1 : Int32), jv qq, sv, uv, uv] [])) (fun _ k => XS.lstore X1155.here hx rfl (hb hby at_266) rfl (l' := #[iv p1, iv p2, iv p3, jv q4, sv, jv q5, sv, iv p6, iv (0 : Int32), jv q4, sv, jv q5, sv, jv x3, sv, rv b1153, iv (-1 : Int32), iv (-1 : Int32), iv (-1 : Int32), iv (1 : Int32), jv qq, sv, uv, uv]) rfl k) ?_
  refine Rch.go (U' := T1155.setTop (mkF m 270 #[iv p1, iv p2, iv p3, jv q4, sv, jv q5, sv, iv p6, iv (0 : Int32), jv q4, sv, jv q5, sv, jv x3, sv, rv b1153, iv (-1 : Int32), iv (-1 : Int32), iv (-1 : Int32), iv (1 : Int32), jv qq, sv, uv, uv] [(.int (0 : Int32))])) (fun _ k => XS.iload X1155.here hx rfl (hb hby at_268) rfl  k) ?_
  refine Rch.go (U' := T1155.setTop (mkF m 271 #[iv p1, iv p2, iv p3, jv q4, sv, jv q5, sv, iv p6, iv (0 : Int32), jv q4, sv, jv q5, sv, jv x3, sv, rv b1153, iv (-1 : Int32), iv (-1 : Int32), iv (-1 : Int32), iv (1 : Int32), jv qq, sv, uv, uv] [(.int (1 : Int32)), (.int (0 : Int32))])) (fun _ k => XS.iconst X1155.here hx rfl (hb hby at_270) k) ?_
  have br1164 : (0 : Int32) < (1 : Int32) := (by decide)
  refine Rch.go (U' := T1155.setTop (mkF m 282 #[iv p1, iv p2, iv p3, jv q4, sv, jv q5, sv, iv p6, iv (0 : Int32), jv q4, sv, jv q5, sv, jv x3, sv, rv b1153, iv (-1 : Int32), iv (-1 : Int32), iv (-1 : Int32), iv (1 : Int32), jv qq, sv, uv, uv] [])) (fun _ k => XS.icmpYes X1155.here hx rfl (pc0 := 271) (pc' := 282) rfl (hb hby at_271) rfl (XT.ii_lt_t br1164) (by decide) (by decide) k) ?_
  refine Rch.go (U' := T1155.setTop (mkF m 284 #[iv p1, iv p2, iv p3, jv q4, sv, jv q5, sv, iv p6, iv (0 : Int32), jv q4, sv, jv q5, sv, jv x3, sv, rv b1153, iv (-1 : Int32), iv (-1 : Int32), iv (-1 : Int32), iv (1 : Int32), jv qq, sv, uv, uv] [(.int (0 : Int32))])) (fun _ k => XS.iload X1155.here hx rfl (hb hby at_282) rfl  k) ?_
  refine Rch.go (U' := T1155.setTop (mkF m 285 #[iv p1, iv p2, iv p3, jv q4, sv, jv q5, sv, iv p6, iv (0 : Int32), jv q4, sv, jv q5, sv, jv x3, sv, rv b1153, iv (-1 : Int32), iv (-1 : Int32), iv (-1 : Int32), iv (1 : Int32), jv qq, sv, uv, uv] [(.int (2 : Int32)), (.int (0 : Int32))])) (fun _ k => XS.iconst X1155.here hx rfl (hb hby at_284) k) ?_
  have br1165 : (0 : Int32) < (2 : Int32) := (by decide)
  refine Rch.go (U' := T1155.setTop (mkF m 296 #[iv p1, iv p2, iv p3, jv q4, sv, jv q5, sv, iv p6, iv (0 : Int32), jv q4, sv, jv q5, sv, jv x3, sv, rv b1153, iv (-1 : Int32), iv (-1 : Int32), iv (-1 : Int32), iv (1 : Int32), jv qq, sv, uv, uv] [])) (fun _ k => XS.icmpYes X1155.here hx rfl (pc0 := 285) (pc' := 296) rfl (hb hby at_285) rfl (XT.ii_lt_t br1165) (by decide) (by decide) k) ?_
  refine Rch.go (U' := T1155.setTop (mkF m 298 #[iv p1, iv p2, iv p3, jv q4, sv, jv q5, sv, iv p6, iv (0 : Int32), jv q4, sv, jv q5, sv, jv x3, sv, rv b1153, iv (-1 : Int32), iv (-1 : Int32), iv (-1 : Int32), iv (1 : Int32), jv qq, sv, uv, uv] [(.int (0 : Int32))])) (fun _ k => XS.iload X1155.here hx rfl (hb hby at_296) rfl  k) ?_
  refine Rch.go (U' := T1155.setTop (mkF m 299 #[iv p1, iv p2, iv p3, jv q4, sv, jv q5, sv, iv p6, iv (0 : Int32), jv q4, sv, jv q5, sv, jv x3, sv, rv b1153, iv (-1 : Int32), iv (-1 : Int32), iv (-1 : Int32), iv (1 : Int32), jv qq, sv, uv, uv] [(.int (3 : Int32)), (.int (0 : Int32))])) (fun _ k => XS.iconst X1155.here hx rfl (hb hby at_298) k) ?_
  have br1166 : (0 : Int32) < (3 : Int32) := (by decide)
  refine Rch.go (U' := T1155.setTop (mkF m 314 #[iv p1, iv p2, iv p3, jv q4, sv, jv q5, sv, iv p6, iv (0 : Int32), jv q4, sv, jv q5, sv, jv x3, sv, rv b1153, iv (-1 : Int32), iv (-1 : Int32), iv (-1 : Int32), iv (1 : Int32), jv qq, sv, uv, uv] [])) (fun _ k => XS.icmpYes X1155.here hx rfl (pc0 := 299) (pc' := 314) rfl (hb hby at_299) rfl (XT.ii_lt_t br1166) (by decide) (by decide) k) ?_
  refine Rch.go (U' := T1155.setTop (mkF m 315 #[iv p1, iv p2, iv p3, jv q4, sv, jv q5, sv, iv p6, iv (0 : Int32), jv q4, sv, jv q5, sv, jv x3, sv, rv b1153, iv (-1 : Int32), iv (-1 : Int32), iv (-1 : Int32), iv (1 : Int32), jv qq, sv, uv, uv] [(.int (0 : Int32))])) (fun _ k => XS.iconst X1155.here hx rfl (hb hby at_314) k) ?_
  refine Rch.go (U' := T1155.setTop (mkF m 317 #[iv p1, iv p2, iv p3, jv q4, sv, jv q5, sv, iv p6, iv (0 : Int32), jv q4, sv, jv q5, sv, jv x3, sv, rv b1153, iv (-1 : Int32), iv (-1 : Int32), iv (-1 : Int32), iv (1 : Int32), jv qq, sv, iv (0 : Int32), uv] [])) (fun _ k => XS.istore X1155.here hx rfl (hb hby at_315) rfl (l' := #[iv p1, iv p2, iv p3, jv q4, sv, jv q5, sv, iv p6, iv (0 : Int32), jv q4, sv, jv q5, sv, jv x3, sv, rv b1153, iv (-1 : Int32), iv (-1 : Int32), iv (-1 : Int32), iv (1 : Int32), jv qq, sv, iv (0 : Int32), uv]) rfl k) ?_
  refine Rch.go (U' := T1155.setTop (mkF m 319 #[iv p1, iv p2, iv p3, jv q4, sv, jv q5, sv, iv p6, iv (0 : Int32), jv q4, sv, jv q5, sv, jv x3, sv, rv b1153, iv (-1 : Int32), iv (-1 : Int32), iv (-1 : Int32), iv (1 : Int32), jv qq, sv, iv (0 : Int32), uv] [(.int (0 : Int32))])) (fun _ k => XS.iload X1155.here hx rfl (hb hby at_317) rfl  k) ?_
  have br1167 : (0 : Int32) = (0 : Int32) := (by decide)
  refine Rch.go (U' := T1155.setTop (mkF m 322 #[iv p1, iv p2, iv p3, jv q4, sv, jv q5, sv, iv p6, iv (0 : Int32), jv q4, sv, jv q5, sv, jv x3, sv, rv b1153, iv (-1 : Int32), iv (-1 : Int32), iv (-1 : Int32), iv (1 : Int32), jv qq, sv, iv (0 : Int32), uv] [])) (fun _ k => XS.ifNo X1155.here hx rfl (hb hby at_319) rfl (XT.i0_ne_f br1167) k) ?_
  refine Rch.go (U' := T1155.setTop (mkF m 324 #[iv p1, iv p2, iv p3, jv q4, sv, jv q5, sv, iv p6, iv (0 : Int32), jv q4, sv, jv q5, sv, jv x3, sv, rv b1153, iv (-1 : Int32), iv (-1 : Int32), iv (-1 : Int32), iv (1 : Int32), jv qq, sv, iv (0 : Int32), uv] [(.int p6)])) (fun _ k => XS.iload X1155.here hx rfl (hb hby at_322) rfl  k) ?_
  refine Rch.go (U' := T1155.setTop (mkF m 325 #[iv p1, iv p2, iv p3, jv q4, sv, jv q5, sv, iv p6, iv (0 : Int32), jv q4, sv, jv q5, sv, jv x3, sv, rv b1153, iv (-1 : Int32), iv (-1 : Int32), iv (-1 : Int32), iv (1 : Int32), jv qq, sv, iv (0 : Int32), uv] [(.int (2 : Int32)), (.int p6)])) (fun _ k => XS.iconst X1155.here hx rfl (hb hby at_324) k) ?_
  refine Rch.go (U' := T1155.setTop (mkF m 326 #[iv p1, iv p2, iv p3, jv q4, sv, jv q5, sv, iv p6, iv (0 : Int32), jv q4, sv, jv q5, sv, jv x3, sv, rv b1153, iv (-1 : Int32), iv (-1 : Int32), iv (-1 : Int32), iv (1 : Int32), jv qq, sv, iv (0 : Int32), uv] [(.int (p6 >>> ((2 : Int32) &&& 31)))])) (fun _ k => XS.ishr X1155.here hx rfl (hb hby at_325) rfl k) ?_
  refine Rch.go (U' := T1155.setTop (mkF m 327 #[iv p1, iv p2, iv p3, jv q4, sv, jv q5, sv, iv p6, iv (0 : Int32), jv q4, sv, jv q5, sv, jv x3, sv, rv b1153, iv (-1 : Int32), iv (-1 : Int32), iv (-1 : Int32), iv (1 : Int32), jv qq, sv, iv (0 : Int32), uv] [(.int p3), (.int (p6 >>> ((2 : Int32) &&& 31)))])) (fun _ k => XS.iloadN X1155.here hx rfl (hb hby at_326) rfl  k) ?_
  refine Rch.go (U' := T1155.setTop (mkF m 328 #[iv p1, iv p2, iv p3, jv q4, sv, jv q5, sv, iv p6, iv (0 : Int32), jv q4, sv, jv q5, sv, jv x3, sv, rv b1153, iv (-1 : Int32), iv (-1 : Int32), iv (-1 : Int32), iv (1 : Int32), jv qq, sv, iv (0 : Int32), uv] [(.int ((p6 >>> ((2 : Int32) &&& 31)) ^^^ p3))])) (fun _ k => XS.ixor X1155.here hx rfl (hb hby at_327) rfl k) ?_
  generalize hqh : ((p6 >>> ((2 : Int32) &&& 31)) ^^^ p3) = qh
  refine Rch.go (U' := T1155.setTop (mkF m 330 #[iv p1, iv p2, iv p3, jv q4, sv, jv q5, sv, iv p6, iv (0 : Int32), jv q4, sv, jv q5, sv, jv x3, sv, rv b1153, iv (-1 : Int32), iv (-1 : Int32), iv (-1 : Int32), iv (1 : Int32), jv qq, sv, iv (0 : Int32), iv qh] [])) (fun _ k => XS.istore X1155.here hx rfl (hb hby at_328) rfl (l' := #[iv p1, iv p2, iv p3, jv q4, sv, jv q5, sv, iv p6, iv (0 : Int32), jv q4, sv, jv q5, sv, jv x3, sv, rv b1153, iv (-1 : Int32), iv (-1 : Int32), iv (-1 : Int32), iv (1 : Int32), jv qq, sv, iv (0 : Int32), iv qh]) rfl k) ?_
  refine Rch.go (U' := T1155.setTop (mkF m 332 #[iv p1, iv p2, iv p3, jv q4, sv, jv q5, sv, iv p6, iv (0 : Int32), jv q4, sv, jv q5, sv, jv x3, sv, rv b1153, iv (-1 : Int32), iv (-1 : Int32), iv (-1 : Int32), iv (1 : Int32), jv qq, sv, iv (0 : Int32), iv qh] [(.int (1 : Int32))])) (fun _ k => XS.iload X1155.here hx rfl (hb hby at_330) rfl  k) ?_
  have br1168 : ¬ ((1 : Int32) = (0 : Int32)) := (by decide)
  refine Rch.go (U' := T1155.setTop (mkF m 335 #[iv p1, iv p2, iv p3, jv q4, sv, jv q5, sv, iv p6, iv (0 : Int32), jv q4, sv, jv q5, sv, jv x3, sv, rv b1153, iv (-1 : Int32), iv (-1 : Int32), iv (-1 : Int32), iv (1 : Int32), jv qq, sv, iv (0 : Int32), iv qh] [])) (fun _ k => XS.ifNo X1155.here hx rfl (hb hby at_332) rfl (XT.i0_eq_f br1168) k) ?_
  refine Rch.go (U' := T1155.setTop (mkF m 337 #[iv p1, iv p2, iv p3, jv q4, sv, jv q5, sv, iv p6, iv (0 : Int32), jv q4, sv, jv q5, sv, jv x3, sv, rv b1153, iv (-1 : Int32), iv (-1 : Int32), iv (-1 : Int32), iv (1 : Int32), jv qq, sv, iv (0 : Int32), iv qh] [(.ref b1153)])) (fun _ k => XS.aload X1155.here hx rfl (hb hby at_335) rfl rfl k) ?_
  refine Rch.go (U' := T1155.setTop (mkF m 339 #[iv p1, iv p2, iv p3, jv q4, sv, jv q5, sv, iv p6, iv (0 : Int32), jv q4, sv, jv q5, sv, jv x3, sv, rv b1153, iv (-1 : Int32), iv (-1 : Int32), iv (-1 : Int32), iv (1 : Int32), jv qq, sv, iv (0 : Int32), iv qh] [(.int qh), (.ref b1153)])) (fun _ k => XS.iload X1155.here hx rfl (hb hby at_337) rfl  k) ?_
  refine Rch.go (U' := T1155.setTop (mkF m 341 #[iv p1, iv p2, iv p3, jv q4, sv, jv q5, sv, iv p6, iv (0 : Int32), jv q4, sv, jv q5, sv, jv x3, sv, rv b1153, iv (-1 : Int32), iv (-1 : Int32), iv (-1 : Int32), iv (1 : Int32), jv qq, sv, iv (0 : Int32), iv qh] [(.long qq), (.int qh), (.ref b1153)])) (fun _ k => XS.lload X1155.here hx rfl (hb hby at_339) rfl  k) ?_
  obtain ⟨cq1169, kq1169, q1169a, q1169b, q1169c⟩ := isOf hZ rfl f1157
  obtain ⟨_, _, ⟨T1169, L1169, k1169, n1169⟩, -, X1169, ⟨Lc1169, hQ1169, l1169, y1169, z1169⟩, st1169⟩ := X1155.virtualBack hx (y := yF) (z := yF) hown (mvT hZ (wi hw 60 rfl)) (mvT hZ (wi hw 61 rfl)) (notFace_of_selects (args := #[]) (mvT hZ (wi hw 63 rfl))) (mvT hZ (wi hw 63 rfl)) (mvT hZ (wi hw 62 rfl)) (by decide) (backOf (W := 0) (rmF0 l Z a0 hw [] b1153 qh qq T1155.heap n0 z1156 F1155_count) hZ (wi hw 64 rfl) (wi hw 2 rfl) (by decide) (by decide)) q1169a q1169c (g := (mkF m 341 #[iv p1, iv p2, iv p3, jv q4, sv, jv q5, sv, iv p6, iv (0 : Int32), jv q4, sv, jv q5, sv, jv x3, sv, rv b1153, iv (-1 : Int32), iv (-1 : Int32), iv (-1 : Int32), iv (1 : Int32), jv qq, sv, iv (0 : Int32), iv qh] [(.long qq), (.int qh), (.ref b1153)])) rfl (by rw [hml]; rfl) (Steps.refl _) (argsL := [(.int qh), (.long qq)]) (rest := []) (lenOf pd_15 rfl) rfl (by show 2 * 0 + _ ≤ _; exact Nat.le_of_eq rfl) (hb hby at_341) (fun _ _ => ⟨rfl, rfl, (by decide : 1 + 0 ≤ _), (by decide : 12 + 0 ≤ _)⟩)
  dsimp only [Pt.U, Pt.locs, Pt.cells, Pt.slots] at X1169 l1169 y1169 z1169 st1169 hQ1169
  subst l1169 y1169 z1169
  obtain ⟨rfl, N1169q, e1169⟩ := hQ1169
  have N1169 := Fr.app N1155 N1169q
  refine Rch.to (U' := T1169.setTop (mkF m 344 #[iv p1, iv p2, iv p3, jv q4, sv, jv q5, sv, iv p6, iv (0 : Int32), jv q4, sv, jv q5, sv, jv x3, sv, rv b1153, iv (-1 : Int32), iv (-1 : Int32), iv (-1 : Int32), iv (1 : Int32), jv qq, sv, iv (0 : Int32), iv qh] [(.int (-1 : Int32))])) st1169 ?_
  refine Rch.go (U' := T1169.setTop (mkF m 345 #[iv p1, iv p2, iv p3, jv q4, sv, jv q5, sv, iv p6, iv (0 : Int32), jv q4, sv, jv q5, sv, jv x3, sv, rv b1153, iv (-1 : Int32), iv (-1 : Int32), iv (-1 : Int32), iv (1 : Int32), jv qq, sv, iv (0 : Int32), iv qh] [(.int (-1 : Int32)), (.int (-1 : Int32))])) (fun _ k => XS.iconst X1169.here hx rfl (hb hby at_344) k) ?_
  have br1170 : (-1 : Int32) = (-1 : Int32) := (by decide)
  refine Rch.go (U' := T1169.setTop (mkF m 348 #[iv p1, iv p2, iv p3, jv q4, sv, jv q5, sv, iv p6, iv (0 : Int32), jv q4, sv, jv q5, sv, jv x3, sv, rv b1153, iv (-1 : Int32), iv (-1 : Int32), iv (-1 : Int32), iv (1 : Int32), jv qq, sv, iv (0 : Int32), iv qh] [])) (fun _ k => XS.icmpNo X1169.here hx rfl (hb hby at_345) rfl (XT.ii_ne_f br1170) k) ?_
  refine Rch.go (U' := T1169.setTop (mkF m 349 #[iv p1, iv p2, iv p3, jv q4, sv, jv q5, sv, iv p6, iv (0 : Int32), jv q4, sv, jv q5, sv, jv x3, sv, rv b1153, iv (-1 : Int32), iv (-1 : Int32), iv (-1 : Int32), iv (1 : Int32), jv qq, sv, iv (0 : Int32), iv qh] [(.int (1 : Int32))])) (fun _ k => XS.iconst X1169.here hx rfl (hb hby at_348) k) ?_
  refine Rch.go (U' := T1169.setTop (mkF m 353 #[iv p1, iv p2, iv p3, jv q4, sv, jv q5, sv, iv p6, iv (0 : Int32), jv q4, sv, jv q5, sv, jv x3, sv, rv b1153, iv (-1 : Int32), iv (-1 : Int32), iv (-1 : Int32), iv (1 : Int32), jv qq, sv, iv (0 : Int32), iv qh] [(.int (1 : Int32))])) (fun _ k => XS.goto X1169.here hx rfl (pc0 := 349) (pc' := 353) rfl (hb hby at_349) (by decide) (by decide) k) ?_
  refine Rch.go (U' := T1169.setTop (mkF m 355 #[iv p1, iv p2, iv p3, jv q4, sv, jv q5, sv, iv p6, iv (0 : Int32), jv q4, sv, jv q5, sv, jv x3, sv, rv b1153, iv (-1 : Int32), iv (-1 : Int32), iv (-1 : Int32), iv (1 : Int32), jv qq, sv, iv (0 : Int32), iv qh] [])) (fun _ k => XS.istore X1169.here hx rfl (hb hby at_353) rfl (l' := #[iv p1, iv p2, iv p3, jv q4, sv, jv q5, sv, iv p6, iv (0 : Int32), jv q4, sv, jv q5, sv, jv x3, sv, rv b1153, iv (-1 : Int32), iv (-1 : Int32), iv (-1 : Int32), iv (1 : Int32), jv qq, sv, iv (0 : Int32), iv qh]) rfl k) ?_
  refine Rch.go (U' := T1169.setTop (mkF m 357 #[iv p1, iv p2, iv p3, jv q4, sv, jv q5, sv, iv p6, iv (0 : Int32), jv q4, sv, jv q5, sv, jv x3, sv, rv b1153, iv (-1 : Int32), iv (-1 : Int32), iv (-1 : Int32), iv (1 : Int32), jv qq, sv, iv (0 : Int32), iv qh] [(.int (1 : Int32))])) (fun _ k => XS.iload X1169.here hx rfl (hb hby at_355) rfl  k) ?_
  refine Rch.fin X1169 hlk (v := some (.int (nar .boolean (1 : Int32)))) (fun h => by rw [hret] at h; cases h) e1169 (by decide) (by decide) (fun fs hr => retN X1169 hx (t := .boolean) hret (by simp) (hb hby at_357) hr) ?_
  exact ⟨rfl, N1169⟩
set_option maxRecDepth 65536 in
set_option maxHeartbeats 40000000 in
theorem cut19_1 {p : Program} {l : Launch} {e : Env} {s : State} {m : MethodId} {args : Array Value} {below : List Frame} {meth : Method} {c : Code} {T0 : State} {locs : List Loc} {Z : State} {a0 : Array Value} {h0 : Heap} {n0 : Nat}  (p1 : Int32) (p2 : Int32) (p3 : Int32) (q4 : Int64) (q5 : Int64) (p6 : Int32) (x3 : Int64)
    (X0 : Stand p l e room_1 s m args below meth c T0 locs 0 0) (hx : p.tables.exec = Jvm.exec) (hZ : Z.Warmed39 s.vm) (hw : ∀ d ∈ tables_1, d.before a0 Z = true) (hby : c.code = code) (hml : c.maxLocals = 24) (hown : s.vm.findClass cLW = some m.cls) (hret : meth.sig.returnType = some .boolean) (hlk : meth.locks = false) (e0 : T0.heap = h0) (N0 : Fr n0 locs) (Z0 : n0 ≤ h0.size)  :
    Rch p e below (Fin s below (fun v h L => v = some (.int 1) ∧ Fr n0 L) 16 128) (T0.setTop (mkF m 19 #[iv p1, iv p2, iv p3, jv q4, sv, jv q5, sv, iv p6, iv (1 : Int32), jv q4, sv, jv q5, sv, jv x3, sv, uv, uv, uv, uv, uv, uv, uv, uv, uv] [])) := by
  refine Rch.go (U' := T0.setTop (mkF m 21 #[iv p1, iv p2, iv p3, jv q4, sv, jv q5, sv, iv p6, iv (1 : Int32), jv q4, sv, jv q5, sv, jv x3, sv, uv, uv, uv, uv, uv, uv, uv, uv, uv] [(.int (1 : Int32))])) (fun _ k => XS.iload X0.here hx rfl (hb hby at_19) rfl  k) ?_
  refine Rch.go (U' := T0.setTop (mkF m 22 #[iv p1, iv p2, iv p3, jv q4, sv, jv q5, sv, iv p6, iv (1 : Int32), jv q4, sv, jv q5, sv, jv x3, sv, uv, uv, uv, uv, uv, uv, uv, uv, uv] [(.int (1 : Int32)), (.int (1 : Int32))])) (fun _ k => XS.iconst X0.here hx rfl (hb hby at_21) k) ?_
  have br1171 : ¬ ((1 : Int32) < (1 : Int32)) := (by decide)
  refine Rch.go (U' := T0.setTop (mkF m 25 #[iv p1, iv p2, iv p3, jv q4, sv, jv q5, sv, iv p6, iv (1 : Int32), jv q4, sv, jv q5, sv, jv x3, sv, uv, uv, uv, uv, uv, uv, uv, uv, uv] [])) (fun _ k => XS.icmpNo X0.here hx rfl (hb hby at_22) rfl (XT.ii_lt_f br1171) k) ?_
  refine Rch.go (U' := T0.setTop (mkF m 27 #[iv p1, iv p2, iv p3, jv q4, sv, jv q5, sv, iv p6, iv (1 : Int32), jv q4, sv, jv q5, sv, jv x3, sv, uv, uv, uv, uv, uv, uv, uv, uv, uv] [(.long q4)])) (fun _ k => XS.lload X0.here hx rfl (hb hby at_25) rfl  k) ?_
  refine Rch.go (U' := T0.setTop (mkF m 28 #[iv p1, iv p2, iv p3, jv q4, sv, jv q5, sv, iv p6, iv (1 : Int32), jv q4, sv, jv q5, sv, jv x3, sv, uv, uv, uv, uv, uv, uv, uv, uv, uv] [(.long (0 : Int64)), (.long q4)])) (fun _ k => XS.lconst X0.here hx rfl (hb hby at_27) k) ?_
  refine Rch.go (U' := T0.setTop (mkF m 29 #[iv p1, iv p2, iv p3, jv q4, sv, jv q5, sv, iv p6, iv (1 : Int32), jv q4, sv, jv q5, sv, jv x3, sv, uv, uv, uv, uv, uv, uv, uv, uv, uv] [(.int (XT.cmpL q4 (0 : Int64)))])) (fun _ k => XT.lcmp X0.here hx rfl (hb hby at_28) rfl k) ?_
  by_cases br1172 : q4 = (0 : Int64)
  ·
    refine Rch.go (U' := T0.setTop (mkF m 32 #[iv p1, iv p2, iv p3, jv q4, sv, jv q5, sv, iv p6, iv (1 : Int32), jv q4, sv, jv q5, sv, jv x3, sv, uv, uv, uv, uv, uv, uv, uv, uv, uv] [])) (fun _ k => XS.ifNo X0.here hx rfl (hb hby at_29) rfl (XT.ll_ne_f br1172) k) ?_
    refine Rch.go (U' := T0.setTop (mkF m 33 #[iv p1, iv p2, iv p3, jv q4, sv, jv q5, sv, iv p6, iv (1 : Int32), jv q4, sv, jv q5, sv, jv x3, sv, uv, uv, uv, uv, uv, uv, uv, uv, uv] [(.int (1 : Int32))])) (fun _ k => XS.iconst X0.here hx rfl (hb hby at_32) k) ?_
    refine Rch.fin X0 hlk (v := some (.int (nar .boolean (1 : Int32)))) (fun h => by rw [hret] at h; cases h) e0 (by decide) (by decide) (fun fs hr => retN X0 hx (t := .boolean) hret (by simp) (hb hby at_33) hr) ?_
    exact ⟨rfl, N0⟩
  ·
    refine Rch.go (U' := T0.setTop (mkF m 34 #[iv p1, iv p2, iv p3, jv q4, sv, jv q5, sv, iv p6, iv (1 : Int32), jv q4, sv, jv q5, sv, jv x3, sv, uv, uv, uv, uv, uv, uv, uv, uv, uv] [])) (fun _ k => XS.ifYes X0.here hx rfl (pc0 := 29) (pc' := 34) rfl (hb hby at_29) rfl (XT.ll_ne_t br1172) (by decide) (by decide) k) ?_
    refine Rch.go (U' := T0.setTop (mkF m 36 #[iv p1, iv p2, iv p3, jv q4, sv, jv q5, sv, iv p6, iv (1 : Int32), jv q4, sv, jv q5, sv, jv x3, sv, uv, uv, uv, uv, uv, uv, uv, uv, uv] [(.int (1 : Int32))])) (fun _ k => XS.iload X0.here hx rfl (hb hby at_34) rfl  k) ?_
    refine Rch.go (U' := T0.setTop (mkF m 37 #[iv p1, iv p2, iv p3, jv q4, sv, jv q5, sv, iv p6, iv (1 : Int32), jv q4, sv, jv q5, sv, jv x3, sv, uv, uv, uv, uv, uv, uv, uv, uv, uv] [(.int (2 : Int32)), (.int (1 : Int32))])) (fun _ k => XS.iconst X0.here hx rfl (hb hby at_36) k) ?_
    have br1173 : (1 : Int32) < (2 : Int32) := (by decide)
    refine Rch.go (U' := T0.setTop (mkF m 57 #[iv p1, iv p2, iv p3, jv q4, sv, jv q5, sv, iv p6, iv (1 : Int32), jv q4, sv, jv q5, sv, jv x3, sv, uv, uv, uv, uv, uv, uv, uv, uv, uv] [])) (fun _ k => XS.icmpYes X0.here hx rfl (pc0 := 37) (pc' := 57) rfl (hb hby at_37) rfl (XT.ii_lt_t br1173) (by decide) (by decide) k) ?_
    refine Rch.go (U' := T0.setTop (mkF m 59 #[iv p1, iv p2, iv p3, jv q4, sv, jv q5, sv, iv p6, iv (1 : Int32), jv q4, sv, jv q5, sv, jv x3, sv, uv, uv, uv, uv, uv, uv, uv, uv, uv] [(.int (1 : Int32))])) (fun _ k => XS.iload X0.here hx rfl (hb hby at_57) rfl  k) ?_
    refine Rch.go (U' := T0.setTop (mkF m 60 #[iv p1, iv p2, iv p3, jv q4, sv, jv q5, sv, iv p6, iv (1 : Int32), jv q4, sv, jv q5, sv, jv x3, sv, uv, uv, uv, uv, uv, uv, uv, uv, uv] [(.int (3 : Int32)), (.int (1 : Int32))])) (fun _ k => XS.iconst X0.here hx rfl (hb hby at_59) k) ?_
    have br1174 : (1 : Int32) < (3 : Int32) := (by decide)
    refine Rch.go (U' := T0.setTop (mkF m 88 #[iv p1, iv p2, iv p3, jv q4, sv, jv q5, sv, iv p6, iv (1 : Int32), jv q4, sv, jv q5, sv, jv x3, sv, uv, uv, uv, uv, uv, uv, uv, uv, uv] [])) (fun _ k => XS.icmpYes X0.here hx rfl (pc0 := 60) (pc' := 88) rfl (hb hby at_60) rfl (XT.ii_lt_t br1174) (by decide) (by decide) k) ?_
    obtain ⟨T1175, h1175, X1175, e1175, E1175, A1175, D1175, -, st1175⟩ := newO X0 hx hZ hown (wi hw 0 rfl) (wi hw 1 rfl) (wi hw 2 rfl) e0 (g := (mkF m 88 #[iv p1, iv p2, iv p3, jv q4, sv, jv q5, sv, iv p6, iv (1 : Int32), jv q4, sv, jv q5, sv, jv x3, sv, uv, uv, uv, uv, uv, uv, uv, uv, uv] [])) rfl (hb hby at_88) (by decide) (by decide)
    obtain ⟨b1175, g1175⟩ : ∃ z, z = h0.size := ⟨_, rfl⟩
    rw [← g1175] at A1175 D1175 st1175
    have n0b1175 : n0 ≤ b1175 := Nat.le_trans Z0 (Nat.le_of_eq g1175.symm)
    have z1176 := Nat.le_trans Z0 E1175.1
    have F1175_earliest : Fld Z h1175 b1175 cST "earliest" "J" (.long (0 : Int64)) := D1175 (Or.inl (wi hw 11 rfl)) (ty := .long) (by decide)
    have F1175_earliestOfWalk : Fld Z h1175 b1175 cST "earliestOfWalk" "J" (.long (0 : Int64)) := D1175 (Or.inl (wi hw 13 rfl)) (ty := .long) (by decide)
    have F1175_count : Fld Z h1175 b1175 cST "count" "I" (.int (0 : Int32)) := D1175 (Or.inl (wi hw 20 rfl)) (ty := .int) (by decide)
    have F1175_handles : Fld Z h1175 b1175 cST "handles" "[J" .null := D1175 (Or.inl (wi hw 27 rfl)) (ty := (.array .long)) (by decide)
    have F1175_hashes : Fld Z h1175 b1175 cST "hashes" "[I" .null := D1175 (Or.inl (wi hw 37 rfl)) (ty := (.array .int)) (by decide)
    have F1175_lengths : Fld Z h1175 b1175 cST "lengths" "[I" .null := D1175 (Or.inl (wi hw 39 rfl)) (ty := (.array .int)) (by decide)
    have F1175_outside : Fld Z h1175 b1175 cST "outside" "[[B" .null := D1175 (Or.inl (wi hw 41 rfl)) (ty := (.array (.array .byte))) (by decide)
    have F1175_marks : Fld Z h1175 b1175 cST "marks" "Ljava/util/BitSet;" .null := D1175 (Or.inl (wi hw 43 rfl)) (ty := (.object "java/util/BitSet")) (by decide)
    have F1175_expiries : Fld Z h1175 b1175 cST "expiries" "Ljava/util/BitSet;" .null := D1175 (Or.inl (wi hw 45 rfl)) (ty := (.object "java/util/BitSet")) (by decide)
    have F1175_moves : Fld Z h1175 b1175 cST "moves" "J" (.long (0 : Int64)) := D1175 (Or.inl (wi hw 49 rfl)) (ty := .long) (by decide)
    have F1175_expiring : Fld Z h1175 b1175 cST "expiring" "I" (.int (0 : Int32)) := D1175 (Or.inl (wi hw 66 rfl)) (ty := .int) (by decide)
    refine Rch.go (U' := T1175.setTop (mkF m 91 #[iv p1, iv p2, iv p3, jv q4, sv, jv q5, sv, iv p6, iv (1 : Int32), jv q4, sv, jv q5, sv, jv x3, sv, uv, uv, uv, uv, uv, uv, uv, uv, uv] [(.ref b1175)])) st1175 ?_
    refine Rch.go (U' := T1175.setTop (mkF m 92 #[iv p1, iv p2, iv p3, jv q4, sv, jv q5, sv, iv p6, iv (1 : Int32), jv q4, sv, jv q5, sv, jv x3, sv, uv, uv, uv, uv, uv, uv, uv, uv, uv] [(.ref b1175), (.ref b1175)])) (fun _ k => XS.dup X1175.here hx rfl (hb hby at_91) rfl rfl k) ?_
    obtain ⟨_, _, ⟨T1177, L1177, k1177, n1177⟩, -, X1177, ⟨Lc1177, hQ1177, l1177, y1177, z1177⟩, st1177⟩ := X1175.specialBack hx (y := yN) rfl hown (mvT hZ (wi hw 3 rfl)) (mvT hZ (wi hw 4 rfl)) (mvT hZ (wi hw 5 rfl)) (by decide) (backOf (W := 1) (rmNew l Z a0 hw [] b1175 (0 : Int64) (0 : Int64) (0 : Int32) (0 : Int64) (0 : Int32) h1175 n0 z1176 A1175 F1175_earliest F1175_earliestOfWalk F1175_count F1175_handles F1175_hashes F1175_lengths F1175_outside F1175_marks F1175_expiries F1175_moves F1175_expiring n0b1175) hZ (wi hw 5 rfl) (wi hw 2 rfl) (by decide) (by decide)) (g := (mkF m 92 #[iv p1, iv p2, iv p3, jv q4, sv, jv q5, sv, iv p6, iv (1 : Int32), jv q4, sv, jv q5, sv, jv x3, sv, uv, uv, uv, uv, uv, uv, uv, uv, uv] [(.ref b1175), (.ref b1175)])) rfl (by rw [hml]; rfl) (Steps.refl _) (a := b1175) (argsL := []) (rest := [(.ref b1175)]) (lenOf pd_13 rfl) rfl (by show 2 * 0 + _ ≤ _; exact Nat.le_of_eq rfl) (hb hby at_92) (fun _ _ => ⟨rfl, e1175, (by decide : 1 + 0 ≤ _), (by decide : 12 + 0 ≤ _)⟩)
    dsimp only [Pt.U, Pt.locs, Pt.cells, Pt.slots] at X1177 l1177 y1177 z1177 st1177 hQ1177
    subst l1177 y1177 z1177
    obtain ⟨rfl, N1177q, K1177q, F1177_earliest, F1177_earliestOfWalk, F1177_count, F1177_handles, F1177_hashes, F1177_lengths, F1177_outside, F1177_marks, F1177_expiries, F1177_moves, F1177_expiring⟩ := hQ1177
    have N1177 := Fr.app N0 N1177q
    have z1178 := Nat.le_trans z1176 K1177q.1
    have f1179 := A1175.keep K1177q
    refine Rch.to (U' := T1177.setTop (mkF m 95 #[iv p1, iv p2, iv p3, jv q4, sv, jv q5, sv, iv p6, iv (1 : Int32), jv q4, sv, jv q5, sv, jv x3, sv, uv, uv, uv, uv, uv, uv, uv, uv, uv] [(.ref b1175)])) st1177 ?_
    refine Rch.go (U' := T1177.setTop (mkF m 97 #[iv p1, iv p2, iv p3, jv q4, sv, jv q5, sv, iv p6, iv (1 : Int32), jv q4, sv, jv q5, sv, jv x3, sv, rv b1175, uv, uv, uv, uv, uv, uv, uv, uv] [])) (fun _ k => XS.astore X1177.here hx rfl (hb hby at_95) rfl rfl (l' := #[iv p1, iv p2, iv p3, jv q4, sv, jv q5, sv, iv p6, iv (1 : Int32), jv q4, sv, jv q5, sv, jv x3, sv, rv b1175, uv, uv, uv, uv, uv, uv, uv, uv]) rfl k) ?_
    refine Rch.go (U' := T1177.setTop (mkF m 98 #[iv p1, iv p2, iv p3, jv q4, sv, jv q5, sv, iv p6, iv (1 : Int32), jv q4, sv, jv q5, sv, jv x3, sv, rv b1175, uv, uv, uv, uv, uv, uv, uv, uv] [(.int (-1 : Int32))])) (fun _ k => XS.iconst X1177.here hx rfl (hb hby at_97) k) ?_
    refine Rch.go (U' := T1177.setTop (mkF m 100 #[iv p1, iv p2, iv p3, jv q4, sv, jv q5, sv, iv p6, iv (1 : Int32), jv q4, sv, jv q5, sv, jv x3, sv, rv b1175, iv (-1 : Int32), uv, uv, uv, uv, uv, uv, uv] [])) (fun _ k => XS.istore X1177.here hx rfl (hb hby at_98) rfl (l' := #[iv p1, iv p2, iv p3, jv q4, sv, jv q5, sv, iv p6, iv (1 : Int32), jv q4, sv, jv q5, sv, jv x3, sv, rv b1175, iv (-1 : Int32), uv, uv, uv, uv, uv, uv, uv]) rfl k) ?_
    refine Rch.go (U' := T1177.setTop (mkF m 101 #[iv p1, iv p2, iv p3, jv q4, sv, jv q5, sv, iv p6, iv (1 : Int32), jv q4, sv, jv q5, sv, jv x3, sv, rv b1175, iv (-1 : Int32), uv, uv, uv, uv, uv, uv, uv] [(.int (-1 : Int32))])) (fun _ k => XS.iconst X1177.here hx rfl (hb hby at_100) k) ?_
    refine Rch.go (U' := T1177.setTop (mkF m 103 #[iv p1, iv p2, iv p3, jv q4, sv, jv q5, sv, iv p6, iv (1 : Int32), jv q4, sv, jv q5, sv, jv x3, sv, rv b1175, iv (-1 : Int32), iv (-1 : Int32), uv, uv, uv, uv, uv, uv] [])) (fun _ k => XS.istore X1177.here hx rfl (hb hby at_101) rfl (l' := #[iv p1, iv p2, iv p3, jv q4, sv, jv q5, sv, iv p6, iv (1 : Int32), jv q4, sv, jv q5, sv, jv x3, sv, rv b1175, iv (-1 : Int32), iv (-1 : Int32), uv, uv, uv, uv, uv, uv]) rfl k) ?_
    refine Rch.go (U' := T1177.setTop (mkF m 104 #[iv p1, iv p2, iv p3, jv q4, sv, jv q5, sv, iv p6, iv (1 : Int32), jv q4, sv, jv q5, sv, jv x3, sv, rv b1175, iv (-1 : Int32), iv (-1 : Int32), uv, uv, uv, uv, uv, uv] [(.int (-1 : Int32))])) (fun _ k => XS.iconst X1177.here hx rfl (hb hby at_103) k) ?_
    refine Rch.go (U' := T1177.setTop (mkF m 106 #[iv p1, iv p2, iv p3, jv q4, sv, jv q5, sv, iv p6, iv (1 : Int32), jv q4, sv, jv q5, sv, jv x3, sv, rv b1175, iv (-1 : Int32), iv (-1 : Int32), iv (-1 : Int32), uv, uv, uv, uv, uv] [])) (fun _ k => XS.istore X1177.here hx rfl (hb hby at_104) rfl (l' := #[iv p1, iv p2, iv p3, jv q4, sv, jv q5, sv, iv p6, iv (1 : Int32), jv q4, sv, jv q5, sv, jv x3, sv, rv b1175, iv (-1 : Int32), iv (-1 : Int32), iv (-1 : Int32), uv, uv, uv, uv, uv]) rfl k) ?_
    refine Rch.go (U' := T1177.setTop (mkF m 108 #[iv p1, iv p2, iv p3, jv q4, sv, jv q5, sv, iv p6, iv (1 : Int32), jv q4, sv, jv q5, sv, jv x3, sv, rv b1175, iv (-1 : Int32), iv (-1 : Int32), iv (-1 : Int32), uv, uv, uv, uv, uv] [(.int (1 : Int32))])) (fun _ k => XS.iload X1177.here hx rfl (hb hby at_106) rfl  k) ?_
    refine Rch.go (U' := T1177.setTop (mkF m 109 #[iv p1, iv p2, iv p3, jv q4, sv, jv q5, sv, iv p6, iv (1 : Int32), jv q4, sv, jv q5, sv, jv x3, sv, rv b1175, iv (-1 : Int32), iv (-1 : Int32), iv (-1 : Int32), uv, uv, uv, uv, uv] [(.int (1 : Int32)), (.int (1 : Int32))])) (fun _ k => XS.iconst X1177.here hx rfl (hb hby at_108) k) ?_
    have br1180 : ¬ ((1 : Int32) < (1 : Int32)) := (by decide)
    refine Rch.go (U' := T1177.setTop (mkF m 112 #[iv p1, iv p2, iv p3, jv q4, sv, jv q5, sv, iv p6, iv (1 : Int32), jv q4, sv, jv q5, sv, jv x3, sv, rv b1175, iv (-1 : Int32), iv (-1 : Int32), iv (-1 : Int32), uv, uv, uv, uv, uv] [])) (fun _ k => XS.icmpNo X1177.here hx rfl (hb hby at_109) rfl (XT.ii_lt_f br1180) k) ?_
    refine Rch.go (U' := T1177.setTop (mkF m 114 #[iv p1, iv p2, iv p3, jv q4, sv, jv q5, sv, iv p6, iv (1 : Int32), jv q4, sv, jv q5, sv, jv x3, sv, rv b1175, iv (-1 : Int32), iv (-1 : Int32), iv (-1 : Int32), uv, uv, uv, uv, uv] [(.ref b1175)])) (fun _ k => XS.aload X1177.here hx rfl (hb hby at_112) rfl rfl k) ?_
    refine Rch.go (U' := T1177.setTop (mkF m 115 #[iv p1, iv p2, iv p3, jv q4, sv, jv q5, sv, iv p6, iv (1 : Int32), jv q4, sv, jv q5, sv, jv x3, sv, rv b1175, iv (-1 : Int32), iv (-1 : Int32), iv (-1 : Int32), uv, uv, uv, uv, uv] [(.int p1), (.ref b1175)])) (fun _ k => XS.iloadN X1177.here hx rfl (hb hby at_114) rfl  k) ?_
    refine Rch.go (U' := T1177.setTop (mkF m 117 #[iv p1, iv p2, iv p3, jv q4, sv, jv q5, sv, iv p6, iv (1 : Int32), jv q4, sv, jv q5, sv, jv x3, sv, rv b1175, iv (-1 : Int32), iv (-1 : Int32), iv (-1 : Int32), uv, uv, uv, uv, uv] [(.long q4), (.int p1), (.ref b1175)])) (fun _ k => XS.lload X1177.here hx rfl (hb hby at_115) rfl  k) ?_
    refine Rch.go (U' := T1177.setTop (mkF m 119 #[iv p1, iv p2, iv p3, jv q4, sv, jv q5, sv, iv p6, iv (1 : Int32), jv q4, sv, jv q5, sv, jv x3, sv, rv b1175, iv (-1 : Int32), iv (-1 : Int32), iv (-1 : Int32), uv, uv, uv, uv, uv] [(.int (16 : Int32)), (.long q4), (.int p1), (.ref b1175)])) (fun _ k => XS.bipush X1177.here hx rfl (hb hby at_117) k) ?_
    refine Rch.go (U' := T1177.setTop (mkF m 120 #[iv p1, iv p2, iv p3, jv q4, sv, jv q5, sv, iv p6, iv (1 : Int32), jv q4, sv, jv q5, sv, jv x3, sv, rv b1175, iv (-1 : Int32), iv (-1 : Int32), iv (-1 : Int32), uv, uv, uv, uv, uv] [.null, (.int (16 : Int32)), (.long q4), (.int p1), (.ref b1175)])) (fun _ k => XS.aconstNull X1177.here hx rfl (hb hby at_119) k) ?_
    refine Rch.go (U' := T1177.setTop (mkF m 121 #[iv p1, iv p2, iv p3, jv q4, sv, jv q5, sv, iv p6, iv (1 : Int32), jv q4, sv, jv q5, sv, jv x3, sv, rv b1175, iv (-1 : Int32), iv (-1 : Int32), iv (-1 : Int32), uv, uv, uv, uv, uv] [(.int (0 : Int32)), .null, (.int (16 : Int32)), (.long q4), (.int p1), (.ref b1175)])) (fun _ k => XS.iconst X1177.here hx rfl (hb hby at_120) k) ?_
    obtain ⟨cq1181, kq1181, q1181a, q1181b, q1181c⟩ := isOf hZ rfl f1179
    obtain ⟨_, _, ⟨T1181, L1181, k1181, n1181⟩, -, X1181, ⟨Lc1181, hQ1181, l1181, y1181, z1181⟩, st1181⟩ := X1177.virtualBack hx (y := yA) (z := yA) hown (mvT hZ (wi hw 14 rfl)) (mvT hZ (wi hw 15 rfl)) (notFace_of_selects (args := #[]) (mvT hZ (wi hw 17 rfl))) (mvT hZ (wi hw 17 rfl)) (mvT hZ (wi hw 16 rfl)) (by decide) (backOf (W := 0) (rmAE l Z a0 hw [] b1175 (0 : Int64) p1 q4 (16 : Int32) T1177.heap n0 z1178 f1179 F1177_count F1177_handles F1177_hashes F1177_lengths F1177_outside F1177_marks F1177_expiries F1177_moves n0b1175) hZ (wi hw 18 rfl) (wi hw 2 rfl) (by decide) (by decide)) q1181a q1181c (g := (mkF m 121 #[iv p1, iv p2, iv p3, jv q4, sv, jv q5, sv, iv p6, iv (1 : Int32), jv q4, sv, jv q5, sv, jv x3, sv, rv b1175, iv (-1 : Int32), iv (-1 : Int32), iv (-1 : Int32), uv, uv, uv, uv, uv] [(.int (0 : Int32)), .null, (.int (16 : Int32)), (.long q4), (.int p1), (.ref b1175)])) rfl (by rw [hml]; rfl) (Steps.refl _) (argsL := [(.int p1), (.long q4), (.int (16 : Int32)), .null, (.int (0 : Int32))]) (rest := []) (lenOf pd_14 rfl) rfl (by show 2 * 0 + _ ≤ _; exact Nat.le_of_eq rfl) (hb hby at_121) (fun _ _ => ⟨rfl, rfl, (by decide : 1 + 3 ≤ _), (by decide : 12 + 12 ≤ _)⟩)
    dsimp only [Pt.U, Pt.locs, Pt.cells, Pt.slots] at X1181 l1181 y1181 z1181 st1181 hQ1181
    subst l1181 y1181 z1181
    obtain ⟨bh, ba, bl, kh, ka, kl, va1181, vl1181, rfl, N1181q, z1181, B1181⟩ := hQ1181
    have N1181 := Fr.app N1177 N1181q
    refine Rch.to (U' := T1181.setTop (mkF m 124 #[iv p1, iv p2, iv p3, jv q4, sv, jv q5, sv, iv p6, iv (1 : Int32), jv q4, sv, jv q5, sv, jv x3, sv, rv b1175, iv (-1 : Int32), iv (-1 : Int32), iv (-1 : Int32), uv, uv, uv, uv, uv] [(.int (Int32.ofNat (own_free own_g0 4 (own_s p1))))])) st1181 ?_
    refine Rch.go (U' := T1181.setTop (mkF m 126 #[iv p1, iv p2, iv p3, jv q4, sv, jv q5, sv, iv p6, iv (1 : Int32), jv q4, sv, jv q5, sv, jv x3, sv, rv b1175, iv (Int32.ofNat (own_free own_g0 4 (own_s p1))), iv (-1 : Int32), iv (-1 : Int32), uv, uv, uv, uv, uv] [])) (fun _ k => XS.istore X1181.here hx rfl (hb hby at_124) rfl (l' := #[iv p1, iv p2, iv p3, jv q4, sv, jv q5, sv, iv p6, iv (1 : Int32), jv q4, sv, jv q5, sv, jv x3, sv, rv b1175, iv (Int32.ofNat (own_free own_g0 4 (own_s p1))), iv (-1 : Int32), iv (-1 : Int32), uv, uv, uv, uv, uv]) rfl k) ?_
    refine Rch.go (U' := T1181.setTop (mkF m 128 #[iv p1, iv p2, iv p3, jv q4, sv, jv q5, sv, iv p6, iv (1 : Int32), jv q4, sv, jv q5, sv, jv x3, sv, rv b1175, iv (Int32.ofNat (own_free own_g0 4 (own_s p1))), iv (-1 : Int32), iv (-1 : Int32), uv, uv, uv, uv, uv] [(.int (1 : Int32))])) (fun _ k => XS.iload X1181.here hx rfl (hb hby at_126) rfl  k) ?_
    refine Rch.go (U' := T1181.setTop (mkF m 129 #[iv p1, iv p2, iv p3, jv q4, sv, jv q5, sv, iv p6, iv (1 : Int32), jv q4, sv, jv q5, sv, jv x3, sv, rv b1175, iv (Int32.ofNat (own_free own_g0 4 (own_s p1))), iv (-1 : Int32), iv (-1 : Int32), uv, uv, uv, uv, uv] [(.int (2 : Int32)), (.int (1 : Int32))])) (fun _ k => XS.iconst X1181.here hx rfl (hb hby at_128) k) ?_
    have br1182 : (1 : Int32) < (2 : Int32) := (by decide)
    refine Rch.go (U' := T1181.setTop (mkF m 146 #[iv p1, iv p2, iv p3, jv q4, sv, jv q5, sv, iv p6, iv (1 : Int32), jv q4, sv, jv q5, sv, jv x3, sv, rv b1175, iv (Int32.ofNat (own_free own_g0 4 (own_s p1))), iv (-1 : Int32), iv (-1 : Int32), uv, uv, uv, uv, uv] [])) (fun _ k => XS.icmpYes X1181.here hx rfl (pc0 := 129) (pc' := 146) rfl (hb hby at_129) rfl (XT.ii_lt_t br1182) (by decide) (by decide) k) ?_
    refine Rch.go (U' := T1181.setTop (mkF m 148 #[iv p1, iv p2, iv p3, jv q4, sv, jv q5, sv, iv p6, iv (1 : Int32), jv q4, sv, jv q5, sv, jv x3, sv, rv b1175, iv (Int32.ofNat (own_free own_g0 4 (own_s p1))), iv (-1 : Int32), iv (-1 : Int32), uv, uv, uv, uv, uv] [(.int (1 : Int32))])) (fun _ k => XS.iload X1181.here hx rfl (hb hby at_146) rfl  k) ?_
    refine Rch.go (U' := T1181.setTop (mkF m 149 #[iv p1, iv p2, iv p3, jv q4, sv, jv q5, sv, iv p6, iv (1 : Int32), jv q4, sv, jv q5, sv, jv x3, sv, rv b1175, iv (Int32.ofNat (own_free own_g0 4 (own_s p1))), iv (-1 : Int32), iv (-1 : Int32), uv, uv, uv, uv, uv] [(.int (3 : Int32)), (.int (1 : Int32))])) (fun _ k => XS.iconst X1181.here hx rfl (hb hby at_148) k) ?_
    have br1183 : (1 : Int32) < (3 : Int32) := (by decide)
    refine Rch.go (U' := T1181.setTop (mkF m 166 #[iv p1, iv p2, iv p3, jv q4, sv, jv q5, sv, iv p6, iv (1 : Int32), jv q4, sv, jv q5, sv, jv x3, sv, rv b1175, iv (Int32.ofNat (own_free own_g0 4 (own_s p1))), iv (-1 : Int32), iv (-1 : Int32), uv, uv, uv, uv, uv] [])) (fun _ k => XS.icmpYes X1181.here hx rfl (pc0 := 149) (pc' := 166) rfl (hb hby at_149) rfl (XT.ii_lt_t br1183) (by decide) (by decide) k) ?_
    refine Rch.go (U' := T1181.setTop (mkF m 167 #[iv p1, iv p2, iv p3, jv q4, sv, jv q5, sv, iv p6, iv (1 : Int32), jv q4, sv, jv q5, sv, jv x3, sv, rv b1175, iv (Int32.ofNat (own_free own_g0 4 (own_s p1))), iv (-1 : Int32), iv (-1 : Int32), uv, uv, uv, uv, uv] [(.int (1 : Int32))])) (fun _ k => XS.iconst X1181.here hx rfl (hb hby at_166) k) ?_
    refine Rch.go (U' := T1181.setTop (mkF m 169 #[iv p1, iv p2, iv p3, jv q4, sv, jv q5, sv, iv p6, iv (1 : Int32), jv q4, sv, jv q5, sv, jv x3, sv, rv b1175, iv (Int32.ofNat (own_free own_g0 4 (own_s p1))), iv (-1 : Int32), iv (-1 : Int32), iv (1 : Int32), uv, uv, uv, uv] [])) (fun _ k => XS.istore X1181.here hx rfl (hb hby at_167) rfl (l' := #[iv p1, iv p2, iv p3, jv q4, sv, jv q5, sv, iv p6, iv (1 : Int32), jv q4, sv, jv q5, sv, jv x3, sv, rv b1175, iv (Int32.ofNat (own_free own_g0 4 (own_s p1))), iv (-1 : Int32), iv (-1 : Int32), iv (1 : Int32), uv, uv, uv, uv]) rfl k) ?_
    refine Rch.go (U' := T1181.setTop (mkF m 171 #[iv p1, iv p2, iv p3, jv q4, sv, jv q5, sv, iv p6, iv (1 : Int32), jv q4, sv, jv q5, sv, jv x3, sv, rv b1175, iv (Int32.ofNat (own_free own_g0 4 (own_s p1))), iv (-1 : Int32), iv (-1 : Int32), iv (1 : Int32), uv, uv, uv, uv] [(.int (1 : Int32))])) (fun _ k => XS.iload X1181.here hx rfl (hb hby at_169) rfl  k) ?_
    refine Rch.go (U' := T1181.setTop (mkF m 172 #[iv p1, iv p2, iv p3, jv q4, sv, jv q5, sv, iv p6, iv (1 : Int32), jv q4, sv, jv q5, sv, jv x3, sv, rv b1175, iv (Int32.ofNat (own_free own_g0 4 (own_s p1))), iv (-1 : Int32), iv (-1 : Int32), iv (1 : Int32), uv, uv, uv, uv] [(.int (1 : Int32)), (.int (1 : Int32))])) (fun _ k => XS.iconst X1181.here hx rfl (hb hby at_171) k) ?_
    have br1184 : ¬ ((1 : Int32) < (1 : Int32)) := (by decide)
    refine Rch.go (U' := T1181.setTop (mkF m 175 #[iv p1, iv p2, iv p3, jv q4, sv, jv q5, sv, iv p6, iv (1 : Int32), jv q4, sv, jv q5, sv, jv x3, sv, rv b1175, iv (Int32.ofNat (own_free own_g0 4 (own_s p1))), iv (-1 : Int32), iv (-1 : Int32), iv (1 : Int32), uv, uv, uv, uv] [])) (fun _ k => XS.icmpNo X1181.here hx rfl (hb hby at_172) rfl (XT.ii_lt_f br1184) k) ?_
    refine Rch.go (U' := T1181.setTop (mkF m 177 #[iv p1, iv p2, iv p3, jv q4, sv, jv q5, sv, iv p6, iv (1 : Int32), jv q4, sv, jv q5, sv, jv x3, sv, rv b1175, iv (Int32.ofNat (own_free own_g0 4 (own_s p1))), iv (-1 : Int32), iv (-1 : Int32), iv (1 : Int32), uv, uv, uv, uv] [(.int (1 : Int32))])) (fun _ k => XS.iload X1181.here hx rfl (hb hby at_175) rfl  k) ?_
    have br1185 : ¬ ((1 : Int32) = (0 : Int32)) := (by decide)
    refine Rch.go (U' := T1181.setTop (mkF m 180 #[iv p1, iv p2, iv p3, jv q4, sv, jv q5, sv, iv p6, iv (1 : Int32), jv q4, sv, jv q5, sv, jv x3, sv, rv b1175, iv (Int32.ofNat (own_free own_g0 4 (own_s p1))), iv (-1 : Int32), iv (-1 : Int32), iv (1 : Int32), uv, uv, uv, uv] [])) (fun _ k => XS.ifNo X1181.here hx rfl (hb hby at_177) rfl (XT.i0_eq_f br1185) k) ?_
    refine Rch.go (U' := T1181.setTop (mkF m 182 #[iv p1, iv p2, iv p3, jv q4, sv, jv q5, sv, iv p6, iv (1 : Int32), jv q4, sv, jv q5, sv, jv x3, sv, rv b1175, iv (Int32.ofNat (own_free own_g0 4 (own_s p1))), iv (-1 : Int32), iv (-1 : Int32), iv (1 : Int32), uv, uv, uv, uv] [(.ref b1175)])) (fun _ k => XS.aload X1181.here hx rfl (hb hby at_180) rfl rfl k) ?_
    refine Rch.go (U' := T1181.setTop (mkF m 183 #[iv p1, iv p2, iv p3, jv q4, sv, jv q5, sv, iv p6, iv (1 : Int32), jv q4, sv, jv q5, sv, jv x3, sv, rv b1175, iv (Int32.ofNat (own_free own_g0 4 (own_s p1))), iv (-1 : Int32), iv (-1 : Int32), iv (1 : Int32), uv, uv, uv, uv] [(.int p1), (.ref b1175)])) (fun _ k => XS.iloadN X1181.here hx rfl (hb hby at_182) rfl  k) ?_
    refine Rch.go (U' := T1181.setTop (mkF m 185 #[iv p1, iv p2, iv p3, jv q4, sv, jv q5, sv, iv p6, iv (1 : Int32), jv q4, sv, jv q5, sv, jv x3, sv, rv b1175, iv (Int32.ofNat (own_free own_g0 4 (own_s p1))), iv (-1 : Int32), iv (-1 : Int32), iv (1 : Int32), uv, uv, uv, uv] [(.long q4), (.int p1), (.ref b1175)])) (fun _ k => XS.lload X1181.here hx rfl (hb hby at_183) rfl  k) ?_
    obtain ⟨cq1186, kq1186, q1186a, q1186b, q1186c⟩ := isOf hZ rfl B1181.1
    obtain ⟨_, _, ⟨T1186, L1186, k1186, n1186⟩, -, X1186, ⟨Lc1186, hQ1186, l1186, y1186, z1186⟩, st1186⟩ := X1181.virtualBack hx (y := yF) (z := yF) hown (mvT hZ (wi hw 60 rfl)) (mvT hZ (wi hw 61 rfl)) (notFace_of_selects (args := #[]) (mvT hZ (wi hw 63 rfl))) (mvT hZ (wi hw 63 rfl)) (mvT hZ (wi hw 62 rfl)) (by decide) (backOf (W := 0) (rmF l Z a0 hw [] b1175 bh ba bl kh ka kl ((0 : Int32) + (1 : Int32)) (own_add own_g0 (own_s p1) q4) va1181 vl1181 p1 q4 T1181.heap n0 z1181 B1181 (own_hz1 _ _) (by decide)) hZ (wi hw 64 rfl) (wi hw 2 rfl) (by decide) (by decide)) q1186a q1186c (g := (mkF m 185 #[iv p1, iv p2, iv p3, jv q4, sv, jv q5, sv, iv p6, iv (1 : Int32), jv q4, sv, jv q5, sv, jv x3, sv, rv b1175, iv (Int32.ofNat (own_free own_g0 4 (own_s p1))), iv (-1 : Int32), iv (-1 : Int32), iv (1 : Int32), uv, uv, uv, uv] [(.long q4), (.int p1), (.ref b1175)])) rfl (by rw [hml]; rfl) (Steps.refl _) (argsL := [(.int p1), (.long q4)]) (rest := []) (lenOf pd_15 rfl) rfl (by show 2 * 0 + _ ≤ _; exact Nat.le_of_eq rfl) (hb hby at_185) (fun _ _ => ⟨rfl, rfl, (by decide : 4 + 0 ≤ _), (by decide : 24 + 0 ≤ _)⟩)
    dsimp only [Pt.U, Pt.locs, Pt.cells, Pt.slots] at X1186 l1186 y1186 z1186 st1186 hQ1186
    subst l1186 y1186 z1186
    obtain ⟨rfl, N1186q, e1186⟩ := hQ1186
    have N1186 := Fr.app N1181 N1186q
    refine Rch.to (U' := T1186.setTop (mkF m 188 #[iv p1, iv p2, iv p3, jv q4, sv, jv q5, sv, iv p6, iv (1 : Int32), jv q4, sv, jv q5, sv, jv x3, sv, rv b1175, iv (Int32.ofNat (own_free own_g0 4 (own_s p1))), iv (-1 : Int32), iv (-1 : Int32), iv (1 : Int32), uv, uv, uv, uv] [(.int (own_find (own_add own_g0 (own_s p1) q4) q4 4 (own_s p1)))])) st1186 ?_
    refine Rch.go (U' := T1186.setTop (mkF m 190 #[iv p1, iv p2, iv p3, jv q4, sv, jv q5, sv, iv p6, iv (1 : Int32), jv q4, sv, jv q5, sv, jv x3, sv, rv b1175, iv (Int32.ofNat (own_free own_g0 4 (own_s p1))), iv (-1 : Int32), iv (-1 : Int32), iv (1 : Int32), uv, uv, uv, uv] [(.int (Int32.ofNat (own_free own_g0 4 (own_s p1)))), (.int (own_find (own_add own_g0 (own_s p1) q4) q4 4 (own_s p1)))])) (fun _ k => XS.iload X1186.here hx rfl (hb hby at_188) rfl  k) ?_
    have br1187 : (own_find (own_add own_g0 (own_s p1) q4) q4 4 (own_s p1)) = (Int32.ofNat (own_free own_g0 4 (own_s p1))) := own_found1_1 br1172
    refine Rch.go (U' := T1186.setTop (mkF m 193 #[iv p1, iv p2, iv p3, jv q4, sv, jv q5, sv, iv p6, iv (1 : Int32), jv q4, sv, jv q5, sv, jv x3, sv, rv b1175, iv (Int32.ofNat (own_free own_g0 4 (own_s p1))), iv (-1 : Int32), iv (-1 : Int32), iv (1 : Int32), uv, uv, uv, uv] [])) (fun _ k => XS.icmpNo X1186.here hx rfl (hb hby at_190) rfl (XT.ii_ne_f br1187) k) ?_
    refine Rch.go (U' := T1186.setTop (mkF m 194 #[iv p1, iv p2, iv p3, jv q4, sv, jv q5, sv, iv p6, iv (1 : Int32), jv q4, sv, jv q5, sv, jv x3, sv, rv b1175, iv (Int32.ofNat (own_free own_g0 4 (own_s p1))), iv (-1 : Int32), iv (-1 : Int32), iv (1 : Int32), uv, uv, uv, uv] [(.int (1 : Int32))])) (fun _ k => XS.iconst X1186.here hx rfl (hb hby at_193) k) ?_
    refine Rch.go (U' := T1186.setTop (mkF m 198 #[iv p1, iv p2, iv p3, jv q4, sv, jv q5, sv, iv p6, iv (1 : Int32), jv q4, sv, jv q5, sv, jv x3, sv, rv b1175, iv (Int32.ofNat (own_free own_g0 4 (own_s p1))), iv (-1 : Int32), iv (-1 : Int32), iv (1 : Int32), uv, uv, uv, uv] [(.int (1 : Int32))])) (fun _ k => XS.goto X1186.here hx rfl (pc0 := 194) (pc' := 198) rfl (hb hby at_194) (by decide) (by decide) k) ?_
    refine Rch.go (U' := T1186.setTop (mkF m 200 #[iv p1, iv p2, iv p3, jv q4, sv, jv q5, sv, iv p6, iv (1 : Int32), jv q4, sv, jv q5, sv, jv x3, sv, rv b1175, iv (Int32.ofNat (own_free own_g0 4 (own_s p1))), iv (-1 : Int32), iv (-1 : Int32), iv (1 : Int32), uv, uv, uv, uv] [])) (fun _ k => XS.istore X1186.here hx rfl (hb hby at_198) rfl (l' := #[iv p1, iv p2, iv p3, jv q4, sv, jv q5, sv, iv p6, iv (1 : Int32), jv q4, sv, jv q5, sv, jv x3, sv, rv b1175, iv (Int32.ofNat (own_free own_g0 4 (own_s p1))), iv (-1 : Int32), iv (-1 : Int32), iv (1 : Int32), uv, uv, uv, uv]) rfl k) ?_
    refine Rch.go (U' := T1186.setTop (mkF m 202 #[iv p1, iv p2, iv p3, jv q4, sv, jv q5, sv, iv p6, iv (1 : Int32), jv q4, sv, jv q5, sv, jv x3, sv, rv b1175, iv (Int32.ofNat (own_free own_g0 4 (own_s p1))), iv (-1 : Int32), iv (-1 : Int32), iv (1 : Int32), uv, uv, uv, uv] [(.int (1 : Int32))])) (fun _ k => XS.iload X1186.here hx rfl (hb hby at_200) rfl  k) ?_
    refine Rch.go (U' := T1186.setTop (mkF m 203 #[iv p1, iv p2, iv p3, jv q4, sv, jv q5, sv, iv p6, iv (1 : Int32), jv q4, sv, jv q5, sv, jv x3, sv, rv b1175, iv (Int32.ofNat (own_free own_g0 4 (own_s p1))), iv (-1 : Int32), iv (-1 : Int32), iv (1 : Int32), uv, uv, uv, uv] [(.int (2 : Int32)), (.int (1 : Int32))])) (fun _ k => XS.iconst X1186.here hx rfl (hb hby at_202) k) ?_
    have br1188 : (1 : Int32) < (2 : Int32) := (by decide)
    refine Rch.go (U' := T1186.setTop (mkF m 231 #[iv p1, iv p2, iv p3, jv q4, sv, jv q5, sv, iv p6, iv (1 : Int32), jv q4, sv, jv q5, sv, jv x3, sv, rv b1175, iv (Int32.ofNat (own_free own_g0 4 (own_s p1))), iv (-1 : Int32), iv (-1 : Int32), iv (1 : Int32), uv, uv, uv, uv] [])) (fun _ k => XS.icmpYes X1186.here hx rfl (pc0 := 203) (pc' := 231) rfl (hb hby at_203) rfl (XT.ii_lt_t br1188) (by decide) (by decide) k) ?_
    refine Rch.go (U' := T1186.setTop (mkF m 233 #[iv p1, iv p2, iv p3, jv q4, sv, jv q5, sv, iv p6, iv (1 : Int32), jv q4, sv, jv q5, sv, jv x3, sv, rv b1175, iv (Int32.ofNat (own_free own_g0 4 (own_s p1))), iv (-1 : Int32), iv (-1 : Int32), iv (1 : Int32), uv, uv, uv, uv] [(.int (1 : Int32))])) (fun _ k => XS.iload X1186.here hx rfl (hb hby at_231) rfl  k) ?_
    refine Rch.go (U' := T1186.setTop (mkF m 234 #[iv p1, iv p2, iv p3, jv q4, sv, jv q5, sv, iv p6, iv (1 : Int32), jv q4, sv, jv q5, sv, jv x3, sv, rv b1175, iv (Int32.ofNat (own_free own_g0 4 (own_s p1))), iv (-1 : Int32), iv (-1 : Int32), iv (1 : Int32), uv, uv, uv, uv] [(.int (3 : Int32)), (.int (1 : Int32))])) (fun _ k => XS.iconst X1186.here hx rfl (hb hby at_233) k) ?_
    have br1189 : (1 : Int32) < (3 : Int32) := (by decide)
    refine Rch.go (U' := T1186.setTop (mkF m 262 #[iv p1, iv p2, iv p3, jv q4, sv, jv q5, sv, iv p6, iv (1 : Int32), jv q4, sv, jv q5, sv, jv x3, sv, rv b1175, iv (Int32.ofNat (own_free own_g0 4 (own_s p1))), iv (-1 : Int32), iv (-1 : Int32), iv (1 : Int32), uv, uv, uv, uv] [])) (fun _ k => XS.icmpYes X1186.here hx rfl (pc0 := 234) (pc' := 262) rfl (hb hby at_234) rfl (XT.ii_lt_t br1189) (by decide) (by decide) k) ?_
    refine Rch.go (U' := T1186.setTop (mkF m 263 #[iv p1, iv p2, iv p3, jv q4, sv, jv q5, sv, iv p6, iv (1 : Int32), jv q4, sv, jv q5, sv, jv x3, sv, rv b1175, iv (Int32.ofNat (own_free own_g0 4 (own_s p1))), iv (-1 : Int32), iv (-1 : Int32), iv (1 : Int32), uv, uv, uv, uv] [(.long q4)])) (fun _ k => XS.lloadN X1186.here hx rfl (hb hby at_262) rfl  k) ?_
    refine Rch.go (U' := T1186.setTop (mkF m 265 #[iv p1, iv p2, iv p3, jv q4, sv, jv q5, sv, iv p6, iv (1 : Int32), jv q4, sv, jv q5, sv, jv x3, sv, rv b1175, iv (Int32.ofNat (own_free own_g0 4 (own_s p1))), iv (-1 : Int32), iv (-1 : Int32), iv (1 : Int32), uv, uv, uv, uv] [(.long q5), (.long q4)])) (fun _ k => XS.lload X1186.here hx rfl (hb hby at_263) rfl  k) ?_
    refine Rch.go (U' := T1186.setTop (mkF m 266 #[iv p1, iv p2, iv p3, jv q4, sv, jv q5, sv, iv p6, iv (1 : Int32), jv q4, sv, jv q5, sv, jv x3, sv, rv b1175, iv (Int32.ofNat (own_free own_g0 4 (own_s p1))), iv (-1 : Int32), iv (-1 : Int32), iv (1 : Int32), uv, uv, uv, uv] [(.long (q4 - q5))])) (fun _ k => XS.lsub X1186.here hx rfl (hb hby at_265) rfl k) ?_
    generalize hqq : (q4 - q5) = qq
    refine Rch.go (U' := T1186.setTop (mkF m 268 #[iv p1, iv p2, iv p3, jv q4, sv, jv q5, sv, iv p6, iv (1 : Int32), jv q4, sv, jv q5, sv, jv x3, sv, rv b1175, iv (Int32.ofNat (own_free own_g0 4 (own_s p1))), iv (-1 : Int32), iv (-1 : Int32), iv (1 : Int32), jv qq, sv, uv, uv] [])) (fun _ k => XS.lstore X1186.here hx rfl (hb hby at_266) rfl (l' := #[iv p1, iv p2, iv p3, jv q4, sv, jv q5, sv, iv p6, iv (1 : Int32), jv q4, sv, jv q5, sv, jv x3, sv, rv b1175, iv (Int32.ofNat (own_free own_g0 4 (own_s p1))), iv (-1 : Int32), iv (-1 : Int32), iv (1 : Int32), jv qq, sv, uv, uv]) rfl k) ?_
    refine Rch.go (U' := T1186.setTop (mkF m 270 #[iv p1, iv p2, iv p3, jv q4, sv, jv q5, sv, iv p6, iv (1 : Int32), jv q4, sv, jv q5, sv, jv x3, sv, rv b1175, iv (Int32.ofNat (own_free own_g0 4 (own_s p1))), iv (-1 : Int32), iv (-1 : Int32), iv (1 : Int32), jv qq, sv, uv, uv] [(.int (1 : Int32))])) (fun _ k => XS.iload X1186.here hx rfl (hb hby at_268) rfl  k) ?_
    refine Rch.go (U' := T1186.setTop (mkF m 271 #[iv p1, iv p2, iv p3, jv q4, sv, jv q5, sv, iv p6, iv (1 : Int32), jv q4, sv, jv q5, sv, jv x3, sv, rv b1175, iv (Int32.ofNat (own_free own_g0 4 (own_s p1))), iv (-1 : Int32), iv (-1 : Int32), iv (1 : Int32), jv qq, sv, uv, uv] [(.int (1 : Int32)), (.int (1 : Int32))])) (fun _ k => XS.iconst X1186.here hx rfl (hb hby at_270) k) ?_
    have br1190 : ¬ ((1 : Int32) < (1 : Int32)) := (by decide)
    refine Rch.go (U' := T1186.setTop (mkF m 274 #[iv p1, iv p2, iv p3, jv q4, sv, jv q5, sv, iv p6, iv (1 : Int32), jv q4, sv, jv q5, sv, jv x3, sv, rv b1175, iv (Int32.ofNat (own_free own_g0 4 (own_s p1))), iv (-1 : Int32), iv (-1 : Int32), iv (1 : Int32), jv qq, sv, uv, uv] [])) (fun _ k => XS.icmpNo X1186.here hx rfl (hb hby at_271) rfl (XT.ii_lt_f br1190) k) ?_
    refine Rch.go (U' := T1186.setTop (mkF m 276 #[iv p1, iv p2, iv p3, jv q4, sv, jv q5, sv, iv p6, iv (1 : Int32), jv q4, sv, jv q5, sv, jv x3, sv, rv b1175, iv (Int32.ofNat (own_free own_g0 4 (own_s p1))), iv (-1 : Int32), iv (-1 : Int32), iv (1 : Int32), jv qq, sv, uv, uv] [(.long qq)])) (fun _ k => XS.lload X1186.here hx rfl (hb hby at_274) rfl  k) ?_
    refine Rch.go (U' := T1186.setTop (mkF m 278 #[iv p1, iv p2, iv p3, jv q4, sv, jv q5, sv, iv p6, iv (1 : Int32), jv q4, sv, jv q5, sv, jv x3, sv, rv b1175, iv (Int32.ofNat (own_free own_g0 4 (own_s p1))), iv (-1 : Int32), iv (-1 : Int32), iv (1 : Int32), jv qq, sv, uv, uv] [(.long q4), (.long qq)])) (fun _ k => XS.lload X1186.here hx rfl (hb hby at_276) rfl  k) ?_
    refine Rch.go (U' := T1186.setTop (mkF m 279 #[iv p1, iv p2, iv p3, jv q4, sv, jv q5, sv, iv p6, iv (1 : Int32), jv q4, sv, jv q5, sv, jv x3, sv, rv b1175, iv (Int32.ofNat (own_free own_g0 4 (own_s p1))), iv (-1 : Int32), iv (-1 : Int32), iv (1 : Int32), jv qq, sv, uv, uv] [(.int (XT.cmpL qq q4))])) (fun _ k => XT.lcmp X1186.here hx rfl (hb hby at_278) rfl k) ?_
    by_cases br1191 : qq = q4
    ·
      refine Rch.go (U' := T1186.setTop (mkF m 310 #[iv p1, iv p2, iv p3, jv q4, sv, jv q5, sv, iv p6, iv (1 : Int32), jv q4, sv, jv q5, sv, jv x3, sv, rv b1175, iv (Int32.ofNat (own_free own_g0 4 (own_s p1))), iv (-1 : Int32), iv (-1 : Int32), iv (1 : Int32), jv qq, sv, uv, uv] [])) (fun _ k => XS.ifYes X1186.here hx rfl (pc0 := 279) (pc' := 310) rfl (hb hby at_279) rfl (XT.ll_eq_t br1191) (by decide) (by decide) k) ?_
      refine Rch.go (U' := T1186.setTop (mkF m 311 #[iv p1, iv p2, iv p3, jv q4, sv, jv q5, sv, iv p6, iv (1 : Int32), jv q4, sv, jv q5, sv, jv x3, sv, rv b1175, iv (Int32.ofNat (own_free own_g0 4 (own_s p1))), iv (-1 : Int32), iv (-1 : Int32), iv (1 : Int32), jv qq, sv, uv, uv] [(.int (1 : Int32))])) (fun _ k => XS.iconst X1186.here hx rfl (hb hby at_310) k) ?_
      refine Rch.go (U' := T1186.setTop (mkF m 315 #[iv p1, iv p2, iv p3, jv q4, sv, jv q5, sv, iv p6, iv (1 : Int32), jv q4, sv, jv q5, sv, jv x3, sv, rv b1175, iv (Int32.ofNat (own_free own_g0 4 (own_s p1))), iv (-1 : Int32), iv (-1 : Int32), iv (1 : Int32), jv qq, sv, uv, uv] [(.int (1 : Int32))])) (fun _ k => XS.goto X1186.here hx rfl (pc0 := 311) (pc' := 315) rfl (hb hby at_311) (by decide) (by decide) k) ?_
      refine Rch.go (U' := T1186.setTop (mkF m 317 #[iv p1, iv p2, iv p3, jv q4, sv, jv q5, sv, iv p6, iv (1 : Int32), jv q4, sv, jv q5, sv, jv x3, sv, rv b1175, iv (Int32.ofNat (own_free own_g0 4 (own_s p1))), iv (-1 : Int32), iv (-1 : Int32), iv (1 : Int32), jv qq, sv, iv (1 : Int32), uv] [])) (fun _ k => XS.istore X1186.here hx rfl (hb hby at_315) rfl (l' := #[iv p1, iv p2, iv p3, jv q4, sv, jv q5, sv, iv p6, iv (1 : Int32), jv q4, sv, jv q5, sv, jv x3, sv, rv b1175, iv (Int32.ofNat (own_free own_g0 4 (own_s p1))), iv (-1 : Int32), iv (-1 : Int32), iv (1 : Int32), jv qq, sv, iv (1 : Int32), uv]) rfl k) ?_
      refine Rch.go (U' := T1186.setTop (mkF m 319 #[iv p1, iv p2, iv p3, jv q4, sv, jv q5, sv, iv p6, iv (1 : Int32), jv q4, sv, jv q5, sv, jv x3, sv, rv b1175, iv (Int32.ofNat (own_free own_g0 4 (own_s p1))), iv (-1 : Int32), iv (-1 : Int32), iv (1 : Int32), jv qq, sv, iv (1 : Int32), uv] [(.int (1 : Int32))])) (fun _ k => XS.iload X1186.here hx rfl (hb hby at_317) rfl  k) ?_
      have br1192 : ¬ ((1 : Int32) = (0 : Int32)) := (by decide)
      refine Rch.go (U' := T1186.setTop (mkF m 355 #[iv p1, iv p2, iv p3, jv q4, sv, jv q5, sv, iv p6, iv (1 : Int32), jv q4, sv, jv q5, sv, jv x3, sv, rv b1175, iv (Int32.ofNat (own_free own_g0 4 (own_s p1))), iv (-1 : Int32), iv (-1 : Int32), iv (1 : Int32), jv qq, sv, iv (1 : Int32), uv] [])) (fun _ k => XS.ifYes X1186.here hx rfl (pc0 := 319) (pc' := 355) rfl (hb hby at_319) rfl (XT.i0_ne_t br1192) (by decide) (by decide) k) ?_
      refine Rch.go (U' := T1186.setTop (mkF m 357 #[iv p1, iv p2, iv p3, jv q4, sv, jv q5, sv, iv p6, iv (1 : Int32), jv q4, sv, jv q5, sv, jv x3, sv, rv b1175, iv (Int32.ofNat (own_free own_g0 4 (own_s p1))), iv (-1 : Int32), iv (-1 : Int32), iv (1 : Int32), jv qq, sv, iv (1 : Int32), uv] [(.int (1 : Int32))])) (fun _ k => XS.iload X1186.here hx rfl (hb hby at_355) rfl  k) ?_
      refine Rch.fin X1186 hlk (v := some (.int (nar .boolean (1 : Int32)))) (fun h => by rw [hret] at h; cases h) e1186 (by decide) (by decide) (fun fs hr => retN X1186 hx (t := .boolean) hret (by simp) (hb hby at_357) hr) ?_
      exact ⟨rfl, N1186⟩
    ·
      refine Rch.go (U' := T1186.setTop (mkF m 282 #[iv p1, iv p2, iv p3, jv q4, sv, jv q5, sv, iv p6, iv (1 : Int32), jv q4, sv, jv q5, sv, jv x3, sv, rv b1175, iv (Int32.ofNat (own_free own_g0 4 (own_s p1))), iv (-1 : Int32), iv (-1 : Int32), iv (1 : Int32), jv qq, sv, uv, uv] [])) (fun _ k => XS.ifNo X1186.here hx rfl (hb hby at_279) rfl (XT.ll_eq_f br1191) k) ?_
      refine Rch.go (U' := T1186.setTop (mkF m 284 #[iv p1, iv p2, iv p3, jv q4, sv, jv q5, sv, iv p6, iv (1 : Int32), jv q4, sv, jv q5, sv, jv x3, sv, rv b1175, iv (Int32.ofNat (own_free own_g0 4 (own_s p1))), iv (-1 : Int32), iv (-1 : Int32), iv (1 : Int32), jv qq, sv, uv, uv] [(.int (1 : Int32))])) (fun _ k => XS.iload X1186.here hx rfl (hb hby at_282) rfl  k) ?_
      refine Rch.go (U' := T1186.setTop (mkF m 285 #[iv p1, iv p2, iv p3, jv q4, sv, jv q5, sv, iv p6, iv (1 : Int32), jv q4, sv, jv q5, sv, jv x3, sv, rv b1175, iv (Int32.ofNat (own_free own_g0 4 (own_s p1))), iv (-1 : Int32), iv (-1 : Int32), iv (1 : Int32), jv qq, sv, uv, uv] [(.int (2 : Int32)), (.int (1 : Int32))])) (fun _ k => XS.iconst X1186.here hx rfl (hb hby at_284) k) ?_
      have br1193 : (1 : Int32) < (2 : Int32) := (by decide)
      refine Rch.go (U' := T1186.setTop (mkF m 296 #[iv p1, iv p2, iv p3, jv q4, sv, jv q5, sv, iv p6, iv (1 : Int32), jv q4, sv, jv q5, sv, jv x3, sv, rv b1175, iv (Int32.ofNat (own_free own_g0 4 (own_s p1))), iv (-1 : Int32), iv (-1 : Int32), iv (1 : Int32), jv qq, sv, uv, uv] [])) (fun _ k => XS.icmpYes X1186.here hx rfl (pc0 := 285) (pc' := 296) rfl (hb hby at_285) rfl (XT.ii_lt_t br1193) (by decide) (by decide) k) ?_
      refine Rch.go (U' := T1186.setTop (mkF m 298 #[iv p1, iv p2, iv p3, jv q4, sv, jv q5, sv, iv p6, iv (1 : Int32), jv q4, sv, jv q5, sv, jv x3, sv, rv b1175, iv (Int32.ofNat (own_free own_g0 4 (own_s p1))), iv (-1 : Int32), iv (-1 : Int32), iv (1 : Int32), jv qq, sv, uv, uv] [(.int (1 : Int32))])) (fun _ k => XS.iload X1186.here hx rfl (hb hby at_296) rfl  k) ?_
      refine Rch.go (U' := T1186.setTop (mkF m 299 #[iv p1, iv p2, iv p3, jv q4, sv, jv q5, sv, iv p6, iv (1 : Int32), jv q4, sv, jv q5, sv, jv x3, sv, rv b1175, iv (Int32.ofNat (own_free own_g0 4 (own_s p1))), iv (-1 : Int32), iv (-1 : Int32), iv (1 : Int32), jv qq, sv, uv, uv] [(.int (3 : Int32)), (.int (1 : Int32))])) (fun _ k => XS.iconst X1186.here hx rfl (hb hby at_298) k) ?_
      have br1194 : (1 : Int32) < (3 : Int32) := (by decide)
      refine Rch.go (U' := T1186.setTop (mkF m 314 #[iv p1, iv p2, iv p3, jv q4, sv, jv q5, sv, iv p6, iv (1 : Int32), jv q4, sv, jv q5, sv, jv x3, sv, rv b1175, iv (Int32.ofNat (own_free own_g0 4 (own_s p1))), iv (-1 : Int32), iv (-1 : Int32), iv (1 : Int32), jv qq, sv, uv, uv] [])) (fun _ k => XS.icmpYes X1186.here hx rfl (pc0 := 299) (pc' := 314) rfl (hb hby at_299) rfl (XT.ii_lt_t br1194) (by decide) (by decide) k) ?_
      refine Rch.go (U' := T1186.setTop (mkF m 315 #[iv p1, iv p2, iv p3, jv q4, sv, jv q5, sv, iv p6, iv (1 : Int32), jv q4, sv, jv q5, sv, jv x3, sv, rv b1175, iv (Int32.ofNat (own_free own_g0 4 (own_s p1))), iv (-1 : Int32), iv (-1 : Int32), iv (1 : Int32), jv qq, sv, uv, uv] [(.int (0 : Int32))])) (fun _ k => XS.iconst X1186.here hx rfl (hb hby at_314) k) ?_
      refine Rch.go (U' := T1186.setTop (mkF m 317 #[iv p1, iv p2, iv p3, jv q4, sv, jv q5, sv, iv p6, iv (1 : Int32), jv q4, sv, jv q5, sv, jv x3, sv, rv b1175, iv (Int32.ofNat (own_free own_g0 4 (own_s p1))), iv (-1 : Int32), iv (-1 : Int32), iv (1 : Int32), jv qq, sv, iv (0 : Int32), uv] [])) (fun _ k => XS.istore X1186.here hx rfl (hb hby at_315) rfl (l' := #[iv p1, iv p2, iv p3, jv q4, sv, jv q5, sv, iv p6, iv (1 : Int32), jv q4, sv, jv q5, sv, jv x3, sv, rv b1175, iv (Int32.ofNat (own_free own_g0 4 (own_s p1))), iv (-1 : Int32), iv (-1 : Int32), iv (1 : Int32), jv qq, sv, iv (0 : Int32), uv]) rfl k) ?_
      refine Rch.go (U' := T1186.setTop (mkF m 319 #[iv p1, iv p2, iv p3, jv q4, sv, jv q5, sv, iv p6, iv (1 : Int32), jv q4, sv, jv q5, sv, jv x3, sv, rv b1175, iv (Int32.ofNat (own_free own_g0 4 (own_s p1))), iv (-1 : Int32), iv (-1 : Int32), iv (1 : Int32), jv qq, sv, iv (0 : Int32), uv] [(.int (0 : Int32))])) (fun _ k => XS.iload X1186.here hx rfl (hb hby at_317) rfl  k) ?_
      have br1195 : (0 : Int32) = (0 : Int32) := (by decide)
      refine Rch.go (U' := T1186.setTop (mkF m 322 #[iv p1, iv p2, iv p3, jv q4, sv, jv q5, sv, iv p6, iv (1 : Int32), jv q4, sv, jv q5, sv, jv x3, sv, rv b1175, iv (Int32.ofNat (own_free own_g0 4 (own_s p1))), iv (-1 : Int32), iv (-1 : Int32), iv (1 : Int32), jv qq, sv, iv (0 : Int32), uv] [])) (fun _ k => XS.ifNo X1186.here hx rfl (hb hby at_319) rfl (XT.i0_ne_f br1195) k) ?_
      refine Rch.go (U' := T1186.setTop (mkF m 324 #[iv p1, iv p2, iv p3, jv q4, sv, jv q5, sv, iv p6, iv (1 : Int32), jv q4, sv, jv q5, sv, jv x3, sv, rv b1175, iv (Int32.ofNat (own_free own_g0 4 (own_s p1))), iv (-1 : Int32), iv (-1 : Int32), iv (1 : Int32), jv qq, sv, iv (0 : Int32), uv] [(.int p6)])) (fun _ k => XS.iload X1186.here hx rfl (hb hby at_322) rfl  k) ?_
      refine Rch.go (U' := T1186.setTop (mkF m 325 #[iv p1, iv p2, iv p3, jv q4, sv, jv q5, sv, iv p6, iv (1 : Int32), jv q4, sv, jv q5, sv, jv x3, sv, rv b1175, iv (Int32.ofNat (own_free own_g0 4 (own_s p1))), iv (-1 : Int32), iv (-1 : Int32), iv (1 : Int32), jv qq, sv, iv (0 : Int32), uv] [(.int (2 : Int32)), (.int p6)])) (fun _ k => XS.iconst X1186.here hx rfl (hb hby at_324) k) ?_
      refine Rch.go (U' := T1186.setTop (mkF m 326 #[iv p1, iv p2, iv p3, jv q4, sv, jv q5, sv, iv p6, iv (1 : Int32), jv q4, sv, jv q5, sv, jv x3, sv, rv b1175, iv (Int32.ofNat (own_free own_g0 4 (own_s p1))), iv (-1 : Int32), iv (-1 : Int32), iv (1 : Int32), jv qq, sv, iv (0 : Int32), uv] [(.int (p6 >>> ((2 : Int32) &&& 31)))])) (fun _ k => XS.ishr X1186.here hx rfl (hb hby at_325) rfl k) ?_
      refine Rch.go (U' := T1186.setTop (mkF m 327 #[iv p1, iv p2, iv p3, jv q4, sv, jv q5, sv, iv p6, iv (1 : Int32), jv q4, sv, jv q5, sv, jv x3, sv, rv b1175, iv (Int32.ofNat (own_free own_g0 4 (own_s p1))), iv (-1 : Int32), iv (-1 : Int32), iv (1 : Int32), jv qq, sv, iv (0 : Int32), uv] [(.int p3), (.int (p6 >>> ((2 : Int32) &&& 31)))])) (fun _ k => XS.iloadN X1186.here hx rfl (hb hby at_326) rfl  k) ?_
      refine Rch.go (U' := T1186.setTop (mkF m 328 #[iv p1, iv p2, iv p3, jv q4, sv, jv q5, sv, iv p6, iv (1 : Int32), jv q4, sv, jv q5, sv, jv x3, sv, rv b1175, iv (Int32.ofNat (own_free own_g0 4 (own_s p1))), iv (-1 : Int32), iv (-1 : Int32), iv (1 : Int32), jv qq, sv, iv (0 : Int32), uv] [(.int ((p6 >>> ((2 : Int32) &&& 31)) ^^^ p3))])) (fun _ k => XS.ixor X1186.here hx rfl (hb hby at_327) rfl k) ?_
      generalize hqh : ((p6 >>> ((2 : Int32) &&& 31)) ^^^ p3) = qh
      refine Rch.go (U' := T1186.setTop (mkF m 330 #[iv p1, iv p2, iv p3, jv q4, sv, jv q5, sv, iv p6, iv (1 : Int32), jv q4, sv, jv q5, sv, jv x3, sv, rv b1175, iv (Int32.ofNat (own_free own_g0 4 (own_s p1))), iv (-1 : Int32), iv (-1 : Int32), iv (1 : Int32), jv qq, sv, iv (0 : Int32), iv qh] [])) (fun _ k => XS.istore X1186.here hx rfl (hb hby at_328) rfl (l' := #[iv p1, iv p2, iv p3, jv q4, sv, jv q5, sv, iv p6, iv (1 : Int32), jv q4, sv, jv q5, sv, jv x3, sv, rv b1175, iv (Int32.ofNat (own_free own_g0 4 (own_s p1))), iv (-1 : Int32), iv (-1 : Int32), iv (1 : Int32), jv qq, sv, iv (0 : Int32), iv qh]) rfl k) ?_
      refine Rch.go (U' := T1186.setTop (mkF m 332 #[iv p1, iv p2, iv p3, jv q4, sv, jv q5, sv, iv p6, iv (1 : Int32), jv q4, sv, jv q5, sv, jv x3, sv, rv b1175, iv (Int32.ofNat (own_free own_g0 4 (own_s p1))), iv (-1 : Int32), iv (-1 : Int32), iv (1 : Int32), jv qq, sv, iv (0 : Int32), iv qh] [(.int (1 : Int32))])) (fun _ k => XS.iload X1186.here hx rfl (hb hby at_330) rfl  k) ?_
      have br1196 : ¬ ((1 : Int32) = (0 : Int32)) := (by decide)
      refine Rch.go (U' := T1186.setTop (mkF m 335 #[iv p1, iv p2, iv p3, jv q4, sv, jv q5, sv, iv p6, iv (1 : Int32), jv q4, sv, jv q5, sv, jv x3, sv, rv b1175, iv (Int32.ofNat (own_free own_g0 4 (own_s p1))), iv (-1 : Int32), iv (-1 : Int32), iv (1 : Int32), jv qq, sv, iv (0 : Int32), iv qh] [])) (fun _ k => XS.ifNo X1186.here hx rfl (hb hby at_332) rfl (XT.i0_eq_f br1196) k) ?_
      refine Rch.go (U' := T1186.setTop (mkF m 337 #[iv p1, iv p2, iv p3, jv q4, sv, jv q5, sv, iv p6, iv (1 : Int32), jv q4, sv, jv q5, sv, jv x3, sv, rv b1175, iv (Int32.ofNat (own_free own_g0 4 (own_s p1))), iv (-1 : Int32), iv (-1 : Int32), iv (1 : Int32), jv qq, sv, iv (0 : Int32), iv qh] [(.ref b1175)])) (fun _ k => XS.aload X1186.here hx rfl (hb hby at_335) rfl rfl k) ?_
      refine Rch.go (U' := T1186.setTop (mkF m 339 #[iv p1, iv p2, iv p3, jv q4, sv, jv q5, sv, iv p6, iv (1 : Int32), jv q4, sv, jv q5, sv, jv x3, sv, rv b1175, iv (Int32.ofNat (own_free own_g0 4 (own_s p1))), iv (-1 : Int32), iv (-1 : Int32), iv (1 : Int32), jv qq, sv, iv (0 : Int32), iv qh] [(.int qh), (.ref b1175)])) (fun _ k => XS.iload X1186.here hx rfl (hb hby at_337) rfl  k) ?_
      refine Rch.go (U' := T1186.setTop (mkF m 341 #[iv p1, iv p2, iv p3, jv q4, sv, jv q5, sv, iv p6, iv (1 : Int32), jv q4, sv, jv q5, sv, jv x3, sv, rv b1175, iv (Int32.ofNat (own_free own_g0 4 (own_s p1))), iv (-1 : Int32), iv (-1 : Int32), iv (1 : Int32), jv qq, sv, iv (0 : Int32), iv qh] [(.long qq), (.int qh), (.ref b1175)])) (fun _ k => XS.lload X1186.here hx rfl (hb hby at_339) rfl  k) ?_
      obtain ⟨cq1197, kq1197, q1197a, q1197b, q1197c⟩ := isOf hZ e1186 B1181.1
      obtain ⟨_, _, ⟨T1197, L1197, k1197, n1197⟩, -, X1197, ⟨Lc1197, hQ1197, l1197, y1197, z1197⟩, st1197⟩ := X1186.virtualBack hx (y := yF) (z := yF) hown (mvT hZ (wi hw 60 rfl)) (mvT hZ (wi hw 61 rfl)) (notFace_of_selects (args := #[]) (mvT hZ (wi hw 63 rfl))) (mvT hZ (wi hw 63 rfl)) (mvT hZ (wi hw 62 rfl)) (by decide) (backOf (W := 0) (rmF l Z a0 hw [] b1175 bh ba bl kh ka kl ((0 : Int32) + (1 : Int32)) (own_add own_g0 (own_s p1) q4) va1181 vl1181 qh qq T1181.heap n0 z1181 B1181 (own_hz1 _ _) (by decide)) hZ (wi hw 64 rfl) (wi hw 2 rfl) (by decide) (by decide)) q1197a q1197c (g := (mkF m 341 #[iv p1, iv p2, iv p3, jv q4, sv, jv q5, sv, iv p6, iv (1 : Int32), jv q4, sv, jv q5, sv, jv x3, sv, rv b1175, iv (Int32.ofNat (own_free own_g0 4 (own_s p1))), iv (-1 : Int32), iv (-1 : Int32), iv (1 : Int32), jv qq, sv, iv (0 : Int32), iv qh] [(.long qq), (.int qh), (.ref b1175)])) rfl (by rw [hml]; rfl) (Steps.refl _) (argsL := [(.int qh), (.long qq)]) (rest := []) (lenOf pd_15 rfl) rfl (by show 2 * 0 + _ ≤ _; exact Nat.le_of_eq rfl) (hb hby at_341) (fun _ _ => ⟨rfl, e1186, (by decide : 4 + 0 ≤ _), (by decide : 24 + 0 ≤ _)⟩)
      dsimp only [Pt.U, Pt.locs, Pt.cells, Pt.slots] at X1197 l1197 y1197 z1197 st1197 hQ1197
      subst l1197 y1197 z1197
      obtain ⟨rfl, N1197q, e1197⟩ := hQ1197
      have N1197 := Fr.app N1186 N1197q
      refine Rch.to (U' := T1197.setTop (mkF m 344 #[iv p1, iv p2, iv p3, jv q4, sv, jv q5, sv, iv p6, iv (1 : Int32), jv q4, sv, jv q5, sv, jv x3, sv, rv b1175, iv (Int32.ofNat (own_free own_g0 4 (own_s p1))), iv (-1 : Int32), iv (-1 : Int32), iv (1 : Int32), jv qq, sv, iv (0 : Int32), iv qh] [(.int (own_find (own_add own_g0 (own_s p1) q4) qq 4 (own_s qh)))])) st1197 ?_
      refine Rch.go (U' := T1197.setTop (mkF m 345 #[iv p1, iv p2, iv p3, jv q4, sv, jv q5, sv, iv p6, iv (1 : Int32), jv q4, sv, jv q5, sv, jv x3, sv, rv b1175, iv (Int32.ofNat (own_free own_g0 4 (own_s p1))), iv (-1 : Int32), iv (-1 : Int32), iv (1 : Int32), jv qq, sv, iv (0 : Int32), iv qh] [(.int (-1 : Int32)), (.int (own_find (own_add own_g0 (own_s p1) q4) qq 4 (own_s qh)))])) (fun _ k => XS.iconst X1197.here hx rfl (hb hby at_344) k) ?_
      have br1198 : (own_find (own_add own_g0 (own_s p1) q4) qq 4 (own_s qh)) = (-1 : Int32) := own_none1 br1191
      refine Rch.go (U' := T1197.setTop (mkF m 348 #[iv p1, iv p2, iv p3, jv q4, sv, jv q5, sv, iv p6, iv (1 : Int32), jv q4, sv, jv q5, sv, jv x3, sv, rv b1175, iv (Int32.ofNat (own_free own_g0 4 (own_s p1))), iv (-1 : Int32), iv (-1 : Int32), iv (1 : Int32), jv qq, sv, iv (0 : Int32), iv qh] [])) (fun _ k => XS.icmpNo X1197.here hx rfl (hb hby at_345) rfl (XT.ii_ne_f br1198) k) ?_
      refine Rch.go (U' := T1197.setTop (mkF m 349 #[iv p1, iv p2, iv p3, jv q4, sv, jv q5, sv, iv p6, iv (1 : Int32), jv q4, sv, jv q5, sv, jv x3, sv, rv b1175, iv (Int32.ofNat (own_free own_g0 4 (own_s p1))), iv (-1 : Int32), iv (-1 : Int32), iv (1 : Int32), jv qq, sv, iv (0 : Int32), iv qh] [(.int (1 : Int32))])) (fun _ k => XS.iconst X1197.here hx rfl (hb hby at_348) k) ?_
      refine Rch.go (U' := T1197.setTop (mkF m 353 #[iv p1, iv p2, iv p3, jv q4, sv, jv q5, sv, iv p6, iv (1 : Int32), jv q4, sv, jv q5, sv, jv x3, sv, rv b1175, iv (Int32.ofNat (own_free own_g0 4 (own_s p1))), iv (-1 : Int32), iv (-1 : Int32), iv (1 : Int32), jv qq, sv, iv (0 : Int32), iv qh] [(.int (1 : Int32))])) (fun _ k => XS.goto X1197.here hx rfl (pc0 := 349) (pc' := 353) rfl (hb hby at_349) (by decide) (by decide) k) ?_
      refine Rch.go (U' := T1197.setTop (mkF m 355 #[iv p1, iv p2, iv p3, jv q4, sv, jv q5, sv, iv p6, iv (1 : Int32), jv q4, sv, jv q5, sv, jv x3, sv, rv b1175, iv (Int32.ofNat (own_free own_g0 4 (own_s p1))), iv (-1 : Int32), iv (-1 : Int32), iv (1 : Int32), jv qq, sv, iv (0 : Int32), iv qh] [])) (fun _ k => XS.istore X1197.here hx rfl (hb hby at_353) rfl (l' := #[iv p1, iv p2, iv p3, jv q4, sv, jv q5, sv, iv p6, iv (1 : Int32), jv q4, sv, jv q5, sv, jv x3, sv, rv b1175, iv (Int32.ofNat (own_free own_g0 4 (own_s p1))), iv (-1 : Int32), iv (-1 : Int32), iv (1 : Int32), jv qq, sv, iv (0 : Int32), iv qh]) rfl k) ?_
      refine Rch.go (U' := T1197.setTop (mkF m 357 #[iv p1, iv p2, iv p3, jv q4, sv, jv q5, sv, iv p6, iv (1 : Int32), jv q4, sv, jv q5, sv, jv x3, sv, rv b1175, iv (Int32.ofNat (own_free own_g0 4 (own_s p1))), iv (-1 : Int32), iv (-1 : Int32), iv (1 : Int32), jv qq, sv, iv (0 : Int32), iv qh] [(.int (1 : Int32))])) (fun _ k => XS.iload X1197.here hx rfl (hb hby at_355) rfl  k) ?_
      refine Rch.fin X1197 hlk (v := some (.int (nar .boolean (1 : Int32)))) (fun h => by rw [hret] at h; cases h) e1197 (by decide) (by decide) (fun fs hr => retN X1197 hx (t := .boolean) hret (by simp) (hb hby at_357) hr) ?_
      exact ⟨rfl, N1197⟩
set_option maxRecDepth 65536 in
set_option maxHeartbeats 40000000 in
theorem cut19_2 {p : Program} {l : Launch} {e : Env} {s : State} {m : MethodId} {args : Array Value} {below : List Frame} {meth : Method} {c : Code} {T0 : State} {locs : List Loc} {Z : State} {a0 : Array Value} {h0 : Heap} {n0 : Nat}  (p1 : Int32) (p2 : Int32) (p3 : Int32) (q4 : Int64) (q5 : Int64) (p6 : Int32) (x3 : Int64)
    (X0 : Stand p l e room_1 s m args below meth c T0 locs 0 0) (hx : p.tables.exec = Jvm.exec) (hZ : Z.Warmed39 s.vm) (hw : ∀ d ∈ tables_1, d.before a0 Z = true) (hby : c.code = code) (hml : c.maxLocals = 24) (hown : s.vm.findClass cLW = some m.cls) (hret : meth.sig.returnType = some .boolean) (hlk : meth.locks = false) (e0 : T0.heap = h0) (N0 : Fr n0 locs) (Z0 : n0 ≤ h0.size)  :
    Rch p e below (Fin s below (fun v h L => v = some (.int 1) ∧ Fr n0 L) 16 128) (T0.setTop (mkF m 19 #[iv p1, iv p2, iv p3, jv q4, sv, jv q5, sv, iv p6, iv (2 : Int32), jv q4, sv, jv q5, sv, jv x3, sv, uv, uv, uv, uv, uv, uv, uv, uv, uv] [])) := by
  refine Rch.go (U' := T0.setTop (mkF m 21 #[iv p1, iv p2, iv p3, jv q4, sv, jv q5, sv, iv p6, iv (2 : Int32), jv q4, sv, jv q5, sv, jv x3, sv, uv, uv, uv, uv, uv, uv, uv, uv, uv] [(.int (2 : Int32))])) (fun _ k => XS.iload X0.here hx rfl (hb hby at_19) rfl  k) ?_
  refine Rch.go (U' := T0.setTop (mkF m 22 #[iv p1, iv p2, iv p3, jv q4, sv, jv q5, sv, iv p6, iv (2 : Int32), jv q4, sv, jv q5, sv, jv x3, sv, uv, uv, uv, uv, uv, uv, uv, uv, uv] [(.int (1 : Int32)), (.int (2 : Int32))])) (fun _ k => XS.iconst X0.here hx rfl (hb hby at_21) k) ?_
  have br1199 : ¬ ((2 : Int32) < (1 : Int32)) := (by decide)
  refine Rch.go (U' := T0.setTop (mkF m 25 #[iv p1, iv p2, iv p3, jv q4, sv, jv q5, sv, iv p6, iv (2 : Int32), jv q4, sv, jv q5, sv, jv x3, sv, uv, uv, uv, uv, uv, uv, uv, uv, uv] [])) (fun _ k => XS.icmpNo X0.here hx rfl (hb hby at_22) rfl (XT.ii_lt_f br1199) k) ?_
  refine Rch.go (U' := T0.setTop (mkF m 27 #[iv p1, iv p2, iv p3, jv q4, sv, jv q5, sv, iv p6, iv (2 : Int32), jv q4, sv, jv q5, sv, jv x3, sv, uv, uv, uv, uv, uv, uv, uv, uv, uv] [(.long q4)])) (fun _ k => XS.lload X0.here hx rfl (hb hby at_25) rfl  k) ?_
  refine Rch.go (U' := T0.setTop (mkF m 28 #[iv p1, iv p2, iv p3, jv q4, sv, jv q5, sv, iv p6, iv (2 : Int32), jv q4, sv, jv q5, sv, jv x3, sv, uv, uv, uv, uv, uv, uv, uv, uv, uv] [(.long (0 : Int64)), (.long q4)])) (fun _ k => XS.lconst X0.here hx rfl (hb hby at_27) k) ?_
  refine Rch.go (U' := T0.setTop (mkF m 29 #[iv p1, iv p2, iv p3, jv q4, sv, jv q5, sv, iv p6, iv (2 : Int32), jv q4, sv, jv q5, sv, jv x3, sv, uv, uv, uv, uv, uv, uv, uv, uv, uv] [(.int (XT.cmpL q4 (0 : Int64)))])) (fun _ k => XT.lcmp X0.here hx rfl (hb hby at_28) rfl k) ?_
  by_cases br1200 : q4 = (0 : Int64)
  ·
    refine Rch.go (U' := T0.setTop (mkF m 32 #[iv p1, iv p2, iv p3, jv q4, sv, jv q5, sv, iv p6, iv (2 : Int32), jv q4, sv, jv q5, sv, jv x3, sv, uv, uv, uv, uv, uv, uv, uv, uv, uv] [])) (fun _ k => XS.ifNo X0.here hx rfl (hb hby at_29) rfl (XT.ll_ne_f br1200) k) ?_
    refine Rch.go (U' := T0.setTop (mkF m 33 #[iv p1, iv p2, iv p3, jv q4, sv, jv q5, sv, iv p6, iv (2 : Int32), jv q4, sv, jv q5, sv, jv x3, sv, uv, uv, uv, uv, uv, uv, uv, uv, uv] [(.int (1 : Int32))])) (fun _ k => XS.iconst X0.here hx rfl (hb hby at_32) k) ?_
    refine Rch.fin X0 hlk (v := some (.int (nar .boolean (1 : Int32)))) (fun h => by rw [hret] at h; cases h) e0 (by decide) (by decide) (fun fs hr => retN X0 hx (t := .boolean) hret (by simp) (hb hby at_33) hr) ?_
    exact ⟨rfl, N0⟩
  ·
    refine Rch.go (U' := T0.setTop (mkF m 34 #[iv p1, iv p2, iv p3, jv q4, sv, jv q5, sv, iv p6, iv (2 : Int32), jv q4, sv, jv q5, sv, jv x3, sv, uv, uv, uv, uv, uv, uv, uv, uv, uv] [])) (fun _ k => XS.ifYes X0.here hx rfl (pc0 := 29) (pc' := 34) rfl (hb hby at_29) rfl (XT.ll_ne_t br1200) (by decide) (by decide) k) ?_
    refine Rch.go (U' := T0.setTop (mkF m 36 #[iv p1, iv p2, iv p3, jv q4, sv, jv q5, sv, iv p6, iv (2 : Int32), jv q4, sv, jv q5, sv, jv x3, sv, uv, uv, uv, uv, uv, uv, uv, uv, uv] [(.int (2 : Int32))])) (fun _ k => XS.iload X0.here hx rfl (hb hby at_34) rfl  k) ?_
    refine Rch.go (U' := T0.setTop (mkF m 37 #[iv p1, iv p2, iv p3, jv q4, sv, jv q5, sv, iv p6, iv (2 : Int32), jv q4, sv, jv q5, sv, jv x3, sv, uv, uv, uv, uv, uv, uv, uv, uv, uv] [(.int (2 : Int32)), (.int (2 : Int32))])) (fun _ k => XS.iconst X0.here hx rfl (hb hby at_36) k) ?_
    have br1201 : ¬ ((2 : Int32) < (2 : Int32)) := (by decide)
    refine Rch.go (U' := T0.setTop (mkF m 40 #[iv p1, iv p2, iv p3, jv q4, sv, jv q5, sv, iv p6, iv (2 : Int32), jv q4, sv, jv q5, sv, jv x3, sv, uv, uv, uv, uv, uv, uv, uv, uv, uv] [])) (fun _ k => XS.icmpNo X0.here hx rfl (hb hby at_37) rfl (XT.ii_lt_f br1201) k) ?_
    refine Rch.go (U' := T0.setTop (mkF m 42 #[iv p1, iv p2, iv p3, jv q4, sv, jv q5, sv, iv p6, iv (2 : Int32), jv q4, sv, jv q5, sv, jv x3, sv, uv, uv, uv, uv, uv, uv, uv, uv, uv] [(.long q5)])) (fun _ k => XS.lload X0.here hx rfl (hb hby at_40) rfl  k) ?_
    refine Rch.go (U' := T0.setTop (mkF m 43 #[iv p1, iv p2, iv p3, jv q4, sv, jv q5, sv, iv p6, iv (2 : Int32), jv q4, sv, jv q5, sv, jv x3, sv, uv, uv, uv, uv, uv, uv, uv, uv, uv] [(.long (0 : Int64)), (.long q5)])) (fun _ k => XS.lconst X0.here hx rfl (hb hby at_42) k) ?_
    refine Rch.go (U' := T0.setTop (mkF m 44 #[iv p1, iv p2, iv p3, jv q4, sv, jv q5, sv, iv p6, iv (2 : Int32), jv q4, sv, jv q5, sv, jv x3, sv, uv, uv, uv, uv, uv, uv, uv, uv, uv] [(.int (XT.cmpL q5 (0 : Int64)))])) (fun _ k => XT.lcmp X0.here hx rfl (hb hby at_43) rfl k) ?_
    by_cases br1202 : q5 = (0 : Int64)
    ·
      refine Rch.go (U' := T0.setTop (mkF m 55 #[iv p1, iv p2, iv p3, jv q4, sv, jv q5, sv, iv p6, iv (2 : Int32), jv q4, sv, jv q5, sv, jv x3, sv, uv, uv, uv, uv, uv, uv, uv, uv, uv] [])) (fun _ k => XS.ifYes X0.here hx rfl (pc0 := 44) (pc' := 55) rfl (hb hby at_44) rfl (XT.ll_eq_t br1202) (by decide) (by decide) k) ?_
      refine Rch.go (U' := T0.setTop (mkF m 56 #[iv p1, iv p2, iv p3, jv q4, sv, jv q5, sv, iv p6, iv (2 : Int32), jv q4, sv, jv q5, sv, jv x3, sv, uv, uv, uv, uv, uv, uv, uv, uv, uv] [(.int (1 : Int32))])) (fun _ k => XS.iconst X0.here hx rfl (hb hby at_55) k) ?_
      refine Rch.fin X0 hlk (v := some (.int (nar .boolean (1 : Int32)))) (fun h => by rw [hret] at h; cases h) e0 (by decide) (by decide) (fun fs hr => retN X0 hx (t := .boolean) hret (by simp) (hb hby at_56) hr) ?_
      exact ⟨rfl, N0⟩
    ·
      refine Rch.go (U' := T0.setTop (mkF m 47 #[iv p1, iv p2, iv p3, jv q4, sv, jv q5, sv, iv p6, iv (2 : Int32), jv q4, sv, jv q5, sv, jv x3, sv, uv, uv, uv, uv, uv, uv, uv, uv, uv] [])) (fun _ k => XS.ifNo X0.here hx rfl (hb hby at_44) rfl (XT.ll_eq_f br1202) k) ?_
      refine Rch.go (U' := T0.setTop (mkF m 49 #[iv p1, iv p2, iv p3, jv q4, sv, jv q5, sv, iv p6, iv (2 : Int32), jv q4, sv, jv q5, sv, jv x3, sv, uv, uv, uv, uv, uv, uv, uv, uv, uv] [(.long q5)])) (fun _ k => XS.lload X0.here hx rfl (hb hby at_47) rfl  k) ?_
      refine Rch.go (U' := T0.setTop (mkF m 51 #[iv p1, iv p2, iv p3, jv q4, sv, jv q5, sv, iv p6, iv (2 : Int32), jv q4, sv, jv q5, sv, jv x3, sv, uv, uv, uv, uv, uv, uv, uv, uv, uv] [(.long q4), (.long q5)])) (fun _ k => XS.lload X0.here hx rfl (hb hby at_49) rfl  k) ?_
      refine Rch.go (U' := T0.setTop (mkF m 52 #[iv p1, iv p2, iv p3, jv q4, sv, jv q5, sv, iv p6, iv (2 : Int32), jv q4, sv, jv q5, sv, jv x3, sv, uv, uv, uv, uv, uv, uv, uv, uv, uv] [(.int (XT.cmpL q5 q4))])) (fun _ k => XT.lcmp X0.here hx rfl (hb hby at_51) rfl k) ?_
      by_cases br1203 : q5 = q4
      ·
        refine Rch.go (U' := T0.setTop (mkF m 55 #[iv p1, iv p2, iv p3, jv q4, sv, jv q5, sv, iv p6, iv (2 : Int32), jv q4, sv, jv q5, sv, jv x3, sv, uv, uv, uv, uv, uv, uv, uv, uv, uv] [])) (fun _ k => XS.ifNo X0.here hx rfl (hb hby at_52) rfl (XT.ll_ne_f br1203) k) ?_
        refine Rch.go (U' := T0.setTop (mkF m 56 #[iv p1, iv p2, iv p3, jv q4, sv, jv q5, sv, iv p6, iv (2 : Int32), jv q4, sv, jv q5, sv, jv x3, sv, uv, uv, uv, uv, uv, uv, uv, uv, uv] [(.int (1 : Int32))])) (fun _ k => XS.iconst X0.here hx rfl (hb hby at_55) k) ?_
        refine Rch.fin X0 hlk (v := some (.int (nar .boolean (1 : Int32)))) (fun h => by rw [hret] at h; cases h) e0 (by decide) (by decide) (fun fs hr => retN X0 hx (t := .boolean) hret (by simp) (hb hby at_56) hr) ?_
        exact ⟨rfl, N0⟩
      ·
        refine Rch.go (U' := T0.setTop (mkF m 57 #[iv p1, iv p2, iv p3, jv q4, sv, jv q5, sv, iv p6, iv (2 : Int32), jv q4, sv, jv q5, sv, jv x3, sv, uv, uv, uv, uv, uv, uv, uv, uv, uv] [])) (fun _ k => XS.ifYes X0.here hx rfl (pc0 := 52) (pc' := 57) rfl (hb hby at_52) rfl (XT.ll_ne_t br1203) (by decide) (by decide) k) ?_
        refine Rch.go (U' := T0.setTop (mkF m 59 #[iv p1, iv p2, iv p3, jv q4, sv, jv q5, sv, iv p6, iv (2 : Int32), jv q4, sv, jv q5, sv, jv x3, sv, uv, uv, uv, uv, uv, uv, uv, uv, uv] [(.int (2 : Int32))])) (fun _ k => XS.iload X0.here hx rfl (hb hby at_57) rfl  k) ?_
        refine Rch.go (U' := T0.setTop (mkF m 60 #[iv p1, iv p2, iv p3, jv q4, sv, jv q5, sv, iv p6, iv (2 : Int32), jv q4, sv, jv q5, sv, jv x3, sv, uv, uv, uv, uv, uv, uv, uv, uv, uv] [(.int (3 : Int32)), (.int (2 : Int32))])) (fun _ k => XS.iconst X0.here hx rfl (hb hby at_59) k) ?_
        have br1204 : (2 : Int32) < (3 : Int32) := (by decide)
        refine Rch.go (U' := T0.setTop (mkF m 88 #[iv p1, iv p2, iv p3, jv q4, sv, jv q5, sv, iv p6, iv (2 : Int32), jv q4, sv, jv q5, sv, jv x3, sv, uv, uv, uv, uv, uv, uv, uv, uv, uv] [])) (fun _ k => XS.icmpYes X0.here hx rfl (pc0 := 60) (pc' := 88) rfl (hb hby at_60) rfl (XT.ii_lt_t br1204) (by decide) (by decide) k) ?_
        obtain ⟨T1205, h1205, X1205, e1205, E1205, A1205, D1205, -, st1205⟩ := newO X0 hx hZ hown (wi hw 0 rfl) (wi hw 1 rfl) (wi hw 2 rfl) e0 (g := (mkF m 88 #[iv p1, iv p2, iv p3, jv q4, sv, jv q5, sv, iv p6, iv (2 : Int32), jv q4, sv, jv q5, sv, jv x3, sv, uv, uv, uv, uv, uv, uv, uv, uv, uv] [])) rfl (hb hby at_88) (by decide) (by decide)
        obtain ⟨b1205, g1205⟩ : ∃ z, z = h0.size := ⟨_, rfl⟩
        rw [← g1205] at A1205 D1205 st1205
        have n0b1205 : n0 ≤ b1205 := Nat.le_trans Z0 (Nat.le_of_eq g1205.symm)
        have z1206 := Nat.le_trans Z0 E1205.1
        have F1205_earliest : Fld Z h1205 b1205 cST "earliest" "J" (.long (0 : Int64)) := D1205 (Or.inl (wi hw 11 rfl)) (ty := .long) (by decide)
        have F1205_earliestOfWalk : Fld Z h1205 b1205 cST "earliestOfWalk" "J" (.long (0 : Int64)) := D1205 (Or.inl (wi hw 13 rfl)) (ty := .long) (by decide)
        have F1205_count : Fld Z h1205 b1205 cST "count" "I" (.int (0 : Int32)) := D1205 (Or.inl (wi hw 20 rfl)) (ty := .int) (by decide)
        have F1205_handles : Fld Z h1205 b1205 cST "handles" "[J" .null := D1205 (Or.inl (wi hw 27 rfl)) (ty := (.array .long)) (by decide)
        have F1205_hashes : Fld Z h1205 b1205 cST "hashes" "[I" .null := D1205 (Or.inl (wi hw 37 rfl)) (ty := (.array .int)) (by decide)
        have F1205_lengths : Fld Z h1205 b1205 cST "lengths" "[I" .null := D1205 (Or.inl (wi hw 39 rfl)) (ty := (.array .int)) (by decide)
        have F1205_outside : Fld Z h1205 b1205 cST "outside" "[[B" .null := D1205 (Or.inl (wi hw 41 rfl)) (ty := (.array (.array .byte))) (by decide)
        have F1205_marks : Fld Z h1205 b1205 cST "marks" "Ljava/util/BitSet;" .null := D1205 (Or.inl (wi hw 43 rfl)) (ty := (.object "java/util/BitSet")) (by decide)
        have F1205_expiries : Fld Z h1205 b1205 cST "expiries" "Ljava/util/BitSet;" .null := D1205 (Or.inl (wi hw 45 rfl)) (ty := (.object "java/util/BitSet")) (by decide)
        have F1205_moves : Fld Z h1205 b1205 cST "moves" "J" (.long (0 : Int64)) := D1205 (Or.inl (wi hw 49 rfl)) (ty := .long) (by decide)
        have F1205_expiring : Fld Z h1205 b1205 cST "expiring" "I" (.int (0 : Int32)) := D1205 (Or.inl (wi hw 66 rfl)) (ty := .int) (by decide)
        refine Rch.go (U' := T1205.setTop (mkF m 91 #[iv p1, iv p2, iv p3, jv q4, sv, jv q5, sv, iv p6, iv (2 : Int32), jv q4, sv, jv q5, sv, jv x3, sv, uv, uv, uv, uv, uv, uv, uv, uv, uv] [(.ref b1205)])) st1205 ?_
        refine Rch.go (U' := T1205.setTop (mkF m 92 #[iv p1, iv p2, iv p3, jv q4, sv, jv q5, sv, iv p6, iv (2 : Int32), jv q4, sv, jv q5, sv, jv x3, sv, uv, uv, uv, uv, uv, uv, uv, uv, uv] [(.ref b1205), (.ref b1205)])) (fun _ k => XS.dup X1205.here hx rfl (hb hby at_91) rfl rfl k) ?_
        obtain ⟨_, _, ⟨T1207, L1207, k1207, n1207⟩, -, X1207, ⟨Lc1207, hQ1207, l1207, y1207, z1207⟩, st1207⟩ := X1205.specialBack hx (y := yN) rfl hown (mvT hZ (wi hw 3 rfl)) (mvT hZ (wi hw 4 rfl)) (mvT hZ (wi hw 5 rfl)) (by decide) (backOf (W := 1) (rmNew l Z a0 hw [] b1205 (0 : Int64) (0 : Int64) (0 : Int32) (0 : Int64) (0 : Int32) h1205 n0 z1206 A1205 F1205_earliest F1205_earliestOfWalk F1205_count F1205_handles F1205_hashes F1205_lengths F1205_outside F1205_marks F1205_expiries F1205_moves F1205_expiring n0b1205) hZ (wi hw 5 rfl) (wi hw 2 rfl) (by decide) (by decide)) (g := (mkF m 92 #[iv p1, iv p2, iv p3, jv q4, sv, jv q5, sv, iv p6, iv (2 : Int32), jv q4, sv, jv q5, sv, jv x3, sv, uv, uv, uv, uv, uv, uv, uv, uv, uv] [(.ref b1205), (.ref b1205)])) rfl (by rw [hml]; rfl) (Steps.refl _) (a := b1205) (argsL := []) (rest := [(.ref b1205)]) (lenOf pd_13 rfl) rfl (by show 2 * 0 + _ ≤ _; exact Nat.le_of_eq rfl) (hb hby at_92) (fun _ _ => ⟨rfl, e1205, (by decide : 1 + 0 ≤ _), (by decide : 12 + 0 ≤ _)⟩)
        dsimp only [Pt.U, Pt.locs, Pt.cells, Pt.slots] at X1207 l1207 y1207 z1207 st1207 hQ1207
        subst l1207 y1207 z1207
        obtain ⟨rfl, N1207q, K1207q, F1207_earliest, F1207_earliestOfWalk, F1207_count, F1207_handles, F1207_hashes, F1207_lengths, F1207_outside, F1207_marks, F1207_expiries, F1207_moves, F1207_expiring⟩ := hQ1207
        have N1207 := Fr.app N0 N1207q
        have z1208 := Nat.le_trans z1206 K1207q.1
        have f1209 := A1205.keep K1207q
        refine Rch.to (U' := T1207.setTop (mkF m 95 #[iv p1, iv p2, iv p3, jv q4, sv, jv q5, sv, iv p6, iv (2 : Int32), jv q4, sv, jv q5, sv, jv x3, sv, uv, uv, uv, uv, uv, uv, uv, uv, uv] [(.ref b1205)])) st1207 ?_
        refine Rch.go (U' := T1207.setTop (mkF m 97 #[iv p1, iv p2, iv p3, jv q4, sv, jv q5, sv, iv p6, iv (2 : Int32), jv q4, sv, jv q5, sv, jv x3, sv, rv b1205, uv, uv, uv, uv, uv, uv, uv, uv] [])) (fun _ k => XS.astore X1207.here hx rfl (hb hby at_95) rfl rfl (l' := #[iv p1, iv p2, iv p3, jv q4, sv, jv q5, sv, iv p6, iv (2 : Int32), jv q4, sv, jv q5, sv, jv x3, sv, rv b1205, uv, uv, uv, uv, uv, uv, uv, uv]) rfl k) ?_
        refine Rch.go (U' := T1207.setTop (mkF m 98 #[iv p1, iv p2, iv p3, jv q4, sv, jv q5, sv, iv p6, iv (2 : Int32), jv q4, sv, jv q5, sv, jv x3, sv, rv b1205, uv, uv, uv, uv, uv, uv, uv, uv] [(.int (-1 : Int32))])) (fun _ k => XS.iconst X1207.here hx rfl (hb hby at_97) k) ?_
        refine Rch.go (U' := T1207.setTop (mkF m 100 #[iv p1, iv p2, iv p3, jv q4, sv, jv q5, sv, iv p6, iv (2 : Int32), jv q4, sv, jv q5, sv, jv x3, sv, rv b1205, iv (-1 : Int32), uv, uv, uv, uv, uv, uv, uv] [])) (fun _ k => XS.istore X1207.here hx rfl (hb hby at_98) rfl (l' := #[iv p1, iv p2, iv p3, jv q4, sv, jv q5, sv, iv p6, iv (2 : Int32), jv q4, sv, jv q5, sv, jv x3, sv, rv b1205, iv (-1 : Int32), uv, uv, uv, uv, uv, uv, uv]) rfl k) ?_
        refine Rch.go (U' := T1207.setTop (mkF m 101 #[iv p1, iv p2, iv p3, jv q4, sv, jv q5, sv, iv p6, iv (2 : Int32), jv q4, sv, jv q5, sv, jv x3, sv, rv b1205, iv (-1 : Int32), uv, uv, uv, uv, uv, uv, uv] [(.int (-1 : Int32))])) (fun _ k => XS.iconst X1207.here hx rfl (hb hby at_100) k) ?_
        refine Rch.go (U' := T1207.setTop (mkF m 103 #[iv p1, iv p2, iv p3, jv q4, sv, jv q5, sv, iv p6, iv (2 : Int32), jv q4, sv, jv q5, sv, jv x3, sv, rv b1205, iv (-1 : Int32), iv (-1 : Int32), uv, uv, uv, uv, uv, uv] [])) (fun _ k => XS.istore X1207.here hx rfl (hb hby at_101) rfl (l' := #[iv p1, iv p2, iv p3, jv q4, sv, jv q5, sv, iv p6, iv (2 : Int32), jv q4, sv, jv q5, sv, jv x3, sv, rv b1205, iv (-1 : Int32), iv (-1 : Int32), uv, uv, uv, uv, uv, uv]) rfl k) ?_
        refine Rch.go (U' := T1207.setTop (mkF m 104 #[iv p1, iv p2, iv p3, jv q4, sv, jv q5, sv, iv p6, iv (2 : Int32), jv q4, sv, jv q5, sv, jv x3, sv, rv b1205, iv (-1 : Int32), iv (-1 : Int32), uv, uv, uv, uv, uv, uv] [(.int (-1 : Int32))])) (fun _ k => XS.iconst X1207.here hx rfl (hb hby at_103) k) ?_
        refine Rch.go (U' := T1207.setTop (mkF m 106 #[iv p1, iv p2, iv p3, jv q4, sv, jv q5, sv, iv p6, iv (2 : Int32), jv q4, sv, jv q5, sv, jv x3, sv, rv b1205, iv (-1 : Int32), iv (-1 : Int32), iv (-1 : Int32), uv, uv, uv, uv, uv] [])) (fun _ k => XS.istore X1207.here hx rfl (hb hby at_104) rfl (l' := #[iv p1, iv p2, iv p3, jv q4, sv, jv q5, sv, iv p6, iv (2 : Int32), jv q4, sv, jv q5, sv, jv x3, sv, rv b1205, iv (-1 : Int32), iv (-1 : Int32), iv (-1 : Int32), uv, uv, uv, uv, uv]) rfl k) ?_
        refine Rch.go (U' := T1207.setTop (mkF m 108 #[iv p1, iv p2, iv p3, jv q4, sv, jv q5, sv, iv p6, iv (2 : Int32), jv q4, sv, jv q5, sv, jv x3, sv, rv b1205, iv (-1 : Int32), iv (-1 : Int32), iv (-1 : Int32), uv, uv, uv, uv, uv] [(.int (2 : Int32))])) (fun _ k => XS.iload X1207.here hx rfl (hb hby at_106) rfl  k) ?_
        refine Rch.go (U' := T1207.setTop (mkF m 109 #[iv p1, iv p2, iv p3, jv q4, sv, jv q5, sv, iv p6, iv (2 : Int32), jv q4, sv, jv q5, sv, jv x3, sv, rv b1205, iv (-1 : Int32), iv (-1 : Int32), iv (-1 : Int32), uv, uv, uv, uv, uv] [(.int (1 : Int32)), (.int (2 : Int32))])) (fun _ k => XS.iconst X1207.here hx rfl (hb hby at_108) k) ?_
        have br1210 : ¬ ((2 : Int32) < (1 : Int32)) := (by decide)
        refine Rch.go (U' := T1207.setTop (mkF m 112 #[iv p1, iv p2, iv p3, jv q4, sv, jv q5, sv, iv p6, iv (2 : Int32), jv q4, sv, jv q5, sv, jv x3, sv, rv b1205, iv (-1 : Int32), iv (-1 : Int32), iv (-1 : Int32), uv, uv, uv, uv, uv] [])) (fun _ k => XS.icmpNo X1207.here hx rfl (hb hby at_109) rfl (XT.ii_lt_f br1210) k) ?_
        refine Rch.go (U' := T1207.setTop (mkF m 114 #[iv p1, iv p2, iv p3, jv q4, sv, jv q5, sv, iv p6, iv (2 : Int32), jv q4, sv, jv q5, sv, jv x3, sv, rv b1205, iv (-1 : Int32), iv (-1 : Int32), iv (-1 : Int32), uv, uv, uv, uv, uv] [(.ref b1205)])) (fun _ k => XS.aload X1207.here hx rfl (hb hby at_112) rfl rfl k) ?_
        refine Rch.go (U' := T1207.setTop (mkF m 115 #[iv p1, iv p2, iv p3, jv q4, sv, jv q5, sv, iv p6, iv (2 : Int32), jv q4, sv, jv q5, sv, jv x3, sv, rv b1205, iv (-1 : Int32), iv (-1 : Int32), iv (-1 : Int32), uv, uv, uv, uv, uv] [(.int p1), (.ref b1205)])) (fun _ k => XS.iloadN X1207.here hx rfl (hb hby at_114) rfl  k) ?_
        refine Rch.go (U' := T1207.setTop (mkF m 117 #[iv p1, iv p2, iv p3, jv q4, sv, jv q5, sv, iv p6, iv (2 : Int32), jv q4, sv, jv q5, sv, jv x3, sv, rv b1205, iv (-1 : Int32), iv (-1 : Int32), iv (-1 : Int32), uv, uv, uv, uv, uv] [(.long q4), (.int p1), (.ref b1205)])) (fun _ k => XS.lload X1207.here hx rfl (hb hby at_115) rfl  k) ?_
        refine Rch.go (U' := T1207.setTop (mkF m 119 #[iv p1, iv p2, iv p3, jv q4, sv, jv q5, sv, iv p6, iv (2 : Int32), jv q4, sv, jv q5, sv, jv x3, sv, rv b1205, iv (-1 : Int32), iv (-1 : Int32), iv (-1 : Int32), uv, uv, uv, uv, uv] [(.int (16 : Int32)), (.long q4), (.int p1), (.ref b1205)])) (fun _ k => XS.bipush X1207.here hx rfl (hb hby at_117) k) ?_
        refine Rch.go (U' := T1207.setTop (mkF m 120 #[iv p1, iv p2, iv p3, jv q4, sv, jv q5, sv, iv p6, iv (2 : Int32), jv q4, sv, jv q5, sv, jv x3, sv, rv b1205, iv (-1 : Int32), iv (-1 : Int32), iv (-1 : Int32), uv, uv, uv, uv, uv] [.null, (.int (16 : Int32)), (.long q4), (.int p1), (.ref b1205)])) (fun _ k => XS.aconstNull X1207.here hx rfl (hb hby at_119) k) ?_
        refine Rch.go (U' := T1207.setTop (mkF m 121 #[iv p1, iv p2, iv p3, jv q4, sv, jv q5, sv, iv p6, iv (2 : Int32), jv q4, sv, jv q5, sv, jv x3, sv, rv b1205, iv (-1 : Int32), iv (-1 : Int32), iv (-1 : Int32), uv, uv, uv, uv, uv] [(.int (0 : Int32)), .null, (.int (16 : Int32)), (.long q4), (.int p1), (.ref b1205)])) (fun _ k => XS.iconst X1207.here hx rfl (hb hby at_120) k) ?_
        obtain ⟨cq1211, kq1211, q1211a, q1211b, q1211c⟩ := isOf hZ rfl f1209
        obtain ⟨_, _, ⟨T1211, L1211, k1211, n1211⟩, -, X1211, ⟨Lc1211, hQ1211, l1211, y1211, z1211⟩, st1211⟩ := X1207.virtualBack hx (y := yA) (z := yA) hown (mvT hZ (wi hw 14 rfl)) (mvT hZ (wi hw 15 rfl)) (notFace_of_selects (args := #[]) (mvT hZ (wi hw 17 rfl))) (mvT hZ (wi hw 17 rfl)) (mvT hZ (wi hw 16 rfl)) (by decide) (backOf (W := 0) (rmAE l Z a0 hw [] b1205 (0 : Int64) p1 q4 (16 : Int32) T1207.heap n0 z1208 f1209 F1207_count F1207_handles F1207_hashes F1207_lengths F1207_outside F1207_marks F1207_expiries F1207_moves n0b1205) hZ (wi hw 18 rfl) (wi hw 2 rfl) (by decide) (by decide)) q1211a q1211c (g := (mkF m 121 #[iv p1, iv p2, iv p3, jv q4, sv, jv q5, sv, iv p6, iv (2 : Int32), jv q4, sv, jv q5, sv, jv x3, sv, rv b1205, iv (-1 : Int32), iv (-1 : Int32), iv (-1 : Int32), uv, uv, uv, uv, uv] [(.int (0 : Int32)), .null, (.int (16 : Int32)), (.long q4), (.int p1), (.ref b1205)])) rfl (by rw [hml]; rfl) (Steps.refl _) (argsL := [(.int p1), (.long q4), (.int (16 : Int32)), .null, (.int (0 : Int32))]) (rest := []) (lenOf pd_14 rfl) rfl (by show 2 * 0 + _ ≤ _; exact Nat.le_of_eq rfl) (hb hby at_121) (fun _ _ => ⟨rfl, rfl, (by decide : 1 + 3 ≤ _), (by decide : 12 + 12 ≤ _)⟩)
        dsimp only [Pt.U, Pt.locs, Pt.cells, Pt.slots] at X1211 l1211 y1211 z1211 st1211 hQ1211
        subst l1211 y1211 z1211
        obtain ⟨bh, ba, bl, kh, ka, kl, va1211, vl1211, rfl, N1211q, z1211, B1211⟩ := hQ1211
        have N1211 := Fr.app N1207 N1211q
        refine Rch.to (U' := T1211.setTop (mkF m 124 #[iv p1, iv p2, iv p3, jv q4, sv, jv q5, sv, iv p6, iv (2 : Int32), jv q4, sv, jv q5, sv, jv x3, sv, rv b1205, iv (-1 : Int32), iv (-1 : Int32), iv (-1 : Int32), uv, uv, uv, uv, uv] [(.int (Int32.ofNat (own_free own_g0 4 (own_s p1))))])) st1211 ?_
        refine Rch.go (U' := T1211.setTop (mkF m 126 #[iv p1, iv p2, iv p3, jv q4, sv, jv q5, sv, iv p6, iv (2 : Int32), jv q4, sv, jv q5, sv, jv x3, sv, rv b1205, iv (Int32.ofNat (own_free own_g0 4 (own_s p1))), iv (-1 : Int32), iv (-1 : Int32), uv, uv, uv, uv, uv] [])) (fun _ k => XS.istore X1211.here hx rfl (hb hby at_124) rfl (l' := #[iv p1, iv p2, iv p3, jv q4, sv, jv q5, sv, iv p6, iv (2 : Int32), jv q4, sv, jv q5, sv, jv x3, sv, rv b1205, iv (Int32.ofNat (own_free own_g0 4 (own_s p1))), iv (-1 : Int32), iv (-1 : Int32), uv, uv, uv, uv, uv]) rfl k) ?_
        refine Rch.go (U' := T1211.setTop (mkF m 128 #[iv p1, iv p2, iv p3, jv q4, sv, jv q5, sv, iv p6, iv (2 : Int32), jv q4, sv, jv q5, sv, jv x3, sv, rv b1205, iv (Int32.ofNat (own_free own_g0 4 (own_s p1))), iv (-1 : Int32), iv (-1 : Int32), uv, uv, uv, uv, uv] [(.int (2 : Int32))])) (fun _ k => XS.iload X1211.here hx rfl (hb hby at_126) rfl  k) ?_
        refine Rch.go (U' := T1211.setTop (mkF m 129 #[iv p1, iv p2, iv p3, jv q4, sv, jv q5, sv, iv p6, iv (2 : Int32), jv q4, sv, jv q5, sv, jv x3, sv, rv b1205, iv (Int32.ofNat (own_free own_g0 4 (own_s p1))), iv (-1 : Int32), iv (-1 : Int32), uv, uv, uv, uv, uv] [(.int (2 : Int32)), (.int (2 : Int32))])) (fun _ k => XS.iconst X1211.here hx rfl (hb hby at_128) k) ?_
        have br1212 : ¬ ((2 : Int32) < (2 : Int32)) := (by decide)
        refine Rch.go (U' := T1211.setTop (mkF m 132 #[iv p1, iv p2, iv p3, jv q4, sv, jv q5, sv, iv p6, iv (2 : Int32), jv q4, sv, jv q5, sv, jv x3, sv, rv b1205, iv (Int32.ofNat (own_free own_g0 4 (own_s p1))), iv (-1 : Int32), iv (-1 : Int32), uv, uv, uv, uv, uv] [])) (fun _ k => XS.icmpNo X1211.here hx rfl (hb hby at_129) rfl (XT.ii_lt_f br1212) k) ?_
        refine Rch.go (U' := T1211.setTop (mkF m 134 #[iv p1, iv p2, iv p3, jv q4, sv, jv q5, sv, iv p6, iv (2 : Int32), jv q4, sv, jv q5, sv, jv x3, sv, rv b1205, iv (Int32.ofNat (own_free own_g0 4 (own_s p1))), iv (-1 : Int32), iv (-1 : Int32), uv, uv, uv, uv, uv] [(.ref b1205)])) (fun _ k => XS.aload X1211.here hx rfl (hb hby at_132) rfl rfl k) ?_
        refine Rch.go (U' := T1211.setTop (mkF m 135 #[iv p1, iv p2, iv p3, jv q4, sv, jv q5, sv, iv p6, iv (2 : Int32), jv q4, sv, jv q5, sv, jv x3, sv, rv b1205, iv (Int32.ofNat (own_free own_g0 4 (own_s p1))), iv (-1 : Int32), iv (-1 : Int32), uv, uv, uv, uv, uv] [(.int p2), (.ref b1205)])) (fun _ k => XS.iloadN X1211.here hx rfl (hb hby at_134) rfl  k) ?_
        refine Rch.go (U' := T1211.setTop (mkF m 137 #[iv p1, iv p2, iv p3, jv q4, sv, jv q5, sv, iv p6, iv (2 : Int32), jv q4, sv, jv q5, sv, jv x3, sv, rv b1205, iv (Int32.ofNat (own_free own_g0 4 (own_s p1))), iv (-1 : Int32), iv (-1 : Int32), uv, uv, uv, uv, uv] [(.long q5), (.int p2), (.ref b1205)])) (fun _ k => XS.lload X1211.here hx rfl (hb hby at_135) rfl  k) ?_
        refine Rch.go (U' := T1211.setTop (mkF m 139 #[iv p1, iv p2, iv p3, jv q4, sv, jv q5, sv, iv p6, iv (2 : Int32), jv q4, sv, jv q5, sv, jv x3, sv, rv b1205, iv (Int32.ofNat (own_free own_g0 4 (own_s p1))), iv (-1 : Int32), iv (-1 : Int32), uv, uv, uv, uv, uv] [(.int (16 : Int32)), (.long q5), (.int p2), (.ref b1205)])) (fun _ k => XS.bipush X1211.here hx rfl (hb hby at_137) k) ?_
        refine Rch.go (U' := T1211.setTop (mkF m 140 #[iv p1, iv p2, iv p3, jv q4, sv, jv q5, sv, iv p6, iv (2 : Int32), jv q4, sv, jv q5, sv, jv x3, sv, rv b1205, iv (Int32.ofNat (own_free own_g0 4 (own_s p1))), iv (-1 : Int32), iv (-1 : Int32), uv, uv, uv, uv, uv] [.null, (.int (16 : Int32)), (.long q5), (.int p2), (.ref b1205)])) (fun _ k => XS.aconstNull X1211.here hx rfl (hb hby at_139) k) ?_
        refine Rch.go (U' := T1211.setTop (mkF m 141 #[iv p1, iv p2, iv p3, jv q4, sv, jv q5, sv, iv p6, iv (2 : Int32), jv q4, sv, jv q5, sv, jv x3, sv, rv b1205, iv (Int32.ofNat (own_free own_g0 4 (own_s p1))), iv (-1 : Int32), iv (-1 : Int32), uv, uv, uv, uv, uv] [(.int (0 : Int32)), .null, (.int (16 : Int32)), (.long q5), (.int p2), (.ref b1205)])) (fun _ k => XS.iconst X1211.here hx rfl (hb hby at_140) k) ?_
        obtain ⟨cq1213, kq1213, q1213a, q1213b, q1213c⟩ := isOf hZ rfl B1211.1
        obtain ⟨_, _, ⟨T1213, L1213, k1213, n1213⟩, -, X1213, ⟨Lc1213, hQ1213, l1213, y1213, z1213⟩, st1213⟩ := X1211.virtualBack hx (y := yA) (z := yA) hown (mvT hZ (wi hw 14 rfl)) (mvT hZ (wi hw 15 rfl)) (notFace_of_selects (args := #[]) (mvT hZ (wi hw 17 rfl))) (mvT hZ (wi hw 17 rfl)) (mvT hZ (wi hw 16 rfl)) (by decide) (backOf (W := 0) (rmAN l Z a0 hw [] b1205 bh ba bl kh ka kl ((0 : Int32) + (1 : Int32)) (own_add own_g0 (own_s p1) q4) va1211 vl1211 p2 q5 (16 : Int32) T1211.heap n0 z1211 B1211 (own_hz1 _ _) (by decide)) hZ (wi hw 18 rfl) (wi hw 2 rfl) (by decide) (by decide)) q1213a q1213c (g := (mkF m 141 #[iv p1, iv p2, iv p3, jv q4, sv, jv q5, sv, iv p6, iv (2 : Int32), jv q4, sv, jv q5, sv, jv x3, sv, rv b1205, iv (Int32.ofNat (own_free own_g0 4 (own_s p1))), iv (-1 : Int32), iv (-1 : Int32), uv, uv, uv, uv, uv] [(.int (0 : Int32)), .null, (.int (16 : Int32)), (.long q5), (.int p2), (.ref b1205)])) rfl (by rw [hml]; rfl) (Steps.refl _) (argsL := [(.int p2), (.long q5), (.int (16 : Int32)), .null, (.int (0 : Int32))]) (rest := []) (lenOf pd_14 rfl) rfl (by show 2 * 0 + _ ≤ _; exact Nat.le_of_eq rfl) (hb hby at_141) (fun _ _ => ⟨rfl, rfl, (by decide : 4 + 3 ≤ _), (by decide : 24 + 12 ≤ _)⟩)
        dsimp only [Pt.U, Pt.locs, Pt.cells, Pt.slots] at X1213 l1213 y1213 z1213 st1213 hQ1213
        subst l1213 y1213 z1213
        obtain ⟨va1213, vl1213, rfl, N1213q, z1213, B1213⟩ := hQ1213
        have N1213 := Fr.app N1211 N1213q
        refine Rch.to (U' := T1213.setTop (mkF m 144 #[iv p1, iv p2, iv p3, jv q4, sv, jv q5, sv, iv p6, iv (2 : Int32), jv q4, sv, jv q5, sv, jv x3, sv, rv b1205, iv (Int32.ofNat (own_free own_g0 4 (own_s p1))), iv (-1 : Int32), iv (-1 : Int32), uv, uv, uv, uv, uv] [(.int (Int32.ofNat (own_free (own_add own_g0 (own_s p1) q4) 4 (own_s p2))))])) st1213 ?_
        refine Rch.go (U' := T1213.setTop (mkF m 146 #[iv p1, iv p2, iv p3, jv q4, sv, jv q5, sv, iv p6, iv (2 : Int32), jv q4, sv, jv q5, sv, jv x3, sv, rv b1205, iv (Int32.ofNat (own_free own_g0 4 (own_s p1))), iv (Int32.ofNat (own_free (own_add own_g0 (own_s p1) q4) 4 (own_s p2))), iv (-1 : Int32), uv, uv, uv, uv, uv] [])) (fun _ k => XS.istore X1213.here hx rfl (hb hby at_144) rfl (l' := #[iv p1, iv p2, iv p3, jv q4, sv, jv q5, sv, iv p6, iv (2 : Int32), jv q4, sv, jv q5, sv, jv x3, sv, rv b1205, iv (Int32.ofNat (own_free own_g0 4 (own_s p1))), iv (Int32.ofNat (own_free (own_add own_g0 (own_s p1) q4) 4 (own_s p2))), iv (-1 : Int32), uv, uv, uv, uv, uv]) rfl k) ?_
        refine Rch.go (U' := T1213.setTop (mkF m 148 #[iv p1, iv p2, iv p3, jv q4, sv, jv q5, sv, iv p6, iv (2 : Int32), jv q4, sv, jv q5, sv, jv x3, sv, rv b1205, iv (Int32.ofNat (own_free own_g0 4 (own_s p1))), iv (Int32.ofNat (own_free (own_add own_g0 (own_s p1) q4) 4 (own_s p2))), iv (-1 : Int32), uv, uv, uv, uv, uv] [(.int (2 : Int32))])) (fun _ k => XS.iload X1213.here hx rfl (hb hby at_146) rfl  k) ?_
        refine Rch.go (U' := T1213.setTop (mkF m 149 #[iv p1, iv p2, iv p3, jv q4, sv, jv q5, sv, iv p6, iv (2 : Int32), jv q4, sv, jv q5, sv, jv x3, sv, rv b1205, iv (Int32.ofNat (own_free own_g0 4 (own_s p1))), iv (Int32.ofNat (own_free (own_add own_g0 (own_s p1) q4) 4 (own_s p2))), iv (-1 : Int32), uv, uv, uv, uv, uv] [(.int (3 : Int32)), (.int (2 : Int32))])) (fun _ k => XS.iconst X1213.here hx rfl (hb hby at_148) k) ?_
        have br1214 : (2 : Int32) < (3 : Int32) := (by decide)
        refine Rch.go (U' := T1213.setTop (mkF m 166 #[iv p1, iv p2, iv p3, jv q4, sv, jv q5, sv, iv p6, iv (2 : Int32), jv q4, sv, jv q5, sv, jv x3, sv, rv b1205, iv (Int32.ofNat (own_free own_g0 4 (own_s p1))), iv (Int32.ofNat (own_free (own_add own_g0 (own_s p1) q4) 4 (own_s p2))), iv (-1 : Int32), uv, uv, uv, uv, uv] [])) (fun _ k => XS.icmpYes X1213.here hx rfl (pc0 := 149) (pc' := 166) rfl (hb hby at_149) rfl (XT.ii_lt_t br1214) (by decide) (by decide) k) ?_
        refine Rch.go (U' := T1213.setTop (mkF m 167 #[iv p1, iv p2, iv p3, jv q4, sv, jv q5, sv, iv p6, iv (2 : Int32), jv q4, sv, jv q5, sv, jv x3, sv, rv b1205, iv (Int32.ofNat (own_free own_g0 4 (own_s p1))), iv (Int32.ofNat (own_free (own_add own_g0 (own_s p1) q4) 4 (own_s p2))), iv (-1 : Int32), uv, uv, uv, uv, uv] [(.int (1 : Int32))])) (fun _ k => XS.iconst X1213.here hx rfl (hb hby at_166) k) ?_
        refine Rch.go (U' := T1213.setTop (mkF m 169 #[iv p1, iv p2, iv p3, jv q4, sv, jv q5, sv, iv p6, iv (2 : Int32), jv q4, sv, jv q5, sv, jv x3, sv, rv b1205, iv (Int32.ofNat (own_free own_g0 4 (own_s p1))), iv (Int32.ofNat (own_free (own_add own_g0 (own_s p1) q4) 4 (own_s p2))), iv (-1 : Int32), iv (1 : Int32), uv, uv, uv, uv] [])) (fun _ k => XS.istore X1213.here hx rfl (hb hby at_167) rfl (l' := #[iv p1, iv p2, iv p3, jv q4, sv, jv q5, sv, iv p6, iv (2 : Int32), jv q4, sv, jv q5, sv, jv x3, sv, rv b1205, iv (Int32.ofNat (own_free own_g0 4 (own_s p1))), iv (Int32.ofNat (own_free (own_add own_g0 (own_s p1) q4) 4 (own_s p2))), iv (-1 : Int32), iv (1 : Int32), uv, uv, uv, uv]) rfl k) ?_
        refine Rch.go (U' := T1213.setTop (mkF m 171 #[iv p1, iv p2, iv p3, jv q4, sv, jv q5, sv, iv p6, iv (2 : Int32), jv q4, sv, jv q5, sv, jv x3, sv, rv b1205, iv (Int32.ofNat (own_free own_g0 4 (own_s p1))), iv (Int32.ofNat (own_free (own_add own_g0 (own_s p1) q4) 4 (own_s p2))), iv (-1 : Int32), iv (1 : Int32), uv, uv, uv, uv] [(.int (2 : Int32))])) (fun _ k => XS.iload X1213.here hx rfl (hb hby at_169) rfl  k) ?_
        refine Rch.go (U' := T1213.setTop (mkF m 172 #[iv p1, iv p2, iv p3, jv q4, sv, jv q5, sv, iv p6, iv (2 : Int32), jv q4, sv, jv q5, sv, jv x3, sv, rv b1205, iv (Int32.ofNat (own_free own_g0 4 (own_s p1))), iv (Int32.ofNat (own_free (own_add own_g0 (own_s p1) q4) 4 (own_s p2))), iv (-1 : Int32), iv (1 : Int32), uv, uv, uv, uv] [(.int (1 : Int32)), (.int (2 : Int32))])) (fun _ k => XS.iconst X1213.here hx rfl (hb hby at_171) k) ?_
        have br1215 : ¬ ((2 : Int32) < (1 : Int32)) := (by decide)
        refine Rch.go (U' := T1213.setTop (mkF m 175 #[iv p1, iv p2, iv p3, jv q4, sv, jv q5, sv, iv p6, iv (2 : Int32), jv q4, sv, jv q5, sv, jv x3, sv, rv b1205, iv (Int32.ofNat (own_free own_g0 4 (own_s p1))), iv (Int32.ofNat (own_free (own_add own_g0 (own_s p1) q4) 4 (own_s p2))), iv (-1 : Int32), iv (1 : Int32), uv, uv, uv, uv] [])) (fun _ k => XS.icmpNo X1213.here hx rfl (hb hby at_172) rfl (XT.ii_lt_f br1215) k) ?_
        refine Rch.go (U' := T1213.setTop (mkF m 177 #[iv p1, iv p2, iv p3, jv q4, sv, jv q5, sv, iv p6, iv (2 : Int32), jv q4, sv, jv q5, sv, jv x3, sv, rv b1205, iv (Int32.ofNat (own_free own_g0 4 (own_s p1))), iv (Int32.ofNat (own_free (own_add own_g0 (own_s p1) q4) 4 (own_s p2))), iv (-1 : Int32), iv (1 : Int32), uv, uv, uv, uv] [(.int (1 : Int32))])) (fun _ k => XS.iload X1213.here hx rfl (hb hby at_175) rfl  k) ?_
        have br1216 : ¬ ((1 : Int32) = (0 : Int32)) := (by decide)
        refine Rch.go (U' := T1213.setTop (mkF m 180 #[iv p1, iv p2, iv p3, jv q4, sv, jv q5, sv, iv p6, iv (2 : Int32), jv q4, sv, jv q5, sv, jv x3, sv, rv b1205, iv (Int32.ofNat (own_free own_g0 4 (own_s p1))), iv (Int32.ofNat (own_free (own_add own_g0 (own_s p1) q4) 4 (own_s p2))), iv (-1 : Int32), iv (1 : Int32), uv, uv, uv, uv] [])) (fun _ k => XS.ifNo X1213.here hx rfl (hb hby at_177) rfl (XT.i0_eq_f br1216) k) ?_
        refine Rch.go (U' := T1213.setTop (mkF m 182 #[iv p1, iv p2, iv p3, jv q4, sv, jv q5, sv, iv p6, iv (2 : Int32), jv q4, sv, jv q5, sv, jv x3, sv, rv b1205, iv (Int32.ofNat (own_free own_g0 4 (own_s p1))), iv (Int32.ofNat (own_free (own_add own_g0 (own_s p1) q4) 4 (own_s p2))), iv (-1 : Int32), iv (1 : Int32), uv, uv, uv, uv] [(.ref b1205)])) (fun _ k => XS.aload X1213.here hx rfl (hb hby at_180) rfl rfl k) ?_
        refine Rch.go (U' := T1213.setTop (mkF m 183 #[iv p1, iv p2, iv p3, jv q4, sv, jv q5, sv, iv p6, iv (2 : Int32), jv q4, sv, jv q5, sv, jv x3, sv, rv b1205, iv (Int32.ofNat (own_free own_g0 4 (own_s p1))), iv (Int32.ofNat (own_free (own_add own_g0 (own_s p1) q4) 4 (own_s p2))), iv (-1 : Int32), iv (1 : Int32), uv, uv, uv, uv] [(.int p1), (.ref b1205)])) (fun _ k => XS.iloadN X1213.here hx rfl (hb hby at_182) rfl  k) ?_
        refine Rch.go (U' := T1213.setTop (mkF m 185 #[iv p1, iv p2, iv p3, jv q4, sv, jv q5, sv, iv p6, iv (2 : Int32), jv q4, sv, jv q5, sv, jv x3, sv, rv b1205, iv (Int32.ofNat (own_free own_g0 4 (own_s p1))), iv (Int32.ofNat (own_free (own_add own_g0 (own_s p1) q4) 4 (own_s p2))), iv (-1 : Int32), iv (1 : Int32), uv, uv, uv, uv] [(.long q4), (.int p1), (.ref b1205)])) (fun _ k => XS.lload X1213.here hx rfl (hb hby at_183) rfl  k) ?_
        obtain ⟨cq1217, kq1217, q1217a, q1217b, q1217c⟩ := isOf hZ rfl B1213.1
        obtain ⟨_, _, ⟨T1217, L1217, k1217, n1217⟩, -, X1217, ⟨Lc1217, hQ1217, l1217, y1217, z1217⟩, st1217⟩ := X1213.virtualBack hx (y := yF) (z := yF) hown (mvT hZ (wi hw 60 rfl)) (mvT hZ (wi hw 61 rfl)) (notFace_of_selects (args := #[]) (mvT hZ (wi hw 63 rfl))) (mvT hZ (wi hw 63 rfl)) (mvT hZ (wi hw 62 rfl)) (by decide) (backOf (W := 0) (rmF l Z a0 hw [] b1205 bh ba bl kh ka kl (((0 : Int32) + (1 : Int32)) + (1 : Int32)) (own_add (own_add own_g0 (own_s p1) q4) (own_s p2) q5) va1213 vl1213 p1 q4 T1213.heap n0 z1213 B1213 (own_hz2 _ _ _ _) (by decide)) hZ (wi hw 64 rfl) (wi hw 2 rfl) (by decide) (by decide)) q1217a q1217c (g := (mkF m 185 #[iv p1, iv p2, iv p3, jv q4, sv, jv q5, sv, iv p6, iv (2 : Int32), jv q4, sv, jv q5, sv, jv x3, sv, rv b1205, iv (Int32.ofNat (own_free own_g0 4 (own_s p1))), iv (Int32.ofNat (own_free (own_add own_g0 (own_s p1) q4) 4 (own_s p2))), iv (-1 : Int32), iv (1 : Int32), uv, uv, uv, uv] [(.long q4), (.int p1), (.ref b1205)])) rfl (by rw [hml]; rfl) (Steps.refl _) (argsL := [(.int p1), (.long q4)]) (rest := []) (lenOf pd_15 rfl) rfl (by show 2 * 0 + _ ≤ _; exact Nat.le_of_eq rfl) (hb hby at_185) (fun _ _ => ⟨rfl, rfl, (by decide : 7 + 0 ≤ _), (by decide : 36 + 0 ≤ _)⟩)
        dsimp only [Pt.U, Pt.locs, Pt.cells, Pt.slots] at X1217 l1217 y1217 z1217 st1217 hQ1217
        subst l1217 y1217 z1217
        obtain ⟨rfl, N1217q, e1217⟩ := hQ1217
        have N1217 := Fr.app N1213 N1217q
        refine Rch.to (U' := T1217.setTop (mkF m 188 #[iv p1, iv p2, iv p3, jv q4, sv, jv q5, sv, iv p6, iv (2 : Int32), jv q4, sv, jv q5, sv, jv x3, sv, rv b1205, iv (Int32.ofNat (own_free own_g0 4 (own_s p1))), iv (Int32.ofNat (own_free (own_add own_g0 (own_s p1) q4) 4 (own_s p2))), iv (-1 : Int32), iv (1 : Int32), uv, uv, uv, uv] [(.int (own_find (own_add (own_add own_g0 (own_s p1) q4) (own_s p2) q5) q4 4 (own_s p1)))])) st1217 ?_
        refine Rch.go (U' := T1217.setTop (mkF m 190 #[iv p1, iv p2, iv p3, jv q4, sv, jv q5, sv, iv p6, iv (2 : Int32), jv q4, sv, jv q5, sv, jv x3, sv, rv b1205, iv (Int32.ofNat (own_free own_g0 4 (own_s p1))), iv (Int32.ofNat (own_free (own_add own_g0 (own_s p1) q4) 4 (own_s p2))), iv (-1 : Int32), iv (1 : Int32), uv, uv, uv, uv] [(.int (Int32.ofNat (own_free own_g0 4 (own_s p1)))), (.int (own_find (own_add (own_add own_g0 (own_s p1) q4) (own_s p2) q5) q4 4 (own_s p1)))])) (fun _ k => XS.iload X1217.here hx rfl (hb hby at_188) rfl  k) ?_
        have br1218 : (own_find (own_add (own_add own_g0 (own_s p1) q4) (own_s p2) q5) q4 4 (own_s p1)) = (Int32.ofNat (own_free own_g0 4 (own_s p1))) := own_found2_1 br1200 br1202 br1203
        refine Rch.go (U' := T1217.setTop (mkF m 193 #[iv p1, iv p2, iv p3, jv q4, sv, jv q5, sv, iv p6, iv (2 : Int32), jv q4, sv, jv q5, sv, jv x3, sv, rv b1205, iv (Int32.ofNat (own_free own_g0 4 (own_s p1))), iv (Int32.ofNat (own_free (own_add own_g0 (own_s p1) q4) 4 (own_s p2))), iv (-1 : Int32), iv (1 : Int32), uv, uv, uv, uv] [])) (fun _ k => XS.icmpNo X1217.here hx rfl (hb hby at_190) rfl (XT.ii_ne_f br1218) k) ?_
        refine Rch.go (U' := T1217.setTop (mkF m 194 #[iv p1, iv p2, iv p3, jv q4, sv, jv q5, sv, iv p6, iv (2 : Int32), jv q4, sv, jv q5, sv, jv x3, sv, rv b1205, iv (Int32.ofNat (own_free own_g0 4 (own_s p1))), iv (Int32.ofNat (own_free (own_add own_g0 (own_s p1) q4) 4 (own_s p2))), iv (-1 : Int32), iv (1 : Int32), uv, uv, uv, uv] [(.int (1 : Int32))])) (fun _ k => XS.iconst X1217.here hx rfl (hb hby at_193) k) ?_
        refine Rch.go (U' := T1217.setTop (mkF m 198 #[iv p1, iv p2, iv p3, jv q4, sv, jv q5, sv, iv p6, iv (2 : Int32), jv q4, sv, jv q5, sv, jv x3, sv, rv b1205, iv (Int32.ofNat (own_free own_g0 4 (own_s p1))), iv (Int32.ofNat (own_free (own_add own_g0 (own_s p1) q4) 4 (own_s p2))), iv (-1 : Int32), iv (1 : Int32), uv, uv, uv, uv] [(.int (1 : Int32))])) (fun _ k => XS.goto X1217.here hx rfl (pc0 := 194) (pc' := 198) rfl (hb hby at_194) (by decide) (by decide) k) ?_
        refine Rch.go (U' := T1217.setTop (mkF m 200 #[iv p1, iv p2, iv p3, jv q4, sv, jv q5, sv, iv p6, iv (2 : Int32), jv q4, sv, jv q5, sv, jv x3, sv, rv b1205, iv (Int32.ofNat (own_free own_g0 4 (own_s p1))), iv (Int32.ofNat (own_free (own_add own_g0 (own_s p1) q4) 4 (own_s p2))), iv (-1 : Int32), iv (1 : Int32), uv, uv, uv, uv] [])) (fun _ k => XS.istore X1217.here hx rfl (hb hby at_198) rfl (l' := #[iv p1, iv p2, iv p3, jv q4, sv, jv q5, sv, iv p6, iv (2 : Int32), jv q4, sv, jv q5, sv, jv x3, sv, rv b1205, iv (Int32.ofNat (own_free own_g0 4 (own_s p1))), iv (Int32.ofNat (own_free (own_add own_g0 (own_s p1) q4) 4 (own_s p2))), iv (-1 : Int32), iv (1 : Int32), uv, uv, uv, uv]) rfl k) ?_
        refine Rch.go (U' := T1217.setTop (mkF m 202 #[iv p1, iv p2, iv p3, jv q4, sv, jv q5, sv, iv p6, iv (2 : Int32), jv q4, sv, jv q5, sv, jv x3, sv, rv b1205, iv (Int32.ofNat (own_free own_g0 4 (own_s p1))), iv (Int32.ofNat (own_free (own_add own_g0 (own_s p1) q4) 4 (own_s p2))), iv (-1 : Int32), iv (1 : Int32), uv, uv, uv, uv] [(.int (2 : Int32))])) (fun _ k => XS.iload X1217.here hx rfl (hb hby at_200) rfl  k) ?_
        refine Rch.go (U' := T1217.setTop (mkF m 203 #[iv p1, iv p2, iv p3, jv q4, sv, jv q5, sv, iv p6, iv (2 : Int32), jv q4, sv, jv q5, sv, jv x3, sv, rv b1205, iv (Int32.ofNat (own_free own_g0 4 (own_s p1))), iv (Int32.ofNat (own_free (own_add own_g0 (own_s p1) q4) 4 (own_s p2))), iv (-1 : Int32), iv (1 : Int32), uv, uv, uv, uv] [(.int (2 : Int32)), (.int (2 : Int32))])) (fun _ k => XS.iconst X1217.here hx rfl (hb hby at_202) k) ?_
        have br1219 : ¬ ((2 : Int32) < (2 : Int32)) := (by decide)
        refine Rch.go (U' := T1217.setTop (mkF m 206 #[iv p1, iv p2, iv p3, jv q4, sv, jv q5, sv, iv p6, iv (2 : Int32), jv q4, sv, jv q5, sv, jv x3, sv, rv b1205, iv (Int32.ofNat (own_free own_g0 4 (own_s p1))), iv (Int32.ofNat (own_free (own_add own_g0 (own_s p1) q4) 4 (own_s p2))), iv (-1 : Int32), iv (1 : Int32), uv, uv, uv, uv] [])) (fun _ k => XS.icmpNo X1217.here hx rfl (hb hby at_203) rfl (XT.ii_lt_f br1219) k) ?_
        refine Rch.go (U' := T1217.setTop (mkF m 208 #[iv p1, iv p2, iv p3, jv q4, sv, jv q5, sv, iv p6, iv (2 : Int32), jv q4, sv, jv q5, sv, jv x3, sv, rv b1205, iv (Int32.ofNat (own_free own_g0 4 (own_s p1))), iv (Int32.ofNat (own_free (own_add own_g0 (own_s p1) q4) 4 (own_s p2))), iv (-1 : Int32), iv (1 : Int32), uv, uv, uv, uv] [(.int (1 : Int32))])) (fun _ k => XS.iload X1217.here hx rfl (hb hby at_206) rfl  k) ?_
        have br1220 : ¬ ((1 : Int32) = (0 : Int32)) := (by decide)
        refine Rch.go (U' := T1217.setTop (mkF m 211 #[iv p1, iv p2, iv p3, jv q4, sv, jv q5, sv, iv p6, iv (2 : Int32), jv q4, sv, jv q5, sv, jv x3, sv, rv b1205, iv (Int32.ofNat (own_free own_g0 4 (own_s p1))), iv (Int32.ofNat (own_free (own_add own_g0 (own_s p1) q4) 4 (own_s p2))), iv (-1 : Int32), iv (1 : Int32), uv, uv, uv, uv] [])) (fun _ k => XS.ifNo X1217.here hx rfl (hb hby at_208) rfl (XT.i0_eq_f br1220) k) ?_
        refine Rch.go (U' := T1217.setTop (mkF m 213 #[iv p1, iv p2, iv p3, jv q4, sv, jv q5, sv, iv p6, iv (2 : Int32), jv q4, sv, jv q5, sv, jv x3, sv, rv b1205, iv (Int32.ofNat (own_free own_g0 4 (own_s p1))), iv (Int32.ofNat (own_free (own_add own_g0 (own_s p1) q4) 4 (own_s p2))), iv (-1 : Int32), iv (1 : Int32), uv, uv, uv, uv] [(.ref b1205)])) (fun _ k => XS.aload X1217.here hx rfl (hb hby at_211) rfl rfl k) ?_
        refine Rch.go (U' := T1217.setTop (mkF m 214 #[iv p1, iv p2, iv p3, jv q4, sv, jv q5, sv, iv p6, iv (2 : Int32), jv q4, sv, jv q5, sv, jv x3, sv, rv b1205, iv (Int32.ofNat (own_free own_g0 4 (own_s p1))), iv (Int32.ofNat (own_free (own_add own_g0 (own_s p1) q4) 4 (own_s p2))), iv (-1 : Int32), iv (1 : Int32), uv, uv, uv, uv] [(.int p2), (.ref b1205)])) (fun _ k => XS.iloadN X1217.here hx rfl (hb hby at_213) rfl  k) ?_
        refine Rch.go (U' := T1217.setTop (mkF m 216 #[iv p1, iv p2, iv p3, jv q4, sv, jv q5, sv, iv p6, iv (2 : Int32), jv q4, sv, jv q5, sv, jv x3, sv, rv b1205, iv (Int32.ofNat (own_free own_g0 4 (own_s p1))), iv (Int32.ofNat (own_free (own_add own_g0 (own_s p1) q4) 4 (own_s p2))), iv (-1 : Int32), iv (1 : Int32), uv, uv, uv, uv] [(.long q5), (.int p2), (.ref b1205)])) (fun _ k => XS.lload X1217.here hx rfl (hb hby at_214) rfl  k) ?_
        obtain ⟨cq1221, kq1221, q1221a, q1221b, q1221c⟩ := isOf hZ e1217 B1213.1
        obtain ⟨_, _, ⟨T1221, L1221, k1221, n1221⟩, -, X1221, ⟨Lc1221, hQ1221, l1221, y1221, z1221⟩, st1221⟩ := X1217.virtualBack hx (y := yF) (z := yF) hown (mvT hZ (wi hw 60 rfl)) (mvT hZ (wi hw 61 rfl)) (notFace_of_selects (args := #[]) (mvT hZ (wi hw 63 rfl))) (mvT hZ (wi hw 63 rfl)) (mvT hZ (wi hw 62 rfl)) (by decide) (backOf (W := 0) (rmF l Z a0 hw [] b1205 bh ba bl kh ka kl (((0 : Int32) + (1 : Int32)) + (1 : Int32)) (own_add (own_add own_g0 (own_s p1) q4) (own_s p2) q5) va1213 vl1213 p2 q5 T1213.heap n0 z1213 B1213 (own_hz2 _ _ _ _) (by decide)) hZ (wi hw 64 rfl) (wi hw 2 rfl) (by decide) (by decide)) q1221a q1221c (g := (mkF m 216 #[iv p1, iv p2, iv p3, jv q4, sv, jv q5, sv, iv p6, iv (2 : Int32), jv q4, sv, jv q5, sv, jv x3, sv, rv b1205, iv (Int32.ofNat (own_free own_g0 4 (own_s p1))), iv (Int32.ofNat (own_free (own_add own_g0 (own_s p1) q4) 4 (own_s p2))), iv (-1 : Int32), iv (1 : Int32), uv, uv, uv, uv] [(.long q5), (.int p2), (.ref b1205)])) rfl (by rw [hml]; rfl) (Steps.refl _) (argsL := [(.int p2), (.long q5)]) (rest := []) (lenOf pd_15 rfl) rfl (by show 2 * 0 + _ ≤ _; exact Nat.le_of_eq rfl) (hb hby at_216) (fun _ _ => ⟨rfl, e1217, (by decide : 7 + 0 ≤ _), (by decide : 36 + 0 ≤ _)⟩)
        dsimp only [Pt.U, Pt.locs, Pt.cells, Pt.slots] at X1221 l1221 y1221 z1221 st1221 hQ1221
        subst l1221 y1221 z1221
        obtain ⟨rfl, N1221q, e1221⟩ := hQ1221
        have N1221 := Fr.app N1217 N1221q
        refine Rch.to (U' := T1221.setTop (mkF m 219 #[iv p1, iv p2, iv p3, jv q4, sv, jv q5, sv, iv p6, iv (2 : Int32), jv q4, sv, jv q5, sv, jv x3, sv, rv b1205, iv (Int32.ofNat (own_free own_g0 4 (own_s p1))), iv (Int32.ofNat (own_free (own_add own_g0 (own_s p1) q4) 4 (own_s p2))), iv (-1 : Int32), iv (1 : Int32), uv, uv, uv, uv] [(.int (own_find (own_add (own_add own_g0 (own_s p1) q4) (own_s p2) q5) q5 4 (own_s p2)))])) st1221 ?_
        refine Rch.go (U' := T1221.setTop (mkF m 221 #[iv p1, iv p2, iv p3, jv q4, sv, jv q5, sv, iv p6, iv (2 : Int32), jv q4, sv, jv q5, sv, jv x3, sv, rv b1205, iv (Int32.ofNat (own_free own_g0 4 (own_s p1))), iv (Int32.ofNat (own_free (own_add own_g0 (own_s p1) q4) 4 (own_s p2))), iv (-1 : Int32), iv (1 : Int32), uv, uv, uv, uv] [(.int (Int32.ofNat (own_free (own_add own_g0 (own_s p1) q4) 4 (own_s p2)))), (.int (own_find (own_add (own_add own_g0 (own_s p1) q4) (own_s p2) q5) q5 4 (own_s p2)))])) (fun _ k => XS.iload X1221.here hx rfl (hb hby at_219) rfl  k) ?_
        have br1222 : (own_find (own_add (own_add own_g0 (own_s p1) q4) (own_s p2) q5) q5 4 (own_s p2)) = (Int32.ofNat (own_free (own_add own_g0 (own_s p1) q4) 4 (own_s p2))) := own_found2_2 br1200 br1202 br1203
        refine Rch.go (U' := T1221.setTop (mkF m 224 #[iv p1, iv p2, iv p3, jv q4, sv, jv q5, sv, iv p6, iv (2 : Int32), jv q4, sv, jv q5, sv, jv x3, sv, rv b1205, iv (Int32.ofNat (own_free own_g0 4 (own_s p1))), iv (Int32.ofNat (own_free (own_add own_g0 (own_s p1) q4) 4 (own_s p2))), iv (-1 : Int32), iv (1 : Int32), uv, uv, uv, uv] [])) (fun _ k => XS.icmpNo X1221.here hx rfl (hb hby at_221) rfl (XT.ii_ne_f br1222) k) ?_
        refine Rch.go (U' := T1221.setTop (mkF m 225 #[iv p1, iv p2, iv p3, jv q4, sv, jv q5, sv, iv p6, iv (2 : Int32), jv q4, sv, jv q5, sv, jv x3, sv, rv b1205, iv (Int32.ofNat (own_free own_g0 4 (own_s p1))), iv (Int32.ofNat (own_free (own_add own_g0 (own_s p1) q4) 4 (own_s p2))), iv (-1 : Int32), iv (1 : Int32), uv, uv, uv, uv] [(.int (1 : Int32))])) (fun _ k => XS.iconst X1221.here hx rfl (hb hby at_224) k) ?_
        refine Rch.go (U' := T1221.setTop (mkF m 229 #[iv p1, iv p2, iv p3, jv q4, sv, jv q5, sv, iv p6, iv (2 : Int32), jv q4, sv, jv q5, sv, jv x3, sv, rv b1205, iv (Int32.ofNat (own_free own_g0 4 (own_s p1))), iv (Int32.ofNat (own_free (own_add own_g0 (own_s p1) q4) 4 (own_s p2))), iv (-1 : Int32), iv (1 : Int32), uv, uv, uv, uv] [(.int (1 : Int32))])) (fun _ k => XS.goto X1221.here hx rfl (pc0 := 225) (pc' := 229) rfl (hb hby at_225) (by decide) (by decide) k) ?_
        refine Rch.go (U' := T1221.setTop (mkF m 231 #[iv p1, iv p2, iv p3, jv q4, sv, jv q5, sv, iv p6, iv (2 : Int32), jv q4, sv, jv q5, sv, jv x3, sv, rv b1205, iv (Int32.ofNat (own_free own_g0 4 (own_s p1))), iv (Int32.ofNat (own_free (own_add own_g0 (own_s p1) q4) 4 (own_s p2))), iv (-1 : Int32), iv (1 : Int32), uv, uv, uv, uv] [])) (fun _ k => XS.istore X1221.here hx rfl (hb hby at_229) rfl (l' := #[iv p1, iv p2, iv p3, jv q4, sv, jv q5, sv, iv p6, iv (2 : Int32), jv q4, sv, jv q5, sv, jv x3, sv, rv b1205, iv (Int32.ofNat (own_free own_g0 4 (own_s p1))), iv (Int32.ofNat (own_free (own_add own_g0 (own_s p1) q4) 4 (own_s p2))), iv (-1 : Int32), iv (1 : Int32), uv, uv, uv, uv]) rfl k) ?_
        refine Rch.go (U' := T1221.setTop (mkF m 233 #[iv p1, iv p2, iv p3, jv q4, sv, jv q5, sv, iv p6, iv (2 : Int32), jv q4, sv, jv q5, sv, jv x3, sv, rv b1205, iv (Int32.ofNat (own_free own_g0 4 (own_s p1))), iv (Int32.ofNat (own_free (own_add own_g0 (own_s p1) q4) 4 (own_s p2))), iv (-1 : Int32), iv (1 : Int32), uv, uv, uv, uv] [(.int (2 : Int32))])) (fun _ k => XS.iload X1221.here hx rfl (hb hby at_231) rfl  k) ?_
        refine Rch.go (U' := T1221.setTop (mkF m 234 #[iv p1, iv p2, iv p3, jv q4, sv, jv q5, sv, iv p6, iv (2 : Int32), jv q4, sv, jv q5, sv, jv x3, sv, rv b1205, iv (Int32.ofNat (own_free own_g0 4 (own_s p1))), iv (Int32.ofNat (own_free (own_add own_g0 (own_s p1) q4) 4 (own_s p2))), iv (-1 : Int32), iv (1 : Int32), uv, uv, uv, uv] [(.int (3 : Int32)), (.int (2 : Int32))])) (fun _ k => XS.iconst X1221.here hx rfl (hb hby at_233) k) ?_
        have br1223 : (2 : Int32) < (3 : Int32) := (by decide)
        refine Rch.go (U' := T1221.setTop (mkF m 262 #[iv p1, iv p2, iv p3, jv q4, sv, jv q5, sv, iv p6, iv (2 : Int32), jv q4, sv, jv q5, sv, jv x3, sv, rv b1205, iv (Int32.ofNat (own_free own_g0 4 (own_s p1))), iv (Int32.ofNat (own_free (own_add own_g0 (own_s p1) q4) 4 (own_s p2))), iv (-1 : Int32), iv (1 : Int32), uv, uv, uv, uv] [])) (fun _ k => XS.icmpYes X1221.here hx rfl (pc0 := 234) (pc' := 262) rfl (hb hby at_234) rfl (XT.ii_lt_t br1223) (by decide) (by decide) k) ?_
        refine Rch.go (U' := T1221.setTop (mkF m 263 #[iv p1, iv p2, iv p3, jv q4, sv, jv q5, sv, iv p6, iv (2 : Int32), jv q4, sv, jv q5, sv, jv x3, sv, rv b1205, iv (Int32.ofNat (own_free own_g0 4 (own_s p1))), iv (Int32.ofNat (own_free (own_add own_g0 (own_s p1) q4) 4 (own_s p2))), iv (-1 : Int32), iv (1 : Int32), uv, uv, uv, uv] [(.long q4)])) (fun _ k => XS.lloadN X1221.here hx rfl (hb hby at_262) rfl  k) ?_
        refine Rch.go (U' := T1221.setTop (mkF m 265 #[iv p1, iv p2, iv p3, jv q4, sv, jv q5, sv, iv p6, iv (2 : Int32), jv q4, sv, jv q5, sv, jv x3, sv, rv b1205, iv (Int32.ofNat (own_free own_g0 4 (own_s p1))), iv (Int32.ofNat (own_free (own_add own_g0 (own_s p1) q4) 4 (own_s p2))), iv (-1 : Int32), iv (1 : Int32), uv, uv, uv, uv] [(.long q5), (.long q4)])) (fun _ k => XS.lload X1221.here hx rfl (hb hby at_263) rfl  k) ?_
        refine Rch.go (U' := T1221.setTop (mkF m 266 #[iv p1, iv p2, iv p3, jv q4, sv, jv q5, sv, iv p6, iv (2 : Int32), jv q4, sv, jv q5, sv, jv x3, sv, rv b1205, iv (Int32.ofNat (own_free own_g0 4 (own_s p1))), iv (Int32.ofNat (own_free (own_add own_g0 (own_s p1) q4) 4 (own_s p2))), iv (-1 : Int32), iv (1 : Int32), uv, uv, uv, uv] [(.long (q4 - q5))])) (fun _ k => XS.lsub X1221.here hx rfl (hb hby at_265) rfl k) ?_
        generalize hqq : (q4 - q5) = qq
        refine Rch.go (U' := T1221.setTop (mkF m 268 #[iv p1, iv p2, iv p3, jv q4, sv, jv q5, sv, iv p6, iv (2 : Int32), jv q4, sv, jv q5, sv, jv x3, sv, rv b1205, iv (Int32.ofNat (own_free own_g0 4 (own_s p1))), iv (Int32.ofNat (own_free (own_add own_g0 (own_s p1) q4) 4 (own_s p2))), iv (-1 : Int32), iv (1 : Int32), jv qq, sv, uv, uv] [])) (fun _ k => XS.lstore X1221.here hx rfl (hb hby at_266) rfl (l' := #[iv p1, iv p2, iv p3, jv q4, sv, jv q5, sv, iv p6, iv (2 : Int32), jv q4, sv, jv q5, sv, jv x3, sv, rv b1205, iv (Int32.ofNat (own_free own_g0 4 (own_s p1))), iv (Int32.ofNat (own_free (own_add own_g0 (own_s p1) q4) 4 (own_s p2))), iv (-1 : Int32), iv (1 : Int32), jv qq, sv, uv, uv]) rfl k) ?_
        refine Rch.go (U' := T1221.setTop (mkF m 270 #[iv p1, iv p2, iv p3, jv q4, sv, jv q5, sv, iv p6, iv (2 : Int32), jv q4, sv, jv q5, sv, jv x3, sv, rv b1205, iv (Int32.ofNat (own_free own_g0 4 (own_s p1))), iv (Int32.ofNat (own_free (own_add own_g0 (own_s p1) q4) 4 (own_s p2))), iv (-1 : Int32), iv (1 : Int32), jv qq, sv, uv, uv] [(.int (2 : Int32))])) (fun _ k => XS.iload X1221.here hx rfl (hb hby at_268) rfl  k) ?_
        refine Rch.go (U' := T1221.setTop (mkF m 271 #[iv p1, iv p2, iv p3, jv q4, sv, jv q5, sv, iv p6, iv (2 : Int32), jv q4, sv, jv q5, sv, jv x3, sv, rv b1205, iv (Int32.ofNat (own_free own_g0 4 (own_s p1))), iv (Int32.ofNat (own_free (own_add own_g0 (own_s p1) q4) 4 (own_s p2))), iv (-1 : Int32), iv (1 : Int32), jv qq, sv, uv, uv] [(.int (1 : Int32)), (.int (2 : Int32))])) (fun _ k => XS.iconst X1221.here hx rfl (hb hby at_270) k) ?_
        have br1224 : ¬ ((2 : Int32) < (1 : Int32)) := (by decide)
        refine Rch.go (U' := T1221.setTop (mkF m 274 #[iv p1, iv p2, iv p3, jv q4, sv, jv q5, sv, iv p6, iv (2 : Int32), jv q4, sv, jv q5, sv, jv x3, sv, rv b1205, iv (Int32.ofNat (own_free own_g0 4 (own_s p1))), iv (Int32.ofNat (own_free (own_add own_g0 (own_s p1) q4) 4 (own_s p2))), iv (-1 : Int32), iv (1 : Int32), jv qq, sv, uv, uv] [])) (fun _ k => XS.icmpNo X1221.here hx rfl (hb hby at_271) rfl (XT.ii_lt_f br1224) k) ?_
        refine Rch.go (U' := T1221.setTop (mkF m 276 #[iv p1, iv p2, iv p3, jv q4, sv, jv q5, sv, iv p6, iv (2 : Int32), jv q4, sv, jv q5, sv, jv x3, sv, rv b1205, iv (Int32.ofNat (own_free own_g0 4 (own_s p1))), iv (Int32.ofNat (own_free (own_add own_g0 (own_s p1) q4) 4 (own_s p2))), iv (-1 : Int32), iv (1 : Int32), jv qq, sv, uv, uv] [(.long qq)])) (fun _ k => XS.lload X1221.here hx rfl (hb hby at_274) rfl  k) ?_
        refine Rch.go (U' := T1221.setTop (mkF m 278 #[iv p1, iv p2, iv p3, jv q4, sv, jv q5, sv, iv p6, iv (2 : Int32), jv q4, sv, jv q5, sv, jv x3, sv, rv b1205, iv (Int32.ofNat (own_free own_g0 4 (own_s p1))), iv (Int32.ofNat (own_free (own_add own_g0 (own_s p1) q4) 4 (own_s p2))), iv (-1 : Int32), iv (1 : Int32), jv qq, sv, uv, uv] [(.long q4), (.long qq)])) (fun _ k => XS.lload X1221.here hx rfl (hb hby at_276) rfl  k) ?_
        refine Rch.go (U' := T1221.setTop (mkF m 279 #[iv p1, iv p2, iv p3, jv q4, sv, jv q5, sv, iv p6, iv (2 : Int32), jv q4, sv, jv q5, sv, jv x3, sv, rv b1205, iv (Int32.ofNat (own_free own_g0 4 (own_s p1))), iv (Int32.ofNat (own_free (own_add own_g0 (own_s p1) q4) 4 (own_s p2))), iv (-1 : Int32), iv (1 : Int32), jv qq, sv, uv, uv] [(.int (XT.cmpL qq q4))])) (fun _ k => XT.lcmp X1221.here hx rfl (hb hby at_278) rfl k) ?_
        by_cases br1225 : qq = q4
        ·
          refine Rch.go (U' := T1221.setTop (mkF m 310 #[iv p1, iv p2, iv p3, jv q4, sv, jv q5, sv, iv p6, iv (2 : Int32), jv q4, sv, jv q5, sv, jv x3, sv, rv b1205, iv (Int32.ofNat (own_free own_g0 4 (own_s p1))), iv (Int32.ofNat (own_free (own_add own_g0 (own_s p1) q4) 4 (own_s p2))), iv (-1 : Int32), iv (1 : Int32), jv qq, sv, uv, uv] [])) (fun _ k => XS.ifYes X1221.here hx rfl (pc0 := 279) (pc' := 310) rfl (hb hby at_279) rfl (XT.ll_eq_t br1225) (by decide) (by decide) k) ?_
          refine Rch.go (U' := T1221.setTop (mkF m 311 #[iv p1, iv p2, iv p3, jv q4, sv, jv q5, sv, iv p6, iv (2 : Int32), jv q4, sv, jv q5, sv, jv x3, sv, rv b1205, iv (Int32.ofNat (own_free own_g0 4 (own_s p1))), iv (Int32.ofNat (own_free (own_add own_g0 (own_s p1) q4) 4 (own_s p2))), iv (-1 : Int32), iv (1 : Int32), jv qq, sv, uv, uv] [(.int (1 : Int32))])) (fun _ k => XS.iconst X1221.here hx rfl (hb hby at_310) k) ?_
          refine Rch.go (U' := T1221.setTop (mkF m 315 #[iv p1, iv p2, iv p3, jv q4, sv, jv q5, sv, iv p6, iv (2 : Int32), jv q4, sv, jv q5, sv, jv x3, sv, rv b1205, iv (Int32.ofNat (own_free own_g0 4 (own_s p1))), iv (Int32.ofNat (own_free (own_add own_g0 (own_s p1) q4) 4 (own_s p2))), iv (-1 : Int32), iv (1 : Int32), jv qq, sv, uv, uv] [(.int (1 : Int32))])) (fun _ k => XS.goto X1221.here hx rfl (pc0 := 311) (pc' := 315) rfl (hb hby at_311) (by decide) (by decide) k) ?_
          refine Rch.go (U' := T1221.setTop (mkF m 317 #[iv p1, iv p2, iv p3, jv q4, sv, jv q5, sv, iv p6, iv (2 : Int32), jv q4, sv, jv q5, sv, jv x3, sv, rv b1205, iv (Int32.ofNat (own_free own_g0 4 (own_s p1))), iv (Int32.ofNat (own_free (own_add own_g0 (own_s p1) q4) 4 (own_s p2))), iv (-1 : Int32), iv (1 : Int32), jv qq, sv, iv (1 : Int32), uv] [])) (fun _ k => XS.istore X1221.here hx rfl (hb hby at_315) rfl (l' := #[iv p1, iv p2, iv p3, jv q4, sv, jv q5, sv, iv p6, iv (2 : Int32), jv q4, sv, jv q5, sv, jv x3, sv, rv b1205, iv (Int32.ofNat (own_free own_g0 4 (own_s p1))), iv (Int32.ofNat (own_free (own_add own_g0 (own_s p1) q4) 4 (own_s p2))), iv (-1 : Int32), iv (1 : Int32), jv qq, sv, iv (1 : Int32), uv]) rfl k) ?_
          refine Rch.go (U' := T1221.setTop (mkF m 319 #[iv p1, iv p2, iv p3, jv q4, sv, jv q5, sv, iv p6, iv (2 : Int32), jv q4, sv, jv q5, sv, jv x3, sv, rv b1205, iv (Int32.ofNat (own_free own_g0 4 (own_s p1))), iv (Int32.ofNat (own_free (own_add own_g0 (own_s p1) q4) 4 (own_s p2))), iv (-1 : Int32), iv (1 : Int32), jv qq, sv, iv (1 : Int32), uv] [(.int (1 : Int32))])) (fun _ k => XS.iload X1221.here hx rfl (hb hby at_317) rfl  k) ?_
          have br1226 : ¬ ((1 : Int32) = (0 : Int32)) := (by decide)
          refine Rch.go (U' := T1221.setTop (mkF m 355 #[iv p1, iv p2, iv p3, jv q4, sv, jv q5, sv, iv p6, iv (2 : Int32), jv q4, sv, jv q5, sv, jv x3, sv, rv b1205, iv (Int32.ofNat (own_free own_g0 4 (own_s p1))), iv (Int32.ofNat (own_free (own_add own_g0 (own_s p1) q4) 4 (own_s p2))), iv (-1 : Int32), iv (1 : Int32), jv qq, sv, iv (1 : Int32), uv] [])) (fun _ k => XS.ifYes X1221.here hx rfl (pc0 := 319) (pc' := 355) rfl (hb hby at_319) rfl (XT.i0_ne_t br1226) (by decide) (by decide) k) ?_
          refine Rch.go (U' := T1221.setTop (mkF m 357 #[iv p1, iv p2, iv p3, jv q4, sv, jv q5, sv, iv p6, iv (2 : Int32), jv q4, sv, jv q5, sv, jv x3, sv, rv b1205, iv (Int32.ofNat (own_free own_g0 4 (own_s p1))), iv (Int32.ofNat (own_free (own_add own_g0 (own_s p1) q4) 4 (own_s p2))), iv (-1 : Int32), iv (1 : Int32), jv qq, sv, iv (1 : Int32), uv] [(.int (1 : Int32))])) (fun _ k => XS.iload X1221.here hx rfl (hb hby at_355) rfl  k) ?_
          refine Rch.fin X1221 hlk (v := some (.int (nar .boolean (1 : Int32)))) (fun h => by rw [hret] at h; cases h) e1221 (by decide) (by decide) (fun fs hr => retN X1221 hx (t := .boolean) hret (by simp) (hb hby at_357) hr) ?_
          exact ⟨rfl, N1221⟩
        ·
          refine Rch.go (U' := T1221.setTop (mkF m 282 #[iv p1, iv p2, iv p3, jv q4, sv, jv q5, sv, iv p6, iv (2 : Int32), jv q4, sv, jv q5, sv, jv x3, sv, rv b1205, iv (Int32.ofNat (own_free own_g0 4 (own_s p1))), iv (Int32.ofNat (own_free (own_add own_g0 (own_s p1) q4) 4 (own_s p2))), iv (-1 : Int32), iv (1 : Int32), jv qq, sv, uv, uv] [])) (fun _ k => XS.ifNo X1221.here hx rfl (hb hby at_279) rfl (XT.ll_eq_f br1225) k) ?_
          refine Rch.go (U' := T1221.setTop (mkF m 284 #[iv p1, iv p2, iv p3, jv q4, sv, jv q5, sv, iv p6, iv (2 : Int32), jv q4, sv, jv q5, sv, jv x3, sv, rv b1205, iv (Int32.ofNat (own_free own_g0 4 (own_s p1))), iv (Int32.ofNat (own_free (own_add own_g0 (own_s p1) q4) 4 (own_s p2))), iv (-1 : Int32), iv (1 : Int32), jv qq, sv, uv, uv] [(.int (2 : Int32))])) (fun _ k => XS.iload X1221.here hx rfl (hb hby at_282) rfl  k) ?_
          refine Rch.go (U' := T1221.setTop (mkF m 285 #[iv p1, iv p2, iv p3, jv q4, sv, jv q5, sv, iv p6, iv (2 : Int32), jv q4, sv, jv q5, sv, jv x3, sv, rv b1205, iv (Int32.ofNat (own_free own_g0 4 (own_s p1))), iv (Int32.ofNat (own_free (own_add own_g0 (own_s p1) q4) 4 (own_s p2))), iv (-1 : Int32), iv (1 : Int32), jv qq, sv, uv, uv] [(.int (2 : Int32)), (.int (2 : Int32))])) (fun _ k => XS.iconst X1221.here hx rfl (hb hby at_284) k) ?_
          have br1227 : ¬ ((2 : Int32) < (2 : Int32)) := (by decide)
          refine Rch.go (U' := T1221.setTop (mkF m 288 #[iv p1, iv p2, iv p3, jv q4, sv, jv q5, sv, iv p6, iv (2 : Int32), jv q4, sv, jv q5, sv, jv x3, sv, rv b1205, iv (Int32.ofNat (own_free own_g0 4 (own_s p1))), iv (Int32.ofNat (own_free (own_add own_g0 (own_s p1) q4) 4 (own_s p2))), iv (-1 : Int32), iv (1 : Int32), jv qq, sv, uv, uv] [])) (fun _ k => XS.icmpNo X1221.here hx rfl (hb hby at_285) rfl (XT.ii_lt_f br1227) k) ?_
          refine Rch.go (U' := T1221.setTop (mkF m 290 #[iv p1, iv p2, iv p3, jv q4, sv, jv q5, sv, iv p6, iv (2 : Int32), jv q4, sv, jv q5, sv, jv x3, sv, rv b1205, iv (Int32.ofNat (own_free own_g0 4 (own_s p1))), iv (Int32.ofNat (own_free (own_add own_g0 (own_s p1) q4) 4 (own_s p2))), iv (-1 : Int32), iv (1 : Int32), jv qq, sv, uv, uv] [(.long qq)])) (fun _ k => XS.lload X1221.here hx rfl (hb hby at_288) rfl  k) ?_
          refine Rch.go (U' := T1221.setTop (mkF m 292 #[iv p1, iv p2, iv p3, jv q4, sv, jv q5, sv, iv p6, iv (2 : Int32), jv q4, sv, jv q5, sv, jv x3, sv, rv b1205, iv (Int32.ofNat (own_free own_g0 4 (own_s p1))), iv (Int32.ofNat (own_free (own_add own_g0 (own_s p1) q4) 4 (own_s p2))), iv (-1 : Int32), iv (1 : Int32), jv qq, sv, uv, uv] [(.long q5), (.long qq)])) (fun _ k => XS.lload X1221.here hx rfl (hb hby at_290) rfl  k) ?_
          refine Rch.go (U' := T1221.setTop (mkF m 293 #[iv p1, iv p2, iv p3, jv q4, sv, jv q5, sv, iv p6, iv (2 : Int32), jv q4, sv, jv q5, sv, jv x3, sv, rv b1205, iv (Int32.ofNat (own_free own_g0 4 (own_s p1))), iv (Int32.ofNat (own_free (own_add own_g0 (own_s p1) q4) 4 (own_s p2))), iv (-1 : Int32), iv (1 : Int32), jv qq, sv, uv, uv] [(.int (XT.cmpL qq q5))])) (fun _ k => XT.lcmp X1221.here hx rfl (hb hby at_292) rfl k) ?_
          by_cases br1228 : qq = q5
          ·
            refine Rch.go (U' := T1221.setTop (mkF m 310 #[iv p1, iv p2, iv p3, jv q4, sv, jv q5, sv, iv p6, iv (2 : Int32), jv q4, sv, jv q5, sv, jv x3, sv, rv b1205, iv (Int32.ofNat (own_free own_g0 4 (own_s p1))), iv (Int32.ofNat (own_free (own_add own_g0 (own_s p1) q4) 4 (own_s p2))), iv (-1 : Int32), iv (1 : Int32), jv qq, sv, uv, uv] [])) (fun _ k => XS.ifYes X1221.here hx rfl (pc0 := 293) (pc' := 310) rfl (hb hby at_293) rfl (XT.ll_eq_t br1228) (by decide) (by decide) k) ?_
            refine Rch.go (U' := T1221.setTop (mkF m 311 #[iv p1, iv p2, iv p3, jv q4, sv, jv q5, sv, iv p6, iv (2 : Int32), jv q4, sv, jv q5, sv, jv x3, sv, rv b1205, iv (Int32.ofNat (own_free own_g0 4 (own_s p1))), iv (Int32.ofNat (own_free (own_add own_g0 (own_s p1) q4) 4 (own_s p2))), iv (-1 : Int32), iv (1 : Int32), jv qq, sv, uv, uv] [(.int (1 : Int32))])) (fun _ k => XS.iconst X1221.here hx rfl (hb hby at_310) k) ?_
            refine Rch.go (U' := T1221.setTop (mkF m 315 #[iv p1, iv p2, iv p3, jv q4, sv, jv q5, sv, iv p6, iv (2 : Int32), jv q4, sv, jv q5, sv, jv x3, sv, rv b1205, iv (Int32.ofNat (own_free own_g0 4 (own_s p1))), iv (Int32.ofNat (own_free (own_add own_g0 (own_s p1) q4) 4 (own_s p2))), iv (-1 : Int32), iv (1 : Int32), jv qq, sv, uv, uv] [(.int (1 : Int32))])) (fun _ k => XS.goto X1221.here hx rfl (pc0 := 311) (pc' := 315) rfl (hb hby at_311) (by decide) (by decide) k) ?_
            refine Rch.go (U' := T1221.setTop (mkF m 317 #[iv p1, iv p2, iv p3, jv q4, sv, jv q5, sv, iv p6, iv (2 : Int32), jv q4, sv, jv q5, sv, jv x3, sv, rv b1205, iv (Int32.ofNat (own_free own_g0 4 (own_s p1))), iv (Int32.ofNat (own_free (own_add own_g0 (own_s p1) q4) 4 (own_s p2))), iv (-1 : Int32), iv (1 : Int32), jv qq, sv, iv (1 : Int32), uv] [])) (fun _ k => XS.istore X1221.here hx rfl (hb hby at_315) rfl (l' := #[iv p1, iv p2, iv p3, jv q4, sv, jv q5, sv, iv p6, iv (2 : Int32), jv q4, sv, jv q5, sv, jv x3, sv, rv b1205, iv (Int32.ofNat (own_free own_g0 4 (own_s p1))), iv (Int32.ofNat (own_free (own_add own_g0 (own_s p1) q4) 4 (own_s p2))), iv (-1 : Int32), iv (1 : Int32), jv qq, sv, iv (1 : Int32), uv]) rfl k) ?_
            refine Rch.go (U' := T1221.setTop (mkF m 319 #[iv p1, iv p2, iv p3, jv q4, sv, jv q5, sv, iv p6, iv (2 : Int32), jv q4, sv, jv q5, sv, jv x3, sv, rv b1205, iv (Int32.ofNat (own_free own_g0 4 (own_s p1))), iv (Int32.ofNat (own_free (own_add own_g0 (own_s p1) q4) 4 (own_s p2))), iv (-1 : Int32), iv (1 : Int32), jv qq, sv, iv (1 : Int32), uv] [(.int (1 : Int32))])) (fun _ k => XS.iload X1221.here hx rfl (hb hby at_317) rfl  k) ?_
            have br1229 : ¬ ((1 : Int32) = (0 : Int32)) := (by decide)
            refine Rch.go (U' := T1221.setTop (mkF m 355 #[iv p1, iv p2, iv p3, jv q4, sv, jv q5, sv, iv p6, iv (2 : Int32), jv q4, sv, jv q5, sv, jv x3, sv, rv b1205, iv (Int32.ofNat (own_free own_g0 4 (own_s p1))), iv (Int32.ofNat (own_free (own_add own_g0 (own_s p1) q4) 4 (own_s p2))), iv (-1 : Int32), iv (1 : Int32), jv qq, sv, iv (1 : Int32), uv] [])) (fun _ k => XS.ifYes X1221.here hx rfl (pc0 := 319) (pc' := 355) rfl (hb hby at_319) rfl (XT.i0_ne_t br1229) (by decide) (by decide) k) ?_
            refine Rch.go (U' := T1221.setTop (mkF m 357 #[iv p1, iv p2, iv p3, jv q4, sv, jv q5, sv, iv p6, iv (2 : Int32), jv q4, sv, jv q5, sv, jv x3, sv, rv b1205, iv (Int32.ofNat (own_free own_g0 4 (own_s p1))), iv (Int32.ofNat (own_free (own_add own_g0 (own_s p1) q4) 4 (own_s p2))), iv (-1 : Int32), iv (1 : Int32), jv qq, sv, iv (1 : Int32), uv] [(.int (1 : Int32))])) (fun _ k => XS.iload X1221.here hx rfl (hb hby at_355) rfl  k) ?_
            refine Rch.fin X1221 hlk (v := some (.int (nar .boolean (1 : Int32)))) (fun h => by rw [hret] at h; cases h) e1221 (by decide) (by decide) (fun fs hr => retN X1221 hx (t := .boolean) hret (by simp) (hb hby at_357) hr) ?_
            exact ⟨rfl, N1221⟩
          ·
            refine Rch.go (U' := T1221.setTop (mkF m 296 #[iv p1, iv p2, iv p3, jv q4, sv, jv q5, sv, iv p6, iv (2 : Int32), jv q4, sv, jv q5, sv, jv x3, sv, rv b1205, iv (Int32.ofNat (own_free own_g0 4 (own_s p1))), iv (Int32.ofNat (own_free (own_add own_g0 (own_s p1) q4) 4 (own_s p2))), iv (-1 : Int32), iv (1 : Int32), jv qq, sv, uv, uv] [])) (fun _ k => XS.ifNo X1221.here hx rfl (hb hby at_293) rfl (XT.ll_eq_f br1228) k) ?_
            refine Rch.go (U' := T1221.setTop (mkF m 298 #[iv p1, iv p2, iv p3, jv q4, sv, jv q5, sv, iv p6, iv (2 : Int32), jv q4, sv, jv q5, sv, jv x3, sv, rv b1205, iv (Int32.ofNat (own_free own_g0 4 (own_s p1))), iv (Int32.ofNat (own_free (own_add own_g0 (own_s p1) q4) 4 (own_s p2))), iv (-1 : Int32), iv (1 : Int32), jv qq, sv, uv, uv] [(.int (2 : Int32))])) (fun _ k => XS.iload X1221.here hx rfl (hb hby at_296) rfl  k) ?_
            refine Rch.go (U' := T1221.setTop (mkF m 299 #[iv p1, iv p2, iv p3, jv q4, sv, jv q5, sv, iv p6, iv (2 : Int32), jv q4, sv, jv q5, sv, jv x3, sv, rv b1205, iv (Int32.ofNat (own_free own_g0 4 (own_s p1))), iv (Int32.ofNat (own_free (own_add own_g0 (own_s p1) q4) 4 (own_s p2))), iv (-1 : Int32), iv (1 : Int32), jv qq, sv, uv, uv] [(.int (3 : Int32)), (.int (2 : Int32))])) (fun _ k => XS.iconst X1221.here hx rfl (hb hby at_298) k) ?_
            have br1230 : (2 : Int32) < (3 : Int32) := (by decide)
            refine Rch.go (U' := T1221.setTop (mkF m 314 #[iv p1, iv p2, iv p3, jv q4, sv, jv q5, sv, iv p6, iv (2 : Int32), jv q4, sv, jv q5, sv, jv x3, sv, rv b1205, iv (Int32.ofNat (own_free own_g0 4 (own_s p1))), iv (Int32.ofNat (own_free (own_add own_g0 (own_s p1) q4) 4 (own_s p2))), iv (-1 : Int32), iv (1 : Int32), jv qq, sv, uv, uv] [])) (fun _ k => XS.icmpYes X1221.here hx rfl (pc0 := 299) (pc' := 314) rfl (hb hby at_299) rfl (XT.ii_lt_t br1230) (by decide) (by decide) k) ?_
            refine Rch.go (U' := T1221.setTop (mkF m 315 #[iv p1, iv p2, iv p3, jv q4, sv, jv q5, sv, iv p6, iv (2 : Int32), jv q4, sv, jv q5, sv, jv x3, sv, rv b1205, iv (Int32.ofNat (own_free own_g0 4 (own_s p1))), iv (Int32.ofNat (own_free (own_add own_g0 (own_s p1) q4) 4 (own_s p2))), iv (-1 : Int32), iv (1 : Int32), jv qq, sv, uv, uv] [(.int (0 : Int32))])) (fun _ k => XS.iconst X1221.here hx rfl (hb hby at_314) k) ?_
            refine Rch.go (U' := T1221.setTop (mkF m 317 #[iv p1, iv p2, iv p3, jv q4, sv, jv q5, sv, iv p6, iv (2 : Int32), jv q4, sv, jv q5, sv, jv x3, sv, rv b1205, iv (Int32.ofNat (own_free own_g0 4 (own_s p1))), iv (Int32.ofNat (own_free (own_add own_g0 (own_s p1) q4) 4 (own_s p2))), iv (-1 : Int32), iv (1 : Int32), jv qq, sv, iv (0 : Int32), uv] [])) (fun _ k => XS.istore X1221.here hx rfl (hb hby at_315) rfl (l' := #[iv p1, iv p2, iv p3, jv q4, sv, jv q5, sv, iv p6, iv (2 : Int32), jv q4, sv, jv q5, sv, jv x3, sv, rv b1205, iv (Int32.ofNat (own_free own_g0 4 (own_s p1))), iv (Int32.ofNat (own_free (own_add own_g0 (own_s p1) q4) 4 (own_s p2))), iv (-1 : Int32), iv (1 : Int32), jv qq, sv, iv (0 : Int32), uv]) rfl k) ?_
            refine Rch.go (U' := T1221.setTop (mkF m 319 #[iv p1, iv p2, iv p3, jv q4, sv, jv q5, sv, iv p6, iv (2 : Int32), jv q4, sv, jv q5, sv, jv x3, sv, rv b1205, iv (Int32.ofNat (own_free own_g0 4 (own_s p1))), iv (Int32.ofNat (own_free (own_add own_g0 (own_s p1) q4) 4 (own_s p2))), iv (-1 : Int32), iv (1 : Int32), jv qq, sv, iv (0 : Int32), uv] [(.int (0 : Int32))])) (fun _ k => XS.iload X1221.here hx rfl (hb hby at_317) rfl  k) ?_
            have br1231 : (0 : Int32) = (0 : Int32) := (by decide)
            refine Rch.go (U' := T1221.setTop (mkF m 322 #[iv p1, iv p2, iv p3, jv q4, sv, jv q5, sv, iv p6, iv (2 : Int32), jv q4, sv, jv q5, sv, jv x3, sv, rv b1205, iv (Int32.ofNat (own_free own_g0 4 (own_s p1))), iv (Int32.ofNat (own_free (own_add own_g0 (own_s p1) q4) 4 (own_s p2))), iv (-1 : Int32), iv (1 : Int32), jv qq, sv, iv (0 : Int32), uv] [])) (fun _ k => XS.ifNo X1221.here hx rfl (hb hby at_319) rfl (XT.i0_ne_f br1231) k) ?_
            refine Rch.go (U' := T1221.setTop (mkF m 324 #[iv p1, iv p2, iv p3, jv q4, sv, jv q5, sv, iv p6, iv (2 : Int32), jv q4, sv, jv q5, sv, jv x3, sv, rv b1205, iv (Int32.ofNat (own_free own_g0 4 (own_s p1))), iv (Int32.ofNat (own_free (own_add own_g0 (own_s p1) q4) 4 (own_s p2))), iv (-1 : Int32), iv (1 : Int32), jv qq, sv, iv (0 : Int32), uv] [(.int p6)])) (fun _ k => XS.iload X1221.here hx rfl (hb hby at_322) rfl  k) ?_
            refine Rch.go (U' := T1221.setTop (mkF m 325 #[iv p1, iv p2, iv p3, jv q4, sv, jv q5, sv, iv p6, iv (2 : Int32), jv q4, sv, jv q5, sv, jv x3, sv, rv b1205, iv (Int32.ofNat (own_free own_g0 4 (own_s p1))), iv (Int32.ofNat (own_free (own_add own_g0 (own_s p1) q4) 4 (own_s p2))), iv (-1 : Int32), iv (1 : Int32), jv qq, sv, iv (0 : Int32), uv] [(.int (2 : Int32)), (.int p6)])) (fun _ k => XS.iconst X1221.here hx rfl (hb hby at_324) k) ?_
            refine Rch.go (U' := T1221.setTop (mkF m 326 #[iv p1, iv p2, iv p3, jv q4, sv, jv q5, sv, iv p6, iv (2 : Int32), jv q4, sv, jv q5, sv, jv x3, sv, rv b1205, iv (Int32.ofNat (own_free own_g0 4 (own_s p1))), iv (Int32.ofNat (own_free (own_add own_g0 (own_s p1) q4) 4 (own_s p2))), iv (-1 : Int32), iv (1 : Int32), jv qq, sv, iv (0 : Int32), uv] [(.int (p6 >>> ((2 : Int32) &&& 31)))])) (fun _ k => XS.ishr X1221.here hx rfl (hb hby at_325) rfl k) ?_
            refine Rch.go (U' := T1221.setTop (mkF m 327 #[iv p1, iv p2, iv p3, jv q4, sv, jv q5, sv, iv p6, iv (2 : Int32), jv q4, sv, jv q5, sv, jv x3, sv, rv b1205, iv (Int32.ofNat (own_free own_g0 4 (own_s p1))), iv (Int32.ofNat (own_free (own_add own_g0 (own_s p1) q4) 4 (own_s p2))), iv (-1 : Int32), iv (1 : Int32), jv qq, sv, iv (0 : Int32), uv] [(.int p3), (.int (p6 >>> ((2 : Int32) &&& 31)))])) (fun _ k => XS.iloadN X1221.here hx rfl (hb hby at_326) rfl  k) ?_
            refine Rch.go (U' := T1221.setTop (mkF m 328 #[iv p1, iv p2, iv p3, jv q4, sv, jv q5, sv, iv p6, iv (2 : Int32), jv q4, sv, jv q5, sv, jv x3, sv, rv b1205, iv (Int32.ofNat (own_free own_g0 4 (own_s p1))), iv (Int32.ofNat (own_free (own_add own_g0 (own_s p1) q4) 4 (own_s p2))), iv (-1 : Int32), iv (1 : Int32), jv qq, sv, iv (0 : Int32), uv] [(.int ((p6 >>> ((2 : Int32) &&& 31)) ^^^ p3))])) (fun _ k => XS.ixor X1221.here hx rfl (hb hby at_327) rfl k) ?_
            generalize hqh : ((p6 >>> ((2 : Int32) &&& 31)) ^^^ p3) = qh
            refine Rch.go (U' := T1221.setTop (mkF m 330 #[iv p1, iv p2, iv p3, jv q4, sv, jv q5, sv, iv p6, iv (2 : Int32), jv q4, sv, jv q5, sv, jv x3, sv, rv b1205, iv (Int32.ofNat (own_free own_g0 4 (own_s p1))), iv (Int32.ofNat (own_free (own_add own_g0 (own_s p1) q4) 4 (own_s p2))), iv (-1 : Int32), iv (1 : Int32), jv qq, sv, iv (0 : Int32), iv qh] [])) (fun _ k => XS.istore X1221.here hx rfl (hb hby at_328) rfl (l' := #[iv p1, iv p2, iv p3, jv q4, sv, jv q5, sv, iv p6, iv (2 : Int32), jv q4, sv, jv q5, sv, jv x3, sv, rv b1205, iv (Int32.ofNat (own_free own_g0 4 (own_s p1))), iv (Int32.ofNat (own_free (own_add own_g0 (own_s p1) q4) 4 (own_s p2))), iv (-1 : Int32), iv (1 : Int32), jv qq, sv, iv (0 : Int32), iv qh]) rfl k) ?_
            refine Rch.go (U' := T1221.setTop (mkF m 332 #[iv p1, iv p2, iv p3, jv q4, sv, jv q5, sv, iv p6, iv (2 : Int32), jv q4, sv, jv q5, sv, jv x3, sv, rv b1205, iv (Int32.ofNat (own_free own_g0 4 (own_s p1))), iv (Int32.ofNat (own_free (own_add own_g0 (own_s p1) q4) 4 (own_s p2))), iv (-1 : Int32), iv (1 : Int32), jv qq, sv, iv (0 : Int32), iv qh] [(.int (1 : Int32))])) (fun _ k => XS.iload X1221.here hx rfl (hb hby at_330) rfl  k) ?_
            have br1232 : ¬ ((1 : Int32) = (0 : Int32)) := (by decide)
            refine Rch.go (U' := T1221.setTop (mkF m 335 #[iv p1, iv p2, iv p3, jv q4, sv, jv q5, sv, iv p6, iv (2 : Int32), jv q4, sv, jv q5, sv, jv x3, sv, rv b1205, iv (Int32.ofNat (own_free own_g0 4 (own_s p1))), iv (Int32.ofNat (own_free (own_add own_g0 (own_s p1) q4) 4 (own_s p2))), iv (-1 : Int32), iv (1 : Int32), jv qq, sv, iv (0 : Int32), iv qh] [])) (fun _ k => XS.ifNo X1221.here hx rfl (hb hby at_332) rfl (XT.i0_eq_f br1232) k) ?_
            refine Rch.go (U' := T1221.setTop (mkF m 337 #[iv p1, iv p2, iv p3, jv q4, sv, jv q5, sv, iv p6, iv (2 : Int32), jv q4, sv, jv q5, sv, jv x3, sv, rv b1205, iv (Int32.ofNat (own_free own_g0 4 (own_s p1))), iv (Int32.ofNat (own_free (own_add own_g0 (own_s p1) q4) 4 (own_s p2))), iv (-1 : Int32), iv (1 : Int32), jv qq, sv, iv (0 : Int32), iv qh] [(.ref b1205)])) (fun _ k => XS.aload X1221.here hx rfl (hb hby at_335) rfl rfl k) ?_
            refine Rch.go (U' := T1221.setTop (mkF m 339 #[iv p1, iv p2, iv p3, jv q4, sv, jv q5, sv, iv p6, iv (2 : Int32), jv q4, sv, jv q5, sv, jv x3, sv, rv b1205, iv (Int32.ofNat (own_free own_g0 4 (own_s p1))), iv (Int32.ofNat (own_free (own_add own_g0 (own_s p1) q4) 4 (own_s p2))), iv (-1 : Int32), iv (1 : Int32), jv qq, sv, iv (0 : Int32), iv qh] [(.int qh), (.ref b1205)])) (fun _ k => XS.iload X1221.here hx rfl (hb hby at_337) rfl  k) ?_
            refine Rch.go (U' := T1221.setTop (mkF m 341 #[iv p1, iv p2, iv p3, jv q4, sv, jv q5, sv, iv p6, iv (2 : Int32), jv q4, sv, jv q5, sv, jv x3, sv, rv b1205, iv (Int32.ofNat (own_free own_g0 4 (own_s p1))), iv (Int32.ofNat (own_free (own_add own_g0 (own_s p1) q4) 4 (own_s p2))), iv (-1 : Int32), iv (1 : Int32), jv qq, sv, iv (0 : Int32), iv qh] [(.long qq), (.int qh), (.ref b1205)])) (fun _ k => XS.lload X1221.here hx rfl (hb hby at_339) rfl  k) ?_
            obtain ⟨cq1233, kq1233, q1233a, q1233b, q1233c⟩ := isOf hZ e1221 B1213.1
            obtain ⟨_, _, ⟨T1233, L1233, k1233, n1233⟩, -, X1233, ⟨Lc1233, hQ1233, l1233, y1233, z1233⟩, st1233⟩ := X1221.virtualBack hx (y := yF) (z := yF) hown (mvT hZ (wi hw 60 rfl)) (mvT hZ (wi hw 61 rfl)) (notFace_of_selects (args := #[]) (mvT hZ (wi hw 63 rfl))) (mvT hZ (wi hw 63 rfl)) (mvT hZ (wi hw 62 rfl)) (by decide) (backOf (W := 0) (rmF l Z a0 hw [] b1205 bh ba bl kh ka kl (((0 : Int32) + (1 : Int32)) + (1 : Int32)) (own_add (own_add own_g0 (own_s p1) q4) (own_s p2) q5) va1213 vl1213 qh qq T1213.heap n0 z1213 B1213 (own_hz2 _ _ _ _) (by decide)) hZ (wi hw 64 rfl) (wi hw 2 rfl) (by decide) (by decide)) q1233a q1233c (g := (mkF m 341 #[iv p1, iv p2, iv p3, jv q4, sv, jv q5, sv, iv p6, iv (2 : Int32), jv q4, sv, jv q5, sv, jv x3, sv, rv b1205, iv (Int32.ofNat (own_free own_g0 4 (own_s p1))), iv (Int32.ofNat (own_free (own_add own_g0 (own_s p1) q4) 4 (own_s p2))), iv (-1 : Int32), iv (1 : Int32), jv qq, sv, iv (0 : Int32), iv qh] [(.long qq), (.int qh), (.ref b1205)])) rfl (by rw [hml]; rfl) (Steps.refl _) (argsL := [(.int qh), (.long qq)]) (rest := []) (lenOf pd_15 rfl) rfl (by show 2 * 0 + _ ≤ _; exact Nat.le_of_eq rfl) (hb hby at_341) (fun _ _ => ⟨rfl, e1221, (by decide : 7 + 0 ≤ _), (by decide : 36 + 0 ≤ _)⟩)
            dsimp only [Pt.U, Pt.locs, Pt.cells, Pt.slots] at X1233 l1233 y1233 z1233 st1233 hQ1233
            subst l1233 y1233 z1233
            obtain ⟨rfl, N1233q, e1233⟩ := hQ1233
            have N1233 := Fr.app N1221 N1233q
            refine Rch.to (U' := T1233.setTop (mkF m 344 #[iv p1, iv p2, iv p3, jv q4, sv, jv q5, sv, iv p6, iv (2 : Int32), jv q4, sv, jv q5, sv, jv x3, sv, rv b1205, iv (Int32.ofNat (own_free own_g0 4 (own_s p1))), iv (Int32.ofNat (own_free (own_add own_g0 (own_s p1) q4) 4 (own_s p2))), iv (-1 : Int32), iv (1 : Int32), jv qq, sv, iv (0 : Int32), iv qh] [(.int (own_find (own_add (own_add own_g0 (own_s p1) q4) (own_s p2) q5) qq 4 (own_s qh)))])) st1233 ?_
            refine Rch.go (U' := T1233.setTop (mkF m 345 #[iv p1, iv p2, iv p3, jv q4, sv, jv q5, sv, iv p6, iv (2 : Int32), jv q4, sv, jv q5, sv, jv x3, sv, rv b1205, iv (Int32.ofNat (own_free own_g0 4 (own_s p1))), iv (Int32.ofNat (own_free (own_add own_g0 (own_s p1) q4) 4 (own_s p2))), iv (-1 : Int32), iv (1 : Int32), jv qq, sv, iv (0 : Int32), iv qh] [(.int (-1 : Int32)), (.int (own_find (own_add (own_add own_g0 (own_s p1) q4) (own_s p2) q5) qq 4 (own_s qh)))])) (fun _ k => XS.iconst X1233.here hx rfl (hb hby at_344) k) ?_
            have br1234 : (own_find (own_add (own_add own_g0 (own_s p1) q4) (own_s p2) q5) qq 4 (own_s qh)) = (-1 : Int32) := own_none2 br1225 br1228
            refine Rch.go (U' := T1233.setTop (mkF m 348 #[iv p1, iv p2, iv p3, jv q4, sv, jv q5, sv, iv p6, iv (2 : Int32), jv q4, sv, jv q5, sv, jv x3, sv, rv b1205, iv (Int32.ofNat (own_free own_g0 4 (own_s p1))), iv (Int32.ofNat (own_free (own_add own_g0 (own_s p1) q4) 4 (own_s p2))), iv (-1 : Int32), iv (1 : Int32), jv qq, sv, iv (0 : Int32), iv qh] [])) (fun _ k => XS.icmpNo X1233.here hx rfl (hb hby at_345) rfl (XT.ii_ne_f br1234) k) ?_
            refine Rch.go (U' := T1233.setTop (mkF m 349 #[iv p1, iv p2, iv p3, jv q4, sv, jv q5, sv, iv p6, iv (2 : Int32), jv q4, sv, jv q5, sv, jv x3, sv, rv b1205, iv (Int32.ofNat (own_free own_g0 4 (own_s p1))), iv (Int32.ofNat (own_free (own_add own_g0 (own_s p1) q4) 4 (own_s p2))), iv (-1 : Int32), iv (1 : Int32), jv qq, sv, iv (0 : Int32), iv qh] [(.int (1 : Int32))])) (fun _ k => XS.iconst X1233.here hx rfl (hb hby at_348) k) ?_
            refine Rch.go (U' := T1233.setTop (mkF m 353 #[iv p1, iv p2, iv p3, jv q4, sv, jv q5, sv, iv p6, iv (2 : Int32), jv q4, sv, jv q5, sv, jv x3, sv, rv b1205, iv (Int32.ofNat (own_free own_g0 4 (own_s p1))), iv (Int32.ofNat (own_free (own_add own_g0 (own_s p1) q4) 4 (own_s p2))), iv (-1 : Int32), iv (1 : Int32), jv qq, sv, iv (0 : Int32), iv qh] [(.int (1 : Int32))])) (fun _ k => XS.goto X1233.here hx rfl (pc0 := 349) (pc' := 353) rfl (hb hby at_349) (by decide) (by decide) k) ?_
            refine Rch.go (U' := T1233.setTop (mkF m 355 #[iv p1, iv p2, iv p3, jv q4, sv, jv q5, sv, iv p6, iv (2 : Int32), jv q4, sv, jv q5, sv, jv x3, sv, rv b1205, iv (Int32.ofNat (own_free own_g0 4 (own_s p1))), iv (Int32.ofNat (own_free (own_add own_g0 (own_s p1) q4) 4 (own_s p2))), iv (-1 : Int32), iv (1 : Int32), jv qq, sv, iv (0 : Int32), iv qh] [])) (fun _ k => XS.istore X1233.here hx rfl (hb hby at_353) rfl (l' := #[iv p1, iv p2, iv p3, jv q4, sv, jv q5, sv, iv p6, iv (2 : Int32), jv q4, sv, jv q5, sv, jv x3, sv, rv b1205, iv (Int32.ofNat (own_free own_g0 4 (own_s p1))), iv (Int32.ofNat (own_free (own_add own_g0 (own_s p1) q4) 4 (own_s p2))), iv (-1 : Int32), iv (1 : Int32), jv qq, sv, iv (0 : Int32), iv qh]) rfl k) ?_
            refine Rch.go (U' := T1233.setTop (mkF m 357 #[iv p1, iv p2, iv p3, jv q4, sv, jv q5, sv, iv p6, iv (2 : Int32), jv q4, sv, jv q5, sv, jv x3, sv, rv b1205, iv (Int32.ofNat (own_free own_g0 4 (own_s p1))), iv (Int32.ofNat (own_free (own_add own_g0 (own_s p1) q4) 4 (own_s p2))), iv (-1 : Int32), iv (1 : Int32), jv qq, sv, iv (0 : Int32), iv qh] [(.int (1 : Int32))])) (fun _ k => XS.iload X1233.here hx rfl (hb hby at_355) rfl  k) ?_
            refine Rch.fin X1233 hlk (v := some (.int (nar .boolean (1 : Int32)))) (fun h => by rw [hret] at h; cases h) e1233 (by decide) (by decide) (fun fs hr => retN X1233 hx (t := .boolean) hret (by simp) (hb hby at_357) hr) ?_
            exact ⟨rfl, N1233⟩
set_option maxRecDepth 65536 in
set_option maxHeartbeats 40000000 in
theorem cut19_3 {p : Program} {l : Launch} {e : Env} {s : State} {m : MethodId} {args : Array Value} {below : List Frame} {meth : Method} {c : Code} {T0 : State} {locs : List Loc} {Z : State} {a0 : Array Value} {h0 : Heap} {n0 : Nat}  (p1 : Int32) (p2 : Int32) (p3 : Int32) (q4 : Int64) (q5 : Int64) (p6 : Int32) (x3 : Int64)
    (X0 : Stand p l e room_1 s m args below meth c T0 locs 0 0) (hx : p.tables.exec = Jvm.exec) (hZ : Z.Warmed39 s.vm) (hw : ∀ d ∈ tables_1, d.before a0 Z = true) (hby : c.code = code) (hml : c.maxLocals = 24) (hown : s.vm.findClass cLW = some m.cls) (hret : meth.sig.returnType = some .boolean) (hlk : meth.locks = false) (e0 : T0.heap = h0) (N0 : Fr n0 locs) (Z0 : n0 ≤ h0.size)  :
    Rch p e below (Fin s below (fun v h L => v = some (.int 1) ∧ Fr n0 L) 16 128) (T0.setTop (mkF m 19 #[iv p1, iv p2, iv p3, jv q4, sv, jv q5, sv, iv p6, iv (3 : Int32), jv q4, sv, jv q5, sv, jv x3, sv, uv, uv, uv, uv, uv, uv, uv, uv, uv] [])) := by
  refine Rch.go (U' := T0.setTop (mkF m 21 #[iv p1, iv p2, iv p3, jv q4, sv, jv q5, sv, iv p6, iv (3 : Int32), jv q4, sv, jv q5, sv, jv x3, sv, uv, uv, uv, uv, uv, uv, uv, uv, uv] [(.int (3 : Int32))])) (fun _ k => XS.iload X0.here hx rfl (hb hby at_19) rfl  k) ?_
  refine Rch.go (U' := T0.setTop (mkF m 22 #[iv p1, iv p2, iv p3, jv q4, sv, jv q5, sv, iv p6, iv (3 : Int32), jv q4, sv, jv q5, sv, jv x3, sv, uv, uv, uv, uv, uv, uv, uv, uv, uv] [(.int (1 : Int32)), (.int (3 : Int32))])) (fun _ k => XS.iconst X0.here hx rfl (hb hby at_21) k) ?_
  have br1235 : ¬ ((3 : Int32) < (1 : Int32)) := (by decide)
  refine Rch.go (U' := T0.setTop (mkF m 25 #[iv p1, iv p2, iv p3, jv q4, sv, jv q5, sv, iv p6, iv (3 : Int32), jv q4, sv, jv q5, sv, jv x3, sv, uv, uv, uv, uv, uv, uv, uv, uv, uv] [])) (fun _ k => XS.icmpNo X0.here hx rfl (hb hby at_22) rfl (XT.ii_lt_f br1235) k) ?_
  refine Rch.go (U' := T0.setTop (mkF m 27 #[iv p1, iv p2, iv p3, jv q4, sv, jv q5, sv, iv p6, iv (3 : Int32), jv q4, sv, jv q5, sv, jv x3, sv, uv, uv, uv, uv, uv, uv, uv, uv, uv] [(.long q4)])) (fun _ k => XS.lload X0.here hx rfl (hb hby at_25) rfl  k) ?_
  refine Rch.go (U' := T0.setTop (mkF m 28 #[iv p1, iv p2, iv p3, jv q4, sv, jv q5, sv, iv p6, iv (3 : Int32), jv q4, sv, jv q5, sv, jv x3, sv, uv, uv, uv, uv, uv, uv, uv, uv, uv] [(.long (0 : Int64)), (.long q4)])) (fun _ k => XS.lconst X0.here hx rfl (hb hby at_27) k) ?_
  refine Rch.go (U' := T0.setTop (mkF m 29 #[iv p1, iv p2, iv p3, jv q4, sv, jv q5, sv, iv p6, iv (3 : Int32), jv q4, sv, jv q5, sv, jv x3, sv, uv, uv, uv, uv, uv, uv, uv, uv, uv] [(.int (XT.cmpL q4 (0 : Int64)))])) (fun _ k => XT.lcmp X0.here hx rfl (hb hby at_28) rfl k) ?_
  by_cases br1236 : q4 = (0 : Int64)
  ·
    refine Rch.go (U' := T0.setTop (mkF m 32 #[iv p1, iv p2, iv p3, jv q4, sv, jv q5, sv, iv p6, iv (3 : Int32), jv q4, sv, jv q5, sv, jv x3, sv, uv, uv, uv, uv, uv, uv, uv, uv, uv] [])) (fun _ k => XS.ifNo X0.here hx rfl (hb hby at_29) rfl (XT.ll_ne_f br1236) k) ?_
    refine Rch.go (U' := T0.setTop (mkF m 33 #[iv p1, iv p2, iv p3, jv q4, sv, jv q5, sv, iv p6, iv (3 : Int32), jv q4, sv, jv q5, sv, jv x3, sv, uv, uv, uv, uv, uv, uv, uv, uv, uv] [(.int (1 : Int32))])) (fun _ k => XS.iconst X0.here hx rfl (hb hby at_32) k) ?_
    refine Rch.fin X0 hlk (v := some (.int (nar .boolean (1 : Int32)))) (fun h => by rw [hret] at h; cases h) e0 (by decide) (by decide) (fun fs hr => retN X0 hx (t := .boolean) hret (by simp) (hb hby at_33) hr) ?_
    exact ⟨rfl, N0⟩
  ·
    refine Rch.go (U' := T0.setTop (mkF m 34 #[iv p1, iv p2, iv p3, jv q4, sv, jv q5, sv, iv p6, iv (3 : Int32), jv q4, sv, jv q5, sv, jv x3, sv, uv, uv, uv, uv, uv, uv, uv, uv, uv] [])) (fun _ k => XS.ifYes X0.here hx rfl (pc0 := 29) (pc' := 34) rfl (hb hby at_29) rfl (XT.ll_ne_t br1236) (by decide) (by decide) k) ?_
    refine Rch.go (U' := T0.setTop (mkF m 36 #[iv p1, iv p2, iv p3, jv q4, sv, jv q5, sv, iv p6, iv (3 : Int32), jv q4, sv, jv q5, sv, jv x3, sv, uv, uv, uv, uv, uv, uv, uv, uv, uv] [(.int (3 : Int32))])) (fun _ k => XS.iload X0.here hx rfl (hb hby at_34) rfl  k) ?_
    refine Rch.go (U' := T0.setTop (mkF m 37 #[iv p1, iv p2, iv p3, jv q4, sv, jv q5, sv, iv p6, iv (3 : Int32), jv q4, sv, jv q5, sv, jv x3, sv, uv, uv, uv, uv, uv, uv, uv, uv, uv] [(.int (2 : Int32)), (.int (3 : Int32))])) (fun _ k => XS.iconst X0.here hx rfl (hb hby at_36) k) ?_
    have br1237 : ¬ ((3 : Int32) < (2 : Int32)) := (by decide)
    refine Rch.go (U' := T0.setTop (mkF m 40 #[iv p1, iv p2, iv p3, jv q4, sv, jv q5, sv, iv p6, iv (3 : Int32), jv q4, sv, jv q5, sv, jv x3, sv, uv, uv, uv, uv, uv, uv, uv, uv, uv] [])) (fun _ k => XS.icmpNo X0.here hx rfl (hb hby at_37) rfl (XT.ii_lt_f br1237) k) ?_
    refine Rch.go (U' := T0.setTop (mkF m 42 #[iv p1, iv p2, iv p3, jv q4, sv, jv q5, sv, iv p6, iv (3 : Int32), jv q4, sv, jv q5, sv, jv x3, sv, uv, uv, uv, uv, uv, uv, uv, uv, uv] [(.long q5)])) (fun _ k => XS.lload X0.here hx rfl (hb hby at_40) rfl  k) ?_
    refine Rch.go (U' := T0.setTop (mkF m 43 #[iv p1, iv p2, iv p3, jv q4, sv, jv q5, sv, iv p6, iv (3 : Int32), jv q4, sv, jv q5, sv, jv x3, sv, uv, uv, uv, uv, uv, uv, uv, uv, uv] [(.long (0 : Int64)), (.long q5)])) (fun _ k => XS.lconst X0.here hx rfl (hb hby at_42) k) ?_
    refine Rch.go (U' := T0.setTop (mkF m 44 #[iv p1, iv p2, iv p3, jv q4, sv, jv q5, sv, iv p6, iv (3 : Int32), jv q4, sv, jv q5, sv, jv x3, sv, uv, uv, uv, uv, uv, uv, uv, uv, uv] [(.int (XT.cmpL q5 (0 : Int64)))])) (fun _ k => XT.lcmp X0.here hx rfl (hb hby at_43) rfl k) ?_
    by_cases br1238 : q5 = (0 : Int64)
    ·
      refine Rch.go (U' := T0.setTop (mkF m 55 #[iv p1, iv p2, iv p3, jv q4, sv, jv q5, sv, iv p6, iv (3 : Int32), jv q4, sv, jv q5, sv, jv x3, sv, uv, uv, uv, uv, uv, uv, uv, uv, uv] [])) (fun _ k => XS.ifYes X0.here hx rfl (pc0 := 44) (pc' := 55) rfl (hb hby at_44) rfl (XT.ll_eq_t br1238) (by decide) (by decide) k) ?_
      refine Rch.go (U' := T0.setTop (mkF m 56 #[iv p1, iv p2, iv p3, jv q4, sv, jv q5, sv, iv p6, iv (3 : Int32), jv q4, sv, jv q5, sv, jv x3, sv, uv, uv, uv, uv, uv, uv, uv, uv, uv] [(.int (1 : Int32))])) (fun _ k => XS.iconst X0.here hx rfl (hb hby at_55) k) ?_
      refine Rch.fin X0 hlk (v := some (.int (nar .boolean (1 : Int32)))) (fun h => by rw [hret] at h; cases h) e0 (by decide) (by decide) (fun fs hr => retN X0 hx (t := .boolean) hret (by simp) (hb hby at_56) hr) ?_
      exact ⟨rfl, N0⟩
    ·
      refine Rch.go (U' := T0.setTop (mkF m 47 #[iv p1, iv p2, iv p3, jv q4, sv, jv q5, sv, iv p6, iv (3 : Int32), jv q4, sv, jv q5, sv, jv x3, sv, uv, uv, uv, uv, uv, uv, uv, uv, uv] [])) (fun _ k => XS.ifNo X0.here hx rfl (hb hby at_44) rfl (XT.ll_eq_f br1238) k) ?_
      refine Rch.go (U' := T0.setTop (mkF m 49 #[iv p1, iv p2, iv p3, jv q4, sv, jv q5, sv, iv p6, iv (3 : Int32), jv q4, sv, jv q5, sv, jv x3, sv, uv, uv, uv, uv, uv, uv, uv, uv, uv] [(.long q5)])) (fun _ k => XS.lload X0.here hx rfl (hb hby at_47) rfl  k) ?_
      refine Rch.go (U' := T0.setTop (mkF m 51 #[iv p1, iv p2, iv p3, jv q4, sv, jv q5, sv, iv p6, iv (3 : Int32), jv q4, sv, jv q5, sv, jv x3, sv, uv, uv, uv, uv, uv, uv, uv, uv, uv] [(.long q4), (.long q5)])) (fun _ k => XS.lload X0.here hx rfl (hb hby at_49) rfl  k) ?_
      refine Rch.go (U' := T0.setTop (mkF m 52 #[iv p1, iv p2, iv p3, jv q4, sv, jv q5, sv, iv p6, iv (3 : Int32), jv q4, sv, jv q5, sv, jv x3, sv, uv, uv, uv, uv, uv, uv, uv, uv, uv] [(.int (XT.cmpL q5 q4))])) (fun _ k => XT.lcmp X0.here hx rfl (hb hby at_51) rfl k) ?_
      by_cases br1239 : q5 = q4
      ·
        refine Rch.go (U' := T0.setTop (mkF m 55 #[iv p1, iv p2, iv p3, jv q4, sv, jv q5, sv, iv p6, iv (3 : Int32), jv q4, sv, jv q5, sv, jv x3, sv, uv, uv, uv, uv, uv, uv, uv, uv, uv] [])) (fun _ k => XS.ifNo X0.here hx rfl (hb hby at_52) rfl (XT.ll_ne_f br1239) k) ?_
        refine Rch.go (U' := T0.setTop (mkF m 56 #[iv p1, iv p2, iv p3, jv q4, sv, jv q5, sv, iv p6, iv (3 : Int32), jv q4, sv, jv q5, sv, jv x3, sv, uv, uv, uv, uv, uv, uv, uv, uv, uv] [(.int (1 : Int32))])) (fun _ k => XS.iconst X0.here hx rfl (hb hby at_55) k) ?_
        refine Rch.fin X0 hlk (v := some (.int (nar .boolean (1 : Int32)))) (fun h => by rw [hret] at h; cases h) e0 (by decide) (by decide) (fun fs hr => retN X0 hx (t := .boolean) hret (by simp) (hb hby at_56) hr) ?_
        exact ⟨rfl, N0⟩
      ·
        refine Rch.go (U' := T0.setTop (mkF m 57 #[iv p1, iv p2, iv p3, jv q4, sv, jv q5, sv, iv p6, iv (3 : Int32), jv q4, sv, jv q5, sv, jv x3, sv, uv, uv, uv, uv, uv, uv, uv, uv, uv] [])) (fun _ k => XS.ifYes X0.here hx rfl (pc0 := 52) (pc' := 57) rfl (hb hby at_52) rfl (XT.ll_ne_t br1239) (by decide) (by decide) k) ?_
        refine Rch.go (U' := T0.setTop (mkF m 59 #[iv p1, iv p2, iv p3, jv q4, sv, jv q5, sv, iv p6, iv (3 : Int32), jv q4, sv, jv q5, sv, jv x3, sv, uv, uv, uv, uv, uv, uv, uv, uv, uv] [(.int (3 : Int32))])) (fun _ k => XS.iload X0.here hx rfl (hb hby at_57) rfl  k) ?_
        refine Rch.go (U' := T0.setTop (mkF m 60 #[iv p1, iv p2, iv p3, jv q4, sv, jv q5, sv, iv p6, iv (3 : Int32), jv q4, sv, jv q5, sv, jv x3, sv, uv, uv, uv, uv, uv, uv, uv, uv, uv] [(.int (3 : Int32)), (.int (3 : Int32))])) (fun _ k => XS.iconst X0.here hx rfl (hb hby at_59) k) ?_
        have br1240 : ¬ ((3 : Int32) < (3 : Int32)) := (by decide)
        refine Rch.go (U' := T0.setTop (mkF m 63 #[iv p1, iv p2, iv p3, jv q4, sv, jv q5, sv, iv p6, iv (3 : Int32), jv q4, sv, jv q5, sv, jv x3, sv, uv, uv, uv, uv, uv, uv, uv, uv, uv] [])) (fun _ k => XS.icmpNo X0.here hx rfl (hb hby at_60) rfl (XT.ii_lt_f br1240) k) ?_
        refine Rch.go (U' := T0.setTop (mkF m 65 #[iv p1, iv p2, iv p3, jv q4, sv, jv q5, sv, iv p6, iv (3 : Int32), jv q4, sv, jv q5, sv, jv x3, sv, uv, uv, uv, uv, uv, uv, uv, uv, uv] [(.long x3)])) (fun _ k => XS.lload X0.here hx rfl (hb hby at_63) rfl  k) ?_
        refine Rch.go (U' := T0.setTop (mkF m 66 #[iv p1, iv p2, iv p3, jv q4, sv, jv q5, sv, iv p6, iv (3 : Int32), jv q4, sv, jv q5, sv, jv x3, sv, uv, uv, uv, uv, uv, uv, uv, uv, uv] [(.long (0 : Int64)), (.long x3)])) (fun _ k => XS.lconst X0.here hx rfl (hb hby at_65) k) ?_
        refine Rch.go (U' := T0.setTop (mkF m 67 #[iv p1, iv p2, iv p3, jv q4, sv, jv q5, sv, iv p6, iv (3 : Int32), jv q4, sv, jv q5, sv, jv x3, sv, uv, uv, uv, uv, uv, uv, uv, uv, uv] [(.int (XT.cmpL x3 (0 : Int64)))])) (fun _ k => XT.lcmp X0.here hx rfl (hb hby at_66) rfl k) ?_
        by_cases br1241 : x3 = (0 : Int64)
        ·
          refine Rch.go (U' := T0.setTop (mkF m 86 #[iv p1, iv p2, iv p3, jv q4, sv, jv q5, sv, iv p6, iv (3 : Int32), jv q4, sv, jv q5, sv, jv x3, sv, uv, uv, uv, uv, uv, uv, uv, uv, uv] [])) (fun _ k => XS.ifYes X0.here hx rfl (pc0 := 67) (pc' := 86) rfl (hb hby at_67) rfl (XT.ll_eq_t br1241) (by decide) (by decide) k) ?_
          refine Rch.go (U' := T0.setTop (mkF m 87 #[iv p1, iv p2, iv p3, jv q4, sv, jv q5, sv, iv p6, iv (3 : Int32), jv q4, sv, jv q5, sv, jv x3, sv, uv, uv, uv, uv, uv, uv, uv, uv, uv] [(.int (1 : Int32))])) (fun _ k => XS.iconst X0.here hx rfl (hb hby at_86) k) ?_
          refine Rch.fin X0 hlk (v := some (.int (nar .boolean (1 : Int32)))) (fun h => by rw [hret] at h; cases h) e0 (by decide) (by decide) (fun fs hr => retN X0 hx (t := .boolean) hret (by simp) (hb hby at_87) hr) ?_
          exact ⟨rfl, N0⟩
        ·
          refine Rch.go (U' := T0.setTop (mkF m 70 #[iv p1, iv p2, iv p3, jv q4, sv, jv q5, sv, iv p6, iv (3 : Int32), jv q4, sv, jv q5, sv, jv x3, sv, uv, uv, uv, uv, uv, uv, uv, uv, uv] [])) (fun _ k => XS.ifNo X0.here hx rfl (hb hby at_67) rfl (XT.ll_eq_f br1241) k) ?_
          refine Rch.go (U' := T0.setTop (mkF m 72 #[iv p1, iv p2, iv p3, jv q4, sv, jv q5, sv, iv p6, iv (3 : Int32), jv q4, sv, jv q5, sv, jv x3, sv, uv, uv, uv, uv, uv, uv, uv, uv, uv] [(.long x3)])) (fun _ k => XS.lload X0.here hx rfl (hb hby at_70) rfl  k) ?_
          refine Rch.go (U' := T0.setTop (mkF m 74 #[iv p1, iv p2, iv p3, jv q4, sv, jv q5, sv, iv p6, iv (3 : Int32), jv q4, sv, jv q5, sv, jv x3, sv, uv, uv, uv, uv, uv, uv, uv, uv, uv] [(.long q4), (.long x3)])) (fun _ k => XS.lload X0.here hx rfl (hb hby at_72) rfl  k) ?_
          refine Rch.go (U' := T0.setTop (mkF m 75 #[iv p1, iv p2, iv p3, jv q4, sv, jv q5, sv, iv p6, iv (3 : Int32), jv q4, sv, jv q5, sv, jv x3, sv, uv, uv, uv, uv, uv, uv, uv, uv, uv] [(.int (XT.cmpL x3 q4))])) (fun _ k => XT.lcmp X0.here hx rfl (hb hby at_74) rfl k) ?_
          by_cases br1242 : x3 = q4
          ·
            refine Rch.go (U' := T0.setTop (mkF m 86 #[iv p1, iv p2, iv p3, jv q4, sv, jv q5, sv, iv p6, iv (3 : Int32), jv q4, sv, jv q5, sv, jv x3, sv, uv, uv, uv, uv, uv, uv, uv, uv, uv] [])) (fun _ k => XS.ifYes X0.here hx rfl (pc0 := 75) (pc' := 86) rfl (hb hby at_75) rfl (XT.ll_eq_t br1242) (by decide) (by decide) k) ?_
            refine Rch.go (U' := T0.setTop (mkF m 87 #[iv p1, iv p2, iv p3, jv q4, sv, jv q5, sv, iv p6, iv (3 : Int32), jv q4, sv, jv q5, sv, jv x3, sv, uv, uv, uv, uv, uv, uv, uv, uv, uv] [(.int (1 : Int32))])) (fun _ k => XS.iconst X0.here hx rfl (hb hby at_86) k) ?_
            refine Rch.fin X0 hlk (v := some (.int (nar .boolean (1 : Int32)))) (fun h => by rw [hret] at h; cases h) e0 (by decide) (by decide) (fun fs hr => retN X0 hx (t := .boolean) hret (by simp) (hb hby at_87) hr) ?_
            exact ⟨rfl, N0⟩
          ·
            refine Rch.go (U' := T0.setTop (mkF m 78 #[iv p1, iv p2, iv p3, jv q4, sv, jv q5, sv, iv p6, iv (3 : Int32), jv q4, sv, jv q5, sv, jv x3, sv, uv, uv, uv, uv, uv, uv, uv, uv, uv] [])) (fun _ k => XS.ifNo X0.here hx rfl (hb hby at_75) rfl (XT.ll_eq_f br1242) k) ?_
            refine Rch.go (U' := T0.setTop (mkF m 80 #[iv p1, iv p2, iv p3, jv q4, sv, jv q5, sv, iv p6, iv (3 : Int32), jv q4, sv, jv q5, sv, jv x3, sv, uv, uv, uv, uv, uv, uv, uv, uv, uv] [(.long x3)])) (fun _ k => XS.lload X0.here hx rfl (hb hby at_78) rfl  k) ?_
            refine Rch.go (U' := T0.setTop (mkF m 82 #[iv p1, iv p2, iv p3, jv q4, sv, jv q5, sv, iv p6, iv (3 : Int32), jv q4, sv, jv q5, sv, jv x3, sv, uv, uv, uv, uv, uv, uv, uv, uv, uv] [(.long q5), (.long x3)])) (fun _ k => XS.lload X0.here hx rfl (hb hby at_80) rfl  k) ?_
            refine Rch.go (U' := T0.setTop (mkF m 83 #[iv p1, iv p2, iv p3, jv q4, sv, jv q5, sv, iv p6, iv (3 : Int32), jv q4, sv, jv q5, sv, jv x3, sv, uv, uv, uv, uv, uv, uv, uv, uv, uv] [(.int (XT.cmpL x3 q5))])) (fun _ k => XT.lcmp X0.here hx rfl (hb hby at_82) rfl k) ?_
            by_cases br1243 : x3 = q5
            ·
              refine Rch.go (U' := T0.setTop (mkF m 86 #[iv p1, iv p2, iv p3, jv q4, sv, jv q5, sv, iv p6, iv (3 : Int32), jv q4, sv, jv q5, sv, jv x3, sv, uv, uv, uv, uv, uv, uv, uv, uv, uv] [])) (fun _ k => XS.ifNo X0.here hx rfl (hb hby at_83) rfl (XT.ll_ne_f br1243) k) ?_
              refine Rch.go (U' := T0.setTop (mkF m 87 #[iv p1, iv p2, iv p3, jv q4, sv, jv q5, sv, iv p6, iv (3 : Int32), jv q4, sv, jv q5, sv, jv x3, sv, uv, uv, uv, uv, uv, uv, uv, uv, uv] [(.int (1 : Int32))])) (fun _ k => XS.iconst X0.here hx rfl (hb hby at_86) k) ?_
              refine Rch.fin X0 hlk (v := some (.int (nar .boolean (1 : Int32)))) (fun h => by rw [hret] at h; cases h) e0 (by decide) (by decide) (fun fs hr => retN X0 hx (t := .boolean) hret (by simp) (hb hby at_87) hr) ?_
              exact ⟨rfl, N0⟩
            ·
              refine Rch.go (U' := T0.setTop (mkF m 88 #[iv p1, iv p2, iv p3, jv q4, sv, jv q5, sv, iv p6, iv (3 : Int32), jv q4, sv, jv q5, sv, jv x3, sv, uv, uv, uv, uv, uv, uv, uv, uv, uv] [])) (fun _ k => XS.ifYes X0.here hx rfl (pc0 := 83) (pc' := 88) rfl (hb hby at_83) rfl (XT.ll_ne_t br1243) (by decide) (by decide) k) ?_
              obtain ⟨T1244, h1244, X1244, e1244, E1244, A1244, D1244, -, st1244⟩ := newO X0 hx hZ hown (wi hw 0 rfl) (wi hw 1 rfl) (wi hw 2 rfl) e0 (g := (mkF m 88 #[iv p1, iv p2, iv p3, jv q4, sv, jv q5, sv, iv p6, iv (3 : Int32), jv q4, sv, jv q5, sv, jv x3, sv, uv, uv, uv, uv, uv, uv, uv, uv, uv] [])) rfl (hb hby at_88) (by decide) (by decide)
              obtain ⟨b1244, g1244⟩ : ∃ z, z = h0.size := ⟨_, rfl⟩
              rw [← g1244] at A1244 D1244 st1244
              have n0b1244 : n0 ≤ b1244 := Nat.le_trans Z0 (Nat.le_of_eq g1244.symm)
              have z1245 := Nat.le_trans Z0 E1244.1
              have F1244_earliest : Fld Z h1244 b1244 cST "earliest" "J" (.long (0 : Int64)) := D1244 (Or.inl (wi hw 11 rfl)) (ty := .long) (by decide)
              have F1244_earliestOfWalk : Fld Z h1244 b1244 cST "earliestOfWalk" "J" (.long (0 : Int64)) := D1244 (Or.inl (wi hw 13 rfl)) (ty := .long) (by decide)
              have F1244_count : Fld Z h1244 b1244 cST "count" "I" (.int (0 : Int32)) := D1244 (Or.inl (wi hw 20 rfl)) (ty := .int) (by decide)
              have F1244_handles : Fld Z h1244 b1244 cST "handles" "[J" .null := D1244 (Or.inl (wi hw 27 rfl)) (ty := (.array .long)) (by decide)
              have F1244_hashes : Fld Z h1244 b1244 cST "hashes" "[I" .null := D1244 (Or.inl (wi hw 37 rfl)) (ty := (.array .int)) (by decide)
              have F1244_lengths : Fld Z h1244 b1244 cST "lengths" "[I" .null := D1244 (Or.inl (wi hw 39 rfl)) (ty := (.array .int)) (by decide)
              have F1244_outside : Fld Z h1244 b1244 cST "outside" "[[B" .null := D1244 (Or.inl (wi hw 41 rfl)) (ty := (.array (.array .byte))) (by decide)
              have F1244_marks : Fld Z h1244 b1244 cST "marks" "Ljava/util/BitSet;" .null := D1244 (Or.inl (wi hw 43 rfl)) (ty := (.object "java/util/BitSet")) (by decide)
              have F1244_expiries : Fld Z h1244 b1244 cST "expiries" "Ljava/util/BitSet;" .null := D1244 (Or.inl (wi hw 45 rfl)) (ty := (.object "java/util/BitSet")) (by decide)
              have F1244_moves : Fld Z h1244 b1244 cST "moves" "J" (.long (0 : Int64)) := D1244 (Or.inl (wi hw 49 rfl)) (ty := .long) (by decide)
              have F1244_expiring : Fld Z h1244 b1244 cST "expiring" "I" (.int (0 : Int32)) := D1244 (Or.inl (wi hw 66 rfl)) (ty := .int) (by decide)
              refine Rch.go (U' := T1244.setTop (mkF m 91 #[iv p1, iv p2, iv p3, jv q4, sv, jv q5, sv, iv p6, iv (3 : Int32), jv q4, sv, jv q5, sv, jv x3, sv, uv, uv, uv, uv, uv, uv, uv, uv, uv] [(.ref b1244)])) st1244 ?_
              refine Rch.go (U' := T1244.setTop (mkF m 92 #[iv p1, iv p2, iv p3, jv q4, sv, jv q5, sv, iv p6, iv (3 : Int32), jv q4, sv, jv q5, sv, jv x3, sv, uv, uv, uv, uv, uv, uv, uv, uv, uv] [(.ref b1244), (.ref b1244)])) (fun _ k => XS.dup X1244.here hx rfl (hb hby at_91) rfl rfl k) ?_
              obtain ⟨_, _, ⟨T1246, L1246, k1246, n1246⟩, -, X1246, ⟨Lc1246, hQ1246, l1246, y1246, z1246⟩, st1246⟩ := X1244.specialBack hx (y := yN) rfl hown (mvT hZ (wi hw 3 rfl)) (mvT hZ (wi hw 4 rfl)) (mvT hZ (wi hw 5 rfl)) (by decide) (backOf (W := 1) (rmNew l Z a0 hw [] b1244 (0 : Int64) (0 : Int64) (0 : Int32) (0 : Int64) (0 : Int32) h1244 n0 z1245 A1244 F1244_earliest F1244_earliestOfWalk F1244_count F1244_handles F1244_hashes F1244_lengths F1244_outside F1244_marks F1244_expiries F1244_moves F1244_expiring n0b1244) hZ (wi hw 5 rfl) (wi hw 2 rfl) (by decide) (by decide)) (g := (mkF m 92 #[iv p1, iv p2, iv p3, jv q4, sv, jv q5, sv, iv p6, iv (3 : Int32), jv q4, sv, jv q5, sv, jv x3, sv, uv, uv, uv, uv, uv, uv, uv, uv, uv] [(.ref b1244), (.ref b1244)])) rfl (by rw [hml]; rfl) (Steps.refl _) (a := b1244) (argsL := []) (rest := [(.ref b1244)]) (lenOf pd_13 rfl) rfl (by show 2 * 0 + _ ≤ _; exact Nat.le_of_eq rfl) (hb hby at_92) (fun _ _ => ⟨rfl, e1244, (by decide : 1 + 0 ≤ _), (by decide : 12 + 0 ≤ _)⟩)
              dsimp only [Pt.U, Pt.locs, Pt.cells, Pt.slots] at X1246 l1246 y1246 z1246 st1246 hQ1246
              subst l1246 y1246 z1246
              obtain ⟨rfl, N1246q, K1246q, F1246_earliest, F1246_earliestOfWalk, F1246_count, F1246_handles, F1246_hashes, F1246_lengths, F1246_outside, F1246_marks, F1246_expiries, F1246_moves, F1246_expiring⟩ := hQ1246
              have N1246 := Fr.app N0 N1246q
              have z1247 := Nat.le_trans z1245 K1246q.1
              have f1248 := A1244.keep K1246q
              refine Rch.to (U' := T1246.setTop (mkF m 95 #[iv p1, iv p2, iv p3, jv q4, sv, jv q5, sv, iv p6, iv (3 : Int32), jv q4, sv, jv q5, sv, jv x3, sv, uv, uv, uv, uv, uv, uv, uv, uv, uv] [(.ref b1244)])) st1246 ?_
              refine Rch.go (U' := T1246.setTop (mkF m 97 #[iv p1, iv p2, iv p3, jv q4, sv, jv q5, sv, iv p6, iv (3 : Int32), jv q4, sv, jv q5, sv, jv x3, sv, rv b1244, uv, uv, uv, uv, uv, uv, uv, uv] [])) (fun _ k => XS.astore X1246.here hx rfl (hb hby at_95) rfl rfl (l' := #[iv p1, iv p2, iv p3, jv q4, sv, jv q5, sv, iv p6, iv (3 : Int32), jv q4, sv, jv q5, sv, jv x3, sv, rv b1244, uv, uv, uv, uv, uv, uv, uv, uv]) rfl k) ?_
              refine Rch.go (U' := T1246.setTop (mkF m 98 #[iv p1, iv p2, iv p3, jv q4, sv, jv q5, sv, iv p6, iv (3 : Int32), jv q4, sv, jv q5, sv, jv x3, sv, rv b1244, uv, uv, uv, uv, uv, uv, uv, uv] [(.int (-1 : Int32))])) (fun _ k => XS.iconst X1246.here hx rfl (hb hby at_97) k) ?_
              refine Rch.go (U' := T1246.setTop (mkF m 100 #[iv p1, iv p2, iv p3, jv q4, sv, jv q5, sv, iv p6, iv (3 : Int32), jv q4, sv, jv q5, sv, jv x3, sv, rv b1244, iv (-1 : Int32), uv, uv, uv, uv, uv, uv, uv] [])) (fun _ k => XS.istore X1246.here hx rfl (hb hby at_98) rfl (l' := #[iv p1, iv p2, iv p3, jv q4, sv, jv q5, sv, iv p6, iv (3 : Int32), jv q4, sv, jv q5, sv, jv x3, sv, rv b1244, iv (-1 : Int32), uv, uv, uv, uv, uv, uv, uv]) rfl k) ?_
              refine Rch.go (U' := T1246.setTop (mkF m 101 #[iv p1, iv p2, iv p3, jv q4, sv, jv q5, sv, iv p6, iv (3 : Int32), jv q4, sv, jv q5, sv, jv x3, sv, rv b1244, iv (-1 : Int32), uv, uv, uv, uv, uv, uv, uv] [(.int (-1 : Int32))])) (fun _ k => XS.iconst X1246.here hx rfl (hb hby at_100) k) ?_
              refine Rch.go (U' := T1246.setTop (mkF m 103 #[iv p1, iv p2, iv p3, jv q4, sv, jv q5, sv, iv p6, iv (3 : Int32), jv q4, sv, jv q5, sv, jv x3, sv, rv b1244, iv (-1 : Int32), iv (-1 : Int32), uv, uv, uv, uv, uv, uv] [])) (fun _ k => XS.istore X1246.here hx rfl (hb hby at_101) rfl (l' := #[iv p1, iv p2, iv p3, jv q4, sv, jv q5, sv, iv p6, iv (3 : Int32), jv q4, sv, jv q5, sv, jv x3, sv, rv b1244, iv (-1 : Int32), iv (-1 : Int32), uv, uv, uv, uv, uv, uv]) rfl k) ?_
              refine Rch.go (U' := T1246.setTop (mkF m 104 #[iv p1, iv p2, iv p3, jv q4, sv, jv q5, sv, iv p6, iv (3 : Int32), jv q4, sv, jv q5, sv, jv x3, sv, rv b1244, iv (-1 : Int32), iv (-1 : Int32), uv, uv, uv, uv, uv, uv] [(.int (-1 : Int32))])) (fun _ k => XS.iconst X1246.here hx rfl (hb hby at_103) k) ?_
              refine Rch.go (U' := T1246.setTop (mkF m 106 #[iv p1, iv p2, iv p3, jv q4, sv, jv q5, sv, iv p6, iv (3 : Int32), jv q4, sv, jv q5, sv, jv x3, sv, rv b1244, iv (-1 : Int32), iv (-1 : Int32), iv (-1 : Int32), uv, uv, uv, uv, uv] [])) (fun _ k => XS.istore X1246.here hx rfl (hb hby at_104) rfl (l' := #[iv p1, iv p2, iv p3, jv q4, sv, jv q5, sv, iv p6, iv (3 : Int32), jv q4, sv, jv q5, sv, jv x3, sv, rv b1244, iv (-1 : Int32), iv (-1 : Int32), iv (-1 : Int32), uv, uv, uv, uv, uv]) rfl k) ?_
              refine Rch.go (U' := T1246.setTop (mkF m 108 #[iv p1, iv p2, iv p3, jv q4, sv, jv q5, sv, iv p6, iv (3 : Int32), jv q4, sv, jv q5, sv, jv x3, sv, rv b1244, iv (-1 : Int32), iv (-1 : Int32), iv (-1 : Int32), uv, uv, uv, uv, uv] [(.int (3 : Int32))])) (fun _ k => XS.iload X1246.here hx rfl (hb hby at_106) rfl  k) ?_
              refine Rch.go (U' := T1246.setTop (mkF m 109 #[iv p1, iv p2, iv p3, jv q4, sv, jv q5, sv, iv p6, iv (3 : Int32), jv q4, sv, jv q5, sv, jv x3, sv, rv b1244, iv (-1 : Int32), iv (-1 : Int32), iv (-1 : Int32), uv, uv, uv, uv, uv] [(.int (1 : Int32)), (.int (3 : Int32))])) (fun _ k => XS.iconst X1246.here hx rfl (hb hby at_108) k) ?_
              have br1249 : ¬ ((3 : Int32) < (1 : Int32)) := (by decide)
              refine Rch.go (U' := T1246.setTop (mkF m 112 #[iv p1, iv p2, iv p3, jv q4, sv, jv q5, sv, iv p6, iv (3 : Int32), jv q4, sv, jv q5, sv, jv x3, sv, rv b1244, iv (-1 : Int32), iv (-1 : Int32), iv (-1 : Int32), uv, uv, uv, uv, uv] [])) (fun _ k => XS.icmpNo X1246.here hx rfl (hb hby at_109) rfl (XT.ii_lt_f br1249) k) ?_
              refine Rch.go (U' := T1246.setTop (mkF m 114 #[iv p1, iv p2, iv p3, jv q4, sv, jv q5, sv, iv p6, iv (3 : Int32), jv q4, sv, jv q5, sv, jv x3, sv, rv b1244, iv (-1 : Int32), iv (-1 : Int32), iv (-1 : Int32), uv, uv, uv, uv, uv] [(.ref b1244)])) (fun _ k => XS.aload X1246.here hx rfl (hb hby at_112) rfl rfl k) ?_
              refine Rch.go (U' := T1246.setTop (mkF m 115 #[iv p1, iv p2, iv p3, jv q4, sv, jv q5, sv, iv p6, iv (3 : Int32), jv q4, sv, jv q5, sv, jv x3, sv, rv b1244, iv (-1 : Int32), iv (-1 : Int32), iv (-1 : Int32), uv, uv, uv, uv, uv] [(.int p1), (.ref b1244)])) (fun _ k => XS.iloadN X1246.here hx rfl (hb hby at_114) rfl  k) ?_
              refine Rch.go (U' := T1246.setTop (mkF m 117 #[iv p1, iv p2, iv p3, jv q4, sv, jv q5, sv, iv p6, iv (3 : Int32), jv q4, sv, jv q5, sv, jv x3, sv, rv b1244, iv (-1 : Int32), iv (-1 : Int32), iv (-1 : Int32), uv, uv, uv, uv, uv] [(.long q4), (.int p1), (.ref b1244)])) (fun _ k => XS.lload X1246.here hx rfl (hb hby at_115) rfl  k) ?_
              refine Rch.go (U' := T1246.setTop (mkF m 119 #[iv p1, iv p2, iv p3, jv q4, sv, jv q5, sv, iv p6, iv (3 : Int32), jv q4, sv, jv q5, sv, jv x3, sv, rv b1244, iv (-1 : Int32), iv (-1 : Int32), iv (-1 : Int32), uv, uv, uv, uv, uv] [(.int (16 : Int32)), (.long q4), (.int p1), (.ref b1244)])) (fun _ k => XS.bipush X1246.here hx rfl (hb hby at_117) k) ?_
              refine Rch.go (U' := T1246.setTop (mkF m 120 #[iv p1, iv p2, iv p3, jv q4, sv, jv q5, sv, iv p6, iv (3 : Int32), jv q4, sv, jv q5, sv, jv x3, sv, rv b1244, iv (-1 : Int32), iv (-1 : Int32), iv (-1 : Int32), uv, uv, uv, uv, uv] [.null, (.int (16 : Int32)), (.long q4), (.int p1), (.ref b1244)])) (fun _ k => XS.aconstNull X1246.here hx rfl (hb hby at_119) k) ?_
              refine Rch.go (U' := T1246.setTop (mkF m 121 #[iv p1, iv p2, iv p3, jv q4, sv, jv q5, sv, iv p6, iv (3 : Int32), jv q4, sv, jv q5, sv, jv x3, sv, rv b1244, iv (-1 : Int32), iv (-1 : Int32), iv (-1 : Int32), uv, uv, uv, uv, uv] [(.int (0 : Int32)), .null, (.int (16 : Int32)), (.long q4), (.int p1), (.ref b1244)])) (fun _ k => XS.iconst X1246.here hx rfl (hb hby at_120) k) ?_
              obtain ⟨cq1250, kq1250, q1250a, q1250b, q1250c⟩ := isOf hZ rfl f1248
              obtain ⟨_, _, ⟨T1250, L1250, k1250, n1250⟩, -, X1250, ⟨Lc1250, hQ1250, l1250, y1250, z1250⟩, st1250⟩ := X1246.virtualBack hx (y := yA) (z := yA) hown (mvT hZ (wi hw 14 rfl)) (mvT hZ (wi hw 15 rfl)) (notFace_of_selects (args := #[]) (mvT hZ (wi hw 17 rfl))) (mvT hZ (wi hw 17 rfl)) (mvT hZ (wi hw 16 rfl)) (by decide) (backOf (W := 0) (rmAE l Z a0 hw [] b1244 (0 : Int64) p1 q4 (16 : Int32) T1246.heap n0 z1247 f1248 F1246_count F1246_handles F1246_hashes F1246_lengths F1246_outside F1246_marks F1246_expiries F1246_moves n0b1244) hZ (wi hw 18 rfl) (wi hw 2 rfl) (by decide) (by decide)) q1250a q1250c (g := (mkF m 121 #[iv p1, iv p2, iv p3, jv q4, sv, jv q5, sv, iv p6, iv (3 : Int32), jv q4, sv, jv q5, sv, jv x3, sv, rv b1244, iv (-1 : Int32), iv (-1 : Int32), iv (-1 : Int32), uv, uv, uv, uv, uv] [(.int (0 : Int32)), .null, (.int (16 : Int32)), (.long q4), (.int p1), (.ref b1244)])) rfl (by rw [hml]; rfl) (Steps.refl _) (argsL := [(.int p1), (.long q4), (.int (16 : Int32)), .null, (.int (0 : Int32))]) (rest := []) (lenOf pd_14 rfl) rfl (by show 2 * 0 + _ ≤ _; exact Nat.le_of_eq rfl) (hb hby at_121) (fun _ _ => ⟨rfl, rfl, (by decide : 1 + 3 ≤ _), (by decide : 12 + 12 ≤ _)⟩)
              dsimp only [Pt.U, Pt.locs, Pt.cells, Pt.slots] at X1250 l1250 y1250 z1250 st1250 hQ1250
              subst l1250 y1250 z1250
              obtain ⟨bh, ba, bl, kh, ka, kl, va1250, vl1250, rfl, N1250q, z1250, B1250⟩ := hQ1250
              have N1250 := Fr.app N1246 N1250q
              refine Rch.to (U' := T1250.setTop (mkF m 124 #[iv p1, iv p2, iv p3, jv q4, sv, jv q5, sv, iv p6, iv (3 : Int32), jv q4, sv, jv q5, sv, jv x3, sv, rv b1244, iv (-1 : Int32), iv (-1 : Int32), iv (-1 : Int32), uv, uv, uv, uv, uv] [(.int (Int32.ofNat (own_free own_g0 4 (own_s p1))))])) st1250 ?_
              refine Rch.go (U' := T1250.setTop (mkF m 126 #[iv p1, iv p2, iv p3, jv q4, sv, jv q5, sv, iv p6, iv (3 : Int32), jv q4, sv, jv q5, sv, jv x3, sv, rv b1244, iv (Int32.ofNat (own_free own_g0 4 (own_s p1))), iv (-1 : Int32), iv (-1 : Int32), uv, uv, uv, uv, uv] [])) (fun _ k => XS.istore X1250.here hx rfl (hb hby at_124) rfl (l' := #[iv p1, iv p2, iv p3, jv q4, sv, jv q5, sv, iv p6, iv (3 : Int32), jv q4, sv, jv q5, sv, jv x3, sv, rv b1244, iv (Int32.ofNat (own_free own_g0 4 (own_s p1))), iv (-1 : Int32), iv (-1 : Int32), uv, uv, uv, uv, uv]) rfl k) ?_
              refine Rch.go (U' := T1250.setTop (mkF m 128 #[iv p1, iv p2, iv p3, jv q4, sv, jv q5, sv, iv p6, iv (3 : Int32), jv q4, sv, jv q5, sv, jv x3, sv, rv b1244, iv (Int32.ofNat (own_free own_g0 4 (own_s p1))), iv (-1 : Int32), iv (-1 : Int32), uv, uv, uv, uv, uv] [(.int (3 : Int32))])) (fun _ k => XS.iload X1250.here hx rfl (hb hby at_126) rfl  k) ?_
              refine Rch.go (U' := T1250.setTop (mkF m 129 #[iv p1, iv p2, iv p3, jv q4, sv, jv q5, sv, iv p6, iv (3 : Int32), jv q4, sv, jv q5, sv, jv x3, sv, rv b1244, iv (Int32.ofNat (own_free own_g0 4 (own_s p1))), iv (-1 : Int32), iv (-1 : Int32), uv, uv, uv, uv, uv] [(.int (2 : Int32)), (.int (3 : Int32))])) (fun _ k => XS.iconst X1250.here hx rfl (hb hby at_128) k) ?_
              have br1251 : ¬ ((3 : Int32) < (2 : Int32)) := (by decide)
              refine Rch.go (U' := T1250.setTop (mkF m 132 #[iv p1, iv p2, iv p3, jv q4, sv, jv q5, sv, iv p6, iv (3 : Int32), jv q4, sv, jv q5, sv, jv x3, sv, rv b1244, iv (Int32.ofNat (own_free own_g0 4 (own_s p1))), iv (-1 : Int32), iv (-1 : Int32), uv, uv, uv, uv, uv] [])) (fun _ k => XS.icmpNo X1250.here hx rfl (hb hby at_129) rfl (XT.ii_lt_f br1251) k) ?_
              refine Rch.go (U' := T1250.setTop (mkF m 134 #[iv p1, iv p2, iv p3, jv q4, sv, jv q5, sv, iv p6, iv (3 : Int32), jv q4, sv, jv q5, sv, jv x3, sv, rv b1244, iv (Int32.ofNat (own_free own_g0 4 (own_s p1))), iv (-1 : Int32), iv (-1 : Int32), uv, uv, uv, uv, uv] [(.ref b1244)])) (fun _ k => XS.aload X1250.here hx rfl (hb hby at_132) rfl rfl k) ?_
              refine Rch.go (U' := T1250.setTop (mkF m 135 #[iv p1, iv p2, iv p3, jv q4, sv, jv q5, sv, iv p6, iv (3 : Int32), jv q4, sv, jv q5, sv, jv x3, sv, rv b1244, iv (Int32.ofNat (own_free own_g0 4 (own_s p1))), iv (-1 : Int32), iv (-1 : Int32), uv, uv, uv, uv, uv] [(.int p2), (.ref b1244)])) (fun _ k => XS.iloadN X1250.here hx rfl (hb hby at_134) rfl  k) ?_
              refine Rch.go (U' := T1250.setTop (mkF m 137 #[iv p1, iv p2, iv p3, jv q4, sv, jv q5, sv, iv p6, iv (3 : Int32), jv q4, sv, jv q5, sv, jv x3, sv, rv b1244, iv (Int32.ofNat (own_free own_g0 4 (own_s p1))), iv (-1 : Int32), iv (-1 : Int32), uv, uv, uv, uv, uv] [(.long q5), (.int p2), (.ref b1244)])) (fun _ k => XS.lload X1250.here hx rfl (hb hby at_135) rfl  k) ?_
              refine Rch.go (U' := T1250.setTop (mkF m 139 #[iv p1, iv p2, iv p3, jv q4, sv, jv q5, sv, iv p6, iv (3 : Int32), jv q4, sv, jv q5, sv, jv x3, sv, rv b1244, iv (Int32.ofNat (own_free own_g0 4 (own_s p1))), iv (-1 : Int32), iv (-1 : Int32), uv, uv, uv, uv, uv] [(.int (16 : Int32)), (.long q5), (.int p2), (.ref b1244)])) (fun _ k => XS.bipush X1250.here hx rfl (hb hby at_137) k) ?_
              refine Rch.go (U' := T1250.setTop (mkF m 140 #[iv p1, iv p2, iv p3, jv q4, sv, jv q5, sv, iv p6, iv (3 : Int32), jv q4, sv, jv q5, sv, jv x3, sv, rv b1244, iv (Int32.ofNat (own_free own_g0 4 (own_s p1))), iv (-1 : Int32), iv (-1 : Int32), uv, uv, uv, uv, uv] [.null, (.int (16 : Int32)), (.long q5), (.int p2), (.ref b1244)])) (fun _ k => XS.aconstNull X1250.here hx rfl (hb hby at_139) k) ?_
              refine Rch.go (U' := T1250.setTop (mkF m 141 #[iv p1, iv p2, iv p3, jv q4, sv, jv q5, sv, iv p6, iv (3 : Int32), jv q4, sv, jv q5, sv, jv x3, sv, rv b1244, iv (Int32.ofNat (own_free own_g0 4 (own_s p1))), iv (-1 : Int32), iv (-1 : Int32), uv, uv, uv, uv, uv] [(.int (0 : Int32)), .null, (.int (16 : Int32)), (.long q5), (.int p2), (.ref b1244)])) (fun _ k => XS.iconst X1250.here hx rfl (hb hby at_140) k) ?_
              obtain ⟨cq1252, kq1252, q1252a, q1252b, q1252c⟩ := isOf hZ rfl B1250.1
              obtain ⟨_, _, ⟨T1252, L1252, k1252, n1252⟩, -, X1252, ⟨Lc1252, hQ1252, l1252, y1252, z1252⟩, st1252⟩ := X1250.virtualBack hx (y := yA) (z := yA) hown (mvT hZ (wi hw 14 rfl)) (mvT hZ (wi hw 15 rfl)) (notFace_of_selects (args := #[]) (mvT hZ (wi hw 17 rfl))) (mvT hZ (wi hw 17 rfl)) (mvT hZ (wi hw 16 rfl)) (by decide) (backOf (W := 0) (rmAN l Z a0 hw [] b1244 bh ba bl kh ka kl ((0 : Int32) + (1 : Int32)) (own_add own_g0 (own_s p1) q4) va1250 vl1250 p2 q5 (16 : Int32) T1250.heap n0 z1250 B1250 (own_hz1 _ _) (by decide)) hZ (wi hw 18 rfl) (wi hw 2 rfl) (by decide) (by decide)) q1252a q1252c (g := (mkF m 141 #[iv p1, iv p2, iv p3, jv q4, sv, jv q5, sv, iv p6, iv (3 : Int32), jv q4, sv, jv q5, sv, jv x3, sv, rv b1244, iv (Int32.ofNat (own_free own_g0 4 (own_s p1))), iv (-1 : Int32), iv (-1 : Int32), uv, uv, uv, uv, uv] [(.int (0 : Int32)), .null, (.int (16 : Int32)), (.long q5), (.int p2), (.ref b1244)])) rfl (by rw [hml]; rfl) (Steps.refl _) (argsL := [(.int p2), (.long q5), (.int (16 : Int32)), .null, (.int (0 : Int32))]) (rest := []) (lenOf pd_14 rfl) rfl (by show 2 * 0 + _ ≤ _; exact Nat.le_of_eq rfl) (hb hby at_141) (fun _ _ => ⟨rfl, rfl, (by decide : 4 + 3 ≤ _), (by decide : 24 + 12 ≤ _)⟩)
              dsimp only [Pt.U, Pt.locs, Pt.cells, Pt.slots] at X1252 l1252 y1252 z1252 st1252 hQ1252
              subst l1252 y1252 z1252
              obtain ⟨va1252, vl1252, rfl, N1252q, z1252, B1252⟩ := hQ1252
              have N1252 := Fr.app N1250 N1252q
              refine Rch.to (U' := T1252.setTop (mkF m 144 #[iv p1, iv p2, iv p3, jv q4, sv, jv q5, sv, iv p6, iv (3 : Int32), jv q4, sv, jv q5, sv, jv x3, sv, rv b1244, iv (Int32.ofNat (own_free own_g0 4 (own_s p1))), iv (-1 : Int32), iv (-1 : Int32), uv, uv, uv, uv, uv] [(.int (Int32.ofNat (own_free (own_add own_g0 (own_s p1) q4) 4 (own_s p2))))])) st1252 ?_
              refine Rch.go (U' := T1252.setTop (mkF m 146 #[iv p1, iv p2, iv p3, jv q4, sv, jv q5, sv, iv p6, iv (3 : Int32), jv q4, sv, jv q5, sv, jv x3, sv, rv b1244, iv (Int32.ofNat (own_free own_g0 4 (own_s p1))), iv (Int32.ofNat (own_free (own_add own_g0 (own_s p1) q4) 4 (own_s p2))), iv (-1 : Int32), uv, uv, uv, uv, uv] [])) (fun _ k => XS.istore X1252.here hx rfl (hb hby at_144) rfl (l' := #[iv p1, iv p2, iv p3, jv q4, sv, jv q5, sv, iv p6, iv (3 : Int32), jv q4, sv, jv q5, sv, jv x3, sv, rv b1244, iv (Int32.ofNat (own_free own_g0 4 (own_s p1))), iv (Int32.ofNat (own_free (own_add own_g0 (own_s p1) q4) 4 (own_s p2))), iv (-1 : Int32), uv, uv, uv, uv, uv]) rfl k) ?_
              refine Rch.go (U' := T1252.setTop (mkF m 148 #[iv p1, iv p2, iv p3, jv q4, sv, jv q5, sv, iv p6, iv (3 : Int32), jv q4, sv, jv q5, sv, jv x3, sv, rv b1244, iv (Int32.ofNat (own_free own_g0 4 (own_s p1))), iv (Int32.ofNat (own_free (own_add own_g0 (own_s p1) q4) 4 (own_s p2))), iv (-1 : Int32), uv, uv, uv, uv, uv] [(.int (3 : Int32))])) (fun _ k => XS.iload X1252.here hx rfl (hb hby at_146) rfl  k) ?_
              refine Rch.go (U' := T1252.setTop (mkF m 149 #[iv p1, iv p2, iv p3, jv q4, sv, jv q5, sv, iv p6, iv (3 : Int32), jv q4, sv, jv q5, sv, jv x3, sv, rv b1244, iv (Int32.ofNat (own_free own_g0 4 (own_s p1))), iv (Int32.ofNat (own_free (own_add own_g0 (own_s p1) q4) 4 (own_s p2))), iv (-1 : Int32), uv, uv, uv, uv, uv] [(.int (3 : Int32)), (.int (3 : Int32))])) (fun _ k => XS.iconst X1252.here hx rfl (hb hby at_148) k) ?_
              have br1253 : ¬ ((3 : Int32) < (3 : Int32)) := (by decide)
              refine Rch.go (U' := T1252.setTop (mkF m 152 #[iv p1, iv p2, iv p3, jv q4, sv, jv q5, sv, iv p6, iv (3 : Int32), jv q4, sv, jv q5, sv, jv x3, sv, rv b1244, iv (Int32.ofNat (own_free own_g0 4 (own_s p1))), iv (Int32.ofNat (own_free (own_add own_g0 (own_s p1) q4) 4 (own_s p2))), iv (-1 : Int32), uv, uv, uv, uv, uv] [])) (fun _ k => XS.icmpNo X1252.here hx rfl (hb hby at_149) rfl (XT.ii_lt_f br1253) k) ?_
              refine Rch.go (U' := T1252.setTop (mkF m 154 #[iv p1, iv p2, iv p3, jv q4, sv, jv q5, sv, iv p6, iv (3 : Int32), jv q4, sv, jv q5, sv, jv x3, sv, rv b1244, iv (Int32.ofNat (own_free own_g0 4 (own_s p1))), iv (Int32.ofNat (own_free (own_add own_g0 (own_s p1) q4) 4 (own_s p2))), iv (-1 : Int32), uv, uv, uv, uv, uv] [(.ref b1244)])) (fun _ k => XS.aload X1252.here hx rfl (hb hby at_152) rfl rfl k) ?_
              refine Rch.go (U' := T1252.setTop (mkF m 155 #[iv p1, iv p2, iv p3, jv q4, sv, jv q5, sv, iv p6, iv (3 : Int32), jv q4, sv, jv q5, sv, jv x3, sv, rv b1244, iv (Int32.ofNat (own_free own_g0 4 (own_s p1))), iv (Int32.ofNat (own_free (own_add own_g0 (own_s p1) q4) 4 (own_s p2))), iv (-1 : Int32), uv, uv, uv, uv, uv] [(.int p3), (.ref b1244)])) (fun _ k => XS.iloadN X1252.here hx rfl (hb hby at_154) rfl  k) ?_
              refine Rch.go (U' := T1252.setTop (mkF m 157 #[iv p1, iv p2, iv p3, jv q4, sv, jv q5, sv, iv p6, iv (3 : Int32), jv q4, sv, jv q5, sv, jv x3, sv, rv b1244, iv (Int32.ofNat (own_free own_g0 4 (own_s p1))), iv (Int32.ofNat (own_free (own_add own_g0 (own_s p1) q4) 4 (own_s p2))), iv (-1 : Int32), uv, uv, uv, uv, uv] [(.long x3), (.int p3), (.ref b1244)])) (fun _ k => XS.lload X1252.here hx rfl (hb hby at_155) rfl  k) ?_
              refine Rch.go (U' := T1252.setTop (mkF m 159 #[iv p1, iv p2, iv p3, jv q4, sv, jv q5, sv, iv p6, iv (3 : Int32), jv q4, sv, jv q5, sv, jv x3, sv, rv b1244, iv (Int32.ofNat (own_free own_g0 4 (own_s p1))), iv (Int32.ofNat (own_free (own_add own_g0 (own_s p1) q4) 4 (own_s p2))), iv (-1 : Int32), uv, uv, uv, uv, uv] [(.int (16 : Int32)), (.long x3), (.int p3), (.ref b1244)])) (fun _ k => XS.bipush X1252.here hx rfl (hb hby at_157) k) ?_
              refine Rch.go (U' := T1252.setTop (mkF m 160 #[iv p1, iv p2, iv p3, jv q4, sv, jv q5, sv, iv p6, iv (3 : Int32), jv q4, sv, jv q5, sv, jv x3, sv, rv b1244, iv (Int32.ofNat (own_free own_g0 4 (own_s p1))), iv (Int32.ofNat (own_free (own_add own_g0 (own_s p1) q4) 4 (own_s p2))), iv (-1 : Int32), uv, uv, uv, uv, uv] [.null, (.int (16 : Int32)), (.long x3), (.int p3), (.ref b1244)])) (fun _ k => XS.aconstNull X1252.here hx rfl (hb hby at_159) k) ?_
              refine Rch.go (U' := T1252.setTop (mkF m 161 #[iv p1, iv p2, iv p3, jv q4, sv, jv q5, sv, iv p6, iv (3 : Int32), jv q4, sv, jv q5, sv, jv x3, sv, rv b1244, iv (Int32.ofNat (own_free own_g0 4 (own_s p1))), iv (Int32.ofNat (own_free (own_add own_g0 (own_s p1) q4) 4 (own_s p2))), iv (-1 : Int32), uv, uv, uv, uv, uv] [(.int (0 : Int32)), .null, (.int (16 : Int32)), (.long x3), (.int p3), (.ref b1244)])) (fun _ k => XS.iconst X1252.here hx rfl (hb hby at_160) k) ?_
              obtain ⟨cq1254, kq1254, q1254a, q1254b, q1254c⟩ := isOf hZ rfl B1252.1
              obtain ⟨_, _, ⟨T1254, L1254, k1254, n1254⟩, -, X1254, ⟨Lc1254, hQ1254, l1254, y1254, z1254⟩, st1254⟩ := X1252.virtualBack hx (y := yA) (z := yA) hown (mvT hZ (wi hw 14 rfl)) (mvT hZ (wi hw 15 rfl)) (notFace_of_selects (args := #[]) (mvT hZ (wi hw 17 rfl))) (mvT hZ (wi hw 17 rfl)) (mvT hZ (wi hw 16 rfl)) (by decide) (backOf (W := 0) (rmAN l Z a0 hw [] b1244 bh ba bl kh ka kl (((0 : Int32) + (1 : Int32)) + (1 : Int32)) (own_add (own_add own_g0 (own_s p1) q4) (own_s p2) q5) va1252 vl1252 p3 x3 (16 : Int32) T1252.heap n0 z1252 B1252 (own_hz2 _ _ _ _) (by decide)) hZ (wi hw 18 rfl) (wi hw 2 rfl) (by decide) (by decide)) q1254a q1254c (g := (mkF m 161 #[iv p1, iv p2, iv p3, jv q4, sv, jv q5, sv, iv p6, iv (3 : Int32), jv q4, sv, jv q5, sv, jv x3, sv, rv b1244, iv (Int32.ofNat (own_free own_g0 4 (own_s p1))), iv (Int32.ofNat (own_free (own_add own_g0 (own_s p1) q4) 4 (own_s p2))), iv (-1 : Int32), uv, uv, uv, uv, uv] [(.int (0 : Int32)), .null, (.int (16 : Int32)), (.long x3), (.int p3), (.ref b1244)])) rfl (by rw [hml]; rfl) (Steps.refl _) (argsL := [(.int p3), (.long x3), (.int (16 : Int32)), .null, (.int (0 : Int32))]) (rest := []) (lenOf pd_14 rfl) rfl (by show 2 * 0 + _ ≤ _; exact Nat.le_of_eq rfl) (hb hby at_161) (fun _ _ => ⟨rfl, rfl, (by decide : 7 + 3 ≤ _), (by decide : 36 + 12 ≤ _)⟩)
              dsimp only [Pt.U, Pt.locs, Pt.cells, Pt.slots] at X1254 l1254 y1254 z1254 st1254 hQ1254
              subst l1254 y1254 z1254
              obtain ⟨va1254, vl1254, rfl, N1254q, z1254, B1254⟩ := hQ1254
              have N1254 := Fr.app N1252 N1254q
              refine Rch.to (U' := T1254.setTop (mkF m 164 #[iv p1, iv p2, iv p3, jv q4, sv, jv q5, sv, iv p6, iv (3 : Int32), jv q4, sv, jv q5, sv, jv x3, sv, rv b1244, iv (Int32.ofNat (own_free own_g0 4 (own_s p1))), iv (Int32.ofNat (own_free (own_add own_g0 (own_s p1) q4) 4 (own_s p2))), iv (-1 : Int32), uv, uv, uv, uv, uv] [(.int (Int32.ofNat (own_free (own_add (own_add own_g0 (own_s p1) q4) (own_s p2) q5) 4 (own_s p3))))])) st1254 ?_
              refine Rch.go (U' := T1254.setTop (mkF m 166 #[iv p1, iv p2, iv p3, jv q4, sv, jv q5, sv, iv p6, iv (3 : Int32), jv q4, sv, jv q5, sv, jv x3, sv, rv b1244, iv (Int32.ofNat (own_free own_g0 4 (own_s p1))), iv (Int32.ofNat (own_free (own_add own_g0 (own_s p1) q4) 4 (own_s p2))), iv (Int32.ofNat (own_free (own_add (own_add own_g0 (own_s p1) q4) (own_s p2) q5) 4 (own_s p3))), uv, uv, uv, uv, uv] [])) (fun _ k => XS.istore X1254.here hx rfl (hb hby at_164) rfl (l' := #[iv p1, iv p2, iv p3, jv q4, sv, jv q5, sv, iv p6, iv (3 : Int32), jv q4, sv, jv q5, sv, jv x3, sv, rv b1244, iv (Int32.ofNat (own_free own_g0 4 (own_s p1))), iv (Int32.ofNat (own_free (own_add own_g0 (own_s p1) q4) 4 (own_s p2))), iv (Int32.ofNat (own_free (own_add (own_add own_g0 (own_s p1) q4) (own_s p2) q5) 4 (own_s p3))), uv, uv, uv, uv, uv]) rfl k) ?_
              refine Rch.go (U' := T1254.setTop (mkF m 167 #[iv p1, iv p2, iv p3, jv q4, sv, jv q5, sv, iv p6, iv (3 : Int32), jv q4, sv, jv q5, sv, jv x3, sv, rv b1244, iv (Int32.ofNat (own_free own_g0 4 (own_s p1))), iv (Int32.ofNat (own_free (own_add own_g0 (own_s p1) q4) 4 (own_s p2))), iv (Int32.ofNat (own_free (own_add (own_add own_g0 (own_s p1) q4) (own_s p2) q5) 4 (own_s p3))), uv, uv, uv, uv, uv] [(.int (1 : Int32))])) (fun _ k => XS.iconst X1254.here hx rfl (hb hby at_166) k) ?_
              refine Rch.go (U' := T1254.setTop (mkF m 169 #[iv p1, iv p2, iv p3, jv q4, sv, jv q5, sv, iv p6, iv (3 : Int32), jv q4, sv, jv q5, sv, jv x3, sv, rv b1244, iv (Int32.ofNat (own_free own_g0 4 (own_s p1))), iv (Int32.ofNat (own_free (own_add own_g0 (own_s p1) q4) 4 (own_s p2))), iv (Int32.ofNat (own_free (own_add (own_add own_g0 (own_s p1) q4) (own_s p2) q5) 4 (own_s p3))), iv (1 : Int32), uv, uv, uv, uv] [])) (fun _ k => XS.istore X1254.here hx rfl (hb hby at_167) rfl (l' := #[iv p1, iv p2, iv p3, jv q4, sv, jv q5, sv, iv p6, iv (3 : Int32), jv q4, sv, jv q5, sv, jv x3, sv, rv b1244, iv (Int32.ofNat (own_free own_g0 4 (own_s p1))), iv (Int32.ofNat (own_free (own_add own_g0 (own_s p1) q4) 4 (own_s p2))), iv (Int32.ofNat (own_free (own_add (own_add own_g0 (own_s p1) q4) (own_s p2) q5) 4 (own_s p3))), iv (1 : Int32), uv, uv, uv, uv]) rfl k) ?_
              refine Rch.go (U' := T1254.setTop (mkF m 171 #[iv p1, iv p2, iv p3, jv q4, sv, jv q5, sv, iv p6, iv (3 : Int32), jv q4, sv, jv q5, sv, jv x3, sv, rv b1244, iv (Int32.ofNat (own_free own_g0 4 (own_s p1))), iv (Int32.ofNat (own_free (own_add own_g0 (own_s p1) q4) 4 (own_s p2))), iv (Int32.ofNat (own_free (own_add (own_add own_g0 (own_s p1) q4) (own_s p2) q5) 4 (own_s p3))), iv (1 : Int32), uv, uv, uv, uv] [(.int (3 : Int32))])) (fun _ k => XS.iload X1254.here hx rfl (hb hby at_169) rfl  k) ?_
              refine Rch.go (U' := T1254.setTop (mkF m 172 #[iv p1, iv p2, iv p3, jv q4, sv, jv q5, sv, iv p6, iv (3 : Int32), jv q4, sv, jv q5, sv, jv x3, sv, rv b1244, iv (Int32.ofNat (own_free own_g0 4 (own_s p1))), iv (Int32.ofNat (own_free (own_add own_g0 (own_s p1) q4) 4 (own_s p2))), iv (Int32.ofNat (own_free (own_add (own_add own_g0 (own_s p1) q4) (own_s p2) q5) 4 (own_s p3))), iv (1 : Int32), uv, uv, uv, uv] [(.int (1 : Int32)), (.int (3 : Int32))])) (fun _ k => XS.iconst X1254.here hx rfl (hb hby at_171) k) ?_
              have br1255 : ¬ ((3 : Int32) < (1 : Int32)) := (by decide)
              refine Rch.go (U' := T1254.setTop (mkF m 175 #[iv p1, iv p2, iv p3, jv q4, sv, jv q5, sv, iv p6, iv (3 : Int32), jv q4, sv, jv q5, sv, jv x3, sv, rv b1244, iv (Int32.ofNat (own_free own_g0 4 (own_s p1))), iv (Int32.ofNat (own_free (own_add own_g0 (own_s p1) q4) 4 (own_s p2))), iv (Int32.ofNat (own_free (own_add (own_add own_g0 (own_s p1) q4) (own_s p2) q5) 4 (own_s p3))), iv (1 : Int32), uv, uv, uv, uv] [])) (fun _ k => XS.icmpNo X1254.here hx rfl (hb hby at_172) rfl (XT.ii_lt_f br1255) k) ?_
              refine Rch.go (U' := T1254.setTop (mkF m 177 #[iv p1, iv p2, iv p3, jv q4, sv, jv q5, sv, iv p6, iv (3 : Int32), jv q4, sv, jv q5, sv, jv x3, sv, rv b1244, iv (Int32.ofNat (own_free own_g0 4 (own_s p1))), iv (Int32.ofNat (own_free (own_add own_g0 (own_s p1) q4) 4 (own_s p2))), iv (Int32.ofNat (own_free (own_add (own_add own_g0 (own_s p1) q4) (own_s p2) q5) 4 (own_s p3))), iv (1 : Int32), uv, uv, uv, uv] [(.int (1 : Int32))])) (fun _ k => XS.iload X1254.here hx rfl (hb hby at_175) rfl  k) ?_
              have br1256 : ¬ ((1 : Int32) = (0 : Int32)) := (by decide)
              refine Rch.go (U' := T1254.setTop (mkF m 180 #[iv p1, iv p2, iv p3, jv q4, sv, jv q5, sv, iv p6, iv (3 : Int32), jv q4, sv, jv q5, sv, jv x3, sv, rv b1244, iv (Int32.ofNat (own_free own_g0 4 (own_s p1))), iv (Int32.ofNat (own_free (own_add own_g0 (own_s p1) q4) 4 (own_s p2))), iv (Int32.ofNat (own_free (own_add (own_add own_g0 (own_s p1) q4) (own_s p2) q5) 4 (own_s p3))), iv (1 : Int32), uv, uv, uv, uv] [])) (fun _ k => XS.ifNo X1254.here hx rfl (hb hby at_177) rfl (XT.i0_eq_f br1256) k) ?_
              refine Rch.go (U' := T1254.setTop (mkF m 182 #[iv p1, iv p2, iv p3, jv q4, sv, jv q5, sv, iv p6, iv (3 : Int32), jv q4, sv, jv q5, sv, jv x3, sv, rv b1244, iv (Int32.ofNat (own_free own_g0 4 (own_s p1))), iv (Int32.ofNat (own_free (own_add own_g0 (own_s p1) q4) 4 (own_s p2))), iv (Int32.ofNat (own_free (own_add (own_add own_g0 (own_s p1) q4) (own_s p2) q5) 4 (own_s p3))), iv (1 : Int32), uv, uv, uv, uv] [(.ref b1244)])) (fun _ k => XS.aload X1254.here hx rfl (hb hby at_180) rfl rfl k) ?_
              refine Rch.go (U' := T1254.setTop (mkF m 183 #[iv p1, iv p2, iv p3, jv q4, sv, jv q5, sv, iv p6, iv (3 : Int32), jv q4, sv, jv q5, sv, jv x3, sv, rv b1244, iv (Int32.ofNat (own_free own_g0 4 (own_s p1))), iv (Int32.ofNat (own_free (own_add own_g0 (own_s p1) q4) 4 (own_s p2))), iv (Int32.ofNat (own_free (own_add (own_add own_g0 (own_s p1) q4) (own_s p2) q5) 4 (own_s p3))), iv (1 : Int32), uv, uv, uv, uv] [(.int p1), (.ref b1244)])) (fun _ k => XS.iloadN X1254.here hx rfl (hb hby at_182) rfl  k) ?_
              refine Rch.go (U' := T1254.setTop (mkF m 185 #[iv p1, iv p2, iv p3, jv q4, sv, jv q5, sv, iv p6, iv (3 : Int32), jv q4, sv, jv q5, sv, jv x3, sv, rv b1244, iv (Int32.ofNat (own_free own_g0 4 (own_s p1))), iv (Int32.ofNat (own_free (own_add own_g0 (own_s p1) q4) 4 (own_s p2))), iv (Int32.ofNat (own_free (own_add (own_add own_g0 (own_s p1) q4) (own_s p2) q5) 4 (own_s p3))), iv (1 : Int32), uv, uv, uv, uv] [(.long q4), (.int p1), (.ref b1244)])) (fun _ k => XS.lload X1254.here hx rfl (hb hby at_183) rfl  k) ?_
              obtain ⟨cq1257, kq1257, q1257a, q1257b, q1257c⟩ := isOf hZ rfl B1254.1
              obtain ⟨_, _, ⟨T1257, L1257, k1257, n1257⟩, -, X1257, ⟨Lc1257, hQ1257, l1257, y1257, z1257⟩, st1257⟩ := X1254.virtualBack hx (y := yF) (z := yF) hown (mvT hZ (wi hw 60 rfl)) (mvT hZ (wi hw 61 rfl)) (notFace_of_selects (args := #[]) (mvT hZ (wi hw 63 rfl))) (mvT hZ (wi hw 63 rfl)) (mvT hZ (wi hw 62 rfl)) (by decide) (backOf (W := 0) (rmF l Z a0 hw [] b1244 bh ba bl kh ka kl ((((0 : Int32) + (1 : Int32)) + (1 : Int32)) + (1 : Int32)) (own_add (own_add (own_add own_g0 (own_s p1) q4) (own_s p2) q5) (own_s p3) x3) va1254 vl1254 p1 q4 T1254.heap n0 z1254 B1254 (own_hz3 _ _ _ _ _ _) (by decide)) hZ (wi hw 64 rfl) (wi hw 2 rfl) (by decide) (by decide)) q1257a q1257c (g := (mkF m 185 #[iv p1, iv p2, iv p3, jv q4, sv, jv q5, sv, iv p6, iv (3 : Int32), jv q4, sv, jv q5, sv, jv x3, sv, rv b1244, iv (Int32.ofNat (own_free own_g0 4 (own_s p1))), iv (Int32.ofNat (own_free (own_add own_g0 (own_s p1) q4) 4 (own_s p2))), iv (Int32.ofNat (own_free (own_add (own_add own_g0 (own_s p1) q4) (own_s p2) q5) 4 (own_s p3))), iv (1 : Int32), uv, uv, uv, uv] [(.long q4), (.int p1), (.ref b1244)])) rfl (by rw [hml]; rfl) (Steps.refl _) (argsL := [(.int p1), (.long q4)]) (rest := []) (lenOf pd_15 rfl) rfl (by show 2 * 0 + _ ≤ _; exact Nat.le_of_eq rfl) (hb hby at_185) (fun _ _ => ⟨rfl, rfl, (by decide : 10 + 0 ≤ _), (by decide : 48 + 0 ≤ _)⟩)
              dsimp only [Pt.U, Pt.locs, Pt.cells, Pt.slots] at X1257 l1257 y1257 z1257 st1257 hQ1257
              subst l1257 y1257 z1257
              obtain ⟨rfl, N1257q, e1257⟩ := hQ1257
              have N1257 := Fr.app N1254 N1257q
              refine Rch.to (U' := T1257.setTop (mkF m 188 #[iv p1, iv p2, iv p3, jv q4, sv, jv q5, sv, iv p6, iv (3 : Int32), jv q4, sv, jv q5, sv, jv x3, sv, rv b1244, iv (Int32.ofNat (own_free own_g0 4 (own_s p1))), iv (Int32.ofNat (own_free (own_add own_g0 (own_s p1) q4) 4 (own_s p2))), iv (Int32.ofNat (own_free (own_add (own_add own_g0 (own_s p1) q4) (own_s p2) q5) 4 (own_s p3))), iv (1 : Int32), uv, uv, uv, uv] [(.int (own_find (own_add (own_add (own_add own_g0 (own_s p1) q4) (own_s p2) q5) (own_s p3) x3) q4 4 (own_s p1)))])) st1257 ?_
              refine Rch.go (U' := T1257.setTop (mkF m 190 #[iv p1, iv p2, iv p3, jv q4, sv, jv q5, sv, iv p6, iv (3 : Int32), jv q4, sv, jv q5, sv, jv x3, sv, rv b1244, iv (Int32.ofNat (own_free own_g0 4 (own_s p1))), iv (Int32.ofNat (own_free (own_add own_g0 (own_s p1) q4) 4 (own_s p2))), iv (Int32.ofNat (own_free (own_add (own_add own_g0 (own_s p1) q4) (own_s p2) q5) 4 (own_s p3))), iv (1 : Int32), uv, uv, uv, uv] [(.int (Int32.ofNat (own_free own_g0 4 (own_s p1)))), (.int (own_find (own_add (own_add (own_add own_g0 (own_s p1) q4) (own_s p2) q5) (own_s p3) x3) q4 4 (own_s p1)))])) (fun _ k => XS.iload X1257.here hx rfl (hb hby at_188) rfl  k) ?_
              have br1258 : (own_find (own_add (own_add (own_add own_g0 (own_s p1) q4) (own_s p2) q5) (own_s p3) x3) q4 4 (own_s p1)) = (Int32.ofNat (own_free own_g0 4 (own_s p1))) := own_found3_1 br1236 br1238 br1239 br1241 br1242 br1243
              refine Rch.go (U' := T1257.setTop (mkF m 193 #[iv p1, iv p2, iv p3, jv q4, sv, jv q5, sv, iv p6, iv (3 : Int32), jv q4, sv, jv q5, sv, jv x3, sv, rv b1244, iv (Int32.ofNat (own_free own_g0 4 (own_s p1))), iv (Int32.ofNat (own_free (own_add own_g0 (own_s p1) q4) 4 (own_s p2))), iv (Int32.ofNat (own_free (own_add (own_add own_g0 (own_s p1) q4) (own_s p2) q5) 4 (own_s p3))), iv (1 : Int32), uv, uv, uv, uv] [])) (fun _ k => XS.icmpNo X1257.here hx rfl (hb hby at_190) rfl (XT.ii_ne_f br1258) k) ?_
              refine Rch.go (U' := T1257.setTop (mkF m 194 #[iv p1, iv p2, iv p3, jv q4, sv, jv q5, sv, iv p6, iv (3 : Int32), jv q4, sv, jv q5, sv, jv x3, sv, rv b1244, iv (Int32.ofNat (own_free own_g0 4 (own_s p1))), iv (Int32.ofNat (own_free (own_add own_g0 (own_s p1) q4) 4 (own_s p2))), iv (Int32.ofNat (own_free (own_add (own_add own_g0 (own_s p1) q4) (own_s p2) q5) 4 (own_s p3))), iv (1 : Int32), uv, uv, uv, uv] [(.int (1 : Int32))])) (fun _ k => XS.iconst X1257.here hx rfl (hb hby at_193) k) ?_
              refine Rch.go (U' := T1257.setTop (mkF m 198 #[iv p1, iv p2, iv p3, jv q4, sv, jv q5, sv, iv p6, iv (3 : Int32), jv q4, sv, jv q5, sv, jv x3, sv, rv b1244, iv (Int32.ofNat (own_free own_g0 4 (own_s p1))), iv (Int32.ofNat (own_free (own_add own_g0 (own_s p1) q4) 4 (own_s p2))), iv (Int32.ofNat (own_free (own_add (own_add own_g0 (own_s p1) q4) (own_s p2) q5) 4 (own_s p3))), iv (1 : Int32), uv, uv, uv, uv] [(.int (1 : Int32))])) (fun _ k => XS.goto X1257.here hx rfl (pc0 := 194) (pc' := 198) rfl (hb hby at_194) (by decide) (by decide) k) ?_
              refine Rch.go (U' := T1257.setTop (mkF m 200 #[iv p1, iv p2, iv p3, jv q4, sv, jv q5, sv, iv p6, iv (3 : Int32), jv q4, sv, jv q5, sv, jv x3, sv, rv b1244, iv (Int32.ofNat (own_free own_g0 4 (own_s p1))), iv (Int32.ofNat (own_free (own_add own_g0 (own_s p1) q4) 4 (own_s p2))), iv (Int32.ofNat (own_free (own_add (own_add own_g0 (own_s p1) q4) (own_s p2) q5) 4 (own_s p3))), iv (1 : Int32), uv, uv, uv, uv] [])) (fun _ k => XS.istore X1257.here hx rfl (hb hby at_198) rfl (l' := #[iv p1, iv p2, iv p3, jv q4, sv, jv q5, sv, iv p6, iv (3 : Int32), jv q4, sv, jv q5, sv, jv x3, sv, rv b1244, iv (Int32.ofNat (own_free own_g0 4 (own_s p1))), iv (Int32.ofNat (own_free (own_add own_g0 (own_s p1) q4) 4 (own_s p2))), iv (Int32.ofNat (own_free (own_add (own_add own_g0 (own_s p1) q4) (own_s p2) q5) 4 (own_s p3))), iv (1 : Int32), uv, uv, uv, uv]) rfl k) ?_
              refine Rch.go (U' := T1257.setTop (mkF m 202 #[iv p1, iv p2, iv p3, jv q4, sv, jv q5, sv, iv p6, iv (3 : Int32), jv q4, sv, jv q5, sv, jv x3, sv, rv b1244, iv (Int32.ofNat (own_free own_g0 4 (own_s p1))), iv (Int32.ofNat (own_free (own_add own_g0 (own_s p1) q4) 4 (own_s p2))), iv (Int32.ofNat (own_free (own_add (own_add own_g0 (own_s p1) q4) (own_s p2) q5) 4 (own_s p3))), iv (1 : Int32), uv, uv, uv, uv] [(.int (3 : Int32))])) (fun _ k => XS.iload X1257.here hx rfl (hb hby at_200) rfl  k) ?_
              refine Rch.go (U' := T1257.setTop (mkF m 203 #[iv p1, iv p2, iv p3, jv q4, sv, jv q5, sv, iv p6, iv (3 : Int32), jv q4, sv, jv q5, sv, jv x3, sv, rv b1244, iv (Int32.ofNat (own_free own_g0 4 (own_s p1))), iv (Int32.ofNat (own_free (own_add own_g0 (own_s p1) q4) 4 (own_s p2))), iv (Int32.ofNat (own_free (own_add (own_add own_g0 (own_s p1) q4) (own_s p2) q5) 4 (own_s p3))), iv (1 : Int32), uv, uv, uv, uv] [(.int (2 : Int32)), (.int (3 : Int32))])) (fun _ k => XS.iconst X1257.here hx rfl (hb hby at_202) k) ?_
              have br1259 : ¬ ((3 : Int32) < (2 : Int32)) := (by decide)
              refine Rch.go (U' := T1257.setTop (mkF m 206 #[iv p1, iv p2, iv p3, jv q4, sv, jv q5, sv, iv p6, iv (3 : Int32), jv q4, sv, jv q5, sv, jv x3, sv, rv b1244, iv (Int32.ofNat (own_free own_g0 4 (own_s p1))), iv (Int32.ofNat (own_free (own_add own_g0 (own_s p1) q4) 4 (own_s p2))), iv (Int32.ofNat (own_free (own_add (own_add own_g0 (own_s p1) q4) (own_s p2) q5) 4 (own_s p3))), iv (1 : Int32), uv, uv, uv, uv] [])) (fun _ k => XS.icmpNo X1257.here hx rfl (hb hby at_203) rfl (XT.ii_lt_f br1259) k) ?_
              refine Rch.go (U' := T1257.setTop (mkF m 208 #[iv p1, iv p2, iv p3, jv q4, sv, jv q5, sv, iv p6, iv (3 : Int32), jv q4, sv, jv q5, sv, jv x3, sv, rv b1244, iv (Int32.ofNat (own_free own_g0 4 (own_s p1))), iv (Int32.ofNat (own_free (own_add own_g0 (own_s p1) q4) 4 (own_s p2))), iv (Int32.ofNat (own_free (own_add (own_add own_g0 (own_s p1) q4) (own_s p2) q5) 4 (own_s p3))), iv (1 : Int32), uv, uv, uv, uv] [(.int (1 : Int32))])) (fun _ k => XS.iload X1257.here hx rfl (hb hby at_206) rfl  k) ?_
              have br1260 : ¬ ((1 : Int32) = (0 : Int32)) := (by decide)
              refine Rch.go (U' := T1257.setTop (mkF m 211 #[iv p1, iv p2, iv p3, jv q4, sv, jv q5, sv, iv p6, iv (3 : Int32), jv q4, sv, jv q5, sv, jv x3, sv, rv b1244, iv (Int32.ofNat (own_free own_g0 4 (own_s p1))), iv (Int32.ofNat (own_free (own_add own_g0 (own_s p1) q4) 4 (own_s p2))), iv (Int32.ofNat (own_free (own_add (own_add own_g0 (own_s p1) q4) (own_s p2) q5) 4 (own_s p3))), iv (1 : Int32), uv, uv, uv, uv] [])) (fun _ k => XS.ifNo X1257.here hx rfl (hb hby at_208) rfl (XT.i0_eq_f br1260) k) ?_
              refine Rch.go (U' := T1257.setTop (mkF m 213 #[iv p1, iv p2, iv p3, jv q4, sv, jv q5, sv, iv p6, iv (3 : Int32), jv q4, sv, jv q5, sv, jv x3, sv, rv b1244, iv (Int32.ofNat (own_free own_g0 4 (own_s p1))), iv (Int32.ofNat (own_free (own_add own_g0 (own_s p1) q4) 4 (own_s p2))), iv (Int32.ofNat (own_free (own_add (own_add own_g0 (own_s p1) q4) (own_s p2) q5) 4 (own_s p3))), iv (1 : Int32), uv, uv, uv, uv] [(.ref b1244)])) (fun _ k => XS.aload X1257.here hx rfl (hb hby at_211) rfl rfl k) ?_
              refine Rch.go (U' := T1257.setTop (mkF m 214 #[iv p1, iv p2, iv p3, jv q4, sv, jv q5, sv, iv p6, iv (3 : Int32), jv q4, sv, jv q5, sv, jv x3, sv, rv b1244, iv (Int32.ofNat (own_free own_g0 4 (own_s p1))), iv (Int32.ofNat (own_free (own_add own_g0 (own_s p1) q4) 4 (own_s p2))), iv (Int32.ofNat (own_free (own_add (own_add own_g0 (own_s p1) q4) (own_s p2) q5) 4 (own_s p3))), iv (1 : Int32), uv, uv, uv, uv] [(.int p2), (.ref b1244)])) (fun _ k => XS.iloadN X1257.here hx rfl (hb hby at_213) rfl  k) ?_
              refine Rch.go (U' := T1257.setTop (mkF m 216 #[iv p1, iv p2, iv p3, jv q4, sv, jv q5, sv, iv p6, iv (3 : Int32), jv q4, sv, jv q5, sv, jv x3, sv, rv b1244, iv (Int32.ofNat (own_free own_g0 4 (own_s p1))), iv (Int32.ofNat (own_free (own_add own_g0 (own_s p1) q4) 4 (own_s p2))), iv (Int32.ofNat (own_free (own_add (own_add own_g0 (own_s p1) q4) (own_s p2) q5) 4 (own_s p3))), iv (1 : Int32), uv, uv, uv, uv] [(.long q5), (.int p2), (.ref b1244)])) (fun _ k => XS.lload X1257.here hx rfl (hb hby at_214) rfl  k) ?_
              obtain ⟨cq1261, kq1261, q1261a, q1261b, q1261c⟩ := isOf hZ e1257 B1254.1
              obtain ⟨_, _, ⟨T1261, L1261, k1261, n1261⟩, -, X1261, ⟨Lc1261, hQ1261, l1261, y1261, z1261⟩, st1261⟩ := X1257.virtualBack hx (y := yF) (z := yF) hown (mvT hZ (wi hw 60 rfl)) (mvT hZ (wi hw 61 rfl)) (notFace_of_selects (args := #[]) (mvT hZ (wi hw 63 rfl))) (mvT hZ (wi hw 63 rfl)) (mvT hZ (wi hw 62 rfl)) (by decide) (backOf (W := 0) (rmF l Z a0 hw [] b1244 bh ba bl kh ka kl ((((0 : Int32) + (1 : Int32)) + (1 : Int32)) + (1 : Int32)) (own_add (own_add (own_add own_g0 (own_s p1) q4) (own_s p2) q5) (own_s p3) x3) va1254 vl1254 p2 q5 T1254.heap n0 z1254 B1254 (own_hz3 _ _ _ _ _ _) (by decide)) hZ (wi hw 64 rfl) (wi hw 2 rfl) (by decide) (by decide)) q1261a q1261c (g := (mkF m 216 #[iv p1, iv p2, iv p3, jv q4, sv, jv q5, sv, iv p6, iv (3 : Int32), jv q4, sv, jv q5, sv, jv x3, sv, rv b1244, iv (Int32.ofNat (own_free own_g0 4 (own_s p1))), iv (Int32.ofNat (own_free (own_add own_g0 (own_s p1) q4) 4 (own_s p2))), iv (Int32.ofNat (own_free (own_add (own_add own_g0 (own_s p1) q4) (own_s p2) q5) 4 (own_s p3))), iv (1 : Int32), uv, uv, uv, uv] [(.long q5), (.int p2), (.ref b1244)])) rfl (by rw [hml]; rfl) (Steps.refl _) (argsL := [(.int p2), (.long q5)]) (rest := []) (lenOf pd_15 rfl) rfl (by show 2 * 0 + _ ≤ _; exact Nat.le_of_eq rfl) (hb hby at_216) (fun _ _ => ⟨rfl, e1257, (by decide : 10 + 0 ≤ _), (by decide : 48 + 0 ≤ _)⟩)
              dsimp only [Pt.U, Pt.locs, Pt.cells, Pt.slots] at X1261 l1261 y1261 z1261 st1261 hQ1261
              subst l1261 y1261 z1261
              obtain ⟨rfl, N1261q, e1261⟩ := hQ1261
              have N1261 := Fr.app N1257 N1261q
              refine Rch.to (U' := T1261.setTop (mkF m 219 #[iv p1, iv p2, iv p3, jv q4, sv, jv q5, sv, iv p6, iv (3 : Int32), jv q4, sv, jv q5, sv, jv x3, sv, rv b1244, iv (Int32.ofNat (own_free own_g0 4 (own_s p1))), iv (Int32.ofNat (own_free (own_add own_g0 (own_s p1) q4) 4 (own_s p2))), iv (Int32.ofNat (own_free (own_add (own_add own_g0 (own_s p1) q4) (own_s p2) q5) 4 (own_s p3))), iv (1 : Int32), uv, uv, uv, uv] [(.int (own_find (own_add (own_add (own_add own_g0 (own_s p1) q4) (own_s p2) q5) (own_s p3) x3) q5 4 (own_s p2)))])) st1261 ?_
              refine Rch.go (U' := T1261.setTop (mkF m 221 #[iv p1, iv p2, iv p3, jv q4, sv, jv q5, sv, iv p6, iv (3 : Int32), jv q4, sv, jv q5, sv, jv x3, sv, rv b1244, iv (Int32.ofNat (own_free own_g0 4 (own_s p1))), iv (Int32.ofNat (own_free (own_add own_g0 (own_s p1) q4) 4 (own_s p2))), iv (Int32.ofNat (own_free (own_add (own_add own_g0 (own_s p1) q4) (own_s p2) q5) 4 (own_s p3))), iv (1 : Int32), uv, uv, uv, uv] [(.int (Int32.ofNat (own_free (own_add own_g0 (own_s p1) q4) 4 (own_s p2)))), (.int (own_find (own_add (own_add (own_add own_g0 (own_s p1) q4) (own_s p2) q5) (own_s p3) x3) q5 4 (own_s p2)))])) (fun _ k => XS.iload X1261.here hx rfl (hb hby at_219) rfl  k) ?_
              have br1262 : (own_find (own_add (own_add (own_add own_g0 (own_s p1) q4) (own_s p2) q5) (own_s p3) x3) q5 4 (own_s p2)) = (Int32.ofNat (own_free (own_add own_g0 (own_s p1) q4) 4 (own_s p2))) := own_found3_2 br1236 br1238 br1239 br1241 br1242 br1243
              refine Rch.go (U' := T1261.setTop (mkF m 224 #[iv p1, iv p2, iv p3, jv q4, sv, jv q5, sv, iv p6, iv (3 : Int32), jv q4, sv, jv q5, sv, jv x3, sv, rv b1244, iv (Int32.ofNat (own_free own_g0 4 (own_s p1))), iv (Int32.ofNat (own_free (own_add own_g0 (own_s p1) q4) 4 (own_s p2))), iv (Int32.ofNat (own_free (own_add (own_add own_g0 (own_s p1) q4) (own_s p2) q5) 4 (own_s p3))), iv (1 : Int32), uv, uv, uv, uv] [])) (fun _ k => XS.icmpNo X1261.here hx rfl (hb hby at_221) rfl (XT.ii_ne_f br1262) k) ?_
              refine Rch.go (U' := T1261.setTop (mkF m 225 #[iv p1, iv p2, iv p3, jv q4, sv, jv q5, sv, iv p6, iv (3 : Int32), jv q4, sv, jv q5, sv, jv x3, sv, rv b1244, iv (Int32.ofNat (own_free own_g0 4 (own_s p1))), iv (Int32.ofNat (own_free (own_add own_g0 (own_s p1) q4) 4 (own_s p2))), iv (Int32.ofNat (own_free (own_add (own_add own_g0 (own_s p1) q4) (own_s p2) q5) 4 (own_s p3))), iv (1 : Int32), uv, uv, uv, uv] [(.int (1 : Int32))])) (fun _ k => XS.iconst X1261.here hx rfl (hb hby at_224) k) ?_
              refine Rch.go (U' := T1261.setTop (mkF m 229 #[iv p1, iv p2, iv p3, jv q4, sv, jv q5, sv, iv p6, iv (3 : Int32), jv q4, sv, jv q5, sv, jv x3, sv, rv b1244, iv (Int32.ofNat (own_free own_g0 4 (own_s p1))), iv (Int32.ofNat (own_free (own_add own_g0 (own_s p1) q4) 4 (own_s p2))), iv (Int32.ofNat (own_free (own_add (own_add own_g0 (own_s p1) q4) (own_s p2) q5) 4 (own_s p3))), iv (1 : Int32), uv, uv, uv, uv] [(.int (1 : Int32))])) (fun _ k => XS.goto X1261.here hx rfl (pc0 := 225) (pc' := 229) rfl (hb hby at_225) (by decide) (by decide) k) ?_
              refine Rch.go (U' := T1261.setTop (mkF m 231 #[iv p1, iv p2, iv p3, jv q4, sv, jv q5, sv, iv p6, iv (3 : Int32), jv q4, sv, jv q5, sv, jv x3, sv, rv b1244, iv (Int32.ofNat (own_free own_g0 4 (own_s p1))), iv (Int32.ofNat (own_free (own_add own_g0 (own_s p1) q4) 4 (own_s p2))), iv (Int32.ofNat (own_free (own_add (own_add own_g0 (own_s p1) q4) (own_s p2) q5) 4 (own_s p3))), iv (1 : Int32), uv, uv, uv, uv] [])) (fun _ k => XS.istore X1261.here hx rfl (hb hby at_229) rfl (l' := #[iv p1, iv p2, iv p3, jv q4, sv, jv q5, sv, iv p6, iv (3 : Int32), jv q4, sv, jv q5, sv, jv x3, sv, rv b1244, iv (Int32.ofNat (own_free own_g0 4 (own_s p1))), iv (Int32.ofNat (own_free (own_add own_g0 (own_s p1) q4) 4 (own_s p2))), iv (Int32.ofNat (own_free (own_add (own_add own_g0 (own_s p1) q4) (own_s p2) q5) 4 (own_s p3))), iv (1 : Int32), uv, uv, uv, uv]) rfl k) ?_
              refine Rch.go (U' := T1261.setTop (mkF m 233 #[iv p1, iv p2, iv p3, jv q4, sv, jv q5, sv, iv p6, iv (3 : Int32), jv q4, sv, jv q5, sv, jv x3, sv, rv b1244, iv (Int32.ofNat (own_free own_g0 4 (own_s p1))), iv (Int32.ofNat (own_free (own_add own_g0 (own_s p1) q4) 4 (own_s p2))), iv (Int32.ofNat (own_free (own_add (own_add own_g0 (own_s p1) q4) (own_s p2) q5) 4 (own_s p3))), iv (1 : Int32), uv, uv, uv, uv] [(.int (3 : Int32))])) (fun _ k => XS.iload X1261.here hx rfl (hb hby at_231) rfl  k) ?_
              refine Rch.go (U' := T1261.setTop (mkF m 234 #[iv p1, iv p2, iv p3, jv q4, sv, jv q5, sv, iv p6, iv (3 : Int32), jv q4, sv, jv q5, sv, jv x3, sv, rv b1244, iv (Int32.ofNat (own_free own_g0 4 (own_s p1))), iv (Int32.ofNat (own_free (own_add own_g0 (own_s p1) q4) 4 (own_s p2))), iv (Int32.ofNat (own_free (own_add (own_add own_g0 (own_s p1) q4) (own_s p2) q5) 4 (own_s p3))), iv (1 : Int32), uv, uv, uv, uv] [(.int (3 : Int32)), (.int (3 : Int32))])) (fun _ k => XS.iconst X1261.here hx rfl (hb hby at_233) k) ?_
              have br1263 : ¬ ((3 : Int32) < (3 : Int32)) := (by decide)
              refine Rch.go (U' := T1261.setTop (mkF m 237 #[iv p1, iv p2, iv p3, jv q4, sv, jv q5, sv, iv p6, iv (3 : Int32), jv q4, sv, jv q5, sv, jv x3, sv, rv b1244, iv (Int32.ofNat (own_free own_g0 4 (own_s p1))), iv (Int32.ofNat (own_free (own_add own_g0 (own_s p1) q4) 4 (own_s p2))), iv (Int32.ofNat (own_free (own_add (own_add own_g0 (own_s p1) q4) (own_s p2) q5) 4 (own_s p3))), iv (1 : Int32), uv, uv, uv, uv] [])) (fun _ k => XS.icmpNo X1261.here hx rfl (hb hby at_234) rfl (XT.ii_lt_f br1263) k) ?_
              refine Rch.go (U' := T1261.setTop (mkF m 239 #[iv p1, iv p2, iv p3, jv q4, sv, jv q5, sv, iv p6, iv (3 : Int32), jv q4, sv, jv q5, sv, jv x3, sv, rv b1244, iv (Int32.ofNat (own_free own_g0 4 (own_s p1))), iv (Int32.ofNat (own_free (own_add own_g0 (own_s p1) q4) 4 (own_s p2))), iv (Int32.ofNat (own_free (own_add (own_add own_g0 (own_s p1) q4) (own_s p2) q5) 4 (own_s p3))), iv (1 : Int32), uv, uv, uv, uv] [(.int (1 : Int32))])) (fun _ k => XS.iload X1261.here hx rfl (hb hby at_237) rfl  k) ?_
              have br1264 : ¬ ((1 : Int32) = (0 : Int32)) := (by decide)
              refine Rch.go (U' := T1261.setTop (mkF m 242 #[iv p1, iv p2, iv p3, jv q4, sv, jv q5, sv, iv p6, iv (3 : Int32), jv q4, sv, jv q5, sv, jv x3, sv, rv b1244, iv (Int32.ofNat (own_free own_g0 4 (own_s p1))), iv (Int32.ofNat (own_free (own_add own_g0 (own_s p1) q4) 4 (own_s p2))), iv (Int32.ofNat (own_free (own_add (own_add own_g0 (own_s p1) q4) (own_s p2) q5) 4 (own_s p3))), iv (1 : Int32), uv, uv, uv, uv] [])) (fun _ k => XS.ifNo X1261.here hx rfl (hb hby at_239) rfl (XT.i0_eq_f br1264) k) ?_
              refine Rch.go (U' := T1261.setTop (mkF m 244 #[iv p1, iv p2, iv p3, jv q4, sv, jv q5, sv, iv p6, iv (3 : Int32), jv q4, sv, jv q5, sv, jv x3, sv, rv b1244, iv (Int32.ofNat (own_free own_g0 4 (own_s p1))), iv (Int32.ofNat (own_free (own_add own_g0 (own_s p1) q4) 4 (own_s p2))), iv (Int32.ofNat (own_free (own_add (own_add own_g0 (own_s p1) q4) (own_s p2) q5) 4 (own_s p3))), iv (1 : Int32), uv, uv, uv, uv] [(.ref b1244)])) (fun _ k => XS.aload X1261.here hx rfl (hb hby at_242) rfl rfl k) ?_
              refine Rch.go (U' := T1261.setTop (mkF m 245 #[iv p1, iv p2, iv p3, jv q4, sv, jv q5, sv, iv p6, iv (3 : Int32), jv q4, sv, jv q5, sv, jv x3, sv, rv b1244, iv (Int32.ofNat (own_free own_g0 4 (own_s p1))), iv (Int32.ofNat (own_free (own_add own_g0 (own_s p1) q4) 4 (own_s p2))), iv (Int32.ofNat (own_free (own_add (own_add own_g0 (own_s p1) q4) (own_s p2) q5) 4 (own_s p3))), iv (1 : Int32), uv, uv, uv, uv] [(.int p3), (.ref b1244)])) (fun _ k => XS.iloadN X1261.here hx rfl (hb hby at_244) rfl  k) ?_
              refine Rch.go (U' := T1261.setTop (mkF m 247 #[iv p1, iv p2, iv p3, jv q4, sv, jv q5, sv, iv p6, iv (3 : Int32), jv q4, sv, jv q5, sv, jv x3, sv, rv b1244, iv (Int32.ofNat (own_free own_g0 4 (own_s p1))), iv (Int32.ofNat (own_free (own_add own_g0 (own_s p1) q4) 4 (own_s p2))), iv (Int32.ofNat (own_free (own_add (own_add own_g0 (own_s p1) q4) (own_s p2) q5) 4 (own_s p3))), iv (1 : Int32), uv, uv, uv, uv] [(.long x3), (.int p3), (.ref b1244)])) (fun _ k => XS.lload X1261.here hx rfl (hb hby at_245) rfl  k) ?_
              obtain ⟨cq1265, kq1265, q1265a, q1265b, q1265c⟩ := isOf hZ e1261 B1254.1
              obtain ⟨_, _, ⟨T1265, L1265, k1265, n1265⟩, -, X1265, ⟨Lc1265, hQ1265, l1265, y1265, z1265⟩, st1265⟩ := X1261.virtualBack hx (y := yF) (z := yF) hown (mvT hZ (wi hw 60 rfl)) (mvT hZ (wi hw 61 rfl)) (notFace_of_selects (args := #[]) (mvT hZ (wi hw 63 rfl))) (mvT hZ (wi hw 63 rfl)) (mvT hZ (wi hw 62 rfl)) (by decide) (backOf (W := 0) (rmF l Z a0 hw [] b1244 bh ba bl kh ka kl ((((0 : Int32) + (1 : Int32)) + (1 : Int32)) + (1 : Int32)) (own_add (own_add (own_add own_g0 (own_s p1) q4) (own_s p2) q5) (own_s p3) x3) va1254 vl1254 p3 x3 T1254.heap n0 z1254 B1254 (own_hz3 _ _ _ _ _ _) (by decide)) hZ (wi hw 64 rfl) (wi hw 2 rfl) (by decide) (by decide)) q1265a q1265c (g := (mkF m 247 #[iv p1, iv p2, iv p3, jv q4, sv, jv q5, sv, iv p6, iv (3 : Int32), jv q4, sv, jv q5, sv, jv x3, sv, rv b1244, iv (Int32.ofNat (own_free own_g0 4 (own_s p1))), iv (Int32.ofNat (own_free (own_add own_g0 (own_s p1) q4) 4 (own_s p2))), iv (Int32.ofNat (own_free (own_add (own_add own_g0 (own_s p1) q4) (own_s p2) q5) 4 (own_s p3))), iv (1 : Int32), uv, uv, uv, uv] [(.long x3), (.int p3), (.ref b1244)])) rfl (by rw [hml]; rfl) (Steps.refl _) (argsL := [(.int p3), (.long x3)]) (rest := []) (lenOf pd_15 rfl) rfl (by show 2 * 0 + _ ≤ _; exact Nat.le_of_eq rfl) (hb hby at_247) (fun _ _ => ⟨rfl, e1261, (by decide : 10 + 0 ≤ _), (by decide : 48 + 0 ≤ _)⟩)
              dsimp only [Pt.U, Pt.locs, Pt.cells, Pt.slots] at X1265 l1265 y1265 z1265 st1265 hQ1265
              subst l1265 y1265 z1265
              obtain ⟨rfl, N1265q, e1265⟩ := hQ1265
              have N1265 := Fr.app N1261 N1265q
              refine Rch.to (U' := T1265.setTop (mkF m 250 #[iv p1, iv p2, iv p3, jv q4, sv, jv q5, sv, iv p6, iv (3 : Int32), jv q4, sv, jv q5, sv, jv x3, sv, rv b1244, iv (Int32.ofNat (own_free own_g0 4 (own_s p1))), iv (Int32.ofNat (own_free (own_add own_g0 (own_s p1) q4) 4 (own_s p2))), iv (Int32.ofNat (own_free (own_add (own_add own_g0 (own_s p1) q4) (own_s p2) q5) 4 (own_s p3))), iv (1 : Int32), uv, uv, uv, uv] [(.int (own_find (own_add (own_add (own_add own_g0 (own_s p1) q4) (own_s p2) q5) (own_s p3) x3) x3 4 (own_s p3)))])) st1265 ?_
              refine Rch.go (U' := T1265.setTop (mkF m 252 #[iv p1, iv p2, iv p3, jv q4, sv, jv q5, sv, iv p6, iv (3 : Int32), jv q4, sv, jv q5, sv, jv x3, sv, rv b1244, iv (Int32.ofNat (own_free own_g0 4 (own_s p1))), iv (Int32.ofNat (own_free (own_add own_g0 (own_s p1) q4) 4 (own_s p2))), iv (Int32.ofNat (own_free (own_add (own_add own_g0 (own_s p1) q4) (own_s p2) q5) 4 (own_s p3))), iv (1 : Int32), uv, uv, uv, uv] [(.int (Int32.ofNat (own_free (own_add (own_add own_g0 (own_s p1) q4) (own_s p2) q5) 4 (own_s p3)))), (.int (own_find (own_add (own_add (own_add own_g0 (own_s p1) q4) (own_s p2) q5) (own_s p3) x3) x3 4 (own_s p3)))])) (fun _ k => XS.iload X1265.here hx rfl (hb hby at_250) rfl  k) ?_
              have br1266 : (own_find (own_add (own_add (own_add own_g0 (own_s p1) q4) (own_s p2) q5) (own_s p3) x3) x3 4 (own_s p3)) = (Int32.ofNat (own_free (own_add (own_add own_g0 (own_s p1) q4) (own_s p2) q5) 4 (own_s p3))) := own_found3_3 br1236 br1238 br1239 br1241 br1242 br1243
              refine Rch.go (U' := T1265.setTop (mkF m 255 #[iv p1, iv p2, iv p3, jv q4, sv, jv q5, sv, iv p6, iv (3 : Int32), jv q4, sv, jv q5, sv, jv x3, sv, rv b1244, iv (Int32.ofNat (own_free own_g0 4 (own_s p1))), iv (Int32.ofNat (own_free (own_add own_g0 (own_s p1) q4) 4 (own_s p2))), iv (Int32.ofNat (own_free (own_add (own_add own_g0 (own_s p1) q4) (own_s p2) q5) 4 (own_s p3))), iv (1 : Int32), uv, uv, uv, uv] [])) (fun _ k => XS.icmpNo X1265.here hx rfl (hb hby at_252) rfl (XT.ii_ne_f br1266) k) ?_
              refine Rch.go (U' := T1265.setTop (mkF m 256 #[iv p1, iv p2, iv p3, jv q4, sv, jv q5, sv, iv p6, iv (3 : Int32), jv q4, sv, jv q5, sv, jv x3, sv, rv b1244, iv (Int32.ofNat (own_free own_g0 4 (own_s p1))), iv (Int32.ofNat (own_free (own_add own_g0 (own_s p1) q4) 4 (own_s p2))), iv (Int32.ofNat (own_free (own_add (own_add own_g0 (own_s p1) q4) (own_s p2) q5) 4 (own_s p3))), iv (1 : Int32), uv, uv, uv, uv] [(.int (1 : Int32))])) (fun _ k => XS.iconst X1265.here hx rfl (hb hby at_255) k) ?_
              refine Rch.go (U' := T1265.setTop (mkF m 260 #[iv p1, iv p2, iv p3, jv q4, sv, jv q5, sv, iv p6, iv (3 : Int32), jv q4, sv, jv q5, sv, jv x3, sv, rv b1244, iv (Int32.ofNat (own_free own_g0 4 (own_s p1))), iv (Int32.ofNat (own_free (own_add own_g0 (own_s p1) q4) 4 (own_s p2))), iv (Int32.ofNat (own_free (own_add (own_add own_g0 (own_s p1) q4) (own_s p2) q5) 4 (own_s p3))), iv (1 : Int32), uv, uv, uv, uv] [(.int (1 : Int32))])) (fun _ k => XS.goto X1265.here hx rfl (pc0 := 256) (pc' := 260) rfl (hb hby at_256) (by decide) (by decide) k) ?_
              refine Rch.go (U' := T1265.setTop (mkF m 262 #[iv p1, iv p2, iv p3, jv q4, sv, jv q5, sv, iv p6, iv (3 : Int32), jv q4, sv, jv q5, sv, jv x3, sv, rv b1244, iv (Int32.ofNat (own_free own_g0 4 (own_s p1))), iv (Int32.ofNat (own_free (own_add own_g0 (own_s p1) q4) 4 (own_s p2))), iv (Int32.ofNat (own_free (own_add (own_add own_g0 (own_s p1) q4) (own_s p2) q5) 4 (own_s p3))), iv (1 : Int32), uv, uv, uv, uv] [])) (fun _ k => XS.istore X1265.here hx rfl (hb hby at_260) rfl (l' := #[iv p1, iv p2, iv p3, jv q4, sv, jv q5, sv, iv p6, iv (3 : Int32), jv q4, sv, jv q5, sv, jv x3, sv, rv b1244, iv (Int32.ofNat (own_free own_g0 4 (own_s p1))), iv (Int32.ofNat (own_free (own_add own_g0 (own_s p1) q4) 4 (own_s p2))), iv (Int32.ofNat (own_free (own_add (own_add own_g0 (own_s p1) q4) (own_s p2) q5) 4 (own_s p3))), iv (1 : Int32), uv, uv, uv, uv]) rfl k) ?_
              refine Rch.go (U' := T1265.setTop (mkF m 263 #[iv p1, iv p2, iv p3, jv q4, sv, jv q5, sv, iv p6, iv (3 : Int32), jv q4, sv, jv q5, sv, jv x3, sv, rv b1244, iv (Int32.ofNat (own_free own_g0 4 (own_s p1))), iv (Int32.ofNat (own_free (own_add own_g0 (own_s p1) q4) 4 (own_s p2))), iv (Int32.ofNat (own_free (own_add (own_add own_g0 (own_s p1) q4) (own_s p2) q5) 4 (own_s p3))), iv (1 : Int32), uv, uv, uv, uv] [(.long q4)])) (fun _ k => XS.lloadN X1265.here hx rfl (hb hby at_262) rfl  k) ?_
              refine Rch.go (U' := T1265.setTop (mkF m 265 #[iv p1, iv p2, iv p3, jv q4, sv, jv q5, sv, iv p6, iv (3 : Int32), jv q4, sv, jv q5, sv, jv x3, sv, rv b1244, iv (Int32.ofNat (own_free own_g0 4 (own_s p1))), iv (Int32.ofNat (own_free (own_add own_g0 (own_s p1) q4) 4 (own_s p2))), iv (Int32.ofNat (own_free (own_add (own_add own_g0 (own_s p1) q4) (own_s p2) q5) 4 (own_s p3))), iv (1 : Int32), uv, uv, uv, uv] [(.long q5), (.long q4)])) (fun _ k => XS.lload X1265.here hx rfl (hb hby at_263) rfl  k) ?_
              refine Rch.go (U' := T1265.setTop (mkF m 266 #[iv p1, iv p2, iv p3, jv q4, sv, jv q5, sv, iv p6, iv (3 : Int32), jv q4, sv, jv q5, sv, jv x3, sv, rv b1244, iv (Int32.ofNat (own_free own_g0 4 (own_s p1))), iv (Int32.ofNat (own_free (own_add own_g0 (own_s p1) q4) 4 (own_s p2))), iv (Int32.ofNat (own_free (own_add (own_add own_g0 (own_s p1) q4) (own_s p2) q5) 4 (own_s p3))), iv (1 : Int32), uv, uv, uv, uv] [(.long (q4 - q5))])) (fun _ k => XS.lsub X1265.here hx rfl (hb hby at_265) rfl k) ?_
              generalize hqq : (q4 - q5) = qq
              refine Rch.go (U' := T1265.setTop (mkF m 268 #[iv p1, iv p2, iv p3, jv q4, sv, jv q5, sv, iv p6, iv (3 : Int32), jv q4, sv, jv q5, sv, jv x3, sv, rv b1244, iv (Int32.ofNat (own_free own_g0 4 (own_s p1))), iv (Int32.ofNat (own_free (own_add own_g0 (own_s p1) q4) 4 (own_s p2))), iv (Int32.ofNat (own_free (own_add (own_add own_g0 (own_s p1) q4) (own_s p2) q5) 4 (own_s p3))), iv (1 : Int32), jv qq, sv, uv, uv] [])) (fun _ k => XS.lstore X1265.here hx rfl (hb hby at_266) rfl (l' := #[iv p1, iv p2, iv p3, jv q4, sv, jv q5, sv, iv p6, iv (3 : Int32), jv q4, sv, jv q5, sv, jv x3, sv, rv b1244, iv (Int32.ofNat (own_free own_g0 4 (own_s p1))), iv (Int32.ofNat (own_free (own_add own_g0 (own_s p1) q4) 4 (own_s p2))), iv (Int32.ofNat (own_free (own_add (own_add own_g0 (own_s p1) q4) (own_s p2) q5) 4 (own_s p3))), iv (1 : Int32), jv qq, sv, uv, uv]) rfl k) ?_
              refine Rch.go (U' := T1265.setTop (mkF m 270 #[iv p1, iv p2, iv p3, jv q4, sv, jv q5, sv, iv p6, iv (3 : Int32), jv q4, sv, jv q5, sv, jv x3, sv, rv b1244, iv (Int32.ofNat (own_free own_g0 4 (own_s p1))), iv (Int32.ofNat (own_free (own_add own_g0 (own_s p1) q4) 4 (own_s p2))), iv (Int32.ofNat (own_free (own_add (own_add own_g0 (own_s p1) q4) (own_s p2) q5) 4 (own_s p3))), iv (1 : Int32), jv qq, sv, uv, uv] [(.int (3 : Int32))])) (fun _ k => XS.iload X1265.here hx rfl (hb hby at_268) rfl  k) ?_
              refine Rch.go (U' := T1265.setTop (mkF m 271 #[iv p1, iv p2, iv p3, jv q4, sv, jv q5, sv, iv p6, iv (3 : Int32), jv q4, sv, jv q5, sv, jv x3, sv, rv b1244, iv (Int32.ofNat (own_free own_g0 4 (own_s p1))), iv (Int32.ofNat (own_free (own_add own_g0 (own_s p1) q4) 4 (own_s p2))), iv (Int32.ofNat (own_free (own_add (own_add own_g0 (own_s p1) q4) (own_s p2) q5) 4 (own_s p3))), iv (1 : Int32), jv qq, sv, uv, uv] [(.int (1 : Int32)), (.int (3 : Int32))])) (fun _ k => XS.iconst X1265.here hx rfl (hb hby at_270) k) ?_
              have br1267 : ¬ ((3 : Int32) < (1 : Int32)) := (by decide)
              refine Rch.go (U' := T1265.setTop (mkF m 274 #[iv p1, iv p2, iv p3, jv q4, sv, jv q5, sv, iv p6, iv (3 : Int32), jv q4, sv, jv q5, sv, jv x3, sv, rv b1244, iv (Int32.ofNat (own_free own_g0 4 (own_s p1))), iv (Int32.ofNat (own_free (own_add own_g0 (own_s p1) q4) 4 (own_s p2))), iv (Int32.ofNat (own_free (own_add (own_add own_g0 (own_s p1) q4) (own_s p2) q5) 4 (own_s p3))), iv (1 : Int32), jv qq, sv, uv, uv] [])) (fun _ k => XS.icmpNo X1265.here hx rfl (hb hby at_271) rfl (XT.ii_lt_f br1267) k) ?_
              refine Rch.go (U' := T1265.setTop (mkF m 276 #[iv p1, iv p2, iv p3, jv q4, sv, jv q5, sv, iv p6, iv (3 : Int32), jv q4, sv, jv q5, sv, jv x3, sv, rv b1244, iv (Int32.ofNat (own_free own_g0 4 (own_s p1))), iv (Int32.ofNat (own_free (own_add own_g0 (own_s p1) q4) 4 (own_s p2))), iv (Int32.ofNat (own_free (own_add (own_add own_g0 (own_s p1) q4) (own_s p2) q5) 4 (own_s p3))), iv (1 : Int32), jv qq, sv, uv, uv] [(.long qq)])) (fun _ k => XS.lload X1265.here hx rfl (hb hby at_274) rfl  k) ?_
              refine Rch.go (U' := T1265.setTop (mkF m 278 #[iv p1, iv p2, iv p3, jv q4, sv, jv q5, sv, iv p6, iv (3 : Int32), jv q4, sv, jv q5, sv, jv x3, sv, rv b1244, iv (Int32.ofNat (own_free own_g0 4 (own_s p1))), iv (Int32.ofNat (own_free (own_add own_g0 (own_s p1) q4) 4 (own_s p2))), iv (Int32.ofNat (own_free (own_add (own_add own_g0 (own_s p1) q4) (own_s p2) q5) 4 (own_s p3))), iv (1 : Int32), jv qq, sv, uv, uv] [(.long q4), (.long qq)])) (fun _ k => XS.lload X1265.here hx rfl (hb hby at_276) rfl  k) ?_
              refine Rch.go (U' := T1265.setTop (mkF m 279 #[iv p1, iv p2, iv p3, jv q4, sv, jv q5, sv, iv p6, iv (3 : Int32), jv q4, sv, jv q5, sv, jv x3, sv, rv b1244, iv (Int32.ofNat (own_free own_g0 4 (own_s p1))), iv (Int32.ofNat (own_free (own_add own_g0 (own_s p1) q4) 4 (own_s p2))), iv (Int32.ofNat (own_free (own_add (own_add own_g0 (own_s p1) q4) (own_s p2) q5) 4 (own_s p3))), iv (1 : Int32), jv qq, sv, uv, uv] [(.int (XT.cmpL qq q4))])) (fun _ k => XT.lcmp X1265.here hx rfl (hb hby at_278) rfl k) ?_
              by_cases br1268 : qq = q4
              ·
                refine Rch.go (U' := T1265.setTop (mkF m 310 #[iv p1, iv p2, iv p3, jv q4, sv, jv q5, sv, iv p6, iv (3 : Int32), jv q4, sv, jv q5, sv, jv x3, sv, rv b1244, iv (Int32.ofNat (own_free own_g0 4 (own_s p1))), iv (Int32.ofNat (own_free (own_add own_g0 (own_s p1) q4) 4 (own_s p2))), iv (Int32.ofNat (own_free (own_add (own_add own_g0 (own_s p1) q4) (own_s p2) q5) 4 (own_s p3))), iv (1 : Int32), jv qq, sv, uv, uv] [])) (fun _ k => XS.ifYes X1265.here hx rfl (pc0 := 279) (pc' := 310) rfl (hb hby at_279) rfl (XT.ll_eq_t br1268) (by decide) (by decide) k) ?_
                refine Rch.go (U' := T1265.setTop (mkF m 311 #[iv p1, iv p2, iv p3, jv q4, sv, jv q5, sv, iv p6, iv (3 : Int32), jv q4, sv, jv q5, sv, jv x3, sv, rv b1244, iv (Int32.ofNat (own_free own_g0 4 (own_s p1))), iv (Int32.ofNat (own_free (own_add own_g0 (own_s p1) q4) 4 (own_s p2))), iv (Int32.ofNat (own_free (own_add (own_add own_g0 (own_s p1) q4) (own_s p2) q5) 4 (own_s p3))), iv (1 : Int32), jv qq, sv, uv, uv] [(.int (1 : Int32))])) (fun _ k => XS.iconst X1265.here hx rfl (hb hby at_310) k) ?_
                refine Rch.go (U' := T1265.setTop (mkF m 315 #[iv p1, iv p2, iv p3, jv q4, sv, jv q5, sv, iv p6, iv (3 : Int32), jv q4, sv, jv q5, sv, jv x3, sv, rv b1244, iv (Int32.ofNat (own_free own_g0 4 (own_s p1))), iv (Int32.ofNat (own_free (own_add own_g0 (own_s p1) q4) 4 (own_s p2))), iv (Int32.ofNat (own_free (own_add (own_add own_g0 (own_s p1) q4) (own_s p2) q5) 4 (own_s p3))), iv (1 : Int32), jv qq, sv, uv, uv] [(.int (1 : Int32))])) (fun _ k => XS.goto X1265.here hx rfl (pc0 := 311) (pc' := 315) rfl (hb hby at_311) (by decide) (by decide) k) ?_
                refine Rch.go (U' := T1265.setTop (mkF m 317 #[iv p1, iv p2, iv p3, jv q4, sv, jv q5, sv, iv p6, iv (3 : Int32), jv q4, sv, jv q5, sv, jv x3, sv, rv b1244, iv (Int32.ofNat (own_free own_g0 4 (own_s p1))), iv (Int32.ofNat (own_free (own_add own_g0 (own_s p1) q4) 4 (own_s p2))), iv (Int32.ofNat (own_free (own_add (own_add own_g0 (own_s p1) q4) (own_s p2) q5) 4 (own_s p3))), iv (1 : Int32), jv qq, sv, iv (1 : Int32), uv] [])) (fun _ k => XS.istore X1265.here hx rfl (hb hby at_315) rfl (l' := #[iv p1, iv p2, iv p3, jv q4, sv, jv q5, sv, iv p6, iv (3 : Int32), jv q4, sv, jv q5, sv, jv x3, sv, rv b1244, iv (Int32.ofNat (own_free own_g0 4 (own_s p1))), iv (Int32.ofNat (own_free (own_add own_g0 (own_s p1) q4) 4 (own_s p2))), iv (Int32.ofNat (own_free (own_add (own_add own_g0 (own_s p1) q4) (own_s p2) q5) 4 (own_s p3))), iv (1 : Int32), jv qq, sv, iv (1 : Int32), uv]) rfl k) ?_
                refine Rch.go (U' := T1265.setTop (mkF m 319 #[iv p1, iv p2, iv p3, jv q4, sv, jv q5, sv, iv p6, iv (3 : Int32), jv q4, sv, jv q5, sv, jv x3, sv, rv b1244, iv (Int32.ofNat (own_free own_g0 4 (own_s p1))), iv (Int32.ofNat (own_free (own_add own_g0 (own_s p1) q4) 4 (own_s p2))), iv (Int32.ofNat (own_free (own_add (own_add own_g0 (own_s p1) q4) (own_s p2) q5) 4 (own_s p3))), iv (1 : Int32), jv qq, sv, iv (1 : Int32), uv] [(.int (1 : Int32))])) (fun _ k => XS.iload X1265.here hx rfl (hb hby at_317) rfl  k) ?_
                have br1269 : ¬ ((1 : Int32) = (0 : Int32)) := (by decide)
                refine Rch.go (U' := T1265.setTop (mkF m 355 #[iv p1, iv p2, iv p3, jv q4, sv, jv q5, sv, iv p6, iv (3 : Int32), jv q4, sv, jv q5, sv, jv x3, sv, rv b1244, iv (Int32.ofNat (own_free own_g0 4 (own_s p1))), iv (Int32.ofNat (own_free (own_add own_g0 (own_s p1) q4) 4 (own_s p2))), iv (Int32.ofNat (own_free (own_add (own_add own_g0 (own_s p1) q4) (own_s p2) q5) 4 (own_s p3))), iv (1 : Int32), jv qq, sv, iv (1 : Int32), uv] [])) (fun _ k => XS.ifYes X1265.here hx rfl (pc0 := 319) (pc' := 355) rfl (hb hby at_319) rfl (XT.i0_ne_t br1269) (by decide) (by decide) k) ?_
                refine Rch.go (U' := T1265.setTop (mkF m 357 #[iv p1, iv p2, iv p3, jv q4, sv, jv q5, sv, iv p6, iv (3 : Int32), jv q4, sv, jv q5, sv, jv x3, sv, rv b1244, iv (Int32.ofNat (own_free own_g0 4 (own_s p1))), iv (Int32.ofNat (own_free (own_add own_g0 (own_s p1) q4) 4 (own_s p2))), iv (Int32.ofNat (own_free (own_add (own_add own_g0 (own_s p1) q4) (own_s p2) q5) 4 (own_s p3))), iv (1 : Int32), jv qq, sv, iv (1 : Int32), uv] [(.int (1 : Int32))])) (fun _ k => XS.iload X1265.here hx rfl (hb hby at_355) rfl  k) ?_
                refine Rch.fin X1265 hlk (v := some (.int (nar .boolean (1 : Int32)))) (fun h => by rw [hret] at h; cases h) e1265 (by decide) (by decide) (fun fs hr => retN X1265 hx (t := .boolean) hret (by simp) (hb hby at_357) hr) ?_
                exact ⟨rfl, N1265⟩
              ·
                refine Rch.go (U' := T1265.setTop (mkF m 282 #[iv p1, iv p2, iv p3, jv q4, sv, jv q5, sv, iv p6, iv (3 : Int32), jv q4, sv, jv q5, sv, jv x3, sv, rv b1244, iv (Int32.ofNat (own_free own_g0 4 (own_s p1))), iv (Int32.ofNat (own_free (own_add own_g0 (own_s p1) q4) 4 (own_s p2))), iv (Int32.ofNat (own_free (own_add (own_add own_g0 (own_s p1) q4) (own_s p2) q5) 4 (own_s p3))), iv (1 : Int32), jv qq, sv, uv, uv] [])) (fun _ k => XS.ifNo X1265.here hx rfl (hb hby at_279) rfl (XT.ll_eq_f br1268) k) ?_
                refine Rch.go (U' := T1265.setTop (mkF m 284 #[iv p1, iv p2, iv p3, jv q4, sv, jv q5, sv, iv p6, iv (3 : Int32), jv q4, sv, jv q5, sv, jv x3, sv, rv b1244, iv (Int32.ofNat (own_free own_g0 4 (own_s p1))), iv (Int32.ofNat (own_free (own_add own_g0 (own_s p1) q4) 4 (own_s p2))), iv (Int32.ofNat (own_free (own_add (own_add own_g0 (own_s p1) q4) (own_s p2) q5) 4 (own_s p3))), iv (1 : Int32), jv qq, sv, uv, uv] [(.int (3 : Int32))])) (fun _ k => XS.iload X1265.here hx rfl (hb hby at_282) rfl  k) ?_
                refine Rch.go (U' := T1265.setTop (mkF m 285 #[iv p1, iv p2, iv p3, jv q4, sv, jv q5, sv, iv p6, iv (3 : Int32), jv q4, sv, jv q5, sv, jv x3, sv, rv b1244, iv (Int32.ofNat (own_free own_g0 4 (own_s p1))), iv (Int32.ofNat (own_free (own_add own_g0 (own_s p1) q4) 4 (own_s p2))), iv (Int32.ofNat (own_free (own_add (own_add own_g0 (own_s p1) q4) (own_s p2) q5) 4 (own_s p3))), iv (1 : Int32), jv qq, sv, uv, uv] [(.int (2 : Int32)), (.int (3 : Int32))])) (fun _ k => XS.iconst X1265.here hx rfl (hb hby at_284) k) ?_
                have br1270 : ¬ ((3 : Int32) < (2 : Int32)) := (by decide)
                refine Rch.go (U' := T1265.setTop (mkF m 288 #[iv p1, iv p2, iv p3, jv q4, sv, jv q5, sv, iv p6, iv (3 : Int32), jv q4, sv, jv q5, sv, jv x3, sv, rv b1244, iv (Int32.ofNat (own_free own_g0 4 (own_s p1))), iv (Int32.ofNat (own_free (own_add own_g0 (own_s p1) q4) 4 (own_s p2))), iv (Int32.ofNat (own_free (own_add (own_add own_g0 (own_s p1) q4) (own_s p2) q5) 4 (own_s p3))), iv (1 : Int32), jv qq, sv, uv, uv] [])) (fun _ k => XS.icmpNo X1265.here hx rfl (hb hby at_285) rfl (XT.ii_lt_f br1270) k) ?_
                refine Rch.go (U' := T1265.setTop (mkF m 290 #[iv p1, iv p2, iv p3, jv q4, sv, jv q5, sv, iv p6, iv (3 : Int32), jv q4, sv, jv q5, sv, jv x3, sv, rv b1244, iv (Int32.ofNat (own_free own_g0 4 (own_s p1))), iv (Int32.ofNat (own_free (own_add own_g0 (own_s p1) q4) 4 (own_s p2))), iv (Int32.ofNat (own_free (own_add (own_add own_g0 (own_s p1) q4) (own_s p2) q5) 4 (own_s p3))), iv (1 : Int32), jv qq, sv, uv, uv] [(.long qq)])) (fun _ k => XS.lload X1265.here hx rfl (hb hby at_288) rfl  k) ?_
                refine Rch.go (U' := T1265.setTop (mkF m 292 #[iv p1, iv p2, iv p3, jv q4, sv, jv q5, sv, iv p6, iv (3 : Int32), jv q4, sv, jv q5, sv, jv x3, sv, rv b1244, iv (Int32.ofNat (own_free own_g0 4 (own_s p1))), iv (Int32.ofNat (own_free (own_add own_g0 (own_s p1) q4) 4 (own_s p2))), iv (Int32.ofNat (own_free (own_add (own_add own_g0 (own_s p1) q4) (own_s p2) q5) 4 (own_s p3))), iv (1 : Int32), jv qq, sv, uv, uv] [(.long q5), (.long qq)])) (fun _ k => XS.lload X1265.here hx rfl (hb hby at_290) rfl  k) ?_
                refine Rch.go (U' := T1265.setTop (mkF m 293 #[iv p1, iv p2, iv p3, jv q4, sv, jv q5, sv, iv p6, iv (3 : Int32), jv q4, sv, jv q5, sv, jv x3, sv, rv b1244, iv (Int32.ofNat (own_free own_g0 4 (own_s p1))), iv (Int32.ofNat (own_free (own_add own_g0 (own_s p1) q4) 4 (own_s p2))), iv (Int32.ofNat (own_free (own_add (own_add own_g0 (own_s p1) q4) (own_s p2) q5) 4 (own_s p3))), iv (1 : Int32), jv qq, sv, uv, uv] [(.int (XT.cmpL qq q5))])) (fun _ k => XT.lcmp X1265.here hx rfl (hb hby at_292) rfl k) ?_
                by_cases br1271 : qq = q5
                ·
                  refine Rch.go (U' := T1265.setTop (mkF m 310 #[iv p1, iv p2, iv p3, jv q4, sv, jv q5, sv, iv p6, iv (3 : Int32), jv q4, sv, jv q5, sv, jv x3, sv, rv b1244, iv (Int32.ofNat (own_free own_g0 4 (own_s p1))), iv (Int32.ofNat (own_free (own_add own_g0 (own_s p1) q4) 4 (own_s p2))), iv (Int32.ofNat (own_free (own_add (own_add own_g0 (own_s p1) q4) (own_s p2) q5) 4 (own_s p3))), iv (1 : Int32), jv qq, sv, uv, uv] [])) (fun _ k => XS.ifYes X1265.here hx rfl (pc0 := 293) (pc' := 310) rfl (hb hby at_293) rfl (XT.ll_eq_t br1271) (by decide) (by decide) k) ?_
                  refine Rch.go (U' := T1265.setTop (mkF m 311 #[iv p1, iv p2, iv p3, jv q4, sv, jv q5, sv, iv p6, iv (3 : Int32), jv q4, sv, jv q5, sv, jv x3, sv, rv b1244, iv (Int32.ofNat (own_free own_g0 4 (own_s p1))), iv (Int32.ofNat (own_free (own_add own_g0 (own_s p1) q4) 4 (own_s p2))), iv (Int32.ofNat (own_free (own_add (own_add own_g0 (own_s p1) q4) (own_s p2) q5) 4 (own_s p3))), iv (1 : Int32), jv qq, sv, uv, uv] [(.int (1 : Int32))])) (fun _ k => XS.iconst X1265.here hx rfl (hb hby at_310) k) ?_
                  refine Rch.go (U' := T1265.setTop (mkF m 315 #[iv p1, iv p2, iv p3, jv q4, sv, jv q5, sv, iv p6, iv (3 : Int32), jv q4, sv, jv q5, sv, jv x3, sv, rv b1244, iv (Int32.ofNat (own_free own_g0 4 (own_s p1))), iv (Int32.ofNat (own_free (own_add own_g0 (own_s p1) q4) 4 (own_s p2))), iv (Int32.ofNat (own_free (own_add (own_add own_g0 (own_s p1) q4) (own_s p2) q5) 4 (own_s p3))), iv (1 : Int32), jv qq, sv, uv, uv] [(.int (1 : Int32))])) (fun _ k => XS.goto X1265.here hx rfl (pc0 := 311) (pc' := 315) rfl (hb hby at_311) (by decide) (by decide) k) ?_
                  refine Rch.go (U' := T1265.setTop (mkF m 317 #[iv p1, iv p2, iv p3, jv q4, sv, jv q5, sv, iv p6, iv (3 : Int32), jv q4, sv, jv q5, sv, jv x3, sv, rv b1244, iv (Int32.ofNat (own_free own_g0 4 (own_s p1))), iv (Int32.ofNat (own_free (own_add own_g0 (own_s p1) q4) 4 (own_s p2))), iv (Int32.ofNat (own_free (own_add (own_add own_g0 (own_s p1) q4) (own_s p2) q5) 4 (own_s p3))), iv (1 : Int32), jv qq, sv, iv (1 : Int32), uv] [])) (fun _ k => XS.istore X1265.here hx rfl (hb hby at_315) rfl (l' := #[iv p1, iv p2, iv p3, jv q4, sv, jv q5, sv, iv p6, iv (3 : Int32), jv q4, sv, jv q5, sv, jv x3, sv, rv b1244, iv (Int32.ofNat (own_free own_g0 4 (own_s p1))), iv (Int32.ofNat (own_free (own_add own_g0 (own_s p1) q4) 4 (own_s p2))), iv (Int32.ofNat (own_free (own_add (own_add own_g0 (own_s p1) q4) (own_s p2) q5) 4 (own_s p3))), iv (1 : Int32), jv qq, sv, iv (1 : Int32), uv]) rfl k) ?_
                  refine Rch.go (U' := T1265.setTop (mkF m 319 #[iv p1, iv p2, iv p3, jv q4, sv, jv q5, sv, iv p6, iv (3 : Int32), jv q4, sv, jv q5, sv, jv x3, sv, rv b1244, iv (Int32.ofNat (own_free own_g0 4 (own_s p1))), iv (Int32.ofNat (own_free (own_add own_g0 (own_s p1) q4) 4 (own_s p2))), iv (Int32.ofNat (own_free (own_add (own_add own_g0 (own_s p1) q4) (own_s p2) q5) 4 (own_s p3))), iv (1 : Int32), jv qq, sv, iv (1 : Int32), uv] [(.int (1 : Int32))])) (fun _ k => XS.iload X1265.here hx rfl (hb hby at_317) rfl  k) ?_
                  have br1272 : ¬ ((1 : Int32) = (0 : Int32)) := (by decide)
                  refine Rch.go (U' := T1265.setTop (mkF m 355 #[iv p1, iv p2, iv p3, jv q4, sv, jv q5, sv, iv p6, iv (3 : Int32), jv q4, sv, jv q5, sv, jv x3, sv, rv b1244, iv (Int32.ofNat (own_free own_g0 4 (own_s p1))), iv (Int32.ofNat (own_free (own_add own_g0 (own_s p1) q4) 4 (own_s p2))), iv (Int32.ofNat (own_free (own_add (own_add own_g0 (own_s p1) q4) (own_s p2) q5) 4 (own_s p3))), iv (1 : Int32), jv qq, sv, iv (1 : Int32), uv] [])) (fun _ k => XS.ifYes X1265.here hx rfl (pc0 := 319) (pc' := 355) rfl (hb hby at_319) rfl (XT.i0_ne_t br1272) (by decide) (by decide) k) ?_
                  refine Rch.go (U' := T1265.setTop (mkF m 357 #[iv p1, iv p2, iv p3, jv q4, sv, jv q5, sv, iv p6, iv (3 : Int32), jv q4, sv, jv q5, sv, jv x3, sv, rv b1244, iv (Int32.ofNat (own_free own_g0 4 (own_s p1))), iv (Int32.ofNat (own_free (own_add own_g0 (own_s p1) q4) 4 (own_s p2))), iv (Int32.ofNat (own_free (own_add (own_add own_g0 (own_s p1) q4) (own_s p2) q5) 4 (own_s p3))), iv (1 : Int32), jv qq, sv, iv (1 : Int32), uv] [(.int (1 : Int32))])) (fun _ k => XS.iload X1265.here hx rfl (hb hby at_355) rfl  k) ?_
                  refine Rch.fin X1265 hlk (v := some (.int (nar .boolean (1 : Int32)))) (fun h => by rw [hret] at h; cases h) e1265 (by decide) (by decide) (fun fs hr => retN X1265 hx (t := .boolean) hret (by simp) (hb hby at_357) hr) ?_
                  exact ⟨rfl, N1265⟩
                ·
                  refine Rch.go (U' := T1265.setTop (mkF m 296 #[iv p1, iv p2, iv p3, jv q4, sv, jv q5, sv, iv p6, iv (3 : Int32), jv q4, sv, jv q5, sv, jv x3, sv, rv b1244, iv (Int32.ofNat (own_free own_g0 4 (own_s p1))), iv (Int32.ofNat (own_free (own_add own_g0 (own_s p1) q4) 4 (own_s p2))), iv (Int32.ofNat (own_free (own_add (own_add own_g0 (own_s p1) q4) (own_s p2) q5) 4 (own_s p3))), iv (1 : Int32), jv qq, sv, uv, uv] [])) (fun _ k => XS.ifNo X1265.here hx rfl (hb hby at_293) rfl (XT.ll_eq_f br1271) k) ?_
                  refine Rch.go (U' := T1265.setTop (mkF m 298 #[iv p1, iv p2, iv p3, jv q4, sv, jv q5, sv, iv p6, iv (3 : Int32), jv q4, sv, jv q5, sv, jv x3, sv, rv b1244, iv (Int32.ofNat (own_free own_g0 4 (own_s p1))), iv (Int32.ofNat (own_free (own_add own_g0 (own_s p1) q4) 4 (own_s p2))), iv (Int32.ofNat (own_free (own_add (own_add own_g0 (own_s p1) q4) (own_s p2) q5) 4 (own_s p3))), iv (1 : Int32), jv qq, sv, uv, uv] [(.int (3 : Int32))])) (fun _ k => XS.iload X1265.here hx rfl (hb hby at_296) rfl  k) ?_
                  refine Rch.go (U' := T1265.setTop (mkF m 299 #[iv p1, iv p2, iv p3, jv q4, sv, jv q5, sv, iv p6, iv (3 : Int32), jv q4, sv, jv q5, sv, jv x3, sv, rv b1244, iv (Int32.ofNat (own_free own_g0 4 (own_s p1))), iv (Int32.ofNat (own_free (own_add own_g0 (own_s p1) q4) 4 (own_s p2))), iv (Int32.ofNat (own_free (own_add (own_add own_g0 (own_s p1) q4) (own_s p2) q5) 4 (own_s p3))), iv (1 : Int32), jv qq, sv, uv, uv] [(.int (3 : Int32)), (.int (3 : Int32))])) (fun _ k => XS.iconst X1265.here hx rfl (hb hby at_298) k) ?_
                  have br1273 : ¬ ((3 : Int32) < (3 : Int32)) := (by decide)
                  refine Rch.go (U' := T1265.setTop (mkF m 302 #[iv p1, iv p2, iv p3, jv q4, sv, jv q5, sv, iv p6, iv (3 : Int32), jv q4, sv, jv q5, sv, jv x3, sv, rv b1244, iv (Int32.ofNat (own_free own_g0 4 (own_s p1))), iv (Int32.ofNat (own_free (own_add own_g0 (own_s p1) q4) 4 (own_s p2))), iv (Int32.ofNat (own_free (own_add (own_add own_g0 (own_s p1) q4) (own_s p2) q5) 4 (own_s p3))), iv (1 : Int32), jv qq, sv, uv, uv] [])) (fun _ k => XS.icmpNo X1265.here hx rfl (hb hby at_299) rfl (XT.ii_lt_f br1273) k) ?_
                  refine Rch.go (U' := T1265.setTop (mkF m 304 #[iv p1, iv p2, iv p3, jv q4, sv, jv q5, sv, iv p6, iv (3 : Int32), jv q4, sv, jv q5, sv, jv x3, sv, rv b1244, iv (Int32.ofNat (own_free own_g0 4 (own_s p1))), iv (Int32.ofNat (own_free (own_add own_g0 (own_s p1) q4) 4 (own_s p2))), iv (Int32.ofNat (own_free (own_add (own_add own_g0 (own_s p1) q4) (own_s p2) q5) 4 (own_s p3))), iv (1 : Int32), jv qq, sv, uv, uv] [(.long qq)])) (fun _ k => XS.lload X1265.here hx rfl (hb hby at_302) rfl  k) ?_
                  refine Rch.go (U' := T1265.setTop (mkF m 306 #[iv p1, iv p2, iv p3, jv q4, sv, jv q5, sv, iv p6, iv (3 : Int32), jv q4, sv, jv q5, sv, jv x3, sv, rv b1244, iv (Int32.ofNat (own_free own_g0 4 (own_s p1))), iv (Int32.ofNat (own_free (own_add own_g0 (own_s p1) q4) 4 (own_s p2))), iv (Int32.ofNat (own_free (own_add (own_add own_g0 (own_s p1) q4) (own_s p2) q5) 4 (own_s p3))), iv (1 : Int32), jv qq, sv, uv, uv] [(.long x3), (.long qq)])) (fun _ k => XS.lload X1265.here hx rfl (hb hby at_304) rfl  k) ?_
                  refine Rch.go (U' := T1265.setTop (mkF m 307 #[iv p1, iv p2, iv p3, jv q4, sv, jv q5, sv, iv p6, iv (3 : Int32), jv q4, sv, jv q5, sv, jv x3, sv, rv b1244, iv (Int32.ofNat (own_free own_g0 4 (own_s p1))), iv (Int32.ofNat (own_free (own_add own_g0 (own_s p1) q4) 4 (own_s p2))), iv (Int32.ofNat (own_free (own_add (own_add own_g0 (own_s p1) q4) (own_s p2) q5) 4 (own_s p3))), iv (1 : Int32), jv qq, sv, uv, uv] [(.int (XT.cmpL qq x3))])) (fun _ k => XT.lcmp X1265.here hx rfl (hb hby at_306) rfl k) ?_
                  by_cases br1274 : qq = x3
                  ·
                    refine Rch.go (U' := T1265.setTop (mkF m 310 #[iv p1, iv p2, iv p3, jv q4, sv, jv q5, sv, iv p6, iv (3 : Int32), jv q4, sv, jv q5, sv, jv x3, sv, rv b1244, iv (Int32.ofNat (own_free own_g0 4 (own_s p1))), iv (Int32.ofNat (own_free (own_add own_g0 (own_s p1) q4) 4 (own_s p2))), iv (Int32.ofNat (own_free (own_add (own_add own_g0 (own_s p1) q4) (own_s p2) q5) 4 (own_s p3))), iv (1 : Int32), jv qq, sv, uv, uv] [])) (fun _ k => XS.ifNo X1265.here hx rfl (hb hby at_307) rfl (XT.ll_ne_f br1274) k) ?_
                    refine Rch.go (U' := T1265.setTop (mkF m 311 #[iv p1, iv p2, iv p3, jv q4, sv, jv q5, sv, iv p6, iv (3 : Int32), jv q4, sv, jv q5, sv, jv x3, sv, rv b1244, iv (Int32.ofNat (own_free own_g0 4 (own_s p1))), iv (Int32.ofNat (own_free (own_add own_g0 (own_s p1) q4) 4 (own_s p2))), iv (Int32.ofNat (own_free (own_add (own_add own_g0 (own_s p1) q4) (own_s p2) q5) 4 (own_s p3))), iv (1 : Int32), jv qq, sv, uv, uv] [(.int (1 : Int32))])) (fun _ k => XS.iconst X1265.here hx rfl (hb hby at_310) k) ?_
                    refine Rch.go (U' := T1265.setTop (mkF m 315 #[iv p1, iv p2, iv p3, jv q4, sv, jv q5, sv, iv p6, iv (3 : Int32), jv q4, sv, jv q5, sv, jv x3, sv, rv b1244, iv (Int32.ofNat (own_free own_g0 4 (own_s p1))), iv (Int32.ofNat (own_free (own_add own_g0 (own_s p1) q4) 4 (own_s p2))), iv (Int32.ofNat (own_free (own_add (own_add own_g0 (own_s p1) q4) (own_s p2) q5) 4 (own_s p3))), iv (1 : Int32), jv qq, sv, uv, uv] [(.int (1 : Int32))])) (fun _ k => XS.goto X1265.here hx rfl (pc0 := 311) (pc' := 315) rfl (hb hby at_311) (by decide) (by decide) k) ?_
                    refine Rch.go (U' := T1265.setTop (mkF m 317 #[iv p1, iv p2, iv p3, jv q4, sv, jv q5, sv, iv p6, iv (3 : Int32), jv q4, sv, jv q5, sv, jv x3, sv, rv b1244, iv (Int32.ofNat (own_free own_g0 4 (own_s p1))), iv (Int32.ofNat (own_free (own_add own_g0 (own_s p1) q4) 4 (own_s p2))), iv (Int32.ofNat (own_free (own_add (own_add own_g0 (own_s p1) q4) (own_s p2) q5) 4 (own_s p3))), iv (1 : Int32), jv qq, sv, iv (1 : Int32), uv] [])) (fun _ k => XS.istore X1265.here hx rfl (hb hby at_315) rfl (l' := #[iv p1, iv p2, iv p3, jv q4, sv, jv q5, sv, iv p6, iv (3 : Int32), jv q4, sv, jv q5, sv, jv x3, sv, rv b1244, iv (Int32.ofNat (own_free own_g0 4 (own_s p1))), iv (Int32.ofNat (own_free (own_add own_g0 (own_s p1) q4) 4 (own_s p2))), iv (Int32.ofNat (own_free (own_add (own_add own_g0 (own_s p1) q4) (own_s p2) q5) 4 (own_s p3))), iv (1 : Int32), jv qq, sv, iv (1 : Int32), uv]) rfl k) ?_
                    refine Rch.go (U' := T1265.setTop (mkF m 319 #[iv p1, iv p2, iv p3, jv q4, sv, jv q5, sv, iv p6, iv (3 : Int32), jv q4, sv, jv q5, sv, jv x3, sv, rv b1244, iv (Int32.ofNat (own_free own_g0 4 (own_s p1))), iv (Int32.ofNat (own_free (own_add own_g0 (own_s p1) q4) 4 (own_s p2))), iv (Int32.ofNat (own_free (own_add (own_add own_g0 (own_s p1) q4) (own_s p2) q5) 4 (own_s p3))), iv (1 : Int32), jv qq, sv, iv (1 : Int32), uv] [(.int (1 : Int32))])) (fun _ k => XS.iload X1265.here hx rfl (hb hby at_317) rfl  k) ?_
                    have br1275 : ¬ ((1 : Int32) = (0 : Int32)) := (by decide)
                    refine Rch.go (U' := T1265.setTop (mkF m 355 #[iv p1, iv p2, iv p3, jv q4, sv, jv q5, sv, iv p6, iv (3 : Int32), jv q4, sv, jv q5, sv, jv x3, sv, rv b1244, iv (Int32.ofNat (own_free own_g0 4 (own_s p1))), iv (Int32.ofNat (own_free (own_add own_g0 (own_s p1) q4) 4 (own_s p2))), iv (Int32.ofNat (own_free (own_add (own_add own_g0 (own_s p1) q4) (own_s p2) q5) 4 (own_s p3))), iv (1 : Int32), jv qq, sv, iv (1 : Int32), uv] [])) (fun _ k => XS.ifYes X1265.here hx rfl (pc0 := 319) (pc' := 355) rfl (hb hby at_319) rfl (XT.i0_ne_t br1275) (by decide) (by decide) k) ?_
                    refine Rch.go (U' := T1265.setTop (mkF m 357 #[iv p1, iv p2, iv p3, jv q4, sv, jv q5, sv, iv p6, iv (3 : Int32), jv q4, sv, jv q5, sv, jv x3, sv, rv b1244, iv (Int32.ofNat (own_free own_g0 4 (own_s p1))), iv (Int32.ofNat (own_free (own_add own_g0 (own_s p1) q4) 4 (own_s p2))), iv (Int32.ofNat (own_free (own_add (own_add own_g0 (own_s p1) q4) (own_s p2) q5) 4 (own_s p3))), iv (1 : Int32), jv qq, sv, iv (1 : Int32), uv] [(.int (1 : Int32))])) (fun _ k => XS.iload X1265.here hx rfl (hb hby at_355) rfl  k) ?_
                    refine Rch.fin X1265 hlk (v := some (.int (nar .boolean (1 : Int32)))) (fun h => by rw [hret] at h; cases h) e1265 (by decide) (by decide) (fun fs hr => retN X1265 hx (t := .boolean) hret (by simp) (hb hby at_357) hr) ?_
                    exact ⟨rfl, N1265⟩
                  ·
                    refine Rch.go (U' := T1265.setTop (mkF m 314 #[iv p1, iv p2, iv p3, jv q4, sv, jv q5, sv, iv p6, iv (3 : Int32), jv q4, sv, jv q5, sv, jv x3, sv, rv b1244, iv (Int32.ofNat (own_free own_g0 4 (own_s p1))), iv (Int32.ofNat (own_free (own_add own_g0 (own_s p1) q4) 4 (own_s p2))), iv (Int32.ofNat (own_free (own_add (own_add own_g0 (own_s p1) q4) (own_s p2) q5) 4 (own_s p3))), iv (1 : Int32), jv qq, sv, uv, uv] [])) (fun _ k => XS.ifYes X1265.here hx rfl (pc0 := 307) (pc' := 314) rfl (hb hby at_307) rfl (XT.ll_ne_t br1274) (by decide) (by decide) k) ?_
                    refine Rch.go (U' := T1265.setTop (mkF m 315 #[iv p1, iv p2, iv p3, jv q4, sv, jv q5, sv, iv p6, iv (3 : Int32), jv q4, sv, jv q5, sv, jv x3, sv, rv b1244, iv (Int32.ofNat (own_free own_g0 4 (own_s p1))), iv (Int32.ofNat (own_free (own_add own_g0 (own_s p1) q4) 4 (own_s p2))), iv (Int32.ofNat (own_free (own_add (own_add own_g0 (own_s p1) q4) (own_s p2) q5) 4 (own_s p3))), iv (1 : Int32), jv qq, sv, uv, uv] [(.int (0 : Int32))])) (fun _ k => XS.iconst X1265.here hx rfl (hb hby at_314) k) ?_
                    refine Rch.go (U' := T1265.setTop (mkF m 317 #[iv p1, iv p2, iv p3, jv q4, sv, jv q5, sv, iv p6, iv (3 : Int32), jv q4, sv, jv q5, sv, jv x3, sv, rv b1244, iv (Int32.ofNat (own_free own_g0 4 (own_s p1))), iv (Int32.ofNat (own_free (own_add own_g0 (own_s p1) q4) 4 (own_s p2))), iv (Int32.ofNat (own_free (own_add (own_add own_g0 (own_s p1) q4) (own_s p2) q5) 4 (own_s p3))), iv (1 : Int32), jv qq, sv, iv (0 : Int32), uv] [])) (fun _ k => XS.istore X1265.here hx rfl (hb hby at_315) rfl (l' := #[iv p1, iv p2, iv p3, jv q4, sv, jv q5, sv, iv p6, iv (3 : Int32), jv q4, sv, jv q5, sv, jv x3, sv, rv b1244, iv (Int32.ofNat (own_free own_g0 4 (own_s p1))), iv (Int32.ofNat (own_free (own_add own_g0 (own_s p1) q4) 4 (own_s p2))), iv (Int32.ofNat (own_free (own_add (own_add own_g0 (own_s p1) q4) (own_s p2) q5) 4 (own_s p3))), iv (1 : Int32), jv qq, sv, iv (0 : Int32), uv]) rfl k) ?_
                    refine Rch.go (U' := T1265.setTop (mkF m 319 #[iv p1, iv p2, iv p3, jv q4, sv, jv q5, sv, iv p6, iv (3 : Int32), jv q4, sv, jv q5, sv, jv x3, sv, rv b1244, iv (Int32.ofNat (own_free own_g0 4 (own_s p1))), iv (Int32.ofNat (own_free (own_add own_g0 (own_s p1) q4) 4 (own_s p2))), iv (Int32.ofNat (own_free (own_add (own_add own_g0 (own_s p1) q4) (own_s p2) q5) 4 (own_s p3))), iv (1 : Int32), jv qq, sv, iv (0 : Int32), uv] [(.int (0 : Int32))])) (fun _ k => XS.iload X1265.here hx rfl (hb hby at_317) rfl  k) ?_
                    have br1276 : (0 : Int32) = (0 : Int32) := (by decide)
                    refine Rch.go (U' := T1265.setTop (mkF m 322 #[iv p1, iv p2, iv p3, jv q4, sv, jv q5, sv, iv p6, iv (3 : Int32), jv q4, sv, jv q5, sv, jv x3, sv, rv b1244, iv (Int32.ofNat (own_free own_g0 4 (own_s p1))), iv (Int32.ofNat (own_free (own_add own_g0 (own_s p1) q4) 4 (own_s p2))), iv (Int32.ofNat (own_free (own_add (own_add own_g0 (own_s p1) q4) (own_s p2) q5) 4 (own_s p3))), iv (1 : Int32), jv qq, sv, iv (0 : Int32), uv] [])) (fun _ k => XS.ifNo X1265.here hx rfl (hb hby at_319) rfl (XT.i0_ne_f br1276) k) ?_
                    refine Rch.go (U' := T1265.setTop (mkF m 324 #[iv p1, iv p2, iv p3, jv q4, sv, jv q5, sv, iv p6, iv (3 : Int32), jv q4, sv, jv q5, sv, jv x3, sv, rv b1244, iv (Int32.ofNat (own_free own_g0 4 (own_s p1))), iv (Int32.ofNat (own_free (own_add own_g0 (own_s p1) q4) 4 (own_s p2))), iv (Int32.ofNat (own_free (own_add (own_add own_g0 (own_s p1) q4) (own_s p2) q5) 4 (own_s p3))), iv (1 : Int32), jv qq, sv, iv (0 : Int32), uv] [(.int p6)])) (fun _ k => XS.iload X1265.here hx rfl (hb hby at_322) rfl  k) ?_
                    refine Rch.go (U' := T1265.setTop (mkF m 325 #[iv p1, iv p2, iv p3, jv q4, sv, jv q5, sv, iv p6, iv (3 : Int32), jv q4, sv, jv q5, sv, jv x3, sv, rv b1244, iv (Int32.ofNat (own_free own_g0 4 (own_s p1))), iv (Int32.ofNat (own_free (own_add own_g0 (own_s p1) q4) 4 (own_s p2))), iv (Int32.ofNat (own_free (own_add (own_add own_g0 (own_s p1) q4) (own_s p2) q5) 4 (own_s p3))), iv (1 : Int32), jv qq, sv, iv (0 : Int32), uv] [(.int (2 : Int32)), (.int p6)])) (fun _ k => XS.iconst X1265.here hx rfl (hb hby at_324) k) ?_
                    refine Rch.go (U' := T1265.setTop (mkF m 326 #[iv p1, iv p2, iv p3, jv q4, sv, jv q5, sv, iv p6, iv (3 : Int32), jv q4, sv, jv q5, sv, jv x3, sv, rv b1244, iv (Int32.ofNat (own_free own_g0 4 (own_s p1))), iv (Int32.ofNat (own_free (own_add own_g0 (own_s p1) q4) 4 (own_s p2))), iv (Int32.ofNat (own_free (own_add (own_add own_g0 (own_s p1) q4) (own_s p2) q5) 4 (own_s p3))), iv (1 : Int32), jv qq, sv, iv (0 : Int32), uv] [(.int (p6 >>> ((2 : Int32) &&& 31)))])) (fun _ k => XS.ishr X1265.here hx rfl (hb hby at_325) rfl k) ?_
                    refine Rch.go (U' := T1265.setTop (mkF m 327 #[iv p1, iv p2, iv p3, jv q4, sv, jv q5, sv, iv p6, iv (3 : Int32), jv q4, sv, jv q5, sv, jv x3, sv, rv b1244, iv (Int32.ofNat (own_free own_g0 4 (own_s p1))), iv (Int32.ofNat (own_free (own_add own_g0 (own_s p1) q4) 4 (own_s p2))), iv (Int32.ofNat (own_free (own_add (own_add own_g0 (own_s p1) q4) (own_s p2) q5) 4 (own_s p3))), iv (1 : Int32), jv qq, sv, iv (0 : Int32), uv] [(.int p3), (.int (p6 >>> ((2 : Int32) &&& 31)))])) (fun _ k => XS.iloadN X1265.here hx rfl (hb hby at_326) rfl  k) ?_
                    refine Rch.go (U' := T1265.setTop (mkF m 328 #[iv p1, iv p2, iv p3, jv q4, sv, jv q5, sv, iv p6, iv (3 : Int32), jv q4, sv, jv q5, sv, jv x3, sv, rv b1244, iv (Int32.ofNat (own_free own_g0 4 (own_s p1))), iv (Int32.ofNat (own_free (own_add own_g0 (own_s p1) q4) 4 (own_s p2))), iv (Int32.ofNat (own_free (own_add (own_add own_g0 (own_s p1) q4) (own_s p2) q5) 4 (own_s p3))), iv (1 : Int32), jv qq, sv, iv (0 : Int32), uv] [(.int ((p6 >>> ((2 : Int32) &&& 31)) ^^^ p3))])) (fun _ k => XS.ixor X1265.here hx rfl (hb hby at_327) rfl k) ?_
                    generalize hqh : ((p6 >>> ((2 : Int32) &&& 31)) ^^^ p3) = qh
                    refine Rch.go (U' := T1265.setTop (mkF m 330 #[iv p1, iv p2, iv p3, jv q4, sv, jv q5, sv, iv p6, iv (3 : Int32), jv q4, sv, jv q5, sv, jv x3, sv, rv b1244, iv (Int32.ofNat (own_free own_g0 4 (own_s p1))), iv (Int32.ofNat (own_free (own_add own_g0 (own_s p1) q4) 4 (own_s p2))), iv (Int32.ofNat (own_free (own_add (own_add own_g0 (own_s p1) q4) (own_s p2) q5) 4 (own_s p3))), iv (1 : Int32), jv qq, sv, iv (0 : Int32), iv qh] [])) (fun _ k => XS.istore X1265.here hx rfl (hb hby at_328) rfl (l' := #[iv p1, iv p2, iv p3, jv q4, sv, jv q5, sv, iv p6, iv (3 : Int32), jv q4, sv, jv q5, sv, jv x3, sv, rv b1244, iv (Int32.ofNat (own_free own_g0 4 (own_s p1))), iv (Int32.ofNat (own_free (own_add own_g0 (own_s p1) q4) 4 (own_s p2))), iv (Int32.ofNat (own_free (own_add (own_add own_g0 (own_s p1) q4) (own_s p2) q5) 4 (own_s p3))), iv (1 : Int32), jv qq, sv, iv (0 : Int32), iv qh]) rfl k) ?_
                    refine Rch.go (U' := T1265.setTop (mkF m 332 #[iv p1, iv p2, iv p3, jv q4, sv, jv q5, sv, iv p6, iv (3 : Int32), jv q4, sv, jv q5, sv, jv x3, sv, rv b1244, iv (Int32.ofNat (own_free own_g0 4 (own_s p1))), iv (Int32.ofNat (own_free (own_add own_g0 (own_s p1) q4) 4 (own_s p2))), iv (Int32.ofNat (own_free (own_add (own_add own_g0 (own_s p1) q4) (own_s p2) q5) 4 (own_s p3))), iv (1 : Int32), jv qq, sv, iv (0 : Int32), iv qh] [(.int (1 : Int32))])) (fun _ k => XS.iload X1265.here hx rfl (hb hby at_330) rfl  k) ?_
                    have br1277 : ¬ ((1 : Int32) = (0 : Int32)) := (by decide)
                    refine Rch.go (U' := T1265.setTop (mkF m 335 #[iv p1, iv p2, iv p3, jv q4, sv, jv q5, sv, iv p6, iv (3 : Int32), jv q4, sv, jv q5, sv, jv x3, sv, rv b1244, iv (Int32.ofNat (own_free own_g0 4 (own_s p1))), iv (Int32.ofNat (own_free (own_add own_g0 (own_s p1) q4) 4 (own_s p2))), iv (Int32.ofNat (own_free (own_add (own_add own_g0 (own_s p1) q4) (own_s p2) q5) 4 (own_s p3))), iv (1 : Int32), jv qq, sv, iv (0 : Int32), iv qh] [])) (fun _ k => XS.ifNo X1265.here hx rfl (hb hby at_332) rfl (XT.i0_eq_f br1277) k) ?_
                    refine Rch.go (U' := T1265.setTop (mkF m 337 #[iv p1, iv p2, iv p3, jv q4, sv, jv q5, sv, iv p6, iv (3 : Int32), jv q4, sv, jv q5, sv, jv x3, sv, rv b1244, iv (Int32.ofNat (own_free own_g0 4 (own_s p1))), iv (Int32.ofNat (own_free (own_add own_g0 (own_s p1) q4) 4 (own_s p2))), iv (Int32.ofNat (own_free (own_add (own_add own_g0 (own_s p1) q4) (own_s p2) q5) 4 (own_s p3))), iv (1 : Int32), jv qq, sv, iv (0 : Int32), iv qh] [(.ref b1244)])) (fun _ k => XS.aload X1265.here hx rfl (hb hby at_335) rfl rfl k) ?_
                    refine Rch.go (U' := T1265.setTop (mkF m 339 #[iv p1, iv p2, iv p3, jv q4, sv, jv q5, sv, iv p6, iv (3 : Int32), jv q4, sv, jv q5, sv, jv x3, sv, rv b1244, iv (Int32.ofNat (own_free own_g0 4 (own_s p1))), iv (Int32.ofNat (own_free (own_add own_g0 (own_s p1) q4) 4 (own_s p2))), iv (Int32.ofNat (own_free (own_add (own_add own_g0 (own_s p1) q4) (own_s p2) q5) 4 (own_s p3))), iv (1 : Int32), jv qq, sv, iv (0 : Int32), iv qh] [(.int qh), (.ref b1244)])) (fun _ k => XS.iload X1265.here hx rfl (hb hby at_337) rfl  k) ?_
                    refine Rch.go (U' := T1265.setTop (mkF m 341 #[iv p1, iv p2, iv p3, jv q4, sv, jv q5, sv, iv p6, iv (3 : Int32), jv q4, sv, jv q5, sv, jv x3, sv, rv b1244, iv (Int32.ofNat (own_free own_g0 4 (own_s p1))), iv (Int32.ofNat (own_free (own_add own_g0 (own_s p1) q4) 4 (own_s p2))), iv (Int32.ofNat (own_free (own_add (own_add own_g0 (own_s p1) q4) (own_s p2) q5) 4 (own_s p3))), iv (1 : Int32), jv qq, sv, iv (0 : Int32), iv qh] [(.long qq), (.int qh), (.ref b1244)])) (fun _ k => XS.lload X1265.here hx rfl (hb hby at_339) rfl  k) ?_
                    obtain ⟨cq1278, kq1278, q1278a, q1278b, q1278c⟩ := isOf hZ e1265 B1254.1
                    obtain ⟨_, _, ⟨T1278, L1278, k1278, n1278⟩, -, X1278, ⟨Lc1278, hQ1278, l1278, y1278, z1278⟩, st1278⟩ := X1265.virtualBack hx (y := yF) (z := yF) hown (mvT hZ (wi hw 60 rfl)) (mvT hZ (wi hw 61 rfl)) (notFace_of_selects (args := #[]) (mvT hZ (wi hw 63 rfl))) (mvT hZ (wi hw 63 rfl)) (mvT hZ (wi hw 62 rfl)) (by decide) (backOf (W := 0) (rmF l Z a0 hw [] b1244 bh ba bl kh ka kl ((((0 : Int32) + (1 : Int32)) + (1 : Int32)) + (1 : Int32)) (own_add (own_add (own_add own_g0 (own_s p1) q4) (own_s p2) q5) (own_s p3) x3) va1254 vl1254 qh qq T1254.heap n0 z1254 B1254 (own_hz3 _ _ _ _ _ _) (by decide)) hZ (wi hw 64 rfl) (wi hw 2 rfl) (by decide) (by decide)) q1278a q1278c (g := (mkF m 341 #[iv p1, iv p2, iv p3, jv q4, sv, jv q5, sv, iv p6, iv (3 : Int32), jv q4, sv, jv q5, sv, jv x3, sv, rv b1244, iv (Int32.ofNat (own_free own_g0 4 (own_s p1))), iv (Int32.ofNat (own_free (own_add own_g0 (own_s p1) q4) 4 (own_s p2))), iv (Int32.ofNat (own_free (own_add (own_add own_g0 (own_s p1) q4) (own_s p2) q5) 4 (own_s p3))), iv (1 : Int32), jv qq, sv, iv (0 : Int32), iv qh] [(.long qq), (.int qh), (.ref b1244)])) rfl (by rw [hml]; rfl) (Steps.refl _) (argsL := [(.int qh), (.long qq)]) (rest := []) (lenOf pd_15 rfl) rfl (by show 2 * 0 + _ ≤ _; exact Nat.le_of_eq rfl) (hb hby at_341) (fun _ _ => ⟨rfl, e1265, (by decide : 10 + 0 ≤ _), (by decide : 48 + 0 ≤ _)⟩)
                    dsimp only [Pt.U, Pt.locs, Pt.cells, Pt.slots] at X1278 l1278 y1278 z1278 st1278 hQ1278
                    subst l1278 y1278 z1278
                    obtain ⟨rfl, N1278q, e1278⟩ := hQ1278
                    have N1278 := Fr.app N1265 N1278q
                    refine Rch.to (U' := T1278.setTop (mkF m 344 #[iv p1, iv p2, iv p3, jv q4, sv, jv q5, sv, iv p6, iv (3 : Int32), jv q4, sv, jv q5, sv, jv x3, sv, rv b1244, iv (Int32.ofNat (own_free own_g0 4 (own_s p1))), iv (Int32.ofNat (own_free (own_add own_g0 (own_s p1) q4) 4 (own_s p2))), iv (Int32.ofNat (own_free (own_add (own_add own_g0 (own_s p1) q4) (own_s p2) q5) 4 (own_s p3))), iv (1 : Int32), jv qq, sv, iv (0 : Int32), iv qh] [(.int (own_find (own_add (own_add (own_add own_g0 (own_s p1) q4) (own_s p2) q5) (own_s p3) x3) qq 4 (own_s qh)))])) st1278 ?_
                    refine Rch.go (U' := T1278.setTop (mkF m 345 #[iv p1, iv p2, iv p3, jv q4, sv, jv q5, sv, iv p6, iv (3 : Int32), jv q4, sv, jv q5, sv, jv x3, sv, rv b1244, iv (Int32.ofNat (own_free own_g0 4 (own_s p1))), iv (Int32.ofNat (own_free (own_add own_g0 (own_s p1) q4) 4 (own_s p2))), iv (Int32.ofNat (own_free (own_add (own_add own_g0 (own_s p1) q4) (own_s p2) q5) 4 (own_s p3))), iv (1 : Int32), jv qq, sv, iv (0 : Int32), iv qh] [(.int (-1 : Int32)), (.int (own_find (own_add (own_add (own_add own_g0 (own_s p1) q4) (own_s p2) q5) (own_s p3) x3) qq 4 (own_s qh)))])) (fun _ k => XS.iconst X1278.here hx rfl (hb hby at_344) k) ?_
                    have br1279 : (own_find (own_add (own_add (own_add own_g0 (own_s p1) q4) (own_s p2) q5) (own_s p3) x3) qq 4 (own_s qh)) = (-1 : Int32) := own_none3 br1268 br1271 br1274
                    refine Rch.go (U' := T1278.setTop (mkF m 348 #[iv p1, iv p2, iv p3, jv q4, sv, jv q5, sv, iv p6, iv (3 : Int32), jv q4, sv, jv q5, sv, jv x3, sv, rv b1244, iv (Int32.ofNat (own_free own_g0 4 (own_s p1))), iv (Int32.ofNat (own_free (own_add own_g0 (own_s p1) q4) 4 (own_s p2))), iv (Int32.ofNat (own_free (own_add (own_add own_g0 (own_s p1) q4) (own_s p2) q5) 4 (own_s p3))), iv (1 : Int32), jv qq, sv, iv (0 : Int32), iv qh] [])) (fun _ k => XS.icmpNo X1278.here hx rfl (hb hby at_345) rfl (XT.ii_ne_f br1279) k) ?_
                    refine Rch.go (U' := T1278.setTop (mkF m 349 #[iv p1, iv p2, iv p3, jv q4, sv, jv q5, sv, iv p6, iv (3 : Int32), jv q4, sv, jv q5, sv, jv x3, sv, rv b1244, iv (Int32.ofNat (own_free own_g0 4 (own_s p1))), iv (Int32.ofNat (own_free (own_add own_g0 (own_s p1) q4) 4 (own_s p2))), iv (Int32.ofNat (own_free (own_add (own_add own_g0 (own_s p1) q4) (own_s p2) q5) 4 (own_s p3))), iv (1 : Int32), jv qq, sv, iv (0 : Int32), iv qh] [(.int (1 : Int32))])) (fun _ k => XS.iconst X1278.here hx rfl (hb hby at_348) k) ?_
                    refine Rch.go (U' := T1278.setTop (mkF m 353 #[iv p1, iv p2, iv p3, jv q4, sv, jv q5, sv, iv p6, iv (3 : Int32), jv q4, sv, jv q5, sv, jv x3, sv, rv b1244, iv (Int32.ofNat (own_free own_g0 4 (own_s p1))), iv (Int32.ofNat (own_free (own_add own_g0 (own_s p1) q4) 4 (own_s p2))), iv (Int32.ofNat (own_free (own_add (own_add own_g0 (own_s p1) q4) (own_s p2) q5) 4 (own_s p3))), iv (1 : Int32), jv qq, sv, iv (0 : Int32), iv qh] [(.int (1 : Int32))])) (fun _ k => XS.goto X1278.here hx rfl (pc0 := 349) (pc' := 353) rfl (hb hby at_349) (by decide) (by decide) k) ?_
                    refine Rch.go (U' := T1278.setTop (mkF m 355 #[iv p1, iv p2, iv p3, jv q4, sv, jv q5, sv, iv p6, iv (3 : Int32), jv q4, sv, jv q5, sv, jv x3, sv, rv b1244, iv (Int32.ofNat (own_free own_g0 4 (own_s p1))), iv (Int32.ofNat (own_free (own_add own_g0 (own_s p1) q4) 4 (own_s p2))), iv (Int32.ofNat (own_free (own_add (own_add own_g0 (own_s p1) q4) (own_s p2) q5) 4 (own_s p3))), iv (1 : Int32), jv qq, sv, iv (0 : Int32), iv qh] [])) (fun _ k => XS.istore X1278.here hx rfl (hb hby at_353) rfl (l' := #[iv p1, iv p2, iv p3, jv q4, sv, jv q5, sv, iv p6, iv (3 : Int32), jv q4, sv, jv q5, sv, jv x3, sv, rv b1244, iv (Int32.ofNat (own_free own_g0 4 (own_s p1))), iv (Int32.ofNat (own_free (own_add own_g0 (own_s p1) q4) 4 (own_s p2))), iv (Int32.ofNat (own_free (own_add (own_add own_g0 (own_s p1) q4) (own_s p2) q5) 4 (own_s p3))), iv (1 : Int32), jv qq, sv, iv (0 : Int32), iv qh]) rfl k) ?_
                    refine Rch.go (U' := T1278.setTop (mkF m 357 #[iv p1, iv p2, iv p3, jv q4, sv, jv q5, sv, iv p6, iv (3 : Int32), jv q4, sv, jv q5, sv, jv x3, sv, rv b1244, iv (Int32.ofNat (own_free own_g0 4 (own_s p1))), iv (Int32.ofNat (own_free (own_add own_g0 (own_s p1) q4) 4 (own_s p2))), iv (Int32.ofNat (own_free (own_add (own_add own_g0 (own_s p1) q4) (own_s p2) q5) 4 (own_s p3))), iv (1 : Int32), jv qq, sv, iv (0 : Int32), iv qh] [(.int (1 : Int32))])) (fun _ k => XS.iload X1278.here hx rfl (hb hby at_355) rfl  k) ?_
                    refine Rch.fin X1278 hlk (v := some (.int (nar .boolean (1 : Int32)))) (fun h => by rw [hret] at h; cases h) e1278 (by decide) (by decide) (fun fs hr => retN X1278 hx (t := .boolean) hret (by simp) (hb hby at_357) hr) ?_
                    exact ⟨rfl, N1278⟩
theorem pn_com_example_slotwise_slotwise_keyspace_SlotTableFindRecordPinLaw : plainName cLW = true := by first | (simp [plainName, overriddenIn]; done) | decide +kernel
theorem ef_rm0 (m : MethodId) (p1 : Int32) (p2 : Int32) (p3 : Int32) (q4 : Int64) (q5 : Int64) (p6 : Int32) : entryFrame m #[(.int p1), (.int p2), (.int p3), (.long q4), (.long q5), (.int p6)] maxLocals = mkF m 0 #[iv p1, iv p2, iv p3, jv q4, sv, jv q5, sv, iv p6, uv, uv, uv, uv, uv, uv, uv, uv, uv, uv, uv, uv, uv, uv, uv, uv] [] := by first | (simp [entryFrame, mkF, argsToLocals, Value.category, maxLocals]; done) | rfl
def Q_rm0 (Z : State) (p1 : Int32) (p2 : Int32) (p3 : Int32) (q4 : Int64) (q5 : Int64) (p6 : Int32) (h0 : Heap) (n0 : Nat) (v : Option Value) (h : Heap) (L : List Loc) : Prop := v = some (.int 1) ∧ Fr n0 L
set_option maxRecDepth 65536 in
set_option maxHeartbeats 40000000 in
theorem rm0 (l : Launch) (Z : State) (a0 : Array Value) (hw : ∀ d ∈ tables_1, d.before a0 Z = true) (ws : List Jvm.Cond) (p1 : Int32) (p2 : Int32) (p3 : Int32) (q4 : Int64) (q5 : Int64) (p6 : Int32) (h0 : Heap) (n0 : Nat) (Z0 : n0 ≤ h0.size)  :
    MetFree l x (head1 (Jvm.Cond.code x code maxLocals ret :: ws) room_1) (fun a U => a = #[(.int p1), (.int p2), (.int p3), (.long q4), (.long q5), (.int p6)] ∧ Z.Warmed39 U.vm ∧ U.heap = h0) (fun _ _ _ _ _ => True) (fun _ U o U' => ∃ v L, o = .returned v ∧ Q_rm0 Z p1 p2 p3 q4 q5 p6 h0 n0 v U'.heap L ∧ FrameEnd U o U' L 16 128) := by
  refine MetFree.of_bodySF (plainFor_of_name pn_com_example_slotwise_slotwise_keyspace_SlotTableFindRecordPinLaw) hisR ?_
  intro p e s m args below meth c s₁ Bd hml0 hP hK
  obtain ⟨rfl, hZ, hh⟩ := hP
  have hx := Bd.exec
  have hby := Bd.bytes
  have hml : c.maxLocals = 24 := hml0
  have hown : s.vm.findClass cLW = some m.cls := findClass_of_methodNamed Bd.named
  have hnm := (name_of_methodNamed Bd.named Bd.method).1
  have hret := Bd.returns
  have hlk : meth.locks = false := BodyLoose.notSynchronized Bd
  have X0 : Stand p l e room_1 s m #[(.int p1), (.int p2), (.int p3), (.long q4), (.long q5), (.int p6)] below meth c s₁ [] 0 0 := Stand.of_body Bd
  have e0 : s₁.heap = h0 := by rw [← hh, Bd.state]; rfl
  have N0 := Fr.nil n0
  refine Rch.body (Q := Q_rm0 Z p1 p2 p3 q4 q5 p6 h0 n0) (U' := s₁.setTop (mkF m 0 #[iv p1, iv p2, iv p3, jv q4, sv, jv q5, sv, iv p6, uv, uv, uv, uv, uv, uv, uv, uv, uv, uv, uv, uv, uv, uv, uv, uv] [])) (fun t k => castTop (ef_rm0 m p1 p2 p3 q4 q5 p6) k) ?_
  refine Rch.go (U' := s₁.setTop (mkF m 2 #[iv p1, iv p2, iv p3, jv q4, sv, jv q5, sv, iv p6, uv, uv, uv, uv, uv, uv, uv, uv, uv, uv, uv, uv, uv, uv, uv, uv] [(.int p6)])) (fun _ k => XS.iload X0.here hx rfl (hb hby at_0) rfl  k) ?_
  refine Rch.go (U' := s₁.setTop (mkF m 3 #[iv p1, iv p2, iv p3, jv q4, sv, jv q5, sv, iv p6, uv, uv, uv, uv, uv, uv, uv, uv, uv, uv, uv, uv, uv, uv, uv, uv] [(.int (3 : Int32)), (.int p6)])) (fun _ k => XS.iconst X0.here hx rfl (hb hby at_2) k) ?_
  refine Rch.go (U' := s₁.setTop (mkF m 4 #[iv p1, iv p2, iv p3, jv q4, sv, jv q5, sv, iv p6, uv, uv, uv, uv, uv, uv, uv, uv, uv, uv, uv, uv, uv, uv, uv, uv] [(.int (p6 &&& (3 : Int32)))])) (fun _ k => XS.iand X0.here hx rfl (hb hby at_3) rfl k) ?_
  generalize hnn : (p6 &&& (3 : Int32)) = nn
  refine Rch.go (U' := s₁.setTop (mkF m 6 #[iv p1, iv p2, iv p3, jv q4, sv, jv q5, sv, iv p6, iv nn, uv, uv, uv, uv, uv, uv, uv, uv, uv, uv, uv, uv, uv, uv, uv] [])) (fun _ k => XS.istore X0.here hx rfl (hb hby at_4) rfl (l' := #[iv p1, iv p2, iv p3, jv q4, sv, jv q5, sv, iv p6, iv nn, uv, uv, uv, uv, uv, uv, uv, uv, uv, uv, uv, uv, uv, uv, uv]) rfl k) ?_
  refine Rch.go (U' := s₁.setTop (mkF m 7 #[iv p1, iv p2, iv p3, jv q4, sv, jv q5, sv, iv p6, iv nn, uv, uv, uv, uv, uv, uv, uv, uv, uv, uv, uv, uv, uv, uv, uv] [(.long q4)])) (fun _ k => XS.lloadN X0.here hx rfl (hb hby at_6) rfl  k) ?_
  refine Rch.go (U' := s₁.setTop (mkF m 9 #[iv p1, iv p2, iv p3, jv q4, sv, jv q5, sv, iv p6, iv nn, jv q4, sv, uv, uv, uv, uv, uv, uv, uv, uv, uv, uv, uv, uv, uv] [])) (fun _ k => XS.lstore X0.here hx rfl (hb hby at_7) rfl (l' := #[iv p1, iv p2, iv p3, jv q4, sv, jv q5, sv, iv p6, iv nn, jv q4, sv, uv, uv, uv, uv, uv, uv, uv, uv, uv, uv, uv, uv, uv]) rfl k) ?_
  refine Rch.go (U' := s₁.setTop (mkF m 11 #[iv p1, iv p2, iv p3, jv q4, sv, jv q5, sv, iv p6, iv nn, jv q4, sv, uv, uv, uv, uv, uv, uv, uv, uv, uv, uv, uv, uv, uv] [(.long q5)])) (fun _ k => XS.lload X0.here hx rfl (hb hby at_9) rfl  k) ?_
  refine Rch.go (U' := s₁.setTop (mkF m 13 #[iv p1, iv p2, iv p3, jv q4, sv, jv q5, sv, iv p6, iv nn, jv q4, sv, jv q5, sv, uv, uv, uv, uv, uv, uv, uv, uv, uv, uv, uv] [])) (fun _ k => XS.lstore X0.here hx rfl (hb hby at_11) rfl (l' := #[iv p1, iv p2, iv p3, jv q4, sv, jv q5, sv, iv p6, iv nn, jv q4, sv, jv q5, sv, uv, uv, uv, uv, uv, uv, uv, uv, uv, uv, uv]) rfl k) ?_
  refine Rch.go (U' := s₁.setTop (mkF m 14 #[iv p1, iv p2, iv p3, jv q4, sv, jv q5, sv, iv p6, iv nn, jv q4, sv, jv q5, sv, uv, uv, uv, uv, uv, uv, uv, uv, uv, uv, uv] [(.long q4)])) (fun _ k => XS.lloadN X0.here hx rfl (hb hby at_13) rfl  k) ?_
  refine Rch.go (U' := s₁.setTop (mkF m 16 #[iv p1, iv p2, iv p3, jv q4, sv, jv q5, sv, iv p6, iv nn, jv q4, sv, jv q5, sv, uv, uv, uv, uv, uv, uv, uv, uv, uv, uv, uv] [(.long q5), (.long q4)])) (fun _ k => XS.lload X0.here hx rfl (hb hby at_14) rfl  k) ?_
  refine Rch.go (U' := s₁.setTop (mkF m 17 #[iv p1, iv p2, iv p3, jv q4, sv, jv q5, sv, iv p6, iv nn, jv q4, sv, jv q5, sv, uv, uv, uv, uv, uv, uv, uv, uv, uv, uv, uv] [(.long (q4 + q5))])) (fun _ k => XS.ladd X0.here hx rfl (hb hby at_16) rfl k) ?_
  refine Rch.go (U' := s₁.setTop (mkF m 19 #[iv p1, iv p2, iv p3, jv q4, sv, jv q5, sv, iv p6, iv nn, jv q4, sv, jv q5, sv, jv (q4 + q5), sv, uv, uv, uv, uv, uv, uv, uv, uv, uv] [])) (fun _ k => XS.lstore X0.here hx rfl (hb hby at_17) rfl (l' := #[iv p1, iv p2, iv p3, jv q4, sv, jv q5, sv, iv p6, iv nn, jv q4, sv, jv q5, sv, jv (q4 + q5), sv, uv, uv, uv, uv, uv, uv, uv, uv, uv]) rfl k) ?_
  rcases own_n4 p6 with q | q | q | q <;> rw [hnn] at q <;> subst q
  · exact cut19_0 p1 p2 p3 q4 q5 p6 (q4 + q5) X0 hx hZ hw hby hml hown hret hlk e0 N0 Z0
  · exact cut19_1 p1 p2 p3 q4 q5 p6 (q4 + q5) X0 hx hZ hw hby hml hown hret hlk e0 N0 Z0
  · exact cut19_2 p1 p2 p3 q4 q5 p6 (q4 + q5) X0 hx hZ hw hby hml hown hret hlk e0 N0 Z0
  · exact cut19_3 p1 p2 p3 q4 q5 p6 (q4 + q5) X0 hx hZ hw hby hml hown hret hlk e0 N0 Z0
set_option maxRecDepth 65536 in
set_option maxHeartbeats 40000000 in
theorem comes_1 {Post : Tables → Env → Array Value → State → Outcome → State → Prop} (hpost : ∀ tb e args s v u, (limb_1_1.after args s (.returned v) u = true ∧ limb_1_2.after args s (.returned v) u = true ∧ True) → FrameEnd s (.returned v) u (Jvm.fieldLocs frame_1_writes args s ++ Jvm.arrayLocs frame_1_arrays args s ++ Jvm.staticLocs frame_1_statics s) 16 128 → Post tb e args s (.returned v) u) :
    ArmFor flags0 classFile x code maxLocals ret World_1 tables_1 room_1 Calls_1 rest_1 Pre_1 Post := by
  intro l hfl _ _ p e ha hc hk s m args below hf hA hF happ hP
  obtain ⟨hcalls, hrest, hpre⟩ := hP
  obtain ⟨-, -, -, hnamed, -, -, -, hat⟩ := (Spec.applies_iff hf).mp happ
  obtain ⟨hg, hn⟩ := and_e (Cond.before_iff.mp (show (Jvm.Cond.and given_1 narrow_1).before args s = true from hpre))
  obtain ⟨hcount, hg0⟩ := and_e hg
  obtain ⟨ga0, hg1⟩ := and_e hg0
  obtain ⟨ga1, hg2⟩ := and_e hg1
  obtain ⟨ga2, hg3⟩ := and_e hg2
  obtain ⟨ga3, hg4⟩ := and_e hg3
  obtain ⟨ga4, hg5⟩ := and_e hg4
  obtain ⟨w0, w1, w2, w3, w4, w5, rfl⟩ : ∃ w0 w1 w2 w3 w4 w5 : Value, args = #[w0, w1, w2, w3, w4, w5] := by
    have hs : args.size = 6 := by simpa [Cond.value, given_1] using hcount
    obtain ⟨L⟩ := args
    match L, hs with
    | [w0, w1, w2, w3, w4, w5], _ => exact ⟨w0, w1, w2, w3, w4, w5, rfl⟩
  have hw := fun d (hd : d ∈ tables_1) => atoms_spec (ws := Jvm.Cond.code x code maxLocals ret :: tables_1) hat d (List.mem_cons_of_mem _ hd)
  obtain ⟨i0, ei0⟩ := is_v ga0
  obtain rfl : w0 = (.int i0) := Option.some.inj ei0
  obtain ⟨i1, ei1⟩ := is_v ga1
  obtain rfl : w1 = (.int i1) := Option.some.inj ei1
  obtain ⟨i2, ei2⟩ := is_v ga2
  obtain rfl : w2 = (.int i2) := Option.some.inj ei2
  obtain ⟨i3, ei3⟩ := isL_v ga3
  obtain rfl : w3 = (.long i3) := Option.some.inj ei3
  obtain ⟨i4, ei4⟩ := isL_v ga4
  obtain rfl : w4 = (.long i4) := Option.some.inj ei4
  obtain ⟨i5, ei5⟩ := is_v hg5
  obtain rfl : w5 = (.int i5) := Option.some.inj ei5
  obtain ⟨n, o, h1, h2, h3, _, L, rfl, ⟨rfl, N⟩, hq⟩ := rm0 l s _ hw tables_1 i0 i1 i2 i3 i4 i5 s.heap s.heap.size (Nat.le_refl _)  p e ha hc hk s m _ below hf ((Spec.applies_iff_loose hf).mp happ).1 ⟨rfl, State.Warmed39.refl s, rfl⟩ trivial
  refine ⟨n, _, h1, h2, h3, hpost _ _ _ _ _ _ ⟨Cond.after_iff.mpr rfl, Cond.after_iff.mpr (eq_i res_at (Term.int_eval (1)) rfl), trivial⟩ ⟨hq.1, hq.2.1, (hq.2.2.sift fun y hy => Or.inr (N y hy)).mono (by decide) (by decide)⟩⟩
theorem main_1_1 : Claimed_1_1 := comes_1 fun _ _ _ _ _ _ h hF => ⟨h.1, hF⟩
theorem main_1_2 : Claimed_1_2 := comes_1 fun _ _ _ _ _ _ h hF => ⟨h.2.1, hF⟩
end Jvm.Pilot.@@N@@
namespace Jvm.Pilot.@@N@@
open Jvm Jvm.ClassFile Sem Op Lib Jvm.Free Jvm.Stand Jvm.Pilot.@@N@@.Jvm.D
/-! MADE BY PROGRAM (witnessworld.py) out of the Statement's table words and the real class files: 12 classes; the members and pool entries that the words name. The judged class is class 1, her method 1. -/
namespace start1
open Jvm.ClassFile
def u (s : String) : CpInfo := .utf8 (stringToUtf16 s)
/-- a pool by its gaps: so many unusable entries, then the entry; so many at the end -/
def gap : Nat → List CpInfo → List CpInfo
  | 0, r => r
  | n + 1, r => .unusable :: gap n r
def poolList (es : List (Nat × CpInfo)) (last : Nat) : List CpInfo := es.foldr (fun e r => gap e.1 (e.2 :: r)) (gap last [])
def pool (es : List (Nat × CpInfo)) (last : Nat) : Array CpInfo := ⟨poolList es last⟩
def fileOf (pool : Array CpInfo) (this : Nat) (attrs : Array Attribute := #[]) (ms : Array MethodInfo := #[]) (fl : Nat := 33) (sup : Nat := 0) (ifs : Array Nat := #[]) (fds : Array FieldInfo := #[]) : ClassFile where
  minorVersion := 0
  majorVersion := 65
  constantPool := pool
  accessFlags := fl
  thisClass := this
  superClass := sup
  interfaces := ifs
  fields := fds
  methods := ms
  attributes := attrs
def plain (name : String) (sup : Option ClassId) : Class where
  name := name
  kind := .ordinary
  loader := none
  accessFlags := 33
  super := sup
  interfaces := #[]
  cf := none
  fields := #[]
  methods := #[]
  instanceTypes := #[]
  staticTypes := #[]
  resolved := #[]
  callSites := []
  init := .initialized
  statics := none
  mirror := none

def pool0 : Array CpInfo := pool [(5, u "<init>"), (0, u "()V"), (1, .class_ 10), (1, u "java/lang/Object")] 113

def k0c0 : Code := { maxStack := 0, maxLocals := 1, code := object_method_1_code, exceptionTable := #[], attributes := #[] }
def k0m0 : Method := { name := "<init>", desc := "()V", sig := { parameters := [], returnType := none }, accessFlags := 1, code := some k0c0 }
/-- java/lang/Object -/
def k0 : Class := { plain "java/lang/Object" none with
  accessFlags := 33
  interfaces := #[]
  cf := some (fileOf pool0 8 #[] #[{ accessFlags := 1, nameIndex := 5, descriptorIndex := 6, attributes := #[] }] 33 0 #[] #[])
  fields := #[]
  methods := #[k0m0]
  instanceTypes := #[]
  staticTypes := #[]
  resolved := Array.replicate 124 none
  statics := none }

def pool1 : Array CpInfo := pool [(2, .class_ 4), (0, .nameAndType 5 6), (0, u "java/lang/Object"), (0, u "<init>"), (0, u "()V"), (0, .class_ 8), (0, u "com/example/slotwise/slotwise/keyspace/SlotTable"), (0, .methodref 7 3), (0, .methodref 7 11), (0, .nameAndType 12 13), (0, u "add"), (0, u "(IJI[BZ)I"), (0, .methodref 7 15), (0, .nameAndType 16 17), (0, u "findRecord"), (0, u "(IJ)I"), (0, .class_ 19), (0, u "com/example/slotwise/slotwise/keyspace/SlotTableFindRecordPinLaw"), (2, u "law"), (0, u "(IIIJJI)Z")] 3

def k1m0 : Method := { name := "<init>", desc := "()V", sig := { parameters := [], returnType := none }, accessFlags := 1, code := none }
def k1c1 : Code := { maxStack := 7, maxLocals := 24, code := code, exceptionTable := #[], attributes := #[] }
def k1m1 : Method := { name := "law", desc := "(IIIJJI)Z", sig := { parameters := [.int, .int, .int, .long, .long, .int], returnType := some .boolean }, accessFlags := 9, code := some k1c1 }
/-- com/example/slotwise/slotwise/keyspace/SlotTableFindRecordPinLaw -/
def k1 : Class := { plain "com/example/slotwise/slotwise/keyspace/SlotTableFindRecordPinLaw" (some 0) with
  accessFlags := 49
  interfaces := #[]
  cf := some (fileOf pool1 18 #[] #[{ accessFlags := 1, nameIndex := 5, descriptorIndex := 6, attributes := #[] }, { accessFlags := 9, nameIndex := 22, descriptorIndex := 23, attributes := #[] }] 49 2 #[] #[])
  fields := #[]
  methods := #[k1m0, k1m1]
  instanceTypes := #[]
  staticTypes := #[]
  resolved := Array.replicate 27 none
  statics := none }

def pool2 : Array CpInfo := pool [(1, .methodref 2 3), (0, .class_ 4), (0, .nameAndType 5 6), (0, u "java/lang/Object"), (0, u "<init>"), (0, u "()V"), (2, .long 9223372036854775807), (1, .fieldref 12 13), (0, .class_ 14), (0, .nameAndType 15 16), (0, u "com/example/slotwise/slotwise/keyspace/SlotTable"), (0, u "earliest"), (0, u "J"), (0, .fieldref 12 18), (0, .nameAndType 19 16), (0, u "earliestOfWalk"), (0, .fieldref 12 21), (0, .nameAndType 22 23), (0, u "count"), (0, u "I"), (0, .fieldref 12 25), (0, .nameAndType 26 23), (0, u "expiring"), (0, .fieldref 12 28), (0, .nameAndType 29 30), (0, u "handles"), (0, u "[J"), (0, .fieldref 12 32), (0, .nameAndType 33 34), (0, u "hashes"), (0, u "[I"), (6, .fieldref 12 42), (0, .nameAndType 43 34), (0, u "lengths"), (0, .fieldref 12 45), (0, .nameAndType 46 47), (0, u "expiries"), (0, u "Ljava/util/BitSet;"), (5, u "(I)Z"), (1, .class_ 57), (1, u "java/lang/Math"), (2, .fieldref 12 61), (0, .nameAndType 62 16), (0, u "moves"), (2, u "movesAtWalk"), (4, .fieldref 12 71), (0, .nameAndType 72 73), (0, u "outside"), (0, u "[[B"), (0, .methodref 12 75), (0, .nameAndType 76 77), (0, u "places"), (0, u "()I"), (0, .methodref 55 79), (0, .nameAndType 80 81), (0, u "max"), (0, u "(II)I"), (0, .methodref 12 83), (0, .nameAndType 84 85), (0, u "resize"), (0, u "(I)V"), (0, .methodref 12 87), (0, .nameAndType 88 89), (0, u "set"), (0, u "(IJI[BZ)V"), (0, .methodref 12 91), (0, .nameAndType 92 53), (0, u "expires"), (9, .fieldref 12 103), (0, .nameAndType 104 47), (0, u "marks"), (8, u "FEWEST_PLACES"), (7, u "findRecord"), (0, u "(IJ)I"), (12, u "add"), (0, u "(IJI[BZ)I")] 13

def k2c0 : Code := { maxStack := 3, maxLocals := 1, code := prog_36_method_1_code, exceptionTable := #[], attributes := #[] }
def k2m0 : Method := { name := "<init>", desc := "()V", sig := { parameters := [], returnType := none }, accessFlags := 0, code := some k2c0 }
def k2c1 : Code := { maxStack := 1, maxLocals := 1, code := prog_36_method_4_code, exceptionTable := #[], attributes := #[] }
def k2m1 : Method := { name := "places", desc := "()I", sig := { parameters := [], returnType := some .int }, accessFlags := 0, code := some k2c1 }
def k2c2 : Code := { maxStack := 4, maxLocals := 6, code := prog_36_method_6_code, exceptionTable := #[], attributes := #[] }
def k2m2 : Method := { name := "findRecord", desc := "(IJ)I", sig := { parameters := [.int, .long], returnType := some .int }, accessFlags := 0, code := some k2c2 }
def k2c3 : Code := { maxStack := 2, maxLocals := 2, code := prog_36_method_10_code, exceptionTable := #[], attributes := #[] }
def k2m3 : Method := { name := "expires", desc := "(I)Z", sig := { parameters := [.int], returnType := some .boolean }, accessFlags := 0, code := some k2c3 }
def k2c4 : Code := { maxStack := 7, maxLocals := 9, code := prog_36_method_17_code, exceptionTable := #[], attributes := #[] }
def k2m4 : Method := { name := "add", desc := "(IJI[BZ)I", sig := { parameters := [.int, .long, .int, (.array .byte), .boolean], returnType := some .int }, accessFlags := 0, code := some k2c4 }
def k2c5 : Code := { maxStack := 4, maxLocals := 7, code := prog_36_method_18_code, exceptionTable := #[], attributes := #[] }
def k2m5 : Method := { name := "set", desc := "(IJI[BZ)V", sig := { parameters := [.int, .long, .int, (.array .byte), .boolean], returnType := none }, accessFlags := 0, code := some k2c5 }
def k2c6 : Code := { maxStack := 5, maxLocals := 11, code := prog_36_method_27_code, exceptionTable := #[], attributes := #[] }
def k2m6 : Method := { name := "resize", desc := "(I)V", sig := { parameters := [.int], returnType := none }, accessFlags := 2, code := some k2c6 }
/-- com/example/slotwise/slotwise/keyspace/SlotTable -/
def k2 : Class := { plain "com/example/slotwise/slotwise/keyspace/SlotTable" (some 0) with
  accessFlags := 48
  interfaces := #[]
  cf := some (fileOf pool2 12 #[] #[{ accessFlags := 0, nameIndex := 5, descriptorIndex := 6, attributes := #[] }, { accessFlags := 0, nameIndex := 76, descriptorIndex := 77, attributes := #[] }, { accessFlags := 0, nameIndex := 121, descriptorIndex := 122, attributes := #[] }, { accessFlags := 0, nameIndex := 92, descriptorIndex := 53, attributes := #[] }, { accessFlags := 0, nameIndex := 135, descriptorIndex := 136, attributes := #[] }, { accessFlags := 0, nameIndex := 88, descriptorIndex := 89, attributes := #[] }, { accessFlags := 2, nameIndex := 84, descriptorIndex := 85, attributes := #[] }] 48 2 #[] #[{ accessFlags := 26, nameIndex := 113, descriptorIndex := 23, attributes := #[] }, { accessFlags := 2, nameIndex := 29, descriptorIndex := 30, attributes := #[] }, { accessFlags := 2, nameIndex := 33, descriptorIndex := 34, attributes := #[] }, { accessFlags := 2, nameIndex := 43, descriptorIndex := 34, attributes := #[] }, { accessFlags := 2, nameIndex := 72, descriptorIndex := 73, attributes := #[] }, { accessFlags := 2, nameIndex := 104, descriptorIndex := 47, attributes := #[] }, { accessFlags := 2, nameIndex := 46, descriptorIndex := 47, attributes := #[] }, { accessFlags := 2, nameIndex := 22, descriptorIndex := 23, attributes := #[] }, { accessFlags := 2, nameIndex := 26, descriptorIndex := 23, attributes := #[] }, { accessFlags := 2, nameIndex := 15, descriptorIndex := 16, attributes := #[] }, { accessFlags := 2, nameIndex := 19, descriptorIndex := 16, attributes := #[] }, { accessFlags := 2, nameIndex := 62, descriptorIndex := 16, attributes := #[] }, { accessFlags := 2, nameIndex := 65, descriptorIndex := 16, attributes := #[] }])
  fields := #[{ name := "FEWEST_PLACES", type := .int, accessFlags := 26, slot := 0, constantValue := 0 }, { name := "handles", type := (.array .long), accessFlags := 2, slot := 0, constantValue := 0 }, { name := "hashes", type := (.array .int), accessFlags := 2, slot := 1, constantValue := 0 }, { name := "lengths", type := (.array .int), accessFlags := 2, slot := 2, constantValue := 0 }, { name := "outside", type := (.array (.array .byte)), accessFlags := 2, slot := 3, constantValue := 0 }, { name := "marks", type := (.object "java/util/BitSet"), accessFlags := 2, slot := 4, constantValue := 0 }, { name := "expiries", type := (.object "java/util/BitSet"), accessFlags := 2, slot := 5, constantValue := 0 }, { name := "count", type := .int, accessFlags := 2, slot := 6, constantValue := 0 }, { name := "expiring", type := .int, accessFlags := 2, slot := 7, constantValue := 0 }, { name := "earliest", type := .long, accessFlags := 2, slot := 8, constantValue := 0 }, { name := "earliestOfWalk", type := .long, accessFlags := 2, slot := 9, constantValue := 0 }, { name := "moves", type := .long, accessFlags := 2, slot := 10, constantValue := 0 }, { name := "movesAtWalk", type := .long, accessFlags := 2, slot := 11, constantValue := 0 }]
  methods := #[k2m0, k2m1, k2m2, k2m3, k2m4, k2m5, k2m6]
  instanceTypes := #[(.array .long), (.array .int), (.array .int), (.array (.array .byte)), (.object "java/util/BitSet"), (.object "java/util/BitSet"), .int, .int, .long, .long, .long, .long]
  staticTypes := #[.int]
  resolved := Array.replicate 150 none
  statics := none }

def pool3 : Array CpInfo := pool [(1, .class_ 2), (0, u "java/lang/Math"), (1, .class_ 6), (1, u "java/lang/Object"), (0, u "<init>"), (0, u "()V"), (89, .class_ 100), (1, u "java/lang/Math$RandomNumberGeneratorHolder"), (71, u "negativeZeroFloatBits"), (0, u "J"), (2, u "negativeZeroDoubleBits"), (21, u "max"), (46, u "$assertionsDisabled"), (0, u "Z"), (88, u "(II)I"), (2, u "twoToTheDoubleScaleDown"), (0, u "D"), (4, u "twoToTheDoubleScaleUp"), (9, u "E"), (3, u "PI"), (2, u "TAU"), (2, u "DEGREES_TO_RADIANS"), (0, u "RADIANS_TO_DEGREES")] 94

def k3m0 : Method := { name := "<init>", desc := "()V", sig := { parameters := [], returnType := none }, accessFlags := 2, code := none }
def k3c1 : Code := { maxStack := 2, maxLocals := 2, code := jdk_29_method_65_code, exceptionTable := #[], attributes := #[] }
def k3m1 : Method := { name := "max", desc := "(II)I", sig := { parameters := [.int, .int], returnType := some .int }, accessFlags := 9, code := some k3c1 }
/-- java/lang/Math -/
def k3 : Class := { plain "java/lang/Math" (some 0) with
  accessFlags := 49
  interfaces := #[]
  cf := some (fileOf pool3 1 #[.nestMembers #[98]] #[{ accessFlags := 2, nameIndex := 7, descriptorIndex := 8, attributes := #[] }, { accessFlags := 9, nameIndex := 198, descriptorIndex := 335, attributes := #[] }] 49 4 #[] #[{ accessFlags := 25, nameIndex := 354, descriptorIndex := 339, attributes := #[] }, { accessFlags := 25, nameIndex := 358, descriptorIndex := 339, attributes := #[] }, { accessFlags := 25, nameIndex := 361, descriptorIndex := 339, attributes := #[] }, { accessFlags := 26, nameIndex := 364, descriptorIndex := 339, attributes := #[] }, { accessFlags := 26, nameIndex := 365, descriptorIndex := 339, attributes := #[] }, { accessFlags := 26, nameIndex := 172, descriptorIndex := 173, attributes := #[] }, { accessFlags := 26, nameIndex := 176, descriptorIndex := 173, attributes := #[] }, { accessFlags := 8, nameIndex := 344, descriptorIndex := 339, attributes := #[] }, { accessFlags := 8, nameIndex := 338, descriptorIndex := 339, attributes := #[] }, { accessFlags := 4120, nameIndex := 245, descriptorIndex := 246, attributes := #[] }])
  fields := #[{ name := "E", type := .double, accessFlags := 25, slot := 0, constantValue := 0 }, { name := "PI", type := .double, accessFlags := 25, slot := 1, constantValue := 0 }, { name := "TAU", type := .double, accessFlags := 25, slot := 2, constantValue := 0 }, { name := "DEGREES_TO_RADIANS", type := .double, accessFlags := 26, slot := 3, constantValue := 0 }, { name := "RADIANS_TO_DEGREES", type := .double, accessFlags := 26, slot := 4, constantValue := 0 }, { name := "negativeZeroFloatBits", type := .long, accessFlags := 26, slot := 5, constantValue := 0 }, { name := "negativeZeroDoubleBits", type := .long, accessFlags := 26, slot := 6, constantValue := 0 }, { name := "twoToTheDoubleScaleUp", type := .double, accessFlags := 8, slot := 7, constantValue := 0 }, { name := "twoToTheDoubleScaleDown", type := .double, accessFlags := 8, slot := 8, constantValue := 0 }, { name := "$assertionsDisabled", type := .boolean, accessFlags := 4120, slot := 9, constantValue := 0 }]
  methods := #[k3m0, k3m1]
  instanceTypes := #[]
  staticTypes := #[.double, .double, .double, .double, .double, .long, .long, .double, .double, .boolean]
  resolved := Array.replicate 460 none
  statics := none }

def pool4 : Array CpInfo := pool [(1, u "java/lang/Cloneable"), (0, .class_ 1), (0, u "java/lang/Object"), (0, .class_ 3)] 3

/-- java/lang/Cloneable -/
def k4 : Class := { plain "java/lang/Cloneable" (some 0) with
  accessFlags := 1537
  interfaces := #[]
  cf := some (fileOf pool4 2 #[] #[] 1537 4 #[] #[])
  fields := #[]
  methods := #[]
  instanceTypes := #[]
  staticTypes := #[]
  resolved := Array.replicate 8 none
  statics := none }

def pool5 : Array CpInfo := pool [(1, u "java/io/Serializable"), (0, .class_ 1), (0, u "java/lang/Object"), (0, .class_ 3)] 3

/-- java/io/Serializable -/
def k5 : Class := { plain "java/io/Serializable" (some 0) with
  accessFlags := 1537
  interfaces := #[]
  cf := some (fileOf pool5 2 #[] #[] 1537 4 #[] #[])
  fields := #[]
  methods := #[]
  instanceTypes := #[]
  staticTypes := #[]
  resolved := Array.replicate 8 none
  statics := none }

/-- the primitive byte -/
def k6 : Class := { plain "byte" none with kind := .primitive 'B', accessFlags := 0x411 }
/-- [B -/
def k7 : Class := { plain "[B" (some 0) with kind := .array 6 .byte, interfaces := #[4, 5], accessFlags := 1041 }

/-- the primitive int -/
def k8 : Class := { plain "int" none with kind := .primitive 'I', accessFlags := 0x411 }
/-- [I -/
def k9 : Class := { plain "[I" (some 0) with kind := .array 8 .int, interfaces := #[4, 5], accessFlags := 1041 }

/-- the primitive long -/
def k10 : Class := { plain "long" none with kind := .primitive 'J', accessFlags := 0x411 }
/-- [J -/
def k11 : Class := { plain "[J" (some 0) with kind := .array 10 .long, interfaces := #[4, 5], accessFlags := 1041 }

def heap : Heap := #[]
def classes : Array Class := #[k0, k1, k2, k3, k4, k5, k6, k7, k8, k9, k10, k11]
def interned : List (Array UInt16 × Addr) := []
def slotsUsed : Nat := 0
def theMethod : MethodId := ⟨1, 1⟩
def args0 : Array Value := #[.int 3, .int 65, .int 2, .long 3, .long 4, .int 3]
def aboutOver (below : List Frame) : State where
  vm := { classes := classes, interned := interned.toArray }
  heap := heap
  slotsUsed := slotsUsed
  threads := #[{ frames := .invoking theMethod args0 :: below }]
def below0 : List Frame := [.native { method := ⟨0, 0⟩, args := #[] }]
def about1 : State := aboutOver below0
def p0 : Program := .bare "" "" ""
def e0 : Env := launch0.env 0 0 0
theorem w_frames : about1.frames = Frame.invoking theMethod args0 :: below0 := rfl
set_option maxRecDepth 65536 in
theorem w_args : argsFit about1.vm theMethod args0 = true := by decide +kernel
set_option maxRecDepth 65536 in
theorem w_heap : heapFits about1 = true := by decide +kernel
set_option maxRecDepth 65536 in
theorem w_runnable : about1.curStatus? = some .runnable := by decide +kernel
set_option maxRecDepth 65536 in
theorem w_alone : about1.alone = true := by decide +kernel
set_option maxRecDepth 65536 in
theorem w_named : about1.methodNamed? x = some theMethod := by decide +kernel
set_option maxRecDepth 65536 in
theorem w_hears : about1.hears theMethod below0 = true := by decide +kernel
set_option maxRecDepth 65536 in
theorem w_ripe : about1.ripe theMethod args0 below0 = true := by decide +kernel
theorem w_running : about1.status = .running := rfl
set_option maxRecDepth 65536 in
theorem w_room : about1.hasRoom e0.platform room_1 = true :=
  launch0.hasRoom_least _ room_1 (by decide +kernel) (by decide +kernel) (by decide +kernel) (by decide +kernel) (by decide +kernel) (by decide +kernel)
theorem allAtoms_all (ts : List Jvm.Cond) (a : Array Jvm.Value) (st : Jvm.State) : (allAtoms ts).before a st = ts.all (fun c => c.before a st) := by
  induction ts with
  | nil => rfl
  | cons c t ih =>
    show (Jvm.Cond.and c (allAtoms t)).before a st = _
    rw [Jvm.Cond.before_and, ih, List.all_cons]
def words1 : List Jvm.Cond := Jvm.Cond.code x code maxLocals ret :: tables_1
/-- a 'code' word, met by the world's own term for the bytes: nothing is compared byte by byte -/
theorem code_word {y : MethodName} {bytes : ByteArray} {mx : Nat} {rt : Option FieldType} {a : Array Value} {s : State} {m : MethodId} {meth : Method} {c : Code} (h1 : s.methodNamed? y = some m) (h2 : s.vm.method? m = some meth) (h3 : meth.code = some c) (h4 : c.code = bytes)
    (h5 : (c.maxLocals == mx && c.exceptionTable.isEmpty && decide (c.maxStack ≤ mostOperands) && decide (meth.sig.returnType = rt) && !meth.locks && decide (parseMethodDescriptor y.desc = some meth.sig)) = true) : (Jvm.Cond.code y bytes mx rt).before a s = true := by
  simp only [Bool.and_eq_true, beq_iff_eq, Bool.not_eq_true', decide_eq_true_eq] at h5
  obtain ⟨⟨⟨⟨⟨g1, g2⟩, g3⟩, g4⟩, g5⟩, g6⟩ := h5
  simp [Cond.before, Cond.holds, Cond.value, h1, h2, h3, h4, g1, g2, g3, g4, g5, g6]
def isCode : Jvm.Cond → Bool
  | .code _ _ _ _ => true
  | _ => false
theorem all_split {L : List Jvm.Cond} {P : Jvm.Cond → Bool} (h1 : L.all (fun c => isCode c || P c) = true) (h2 : ∀ c ∈ L.filter isCode, P c = true) : L.all P = true := by
  refine List.all_eq_true.mpr fun c hc => ?_
  have h := List.all_eq_true.mp h1 c hc
  rcases Bool.eq_false_or_eq_true (isCode c) with hi | hi
  · exact h2 c (List.mem_filter.mpr ⟨hc, hi⟩)
  · simpa [hi] using h
set_option maxRecDepth 65536 in
theorem w_c0 : (Jvm.Cond.code x code maxLocals ret).before args0 about1 = true := code_word (m := ⟨1, 1⟩) (meth := k1m1) (c := k1c1) (by decide +kernel) rfl rfl rfl (by decide +kernel)
set_option maxRecDepth 65536 in
theorem w_c1 : (Jvm.Cond.code ({ cls := "com/example/slotwise/slotwise/keyspace/SlotTable", name := "<init>", desc := "()V" } : Jvm.MethodName) prog_36_method_1_code (1 : Nat) (Option.none : Option Jvm.ClassFile.FieldType)).before args0 about1 = true := code_word (m := ⟨2, 0⟩) (meth := k2m0) (c := k2c0) (by decide +kernel) rfl rfl rfl (by decide +kernel)
set_option maxRecDepth 65536 in
theorem w_c2 : (Jvm.Cond.code ({ cls := "java/lang/Object", name := "<init>", desc := "()V" } : Jvm.MethodName) object_method_1_code (1 : Nat) (Option.none : Option Jvm.ClassFile.FieldType)).before args0 about1 = true := code_word (m := ⟨0, 0⟩) (meth := k0m0) (c := k0c0) (by decide +kernel) rfl rfl rfl (by decide +kernel)
set_option maxRecDepth 65536 in
theorem w_c3 : (Jvm.Cond.code ({ cls := "com/example/slotwise/slotwise/keyspace/SlotTable", name := "add", desc := "(IJI[BZ)I" } : Jvm.MethodName) prog_36_method_17_code (9 : Nat) (Option.some Jvm.ClassFile.FieldType.int)).before args0 about1 = true := code_word (m := ⟨2, 4⟩) (meth := k2m4) (c := k2c4) (by decide +kernel) rfl rfl rfl (by decide +kernel)
set_option maxRecDepth 65536 in
theorem w_c4 : (Jvm.Cond.code ({ cls := "com/example/slotwise/slotwise/keyspace/SlotTable", name := "places", desc := "()I" } : Jvm.MethodName) prog_36_method_4_code (1 : Nat) (Option.some Jvm.ClassFile.FieldType.int)).before args0 about1 = true := code_word (m := ⟨2, 1⟩) (meth := k2m1) (c := k2c1) (by decide +kernel) rfl rfl rfl (by decide +kernel)
set_option maxRecDepth 65536 in
theorem w_c5 : (Jvm.Cond.code ({ cls := "java/lang/Math", name := "max", desc := "(II)I" } : Jvm.MethodName) jdk_29_method_65_code (2 : Nat) (Option.some Jvm.ClassFile.FieldType.int)).before args0 about1 = true := code_word (m := ⟨3, 1⟩) (meth := k3m1) (c := k3c1) (by decide +kernel) rfl rfl rfl (by decide +kernel)
set_option maxRecDepth 65536 in
theorem w_c6 : (Jvm.Cond.code ({ cls := "com/example/slotwise/slotwise/keyspace/SlotTable", name := "resize", desc := "(I)V" } : Jvm.MethodName) prog_36_method_27_code (11 : Nat) (Option.none : Option Jvm.ClassFile.FieldType)).before args0 about1 = true := code_word (m := ⟨2, 6⟩) (meth := k2m6) (c := k2c6) (by decide +kernel) rfl rfl rfl (by decide +kernel)
set_option maxRecDepth 65536 in
theorem w_c7 : (Jvm.Cond.code ({ cls := "com/example/slotwise/slotwise/keyspace/SlotTable", name := "set", desc := "(IJI[BZ)V" } : Jvm.MethodName) prog_36_method_18_code (7 : Nat) (Option.none : Option Jvm.ClassFile.FieldType)).before args0 about1 = true := code_word (m := ⟨2, 5⟩) (meth := k2m5) (c := k2c5) (by decide +kernel) rfl rfl rfl (by decide +kernel)
set_option maxRecDepth 65536 in
theorem w_c8 : (Jvm.Cond.code ({ cls := "com/example/slotwise/slotwise/keyspace/SlotTable", name := "expires", desc := "(I)Z" } : Jvm.MethodName) prog_36_method_10_code (2 : Nat) (Option.some Jvm.ClassFile.FieldType.boolean)).before args0 about1 = true := code_word (m := ⟨2, 3⟩) (meth := k2m3) (c := k2c3) (by decide +kernel) rfl rfl rfl (by decide +kernel)
set_option maxRecDepth 65536 in
theorem w_c9 : (Jvm.Cond.code ({ cls := "com/example/slotwise/slotwise/keyspace/SlotTable", name := "findRecord", desc := "(IJ)I" } : Jvm.MethodName) prog_36_method_6_code (6 : Nat) (Option.some Jvm.ClassFile.FieldType.int)).before args0 about1 = true := code_word (m := ⟨2, 2⟩) (meth := k2m2) (c := k2c2) (by decide +kernel) rfl rfl rfl (by decide +kernel)
def codes1 : List Jvm.Cond := [Jvm.Cond.code x code maxLocals ret, Jvm.Cond.code ({ cls := "com/example/slotwise/slotwise/keyspace/SlotTable", name := "<init>", desc := "()V" } : Jvm.MethodName) prog_36_method_1_code (1 : Nat) (Option.none : Option Jvm.ClassFile.FieldType), Jvm.Cond.code ({ cls := "java/lang/Object", name := "<init>", desc := "()V" } : Jvm.MethodName) object_method_1_code (1 : Nat) (Option.none : Option Jvm.ClassFile.FieldType), Jvm.Cond.code ({ cls := "com/example/slotwise/slotwise/keyspace/SlotTable", name := "add", desc := "(IJI[BZ)I" } : Jvm.MethodName) prog_36_method_17_code (9 : Nat) (Option.some Jvm.ClassFile.FieldType.int), Jvm.Cond.code ({ cls := "com/example/slotwise/slotwise/keyspace/SlotTable", name := "places", desc := "()I" } : Jvm.MethodName) prog_36_method_4_code (1 : Nat) (Option.some Jvm.ClassFile.FieldType.int), Jvm.Cond.code ({ cls := "java/lang/Math", name := "max", desc := "(II)I" } : Jvm.MethodName) jdk_29_method_65_code (2 : Nat) (Option.some Jvm.ClassFile.FieldType.int), Jvm.Cond.code ({ cls := "com/example/slotwise/slotwise/keyspace/SlotTable", name := "resize", desc := "(I)V" } : Jvm.MethodName) prog_36_method_27_code (11 : Nat) (Option.none : Option Jvm.ClassFile.FieldType), Jvm.Cond.code ({ cls := "com/example/slotwise/slotwise/keyspace/SlotTable", name := "set", desc := "(IJI[BZ)V" } : Jvm.MethodName) prog_36_method_18_code (7 : Nat) (Option.none : Option Jvm.ClassFile.FieldType), Jvm.Cond.code ({ cls := "com/example/slotwise/slotwise/keyspace/SlotTable", name := "expires", desc := "(I)Z" } : Jvm.MethodName) prog_36_method_10_code (2 : Nat) (Option.some Jvm.ClassFile.FieldType.boolean), Jvm.Cond.code ({ cls := "com/example/slotwise/slotwise/keyspace/SlotTable", name := "findRecord", desc := "(IJ)I" } : Jvm.MethodName) prog_36_method_6_code (6 : Nat) (Option.some Jvm.ClassFile.FieldType.int)]
set_option maxRecDepth 65536 in
theorem codes_eq : words1.filter isCode = codes1 := rfl
theorem w_codes : ∀ c ∈ words1.filter isCode, c.before args0 about1 = true := by
  rw [codes_eq]
  intro c hc
  simp only [codes1, List.mem_cons, List.not_mem_nil, or_false] at hc
  rcases hc with rfl | rfl | rfl | rfl | rfl | rfl | rfl | rfl | rfl | rfl
  · exact w_c0
  · exact w_c1
  · exact w_c2
  · exact w_c3
  · exact w_c4
  · exact w_c5
  · exact w_c6
  · exact w_c7
  · exact w_c8
  · exact w_c9
set_option maxRecDepth 65536 in
theorem w_t1 : (words1.take 24).all (fun c => isCode c || c.before args0 about1) = true := by decide +kernel
set_option maxRecDepth 65536 in
theorem w_t2 : ((words1.drop 24).take 24).all (fun c => isCode c || c.before args0 about1) = true := by decide +kernel
set_option maxRecDepth 65536 in
theorem w_t3 : ((words1.drop 24).drop 24).all (fun c => isCode c || c.before args0 about1) = true := by decide +kernel
theorem w_tables : (allAtoms (Jvm.Cond.code x code maxLocals ret :: tables_1)).before args0 about1 = true := by
  rw [allAtoms_all]
  show words1.all (fun c => c.before args0 about1) = true
  refine all_split ?_ w_codes
  rw [← List.take_append_drop 24 words1, List.all_append, w_t1, ← List.take_append_drop 24 (words1.drop 24), List.all_append, w_t2, w_t3]
  rfl
set_option maxRecDepth 65536 in
theorem w_case : (Jvm.Cond.and given_1 narrow_1).before args0 about1 = true := by decide +kernel
theorem w_applies : (headSpec (Jvm.Cond.code x code maxLocals ret :: tables_1) room_1).applies x e0.platform about1 = true :=
  (Spec.applies_iff w_frames).mpr ⟨w_running, w_runnable, w_alone, w_named, w_hears, w_ripe, w_room, w_tables⟩
theorem atStart : AtStart classFile x code maxLocals ret World_1 tables_1 room_1 Calls_1 rest_1 Pre_1 launch0 p0 e0 about1 theMethod args0 below0 :=
  ⟨lists_1, trivial, launch0.admits_env _ _ _, launch0.least_env, fairChoices_fair.cas, fairChoices_fair.clock, w_frames, w_args, w_heap, w_applies, trivial, trivial, w_case⟩
end start1
theorem witness_1 : WitnessClaimed_1 := ⟨start1.p0, start1.e0, start1.about1, start1.theMethod, start1.args0, start1.below0, start1.atStart⟩
end Jvm.Pilot.@@N@@
