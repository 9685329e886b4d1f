import JvmDerived
import JvmDerived.Pilot.@@N@@Statement
import JvmDerived.Pilot.@@N@@Code
set_option linter.unusedVariables false
set_option linter.unusedSimpArgs false
namespace Jvm.RoadKit
open Sem ClassFile Op Lib Jvm.Stand Jvm.Free Jvm.LawKit
section New
variable {p : Program} {l : Launch} {e : Env} {R : Room} {s : State} {m : MethodId} {args : Array Value} {below : List Frame} {meth : Method} {c : Code} {T : State} {locs : List Loc} {cells slots : Nat}
theorem retI (X : Stand p l e R s m args below meth c T locs cells slots) (hx : p.tables.exec = Jvm.exec) {pc : Nat} {Ls : Array Slot} {z : Int32} {rest : List Value} (hret : meth.sig.returnType = some .int) (hd : decode c.code pc = .ok (.ireturn, 1)) {fs : List Frame}
    (hl : ∀ (f : JFrame) (acts : List Action), f.method = m → f.locked = none → f.entered = [] → (doReturn e (T.setTop f) acts (some (.int z))).1 = T.setFrames fs) : Steps p.tables e below (T.setTop (mkF m pc Ls (.int z :: rest))) (T.setFrames fs) := by
  have hm' : T.vm.method? m = some meth := X.method'
  have hn : narrow .int (.int z) = .int z := rfl
  show Steps p.tables e below (T.setTop { method := m, pc := pc, locals := Ls, stack := _ :: rest, locked := none }) _
  jvm_step X.here [X.here.top, hx, hd, hm', hret, hn]
  first | (intro acts; rw [hl _ acts rfl rfl rfl]) | rw [hl _ _ rfl rfl rfl]
  exact Steps.refl _
/-- a run from U comes to a state of which K holds -/
def Rch (p : Program) (e : Env) (below : List Frame) (K : State → Prop) (U : State) : Prop := ∃ s₂, Steps p.tables e below U s₂ ∧ K s₂
theorem Rch.go {K : State → Prop} {U U' : State} (h : ∀ t, Steps p.tables e below U' t → Steps p.tables e below U t) (k : Rch p e below K U') : Rch p e below K U := by
  obtain ⟨s₂, a, b⟩ := k; exact ⟨s₂, h _ a, b⟩
theorem Rch.to {K : State → Prop} {U U' : State} (h : Steps p.tables e below U U') (k : Rch p e below K U') : Rch p e below K U := by
  obtain ⟨s₂, a, b⟩ := k; exact ⟨s₂, h.trans a, b⟩
theorem Rch.then {K K' : State → Prop} {U : State} (h : Rch p e below K U) (f : ∀ V, K V → Rch p e below K' V) : Rch p e below K' U := by
  obtain ⟨s₂, a, b⟩ := h; exact Rch.to a (f _ b)
/-- the body is left: what it returned and what it leaves -/
def Fin (s : State) (below : List Frame) (Q : Option Value → Heap → List Loc → Prop) (k n : Nat) (s₂ : State) : Prop :=
  ∃ o, s₂.status = .running ∧ Ended s₂ below o ∧ ∃ v L, o = .returned v ∧ Q v s₂.heap L ∧ FrameEnd s o s₂ L k n
theorem Rch.fin {Q : Option Value → Heap → List Loc → Prop} {k n : Nat} {U : State} {h : Heap} (X : Stand p l e R s m args below meth c T locs cells slots) (hlk : meth.locks = false) {v : Option Value} (hv : meth.sig.returnType = none → v = none) (eT : T.heap = h) (hc : cells ≤ k) (hn : slots ≤ n)
    (st : ∀ fs, (∀ (f : JFrame) (acts : List Action), f.method = m → f.locked = none → f.entered = [] → (doReturn e (T.setTop f) acts v).1 = T.setFrames fs) → Steps p.tables e below U (T.setFrames fs)) (hQ : Q v h locs) : Rch p e below (Fin s below Q k n) U := by
  obtain ⟨fs, hr, hrun, hended, hW, hsame⟩ := X.leave hv hlk
  refine ⟨_, st fs hr, _, hrun, hended, v, locs, rfl, ?_, ⟨_, rfl⟩, hW, hsame.mono hc hn⟩
  show Q v T.heap locs
  rw [eT]; exact hQ
theorem Rch.body {Q : Option Value → Heap → List Loc → Prop} {k n : Nat} {U U' : State} (h : ∀ t, Steps p.tables e below U' t → Steps p.tables e below U t) (H : Rch p e below (Fin s below Q k n) U') :
    ∃ s₂ o, Steps p.tables e below U s₂ ∧ s₂.status = .running ∧ Ended s₂ below o ∧ (∃ v L, o = .returned v ∧ Q v s₂.heap L ∧ FrameEnd s o s₂ L k n) := by
  obtain ⟨s₂, a, o, b, c, d⟩ := H; exact ⟨s₂, o, h _ a, b, c, d⟩
/-- the same, said with the wide end (a String constant may have been interned) -/
def FinW (s : State) (below : List Frame) (Q : Option Value → Heap → List Loc → Prop) (k n : Nat) (s₂ : State) : Prop :=
  ∃ o, s₂.status = .running ∧ Ended s₂ below o ∧ ∃ v L, o = .returned v ∧ Q v s₂.heap L ∧ ReturnedEndW s o s₂ L k n
theorem Rch.finW {Q : Option Value → Heap → List Loc → Prop} {k n : Nat} {U : State} {h : Heap} {vm₁ : Vm} {n1 : Nat} (X : Stand p l e R (s.setVm vm₁) m args below meth c T locs cells slots) (hlk : meth.locks = false) {v : Option Value} (hv : meth.sig.returnType = none → v = none) (eT : T.heap = h) (hc : cells ≤ k) (hn : slots ≤ n)
    (hS : s.Since vm₁ n1) (hk : n1 ≤ h.size) (st : ∀ fs, (∀ (f : JFrame) (acts : List Action), f.method = m → f.locked = none → f.entered = [] → (doReturn e (T.setTop f) acts v).1 = T.setFrames fs) → Steps p.tables e below U (T.setFrames fs)) (hQ : Q v h locs) : Rch p e below (FinW s below Q k n) U := by
  obtain ⟨fs, hr, hrun, hended, hE⟩ := X.leaveW hS (by rw [eT]; exact hk) hv hlk
  refine ⟨_, st fs hr, _, hrun, hended, v, locs, rfl, ?_, hE.1, hE.2.1, hE.2.2.1, hE.2.2.2.mono hc hn⟩
  show Q v T.heap locs
  rw [eT]; exact hQ
theorem Rch.bodyW {Q : Option Value → Heap → List Loc → Prop} {k n : Nat} {U U' : State} (h : ∀ t, Steps p.tables e below U' t → Steps p.tables e below U t) (H : Rch p e below (FinW s below Q k n) U') :
    ∃ s₂ o, Steps p.tables e below U s₂ ∧ s₂.status = .running ∧ Ended s₂ below o ∧ (∃ v L, o = .returned v ∧ Q v s₂.heap L ∧ ReturnedEndW s o s₂ L k n) := by
  obtain ⟨s₂, a, o, b, c, d⟩ := H; exact ⟨s₂, o, h _ a, b, c, d⟩
theorem nar_1 : nar .boolean 1 = 1 := rfl
theorem nar_0 : nar .boolean 0 = 0 := rfl
end New
end Jvm.RoadKit
namespace Jvm.Pilot.@@N@@
open Jvm Jvm.ClassFile Sem Op Lib Jvm.Free Jvm.Stand Jvm.LawKit Jvm.RoadKit Bundle Jvm.Pilot.@@N@@.Jvm.D
theorem wi {Z : State} {a0 : Array Value} (hw : ∀ d ∈ tables_1, d.before a0 Z = true) (i : Nat) {d : Jvm.Cond} (h : tables_1[i]? = some d) : d.before a0 Z = true := hw d (List.mem_of_getElem? h)
-- small naturals as ints
theorem own_iI {n : Nat} (hn : n < 2147483648) : (Int32.ofNat n).toInt = n := Int32.toInt_ofNat_of_lt (by omega)
theorem own_iN {n : Nat} (hn : n < 2147483648) : (Int32.ofNat n).toNatClampNeg = n := by rw [Int32.toNatClampNeg, own_iI hn]; rfl
theorem own_ilt {i n : Nat} (hi : i < 2147483648) (hn : n < 2147483648) : Int32.ofNat i < Int32.ofNat n ↔ i < n := by
  rw [Int32.lt_iff_toInt_lt, own_iI hi, own_iI hn]; omega
theorem own_ieq {i n : Nat} (hi : i < 2147483648) (hn : n < 2147483648) : Int32.ofNat i = Int32.ofNat n ↔ i = n := by
  rw [← Int32.toInt_inj, own_iI hi, own_iI hn]; omega
theorem own_inn {n : Nat} (hn : n < 2147483648) : ¬ Int32.ofNat n < 0 := by
  rw [Int32.lt_iff_toInt_lt, own_iI hn, show (0 : Int32).toInt = 0 from rfl]; omega
theorem own_i1 (i : Nat) : Int32.ofNat i + (1 : Int32) = Int32.ofNat (i + 1) := (Int32.ofNat_add i 1).symm
theorem own_of {x : Int32} (h : 0 ≤ x.toInt) : ∃ n : Nat, n < 2147483648 ∧ x = Int32.ofNat n := by
  refine ⟨x.toInt.toNat, by have := x.toInt_lt; omega, Int32.toInt_inj.mp ?_⟩
  rw [own_iI (by have := x.toInt_lt; omega)]; omega
theorem own_iin {i n : Nat} (hi : i < n) (hn : n < 2147483648) : ¬ Int32.ofNat i < 0 ∧ Int32.ofNat i < Int32.ofNat n := ⟨own_inn (by omega), (own_ilt (by omega) hn).mpr hi⟩
theorem own_getI (xs : List Int32) {i : Nat} (h : i < xs.length) (hn : i < 2147483648) : (xs.map Value.int).getD (Int32.ofNat i).toNatClampNeg (.int (0 : Int32)) = .int (xs.getD i 0) := by
  rw [own_iN hn]; simp [List.getD_eq_getElem?_getD, h]
def own_max (p1 p2 : Int32) : Int32 := if p1 < p2 then p2 else p1
theorem d6_0 : decode jdk_29_method_65_code 0 = .ok (.iload_n 0, 1) := by decide +kernel
theorem d6_1 : decode jdk_29_method_65_code 1 = .ok (.iload_n 1, 1) := by decide +kernel
theorem d6_2 : decode jdk_29_method_65_code 2 = .ok (.if_icmp .lt 7, 3) := by decide +kernel
theorem d6_5 : decode jdk_29_method_65_code 5 = .ok (.iload_n 0, 1) := by decide +kernel
theorem d6_6 : decode jdk_29_method_65_code 6 = .ok (.goto 4, 3) := by decide +kernel
theorem d6_9 : decode jdk_29_method_65_code 9 = .ok (.iload_n 1, 1) := by decide +kernel
theorem d6_10 : decode jdk_29_method_65_code 10 = .ok (.ireturn, 1) := by decide +kernel
theorem ef_rmMax (m : MethodId) (p1 : Int32) (p2 : Int32) : entryFrame m #[(.int p1), (.int p2)] 2 = mkF m 0 #[.val (.int p1), .val (.int p2)] [] := by first | (simp [entryFrame, mkF, argsToLocals, Value.category]; done) | rfl
def Q_rmMax (Z : State) (p1 : Int32) (p2 : Int32) (h0 : Heap) (n0 : Nat) (v : Option Value) (h : Heap) (L : List Loc) : Prop := v = some (.int (own_max p1 p2)) ∧ Fr n0 L ∧ h = h0
set_option maxRecDepth 65536 in
set_option maxHeartbeats 40000000 in
theorem rmMax (l : Launch) (Z : State) (a0 : Array Value) (hw : ∀ d ∈ tables_1, d.before a0 Z = true) (ws : List Jvm.Cond) (p1 : Int32) (p2 : Int32) (h0 : Heap) (n0 : Nat) (Z0 : n0 ≤ h0.size)  :
    MetFree l (⟨"java/lang/Math", "max", "(II)I"⟩ : MethodName) (head1 (Jvm.Cond.code (⟨"java/lang/Math", "max", "(II)I"⟩ : MethodName) jdk_29_method_65_code 2 (some .int) :: ws) ({ frames := 0, cells := 0, slots := 0, locals := 0 } : Room)) (fun a U => a = #[(.int p1), (.int p2)] ∧ Z.Warmed39 U.vm ∧ U.heap = h0) (fun _ _ _ _ _ => True) (fun _ U o U' => ∃ v L, o = .returned v ∧ Q_rmMax Z p1 p2 h0 n0 v U'.heap L ∧ FrameEnd U o U' L ({ frames := 0, cells := 0, slots := 0, locals := 0 } : Room).cells ({ frames := 0, cells := 0, slots := 0, locals := 0 } : Room).slots) := by
  refine MetFree.of_bodySF (Jvm.Free.JP.mathPlain rfl (by decide +kernel)) hisR ?_
  intro p e s m args below meth c s₁ Bd hml0 hP hK
  obtain ⟨rfl, hZ, hh⟩ := hP
  have hx := Bd.exec
  have hby := Bd.bytes
  have hml : c.maxLocals = 2 := hml0
  have hown : s.vm.findClass "java/lang/Math" = some m.cls := findClass_of_methodNamed Bd.named
  have hnm := (name_of_methodNamed Bd.named Bd.method).1
  have hret := Bd.returns
  have hlk : meth.locks = false := BodyLoose.notSynchronized Bd
  have X0 : Stand p l e ({ frames := 0, cells := 0, slots := 0, locals := 0 } : Room) s m #[(.int p1), (.int p2)] below meth c s₁ [] 0 0 := Stand.of_body Bd
  have e0 : s₁.heap = h0 := by rw [← hh, Bd.state]; rfl
  have N0 := Fr.nil n0
  refine Rch.body (Q := Q_rmMax Z p1 p2 h0 n0) (U' := s₁.setTop (mkF m 0 #[.val (.int p1), .val (.int p2)] [])) (fun t k => castTop (ef_rmMax m p1 p2) k) ?_
  refine Rch.go (U' := s₁.setTop (mkF m 1 #[.val (.int p1), .val (.int p2)] [(.int p1)])) (fun _ k => XS.iloadN X0.here hx rfl (hb hby d6_0) rfl  k) ?_
  refine Rch.go (U' := s₁.setTop (mkF m 2 #[.val (.int p1), .val (.int p2)] [(.int p2), (.int p1)])) (fun _ k => XS.iloadN X0.here hx rfl (hb hby d6_1) rfl  k) ?_
  by_cases br1 : p1 < p2
  ·
    refine Rch.go (U' := s₁.setTop (mkF m 9 #[.val (.int p1), .val (.int p2)] [])) (fun _ k => XS.icmpYes X0.here hx rfl (pc0 := 2) (pc' := 9) rfl (hb hby d6_2) rfl (XT.ii_lt_t br1) (by decide) (by decide) k) ?_
    refine Rch.go (U' := s₁.setTop (mkF m 10 #[.val (.int p1), .val (.int p2)] [(.int p2)])) (fun _ k => XS.iloadN X0.here hx rfl (hb hby d6_9) rfl  k) ?_
    refine Rch.fin X0 hlk (v := some (.int p2)) (fun h => by rw [hret] at h; cases h) e0 (by decide) (by decide) (fun fs hr => retI X0 hx hret (hb hby d6_10) hr) ?_
    exact ⟨by simp only [own_max, br1, ↓reduceIte], N0, rfl⟩
  ·
    refine Rch.go (U' := s₁.setTop (mkF m 5 #[.val (.int p1), .val (.int p2)] [])) (fun _ k => XS.icmpNo X0.here hx rfl (hb hby d6_2) rfl (XT.ii_lt_f br1) k) ?_
    refine Rch.go (U' := s₁.setTop (mkF m 6 #[.val (.int p1), .val (.int p2)] [(.int p1)])) (fun _ k => XS.iloadN X0.here hx rfl (hb hby d6_5) rfl  k) ?_
    refine Rch.go (U' := s₁.setTop (mkF m 10 #[.val (.int p1), .val (.int p2)] [(.int p1)])) (fun _ k => XS.goto X0.here hx rfl (pc0 := 6) (pc' := 10) rfl (hb hby d6_6) (by decide) (by decide) k) ?_
    refine Rch.fin X0 hlk (v := some (.int p1)) (fun h => by rw [hret] at h; cases h) e0 (by decide) (by decide) (fun fs hr => retI X0 hx hret (hb hby d6_10) hr) ?_
    exact ⟨by simp only [own_max, br1, ↓reduceIte], N0, rfl⟩
def own_min (p1 p2 : Int32) : Int32 := if p2 < p1 then p2 else p1
theorem d3_0 : decode jdk_29_method_69_code 0 = .ok (.iload_n 0, 1) := by decide +kernel
theorem d3_1 : decode jdk_29_method_69_code 1 = .ok (.iload_n 1, 1) := by decide +kernel
theorem d3_2 : decode jdk_29_method_69_code 2 = .ok (.if_icmp .gt 7, 3) := by decide +kernel
theorem d3_5 : decode jdk_29_method_69_code 5 = .ok (.iload_n 0, 1) := by decide +kernel
theorem d3_6 : decode jdk_29_method_69_code 6 = .ok (.goto 4, 3) := by decide +kernel
theorem d3_9 : decode jdk_29_method_69_code 9 = .ok (.iload_n 1, 1) := by decide +kernel
theorem d3_10 : decode jdk_29_method_69_code 10 = .ok (.ireturn, 1) := by decide +kernel
theorem ef_rmMin (m : MethodId) (p1 : Int32) (p2 : Int32) : entryFrame m #[(.int p1), (.int p2)] 2 = mkF m 0 #[.val (.int p1), .val (.int p2)] [] := by first | (simp [entryFrame, mkF, argsToLocals, Value.category]; done) | rfl
def Q_rmMin (Z : State) (p1 : Int32) (p2 : Int32) (h0 : Heap) (n0 : Nat) (v : Option Value) (h : Heap) (L : List Loc) : Prop := v = some (.int (own_min p1 p2)) ∧ Fr n0 L ∧ h = h0
set_option maxRecDepth 65536 in
set_option maxHeartbeats 40000000 in
theorem rmMin (l : Launch) (Z : State) (a0 : Array Value) (hw : ∀ d ∈ tables_1, d.before a0 Z = true) (ws : List Jvm.Cond) (p1 : Int32) (p2 : Int32) (h0 : Heap) (n0 : Nat) (Z0 : n0 ≤ h0.size)  :
    MetFree l (⟨"java/lang/Math", "min", "(II)I"⟩ : MethodName) (head1 (Jvm.Cond.code (⟨"java/lang/Math", "min", "(II)I"⟩ : MethodName) jdk_29_method_69_code 2 (some .int) :: ws) ({ frames := 0, cells := 0, slots := 0, locals := 0 } : Room)) (fun a U => a = #[(.int p1), (.int p2)] ∧ Z.Warmed39 U.vm ∧ U.heap = h0) (fun _ _ _ _ _ => True) (fun _ U o U' => ∃ v L, o = .returned v ∧ Q_rmMin Z p1 p2 h0 n0 v U'.heap L ∧ FrameEnd U o U' L ({ frames := 0, cells := 0, slots := 0, locals := 0 } : Room).cells ({ frames := 0, cells := 0, slots := 0, locals := 0 } : Room).slots) := by
  refine MetFree.of_bodySF (Jvm.Free.JP.mathPlain rfl (by decide +kernel)) hisR ?_
  intro p e s m args below meth c s₁ Bd hml0 hP hK
  obtain ⟨rfl, hZ, hh⟩ := hP
  have hx := Bd.exec
  have hby := Bd.bytes
  have hml : c.maxLocals = 2 := hml0
  have hown : s.vm.findClass "java/lang/Math" = some m.cls := findClass_of_methodNamed Bd.named
  have hnm := (name_of_methodNamed Bd.named Bd.method).1
  have hret := Bd.returns
  have hlk : meth.locks = false := BodyLoose.notSynchronized Bd
  have X0 : Stand p l e ({ frames := 0, cells := 0, slots := 0, locals := 0 } : Room) s m #[(.int p1), (.int p2)] below meth c s₁ [] 0 0 := Stand.of_body Bd
  have e0 : s₁.heap = h0 := by rw [← hh, Bd.state]; rfl
  have N0 := Fr.nil n0
  refine Rch.body (Q := Q_rmMin Z p1 p2 h0 n0) (U' := s₁.setTop (mkF m 0 #[.val (.int p1), .val (.int p2)] [])) (fun t k => castTop (ef_rmMin m p1 p2) k) ?_
  refine Rch.go (U' := s₁.setTop (mkF m 1 #[.val (.int p1), .val (.int p2)] [(.int p1)])) (fun _ k => XS.iloadN X0.here hx rfl (hb hby d3_0) rfl  k) ?_
  refine Rch.go (U' := s₁.setTop (mkF m 2 #[.val (.int p1), .val (.int p2)] [(.int p2), (.int p1)])) (fun _ k => XS.iloadN X0.here hx rfl (hb hby d3_1) rfl  k) ?_
  by_cases br2 : p2 < p1
  ·
    refine Rch.go (U' := s₁.setTop (mkF m 9 #[.val (.int p1), .val (.int p2)] [])) (fun _ k => XS.icmpYes X0.here hx rfl (pc0 := 2) (pc' := 9) rfl (hb hby d3_2) rfl (XT.ii_gt_t br2) (by decide) (by decide) k) ?_
    refine Rch.go (U' := s₁.setTop (mkF m 10 #[.val (.int p1), .val (.int p2)] [(.int p2)])) (fun _ k => XS.iloadN X0.here hx rfl (hb hby d3_9) rfl  k) ?_
    refine Rch.fin X0 hlk (v := some (.int p2)) (fun h => by rw [hret] at h; cases h) e0 (by decide) (by decide) (fun fs hr => retI X0 hx hret (hb hby d3_10) hr) ?_
    exact ⟨by simp only [own_min, br2, ↓reduceIte], N0, rfl⟩
  ·
    refine Rch.go (U' := s₁.setTop (mkF m 5 #[.val (.int p1), .val (.int p2)] [])) (fun _ k => XS.icmpNo X0.here hx rfl (hb hby d3_2) rfl (XT.ii_gt_f br2) k) ?_
    refine Rch.go (U' := s₁.setTop (mkF m 6 #[.val (.int p1), .val (.int p2)] [(.int p1)])) (fun _ k => XS.iloadN X0.here hx rfl (hb hby d3_5) rfl  k) ?_
    refine Rch.go (U' := s₁.setTop (mkF m 10 #[.val (.int p1), .val (.int p2)] [(.int p1)])) (fun _ k => XS.goto X0.here hx rfl (pc0 := 6) (pc' := 10) rfl (hb hby d3_6) (by decide) (by decide) k) ?_
    refine Rch.fin X0 hlk (v := some (.int p1)) (fun h => by rw [hret] at h; cases h) e0 (by decide) (by decide) (fun fs hr => retI X0 hx hret (hb hby d3_10) hr) ?_
    exact ⟨by simp only [own_min, br2, ↓reduceIte], N0, rfl⟩
/-- what holds answers: each of the second list stands in the first, both ascending -/
def own_holds : List Int32 → List Int32 → Int32
  | _, [] => 1
  | [], _ :: _ => 0
  | o :: os, a :: as => if o < a then own_holds os (a :: as) else if o = a then own_holds (o :: os) as else 0
termination_by xs ys => xs.length + ys.length
def own_H (xs ys : List Int32) (i j : Nat) : Int32 := own_holds (xs.drop i) (ys.drop j)
theorem own_dr (xs : List Int32) {i : Nat} (h : i < xs.length) : xs.drop i = xs.getD i 0 :: xs.drop (i + 1) := by
  rw [List.drop_eq_getElem_cons h]; simp [List.getD_eq_getElem?_getD, h]
theorem own_H_end (xs ys : List Int32) {i j : Nat} (h : ¬ j < ys.length) : own_H xs ys i j = 1 := by
  unfold own_H; rw [List.drop_eq_nil_of_le (as := ys) (by omega)]; unfold own_holds; rfl
theorem own_H_out (xs ys : List Int32) {i j : Nat} (h : ¬ i < xs.length) (hj : j < ys.length) : own_H xs ys i j = 0 := by
  unfold own_H; rw [List.drop_eq_nil_of_le (as := xs) (by omega), own_dr ys hj]; unfold own_holds; rfl
theorem own_H_skip (xs ys : List Int32) {i j : Nat} (h : i < xs.length) (hj : j < ys.length) (q : xs.getD i 0 < ys.getD j 0) : own_H xs ys i j = own_H xs ys (i + 1) j := by
  unfold own_H; rw [own_dr xs h, own_dr ys hj, own_holds, if_pos q]
theorem own_H_hit (xs ys : List Int32) {i j : Nat} (h : i < xs.length) (hj : j < ys.length) (q : ¬ xs.getD i 0 < ys.getD j 0) (q' : xs.getD i 0 = ys.getD j 0) : own_H xs ys i j = own_H xs ys i (j + 1) := by
  unfold own_H; rw [own_dr xs h, own_dr ys hj, own_holds, if_neg q, if_pos q']
theorem own_H_no (xs ys : List Int32) {i j : Nat} (h : i < xs.length) (hj : j < ys.length) (q : ¬ xs.getD i 0 < ys.getD j 0) (q' : ¬ xs.getD i 0 = ys.getD j 0) : own_H xs ys i j = 0 := by
  unfold own_H; rw [own_dr xs h, own_dr ys hj, own_holds, if_neg q, if_neg q']
theorem d16_0 : decode prog_37_method_5_code 0 = .ok (.iconst 0, 1) := by decide +kernel
theorem d16_1 : decode prog_37_method_5_code 1 = .ok (.istore_n 2, 1) := by decide +kernel
theorem d16_2 : decode prog_37_method_5_code 2 = .ok (.aload_n 1, 1) := by decide +kernel
theorem d16_3 : decode prog_37_method_5_code 3 = .ok (.astore_n 3, 1) := by decide +kernel
theorem d16_4 : decode prog_37_method_5_code 4 = .ok (.aload_n 3, 1) := by decide +kernel
theorem d16_5 : decode prog_37_method_5_code 5 = .ok (.arraylength, 1) := by decide +kernel
theorem d16_6 : decode prog_37_method_5_code 6 = .ok (.istore 4, 2) := by decide +kernel
theorem d16_8 : decode prog_37_method_5_code 8 = .ok (.iconst 0, 1) := by decide +kernel
theorem d16_9 : decode prog_37_method_5_code 9 = .ok (.istore 5, 2) := by decide +kernel
theorem d16_11 : decode prog_37_method_5_code 11 = .ok (.iload 5, 2) := by decide +kernel
theorem d16_13 : decode prog_37_method_5_code 13 = .ok (.iload 4, 2) := by decide +kernel
theorem d16_15 : decode prog_37_method_5_code 15 = .ok (.if_icmp .ge 51, 3) := by decide +kernel
theorem d16_18 : decode prog_37_method_5_code 18 = .ok (.aload_n 3, 1) := by decide +kernel
theorem d16_19 : decode prog_37_method_5_code 19 = .ok (.iload 5, 2) := by decide +kernel
theorem d16_21 : decode prog_37_method_5_code 21 = .ok (.iaload, 1) := by decide +kernel
theorem d16_22 : decode prog_37_method_5_code 22 = .ok (.istore 6, 2) := by decide +kernel
theorem d16_24 : decode prog_37_method_5_code 24 = .ok (.iload_n 2, 1) := by decide +kernel
theorem d16_25 : decode prog_37_method_5_code 25 = .ok (.aload_n 0, 1) := by decide +kernel
theorem d16_26 : decode prog_37_method_5_code 26 = .ok (.arraylength, 1) := by decide +kernel
theorem d16_27 : decode prog_37_method_5_code 27 = .ok (.if_icmp .ge 17, 3) := by decide +kernel
theorem d16_30 : decode prog_37_method_5_code 30 = .ok (.aload_n 0, 1) := by decide +kernel
theorem d16_31 : decode prog_37_method_5_code 31 = .ok (.iload_n 2, 1) := by decide +kernel
theorem d16_32 : decode prog_37_method_5_code 32 = .ok (.iaload, 1) := by decide +kernel
theorem d16_33 : decode prog_37_method_5_code 33 = .ok (.iload 6, 2) := by decide +kernel
theorem d16_35 : decode prog_37_method_5_code 35 = .ok (.if_icmp .ge 9, 3) := by decide +kernel
theorem d16_38 : decode prog_37_method_5_code 38 = .ok (.iinc 2 1, 3) := by decide +kernel
theorem d16_41 : decode prog_37_method_5_code 41 = .ok (.goto (-17), 3) := by decide +kernel
theorem d16_44 : decode prog_37_method_5_code 44 = .ok (.iload_n 2, 1) := by decide +kernel
theorem d16_45 : decode prog_37_method_5_code 45 = .ok (.aload_n 0, 1) := by decide +kernel
theorem d16_46 : decode prog_37_method_5_code 46 = .ok (.arraylength, 1) := by decide +kernel
theorem d16_47 : decode prog_37_method_5_code 47 = .ok (.if_icmp .eq 11, 3) := by decide +kernel
theorem d16_50 : decode prog_37_method_5_code 50 = .ok (.aload_n 0, 1) := by decide +kernel
theorem d16_51 : decode prog_37_method_5_code 51 = .ok (.iload_n 2, 1) := by decide +kernel
theorem d16_52 : decode prog_37_method_5_code 52 = .ok (.iaload, 1) := by decide +kernel
theorem d16_53 : decode prog_37_method_5_code 53 = .ok (.iload 6, 2) := by decide +kernel
theorem d16_55 : decode prog_37_method_5_code 55 = .ok (.if_icmp .eq 5, 3) := by decide +kernel
theorem d16_58 : decode prog_37_method_5_code 58 = .ok (.iconst 0, 1) := by decide +kernel
theorem d16_59 : decode prog_37_method_5_code 59 = .ok (.ireturn, 1) := by decide +kernel
theorem d16_60 : decode prog_37_method_5_code 60 = .ok (.iinc 5 1, 3) := by decide +kernel
theorem d16_63 : decode prog_37_method_5_code 63 = .ok (.goto (-52), 3) := by decide +kernel
theorem d16_66 : decode prog_37_method_5_code 66 = .ok (.iconst 1, 1) := by decide +kernel
theorem d16_67 : decode prog_37_method_5_code 67 = .ok (.ireturn, 1) := by decide +kernel
set_option maxRecDepth 65536 in
set_option maxHeartbeats 40000000 in
theorem loopH {p : Program} {l : Launch} {e : Env} {s : State} {m : MethodId} {args : Array Value} {below : List Frame} {meth : Method} {c : Code} {Z : State} {a0 : Array Value} {h0 : Heap} {n0 : Nat} {Q : Option Value → Heap → List Loc → Prop} (a1 : Addr) (a2 : Addr) (k1 : ClassId) (k2 : ClassId) (xs : List Int32) (ys : List Int32)
    (hx : p.tables.exec = Jvm.exec) (hZ : Z.Warmed39 s.vm) (hw : ∀ d ∈ tables_1, d.before a0 Z = true) (hby : c.code = prog_37_method_5_code) (hml : c.maxLocals = 7) (hown : s.vm.findClass "com/example/fixpoints_of_behaviour/fixpointsofbehaviour/bisimulation/Refusals" = some m.cls) (hret : meth.sig.returnType = some .boolean) (hlk : meth.locks = false) (Z0 : n0 ≤ h0.size) (V_a1 : Arv Z h0 a1 k1 .int (Int32.ofNat xs.length) (xs.map Value.int) (.int (0 : Int32))) (V_a2 : Arv Z h0 a2 k2 .int (Int32.ofNat ys.length) (ys.map Value.int) (.int (0 : Int32))) (hn1 : xs.length < 2147483648) (hn2 : ys.length < 2147483648) :
    ∀ (k : Nat) (i : Nat) (j : Nat) (T0 : State) (locs : List Loc), Stand p l e ({ frames := 0, cells := 0, slots := 0, locals := 0 } : Room) s m args below meth c T0 locs 0 0 → T0.heap = h0 → Fr n0 locs → i ≤ xs.length → j < ys.length → (∀ L', Fr n0 L' → Q (some (.int (own_H xs ys i j))) h0 L') → (xs.length - i) + (ys.length - j) < k → 
    Rch p e below (Fin s below Q 0 0) (T0.setTop (mkF m 24 #[.val (.ref a1), .val (.ref a2), .val (.int (Int32.ofNat i)), .val (.ref a2), .val (.int (Int32.ofNat ys.length)), .val (.int (Int32.ofNat j)), .val (.int (ys.getD j 0))] [])) := by
  intro k
  induction k with
  | zero =>
    intro i j T0 locs X0 e0 N0 hi hj hQ hk
    exact absurd hk (Nat.not_lt_zero _)
  | succ k ih =>
    intro i j T0 locs X0 e0 N0 hi hj hQ hk
    refine Rch.go (U' := T0.setTop (mkF m 25 #[.val (.ref a1), .val (.ref a2), .val (.int (Int32.ofNat i)), .val (.ref a2), .val (.int (Int32.ofNat ys.length)), .val (.int (Int32.ofNat j)), .val (.int (ys.getD j 0))] [(.int (Int32.ofNat i))])) (fun _ k => XS.iloadN X0.here hx rfl (hb hby d16_24) rfl  k) ?_
    refine Rch.go (U' := T0.setTop (mkF m 26 #[.val (.ref a1), .val (.ref a2), .val (.int (Int32.ofNat i)), .val (.ref a2), .val (.int (Int32.ofNat ys.length)), .val (.int (Int32.ofNat j)), .val (.int (ys.getD j 0))] [(.ref a1), (.int (Int32.ofNat i))])) (fun _ k => XS.aloadN X0.here hx rfl (hb hby d16_25) rfl rfl k) ?_
    obtain ⟨c3, Ar3, -, S3, M3, -, -⟩ := id V_a1
    refine Rch.go (U' := T0.setTop (mkF m 27 #[.val (.ref a1), .val (.ref a2), .val (.int (Int32.ofNat i)), .val (.ref a2), .val (.int (Int32.ofNat ys.length)), .val (.int (Int32.ofNat j)), .val (.int (ys.getD j 0))] [(.int c3.slots.size.toInt32), (.int (Int32.ofNat i))])) (fun _ k => X0.arraylength hx (by rw [e0]; exact Ar3.1) (State.isArrayOf_alike hZ.alike Ar3.2.1) (g := (mkF m 26 #[.val (.ref a1), .val (.ref a2), .val (.int (Int32.ofNat i)), .val (.ref a2), .val (.int (Int32.ofNat ys.length)), .val (.int (Int32.ofNat j)), .val (.int (ys.getD j 0))] [(.ref a1), (.int (Int32.ofNat i))])) rfl rfl (hb hby d16_26) _ k) ?_
    rw [len_of S3 M3]
    by_cases br4 : (Int32.ofNat i) < (Int32.ofNat xs.length)
    ·
      refine Rch.go (U' := T0.setTop (mkF m 30 #[.val (.ref a1), .val (.ref a2), .val (.int (Int32.ofNat i)), .val (.ref a2), .val (.int (Int32.ofNat ys.length)), .val (.int (Int32.ofNat j)), .val (.int (ys.getD j 0))] [])) (fun _ k => XS.icmpNo X0.here hx rfl (hb hby d16_27) rfl (XT.ii_ge_f br4) k) ?_
      refine Rch.go (U' := T0.setTop (mkF m 31 #[.val (.ref a1), .val (.ref a2), .val (.int (Int32.ofNat i)), .val (.ref a2), .val (.int (Int32.ofNat ys.length)), .val (.int (Int32.ofNat j)), .val (.int (ys.getD j 0))] [(.ref a1)])) (fun _ k => XS.aloadN X0.here hx rfl (hb hby d16_30) rfl rfl k) ?_
      refine Rch.go (U' := T0.setTop (mkF m 32 #[.val (.ref a1), .val (.ref a2), .val (.int (Int32.ofNat i)), .val (.ref a2), .val (.int (Int32.ofNat ys.length)), .val (.int (Int32.ofNat j)), .val (.int (ys.getD j 0))] [(.int (Int32.ofNat i)), (.ref a1)])) (fun _ k => XS.iloadN X0.here hx rfl (hb hby d16_31) rfl  k) ?_
      obtain ⟨c5, Ar5, q5, S5, M5, Hs5, G5⟩ := id V_a1
      have i5 : ¬ ((Int32.ofNat i) < 0 ∨ c5.slots.size ≤ ((Int32.ofNat i)).toNatClampNeg) := inb_of S5 (own_iin ((own_ilt (by omega) hn1).mp br4) hn1)
      have a5 : c5.slots[((Int32.ofNat i)).toNatClampNeg]? = some (.int (xs.getD i 0)) := Has.at Hs5 i5 (own_getI xs ((own_ilt (by omega) hn1).mp br4) (by omega))
      refine Rch.go (U' := T0.setTop (mkF m 33 #[.val (.ref a1), .val (.ref a2), .val (.int (Int32.ofNat i)), .val (.ref a2), .val (.int (Int32.ofNat ys.length)), .val (.int (Int32.ofNat j)), .val (.int (ys.getD j 0))] [(.int (xs.getD i 0))])) (fun _ k => X0.iaload hx (j := (Int32.ofNat i)) (v := (.int (xs.getD i 0))) (by rw [e0]; exact Ar5.1) (State.isArrayOf_alike hZ.alike Ar5.2.1) Ar5.2.2 i5 a5 (g := (mkF m 32 #[.val (.ref a1), .val (.ref a2), .val (.int (Int32.ofNat i)), .val (.ref a2), .val (.int (Int32.ofNat ys.length)), .val (.int (Int32.ofNat j)), .val (.int (ys.getD j 0))] [(.int (Int32.ofNat i)), (.ref a1)])) rfl rfl (hb hby d16_32) _ k) ?_
      refine Rch.go (U' := T0.setTop (mkF m 35 #[.val (.ref a1), .val (.ref a2), .val (.int (Int32.ofNat i)), .val (.ref a2), .val (.int (Int32.ofNat ys.length)), .val (.int (Int32.ofNat j)), .val (.int (ys.getD j 0))] [(.int (ys.getD j 0)), (.int (xs.getD i 0))])) (fun _ k => XS.iload X0.here hx rfl (hb hby d16_33) rfl  k) ?_
      by_cases br6 : (xs.getD i 0) < (ys.getD j 0)
      ·
        refine Rch.go (U' := T0.setTop (mkF m 38 #[.val (.ref a1), .val (.ref a2), .val (.int (Int32.ofNat i)), .val (.ref a2), .val (.int (Int32.ofNat ys.length)), .val (.int (Int32.ofNat j)), .val (.int (ys.getD j 0))] [])) (fun _ k => XS.icmpNo X0.here hx rfl (hb hby d16_35) rfl (XT.ii_ge_f br6) k) ?_
        refine Rch.go (U' := T0.setTop (mkF m 41 #[.val (.ref a1), .val (.ref a2), .val (.int ((Int32.ofNat i) + (1 : Int32))), .val (.ref a2), .val (.int (Int32.ofNat ys.length)), .val (.int (Int32.ofNat j)), .val (.int (ys.getD j 0))] [])) (fun _ k => XS.iinc X0.here hx rfl (hb hby d16_38) rfl (l' := #[.val (.ref a1), .val (.ref a2), .val (.int ((Int32.ofNat i) + (1 : Int32))), .val (.ref a2), .val (.int (Int32.ofNat ys.length)), .val (.int (Int32.ofNat j)), .val (.int (ys.getD j 0))]) rfl k) ?_
        rw [own_i1 i]
        refine Rch.go (U' := T0.setTop (mkF m 24 #[.val (.ref a1), .val (.ref a2), .val (.int (Int32.ofNat (i + 1))), .val (.ref a2), .val (.int (Int32.ofNat ys.length)), .val (.int (Int32.ofNat j)), .val (.int (ys.getD j 0))] [])) (fun _ k => XS.goto X0.here hx rfl (pc0 := 41) (pc' := 24) rfl (hb hby d16_41) (by decide) (by decide) k) ?_
        rw [own_H_skip xs ys ((own_ilt (by omega) hn1).mp br4) hj br6] at hQ
        exact ih (i + 1) j _ _ X0 e0 N0 (by have := (own_ilt (by omega) hn1).mp br4; omega) hj hQ (by have := (own_ilt (by omega) hn1).mp br4; omega)
      ·
        refine Rch.go (U' := T0.setTop (mkF m 44 #[.val (.ref a1), .val (.ref a2), .val (.int (Int32.ofNat i)), .val (.ref a2), .val (.int (Int32.ofNat ys.length)), .val (.int (Int32.ofNat j)), .val (.int (ys.getD j 0))] [])) (fun _ k => XS.icmpYes X0.here hx rfl (pc0 := 35) (pc' := 44) rfl (hb hby d16_35) rfl (XT.ii_ge_t br6) (by decide) (by decide) k) ?_
        refine Rch.go (U' := T0.setTop (mkF m 45 #[.val (.ref a1), .val (.ref a2), .val (.int (Int32.ofNat i)), .val (.ref a2), .val (.int (Int32.ofNat ys.length)), .val (.int (Int32.ofNat j)), .val (.int (ys.getD j 0))] [(.int (Int32.ofNat i))])) (fun _ k => XS.iloadN X0.here hx rfl (hb hby d16_44) rfl  k) ?_
        refine Rch.go (U' := T0.setTop (mkF m 46 #[.val (.ref a1), .val (.ref a2), .val (.int (Int32.ofNat i)), .val (.ref a2), .val (.int (Int32.ofNat ys.length)), .val (.int (Int32.ofNat j)), .val (.int (ys.getD j 0))] [(.ref a1), (.int (Int32.ofNat i))])) (fun _ k => XS.aloadN X0.here hx rfl (hb hby d16_45) rfl rfl k) ?_
        obtain ⟨c7, Ar7, -, S7, M7, -, -⟩ := id V_a1
        refine Rch.go (U' := T0.setTop (mkF m 47 #[.val (.ref a1), .val (.ref a2), .val (.int (Int32.ofNat i)), .val (.ref a2), .val (.int (Int32.ofNat ys.length)), .val (.int (Int32.ofNat j)), .val (.int (ys.getD j 0))] [(.int c7.slots.size.toInt32), (.int (Int32.ofNat i))])) (fun _ k => X0.arraylength hx (by rw [e0]; exact Ar7.1) (State.isArrayOf_alike hZ.alike Ar7.2.1) (g := (mkF m 46 #[.val (.ref a1), .val (.ref a2), .val (.int (Int32.ofNat i)), .val (.ref a2), .val (.int (Int32.ofNat ys.length)), .val (.int (Int32.ofNat j)), .val (.int (ys.getD j 0))] [(.ref a1), (.int (Int32.ofNat i))])) rfl rfl (hb hby d16_46) _ k) ?_
        rw [len_of S7 M7]
        have br8 : ¬ ((Int32.ofNat i) = (Int32.ofNat xs.length)) := fun q => absurd ((own_ilt (by omega) hn1).mp br4) (by have := (own_ieq (by omega) hn1).mp q; omega)
        refine Rch.go (U' := T0.setTop (mkF m 50 #[.val (.ref a1), .val (.ref a2), .val (.int (Int32.ofNat i)), .val (.ref a2), .val (.int (Int32.ofNat ys.length)), .val (.int (Int32.ofNat j)), .val (.int (ys.getD j 0))] [])) (fun _ k => XS.icmpNo X0.here hx rfl (hb hby d16_47) rfl (XT.ii_eq_f br8) k) ?_
        refine Rch.go (U' := T0.setTop (mkF m 51 #[.val (.ref a1), .val (.ref a2), .val (.int (Int32.ofNat i)), .val (.ref a2), .val (.int (Int32.ofNat ys.length)), .val (.int (Int32.ofNat j)), .val (.int (ys.getD j 0))] [(.ref a1)])) (fun _ k => XS.aloadN X0.here hx rfl (hb hby d16_50) rfl rfl k) ?_
        refine Rch.go (U' := T0.setTop (mkF m 52 #[.val (.ref a1), .val (.ref a2), .val (.int (Int32.ofNat i)), .val (.ref a2), .val (.int (Int32.ofNat ys.length)), .val (.int (Int32.ofNat j)), .val (.int (ys.getD j 0))] [(.int (Int32.ofNat i)), (.ref a1)])) (fun _ k => XS.iloadN X0.here hx rfl (hb hby d16_51) rfl  k) ?_
        obtain ⟨c9, Ar9, q9, S9, M9, Hs9, G9⟩ := id V_a1
        have i9 : ¬ ((Int32.ofNat i) < 0 ∨ c9.slots.size ≤ ((Int32.ofNat i)).toNatClampNeg) := inb_of S9 (own_iin ((own_ilt (by omega) hn1).mp br4) hn1)
        have a9 : c9.slots[((Int32.ofNat i)).toNatClampNeg]? = some (.int (xs.getD i 0)) := Has.at Hs9 i9 (own_getI xs ((own_ilt (by omega) hn1).mp br4) (by omega))
        refine Rch.go (U' := T0.setTop (mkF m 53 #[.val (.ref a1), .val (.ref a2), .val (.int (Int32.ofNat i)), .val (.ref a2), .val (.int (Int32.ofNat ys.length)), .val (.int (Int32.ofNat j)), .val (.int (ys.getD j 0))] [(.int (xs.getD i 0))])) (fun _ k => X0.iaload hx (j := (Int32.ofNat i)) (v := (.int (xs.getD i 0))) (by rw [e0]; exact Ar9.1) (State.isArrayOf_alike hZ.alike Ar9.2.1) Ar9.2.2 i9 a9 (g := (mkF m 52 #[.val (.ref a1), .val (.ref a2), .val (.int (Int32.ofNat i)), .val (.ref a2), .val (.int (Int32.ofNat ys.length)), .val (.int (Int32.ofNat j)), .val (.int (ys.getD j 0))] [(.int (Int32.ofNat i)), (.ref a1)])) rfl rfl (hb hby d16_52) _ k) ?_
        refine Rch.go (U' := T0.setTop (mkF m 55 #[.val (.ref a1), .val (.ref a2), .val (.int (Int32.ofNat i)), .val (.ref a2), .val (.int (Int32.ofNat ys.length)), .val (.int (Int32.ofNat j)), .val (.int (ys.getD j 0))] [(.int (ys.getD j 0)), (.int (xs.getD i 0))])) (fun _ k => XS.iload X0.here hx rfl (hb hby d16_53) rfl  k) ?_
        by_cases br10 : (xs.getD i 0) = (ys.getD j 0)
        ·
          refine Rch.go (U' := T0.setTop (mkF m 60 #[.val (.ref a1), .val (.ref a2), .val (.int (Int32.ofNat i)), .val (.ref a2), .val (.int (Int32.ofNat ys.length)), .val (.int (Int32.ofNat j)), .val (.int (ys.getD j 0))] [])) (fun _ k => XS.icmpYes X0.here hx rfl (pc0 := 55) (pc' := 60) rfl (hb hby d16_55) rfl (XT.ii_eq_t br10) (by decide) (by decide) k) ?_
          refine Rch.go (U' := T0.setTop (mkF m 63 #[.val (.ref a1), .val (.ref a2), .val (.int (Int32.ofNat i)), .val (.ref a2), .val (.int (Int32.ofNat ys.length)), .val (.int ((Int32.ofNat j) + (1 : Int32))), .val (.int (ys.getD j 0))] [])) (fun _ k => XS.iinc X0.here hx rfl (hb hby d16_60) rfl (l' := #[.val (.ref a1), .val (.ref a2), .val (.int (Int32.ofNat i)), .val (.ref a2), .val (.int (Int32.ofNat ys.length)), .val (.int ((Int32.ofNat j) + (1 : Int32))), .val (.int (ys.getD j 0))]) rfl k) ?_
          rw [own_i1 j]
          refine Rch.go (U' := T0.setTop (mkF m 11 #[.val (.ref a1), .val (.ref a2), .val (.int (Int32.ofNat i)), .val (.ref a2), .val (.int (Int32.ofNat ys.length)), .val (.int (Int32.ofNat (j + 1))), .val (.int (ys.getD j 0))] [])) (fun _ k => XS.goto X0.here hx rfl (pc0 := 63) (pc' := 11) rfl (hb hby d16_63) (by decide) (by decide) k) ?_
          refine Rch.go (U' := T0.setTop (mkF m 13 #[.val (.ref a1), .val (.ref a2), .val (.int (Int32.ofNat i)), .val (.ref a2), .val (.int (Int32.ofNat ys.length)), .val (.int (Int32.ofNat (j + 1))), .val (.int (ys.getD j 0))] [(.int (Int32.ofNat (j + 1)))])) (fun _ k => XS.iload X0.here hx rfl (hb hby d16_11) rfl  k) ?_
          refine Rch.go (U' := T0.setTop (mkF m 15 #[.val (.ref a1), .val (.ref a2), .val (.int (Int32.ofNat i)), .val (.ref a2), .val (.int (Int32.ofNat ys.length)), .val (.int (Int32.ofNat (j + 1))), .val (.int (ys.getD j 0))] [(.int (Int32.ofNat ys.length)), (.int (Int32.ofNat (j + 1)))])) (fun _ k => XS.iload X0.here hx rfl (hb hby d16_13) rfl  k) ?_
          by_cases br11 : (Int32.ofNat (j + 1)) < (Int32.ofNat ys.length)
          ·
            refine Rch.go (U' := T0.setTop (mkF m 18 #[.val (.ref a1), .val (.ref a2), .val (.int (Int32.ofNat i)), .val (.ref a2), .val (.int (Int32.ofNat ys.length)), .val (.int (Int32.ofNat (j + 1))), .val (.int (ys.getD j 0))] [])) (fun _ k => XS.icmpNo X0.here hx rfl (hb hby d16_15) rfl (XT.ii_ge_f br11) k) ?_
            refine Rch.go (U' := T0.setTop (mkF m 19 #[.val (.ref a1), .val (.ref a2), .val (.int (Int32.ofNat i)), .val (.ref a2), .val (.int (Int32.ofNat ys.length)), .val (.int (Int32.ofNat (j + 1))), .val (.int (ys.getD j 0))] [(.ref a2)])) (fun _ k => XS.aloadN X0.here hx rfl (hb hby d16_18) rfl rfl k) ?_
            refine Rch.go (U' := T0.setTop (mkF m 21 #[.val (.ref a1), .val (.ref a2), .val (.int (Int32.ofNat i)), .val (.ref a2), .val (.int (Int32.ofNat ys.length)), .val (.int (Int32.ofNat (j + 1))), .val (.int (ys.getD j 0))] [(.int (Int32.ofNat (j + 1))), (.ref a2)])) (fun _ k => XS.iload X0.here hx rfl (hb hby d16_19) rfl  k) ?_
            obtain ⟨c12, Ar12, q12, S12, M12, Hs12, G12⟩ := id V_a2
            have i12 : ¬ ((Int32.ofNat (j + 1)) < 0 ∨ c12.slots.size ≤ ((Int32.ofNat (j + 1))).toNatClampNeg) := inb_of S12 (own_iin ((own_ilt (by omega) hn2).mp br11) hn2)
            have a12 : c12.slots[((Int32.ofNat (j + 1))).toNatClampNeg]? = some (.int (ys.getD (j + 1) 0)) := Has.at Hs12 i12 (own_getI ys ((own_ilt (by omega) hn2).mp br11) (by omega))
            refine Rch.go (U' := T0.setTop (mkF m 22 #[.val (.ref a1), .val (.ref a2), .val (.int (Int32.ofNat i)), .val (.ref a2), .val (.int (Int32.ofNat ys.length)), .val (.int (Int32.ofNat (j + 1))), .val (.int (ys.getD j 0))] [(.int (ys.getD (j + 1) 0))])) (fun _ k => X0.iaload hx (j := (Int32.ofNat (j + 1))) (v := (.int (ys.getD (j + 1) 0))) (by rw [e0]; exact Ar12.1) (State.isArrayOf_alike hZ.alike Ar12.2.1) Ar12.2.2 i12 a12 (g := (mkF m 21 #[.val (.ref a1), .val (.ref a2), .val (.int (Int32.ofNat i)), .val (.ref a2), .val (.int (Int32.ofNat ys.length)), .val (.int (Int32.ofNat (j + 1))), .val (.int (ys.getD j 0))] [(.int (Int32.ofNat (j + 1))), (.ref a2)])) rfl rfl (hb hby d16_21) _ k) ?_
            refine Rch.go (U' := T0.setTop (mkF m 24 #[.val (.ref a1), .val (.ref a2), .val (.int (Int32.ofNat i)), .val (.ref a2), .val (.int (Int32.ofNat ys.length)), .val (.int (Int32.ofNat (j + 1))), .val (.int (ys.getD (j + 1) 0))] [])) (fun _ k => XS.istore X0.here hx rfl (hb hby d16_22) rfl (l' := #[.val (.ref a1), .val (.ref a2), .val (.int (Int32.ofNat i)), .val (.ref a2), .val (.int (Int32.ofNat ys.length)), .val (.int (Int32.ofNat (j + 1))), .val (.int (ys.getD (j + 1) 0))]) rfl k) ?_
            rw [own_H_hit xs ys ((own_ilt (by omega) hn1).mp br4) hj br6 br10] at hQ
            exact ih i (j + 1) _ _ X0 e0 N0 (by omega) ((own_ilt (by omega) hn2).mp br11) hQ (by have := (own_ilt (by omega) hn1).mp br4; have := (own_ilt (by omega) hn2).mp br11; omega)
          ·
            refine Rch.go (U' := T0.setTop (mkF m 66 #[.val (.ref a1), .val (.ref a2), .val (.int (Int32.ofNat i)), .val (.ref a2), .val (.int (Int32.ofNat ys.length)), .val (.int (Int32.ofNat (j + 1))), .val (.int (ys.getD j 0))] [])) (fun _ k => XS.icmpYes X0.here hx rfl (pc0 := 15) (pc' := 66) rfl (hb hby d16_15) rfl (XT.ii_ge_t br11) (by decide) (by decide) k) ?_
            refine Rch.go (U' := T0.setTop (mkF m 67 #[.val (.ref a1), .val (.ref a2), .val (.int (Int32.ofNat i)), .val (.ref a2), .val (.int (Int32.ofNat ys.length)), .val (.int (Int32.ofNat (j + 1))), .val (.int (ys.getD j 0))] [(.int (1 : Int32))])) (fun _ k => XS.iconst X0.here hx rfl (hb hby d16_66) k) ?_
            refine Rch.fin X0 hlk (v := some (.int (nar .boolean (1 : Int32)))) (fun h => by rw [hret] at h; cases h) e0 (by decide) (by decide) (fun fs hr => retN X0 hx (t := .boolean) hret (by simp) (hb hby d16_67) hr) ?_
            rw [own_H_hit xs ys ((own_ilt (by omega) hn1).mp br4) hj br6 br10, own_H_end xs ys (fun q => br11 ((own_ilt (by omega) hn2).mpr q))] at hQ
            exact hQ _ N0
        ·
          refine Rch.go (U' := T0.setTop (mkF m 58 #[.val (.ref a1), .val (.ref a2), .val (.int (Int32.ofNat i)), .val (.ref a2), .val (.int (Int32.ofNat ys.length)), .val (.int (Int32.ofNat j)), .val (.int (ys.getD j 0))] [])) (fun _ k => XS.icmpNo X0.here hx rfl (hb hby d16_55) rfl (XT.ii_eq_f br10) k) ?_
          refine Rch.go (U' := T0.setTop (mkF m 59 #[.val (.ref a1), .val (.ref a2), .val (.int (Int32.ofNat i)), .val (.ref a2), .val (.int (Int32.ofNat ys.length)), .val (.int (Int32.ofNat j)), .val (.int (ys.getD j 0))] [(.int (0 : Int32))])) (fun _ k => XS.iconst X0.here hx rfl (hb hby d16_58) k) ?_
          refine Rch.fin X0 hlk (v := some (.int (nar .boolean (0 : Int32)))) (fun h => by rw [hret] at h; cases h) e0 (by decide) (by decide) (fun fs hr => retN X0 hx (t := .boolean) hret (by simp) (hb hby d16_59) hr) ?_
          rw [own_H_no xs ys ((own_ilt (by omega) hn1).mp br4) hj br6 br10] at hQ
          exact hQ _ N0
    ·
      refine Rch.go (U' := T0.setTop (mkF m 44 #[.val (.ref a1), .val (.ref a2), .val (.int (Int32.ofNat i)), .val (.ref a2), .val (.int (Int32.ofNat ys.length)), .val (.int (Int32.ofNat j)), .val (.int (ys.getD j 0))] [])) (fun _ k => XS.icmpYes X0.here hx rfl (pc0 := 27) (pc' := 44) rfl (hb hby d16_27) rfl (XT.ii_ge_t br4) (by decide) (by decide) k) ?_
      refine Rch.go (U' := T0.setTop (mkF m 45 #[.val (.ref a1), .val (.ref a2), .val (.int (Int32.ofNat i)), .val (.ref a2), .val (.int (Int32.ofNat ys.length)), .val (.int (Int32.ofNat j)), .val (.int (ys.getD j 0))] [(.int (Int32.ofNat i))])) (fun _ k => XS.iloadN X0.here hx rfl (hb hby d16_44) rfl  k) ?_
      refine Rch.go (U' := T0.setTop (mkF m 46 #[.val (.ref a1), .val (.ref a2), .val (.int (Int32.ofNat i)), .val (.ref a2), .val (.int (Int32.ofNat ys.length)), .val (.int (Int32.ofNat j)), .val (.int (ys.getD j 0))] [(.ref a1), (.int (Int32.ofNat i))])) (fun _ k => XS.aloadN X0.here hx rfl (hb hby d16_45) rfl rfl k) ?_
      obtain ⟨c13, Ar13, -, S13, M13, -, -⟩ := id V_a1
      refine Rch.go (U' := T0.setTop (mkF m 47 #[.val (.ref a1), .val (.ref a2), .val (.int (Int32.ofNat i)), .val (.ref a2), .val (.int (Int32.ofNat ys.length)), .val (.int (Int32.ofNat j)), .val (.int (ys.getD j 0))] [(.int c13.slots.size.toInt32), (.int (Int32.ofNat i))])) (fun _ k => X0.arraylength hx (by rw [e0]; exact Ar13.1) (State.isArrayOf_alike hZ.alike Ar13.2.1) (g := (mkF m 46 #[.val (.ref a1), .val (.ref a2), .val (.int (Int32.ofNat i)), .val (.ref a2), .val (.int (Int32.ofNat ys.length)), .val (.int (Int32.ofNat j)), .val (.int (ys.getD j 0))] [(.ref a1), (.int (Int32.ofNat i))])) rfl rfl (hb hby d16_46) _ k) ?_
      rw [len_of S13 M13]
      have br14 : (Int32.ofNat i) = (Int32.ofNat xs.length) := (own_ieq (by omega) hn1).mpr (by have q0 : ¬ i < xs.length := fun q => br4 ((own_ilt (by omega) hn1).mpr q); omega)
      refine Rch.go (U' := T0.setTop (mkF m 58 #[.val (.ref a1), .val (.ref a2), .val (.int (Int32.ofNat i)), .val (.ref a2), .val (.int (Int32.ofNat ys.length)), .val (.int (Int32.ofNat j)), .val (.int (ys.getD j 0))] [])) (fun _ k => XS.icmpYes X0.here hx rfl (pc0 := 47) (pc' := 58) rfl (hb hby d16_47) rfl (XT.ii_eq_t br14) (by decide) (by decide) k) ?_
      refine Rch.go (U' := T0.setTop (mkF m 59 #[.val (.ref a1), .val (.ref a2), .val (.int (Int32.ofNat i)), .val (.ref a2), .val (.int (Int32.ofNat ys.length)), .val (.int (Int32.ofNat j)), .val (.int (ys.getD j 0))] [(.int (0 : Int32))])) (fun _ k => XS.iconst X0.here hx rfl (hb hby d16_58) k) ?_
      refine Rch.fin X0 hlk (v := some (.int (nar .boolean (0 : Int32)))) (fun h => by rw [hret] at h; cases h) e0 (by decide) (by decide) (fun fs hr => retN X0 hx (t := .boolean) hret (by simp) (hb hby d16_59) hr) ?_
      rw [own_H_out xs ys (fun q => br4 ((own_ilt (by omega) hn1).mpr q)) hj] at hQ
      exact hQ _ N0
theorem pn_com_example_fixpoints_of_behaviour_fixpointsofbehaviour_bisimulation_Refusals : plainName "com/example/fixpoints_of_behaviour/fixpointsofbehaviour/bisimulation/Refusals" = true := by first | (simp [plainName, overriddenIn]; done) | decide +kernel
theorem ef_rmH (m : MethodId) (a1 : Addr) (a2 : Addr) : entryFrame m #[(.ref a1), (.ref a2)] 7 = mkF m 0 #[.val (.ref a1), .val (.ref a2), .unset, .unset, .unset, .unset, .unset] [] := by first | (simp [entryFrame, mkF, argsToLocals, Value.category]; done) | rfl
def Q_rmH (Z : State) (a1 : Addr) (a2 : Addr) (k1 : ClassId) (k2 : ClassId) (xs : List Int32) (ys : List Int32) (h0 : Heap) (n0 : Nat) (v : Option Value) (h : Heap) (L : List Loc) : Prop := v = some (.int (own_H xs ys 0 0)) ∧ Fr n0 L ∧ h = h0
set_option maxRecDepth 65536 in
set_option maxHeartbeats 40000000 in
theorem rmH (l : Launch) (Z : State) (a0 : Array Value) (hw : ∀ d ∈ tables_1, d.before a0 Z = true) (ws : List Jvm.Cond) (a1 : Addr) (a2 : Addr) (k1 : ClassId) (k2 : ClassId) (xs : List Int32) (ys : List Int32) (h0 : Heap) (n0 : Nat) (Z0 : n0 ≤ h0.size) (V_a1 : Arv Z h0 a1 k1 .int (Int32.ofNat xs.length) (xs.map Value.int) (.int (0 : Int32))) (V_a2 : Arv Z h0 a2 k2 .int (Int32.ofNat ys.length) (ys.map Value.int) (.int (0 : Int32))) (hn1 : xs.length < 2147483648) (hn2 : ys.length < 2147483648) :
    MetFree l (⟨"com/example/fixpoints_of_behaviour/fixpointsofbehaviour/bisimulation/Refusals", "holds", "([I[I)Z"⟩ : MethodName) (head1 (Jvm.Cond.code (⟨"com/example/fixpoints_of_behaviour/fixpointsofbehaviour/bisimulation/Refusals", "holds", "([I[I)Z"⟩ : MethodName) prog_37_method_5_code 7 (some .boolean) :: ws) ({ frames := 0, cells := 0, slots := 0, locals := 0 } : Room)) (fun a U => a = #[(.ref a1), (.ref a2)] ∧ Z.Warmed39 U.vm ∧ U.heap = h0) (fun _ _ _ _ _ => True) (fun _ U o U' => ∃ v L, o = .returned v ∧ Q_rmH Z a1 a2 k1 k2 xs ys h0 n0 v U'.heap L ∧ FrameEnd U o U' L ({ frames := 0, cells := 0, slots := 0, locals := 0 } : Room).cells ({ frames := 0, cells := 0, slots := 0, locals := 0 } : Room).slots) := by
  refine MetFree.of_bodySF (plainFor_of_name pn_com_example_fixpoints_of_behaviour_fixpointsofbehaviour_bisimulation_Refusals) hisR ?_
  intro p e s m args below meth c s₁ Bd hml0 hP hK
  obtain ⟨rfl, hZ, hh⟩ := hP
  have hx := Bd.exec
  have hby := Bd.bytes
  have hml : c.maxLocals = 7 := hml0
  have hown : s.vm.findClass "com/example/fixpoints_of_behaviour/fixpointsofbehaviour/bisimulation/Refusals" = some m.cls := findClass_of_methodNamed Bd.named
  have hnm := (name_of_methodNamed Bd.named Bd.method).1
  have hret := Bd.returns
  have hlk : meth.locks = false := BodyLoose.notSynchronized Bd
  have X0 : Stand p l e ({ frames := 0, cells := 0, slots := 0, locals := 0 } : Room) s m #[(.ref a1), (.ref a2)] below meth c s₁ [] 0 0 := Stand.of_body Bd
  have e0 : s₁.heap = h0 := by rw [← hh, Bd.state]; rfl
  have N0 := Fr.nil n0
  refine Rch.body (Q := Q_rmH Z a1 a2 k1 k2 xs ys h0 n0) (U' := s₁.setTop (mkF m 0 #[.val (.ref a1), .val (.ref a2), .unset, .unset, .unset, .unset, .unset] [])) (fun t k => castTop (ef_rmH m a1 a2) k) ?_
  refine Rch.go (U' := s₁.setTop (mkF m 1 #[.val (.ref a1), .val (.ref a2), .unset, .unset, .unset, .unset, .unset] [(.int (0 : Int32))])) (fun _ k => XS.iconst X0.here hx rfl (hb hby d16_0) k) ?_
  refine Rch.go (U' := s₁.setTop (mkF m 2 #[.val (.ref a1), .val (.ref a2), .val (.int (0 : Int32)), .unset, .unset, .unset, .unset] [])) (fun _ k => XS.istoreN X0.here hx rfl (hb hby d16_1) rfl (l' := #[.val (.ref a1), .val (.ref a2), .val (.int (0 : Int32)), .unset, .unset, .unset, .unset]) rfl k) ?_
  refine Rch.go (U' := s₁.setTop (mkF m 3 #[.val (.ref a1), .val (.ref a2), .val (.int (0 : Int32)), .unset, .unset, .unset, .unset] [(.ref a2)])) (fun _ k => XS.aloadN X0.here hx rfl (hb hby d16_2) rfl rfl k) ?_
  refine Rch.go (U' := s₁.setTop (mkF m 4 #[.val (.ref a1), .val (.ref a2), .val (.int (0 : Int32)), .val (.ref a2), .unset, .unset, .unset] [])) (fun _ k => XS.astoreN X0.here hx rfl (hb hby d16_3) rfl rfl (l' := #[.val (.ref a1), .val (.ref a2), .val (.int (0 : Int32)), .val (.ref a2), .unset, .unset, .unset]) rfl k) ?_
  refine Rch.go (U' := s₁.setTop (mkF m 5 #[.val (.ref a1), .val (.ref a2), .val (.int (0 : Int32)), .val (.ref a2), .unset, .unset, .unset] [(.ref a2)])) (fun _ k => XS.aloadN X0.here hx rfl (hb hby d16_4) rfl rfl k) ?_
  obtain ⟨c15, Ar15, -, S15, M15, -, -⟩ := id V_a2
  refine Rch.go (U' := s₁.setTop (mkF m 6 #[.val (.ref a1), .val (.ref a2), .val (.int (0 : Int32)), .val (.ref a2), .unset, .unset, .unset] [(.int c15.slots.size.toInt32)])) (fun _ k => X0.arraylength hx (by rw [e0]; exact Ar15.1) (State.isArrayOf_alike hZ.alike Ar15.2.1) (g := (mkF m 5 #[.val (.ref a1), .val (.ref a2), .val (.int (0 : Int32)), .val (.ref a2), .unset, .unset, .unset] [(.ref a2)])) rfl rfl (hb hby d16_5) _ k) ?_
  rw [len_of S15 M15]
  refine Rch.go (U' := s₁.setTop (mkF m 8 #[.val (.ref a1), .val (.ref a2), .val (.int (0 : Int32)), .val (.ref a2), .val (.int (Int32.ofNat ys.length)), .unset, .unset] [])) (fun _ k => XS.istore X0.here hx rfl (hb hby d16_6) rfl (l' := #[.val (.ref a1), .val (.ref a2), .val (.int (0 : Int32)), .val (.ref a2), .val (.int (Int32.ofNat ys.length)), .unset, .unset]) rfl k) ?_
  refine Rch.go (U' := s₁.setTop (mkF m 9 #[.val (.ref a1), .val (.ref a2), .val (.int (0 : Int32)), .val (.ref a2), .val (.int (Int32.ofNat ys.length)), .unset, .unset] [(.int (0 : Int32))])) (fun _ k => XS.iconst X0.here hx rfl (hb hby d16_8) k) ?_
  refine Rch.go (U' := s₁.setTop (mkF m 11 #[.val (.ref a1), .val (.ref a2), .val (.int (0 : Int32)), .val (.ref a2), .val (.int (Int32.ofNat ys.length)), .val (.int (0 : Int32)), .unset] [])) (fun _ k => XS.istore X0.here hx rfl (hb hby d16_9) rfl (l' := #[.val (.ref a1), .val (.ref a2), .val (.int (0 : Int32)), .val (.ref a2), .val (.int (Int32.ofNat ys.length)), .val (.int (0 : Int32)), .unset]) rfl k) ?_
  show Rch p e below _ (s₁.setTop (mkF m 11 #[.val (.ref a1), .val (.ref a2), .val (.int (Int32.ofNat 0)), .val (.ref a2), .val (.int (Int32.ofNat ys.length)), .val (.int (Int32.ofNat 0)), .unset] []))
  refine Rch.go (U' := s₁.setTop (mkF m 13 #[.val (.ref a1), .val (.ref a2), .val (.int (Int32.ofNat 0)), .val (.ref a2), .val (.int (Int32.ofNat ys.length)), .val (.int (Int32.ofNat 0)), .unset] [(.int (Int32.ofNat 0))])) (fun _ k => XS.iload X0.here hx rfl (hb hby d16_11) rfl  k) ?_
  refine Rch.go (U' := s₁.setTop (mkF m 15 #[.val (.ref a1), .val (.ref a2), .val (.int (Int32.ofNat 0)), .val (.ref a2), .val (.int (Int32.ofNat ys.length)), .val (.int (Int32.ofNat 0)), .unset] [(.int (Int32.ofNat ys.length)), (.int (Int32.ofNat 0))])) (fun _ k => XS.iload X0.here hx rfl (hb hby d16_13) rfl  k) ?_
  by_cases br16 : (Int32.ofNat 0) < (Int32.ofNat ys.length)
  ·
    refine Rch.go (U' := s₁.setTop (mkF m 18 #[.val (.ref a1), .val (.ref a2), .val (.int (Int32.ofNat 0)), .val (.ref a2), .val (.int (Int32.ofNat ys.length)), .val (.int (Int32.ofNat 0)), .unset] [])) (fun _ k => XS.icmpNo X0.here hx rfl (hb hby d16_15) rfl (XT.ii_ge_f br16) k) ?_
    refine Rch.go (U' := s₁.setTop (mkF m 19 #[.val (.ref a1), .val (.ref a2), .val (.int (Int32.ofNat 0)), .val (.ref a2), .val (.int (Int32.ofNat ys.length)), .val (.int (Int32.ofNat 0)), .unset] [(.ref a2)])) (fun _ k => XS.aloadN X0.here hx rfl (hb hby d16_18) rfl rfl k) ?_
    refine Rch.go (U' := s₁.setTop (mkF m 21 #[.val (.ref a1), .val (.ref a2), .val (.int (Int32.ofNat 0)), .val (.ref a2), .val (.int (Int32.ofNat ys.length)), .val (.int (Int32.ofNat 0)), .unset] [(.int (Int32.ofNat 0)), (.ref a2)])) (fun _ k => XS.iload X0.here hx rfl (hb hby d16_19) rfl  k) ?_
    obtain ⟨c17, Ar17, q17, S17, M17, Hs17, G17⟩ := id V_a2
    have i17 : ¬ ((Int32.ofNat 0) < 0 ∨ c17.slots.size ≤ ((Int32.ofNat 0)).toNatClampNeg) := inb_of S17 (own_iin ((own_ilt (by omega) hn2).mp br16) hn2)
    have a17 : c17.slots[((Int32.ofNat 0)).toNatClampNeg]? = some (.int (ys.getD 0 0)) := Has.at Hs17 i17 (own_getI ys ((own_ilt (by omega) hn2).mp br16) (by omega))
    refine Rch.go (U' := s₁.setTop (mkF m 22 #[.val (.ref a1), .val (.ref a2), .val (.int (Int32.ofNat 0)), .val (.ref a2), .val (.int (Int32.ofNat ys.length)), .val (.int (Int32.ofNat 0)), .unset] [(.int (ys.getD 0 0))])) (fun _ k => X0.iaload hx (j := (Int32.ofNat 0)) (v := (.int (ys.getD 0 0))) (by rw [e0]; exact Ar17.1) (State.isArrayOf_alike hZ.alike Ar17.2.1) Ar17.2.2 i17 a17 (g := (mkF m 21 #[.val (.ref a1), .val (.ref a2), .val (.int (Int32.ofNat 0)), .val (.ref a2), .val (.int (Int32.ofNat ys.length)), .val (.int (Int32.ofNat 0)), .unset] [(.int (Int32.ofNat 0)), (.ref a2)])) rfl rfl (hb hby d16_21) _ k) ?_
    refine Rch.go (U' := s₁.setTop (mkF m 24 #[.val (.ref a1), .val (.ref a2), .val (.int (Int32.ofNat 0)), .val (.ref a2), .val (.int (Int32.ofNat ys.length)), .val (.int (Int32.ofNat 0)), .val (.int (ys.getD 0 0))] [])) (fun _ k => XS.istore X0.here hx rfl (hb hby d16_22) rfl (l' := #[.val (.ref a1), .val (.ref a2), .val (.int (Int32.ofNat 0)), .val (.ref a2), .val (.int (Int32.ofNat ys.length)), .val (.int (Int32.ofNat 0)), .val (.int (ys.getD 0 0))]) rfl k) ?_
    exact loopH a1 a2 k1 k2 xs ys hx hZ hw hby hml hown hret hlk Z0 V_a1 V_a2 hn1 hn2 (xs.length + ys.length + 1) 0 0 _ _ X0 e0 N0 (by omega) ((own_ilt (by omega) hn2).mp br16) (fun L' hL => ⟨rfl, hL, rfl⟩) (by omega)
  ·
    refine Rch.go (U' := s₁.setTop (mkF m 66 #[.val (.ref a1), .val (.ref a2), .val (.int (Int32.ofNat 0)), .val (.ref a2), .val (.int (Int32.ofNat ys.length)), .val (.int (Int32.ofNat 0)), .unset] [])) (fun _ k => XS.icmpYes X0.here hx rfl (pc0 := 15) (pc' := 66) rfl (hb hby d16_15) rfl (XT.ii_ge_t br16) (by decide) (by decide) k) ?_
    refine Rch.go (U' := s₁.setTop (mkF m 67 #[.val (.ref a1), .val (.ref a2), .val (.int (Int32.ofNat 0)), .val (.ref a2), .val (.int (Int32.ofNat ys.length)), .val (.int (Int32.ofNat 0)), .unset] [(.int (1 : Int32))])) (fun _ k => XS.iconst X0.here hx rfl (hb hby d16_66) k) ?_
    refine Rch.fin X0 hlk (v := some (.int (nar .boolean (1 : Int32)))) (fun h => by rw [hret] at h; cases h) e0 (by decide) (by decide) (fun fs hr => retN X0 hx (t := .boolean) hret (by simp) (hb hby d16_67) hr) ?_
    exact ⟨by rw [own_H_end xs ys (fun q => br16 ((own_ilt (by omega) hn2).mpr q))]; rfl, N0, rfl⟩
def own_pick : List Bool → List Int32 → List Int32
  | true :: bs, x :: xs => x :: own_pick bs xs
  | false :: bs, _ :: xs => own_pick bs xs
  | _, _ => []
def own_bits (m : Int32) : List Bool := [(m &&& 1) != 0, (m &&& 2) != 0, (m &&& 4) != 0, (m &&& 8) != 0]
def own_sub (m v0 v1 v2 v3 : Int32) : List Int32 := own_pick (own_bits m) [v0, v1, v2, v3]
theorem own_16 (x : Int32) : (x &&& (15 : Int32)) = 0 ∨ (x &&& (15 : Int32)) = 1 ∨ (x &&& (15 : Int32)) = 2 ∨ (x &&& (15 : Int32)) = 3 ∨ (x &&& (15 : Int32)) = 4 ∨ (x &&& (15 : Int32)) = 5 ∨ (x &&& (15 : Int32)) = 6 ∨ (x &&& (15 : Int32)) = 7 ∨ (x &&& (15 : Int32)) = 8 ∨ (x &&& (15 : Int32)) = 9 ∨ (x &&& (15 : Int32)) = 10 ∨ (x &&& (15 : Int32)) = 11 ∨ (x &&& (15 : Int32)) = 12 ∨ (x &&& (15 : Int32)) = 13 ∨ (x &&& (15 : Int32)) = 14 ∨ (x &&& (15 : Int32)) = 15 := by
  have e : (x &&& (15 : Int32)).toInt = x.toInt % 16 := c_mask x 15 4 (by decide) (by decide)
  have t (k : Int32) (h : (x &&& (15 : Int32)).toInt = k.toInt) : (x &&& (15 : Int32)) = k := Int32.toInt_inj.mp h
  have hh : (x &&& (15 : Int32)).toInt = 0 ∨ (x &&& (15 : Int32)).toInt = 1 ∨ (x &&& (15 : Int32)).toInt = 2 ∨ (x &&& (15 : Int32)).toInt = 3 ∨ (x &&& (15 : Int32)).toInt = 4 ∨ (x &&& (15 : Int32)).toInt = 5 ∨ (x &&& (15 : Int32)).toInt = 6 ∨ (x &&& (15 : Int32)).toInt = 7 ∨ (x &&& (15 : Int32)).toInt = 8 ∨ (x &&& (15 : Int32)).toInt = 9 ∨ (x &&& (15 : Int32)).toInt = 10 ∨ (x &&& (15 : Int32)).toInt = 11 ∨ (x &&& (15 : Int32)).toInt = 12 ∨ (x &&& (15 : Int32)).toInt = 13 ∨ (x &&& (15 : Int32)).toInt = 14 ∨ (x &&& (15 : Int32)).toInt = 15 := by omega
  rcases hh with h | h | h | h | h | h | h | h | h | h | h | h | h | h | h | h
  · exact Or.inl (t 0 h)
  · exact Or.inr (Or.inl (t 1 h))
  · exact Or.inr (Or.inr (Or.inl (t 2 h)))
  · exact Or.inr (Or.inr (Or.inr (Or.inl (t 3 h))))
  · exact Or.inr (Or.inr (Or.inr (Or.inr (Or.inl (t 4 h)))))
  · exact Or.inr (Or.inr (Or.inr (Or.inr (Or.inr (Or.inl (t 5 h))))))
  · exact Or.inr (Or.inr (Or.inr (Or.inr (Or.inr (Or.inr (Or.inl (t 6 h)))))))
  · exact Or.inr (Or.inr (Or.inr (Or.inr (Or.inr (Or.inr (Or.inr (Or.inl (t 7 h))))))))
  · exact Or.inr (Or.inr (Or.inr (Or.inr (Or.inr (Or.inr (Or.inr (Or.inr (Or.inl (t 8 h)))))))))
  · exact Or.inr (Or.inr (Or.inr (Or.inr (Or.inr (Or.inr (Or.inr (Or.inr (Or.inr (Or.inl (t 9 h))))))))))
  · exact Or.inr (Or.inr (Or.inr (Or.inr (Or.inr (Or.inr (Or.inr (Or.inr (Or.inr (Or.inr (Or.inl (t 10 h)))))))))))
  · exact Or.inr (Or.inr (Or.inr (Or.inr (Or.inr (Or.inr (Or.inr (Or.inr (Or.inr (Or.inr (Or.inr (Or.inl (t 11 h))))))))))))
  · exact Or.inr (Or.inr (Or.inr (Or.inr (Or.inr (Or.inr (Or.inr (Or.inr (Or.inr (Or.inr (Or.inr (Or.inr (Or.inl (t 12 h)))))))))))))
  · exact Or.inr (Or.inr (Or.inr (Or.inr (Or.inr (Or.inr (Or.inr (Or.inr (Or.inr (Or.inr (Or.inr (Or.inr (Or.inr (Or.inl (t 13 h))))))))))))))
  · exact Or.inr (Or.inr (Or.inr (Or.inr (Or.inr (Or.inr (Or.inr (Or.inr (Or.inr (Or.inr (Or.inr (Or.inr (Or.inr (Or.inr (Or.inl (t 14 h)))))))))))))))
  · exact Or.inr (Or.inr (Or.inr (Or.inr (Or.inr (Or.inr (Or.inr (Or.inr (Or.inr (Or.inr (Or.inr (Or.inr (Or.inr (Or.inr (Or.inr ((t 15 h))))))))))))))))
theorem own_s0 (p2 p3 p4 p5 : Int32) : own_sub 0 p2 p3 p4 p5 = [] := rfl
theorem d11_0 : decode method_2_code 0 = .ok (.iload_n 0, 1) := by decide +kernel
theorem d11_1 : decode method_2_code 1 = .ok (.iconst 1, 1) := by decide +kernel
theorem d11_2 : decode method_2_code 2 = .ok (.iand, 1) := by decide +kernel
theorem d11_3 : decode method_2_code 3 = .ok (.iload_n 0, 1) := by decide +kernel
theorem d11_4 : decode method_2_code 4 = .ok (.iconst 1, 1) := by decide +kernel
theorem d11_5 : decode method_2_code 5 = .ok (.ishr, 1) := by decide +kernel
theorem d11_6 : decode method_2_code 6 = .ok (.iconst 1, 1) := by decide +kernel
theorem d11_7 : decode method_2_code 7 = .ok (.iand, 1) := by decide +kernel
theorem d11_8 : decode method_2_code 8 = .ok (.iadd, 1) := by decide +kernel
theorem d11_9 : decode method_2_code 9 = .ok (.iload_n 0, 1) := by decide +kernel
theorem d11_10 : decode method_2_code 10 = .ok (.iconst 2, 1) := by decide +kernel
theorem d11_11 : decode method_2_code 11 = .ok (.ishr, 1) := by decide +kernel
theorem d11_12 : decode method_2_code 12 = .ok (.iconst 1, 1) := by decide +kernel
theorem d11_13 : decode method_2_code 13 = .ok (.iand, 1) := by decide +kernel
theorem d11_14 : decode method_2_code 14 = .ok (.iadd, 1) := by decide +kernel
theorem d11_15 : decode method_2_code 15 = .ok (.iload_n 0, 1) := by decide +kernel
theorem d11_16 : decode method_2_code 16 = .ok (.iconst 3, 1) := by decide +kernel
theorem d11_17 : decode method_2_code 17 = .ok (.ishr, 1) := by decide +kernel
theorem d11_18 : decode method_2_code 18 = .ok (.iconst 1, 1) := by decide +kernel
theorem d11_19 : decode method_2_code 19 = .ok (.iand, 1) := by decide +kernel
theorem d11_20 : decode method_2_code 20 = .ok (.iadd, 1) := by decide +kernel
theorem d11_21 : decode method_2_code 21 = .ok (.istore 5, 2) := by decide +kernel
theorem d11_23 : decode method_2_code 23 = .ok (.iload 5, 2) := by decide +kernel
theorem d11_25 : decode method_2_code 25 = .ok (.newarray .int, 2) := by decide +kernel
theorem d11_27 : decode method_2_code 27 = .ok (.astore 6, 2) := by decide +kernel
theorem d11_29 : decode method_2_code 29 = .ok (.iconst 0, 1) := by decide +kernel
theorem d11_30 : decode method_2_code 30 = .ok (.istore 7, 2) := by decide +kernel
theorem d11_32 : decode method_2_code 32 = .ok (.iload_n 0, 1) := by decide +kernel
theorem d11_33 : decode method_2_code 33 = .ok (.iconst 1, 1) := by decide +kernel
theorem d11_34 : decode method_2_code 34 = .ok (.iand, 1) := by decide +kernel
theorem d11_35 : decode method_2_code 35 = .ok (.ifCond .eq 15, 3) := by decide +kernel
theorem d11_38 : decode method_2_code 38 = .ok (.aload 6, 2) := by decide +kernel
theorem d11_40 : decode method_2_code 40 = .ok (.iload 7, 2) := by decide +kernel
theorem d11_42 : decode method_2_code 42 = .ok (.iload_n 1, 1) := by decide +kernel
theorem d11_43 : decode method_2_code 43 = .ok (.iastore, 1) := by decide +kernel
theorem d11_44 : decode method_2_code 44 = .ok (.iload 7, 2) := by decide +kernel
theorem d11_46 : decode method_2_code 46 = .ok (.iconst 1, 1) := by decide +kernel
theorem d11_47 : decode method_2_code 47 = .ok (.iadd, 1) := by decide +kernel
theorem d11_48 : decode method_2_code 48 = .ok (.istore 7, 2) := by decide +kernel
theorem d11_50 : decode method_2_code 50 = .ok (.iload_n 0, 1) := by decide +kernel
theorem d11_51 : decode method_2_code 51 = .ok (.iconst 2, 1) := by decide +kernel
theorem d11_52 : decode method_2_code 52 = .ok (.iand, 1) := by decide +kernel
theorem d11_53 : decode method_2_code 53 = .ok (.ifCond .eq 15, 3) := by decide +kernel
theorem d11_56 : decode method_2_code 56 = .ok (.aload 6, 2) := by decide +kernel
theorem d11_58 : decode method_2_code 58 = .ok (.iload 7, 2) := by decide +kernel
theorem d11_60 : decode method_2_code 60 = .ok (.iload_n 2, 1) := by decide +kernel
theorem d11_61 : decode method_2_code 61 = .ok (.iastore, 1) := by decide +kernel
theorem d11_62 : decode method_2_code 62 = .ok (.iload 7, 2) := by decide +kernel
theorem d11_64 : decode method_2_code 64 = .ok (.iconst 1, 1) := by decide +kernel
theorem d11_65 : decode method_2_code 65 = .ok (.iadd, 1) := by decide +kernel
theorem d11_66 : decode method_2_code 66 = .ok (.istore 7, 2) := by decide +kernel
theorem d11_68 : decode method_2_code 68 = .ok (.iload_n 0, 1) := by decide +kernel
theorem d11_69 : decode method_2_code 69 = .ok (.iconst 4, 1) := by decide +kernel
theorem d11_70 : decode method_2_code 70 = .ok (.iand, 1) := by decide +kernel
theorem d11_71 : decode method_2_code 71 = .ok (.ifCond .eq 15, 3) := by decide +kernel
theorem d11_74 : decode method_2_code 74 = .ok (.aload 6, 2) := by decide +kernel
theorem d11_76 : decode method_2_code 76 = .ok (.iload 7, 2) := by decide +kernel
theorem d11_78 : decode method_2_code 78 = .ok (.iload_n 3, 1) := by decide +kernel
theorem d11_79 : decode method_2_code 79 = .ok (.iastore, 1) := by decide +kernel
theorem d11_80 : decode method_2_code 80 = .ok (.iload 7, 2) := by decide +kernel
theorem d11_82 : decode method_2_code 82 = .ok (.iconst 1, 1) := by decide +kernel
theorem d11_83 : decode method_2_code 83 = .ok (.iadd, 1) := by decide +kernel
theorem d11_84 : decode method_2_code 84 = .ok (.istore 7, 2) := by decide +kernel
theorem d11_86 : decode method_2_code 86 = .ok (.iload_n 0, 1) := by decide +kernel
theorem d11_87 : decode method_2_code 87 = .ok (.bipush 8, 2) := by decide +kernel
theorem d11_89 : decode method_2_code 89 = .ok (.iand, 1) := by decide +kernel
theorem d11_90 : decode method_2_code 90 = .ok (.ifCond .eq 16, 3) := by decide +kernel
theorem d11_93 : decode method_2_code 93 = .ok (.aload 6, 2) := by decide +kernel
theorem d11_95 : decode method_2_code 95 = .ok (.iload 7, 2) := by decide +kernel
theorem d11_97 : decode method_2_code 97 = .ok (.iload 4, 2) := by decide +kernel
theorem d11_99 : decode method_2_code 99 = .ok (.iastore, 1) := by decide +kernel
theorem d11_100 : decode method_2_code 100 = .ok (.iload 7, 2) := by decide +kernel
theorem d11_102 : decode method_2_code 102 = .ok (.iconst 1, 1) := by decide +kernel
theorem d11_103 : decode method_2_code 103 = .ok (.iadd, 1) := by decide +kernel
theorem d11_104 : decode method_2_code 104 = .ok (.istore 7, 2) := by decide +kernel
theorem d11_106 : decode method_2_code 106 = .ok (.aload 6, 2) := by decide +kernel
theorem d11_108 : decode method_2_code 108 = .ok (.areturn, 1) := by decide +kernel
set_option maxRecDepth 65536 in
set_option maxHeartbeats 40000000 in
theorem sub0 {p : Program} {l : Launch} {e : Env} {s : State} {m : MethodId} {args : Array Value} {below : List Frame} {meth : Method} {c : Code} {T0 : State} {locs : List Loc} {Z : State} {a0 : Array Value} {h0 : Heap} {n0 : Nat}  (p2 : Int32) (p3 : Int32) (p4 : Int32) (p5 : Int32)
    (X0 : Stand p l e ({ frames := 0, cells := 1, slots := 4, locals := 0 } : Room) s m args below meth c T0 locs 0 0) (hx : p.tables.exec = Jvm.exec) (hZ : Z.Warmed39 s.vm) (hw : ∀ d ∈ tables_1, d.before a0 Z = true) (hby : c.code = method_2_code) (hml : c.maxLocals = 8) (hown : s.vm.findClass "com/example/fixpoints_of_behaviour/fixpointsofbehaviour/bisimulation/RefusalsHoldsPinLaw" = some m.cls) (hret : meth.sig.returnType = some (.array .int)) (hlk : meth.locks = false) (e0 : T0.heap = h0) (N0 : Fr n0 locs) (Z0 : n0 ≤ h0.size)  :
    Rch p e below (Fin s below (fun v h L => ∃ (b : Addr) (kb : ClassId), v = some (.ref b) ∧ Fr n0 L ∧ Keep h0 h [] ∧ n0 ≤ b ∧ h0.size ≤ b ∧ Arv Z h b kb .int (Int32.ofNat (own_sub 0 p2 p3 p4 p5).length) ((own_sub 0 p2 p3 p4 p5).map Value.int) (.int (0 : Int32))) 1 4) (T0.setTop (mkF m 0 #[.val (.int (0 : Int32)), .val (.int p2), .val (.int p3), .val (.int p4), .val (.int p5), .unset, .unset, .unset] [])) := by
  refine Rch.go (U' := T0.setTop (mkF m 1 #[.val (.int (0 : Int32)), .val (.int p2), .val (.int p3), .val (.int p4), .val (.int p5), .unset, .unset, .unset] [(.int (0 : Int32))])) (fun _ k => XS.iloadN X0.here hx rfl (hb hby d11_0) rfl  k) ?_
  refine Rch.go (U' := T0.setTop (mkF m 2 #[.val (.int (0 : Int32)), .val (.int p2), .val (.int p3), .val (.int p4), .val (.int p5), .unset, .unset, .unset] [(.int (1 : Int32)), (.int (0 : Int32))])) (fun _ k => XS.iconst X0.here hx rfl (hb hby d11_1) k) ?_
  refine Rch.go (U' := T0.setTop (mkF m 3 #[.val (.int (0 : Int32)), .val (.int p2), .val (.int p3), .val (.int p4), .val (.int p5), .unset, .unset, .unset] [(.int ((0 : Int32) &&& (1 : Int32)))])) (fun _ k => XS.iand X0.here hx rfl (hb hby d11_2) rfl k) ?_
  rw [(by decide : ((0 : Int32) &&& (1 : Int32)) = (0 : Int32))]
  refine Rch.go (U' := T0.setTop (mkF m 4 #[.val (.int (0 : Int32)), .val (.int p2), .val (.int p3), .val (.int p4), .val (.int p5), .unset, .unset, .unset] [(.int (0 : Int32)), (.int (0 : Int32))])) (fun _ k => XS.iloadN X0.here hx rfl (hb hby d11_3) rfl  k) ?_
  refine Rch.go (U' := T0.setTop (mkF m 5 #[.val (.int (0 : Int32)), .val (.int p2), .val (.int p3), .val (.int p4), .val (.int p5), .unset, .unset, .unset] [(.int (1 : Int32)), (.int (0 : Int32)), (.int (0 : Int32))])) (fun _ k => XS.iconst X0.here hx rfl (hb hby d11_4) k) ?_
  refine Rch.go (U' := T0.setTop (mkF m 6 #[.val (.int (0 : Int32)), .val (.int p2), .val (.int p3), .val (.int p4), .val (.int p5), .unset, .unset, .unset] [(.int ((0 : Int32) >>> ((1 : Int32) &&& 31))), (.int (0 : Int32))])) (fun _ k => XS.ishr X0.here hx rfl (hb hby d11_5) rfl k) ?_
  rw [(by decide : ((0 : Int32) >>> ((1 : Int32) &&& 31)) = (0 : Int32))]
  refine Rch.go (U' := T0.setTop (mkF m 7 #[.val (.int (0 : Int32)), .val (.int p2), .val (.int p3), .val (.int p4), .val (.int p5), .unset, .unset, .unset] [(.int (1 : Int32)), (.int (0 : Int32)), (.int (0 : Int32))])) (fun _ k => XS.iconst X0.here hx rfl (hb hby d11_6) k) ?_
  refine Rch.go (U' := T0.setTop (mkF m 8 #[.val (.int (0 : Int32)), .val (.int p2), .val (.int p3), .val (.int p4), .val (.int p5), .unset, .unset, .unset] [(.int ((0 : Int32) &&& (1 : Int32))), (.int (0 : Int32))])) (fun _ k => XS.iand X0.here hx rfl (hb hby d11_7) rfl k) ?_
  rw [(by decide : ((0 : Int32) &&& (1 : Int32)) = (0 : Int32))]
  refine Rch.go (U' := T0.setTop (mkF m 9 #[.val (.int (0 : Int32)), .val (.int p2), .val (.int p3), .val (.int p4), .val (.int p5), .unset, .unset, .unset] [(.int ((0 : Int32) + (0 : Int32)))])) (fun _ k => XS.iadd X0.here hx rfl (hb hby d11_8) rfl k) ?_
  rw [(by decide : ((0 : Int32) + (0 : Int32)) = (0 : Int32))]
  refine Rch.go (U' := T0.setTop (mkF m 10 #[.val (.int (0 : Int32)), .val (.int p2), .val (.int p3), .val (.int p4), .val (.int p5), .unset, .unset, .unset] [(.int (0 : Int32)), (.int (0 : Int32))])) (fun _ k => XS.iloadN X0.here hx rfl (hb hby d11_9) rfl  k) ?_
  refine Rch.go (U' := T0.setTop (mkF m 11 #[.val (.int (0 : Int32)), .val (.int p2), .val (.int p3), .val (.int p4), .val (.int p5), .unset, .unset, .unset] [(.int (2 : Int32)), (.int (0 : Int32)), (.int (0 : Int32))])) (fun _ k => XS.iconst X0.here hx rfl (hb hby d11_10) k) ?_
  refine Rch.go (U' := T0.setTop (mkF m 12 #[.val (.int (0 : Int32)), .val (.int p2), .val (.int p3), .val (.int p4), .val (.int p5), .unset, .unset, .unset] [(.int ((0 : Int32) >>> ((2 : Int32) &&& 31))), (.int (0 : Int32))])) (fun _ k => XS.ishr X0.here hx rfl (hb hby d11_11) rfl k) ?_
  rw [(by decide : ((0 : Int32) >>> ((2 : Int32) &&& 31)) = (0 : Int32))]
  refine Rch.go (U' := T0.setTop (mkF m 13 #[.val (.int (0 : Int32)), .val (.int p2), .val (.int p3), .val (.int p4), .val (.int p5), .unset, .unset, .unset] [(.int (1 : Int32)), (.int (0 : Int32)), (.int (0 : Int32))])) (fun _ k => XS.iconst X0.here hx rfl (hb hby d11_12) k) ?_
  refine Rch.go (U' := T0.setTop (mkF m 14 #[.val (.int (0 : Int32)), .val (.int p2), .val (.int p3), .val (.int p4), .val (.int p5), .unset, .unset, .unset] [(.int ((0 : Int32) &&& (1 : Int32))), (.int (0 : Int32))])) (fun _ k => XS.iand X0.here hx rfl (hb hby d11_13) rfl k) ?_
  rw [(by decide : ((0 : Int32) &&& (1 : Int32)) = (0 : Int32))]
  refine Rch.go (U' := T0.setTop (mkF m 15 #[.val (.int (0 : Int32)), .val (.int p2), .val (.int p3), .val (.int p4), .val (.int p5), .unset, .unset, .unset] [(.int ((0 : Int32) + (0 : Int32)))])) (fun _ k => XS.iadd X0.here hx rfl (hb hby d11_14) rfl k) ?_
  rw [(by decide : ((0 : Int32) + (0 : Int32)) = (0 : Int32))]
  refine Rch.go (U' := T0.setTop (mkF m 16 #[.val (.int (0 : Int32)), .val (.int p2), .val (.int p3), .val (.int p4), .val (.int p5), .unset, .unset, .unset] [(.int (0 : Int32)), (.int (0 : Int32))])) (fun _ k => XS.iloadN X0.here hx rfl (hb hby d11_15) rfl  k) ?_
  refine Rch.go (U' := T0.setTop (mkF m 17 #[.val (.int (0 : Int32)), .val (.int p2), .val (.int p3), .val (.int p4), .val (.int p5), .unset, .unset, .unset] [(.int (3 : Int32)), (.int (0 : Int32)), (.int (0 : Int32))])) (fun _ k => XS.iconst X0.here hx rfl (hb hby d11_16) k) ?_
  refine Rch.go (U' := T0.setTop (mkF m 18 #[.val (.int (0 : Int32)), .val (.int p2), .val (.int p3), .val (.int p4), .val (.int p5), .unset, .unset, .unset] [(.int ((0 : Int32) >>> ((3 : Int32) &&& 31))), (.int (0 : Int32))])) (fun _ k => XS.ishr X0.here hx rfl (hb hby d11_17) rfl k) ?_
  rw [(by decide : ((0 : Int32) >>> ((3 : Int32) &&& 31)) = (0 : Int32))]
  refine Rch.go (U' := T0.setTop (mkF m 19 #[.val (.int (0 : Int32)), .val (.int p2), .val (.int p3), .val (.int p4), .val (.int p5), .unset, .unset, .unset] [(.int (1 : Int32)), (.int (0 : Int32)), (.int (0 : Int32))])) (fun _ k => XS.iconst X0.here hx rfl (hb hby d11_18) k) ?_
  refine Rch.go (U' := T0.setTop (mkF m 20 #[.val (.int (0 : Int32)), .val (.int p2), .val (.int p3), .val (.int p4), .val (.int p5), .unset, .unset, .unset] [(.int ((0 : Int32) &&& (1 : Int32))), (.int (0 : Int32))])) (fun _ k => XS.iand X0.here hx rfl (hb hby d11_19) rfl k) ?_
  rw [(by decide : ((0 : Int32) &&& (1 : Int32)) = (0 : Int32))]
  refine Rch.go (U' := T0.setTop (mkF m 21 #[.val (.int (0 : Int32)), .val (.int p2), .val (.int p3), .val (.int p4), .val (.int p5), .unset, .unset, .unset] [(.int ((0 : Int32) + (0 : Int32)))])) (fun _ k => XS.iadd X0.here hx rfl (hb hby d11_20) rfl k) ?_
  rw [(by decide : ((0 : Int32) + (0 : Int32)) = (0 : Int32))]
  refine Rch.go (U' := T0.setTop (mkF m 23 #[.val (.int (0 : Int32)), .val (.int p2), .val (.int p3), .val (.int p4), .val (.int p5), .val (.int (0 : Int32)), .unset, .unset] [])) (fun _ k => XS.istore X0.here hx rfl (hb hby d11_21) rfl (l' := #[.val (.int (0 : Int32)), .val (.int p2), .val (.int p3), .val (.int p4), .val (.int p5), .val (.int (0 : Int32)), .unset, .unset]) rfl k) ?_
  refine Rch.go (U' := T0.setTop (mkF m 25 #[.val (.int (0 : Int32)), .val (.int p2), .val (.int p3), .val (.int p4), .val (.int p5), .val (.int (0 : Int32)), .unset, .unset] [(.int (0 : Int32))])) (fun _ k => XS.iload X0.here hx rfl (hb hby d11_23) rfl  k) ?_
  obtain ⟨T18, h18, k18, X18, e18, E18, A18, st18⟩ := newP X0 hx hZ (wi hw 12 rfl) e0 (g := (mkF m 25 #[.val (.int (0 : Int32)), .val (.int p2), .val (.int p3), .val (.int p4), .val (.int p5), .val (.int (0 : Int32)), .unset, .unset] [(.int (0 : Int32))])) rfl (hb hby d11_25) rfl (by decide) (cap := 0) (by decide) (by decide) (by decide) (by decide)
  obtain ⟨b18, g18⟩ : ∃ z, z = h0.size := ⟨_, rfl⟩
  rw [← g18] at A18 st18
  have n0b18 : n0 ≤ b18 := Nat.le_trans Z0 (Nat.le_of_eq g18.symm)
  have szb18 : h0.size ≤ b18 := Nat.le_trans (Keep.refl h0 []).1 (Nat.le_of_eq g18.symm)
  have z19 := Nat.le_trans Z0 E18.1
  have K20 := (Keep.refl h0 []).ext E18
  have V18 : Arv Z h18 b18 k18 .int (0 : Int32) [] (.int (0 : Int32)) := Arv.new A18 (by decide)
  refine Rch.go (U' := T18.setTop (mkF m 27 #[.val (.int (0 : Int32)), .val (.int p2), .val (.int p3), .val (.int p4), .val (.int p5), .val (.int (0 : Int32)), .unset, .unset] [(.ref b18)])) st18 ?_
  refine Rch.go (U' := T18.setTop (mkF m 29 #[.val (.int (0 : Int32)), .val (.int p2), .val (.int p3), .val (.int p4), .val (.int p5), .val (.int (0 : Int32)), .val (.ref b18), .unset] [])) (fun _ k => XS.astore X18.here hx rfl (hb hby d11_27) rfl rfl (l' := #[.val (.int (0 : Int32)), .val (.int p2), .val (.int p3), .val (.int p4), .val (.int p5), .val (.int (0 : Int32)), .val (.ref b18), .unset]) rfl k) ?_
  refine Rch.go (U' := T18.setTop (mkF m 30 #[.val (.int (0 : Int32)), .val (.int p2), .val (.int p3), .val (.int p4), .val (.int p5), .val (.int (0 : Int32)), .val (.ref b18), .unset] [(.int (0 : Int32))])) (fun _ k => XS.iconst X18.here hx rfl (hb hby d11_29) k) ?_
  refine Rch.go (U' := T18.setTop (mkF m 32 #[.val (.int (0 : Int32)), .val (.int p2), .val (.int p3), .val (.int p4), .val (.int p5), .val (.int (0 : Int32)), .val (.ref b18), .val (.int (0 : Int32))] [])) (fun _ k => XS.istore X18.here hx rfl (hb hby d11_30) rfl (l' := #[.val (.int (0 : Int32)), .val (.int p2), .val (.int p3), .val (.int p4), .val (.int p5), .val (.int (0 : Int32)), .val (.ref b18), .val (.int (0 : Int32))]) rfl k) ?_
  refine Rch.go (U' := T18.setTop (mkF m 33 #[.val (.int (0 : Int32)), .val (.int p2), .val (.int p3), .val (.int p4), .val (.int p5), .val (.int (0 : Int32)), .val (.ref b18), .val (.int (0 : Int32))] [(.int (0 : Int32))])) (fun _ k => XS.iloadN X18.here hx rfl (hb hby d11_32) rfl  k) ?_
  refine Rch.go (U' := T18.setTop (mkF m 34 #[.val (.int (0 : Int32)), .val (.int p2), .val (.int p3), .val (.int p4), .val (.int p5), .val (.int (0 : Int32)), .val (.ref b18), .val (.int (0 : Int32))] [(.int (1 : Int32)), (.int (0 : Int32))])) (fun _ k => XS.iconst X18.here hx rfl (hb hby d11_33) k) ?_
  refine Rch.go (U' := T18.setTop (mkF m 35 #[.val (.int (0 : Int32)), .val (.int p2), .val (.int p3), .val (.int p4), .val (.int p5), .val (.int (0 : Int32)), .val (.ref b18), .val (.int (0 : Int32))] [(.int ((0 : Int32) &&& (1 : Int32)))])) (fun _ k => XS.iand X18.here hx rfl (hb hby d11_34) rfl k) ?_
  rw [(by decide : ((0 : Int32) &&& (1 : Int32)) = (0 : Int32))]
  have br21 : (0 : Int32) = (0 : Int32) := (by decide)
  refine Rch.go (U' := T18.setTop (mkF m 50 #[.val (.int (0 : Int32)), .val (.int p2), .val (.int p3), .val (.int p4), .val (.int p5), .val (.int (0 : Int32)), .val (.ref b18), .val (.int (0 : Int32))] [])) (fun _ k => XS.ifYes X18.here hx rfl (pc0 := 35) (pc' := 50) rfl (hb hby d11_35) rfl (XT.i0_eq_t br21) (by decide) (by decide) k) ?_
  refine Rch.go (U' := T18.setTop (mkF m 51 #[.val (.int (0 : Int32)), .val (.int p2), .val (.int p3), .val (.int p4), .val (.int p5), .val (.int (0 : Int32)), .val (.ref b18), .val (.int (0 : Int32))] [(.int (0 : Int32))])) (fun _ k => XS.iloadN X18.here hx rfl (hb hby d11_50) rfl  k) ?_
  refine Rch.go (U' := T18.setTop (mkF m 52 #[.val (.int (0 : Int32)), .val (.int p2), .val (.int p3), .val (.int p4), .val (.int p5), .val (.int (0 : Int32)), .val (.ref b18), .val (.int (0 : Int32))] [(.int (2 : Int32)), (.int (0 : Int32))])) (fun _ k => XS.iconst X18.here hx rfl (hb hby d11_51) k) ?_
  refine Rch.go (U' := T18.setTop (mkF m 53 #[.val (.int (0 : Int32)), .val (.int p2), .val (.int p3), .val (.int p4), .val (.int p5), .val (.int (0 : Int32)), .val (.ref b18), .val (.int (0 : Int32))] [(.int ((0 : Int32) &&& (2 : Int32)))])) (fun _ k => XS.iand X18.here hx rfl (hb hby d11_52) rfl k) ?_
  rw [(by decide : ((0 : Int32) &&& (2 : Int32)) = (0 : Int32))]
  have br22 : (0 : Int32) = (0 : Int32) := (by decide)
  refine Rch.go (U' := T18.setTop (mkF m 68 #[.val (.int (0 : Int32)), .val (.int p2), .val (.int p3), .val (.int p4), .val (.int p5), .val (.int (0 : Int32)), .val (.ref b18), .val (.int (0 : Int32))] [])) (fun _ k => XS.ifYes X18.here hx rfl (pc0 := 53) (pc' := 68) rfl (hb hby d11_53) rfl (XT.i0_eq_t br22) (by decide) (by decide) k) ?_
  refine Rch.go (U' := T18.setTop (mkF m 69 #[.val (.int (0 : Int32)), .val (.int p2), .val (.int p3), .val (.int p4), .val (.int p5), .val (.int (0 : Int32)), .val (.ref b18), .val (.int (0 : Int32))] [(.int (0 : Int32))])) (fun _ k => XS.iloadN X18.here hx rfl (hb hby d11_68) rfl  k) ?_
  refine Rch.go (U' := T18.setTop (mkF m 70 #[.val (.int (0 : Int32)), .val (.int p2), .val (.int p3), .val (.int p4), .val (.int p5), .val (.int (0 : Int32)), .val (.ref b18), .val (.int (0 : Int32))] [(.int (4 : Int32)), (.int (0 : Int32))])) (fun _ k => XS.iconst X18.here hx rfl (hb hby d11_69) k) ?_
  refine Rch.go (U' := T18.setTop (mkF m 71 #[.val (.int (0 : Int32)), .val (.int p2), .val (.int p3), .val (.int p4), .val (.int p5), .val (.int (0 : Int32)), .val (.ref b18), .val (.int (0 : Int32))] [(.int ((0 : Int32) &&& (4 : Int32)))])) (fun _ k => XS.iand X18.here hx rfl (hb hby d11_70) rfl k) ?_
  rw [(by decide : ((0 : Int32) &&& (4 : Int32)) = (0 : Int32))]
  have br23 : (0 : Int32) = (0 : Int32) := (by decide)
  refine Rch.go (U' := T18.setTop (mkF m 86 #[.val (.int (0 : Int32)), .val (.int p2), .val (.int p3), .val (.int p4), .val (.int p5), .val (.int (0 : Int32)), .val (.ref b18), .val (.int (0 : Int32))] [])) (fun _ k => XS.ifYes X18.here hx rfl (pc0 := 71) (pc' := 86) rfl (hb hby d11_71) rfl (XT.i0_eq_t br23) (by decide) (by decide) k) ?_
  refine Rch.go (U' := T18.setTop (mkF m 87 #[.val (.int (0 : Int32)), .val (.int p2), .val (.int p3), .val (.int p4), .val (.int p5), .val (.int (0 : Int32)), .val (.ref b18), .val (.int (0 : Int32))] [(.int (0 : Int32))])) (fun _ k => XS.iloadN X18.here hx rfl (hb hby d11_86) rfl  k) ?_
  refine Rch.go (U' := T18.setTop (mkF m 89 #[.val (.int (0 : Int32)), .val (.int p2), .val (.int p3), .val (.int p4), .val (.int p5), .val (.int (0 : Int32)), .val (.ref b18), .val (.int (0 : Int32))] [(.int (8 : Int32)), (.int (0 : Int32))])) (fun _ k => XS.bipush X18.here hx rfl (hb hby d11_87) k) ?_
  refine Rch.go (U' := T18.setTop (mkF m 90 #[.val (.int (0 : Int32)), .val (.int p2), .val (.int p3), .val (.int p4), .val (.int p5), .val (.int (0 : Int32)), .val (.ref b18), .val (.int (0 : Int32))] [(.int ((0 : Int32) &&& (8 : Int32)))])) (fun _ k => XS.iand X18.here hx rfl (hb hby d11_89) rfl k) ?_
  rw [(by decide : ((0 : Int32) &&& (8 : Int32)) = (0 : Int32))]
  have br24 : (0 : Int32) = (0 : Int32) := (by decide)
  refine Rch.go (U' := T18.setTop (mkF m 106 #[.val (.int (0 : Int32)), .val (.int p2), .val (.int p3), .val (.int p4), .val (.int p5), .val (.int (0 : Int32)), .val (.ref b18), .val (.int (0 : Int32))] [])) (fun _ k => XS.ifYes X18.here hx rfl (pc0 := 90) (pc' := 106) rfl (hb hby d11_90) rfl (XT.i0_eq_t br24) (by decide) (by decide) k) ?_
  refine Rch.go (U' := T18.setTop (mkF m 108 #[.val (.int (0 : Int32)), .val (.int p2), .val (.int p3), .val (.int p4), .val (.int p5), .val (.int (0 : Int32)), .val (.ref b18), .val (.int (0 : Int32))] [(.ref b18)])) (fun _ k => XS.aload X18.here hx rfl (hb hby d11_106) rfl rfl k) ?_
  refine Rch.fin X18 hlk (v := some (.ref b18)) (fun h => by rw [hret] at h; cases h) e18 (by decide) (by decide) (fun fs hr => retOut X18 hx hret rfl (Or.inr (Or.inr (Or.inr (Or.inr ⟨rfl, rfl, rfl⟩)))) (hb hby d11_108) hr) ?_
  exact ⟨b18, k18, rfl, N0, K20, n0b18, szb18, by rw [own_s0]; exact V18⟩
theorem own_s1 (p2 p3 p4 p5 : Int32) : own_sub 1 p2 p3 p4 p5 = [p2] := rfl
set_option maxRecDepth 65536 in
set_option maxHeartbeats 40000000 in
theorem sub1 {p : Program} {l : Launch} {e : Env} {s : State} {m : MethodId} {args : Array Value} {below : List Frame} {meth : Method} {c : Code} {T0 : State} {locs : List Loc} {Z : State} {a0 : Array Value} {h0 : Heap} {n0 : Nat}  (p2 : Int32) (p3 : Int32) (p4 : Int32) (p5 : Int32)
    (X0 : Stand p l e ({ frames := 0, cells := 1, slots := 4, locals := 0 } : Room) s m args below meth c T0 locs 0 0) (hx : p.tables.exec = Jvm.exec) (hZ : Z.Warmed39 s.vm) (hw : ∀ d ∈ tables_1, d.before a0 Z = true) (hby : c.code = method_2_code) (hml : c.maxLocals = 8) (hown : s.vm.findClass "com/example/fixpoints_of_behaviour/fixpointsofbehaviour/bisimulation/RefusalsHoldsPinLaw" = some m.cls) (hret : meth.sig.returnType = some (.array .int)) (hlk : meth.locks = false) (e0 : T0.heap = h0) (N0 : Fr n0 locs) (Z0 : n0 ≤ h0.size)  :
    Rch p e below (Fin s below (fun v h L => ∃ (b : Addr) (kb : ClassId), v = some (.ref b) ∧ Fr n0 L ∧ Keep h0 h [] ∧ n0 ≤ b ∧ h0.size ≤ b ∧ Arv Z h b kb .int (Int32.ofNat (own_sub 1 p2 p3 p4 p5).length) ((own_sub 1 p2 p3 p4 p5).map Value.int) (.int (0 : Int32))) 1 4) (T0.setTop (mkF m 0 #[.val (.int (1 : Int32)), .val (.int p2), .val (.int p3), .val (.int p4), .val (.int p5), .unset, .unset, .unset] [])) := by
  refine Rch.go (U' := T0.setTop (mkF m 1 #[.val (.int (1 : Int32)), .val (.int p2), .val (.int p3), .val (.int p4), .val (.int p5), .unset, .unset, .unset] [(.int (1 : Int32))])) (fun _ k => XS.iloadN X0.here hx rfl (hb hby d11_0) rfl  k) ?_
  refine Rch.go (U' := T0.setTop (mkF m 2 #[.val (.int (1 : Int32)), .val (.int p2), .val (.int p3), .val (.int p4), .val (.int p5), .unset, .unset, .unset] [(.int (1 : Int32)), (.int (1 : Int32))])) (fun _ k => XS.iconst X0.here hx rfl (hb hby d11_1) k) ?_
  refine Rch.go (U' := T0.setTop (mkF m 3 #[.val (.int (1 : Int32)), .val (.int p2), .val (.int p3), .val (.int p4), .val (.int p5), .unset, .unset, .unset] [(.int ((1 : Int32) &&& (1 : Int32)))])) (fun _ k => XS.iand X0.here hx rfl (hb hby d11_2) rfl k) ?_
  rw [(by decide : ((1 : Int32) &&& (1 : Int32)) = (1 : Int32))]
  refine Rch.go (U' := T0.setTop (mkF m 4 #[.val (.int (1 : Int32)), .val (.int p2), .val (.int p3), .val (.int p4), .val (.int p5), .unset, .unset, .unset] [(.int (1 : Int32)), (.int (1 : Int32))])) (fun _ k => XS.iloadN X0.here hx rfl (hb hby d11_3) rfl  k) ?_
  refine Rch.go (U' := T0.setTop (mkF m 5 #[.val (.int (1 : Int32)), .val (.int p2), .val (.int p3), .val (.int p4), .val (.int p5), .unset, .unset, .unset] [(.int (1 : Int32)), (.int (1 : Int32)), (.int (1 : Int32))])) (fun _ k => XS.iconst X0.here hx rfl (hb hby d11_4) k) ?_
  refine Rch.go (U' := T0.setTop (mkF m 6 #[.val (.int (1 : Int32)), .val (.int p2), .val (.int p3), .val (.int p4), .val (.int p5), .unset, .unset, .unset] [(.int ((1 : Int32) >>> ((1 : Int32) &&& 31))), (.int (1 : Int32))])) (fun _ k => XS.ishr X0.here hx rfl (hb hby d11_5) rfl k) ?_
  rw [(by decide : ((1 : Int32) >>> ((1 : Int32) &&& 31)) = (0 : Int32))]
  refine Rch.go (U' := T0.setTop (mkF m 7 #[.val (.int (1 : Int32)), .val (.int p2), .val (.int p3), .val (.int p4), .val (.int p5), .unset, .unset, .unset] [(.int (1 : Int32)), (.int (0 : Int32)), (.int (1 : Int32))])) (fun _ k => XS.iconst X0.here hx rfl (hb hby d11_6) k) ?_
  refine Rch.go (U' := T0.setTop (mkF m 8 #[.val (.int (1 : Int32)), .val (.int p2), .val (.int p3), .val (.int p4), .val (.int p5), .unset, .unset, .unset] [(.int ((0 : Int32) &&& (1 : Int32))), (.int (1 : Int32))])) (fun _ k => XS.iand X0.here hx rfl (hb hby d11_7) rfl k) ?_
  rw [(by decide : ((0 : Int32) &&& (1 : Int32)) = (0 : Int32))]
  refine Rch.go (U' := T0.setTop (mkF m 9 #[.val (.int (1 : Int32)), .val (.int p2), .val (.int p3), .val (.int p4), .val (.int p5), .unset, .unset, .unset] [(.int ((1 : Int32) + (0 : Int32)))])) (fun _ k => XS.iadd X0.here hx rfl (hb hby d11_8) rfl k) ?_
  rw [(by decide : ((1 : Int32) + (0 : Int32)) = (1 : Int32))]
  refine Rch.go (U' := T0.setTop (mkF m 10 #[.val (.int (1 : Int32)), .val (.int p2), .val (.int p3), .val (.int p4), .val (.int p5), .unset, .unset, .unset] [(.int (1 : Int32)), (.int (1 : Int32))])) (fun _ k => XS.iloadN X0.here hx rfl (hb hby d11_9) rfl  k) ?_
  refine Rch.go (U' := T0.setTop (mkF m 11 #[.val (.int (1 : Int32)), .val (.int p2), .val (.int p3), .val (.int p4), .val (.int p5), .unset, .unset, .unset] [(.int (2 : Int32)), (.int (1 : Int32)), (.int (1 : Int32))])) (fun _ k => XS.iconst X0.here hx rfl (hb hby d11_10) k) ?_
  refine Rch.go (U' := T0.setTop (mkF m 12 #[.val (.int (1 : Int32)), .val (.int p2), .val (.int p3), .val (.int p4), .val (.int p5), .unset, .unset, .unset] [(.int ((1 : Int32) >>> ((2 : Int32) &&& 31))), (.int (1 : Int32))])) (fun _ k => XS.ishr X0.here hx rfl (hb hby d11_11) rfl k) ?_
  rw [(by decide : ((1 : Int32) >>> ((2 : Int32) &&& 31)) = (0 : Int32))]
  refine Rch.go (U' := T0.setTop (mkF m 13 #[.val (.int (1 : Int32)), .val (.int p2), .val (.int p3), .val (.int p4), .val (.int p5), .unset, .unset, .unset] [(.int (1 : Int32)), (.int (0 : Int32)), (.int (1 : Int32))])) (fun _ k => XS.iconst X0.here hx rfl (hb hby d11_12) k) ?_
  refine Rch.go (U' := T0.setTop (mkF m 14 #[.val (.int (1 : Int32)), .val (.int p2), .val (.int p3), .val (.int p4), .val (.int p5), .unset, .unset, .unset] [(.int ((0 : Int32) &&& (1 : Int32))), (.int (1 : Int32))])) (fun _ k => XS.iand X0.here hx rfl (hb hby d11_13) rfl k) ?_
  rw [(by decide : ((0 : Int32) &&& (1 : Int32)) = (0 : Int32))]
  refine Rch.go (U' := T0.setTop (mkF m 15 #[.val (.int (1 : Int32)), .val (.int p2), .val (.int p3), .val (.int p4), .val (.int p5), .unset, .unset, .unset] [(.int ((1 : Int32) + (0 : Int32)))])) (fun _ k => XS.iadd X0.here hx rfl (hb hby d11_14) rfl k) ?_
  rw [(by decide : ((1 : Int32) + (0 : Int32)) = (1 : Int32))]
  refine Rch.go (U' := T0.setTop (mkF m 16 #[.val (.int (1 : Int32)), .val (.int p2), .val (.int p3), .val (.int p4), .val (.int p5), .unset, .unset, .unset] [(.int (1 : Int32)), (.int (1 : Int32))])) (fun _ k => XS.iloadN X0.here hx rfl (hb hby d11_15) rfl  k) ?_
  refine Rch.go (U' := T0.setTop (mkF m 17 #[.val (.int (1 : Int32)), .val (.int p2), .val (.int p3), .val (.int p4), .val (.int p5), .unset, .unset, .unset] [(.int (3 : Int32)), (.int (1 : Int32)), (.int (1 : Int32))])) (fun _ k => XS.iconst X0.here hx rfl (hb hby d11_16) k) ?_
  refine Rch.go (U' := T0.setTop (mkF m 18 #[.val (.int (1 : Int32)), .val (.int p2), .val (.int p3), .val (.int p4), .val (.int p5), .unset, .unset, .unset] [(.int ((1 : Int32) >>> ((3 : Int32) &&& 31))), (.int (1 : Int32))])) (fun _ k => XS.ishr X0.here hx rfl (hb hby d11_17) rfl k) ?_
  rw [(by decide : ((1 : Int32) >>> ((3 : Int32) &&& 31)) = (0 : Int32))]
  refine Rch.go (U' := T0.setTop (mkF m 19 #[.val (.int (1 : Int32)), .val (.int p2), .val (.int p3), .val (.int p4), .val (.int p5), .unset, .unset, .unset] [(.int (1 : Int32)), (.int (0 : Int32)), (.int (1 : Int32))])) (fun _ k => XS.iconst X0.here hx rfl (hb hby d11_18) k) ?_
  refine Rch.go (U' := T0.setTop (mkF m 20 #[.val (.int (1 : Int32)), .val (.int p2), .val (.int p3), .val (.int p4), .val (.int p5), .unset, .unset, .unset] [(.int ((0 : Int32) &&& (1 : Int32))), (.int (1 : Int32))])) (fun _ k => XS.iand X0.here hx rfl (hb hby d11_19) rfl k) ?_
  rw [(by decide : ((0 : Int32) &&& (1 : Int32)) = (0 : Int32))]
  refine Rch.go (U' := T0.setTop (mkF m 21 #[.val (.int (1 : Int32)), .val (.int p2), .val (.int p3), .val (.int p4), .val (.int p5), .unset, .unset, .unset] [(.int ((1 : Int32) + (0 : Int32)))])) (fun _ k => XS.iadd X0.here hx rfl (hb hby d11_20) rfl k) ?_
  rw [(by decide : ((1 : Int32) + (0 : Int32)) = (1 : Int32))]
  refine Rch.go (U' := T0.setTop (mkF m 23 #[.val (.int (1 : Int32)), .val (.int p2), .val (.int p3), .val (.int p4), .val (.int p5), .val (.int (1 : Int32)), .unset, .unset] [])) (fun _ k => XS.istore X0.here hx rfl (hb hby d11_21) rfl (l' := #[.val (.int (1 : Int32)), .val (.int p2), .val (.int p3), .val (.int p4), .val (.int p5), .val (.int (1 : Int32)), .unset, .unset]) rfl k) ?_
  refine Rch.go (U' := T0.setTop (mkF m 25 #[.val (.int (1 : Int32)), .val (.int p2), .val (.int p3), .val (.int p4), .val (.int p5), .val (.int (1 : Int32)), .unset, .unset] [(.int (1 : Int32))])) (fun _ k => XS.iload X0.here hx rfl (hb hby d11_23) rfl  k) ?_
  obtain ⟨T25, h25, k25, X25, e25, E25, A25, st25⟩ := newP X0 hx hZ (wi hw 12 rfl) e0 (g := (mkF m 25 #[.val (.int (1 : Int32)), .val (.int p2), .val (.int p3), .val (.int p4), .val (.int p5), .val (.int (1 : Int32)), .unset, .unset] [(.int (1 : Int32))])) rfl (hb hby d11_25) rfl (by decide) (cap := 1) (by decide) (by decide) (by decide) (by decide)
  obtain ⟨b25, g25⟩ : ∃ z, z = h0.size := ⟨_, rfl⟩
  rw [← g25] at A25 st25
  have n0b25 : n0 ≤ b25 := Nat.le_trans Z0 (Nat.le_of_eq g25.symm)
  have szb25 : h0.size ≤ b25 := Nat.le_trans (Keep.refl h0 []).1 (Nat.le_of_eq g25.symm)
  have z26 := Nat.le_trans Z0 E25.1
  have K27 := (Keep.refl h0 []).ext E25
  have V25 : Arv Z h25 b25 k25 .int (1 : Int32) [(.int (0 : Int32))] (.int (0 : Int32)) := (Arv.new A25 (by decide)).pad (pad_rep [] (.int (0 : Int32)) 1)
  refine Rch.go (U' := T25.setTop (mkF m 27 #[.val (.int (1 : Int32)), .val (.int p2), .val (.int p3), .val (.int p4), .val (.int p5), .val (.int (1 : Int32)), .unset, .unset] [(.ref b25)])) st25 ?_
  refine Rch.go (U' := T25.setTop (mkF m 29 #[.val (.int (1 : Int32)), .val (.int p2), .val (.int p3), .val (.int p4), .val (.int p5), .val (.int (1 : Int32)), .val (.ref b25), .unset] [])) (fun _ k => XS.astore X25.here hx rfl (hb hby d11_27) rfl rfl (l' := #[.val (.int (1 : Int32)), .val (.int p2), .val (.int p3), .val (.int p4), .val (.int p5), .val (.int (1 : Int32)), .val (.ref b25), .unset]) rfl k) ?_
  refine Rch.go (U' := T25.setTop (mkF m 30 #[.val (.int (1 : Int32)), .val (.int p2), .val (.int p3), .val (.int p4), .val (.int p5), .val (.int (1 : Int32)), .val (.ref b25), .unset] [(.int (0 : Int32))])) (fun _ k => XS.iconst X25.here hx rfl (hb hby d11_29) k) ?_
  refine Rch.go (U' := T25.setTop (mkF m 32 #[.val (.int (1 : Int32)), .val (.int p2), .val (.int p3), .val (.int p4), .val (.int p5), .val (.int (1 : Int32)), .val (.ref b25), .val (.int (0 : Int32))] [])) (fun _ k => XS.istore X25.here hx rfl (hb hby d11_30) rfl (l' := #[.val (.int (1 : Int32)), .val (.int p2), .val (.int p3), .val (.int p4), .val (.int p5), .val (.int (1 : Int32)), .val (.ref b25), .val (.int (0 : Int32))]) rfl k) ?_
  refine Rch.go (U' := T25.setTop (mkF m 33 #[.val (.int (1 : Int32)), .val (.int p2), .val (.int p3), .val (.int p4), .val (.int p5), .val (.int (1 : Int32)), .val (.ref b25), .val (.int (0 : Int32))] [(.int (1 : Int32))])) (fun _ k => XS.iloadN X25.here hx rfl (hb hby d11_32) rfl  k) ?_
  refine Rch.go (U' := T25.setTop (mkF m 34 #[.val (.int (1 : Int32)), .val (.int p2), .val (.int p3), .val (.int p4), .val (.int p5), .val (.int (1 : Int32)), .val (.ref b25), .val (.int (0 : Int32))] [(.int (1 : Int32)), (.int (1 : Int32))])) (fun _ k => XS.iconst X25.here hx rfl (hb hby d11_33) k) ?_
  refine Rch.go (U' := T25.setTop (mkF m 35 #[.val (.int (1 : Int32)), .val (.int p2), .val (.int p3), .val (.int p4), .val (.int p5), .val (.int (1 : Int32)), .val (.ref b25), .val (.int (0 : Int32))] [(.int ((1 : Int32) &&& (1 : Int32)))])) (fun _ k => XS.iand X25.here hx rfl (hb hby d11_34) rfl k) ?_
  rw [(by decide : ((1 : Int32) &&& (1 : Int32)) = (1 : Int32))]
  have br28 : ¬ ((1 : Int32) = (0 : Int32)) := (by decide)
  refine Rch.go (U' := T25.setTop (mkF m 38 #[.val (.int (1 : Int32)), .val (.int p2), .val (.int p3), .val (.int p4), .val (.int p5), .val (.int (1 : Int32)), .val (.ref b25), .val (.int (0 : Int32))] [])) (fun _ k => XS.ifNo X25.here hx rfl (hb hby d11_35) rfl (XT.i0_eq_f br28) k) ?_
  refine Rch.go (U' := T25.setTop (mkF m 40 #[.val (.int (1 : Int32)), .val (.int p2), .val (.int p3), .val (.int p4), .val (.int p5), .val (.int (1 : Int32)), .val (.ref b25), .val (.int (0 : Int32))] [(.ref b25)])) (fun _ k => XS.aload X25.here hx rfl (hb hby d11_38) rfl rfl k) ?_
  refine Rch.go (U' := T25.setTop (mkF m 42 #[.val (.int (1 : Int32)), .val (.int p2), .val (.int p3), .val (.int p4), .val (.int p5), .val (.int (1 : Int32)), .val (.ref b25), .val (.int (0 : Int32))] [(.int (0 : Int32)), (.ref b25)])) (fun _ k => XS.iload X25.here hx rfl (hb hby d11_40) rfl  k) ?_
  refine Rch.go (U' := T25.setTop (mkF m 43 #[.val (.int (1 : Int32)), .val (.int p2), .val (.int p3), .val (.int p4), .val (.int p5), .val (.int (1 : Int32)), .val (.ref b25), .val (.int (0 : Int32))] [(.int p2), (.int (0 : Int32)), (.ref b25)])) (fun _ k => XS.iloadN X25.here hx rfl (hb hby d11_42) rfl  k) ?_
  obtain ⟨c29, Ar29, q29, S29, M29, Hs29, G29⟩ := id V25
  have i29 : ¬ ((0 : Int32) < 0 ∨ c29.slots.size ≤ ((0 : Int32)).toNatClampNeg) := inb_of S29 ⟨by decide, by decide⟩
  obtain ⟨T29, h29, X29, e29, W29, st29⟩ := stI X25 hx hZ e25 Ar29 (j := (0 : Int32)) i29 (g := (mkF m 43 #[.val (.int (1 : Int32)), .val (.int p2), .val (.int p3), .val (.int p4), .val (.int p5), .val (.int (1 : Int32)), .val (.ref b25), .val (.int (0 : Int32))] [(.int p2), (.int (0 : Int32)), (.ref b25)])) rfl rfl (hb hby d11_43)
  have V29 : Arv Z h29 b25 k25 .int (1 : Int32) [(.int p2)] (.int (0 : Int32)) := Arv.set Ar29 q29 S29 M29 Hs29 G29 rfl W29 0 rfl (Nat.le_of_ble_eq_true rfl)
  have N29 := Fr.snoc X29 N0 n0b25
  have z30 := Nat.le_trans z26 (Keep.of_wr W29).1
  have K31 := K27.wr W29 (Or.inr szb25)
  refine Rch.go (U' := T29.setTop (mkF m 44 #[.val (.int (1 : Int32)), .val (.int p2), .val (.int p3), .val (.int p4), .val (.int p5), .val (.int (1 : Int32)), .val (.ref b25), .val (.int (0 : Int32))] [])) st29 ?_
  refine Rch.go (U' := T29.setTop (mkF m 46 #[.val (.int (1 : Int32)), .val (.int p2), .val (.int p3), .val (.int p4), .val (.int p5), .val (.int (1 : Int32)), .val (.ref b25), .val (.int (0 : Int32))] [(.int (0 : Int32))])) (fun _ k => XS.iload X29.here hx rfl (hb hby d11_44) rfl  k) ?_
  refine Rch.go (U' := T29.setTop (mkF m 47 #[.val (.int (1 : Int32)), .val (.int p2), .val (.int p3), .val (.int p4), .val (.int p5), .val (.int (1 : Int32)), .val (.ref b25), .val (.int (0 : Int32))] [(.int (1 : Int32)), (.int (0 : Int32))])) (fun _ k => XS.iconst X29.here hx rfl (hb hby d11_46) k) ?_
  refine Rch.go (U' := T29.setTop (mkF m 48 #[.val (.int (1 : Int32)), .val (.int p2), .val (.int p3), .val (.int p4), .val (.int p5), .val (.int (1 : Int32)), .val (.ref b25), .val (.int (0 : Int32))] [(.int ((0 : Int32) + (1 : Int32)))])) (fun _ k => XS.iadd X29.here hx rfl (hb hby d11_47) rfl k) ?_
  rw [(by decide : ((0 : Int32) + (1 : Int32)) = (1 : Int32))]
  refine Rch.go (U' := T29.setTop (mkF m 50 #[.val (.int (1 : Int32)), .val (.int p2), .val (.int p3), .val (.int p4), .val (.int p5), .val (.int (1 : Int32)), .val (.ref b25), .val (.int (1 : Int32))] [])) (fun _ k => XS.istore X29.here hx rfl (hb hby d11_48) rfl (l' := #[.val (.int (1 : Int32)), .val (.int p2), .val (.int p3), .val (.int p4), .val (.int p5), .val (.int (1 : Int32)), .val (.ref b25), .val (.int (1 : Int32))]) rfl k) ?_
  refine Rch.go (U' := T29.setTop (mkF m 51 #[.val (.int (1 : Int32)), .val (.int p2), .val (.int p3), .val (.int p4), .val (.int p5), .val (.int (1 : Int32)), .val (.ref b25), .val (.int (1 : Int32))] [(.int (1 : Int32))])) (fun _ k => XS.iloadN X29.here hx rfl (hb hby d11_50) rfl  k) ?_
  refine Rch.go (U' := T29.setTop (mkF m 52 #[.val (.int (1 : Int32)), .val (.int p2), .val (.int p3), .val (.int p4), .val (.int p5), .val (.int (1 : Int32)), .val (.ref b25), .val (.int (1 : Int32))] [(.int (2 : Int32)), (.int (1 : Int32))])) (fun _ k => XS.iconst X29.here hx rfl (hb hby d11_51) k) ?_
  refine Rch.go (U' := T29.setTop (mkF m 53 #[.val (.int (1 : Int32)), .val (.int p2), .val (.int p3), .val (.int p4), .val (.int p5), .val (.int (1 : Int32)), .val (.ref b25), .val (.int (1 : Int32))] [(.int ((1 : Int32) &&& (2 : Int32)))])) (fun _ k => XS.iand X29.here hx rfl (hb hby d11_52) rfl k) ?_
  rw [(by decide : ((1 : Int32) &&& (2 : Int32)) = (0 : Int32))]
  have br32 : (0 : Int32) = (0 : Int32) := (by decide)
  refine Rch.go (U' := T29.setTop (mkF m 68 #[.val (.int (1 : Int32)), .val (.int p2), .val (.int p3), .val (.int p4), .val (.int p5), .val (.int (1 : Int32)), .val (.ref b25), .val (.int (1 : Int32))] [])) (fun _ k => XS.ifYes X29.here hx rfl (pc0 := 53) (pc' := 68) rfl (hb hby d11_53) rfl (XT.i0_eq_t br32) (by decide) (by decide) k) ?_
  refine Rch.go (U' := T29.setTop (mkF m 69 #[.val (.int (1 : Int32)), .val (.int p2), .val (.int p3), .val (.int p4), .val (.int p5), .val (.int (1 : Int32)), .val (.ref b25), .val (.int (1 : Int32))] [(.int (1 : Int32))])) (fun _ k => XS.iloadN X29.here hx rfl (hb hby d11_68) rfl  k) ?_
  refine Rch.go (U' := T29.setTop (mkF m 70 #[.val (.int (1 : Int32)), .val (.int p2), .val (.int p3), .val (.int p4), .val (.int p5), .val (.int (1 : Int32)), .val (.ref b25), .val (.int (1 : Int32))] [(.int (4 : Int32)), (.int (1 : Int32))])) (fun _ k => XS.iconst X29.here hx rfl (hb hby d11_69) k) ?_
  refine Rch.go (U' := T29.setTop (mkF m 71 #[.val (.int (1 : Int32)), .val (.int p2), .val (.int p3), .val (.int p4), .val (.int p5), .val (.int (1 : Int32)), .val (.ref b25), .val (.int (1 : Int32))] [(.int ((1 : Int32) &&& (4 : Int32)))])) (fun _ k => XS.iand X29.here hx rfl (hb hby d11_70) rfl k) ?_
  rw [(by decide : ((1 : Int32) &&& (4 : Int32)) = (0 : Int32))]
  have br33 : (0 : Int32) = (0 : Int32) := (by decide)
  refine Rch.go (U' := T29.setTop (mkF m 86 #[.val (.int (1 : Int32)), .val (.int p2), .val (.int p3), .val (.int p4), .val (.int p5), .val (.int (1 : Int32)), .val (.ref b25), .val (.int (1 : Int32))] [])) (fun _ k => XS.ifYes X29.here hx rfl (pc0 := 71) (pc' := 86) rfl (hb hby d11_71) rfl (XT.i0_eq_t br33) (by decide) (by decide) k) ?_
  refine Rch.go (U' := T29.setTop (mkF m 87 #[.val (.int (1 : Int32)), .val (.int p2), .val (.int p3), .val (.int p4), .val (.int p5), .val (.int (1 : Int32)), .val (.ref b25), .val (.int (1 : Int32))] [(.int (1 : Int32))])) (fun _ k => XS.iloadN X29.here hx rfl (hb hby d11_86) rfl  k) ?_
  refine Rch.go (U' := T29.setTop (mkF m 89 #[.val (.int (1 : Int32)), .val (.int p2), .val (.int p3), .val (.int p4), .val (.int p5), .val (.int (1 : Int32)), .val (.ref b25), .val (.int (1 : Int32))] [(.int (8 : Int32)), (.int (1 : Int32))])) (fun _ k => XS.bipush X29.here hx rfl (hb hby d11_87) k) ?_
  refine Rch.go (U' := T29.setTop (mkF m 90 #[.val (.int (1 : Int32)), .val (.int p2), .val (.int p3), .val (.int p4), .val (.int p5), .val (.int (1 : Int32)), .val (.ref b25), .val (.int (1 : Int32))] [(.int ((1 : Int32) &&& (8 : Int32)))])) (fun _ k => XS.iand X29.here hx rfl (hb hby d11_89) rfl k) ?_
  rw [(by decide : ((1 : Int32) &&& (8 : Int32)) = (0 : Int32))]
  have br34 : (0 : Int32) = (0 : Int32) := (by decide)
  refine Rch.go (U' := T29.setTop (mkF m 106 #[.val (.int (1 : Int32)), .val (.int p2), .val (.int p3), .val (.int p4), .val (.int p5), .val (.int (1 : Int32)), .val (.ref b25), .val (.int (1 : Int32))] [])) (fun _ k => XS.ifYes X29.here hx rfl (pc0 := 90) (pc' := 106) rfl (hb hby d11_90) rfl (XT.i0_eq_t br34) (by decide) (by decide) k) ?_
  refine Rch.go (U' := T29.setTop (mkF m 108 #[.val (.int (1 : Int32)), .val (.int p2), .val (.int p3), .val (.int p4), .val (.int p5), .val (.int (1 : Int32)), .val (.ref b25), .val (.int (1 : Int32))] [(.ref b25)])) (fun _ k => XS.aload X29.here hx rfl (hb hby d11_106) rfl rfl k) ?_
  refine Rch.fin X29 hlk (v := some (.ref b25)) (fun h => by rw [hret] at h; cases h) e29 (by decide) (by decide) (fun fs hr => retOut X29 hx hret rfl (Or.inr (Or.inr (Or.inr (Or.inr ⟨rfl, rfl, rfl⟩)))) (hb hby d11_108) hr) ?_
  exact ⟨b25, k25, rfl, N29, K31, n0b25, szb25, by rw [own_s1]; exact V29⟩
theorem own_s2 (p2 p3 p4 p5 : Int32) : own_sub 2 p2 p3 p4 p5 = [p3] := rfl
set_option maxRecDepth 65536 in
set_option maxHeartbeats 40000000 in
theorem sub2 {p : Program} {l : Launch} {e : Env} {s : State} {m : MethodId} {args : Array Value} {below : List Frame} {meth : Method} {c : Code} {T0 : State} {locs : List Loc} {Z : State} {a0 : Array Value} {h0 : Heap} {n0 : Nat}  (p2 : Int32) (p3 : Int32) (p4 : Int32) (p5 : Int32)
    (X0 : Stand p l e ({ frames := 0, cells := 1, slots := 4, locals := 0 } : Room) s m args below meth c T0 locs 0 0) (hx : p.tables.exec = Jvm.exec) (hZ : Z.Warmed39 s.vm) (hw : ∀ d ∈ tables_1, d.before a0 Z = true) (hby : c.code = method_2_code) (hml : c.maxLocals = 8) (hown : s.vm.findClass "com/example/fixpoints_of_behaviour/fixpointsofbehaviour/bisimulation/RefusalsHoldsPinLaw" = some m.cls) (hret : meth.sig.returnType = some (.array .int)) (hlk : meth.locks = false) (e0 : T0.heap = h0) (N0 : Fr n0 locs) (Z0 : n0 ≤ h0.size)  :
    Rch p e below (Fin s below (fun v h L => ∃ (b : Addr) (kb : ClassId), v = some (.ref b) ∧ Fr n0 L ∧ Keep h0 h [] ∧ n0 ≤ b ∧ h0.size ≤ b ∧ Arv Z h b kb .int (Int32.ofNat (own_sub 2 p2 p3 p4 p5).length) ((own_sub 2 p2 p3 p4 p5).map Value.int) (.int (0 : Int32))) 1 4) (T0.setTop (mkF m 0 #[.val (.int (2 : Int32)), .val (.int p2), .val (.int p3), .val (.int p4), .val (.int p5), .unset, .unset, .unset] [])) := by
  refine Rch.go (U' := T0.setTop (mkF m 1 #[.val (.int (2 : Int32)), .val (.int p2), .val (.int p3), .val (.int p4), .val (.int p5), .unset, .unset, .unset] [(.int (2 : Int32))])) (fun _ k => XS.iloadN X0.here hx rfl (hb hby d11_0) rfl  k) ?_
  refine Rch.go (U' := T0.setTop (mkF m 2 #[.val (.int (2 : Int32)), .val (.int p2), .val (.int p3), .val (.int p4), .val (.int p5), .unset, .unset, .unset] [(.int (1 : Int32)), (.int (2 : Int32))])) (fun _ k => XS.iconst X0.here hx rfl (hb hby d11_1) k) ?_
  refine Rch.go (U' := T0.setTop (mkF m 3 #[.val (.int (2 : Int32)), .val (.int p2), .val (.int p3), .val (.int p4), .val (.int p5), .unset, .unset, .unset] [(.int ((2 : Int32) &&& (1 : Int32)))])) (fun _ k => XS.iand X0.here hx rfl (hb hby d11_2) rfl k) ?_
  rw [(by decide : ((2 : Int32) &&& (1 : Int32)) = (0 : Int32))]
  refine Rch.go (U' := T0.setTop (mkF m 4 #[.val (.int (2 : Int32)), .val (.int p2), .val (.int p3), .val (.int p4), .val (.int p5), .unset, .unset, .unset] [(.int (2 : Int32)), (.int (0 : Int32))])) (fun _ k => XS.iloadN X0.here hx rfl (hb hby d11_3) rfl  k) ?_
  refine Rch.go (U' := T0.setTop (mkF m 5 #[.val (.int (2 : Int32)), .val (.int p2), .val (.int p3), .val (.int p4), .val (.int p5), .unset, .unset, .unset] [(.int (1 : Int32)), (.int (2 : Int32)), (.int (0 : Int32))])) (fun _ k => XS.iconst X0.here hx rfl (hb hby d11_4) k) ?_
  refine Rch.go (U' := T0.setTop (mkF m 6 #[.val (.int (2 : Int32)), .val (.int p2), .val (.int p3), .val (.int p4), .val (.int p5), .unset, .unset, .unset] [(.int ((2 : Int32) >>> ((1 : Int32) &&& 31))), (.int (0 : Int32))])) (fun _ k => XS.ishr X0.here hx rfl (hb hby d11_5) rfl k) ?_
  rw [(by decide : ((2 : Int32) >>> ((1 : Int32) &&& 31)) = (1 : Int32))]
  refine Rch.go (U' := T0.setTop (mkF m 7 #[.val (.int (2 : Int32)), .val (.int p2), .val (.int p3), .val (.int p4), .val (.int p5), .unset, .unset, .unset] [(.int (1 : Int32)), (.int (1 : Int32)), (.int (0 : Int32))])) (fun _ k => XS.iconst X0.here hx rfl (hb hby d11_6) k) ?_
  refine Rch.go (U' := T0.setTop (mkF m 8 #[.val (.int (2 : Int32)), .val (.int p2), .val (.int p3), .val (.int p4), .val (.int p5), .unset, .unset, .unset] [(.int ((1 : Int32) &&& (1 : Int32))), (.int (0 : Int32))])) (fun _ k => XS.iand X0.here hx rfl (hb hby d11_7) rfl k) ?_
  rw [(by decide : ((1 : Int32) &&& (1 : Int32)) = (1 : Int32))]
  refine Rch.go (U' := T0.setTop (mkF m 9 #[.val (.int (2 : Int32)), .val (.int p2), .val (.int p3), .val (.int p4), .val (.int p5), .unset, .unset, .unset] [(.int ((0 : Int32) + (1 : Int32)))])) (fun _ k => XS.iadd X0.here hx rfl (hb hby d11_8) rfl k) ?_
  rw [(by decide : ((0 : Int32) + (1 : Int32)) = (1 : Int32))]
  refine Rch.go (U' := T0.setTop (mkF m 10 #[.val (.int (2 : Int32)), .val (.int p2), .val (.int p3), .val (.int p4), .val (.int p5), .unset, .unset, .unset] [(.int (2 : Int32)), (.int (1 : Int32))])) (fun _ k => XS.iloadN X0.here hx rfl (hb hby d11_9) rfl  k) ?_
  refine Rch.go (U' := T0.setTop (mkF m 11 #[.val (.int (2 : Int32)), .val (.int p2), .val (.int p3), .val (.int p4), .val (.int p5), .unset, .unset, .unset] [(.int (2 : Int32)), (.int (2 : Int32)), (.int (1 : Int32))])) (fun _ k => XS.iconst X0.here hx rfl (hb hby d11_10) k) ?_
  refine Rch.go (U' := T0.setTop (mkF m 12 #[.val (.int (2 : Int32)), .val (.int p2), .val (.int p3), .val (.int p4), .val (.int p5), .unset, .unset, .unset] [(.int ((2 : Int32) >>> ((2 : Int32) &&& 31))), (.int (1 : Int32))])) (fun _ k => XS.ishr X0.here hx rfl (hb hby d11_11) rfl k) ?_
  rw [(by decide : ((2 : Int32) >>> ((2 : Int32) &&& 31)) = (0 : Int32))]
  refine Rch.go (U' := T0.setTop (mkF m 13 #[.val (.int (2 : Int32)), .val (.int p2), .val (.int p3), .val (.int p4), .val (.int p5), .unset, .unset, .unset] [(.int (1 : Int32)), (.int (0 : Int32)), (.int (1 : Int32))])) (fun _ k => XS.iconst X0.here hx rfl (hb hby d11_12) k) ?_
  refine Rch.go (U' := T0.setTop (mkF m 14 #[.val (.int (2 : Int32)), .val (.int p2), .val (.int p3), .val (.int p4), .val (.int p5), .unset, .unset, .unset] [(.int ((0 : Int32) &&& (1 : Int32))), (.int (1 : Int32))])) (fun _ k => XS.iand X0.here hx rfl (hb hby d11_13) rfl k) ?_
  rw [(by decide : ((0 : Int32) &&& (1 : Int32)) = (0 : Int32))]
  refine Rch.go (U' := T0.setTop (mkF m 15 #[.val (.int (2 : Int32)), .val (.int p2), .val (.int p3), .val (.int p4), .val (.int p5), .unset, .unset, .unset] [(.int ((1 : Int32) + (0 : Int32)))])) (fun _ k => XS.iadd X0.here hx rfl (hb hby d11_14) rfl k) ?_
  rw [(by decide : ((1 : Int32) + (0 : Int32)) = (1 : Int32))]
  refine Rch.go (U' := T0.setTop (mkF m 16 #[.val (.int (2 : Int32)), .val (.int p2), .val (.int p3), .val (.int p4), .val (.int p5), .unset, .unset, .unset] [(.int (2 : Int32)), (.int (1 : Int32))])) (fun _ k => XS.iloadN X0.here hx rfl (hb hby d11_15) rfl  k) ?_
  refine Rch.go (U' := T0.setTop (mkF m 17 #[.val (.int (2 : Int32)), .val (.int p2), .val (.int p3), .val (.int p4), .val (.int p5), .unset, .unset, .unset] [(.int (3 : Int32)), (.int (2 : Int32)), (.int (1 : Int32))])) (fun _ k => XS.iconst X0.here hx rfl (hb hby d11_16) k) ?_
  refine Rch.go (U' := T0.setTop (mkF m 18 #[.val (.int (2 : Int32)), .val (.int p2), .val (.int p3), .val (.int p4), .val (.int p5), .unset, .unset, .unset] [(.int ((2 : Int32) >>> ((3 : Int32) &&& 31))), (.int (1 : Int32))])) (fun _ k => XS.ishr X0.here hx rfl (hb hby d11_17) rfl k) ?_
  rw [(by decide : ((2 : Int32) >>> ((3 : Int32) &&& 31)) = (0 : Int32))]
  refine Rch.go (U' := T0.setTop (mkF m 19 #[.val (.int (2 : Int32)), .val (.int p2), .val (.int p3), .val (.int p4), .val (.int p5), .unset, .unset, .unset] [(.int (1 : Int32)), (.int (0 : Int32)), (.int (1 : Int32))])) (fun _ k => XS.iconst X0.here hx rfl (hb hby d11_18) k) ?_
  refine Rch.go (U' := T0.setTop (mkF m 20 #[.val (.int (2 : Int32)), .val (.int p2), .val (.int p3), .val (.int p4), .val (.int p5), .unset, .unset, .unset] [(.int ((0 : Int32) &&& (1 : Int32))), (.int (1 : Int32))])) (fun _ k => XS.iand X0.here hx rfl (hb hby d11_19) rfl k) ?_
  rw [(by decide : ((0 : Int32) &&& (1 : Int32)) = (0 : Int32))]
  refine Rch.go (U' := T0.setTop (mkF m 21 #[.val (.int (2 : Int32)), .val (.int p2), .val (.int p3), .val (.int p4), .val (.int p5), .unset, .unset, .unset] [(.int ((1 : Int32) + (0 : Int32)))])) (fun _ k => XS.iadd X0.here hx rfl (hb hby d11_20) rfl k) ?_
  rw [(by decide : ((1 : Int32) + (0 : Int32)) = (1 : Int32))]
  refine Rch.go (U' := T0.setTop (mkF m 23 #[.val (.int (2 : Int32)), .val (.int p2), .val (.int p3), .val (.int p4), .val (.int p5), .val (.int (1 : Int32)), .unset, .unset] [])) (fun _ k => XS.istore X0.here hx rfl (hb hby d11_21) rfl (l' := #[.val (.int (2 : Int32)), .val (.int p2), .val (.int p3), .val (.int p4), .val (.int p5), .val (.int (1 : Int32)), .unset, .unset]) rfl k) ?_
  refine Rch.go (U' := T0.setTop (mkF m 25 #[.val (.int (2 : Int32)), .val (.int p2), .val (.int p3), .val (.int p4), .val (.int p5), .val (.int (1 : Int32)), .unset, .unset] [(.int (1 : Int32))])) (fun _ k => XS.iload X0.here hx rfl (hb hby d11_23) rfl  k) ?_
  obtain ⟨T35, h35, k35, X35, e35, E35, A35, st35⟩ := newP X0 hx hZ (wi hw 12 rfl) e0 (g := (mkF m 25 #[.val (.int (2 : Int32)), .val (.int p2), .val (.int p3), .val (.int p4), .val (.int p5), .val (.int (1 : Int32)), .unset, .unset] [(.int (1 : Int32))])) rfl (hb hby d11_25) rfl (by decide) (cap := 1) (by decide) (by decide) (by decide) (by decide)
  obtain ⟨b35, g35⟩ : ∃ z, z = h0.size := ⟨_, rfl⟩
  rw [← g35] at A35 st35
  have n0b35 : n0 ≤ b35 := Nat.le_trans Z0 (Nat.le_of_eq g35.symm)
  have szb35 : h0.size ≤ b35 := Nat.le_trans (Keep.refl h0 []).1 (Nat.le_of_eq g35.symm)
  have z36 := Nat.le_trans Z0 E35.1
  have K37 := (Keep.refl h0 []).ext E35
  have V35 : Arv Z h35 b35 k35 .int (1 : Int32) [(.int (0 : Int32))] (.int (0 : Int32)) := (Arv.new A35 (by decide)).pad (pad_rep [] (.int (0 : Int32)) 1)
  refine Rch.go (U' := T35.setTop (mkF m 27 #[.val (.int (2 : Int32)), .val (.int p2), .val (.int p3), .val (.int p4), .val (.int p5), .val (.int (1 : Int32)), .unset, .unset] [(.ref b35)])) st35 ?_
  refine Rch.go (U' := T35.setTop (mkF m 29 #[.val (.int (2 : Int32)), .val (.int p2), .val (.int p3), .val (.int p4), .val (.int p5), .val (.int (1 : Int32)), .val (.ref b35), .unset] [])) (fun _ k => XS.astore X35.here hx rfl (hb hby d11_27) rfl rfl (l' := #[.val (.int (2 : Int32)), .val (.int p2), .val (.int p3), .val (.int p4), .val (.int p5), .val (.int (1 : Int32)), .val (.ref b35), .unset]) rfl k) ?_
  refine Rch.go (U' := T35.setTop (mkF m 30 #[.val (.int (2 : Int32)), .val (.int p2), .val (.int p3), .val (.int p4), .val (.int p5), .val (.int (1 : Int32)), .val (.ref b35), .unset] [(.int (0 : Int32))])) (fun _ k => XS.iconst X35.here hx rfl (hb hby d11_29) k) ?_
  refine Rch.go (U' := T35.setTop (mkF m 32 #[.val (.int (2 : Int32)), .val (.int p2), .val (.int p3), .val (.int p4), .val (.int p5), .val (.int (1 : Int32)), .val (.ref b35), .val (.int (0 : Int32))] [])) (fun _ k => XS.istore X35.here hx rfl (hb hby d11_30) rfl (l' := #[.val (.int (2 : Int32)), .val (.int p2), .val (.int p3), .val (.int p4), .val (.int p5), .val (.int (1 : Int32)), .val (.ref b35), .val (.int (0 : Int32))]) rfl k) ?_
  refine Rch.go (U' := T35.setTop (mkF m 33 #[.val (.int (2 : Int32)), .val (.int p2), .val (.int p3), .val (.int p4), .val (.int p5), .val (.int (1 : Int32)), .val (.ref b35), .val (.int (0 : Int32))] [(.int (2 : Int32))])) (fun _ k => XS.iloadN X35.here hx rfl (hb hby d11_32) rfl  k) ?_
  refine Rch.go (U' := T35.setTop (mkF m 34 #[.val (.int (2 : Int32)), .val (.int p2), .val (.int p3), .val (.int p4), .val (.int p5), .val (.int (1 : Int32)), .val (.ref b35), .val (.int (0 : Int32))] [(.int (1 : Int32)), (.int (2 : Int32))])) (fun _ k => XS.iconst X35.here hx rfl (hb hby d11_33) k) ?_
  refine Rch.go (U' := T35.setTop (mkF m 35 #[.val (.int (2 : Int32)), .val (.int p2), .val (.int p3), .val (.int p4), .val (.int p5), .val (.int (1 : Int32)), .val (.ref b35), .val (.int (0 : Int32))] [(.int ((2 : Int32) &&& (1 : Int32)))])) (fun _ k => XS.iand X35.here hx rfl (hb hby d11_34) rfl k) ?_
  rw [(by decide : ((2 : Int32) &&& (1 : Int32)) = (0 : Int32))]
  have br38 : (0 : Int32) = (0 : Int32) := (by decide)
  refine Rch.go (U' := T35.setTop (mkF m 50 #[.val (.int (2 : Int32)), .val (.int p2), .val (.int p3), .val (.int p4), .val (.int p5), .val (.int (1 : Int32)), .val (.ref b35), .val (.int (0 : Int32))] [])) (fun _ k => XS.ifYes X35.here hx rfl (pc0 := 35) (pc' := 50) rfl (hb hby d11_35) rfl (XT.i0_eq_t br38) (by decide) (by decide) k) ?_
  refine Rch.go (U' := T35.setTop (mkF m 51 #[.val (.int (2 : Int32)), .val (.int p2), .val (.int p3), .val (.int p4), .val (.int p5), .val (.int (1 : Int32)), .val (.ref b35), .val (.int (0 : Int32))] [(.int (2 : Int32))])) (fun _ k => XS.iloadN X35.here hx rfl (hb hby d11_50) rfl  k) ?_
  refine Rch.go (U' := T35.setTop (mkF m 52 #[.val (.int (2 : Int32)), .val (.int p2), .val (.int p3), .val (.int p4), .val (.int p5), .val (.int (1 : Int32)), .val (.ref b35), .val (.int (0 : Int32))] [(.int (2 : Int32)), (.int (2 : Int32))])) (fun _ k => XS.iconst X35.here hx rfl (hb hby d11_51) k) ?_
  refine Rch.go (U' := T35.setTop (mkF m 53 #[.val (.int (2 : Int32)), .val (.int p2), .val (.int p3), .val (.int p4), .val (.int p5), .val (.int (1 : Int32)), .val (.ref b35), .val (.int (0 : Int32))] [(.int ((2 : Int32) &&& (2 : Int32)))])) (fun _ k => XS.iand X35.here hx rfl (hb hby d11_52) rfl k) ?_
  rw [(by decide : ((2 : Int32) &&& (2 : Int32)) = (2 : Int32))]
  have br39 : ¬ ((2 : Int32) = (0 : Int32)) := (by decide)
  refine Rch.go (U' := T35.setTop (mkF m 56 #[.val (.int (2 : Int32)), .val (.int p2), .val (.int p3), .val (.int p4), .val (.int p5), .val (.int (1 : Int32)), .val (.ref b35), .val (.int (0 : Int32))] [])) (fun _ k => XS.ifNo X35.here hx rfl (hb hby d11_53) rfl (XT.i0_eq_f br39) k) ?_
  refine Rch.go (U' := T35.setTop (mkF m 58 #[.val (.int (2 : Int32)), .val (.int p2), .val (.int p3), .val (.int p4), .val (.int p5), .val (.int (1 : Int32)), .val (.ref b35), .val (.int (0 : Int32))] [(.ref b35)])) (fun _ k => XS.aload X35.here hx rfl (hb hby d11_56) rfl rfl k) ?_
  refine Rch.go (U' := T35.setTop (mkF m 60 #[.val (.int (2 : Int32)), .val (.int p2), .val (.int p3), .val (.int p4), .val (.int p5), .val (.int (1 : Int32)), .val (.ref b35), .val (.int (0 : Int32))] [(.int (0 : Int32)), (.ref b35)])) (fun _ k => XS.iload X35.here hx rfl (hb hby d11_58) rfl  k) ?_
  refine Rch.go (U' := T35.setTop (mkF m 61 #[.val (.int (2 : Int32)), .val (.int p2), .val (.int p3), .val (.int p4), .val (.int p5), .val (.int (1 : Int32)), .val (.ref b35), .val (.int (0 : Int32))] [(.int p3), (.int (0 : Int32)), (.ref b35)])) (fun _ k => XS.iloadN X35.here hx rfl (hb hby d11_60) rfl  k) ?_
  obtain ⟨c40, Ar40, q40, S40, M40, Hs40, G40⟩ := id V35
  have i40 : ¬ ((0 : Int32) < 0 ∨ c40.slots.size ≤ ((0 : Int32)).toNatClampNeg) := inb_of S40 ⟨by decide, by decide⟩
  obtain ⟨T40, h40, X40, e40, W40, st40⟩ := stI X35 hx hZ e35 Ar40 (j := (0 : Int32)) i40 (g := (mkF m 61 #[.val (.int (2 : Int32)), .val (.int p2), .val (.int p3), .val (.int p4), .val (.int p5), .val (.int (1 : Int32)), .val (.ref b35), .val (.int (0 : Int32))] [(.int p3), (.int (0 : Int32)), (.ref b35)])) rfl rfl (hb hby d11_61)
  have V40 : Arv Z h40 b35 k35 .int (1 : Int32) [(.int p3)] (.int (0 : Int32)) := Arv.set Ar40 q40 S40 M40 Hs40 G40 rfl W40 0 rfl (Nat.le_of_ble_eq_true rfl)
  have N40 := Fr.snoc X40 N0 n0b35
  have z41 := Nat.le_trans z36 (Keep.of_wr W40).1
  have K42 := K37.wr W40 (Or.inr szb35)
  refine Rch.go (U' := T40.setTop (mkF m 62 #[.val (.int (2 : Int32)), .val (.int p2), .val (.int p3), .val (.int p4), .val (.int p5), .val (.int (1 : Int32)), .val (.ref b35), .val (.int (0 : Int32))] [])) st40 ?_
  refine Rch.go (U' := T40.setTop (mkF m 64 #[.val (.int (2 : Int32)), .val (.int p2), .val (.int p3), .val (.int p4), .val (.int p5), .val (.int (1 : Int32)), .val (.ref b35), .val (.int (0 : Int32))] [(.int (0 : Int32))])) (fun _ k => XS.iload X40.here hx rfl (hb hby d11_62) rfl  k) ?_
  refine Rch.go (U' := T40.setTop (mkF m 65 #[.val (.int (2 : Int32)), .val (.int p2), .val (.int p3), .val (.int p4), .val (.int p5), .val (.int (1 : Int32)), .val (.ref b35), .val (.int (0 : Int32))] [(.int (1 : Int32)), (.int (0 : Int32))])) (fun _ k => XS.iconst X40.here hx rfl (hb hby d11_64) k) ?_
  refine Rch.go (U' := T40.setTop (mkF m 66 #[.val (.int (2 : Int32)), .val (.int p2), .val (.int p3), .val (.int p4), .val (.int p5), .val (.int (1 : Int32)), .val (.ref b35), .val (.int (0 : Int32))] [(.int ((0 : Int32) + (1 : Int32)))])) (fun _ k => XS.iadd X40.here hx rfl (hb hby d11_65) rfl k) ?_
  rw [(by decide : ((0 : Int32) + (1 : Int32)) = (1 : Int32))]
  refine Rch.go (U' := T40.setTop (mkF m 68 #[.val (.int (2 : Int32)), .val (.int p2), .val (.int p3), .val (.int p4), .val (.int p5), .val (.int (1 : Int32)), .val (.ref b35), .val (.int (1 : Int32))] [])) (fun _ k => XS.istore X40.here hx rfl (hb hby d11_66) rfl (l' := #[.val (.int (2 : Int32)), .val (.int p2), .val (.int p3), .val (.int p4), .val (.int p5), .val (.int (1 : Int32)), .val (.ref b35), .val (.int (1 : Int32))]) rfl k) ?_
  refine Rch.go (U' := T40.setTop (mkF m 69 #[.val (.int (2 : Int32)), .val (.int p2), .val (.int p3), .val (.int p4), .val (.int p5), .val (.int (1 : Int32)), .val (.ref b35), .val (.int (1 : Int32))] [(.int (2 : Int32))])) (fun _ k => XS.iloadN X40.here hx rfl (hb hby d11_68) rfl  k) ?_
  refine Rch.go (U' := T40.setTop (mkF m 70 #[.val (.int (2 : Int32)), .val (.int p2), .val (.int p3), .val (.int p4), .val (.int p5), .val (.int (1 : Int32)), .val (.ref b35), .val (.int (1 : Int32))] [(.int (4 : Int32)), (.int (2 : Int32))])) (fun _ k => XS.iconst X40.here hx rfl (hb hby d11_69) k) ?_
  refine Rch.go (U' := T40.setTop (mkF m 71 #[.val (.int (2 : Int32)), .val (.int p2), .val (.int p3), .val (.int p4), .val (.int p5), .val (.int (1 : Int32)), .val (.ref b35), .val (.int (1 : Int32))] [(.int ((2 : Int32) &&& (4 : Int32)))])) (fun _ k => XS.iand X40.here hx rfl (hb hby d11_70) rfl k) ?_
  rw [(by decide : ((2 : Int32) &&& (4 : Int32)) = (0 : Int32))]
  have br43 : (0 : Int32) = (0 : Int32) := (by decide)
  refine Rch.go (U' := T40.setTop (mkF m 86 #[.val (.int (2 : Int32)), .val (.int p2), .val (.int p3), .val (.int p4), .val (.int p5), .val (.int (1 : Int32)), .val (.ref b35), .val (.int (1 : Int32))] [])) (fun _ k => XS.ifYes X40.here hx rfl (pc0 := 71) (pc' := 86) rfl (hb hby d11_71) rfl (XT.i0_eq_t br43) (by decide) (by decide) k) ?_
  refine Rch.go (U' := T40.setTop (mkF m 87 #[.val (.int (2 : Int32)), .val (.int p2), .val (.int p3), .val (.int p4), .val (.int p5), .val (.int (1 : Int32)), .val (.ref b35), .val (.int (1 : Int32))] [(.int (2 : Int32))])) (fun _ k => XS.iloadN X40.here hx rfl (hb hby d11_86) rfl  k) ?_
  refine Rch.go (U' := T40.setTop (mkF m 89 #[.val (.int (2 : Int32)), .val (.int p2), .val (.int p3), .val (.int p4), .val (.int p5), .val (.int (1 : Int32)), .val (.ref b35), .val (.int (1 : Int32))] [(.int (8 : Int32)), (.int (2 : Int32))])) (fun _ k => XS.bipush X40.here hx rfl (hb hby d11_87) k) ?_
  refine Rch.go (U' := T40.setTop (mkF m 90 #[.val (.int (2 : Int32)), .val (.int p2), .val (.int p3), .val (.int p4), .val (.int p5), .val (.int (1 : Int32)), .val (.ref b35), .val (.int (1 : Int32))] [(.int ((2 : Int32) &&& (8 : Int32)))])) (fun _ k => XS.iand X40.here hx rfl (hb hby d11_89) rfl k) ?_
  rw [(by decide : ((2 : Int32) &&& (8 : Int32)) = (0 : Int32))]
  have br44 : (0 : Int32) = (0 : Int32) := (by decide)
  refine Rch.go (U' := T40.setTop (mkF m 106 #[.val (.int (2 : Int32)), .val (.int p2), .val (.int p3), .val (.int p4), .val (.int p5), .val (.int (1 : Int32)), .val (.ref b35), .val (.int (1 : Int32))] [])) (fun _ k => XS.ifYes X40.here hx rfl (pc0 := 90) (pc' := 106) rfl (hb hby d11_90) rfl (XT.i0_eq_t br44) (by decide) (by decide) k) ?_
  refine Rch.go (U' := T40.setTop (mkF m 108 #[.val (.int (2 : Int32)), .val (.int p2), .val (.int p3), .val (.int p4), .val (.int p5), .val (.int (1 : Int32)), .val (.ref b35), .val (.int (1 : Int32))] [(.ref b35)])) (fun _ k => XS.aload X40.here hx rfl (hb hby d11_106) rfl rfl k) ?_
  refine Rch.fin X40 hlk (v := some (.ref b35)) (fun h => by rw [hret] at h; cases h) e40 (by decide) (by decide) (fun fs hr => retOut X40 hx hret rfl (Or.inr (Or.inr (Or.inr (Or.inr ⟨rfl, rfl, rfl⟩)))) (hb hby d11_108) hr) ?_
  exact ⟨b35, k35, rfl, N40, K42, n0b35, szb35, by rw [own_s2]; exact V40⟩
theorem own_s3 (p2 p3 p4 p5 : Int32) : own_sub 3 p2 p3 p4 p5 = [p2, p3] := rfl
set_option maxRecDepth 65536 in
set_option maxHeartbeats 40000000 in
theorem sub3 {p : Program} {l : Launch} {e : Env} {s : State} {m : MethodId} {args : Array Value} {below : List Frame} {meth : Method} {c : Code} {T0 : State} {locs : List Loc} {Z : State} {a0 : Array Value} {h0 : Heap} {n0 : Nat}  (p2 : Int32) (p3 : Int32) (p4 : Int32) (p5 : Int32)
    (X0 : Stand p l e ({ frames := 0, cells := 1, slots := 4, locals := 0 } : Room) s m args below meth c T0 locs 0 0) (hx : p.tables.exec = Jvm.exec) (hZ : Z.Warmed39 s.vm) (hw : ∀ d ∈ tables_1, d.before a0 Z = true) (hby : c.code = method_2_code) (hml : c.maxLocals = 8) (hown : s.vm.findClass "com/example/fixpoints_of_behaviour/fixpointsofbehaviour/bisimulation/RefusalsHoldsPinLaw" = some m.cls) (hret : meth.sig.returnType = some (.array .int)) (hlk : meth.locks = false) (e0 : T0.heap = h0) (N0 : Fr n0 locs) (Z0 : n0 ≤ h0.size)  :
    Rch p e below (Fin s below (fun v h L => ∃ (b : Addr) (kb : ClassId), v = some (.ref b) ∧ Fr n0 L ∧ Keep h0 h [] ∧ n0 ≤ b ∧ h0.size ≤ b ∧ Arv Z h b kb .int (Int32.ofNat (own_sub 3 p2 p3 p4 p5).length) ((own_sub 3 p2 p3 p4 p5).map Value.int) (.int (0 : Int32))) 1 4) (T0.setTop (mkF m 0 #[.val (.int (3 : Int32)), .val (.int p2), .val (.int p3), .val (.int p4), .val (.int p5), .unset, .unset, .unset] [])) := by
  refine Rch.go (U' := T0.setTop (mkF m 1 #[.val (.int (3 : Int32)), .val (.int p2), .val (.int p3), .val (.int p4), .val (.int p5), .unset, .unset, .unset] [(.int (3 : Int32))])) (fun _ k => XS.iloadN X0.here hx rfl (hb hby d11_0) rfl  k) ?_
  refine Rch.go (U' := T0.setTop (mkF m 2 #[.val (.int (3 : Int32)), .val (.int p2), .val (.int p3), .val (.int p4), .val (.int p5), .unset, .unset, .unset] [(.int (1 : Int32)), (.int (3 : Int32))])) (fun _ k => XS.iconst X0.here hx rfl (hb hby d11_1) k) ?_
  refine Rch.go (U' := T0.setTop (mkF m 3 #[.val (.int (3 : Int32)), .val (.int p2), .val (.int p3), .val (.int p4), .val (.int p5), .unset, .unset, .unset] [(.int ((3 : Int32) &&& (1 : Int32)))])) (fun _ k => XS.iand X0.here hx rfl (hb hby d11_2) rfl k) ?_
  rw [(by decide : ((3 : Int32) &&& (1 : Int32)) = (1 : Int32))]
  refine Rch.go (U' := T0.setTop (mkF m 4 #[.val (.int (3 : Int32)), .val (.int p2), .val (.int p3), .val (.int p4), .val (.int p5), .unset, .unset, .unset] [(.int (3 : Int32)), (.int (1 : Int32))])) (fun _ k => XS.iloadN X0.here hx rfl (hb hby d11_3) rfl  k) ?_
  refine Rch.go (U' := T0.setTop (mkF m 5 #[.val (.int (3 : Int32)), .val (.int p2), .val (.int p3), .val (.int p4), .val (.int p5), .unset, .unset, .unset] [(.int (1 : Int32)), (.int (3 : Int32)), (.int (1 : Int32))])) (fun _ k => XS.iconst X0.here hx rfl (hb hby d11_4) k) ?_
  refine Rch.go (U' := T0.setTop (mkF m 6 #[.val (.int (3 : Int32)), .val (.int p2), .val (.int p3), .val (.int p4), .val (.int p5), .unset, .unset, .unset] [(.int ((3 : Int32) >>> ((1 : Int32) &&& 31))), (.int (1 : Int32))])) (fun _ k => XS.ishr X0.here hx rfl (hb hby d11_5) rfl k) ?_
  rw [(by decide : ((3 : Int32) >>> ((1 : Int32) &&& 31)) = (1 : Int32))]
  refine Rch.go (U' := T0.setTop (mkF m 7 #[.val (.int (3 : Int32)), .val (.int p2), .val (.int p3), .val (.int p4), .val (.int p5), .unset, .unset, .unset] [(.int (1 : Int32)), (.int (1 : Int32)), (.int (1 : Int32))])) (fun _ k => XS.iconst X0.here hx rfl (hb hby d11_6) k) ?_
  refine Rch.go (U' := T0.setTop (mkF m 8 #[.val (.int (3 : Int32)), .val (.int p2), .val (.int p3), .val (.int p4), .val (.int p5), .unset, .unset, .unset] [(.int ((1 : Int32) &&& (1 : Int32))), (.int (1 : Int32))])) (fun _ k => XS.iand X0.here hx rfl (hb hby d11_7) rfl k) ?_
  rw [(by decide : ((1 : Int32) &&& (1 : Int32)) = (1 : Int32))]
  refine Rch.go (U' := T0.setTop (mkF m 9 #[.val (.int (3 : Int32)), .val (.int p2), .val (.int p3), .val (.int p4), .val (.int p5), .unset, .unset, .unset] [(.int ((1 : Int32) + (1 : Int32)))])) (fun _ k => XS.iadd X0.here hx rfl (hb hby d11_8) rfl k) ?_
  rw [(by decide : ((1 : Int32) + (1 : Int32)) = (2 : Int32))]
  refine Rch.go (U' := T0.setTop (mkF m 10 #[.val (.int (3 : Int32)), .val (.int p2), .val (.int p3), .val (.int p4), .val (.int p5), .unset, .unset, .unset] [(.int (3 : Int32)), (.int (2 : Int32))])) (fun _ k => XS.iloadN X0.here hx rfl (hb hby d11_9) rfl  k) ?_
  refine Rch.go (U' := T0.setTop (mkF m 11 #[.val (.int (3 : Int32)), .val (.int p2), .val (.int p3), .val (.int p4), .val (.int p5), .unset, .unset, .unset] [(.int (2 : Int32)), (.int (3 : Int32)), (.int (2 : Int32))])) (fun _ k => XS.iconst X0.here hx rfl (hb hby d11_10) k) ?_
  refine Rch.go (U' := T0.setTop (mkF m 12 #[.val (.int (3 : Int32)), .val (.int p2), .val (.int p3), .val (.int p4), .val (.int p5), .unset, .unset, .unset] [(.int ((3 : Int32) >>> ((2 : Int32) &&& 31))), (.int (2 : Int32))])) (fun _ k => XS.ishr X0.here hx rfl (hb hby d11_11) rfl k) ?_
  rw [(by decide : ((3 : Int32) >>> ((2 : Int32) &&& 31)) = (0 : Int32))]
  refine Rch.go (U' := T0.setTop (mkF m 13 #[.val (.int (3 : Int32)), .val (.int p2), .val (.int p3), .val (.int p4), .val (.int p5), .unset, .unset, .unset] [(.int (1 : Int32)), (.int (0 : Int32)), (.int (2 : Int32))])) (fun _ k => XS.iconst X0.here hx rfl (hb hby d11_12) k) ?_
  refine Rch.go (U' := T0.setTop (mkF m 14 #[.val (.int (3 : Int32)), .val (.int p2), .val (.int p3), .val (.int p4), .val (.int p5), .unset, .unset, .unset] [(.int ((0 : Int32) &&& (1 : Int32))), (.int (2 : Int32))])) (fun _ k => XS.iand X0.here hx rfl (hb hby d11_13) rfl k) ?_
  rw [(by decide : ((0 : Int32) &&& (1 : Int32)) = (0 : Int32))]
  refine Rch.go (U' := T0.setTop (mkF m 15 #[.val (.int (3 : Int32)), .val (.int p2), .val (.int p3), .val (.int p4), .val (.int p5), .unset, .unset, .unset] [(.int ((2 : Int32) + (0 : Int32)))])) (fun _ k => XS.iadd X0.here hx rfl (hb hby d11_14) rfl k) ?_
  rw [(by decide : ((2 : Int32) + (0 : Int32)) = (2 : Int32))]
  refine Rch.go (U' := T0.setTop (mkF m 16 #[.val (.int (3 : Int32)), .val (.int p2), .val (.int p3), .val (.int p4), .val (.int p5), .unset, .unset, .unset] [(.int (3 : Int32)), (.int (2 : Int32))])) (fun _ k => XS.iloadN X0.here hx rfl (hb hby d11_15) rfl  k) ?_
  refine Rch.go (U' := T0.setTop (mkF m 17 #[.val (.int (3 : Int32)), .val (.int p2), .val (.int p3), .val (.int p4), .val (.int p5), .unset, .unset, .unset] [(.int (3 : Int32)), (.int (3 : Int32)), (.int (2 : Int32))])) (fun _ k => XS.iconst X0.here hx rfl (hb hby d11_16) k) ?_
  refine Rch.go (U' := T0.setTop (mkF m 18 #[.val (.int (3 : Int32)), .val (.int p2), .val (.int p3), .val (.int p4), .val (.int p5), .unset, .unset, .unset] [(.int ((3 : Int32) >>> ((3 : Int32) &&& 31))), (.int (2 : Int32))])) (fun _ k => XS.ishr X0.here hx rfl (hb hby d11_17) rfl k) ?_
  rw [(by decide : ((3 : Int32) >>> ((3 : Int32) &&& 31)) = (0 : Int32))]
  refine Rch.go (U' := T0.setTop (mkF m 19 #[.val (.int (3 : Int32)), .val (.int p2), .val (.int p3), .val (.int p4), .val (.int p5), .unset, .unset, .unset] [(.int (1 : Int32)), (.int (0 : Int32)), (.int (2 : Int32))])) (fun _ k => XS.iconst X0.here hx rfl (hb hby d11_18) k) ?_
  refine Rch.go (U' := T0.setTop (mkF m 20 #[.val (.int (3 : Int32)), .val (.int p2), .val (.int p3), .val (.int p4), .val (.int p5), .unset, .unset, .unset] [(.int ((0 : Int32) &&& (1 : Int32))), (.int (2 : Int32))])) (fun _ k => XS.iand X0.here hx rfl (hb hby d11_19) rfl k) ?_
  rw [(by decide : ((0 : Int32) &&& (1 : Int32)) = (0 : Int32))]
  refine Rch.go (U' := T0.setTop (mkF m 21 #[.val (.int (3 : Int32)), .val (.int p2), .val (.int p3), .val (.int p4), .val (.int p5), .unset, .unset, .unset] [(.int ((2 : Int32) + (0 : Int32)))])) (fun _ k => XS.iadd X0.here hx rfl (hb hby d11_20) rfl k) ?_
  rw [(by decide : ((2 : Int32) + (0 : Int32)) = (2 : Int32))]
  refine Rch.go (U' := T0.setTop (mkF m 23 #[.val (.int (3 : Int32)), .val (.int p2), .val (.int p3), .val (.int p4), .val (.int p5), .val (.int (2 : Int32)), .unset, .unset] [])) (fun _ k => XS.istore X0.here hx rfl (hb hby d11_21) rfl (l' := #[.val (.int (3 : Int32)), .val (.int p2), .val (.int p3), .val (.int p4), .val (.int p5), .val (.int (2 : Int32)), .unset, .unset]) rfl k) ?_
  refine Rch.go (U' := T0.setTop (mkF m 25 #[.val (.int (3 : Int32)), .val (.int p2), .val (.int p3), .val (.int p4), .val (.int p5), .val (.int (2 : Int32)), .unset, .unset] [(.int (2 : Int32))])) (fun _ k => XS.iload X0.here hx rfl (hb hby d11_23) rfl  k) ?_
  obtain ⟨T45, h45, k45, X45, e45, E45, A45, st45⟩ := newP X0 hx hZ (wi hw 12 rfl) e0 (g := (mkF m 25 #[.val (.int (3 : Int32)), .val (.int p2), .val (.int p3), .val (.int p4), .val (.int p5), .val (.int (2 : Int32)), .unset, .unset] [(.int (2 : Int32))])) rfl (hb hby d11_25) rfl (by decide) (cap := 2) (by decide) (by decide) (by decide) (by decide)
  obtain ⟨b45, g45⟩ : ∃ z, z = h0.size := ⟨_, rfl⟩
  rw [← g45] at A45 st45
  have n0b45 : n0 ≤ b45 := Nat.le_trans Z0 (Nat.le_of_eq g45.symm)
  have szb45 : h0.size ≤ b45 := Nat.le_trans (Keep.refl h0 []).1 (Nat.le_of_eq g45.symm)
  have z46 := Nat.le_trans Z0 E45.1
  have K47 := (Keep.refl h0 []).ext E45
  have V45 : Arv Z h45 b45 k45 .int (2 : Int32) [(.int (0 : Int32)), (.int (0 : Int32))] (.int (0 : Int32)) := (Arv.new A45 (by decide)).pad (pad_rep [] (.int (0 : Int32)) 2)
  refine Rch.go (U' := T45.setTop (mkF m 27 #[.val (.int (3 : Int32)), .val (.int p2), .val (.int p3), .val (.int p4), .val (.int p5), .val (.int (2 : Int32)), .unset, .unset] [(.ref b45)])) st45 ?_
  refine Rch.go (U' := T45.setTop (mkF m 29 #[.val (.int (3 : Int32)), .val (.int p2), .val (.int p3), .val (.int p4), .val (.int p5), .val (.int (2 : Int32)), .val (.ref b45), .unset] [])) (fun _ k => XS.astore X45.here hx rfl (hb hby d11_27) rfl rfl (l' := #[.val (.int (3 : Int32)), .val (.int p2), .val (.int p3), .val (.int p4), .val (.int p5), .val (.int (2 : Int32)), .val (.ref b45), .unset]) rfl k) ?_
  refine Rch.go (U' := T45.setTop (mkF m 30 #[.val (.int (3 : Int32)), .val (.int p2), .val (.int p3), .val (.int p4), .val (.int p5), .val (.int (2 : Int32)), .val (.ref b45), .unset] [(.int (0 : Int32))])) (fun _ k => XS.iconst X45.here hx rfl (hb hby d11_29) k) ?_
  refine Rch.go (U' := T45.setTop (mkF m 32 #[.val (.int (3 : Int32)), .val (.int p2), .val (.int p3), .val (.int p4), .val (.int p5), .val (.int (2 : Int32)), .val (.ref b45), .val (.int (0 : Int32))] [])) (fun _ k => XS.istore X45.here hx rfl (hb hby d11_30) rfl (l' := #[.val (.int (3 : Int32)), .val (.int p2), .val (.int p3), .val (.int p4), .val (.int p5), .val (.int (2 : Int32)), .val (.ref b45), .val (.int (0 : Int32))]) rfl k) ?_
  refine Rch.go (U' := T45.setTop (mkF m 33 #[.val (.int (3 : Int32)), .val (.int p2), .val (.int p3), .val (.int p4), .val (.int p5), .val (.int (2 : Int32)), .val (.ref b45), .val (.int (0 : Int32))] [(.int (3 : Int32))])) (fun _ k => XS.iloadN X45.here hx rfl (hb hby d11_32) rfl  k) ?_
  refine Rch.go (U' := T45.setTop (mkF m 34 #[.val (.int (3 : Int32)), .val (.int p2), .val (.int p3), .val (.int p4), .val (.int p5), .val (.int (2 : Int32)), .val (.ref b45), .val (.int (0 : Int32))] [(.int (1 : Int32)), (.int (3 : Int32))])) (fun _ k => XS.iconst X45.here hx rfl (hb hby d11_33) k) ?_
  refine Rch.go (U' := T45.setTop (mkF m 35 #[.val (.int (3 : Int32)), .val (.int p2), .val (.int p3), .val (.int p4), .val (.int p5), .val (.int (2 : Int32)), .val (.ref b45), .val (.int (0 : Int32))] [(.int ((3 : Int32) &&& (1 : Int32)))])) (fun _ k => XS.iand X45.here hx rfl (hb hby d11_34) rfl k) ?_
  rw [(by decide : ((3 : Int32) &&& (1 : Int32)) = (1 : Int32))]
  have br48 : ¬ ((1 : Int32) = (0 : Int32)) := (by decide)
  refine Rch.go (U' := T45.setTop (mkF m 38 #[.val (.int (3 : Int32)), .val (.int p2), .val (.int p3), .val (.int p4), .val (.int p5), .val (.int (2 : Int32)), .val (.ref b45), .val (.int (0 : Int32))] [])) (fun _ k => XS.ifNo X45.here hx rfl (hb hby d11_35) rfl (XT.i0_eq_f br48) k) ?_
  refine Rch.go (U' := T45.setTop (mkF m 40 #[.val (.int (3 : Int32)), .val (.int p2), .val (.int p3), .val (.int p4), .val (.int p5), .val (.int (2 : Int32)), .val (.ref b45), .val (.int (0 : Int32))] [(.ref b45)])) (fun _ k => XS.aload X45.here hx rfl (hb hby d11_38) rfl rfl k) ?_
  refine Rch.go (U' := T45.setTop (mkF m 42 #[.val (.int (3 : Int32)), .val (.int p2), .val (.int p3), .val (.int p4), .val (.int p5), .val (.int (2 : Int32)), .val (.ref b45), .val (.int (0 : Int32))] [(.int (0 : Int32)), (.ref b45)])) (fun _ k => XS.iload X45.here hx rfl (hb hby d11_40) rfl  k) ?_
  refine Rch.go (U' := T45.setTop (mkF m 43 #[.val (.int (3 : Int32)), .val (.int p2), .val (.int p3), .val (.int p4), .val (.int p5), .val (.int (2 : Int32)), .val (.ref b45), .val (.int (0 : Int32))] [(.int p2), (.int (0 : Int32)), (.ref b45)])) (fun _ k => XS.iloadN X45.here hx rfl (hb hby d11_42) rfl  k) ?_
  obtain ⟨c49, Ar49, q49, S49, M49, Hs49, G49⟩ := id V45
  have i49 : ¬ ((0 : Int32) < 0 ∨ c49.slots.size ≤ ((0 : Int32)).toNatClampNeg) := inb_of S49 ⟨by decide, by decide⟩
  obtain ⟨T49, h49, X49, e49, W49, st49⟩ := stI X45 hx hZ e45 Ar49 (j := (0 : Int32)) i49 (g := (mkF m 43 #[.val (.int (3 : Int32)), .val (.int p2), .val (.int p3), .val (.int p4), .val (.int p5), .val (.int (2 : Int32)), .val (.ref b45), .val (.int (0 : Int32))] [(.int p2), (.int (0 : Int32)), (.ref b45)])) rfl rfl (hb hby d11_43)
  have V49 : Arv Z h49 b45 k45 .int (2 : Int32) [(.int p2), (.int (0 : Int32))] (.int (0 : Int32)) := Arv.set Ar49 q49 S49 M49 Hs49 G49 rfl W49 0 rfl (Nat.le_of_ble_eq_true rfl)
  have N49 := Fr.snoc X49 N0 n0b45
  have z50 := Nat.le_trans z46 (Keep.of_wr W49).1
  have K51 := K47.wr W49 (Or.inr szb45)
  refine Rch.go (U' := T49.setTop (mkF m 44 #[.val (.int (3 : Int32)), .val (.int p2), .val (.int p3), .val (.int p4), .val (.int p5), .val (.int (2 : Int32)), .val (.ref b45), .val (.int (0 : Int32))] [])) st49 ?_
  refine Rch.go (U' := T49.setTop (mkF m 46 #[.val (.int (3 : Int32)), .val (.int p2), .val (.int p3), .val (.int p4), .val (.int p5), .val (.int (2 : Int32)), .val (.ref b45), .val (.int (0 : Int32))] [(.int (0 : Int32))])) (fun _ k => XS.iload X49.here hx rfl (hb hby d11_44) rfl  k) ?_
  refine Rch.go (U' := T49.setTop (mkF m 47 #[.val (.int (3 : Int32)), .val (.int p2), .val (.int p3), .val (.int p4), .val (.int p5), .val (.int (2 : Int32)), .val (.ref b45), .val (.int (0 : Int32))] [(.int (1 : Int32)), (.int (0 : Int32))])) (fun _ k => XS.iconst X49.here hx rfl (hb hby d11_46) k) ?_
  refine Rch.go (U' := T49.setTop (mkF m 48 #[.val (.int (3 : Int32)), .val (.int p2), .val (.int p3), .val (.int p4), .val (.int p5), .val (.int (2 : Int32)), .val (.ref b45), .val (.int (0 : Int32))] [(.int ((0 : Int32) + (1 : Int32)))])) (fun _ k => XS.iadd X49.here hx rfl (hb hby d11_47) rfl k) ?_
  rw [(by decide : ((0 : Int32) + (1 : Int32)) = (1 : Int32))]
  refine Rch.go (U' := T49.setTop (mkF m 50 #[.val (.int (3 : Int32)), .val (.int p2), .val (.int p3), .val (.int p4), .val (.int p5), .val (.int (2 : Int32)), .val (.ref b45), .val (.int (1 : Int32))] [])) (fun _ k => XS.istore X49.here hx rfl (hb hby d11_48) rfl (l' := #[.val (.int (3 : Int32)), .val (.int p2), .val (.int p3), .val (.int p4), .val (.int p5), .val (.int (2 : Int32)), .val (.ref b45), .val (.int (1 : Int32))]) rfl k) ?_
  refine Rch.go (U' := T49.setTop (mkF m 51 #[.val (.int (3 : Int32)), .val (.int p2), .val (.int p3), .val (.int p4), .val (.int p5), .val (.int (2 : Int32)), .val (.ref b45), .val (.int (1 : Int32))] [(.int (3 : Int32))])) (fun _ k => XS.iloadN X49.here hx rfl (hb hby d11_50) rfl  k) ?_
  refine Rch.go (U' := T49.setTop (mkF m 52 #[.val (.int (3 : Int32)), .val (.int p2), .val (.int p3), .val (.int p4), .val (.int p5), .val (.int (2 : Int32)), .val (.ref b45), .val (.int (1 : Int32))] [(.int (2 : Int32)), (.int (3 : Int32))])) (fun _ k => XS.iconst X49.here hx rfl (hb hby d11_51) k) ?_
  refine Rch.go (U' := T49.setTop (mkF m 53 #[.val (.int (3 : Int32)), .val (.int p2), .val (.int p3), .val (.int p4), .val (.int p5), .val (.int (2 : Int32)), .val (.ref b45), .val (.int (1 : Int32))] [(.int ((3 : Int32) &&& (2 : Int32)))])) (fun _ k => XS.iand X49.here hx rfl (hb hby d11_52) rfl k) ?_
  rw [(by decide : ((3 : Int32) &&& (2 : Int32)) = (2 : Int32))]
  have br52 : ¬ ((2 : Int32) = (0 : Int32)) := (by decide)
  refine Rch.go (U' := T49.setTop (mkF m 56 #[.val (.int (3 : Int32)), .val (.int p2), .val (.int p3), .val (.int p4), .val (.int p5), .val (.int (2 : Int32)), .val (.ref b45), .val (.int (1 : Int32))] [])) (fun _ k => XS.ifNo X49.here hx rfl (hb hby d11_53) rfl (XT.i0_eq_f br52) k) ?_
  refine Rch.go (U' := T49.setTop (mkF m 58 #[.val (.int (3 : Int32)), .val (.int p2), .val (.int p3), .val (.int p4), .val (.int p5), .val (.int (2 : Int32)), .val (.ref b45), .val (.int (1 : Int32))] [(.ref b45)])) (fun _ k => XS.aload X49.here hx rfl (hb hby d11_56) rfl rfl k) ?_
  refine Rch.go (U' := T49.setTop (mkF m 60 #[.val (.int (3 : Int32)), .val (.int p2), .val (.int p3), .val (.int p4), .val (.int p5), .val (.int (2 : Int32)), .val (.ref b45), .val (.int (1 : Int32))] [(.int (1 : Int32)), (.ref b45)])) (fun _ k => XS.iload X49.here hx rfl (hb hby d11_58) rfl  k) ?_
  refine Rch.go (U' := T49.setTop (mkF m 61 #[.val (.int (3 : Int32)), .val (.int p2), .val (.int p3), .val (.int p4), .val (.int p5), .val (.int (2 : Int32)), .val (.ref b45), .val (.int (1 : Int32))] [(.int p3), (.int (1 : Int32)), (.ref b45)])) (fun _ k => XS.iloadN X49.here hx rfl (hb hby d11_60) rfl  k) ?_
  obtain ⟨c53, Ar53, q53, S53, M53, Hs53, G53⟩ := id V49
  have i53 : ¬ ((1 : Int32) < 0 ∨ c53.slots.size ≤ ((1 : Int32)).toNatClampNeg) := inb_of S53 ⟨by decide, by decide⟩
  obtain ⟨T53, h53, X53, e53, W53, st53⟩ := stI X49 hx hZ e49 Ar53 (j := (1 : Int32)) i53 (g := (mkF m 61 #[.val (.int (3 : Int32)), .val (.int p2), .val (.int p3), .val (.int p4), .val (.int p5), .val (.int (2 : Int32)), .val (.ref b45), .val (.int (1 : Int32))] [(.int p3), (.int (1 : Int32)), (.ref b45)])) rfl rfl (hb hby d11_61)
  have V53 : Arv Z h53 b45 k45 .int (2 : Int32) [(.int p2), (.int p3)] (.int (0 : Int32)) := Arv.set Ar53 q53 S53 M53 Hs53 G53 rfl W53 1 rfl (Nat.le_of_ble_eq_true rfl)
  have N53 := Fr.snoc X53 N49 n0b45
  have z54 := Nat.le_trans z50 (Keep.of_wr W53).1
  have K55 := K51.wr W53 (Or.inr szb45)
  refine Rch.go (U' := T53.setTop (mkF m 62 #[.val (.int (3 : Int32)), .val (.int p2), .val (.int p3), .val (.int p4), .val (.int p5), .val (.int (2 : Int32)), .val (.ref b45), .val (.int (1 : Int32))] [])) st53 ?_
  refine Rch.go (U' := T53.setTop (mkF m 64 #[.val (.int (3 : Int32)), .val (.int p2), .val (.int p3), .val (.int p4), .val (.int p5), .val (.int (2 : Int32)), .val (.ref b45), .val (.int (1 : Int32))] [(.int (1 : Int32))])) (fun _ k => XS.iload X53.here hx rfl (hb hby d11_62) rfl  k) ?_
  refine Rch.go (U' := T53.setTop (mkF m 65 #[.val (.int (3 : Int32)), .val (.int p2), .val (.int p3), .val (.int p4), .val (.int p5), .val (.int (2 : Int32)), .val (.ref b45), .val (.int (1 : Int32))] [(.int (1 : Int32)), (.int (1 : Int32))])) (fun _ k => XS.iconst X53.here hx rfl (hb hby d11_64) k) ?_
  refine Rch.go (U' := T53.setTop (mkF m 66 #[.val (.int (3 : Int32)), .val (.int p2), .val (.int p3), .val (.int p4), .val (.int p5), .val (.int (2 : Int32)), .val (.ref b45), .val (.int (1 : Int32))] [(.int ((1 : Int32) + (1 : Int32)))])) (fun _ k => XS.iadd X53.here hx rfl (hb hby d11_65) rfl k) ?_
  rw [(by decide : ((1 : Int32) + (1 : Int32)) = (2 : Int32))]
  refine Rch.go (U' := T53.setTop (mkF m 68 #[.val (.int (3 : Int32)), .val (.int p2), .val (.int p3), .val (.int p4), .val (.int p5), .val (.int (2 : Int32)), .val (.ref b45), .val (.int (2 : Int32))] [])) (fun _ k => XS.istore X53.here hx rfl (hb hby d11_66) rfl (l' := #[.val (.int (3 : Int32)), .val (.int p2), .val (.int p3), .val (.int p4), .val (.int p5), .val (.int (2 : Int32)), .val (.ref b45), .val (.int (2 : Int32))]) rfl k) ?_
  refine Rch.go (U' := T53.setTop (mkF m 69 #[.val (.int (3 : Int32)), .val (.int p2), .val (.int p3), .val (.int p4), .val (.int p5), .val (.int (2 : Int32)), .val (.ref b45), .val (.int (2 : Int32))] [(.int (3 : Int32))])) (fun _ k => XS.iloadN X53.here hx rfl (hb hby d11_68) rfl  k) ?_
  refine Rch.go (U' := T53.setTop (mkF m 70 #[.val (.int (3 : Int32)), .val (.int p2), .val (.int p3), .val (.int p4), .val (.int p5), .val (.int (2 : Int32)), .val (.ref b45), .val (.int (2 : Int32))] [(.int (4 : Int32)), (.int (3 : Int32))])) (fun _ k => XS.iconst X53.here hx rfl (hb hby d11_69) k) ?_
  refine Rch.go (U' := T53.setTop (mkF m 71 #[.val (.int (3 : Int32)), .val (.int p2), .val (.int p3), .val (.int p4), .val (.int p5), .val (.int (2 : Int32)), .val (.ref b45), .val (.int (2 : Int32))] [(.int ((3 : Int32) &&& (4 : Int32)))])) (fun _ k => XS.iand X53.here hx rfl (hb hby d11_70) rfl k) ?_
  rw [(by decide : ((3 : Int32) &&& (4 : Int32)) = (0 : Int32))]
  have br56 : (0 : Int32) = (0 : Int32) := (by decide)
  refine Rch.go (U' := T53.setTop (mkF m 86 #[.val (.int (3 : Int32)), .val (.int p2), .val (.int p3), .val (.int p4), .val (.int p5), .val (.int (2 : Int32)), .val (.ref b45), .val (.int (2 : Int32))] [])) (fun _ k => XS.ifYes X53.here hx rfl (pc0 := 71) (pc' := 86) rfl (hb hby d11_71) rfl (XT.i0_eq_t br56) (by decide) (by decide) k) ?_
  refine Rch.go (U' := T53.setTop (mkF m 87 #[.val (.int (3 : Int32)), .val (.int p2), .val (.int p3), .val (.int p4), .val (.int p5), .val (.int (2 : Int32)), .val (.ref b45), .val (.int (2 : Int32))] [(.int (3 : Int32))])) (fun _ k => XS.iloadN X53.here hx rfl (hb hby d11_86) rfl  k) ?_
  refine Rch.go (U' := T53.setTop (mkF m 89 #[.val (.int (3 : Int32)), .val (.int p2), .val (.int p3), .val (.int p4), .val (.int p5), .val (.int (2 : Int32)), .val (.ref b45), .val (.int (2 : Int32))] [(.int (8 : Int32)), (.int (3 : Int32))])) (fun _ k => XS.bipush X53.here hx rfl (hb hby d11_87) k) ?_
  refine Rch.go (U' := T53.setTop (mkF m 90 #[.val (.int (3 : Int32)), .val (.int p2), .val (.int p3), .val (.int p4), .val (.int p5), .val (.int (2 : Int32)), .val (.ref b45), .val (.int (2 : Int32))] [(.int ((3 : Int32) &&& (8 : Int32)))])) (fun _ k => XS.iand X53.here hx rfl (hb hby d11_89) rfl k) ?_
  rw [(by decide : ((3 : Int32) &&& (8 : Int32)) = (0 : Int32))]
  have br57 : (0 : Int32) = (0 : Int32) := (by decide)
  refine Rch.go (U' := T53.setTop (mkF m 106 #[.val (.int (3 : Int32)), .val (.int p2), .val (.int p3), .val (.int p4), .val (.int p5), .val (.int (2 : Int32)), .val (.ref b45), .val (.int (2 : Int32))] [])) (fun _ k => XS.ifYes X53.here hx rfl (pc0 := 90) (pc' := 106) rfl (hb hby d11_90) rfl (XT.i0_eq_t br57) (by decide) (by decide) k) ?_
  refine Rch.go (U' := T53.setTop (mkF m 108 #[.val (.int (3 : Int32)), .val (.int p2), .val (.int p3), .val (.int p4), .val (.int p5), .val (.int (2 : Int32)), .val (.ref b45), .val (.int (2 : Int32))] [(.ref b45)])) (fun _ k => XS.aload X53.here hx rfl (hb hby d11_106) rfl rfl k) ?_
  refine Rch.fin X53 hlk (v := some (.ref b45)) (fun h => by rw [hret] at h; cases h) e53 (by decide) (by decide) (fun fs hr => retOut X53 hx hret rfl (Or.inr (Or.inr (Or.inr (Or.inr ⟨rfl, rfl, rfl⟩)))) (hb hby d11_108) hr) ?_
  exact ⟨b45, k45, rfl, N53, K55, n0b45, szb45, by rw [own_s3]; exact V53⟩
theorem own_s4 (p2 p3 p4 p5 : Int32) : own_sub 4 p2 p3 p4 p5 = [p4] := rfl
set_option maxRecDepth 65536 in
set_option maxHeartbeats 40000000 in
theorem sub4 {p : Program} {l : Launch} {e : Env} {s : State} {m : MethodId} {args : Array Value} {below : List Frame} {meth : Method} {c : Code} {T0 : State} {locs : List Loc} {Z : State} {a0 : Array Value} {h0 : Heap} {n0 : Nat}  (p2 : Int32) (p3 : Int32) (p4 : Int32) (p5 : Int32)
    (X0 : Stand p l e ({ frames := 0, cells := 1, slots := 4, locals := 0 } : Room) s m args below meth c T0 locs 0 0) (hx : p.tables.exec = Jvm.exec) (hZ : Z.Warmed39 s.vm) (hw : ∀ d ∈ tables_1, d.before a0 Z = true) (hby : c.code = method_2_code) (hml : c.maxLocals = 8) (hown : s.vm.findClass "com/example/fixpoints_of_behaviour/fixpointsofbehaviour/bisimulation/RefusalsHoldsPinLaw" = some m.cls) (hret : meth.sig.returnType = some (.array .int)) (hlk : meth.locks = false) (e0 : T0.heap = h0) (N0 : Fr n0 locs) (Z0 : n0 ≤ h0.size)  :
    Rch p e below (Fin s below (fun v h L => ∃ (b : Addr) (kb : ClassId), v = some (.ref b) ∧ Fr n0 L ∧ Keep h0 h [] ∧ n0 ≤ b ∧ h0.size ≤ b ∧ Arv Z h b kb .int (Int32.ofNat (own_sub 4 p2 p3 p4 p5).length) ((own_sub 4 p2 p3 p4 p5).map Value.int) (.int (0 : Int32))) 1 4) (T0.setTop (mkF m 0 #[.val (.int (4 : Int32)), .val (.int p2), .val (.int p3), .val (.int p4), .val (.int p5), .unset, .unset, .unset] [])) := by
  refine Rch.go (U' := T0.setTop (mkF m 1 #[.val (.int (4 : Int32)), .val (.int p2), .val (.int p3), .val (.int p4), .val (.int p5), .unset, .unset, .unset] [(.int (4 : Int32))])) (fun _ k => XS.iloadN X0.here hx rfl (hb hby d11_0) rfl  k) ?_
  refine Rch.go (U' := T0.setTop (mkF m 2 #[.val (.int (4 : Int32)), .val (.int p2), .val (.int p3), .val (.int p4), .val (.int p5), .unset, .unset, .unset] [(.int (1 : Int32)), (.int (4 : Int32))])) (fun _ k => XS.iconst X0.here hx rfl (hb hby d11_1) k) ?_
  refine Rch.go (U' := T0.setTop (mkF m 3 #[.val (.int (4 : Int32)), .val (.int p2), .val (.int p3), .val (.int p4), .val (.int p5), .unset, .unset, .unset] [(.int ((4 : Int32) &&& (1 : Int32)))])) (fun _ k => XS.iand X0.here hx rfl (hb hby d11_2) rfl k) ?_
  rw [(by decide : ((4 : Int32) &&& (1 : Int32)) = (0 : Int32))]
  refine Rch.go (U' := T0.setTop (mkF m 4 #[.val (.int (4 : Int32)), .val (.int p2), .val (.int p3), .val (.int p4), .val (.int p5), .unset, .unset, .unset] [(.int (4 : Int32)), (.int (0 : Int32))])) (fun _ k => XS.iloadN X0.here hx rfl (hb hby d11_3) rfl  k) ?_
  refine Rch.go (U' := T0.setTop (mkF m 5 #[.val (.int (4 : Int32)), .val (.int p2), .val (.int p3), .val (.int p4), .val (.int p5), .unset, .unset, .unset] [(.int (1 : Int32)), (.int (4 : Int32)), (.int (0 : Int32))])) (fun _ k => XS.iconst X0.here hx rfl (hb hby d11_4) k) ?_
  refine Rch.go (U' := T0.setTop (mkF m 6 #[.val (.int (4 : Int32)), .val (.int p2), .val (.int p3), .val (.int p4), .val (.int p5), .unset, .unset, .unset] [(.int ((4 : Int32) >>> ((1 : Int32) &&& 31))), (.int (0 : Int32))])) (fun _ k => XS.ishr X0.here hx rfl (hb hby d11_5) rfl k) ?_
  rw [(by decide : ((4 : Int32) >>> ((1 : Int32) &&& 31)) = (2 : Int32))]
  refine Rch.go (U' := T0.setTop (mkF m 7 #[.val (.int (4 : Int32)), .val (.int p2), .val (.int p3), .val (.int p4), .val (.int p5), .unset, .unset, .unset] [(.int (1 : Int32)), (.int (2 : Int32)), (.int (0 : Int32))])) (fun _ k => XS.iconst X0.here hx rfl (hb hby d11_6) k) ?_
  refine Rch.go (U' := T0.setTop (mkF m 8 #[.val (.int (4 : Int32)), .val (.int p2), .val (.int p3), .val (.int p4), .val (.int p5), .unset, .unset, .unset] [(.int ((2 : Int32) &&& (1 : Int32))), (.int (0 : Int32))])) (fun _ k => XS.iand X0.here hx rfl (hb hby d11_7) rfl k) ?_
  rw [(by decide : ((2 : Int32) &&& (1 : Int32)) = (0 : Int32))]
  refine Rch.go (U' := T0.setTop (mkF m 9 #[.val (.int (4 : Int32)), .val (.int p2), .val (.int p3), .val (.int p4), .val (.int p5), .unset, .unset, .unset] [(.int ((0 : Int32) + (0 : Int32)))])) (fun _ k => XS.iadd X0.here hx rfl (hb hby d11_8) rfl k) ?_
  rw [(by decide : ((0 : Int32) + (0 : Int32)) = (0 : Int32))]
  refine Rch.go (U' := T0.setTop (mkF m 10 #[.val (.int (4 : Int32)), .val (.int p2), .val (.int p3), .val (.int p4), .val (.int p5), .unset, .unset, .unset] [(.int (4 : Int32)), (.int (0 : Int32))])) (fun _ k => XS.iloadN X0.here hx rfl (hb hby d11_9) rfl  k) ?_
  refine Rch.go (U' := T0.setTop (mkF m 11 #[.val (.int (4 : Int32)), .val (.int p2), .val (.int p3), .val (.int p4), .val (.int p5), .unset, .unset, .unset] [(.int (2 : Int32)), (.int (4 : Int32)), (.int (0 : Int32))])) (fun _ k => XS.iconst X0.here hx rfl (hb hby d11_10) k) ?_
  refine Rch.go (U' := T0.setTop (mkF m 12 #[.val (.int (4 : Int32)), .val (.int p2), .val (.int p3), .val (.int p4), .val (.int p5), .unset, .unset, .unset] [(.int ((4 : Int32) >>> ((2 : Int32) &&& 31))), (.int (0 : Int32))])) (fun _ k => XS.ishr X0.here hx rfl (hb hby d11_11) rfl k) ?_
  rw [(by decide : ((4 : Int32) >>> ((2 : Int32) &&& 31)) = (1 : Int32))]
  refine Rch.go (U' := T0.setTop (mkF m 13 #[.val (.int (4 : Int32)), .val (.int p2), .val (.int p3), .val (.int p4), .val (.int p5), .unset, .unset, .unset] [(.int (1 : Int32)), (.int (1 : Int32)), (.int (0 : Int32))])) (fun _ k => XS.iconst X0.here hx rfl (hb hby d11_12) k) ?_
  refine Rch.go (U' := T0.setTop (mkF m 14 #[.val (.int (4 : Int32)), .val (.int p2), .val (.int p3), .val (.int p4), .val (.int p5), .unset, .unset, .unset] [(.int ((1 : Int32) &&& (1 : Int32))), (.int (0 : Int32))])) (fun _ k => XS.iand X0.here hx rfl (hb hby d11_13) rfl k) ?_
  rw [(by decide : ((1 : Int32) &&& (1 : Int32)) = (1 : Int32))]
  refine Rch.go (U' := T0.setTop (mkF m 15 #[.val (.int (4 : Int32)), .val (.int p2), .val (.int p3), .val (.int p4), .val (.int p5), .unset, .unset, .unset] [(.int ((0 : Int32) + (1 : Int32)))])) (fun _ k => XS.iadd X0.here hx rfl (hb hby d11_14) rfl k) ?_
  rw [(by decide : ((0 : Int32) + (1 : Int32)) = (1 : Int32))]
  refine Rch.go (U' := T0.setTop (mkF m 16 #[.val (.int (4 : Int32)), .val (.int p2), .val (.int p3), .val (.int p4), .val (.int p5), .unset, .unset, .unset] [(.int (4 : Int32)), (.int (1 : Int32))])) (fun _ k => XS.iloadN X0.here hx rfl (hb hby d11_15) rfl  k) ?_
  refine Rch.go (U' := T0.setTop (mkF m 17 #[.val (.int (4 : Int32)), .val (.int p2), .val (.int p3), .val (.int p4), .val (.int p5), .unset, .unset, .unset] [(.int (3 : Int32)), (.int (4 : Int32)), (.int (1 : Int32))])) (fun _ k => XS.iconst X0.here hx rfl (hb hby d11_16) k) ?_
  refine Rch.go (U' := T0.setTop (mkF m 18 #[.val (.int (4 : Int32)), .val (.int p2), .val (.int p3), .val (.int p4), .val (.int p5), .unset, .unset, .unset] [(.int ((4 : Int32) >>> ((3 : Int32) &&& 31))), (.int (1 : Int32))])) (fun _ k => XS.ishr X0.here hx rfl (hb hby d11_17) rfl k) ?_
  rw [(by decide : ((4 : Int32) >>> ((3 : Int32) &&& 31)) = (0 : Int32))]
  refine Rch.go (U' := T0.setTop (mkF m 19 #[.val (.int (4 : Int32)), .val (.int p2), .val (.int p3), .val (.int p4), .val (.int p5), .unset, .unset, .unset] [(.int (1 : Int32)), (.int (0 : Int32)), (.int (1 : Int32))])) (fun _ k => XS.iconst X0.here hx rfl (hb hby d11_18) k) ?_
  refine Rch.go (U' := T0.setTop (mkF m 20 #[.val (.int (4 : Int32)), .val (.int p2), .val (.int p3), .val (.int p4), .val (.int p5), .unset, .unset, .unset] [(.int ((0 : Int32) &&& (1 : Int32))), (.int (1 : Int32))])) (fun _ k => XS.iand X0.here hx rfl (hb hby d11_19) rfl k) ?_
  rw [(by decide : ((0 : Int32) &&& (1 : Int32)) = (0 : Int32))]
  refine Rch.go (U' := T0.setTop (mkF m 21 #[.val (.int (4 : Int32)), .val (.int p2), .val (.int p3), .val (.int p4), .val (.int p5), .unset, .unset, .unset] [(.int ((1 : Int32) + (0 : Int32)))])) (fun _ k => XS.iadd X0.here hx rfl (hb hby d11_20) rfl k) ?_
  rw [(by decide : ((1 : Int32) + (0 : Int32)) = (1 : Int32))]
  refine Rch.go (U' := T0.setTop (mkF m 23 #[.val (.int (4 : Int32)), .val (.int p2), .val (.int p3), .val (.int p4), .val (.int p5), .val (.int (1 : Int32)), .unset, .unset] [])) (fun _ k => XS.istore X0.here hx rfl (hb hby d11_21) rfl (l' := #[.val (.int (4 : Int32)), .val (.int p2), .val (.int p3), .val (.int p4), .val (.int p5), .val (.int (1 : Int32)), .unset, .unset]) rfl k) ?_
  refine Rch.go (U' := T0.setTop (mkF m 25 #[.val (.int (4 : Int32)), .val (.int p2), .val (.int p3), .val (.int p4), .val (.int p5), .val (.int (1 : Int32)), .unset, .unset] [(.int (1 : Int32))])) (fun _ k => XS.iload X0.here hx rfl (hb hby d11_23) rfl  k) ?_
  obtain ⟨T58, h58, k58, X58, e58, E58, A58, st58⟩ := newP X0 hx hZ (wi hw 12 rfl) e0 (g := (mkF m 25 #[.val (.int (4 : Int32)), .val (.int p2), .val (.int p3), .val (.int p4), .val (.int p5), .val (.int (1 : Int32)), .unset, .unset] [(.int (1 : Int32))])) rfl (hb hby d11_25) rfl (by decide) (cap := 1) (by decide) (by decide) (by decide) (by decide)
  obtain ⟨b58, g58⟩ : ∃ z, z = h0.size := ⟨_, rfl⟩
  rw [← g58] at A58 st58
  have n0b58 : n0 ≤ b58 := Nat.le_trans Z0 (Nat.le_of_eq g58.symm)
  have szb58 : h0.size ≤ b58 := Nat.le_trans (Keep.refl h0 []).1 (Nat.le_of_eq g58.symm)
  have z59 := Nat.le_trans Z0 E58.1
  have K60 := (Keep.refl h0 []).ext E58
  have V58 : Arv Z h58 b58 k58 .int (1 : Int32) [(.int (0 : Int32))] (.int (0 : Int32)) := (Arv.new A58 (by decide)).pad (pad_rep [] (.int (0 : Int32)) 1)
  refine Rch.go (U' := T58.setTop (mkF m 27 #[.val (.int (4 : Int32)), .val (.int p2), .val (.int p3), .val (.int p4), .val (.int p5), .val (.int (1 : Int32)), .unset, .unset] [(.ref b58)])) st58 ?_
  refine Rch.go (U' := T58.setTop (mkF m 29 #[.val (.int (4 : Int32)), .val (.int p2), .val (.int p3), .val (.int p4), .val (.int p5), .val (.int (1 : Int32)), .val (.ref b58), .unset] [])) (fun _ k => XS.astore X58.here hx rfl (hb hby d11_27) rfl rfl (l' := #[.val (.int (4 : Int32)), .val (.int p2), .val (.int p3), .val (.int p4), .val (.int p5), .val (.int (1 : Int32)), .val (.ref b58), .unset]) rfl k) ?_
  refine Rch.go (U' := T58.setTop (mkF m 30 #[.val (.int (4 : Int32)), .val (.int p2), .val (.int p3), .val (.int p4), .val (.int p5), .val (.int (1 : Int32)), .val (.ref b58), .unset] [(.int (0 : Int32))])) (fun _ k => XS.iconst X58.here hx rfl (hb hby d11_29) k) ?_
  refine Rch.go (U' := T58.setTop (mkF m 32 #[.val (.int (4 : Int32)), .val (.int p2), .val (.int p3), .val (.int p4), .val (.int p5), .val (.int (1 : Int32)), .val (.ref b58), .val (.int (0 : Int32))] [])) (fun _ k => XS.istore X58.here hx rfl (hb hby d11_30) rfl (l' := #[.val (.int (4 : Int32)), .val (.int p2), .val (.int p3), .val (.int p4), .val (.int p5), .val (.int (1 : Int32)), .val (.ref b58), .val (.int (0 : Int32))]) rfl k) ?_
  refine Rch.go (U' := T58.setTop (mkF m 33 #[.val (.int (4 : Int32)), .val (.int p2), .val (.int p3), .val (.int p4), .val (.int p5), .val (.int (1 : Int32)), .val (.ref b58), .val (.int (0 : Int32))] [(.int (4 : Int32))])) (fun _ k => XS.iloadN X58.here hx rfl (hb hby d11_32) rfl  k) ?_
  refine Rch.go (U' := T58.setTop (mkF m 34 #[.val (.int (4 : Int32)), .val (.int p2), .val (.int p3), .val (.int p4), .val (.int p5), .val (.int (1 : Int32)), .val (.ref b58), .val (.int (0 : Int32))] [(.int (1 : Int32)), (.int (4 : Int32))])) (fun _ k => XS.iconst X58.here hx rfl (hb hby d11_33) k) ?_
  refine Rch.go (U' := T58.setTop (mkF m 35 #[.val (.int (4 : Int32)), .val (.int p2), .val (.int p3), .val (.int p4), .val (.int p5), .val (.int (1 : Int32)), .val (.ref b58), .val (.int (0 : Int32))] [(.int ((4 : Int32) &&& (1 : Int32)))])) (fun _ k => XS.iand X58.here hx rfl (hb hby d11_34) rfl k) ?_
  rw [(by decide : ((4 : Int32) &&& (1 : Int32)) = (0 : Int32))]
  have br61 : (0 : Int32) = (0 : Int32) := (by decide)
  refine Rch.go (U' := T58.setTop (mkF m 50 #[.val (.int (4 : Int32)), .val (.int p2), .val (.int p3), .val (.int p4), .val (.int p5), .val (.int (1 : Int32)), .val (.ref b58), .val (.int (0 : Int32))] [])) (fun _ k => XS.ifYes X58.here hx rfl (pc0 := 35) (pc' := 50) rfl (hb hby d11_35) rfl (XT.i0_eq_t br61) (by decide) (by decide) k) ?_
  refine Rch.go (U' := T58.setTop (mkF m 51 #[.val (.int (4 : Int32)), .val (.int p2), .val (.int p3), .val (.int p4), .val (.int p5), .val (.int (1 : Int32)), .val (.ref b58), .val (.int (0 : Int32))] [(.int (4 : Int32))])) (fun _ k => XS.iloadN X58.here hx rfl (hb hby d11_50) rfl  k) ?_
  refine Rch.go (U' := T58.setTop (mkF m 52 #[.val (.int (4 : Int32)), .val (.int p2), .val (.int p3), .val (.int p4), .val (.int p5), .val (.int (1 : Int32)), .val (.ref b58), .val (.int (0 : Int32))] [(.int (2 : Int32)), (.int (4 : Int32))])) (fun _ k => XS.iconst X58.here hx rfl (hb hby d11_51) k) ?_
  refine Rch.go (U' := T58.setTop (mkF m 53 #[.val (.int (4 : Int32)), .val (.int p2), .val (.int p3), .val (.int p4), .val (.int p5), .val (.int (1 : Int32)), .val (.ref b58), .val (.int (0 : Int32))] [(.int ((4 : Int32) &&& (2 : Int32)))])) (fun _ k => XS.iand X58.here hx rfl (hb hby d11_52) rfl k) ?_
  rw [(by decide : ((4 : Int32) &&& (2 : Int32)) = (0 : Int32))]
  have br62 : (0 : Int32) = (0 : Int32) := (by decide)
  refine Rch.go (U' := T58.setTop (mkF m 68 #[.val (.int (4 : Int32)), .val (.int p2), .val (.int p3), .val (.int p4), .val (.int p5), .val (.int (1 : Int32)), .val (.ref b58), .val (.int (0 : Int32))] [])) (fun _ k => XS.ifYes X58.here hx rfl (pc0 := 53) (pc' := 68) rfl (hb hby d11_53) rfl (XT.i0_eq_t br62) (by decide) (by decide) k) ?_
  refine Rch.go (U' := T58.setTop (mkF m 69 #[.val (.int (4 : Int32)), .val (.int p2), .val (.int p3), .val (.int p4), .val (.int p5), .val (.int (1 : Int32)), .val (.ref b58), .val (.int (0 : Int32))] [(.int (4 : Int32))])) (fun _ k => XS.iloadN X58.here hx rfl (hb hby d11_68) rfl  k) ?_
  refine Rch.go (U' := T58.setTop (mkF m 70 #[.val (.int (4 : Int32)), .val (.int p2), .val (.int p3), .val (.int p4), .val (.int p5), .val (.int (1 : Int32)), .val (.ref b58), .val (.int (0 : Int32))] [(.int (4 : Int32)), (.int (4 : Int32))])) (fun _ k => XS.iconst X58.here hx rfl (hb hby d11_69) k) ?_
  refine Rch.go (U' := T58.setTop (mkF m 71 #[.val (.int (4 : Int32)), .val (.int p2), .val (.int p3), .val (.int p4), .val (.int p5), .val (.int (1 : Int32)), .val (.ref b58), .val (.int (0 : Int32))] [(.int ((4 : Int32) &&& (4 : Int32)))])) (fun _ k => XS.iand X58.here hx rfl (hb hby d11_70) rfl k) ?_
  rw [(by decide : ((4 : Int32) &&& (4 : Int32)) = (4 : Int32))]
  have br63 : ¬ ((4 : Int32) = (0 : Int32)) := (by decide)
  refine Rch.go (U' := T58.setTop (mkF m 74 #[.val (.int (4 : Int32)), .val (.int p2), .val (.int p3), .val (.int p4), .val (.int p5), .val (.int (1 : Int32)), .val (.ref b58), .val (.int (0 : Int32))] [])) (fun _ k => XS.ifNo X58.here hx rfl (hb hby d11_71) rfl (XT.i0_eq_f br63) k) ?_
  refine Rch.go (U' := T58.setTop (mkF m 76 #[.val (.int (4 : Int32)), .val (.int p2), .val (.int p3), .val (.int p4), .val (.int p5), .val (.int (1 : Int32)), .val (.ref b58), .val (.int (0 : Int32))] [(.ref b58)])) (fun _ k => XS.aload X58.here hx rfl (hb hby d11_74) rfl rfl k) ?_
  refine Rch.go (U' := T58.setTop (mkF m 78 #[.val (.int (4 : Int32)), .val (.int p2), .val (.int p3), .val (.int p4), .val (.int p5), .val (.int (1 : Int32)), .val (.ref b58), .val (.int (0 : Int32))] [(.int (0 : Int32)), (.ref b58)])) (fun _ k => XS.iload X58.here hx rfl (hb hby d11_76) rfl  k) ?_
  refine Rch.go (U' := T58.setTop (mkF m 79 #[.val (.int (4 : Int32)), .val (.int p2), .val (.int p3), .val (.int p4), .val (.int p5), .val (.int (1 : Int32)), .val (.ref b58), .val (.int (0 : Int32))] [(.int p4), (.int (0 : Int32)), (.ref b58)])) (fun _ k => XS.iloadN X58.here hx rfl (hb hby d11_78) rfl  k) ?_
  obtain ⟨c64, Ar64, q64, S64, M64, Hs64, G64⟩ := id V58
  have i64 : ¬ ((0 : Int32) < 0 ∨ c64.slots.size ≤ ((0 : Int32)).toNatClampNeg) := inb_of S64 ⟨by decide, by decide⟩
  obtain ⟨T64, h64, X64, e64, W64, st64⟩ := stI X58 hx hZ e58 Ar64 (j := (0 : Int32)) i64 (g := (mkF m 79 #[.val (.int (4 : Int32)), .val (.int p2), .val (.int p3), .val (.int p4), .val (.int p5), .val (.int (1 : Int32)), .val (.ref b58), .val (.int (0 : Int32))] [(.int p4), (.int (0 : Int32)), (.ref b58)])) rfl rfl (hb hby d11_79)
  have V64 : Arv Z h64 b58 k58 .int (1 : Int32) [(.int p4)] (.int (0 : Int32)) := Arv.set Ar64 q64 S64 M64 Hs64 G64 rfl W64 0 rfl (Nat.le_of_ble_eq_true rfl)
  have N64 := Fr.snoc X64 N0 n0b58
  have z65 := Nat.le_trans z59 (Keep.of_wr W64).1
  have K66 := K60.wr W64 (Or.inr szb58)
  refine Rch.go (U' := T64.setTop (mkF m 80 #[.val (.int (4 : Int32)), .val (.int p2), .val (.int p3), .val (.int p4), .val (.int p5), .val (.int (1 : Int32)), .val (.ref b58), .val (.int (0 : Int32))] [])) st64 ?_
  refine Rch.go (U' := T64.setTop (mkF m 82 #[.val (.int (4 : Int32)), .val (.int p2), .val (.int p3), .val (.int p4), .val (.int p5), .val (.int (1 : Int32)), .val (.ref b58), .val (.int (0 : Int32))] [(.int (0 : Int32))])) (fun _ k => XS.iload X64.here hx rfl (hb hby d11_80) rfl  k) ?_
  refine Rch.go (U' := T64.setTop (mkF m 83 #[.val (.int (4 : Int32)), .val (.int p2), .val (.int p3), .val (.int p4), .val (.int p5), .val (.int (1 : Int32)), .val (.ref b58), .val (.int (0 : Int32))] [(.int (1 : Int32)), (.int (0 : Int32))])) (fun _ k => XS.iconst X64.here hx rfl (hb hby d11_82) k) ?_
  refine Rch.go (U' := T64.setTop (mkF m 84 #[.val (.int (4 : Int32)), .val (.int p2), .val (.int p3), .val (.int p4), .val (.int p5), .val (.int (1 : Int32)), .val (.ref b58), .val (.int (0 : Int32))] [(.int ((0 : Int32) + (1 : Int32)))])) (fun _ k => XS.iadd X64.here hx rfl (hb hby d11_83) rfl k) ?_
  rw [(by decide : ((0 : Int32) + (1 : Int32)) = (1 : Int32))]
  refine Rch.go (U' := T64.setTop (mkF m 86 #[.val (.int (4 : Int32)), .val (.int p2), .val (.int p3), .val (.int p4), .val (.int p5), .val (.int (1 : Int32)), .val (.ref b58), .val (.int (1 : Int32))] [])) (fun _ k => XS.istore X64.here hx rfl (hb hby d11_84) rfl (l' := #[.val (.int (4 : Int32)), .val (.int p2), .val (.int p3), .val (.int p4), .val (.int p5), .val (.int (1 : Int32)), .val (.ref b58), .val (.int (1 : Int32))]) rfl k) ?_
  refine Rch.go (U' := T64.setTop (mkF m 87 #[.val (.int (4 : Int32)), .val (.int p2), .val (.int p3), .val (.int p4), .val (.int p5), .val (.int (1 : Int32)), .val (.ref b58), .val (.int (1 : Int32))] [(.int (4 : Int32))])) (fun _ k => XS.iloadN X64.here hx rfl (hb hby d11_86) rfl  k) ?_
  refine Rch.go (U' := T64.setTop (mkF m 89 #[.val (.int (4 : Int32)), .val (.int p2), .val (.int p3), .val (.int p4), .val (.int p5), .val (.int (1 : Int32)), .val (.ref b58), .val (.int (1 : Int32))] [(.int (8 : Int32)), (.int (4 : Int32))])) (fun _ k => XS.bipush X64.here hx rfl (hb hby d11_87) k) ?_
  refine Rch.go (U' := T64.setTop (mkF m 90 #[.val (.int (4 : Int32)), .val (.int p2), .val (.int p3), .val (.int p4), .val (.int p5), .val (.int (1 : Int32)), .val (.ref b58), .val (.int (1 : Int32))] [(.int ((4 : Int32) &&& (8 : Int32)))])) (fun _ k => XS.iand X64.here hx rfl (hb hby d11_89) rfl k) ?_
  rw [(by decide : ((4 : Int32) &&& (8 : Int32)) = (0 : Int32))]
  have br67 : (0 : Int32) = (0 : Int32) := (by decide)
  refine Rch.go (U' := T64.setTop (mkF m 106 #[.val (.int (4 : Int32)), .val (.int p2), .val (.int p3), .val (.int p4), .val (.int p5), .val (.int (1 : Int32)), .val (.ref b58), .val (.int (1 : Int32))] [])) (fun _ k => XS.ifYes X64.here hx rfl (pc0 := 90) (pc' := 106) rfl (hb hby d11_90) rfl (XT.i0_eq_t br67) (by decide) (by decide) k) ?_
  refine Rch.go (U' := T64.setTop (mkF m 108 #[.val (.int (4 : Int32)), .val (.int p2), .val (.int p3), .val (.int p4), .val (.int p5), .val (.int (1 : Int32)), .val (.ref b58), .val (.int (1 : Int32))] [(.ref b58)])) (fun _ k => XS.aload X64.here hx rfl (hb hby d11_106) rfl rfl k) ?_
  refine Rch.fin X64 hlk (v := some (.ref b58)) (fun h => by rw [hret] at h; cases h) e64 (by decide) (by decide) (fun fs hr => retOut X64 hx hret rfl (Or.inr (Or.inr (Or.inr (Or.inr ⟨rfl, rfl, rfl⟩)))) (hb hby d11_108) hr) ?_
  exact ⟨b58, k58, rfl, N64, K66, n0b58, szb58, by rw [own_s4]; exact V64⟩
theorem own_s5 (p2 p3 p4 p5 : Int32) : own_sub 5 p2 p3 p4 p5 = [p2, p4] := rfl
set_option maxRecDepth 65536 in
set_option maxHeartbeats 40000000 in
theorem sub5 {p : Program} {l : Launch} {e : Env} {s : State} {m : MethodId} {args : Array Value} {below : List Frame} {meth : Method} {c : Code} {T0 : State} {locs : List Loc} {Z : State} {a0 : Array Value} {h0 : Heap} {n0 : Nat}  (p2 : Int32) (p3 : Int32) (p4 : Int32) (p5 : Int32)
    (X0 : Stand p l e ({ frames := 0, cells := 1, slots := 4, locals := 0 } : Room) s m args below meth c T0 locs 0 0) (hx : p.tables.exec = Jvm.exec) (hZ : Z.Warmed39 s.vm) (hw : ∀ d ∈ tables_1, d.before a0 Z = true) (hby : c.code = method_2_code) (hml : c.maxLocals = 8) (hown : s.vm.findClass "com/example/fixpoints_of_behaviour/fixpointsofbehaviour/bisimulation/RefusalsHoldsPinLaw" = some m.cls) (hret : meth.sig.returnType = some (.array .int)) (hlk : meth.locks = false) (e0 : T0.heap = h0) (N0 : Fr n0 locs) (Z0 : n0 ≤ h0.size)  :
    Rch p e below (Fin s below (fun v h L => ∃ (b : Addr) (kb : ClassId), v = some (.ref b) ∧ Fr n0 L ∧ Keep h0 h [] ∧ n0 ≤ b ∧ h0.size ≤ b ∧ Arv Z h b kb .int (Int32.ofNat (own_sub 5 p2 p3 p4 p5).length) ((own_sub 5 p2 p3 p4 p5).map Value.int) (.int (0 : Int32))) 1 4) (T0.setTop (mkF m 0 #[.val (.int (5 : Int32)), .val (.int p2), .val (.int p3), .val (.int p4), .val (.int p5), .unset, .unset, .unset] [])) := by
  refine Rch.go (U' := T0.setTop (mkF m 1 #[.val (.int (5 : Int32)), .val (.int p2), .val (.int p3), .val (.int p4), .val (.int p5), .unset, .unset, .unset] [(.int (5 : Int32))])) (fun _ k => XS.iloadN X0.here hx rfl (hb hby d11_0) rfl  k) ?_
  refine Rch.go (U' := T0.setTop (mkF m 2 #[.val (.int (5 : Int32)), .val (.int p2), .val (.int p3), .val (.int p4), .val (.int p5), .unset, .unset, .unset] [(.int (1 : Int32)), (.int (5 : Int32))])) (fun _ k => XS.iconst X0.here hx rfl (hb hby d11_1) k) ?_
  refine Rch.go (U' := T0.setTop (mkF m 3 #[.val (.int (5 : Int32)), .val (.int p2), .val (.int p3), .val (.int p4), .val (.int p5), .unset, .unset, .unset] [(.int ((5 : Int32) &&& (1 : Int32)))])) (fun _ k => XS.iand X0.here hx rfl (hb hby d11_2) rfl k) ?_
  rw [(by decide : ((5 : Int32) &&& (1 : Int32)) = (1 : Int32))]
  refine Rch.go (U' := T0.setTop (mkF m 4 #[.val (.int (5 : Int32)), .val (.int p2), .val (.int p3), .val (.int p4), .val (.int p5), .unset, .unset, .unset] [(.int (5 : Int32)), (.int (1 : Int32))])) (fun _ k => XS.iloadN X0.here hx rfl (hb hby d11_3) rfl  k) ?_
  refine Rch.go (U' := T0.setTop (mkF m 5 #[.val (.int (5 : Int32)), .val (.int p2), .val (.int p3), .val (.int p4), .val (.int p5), .unset, .unset, .unset] [(.int (1 : Int32)), (.int (5 : Int32)), (.int (1 : Int32))])) (fun _ k => XS.iconst X0.here hx rfl (hb hby d11_4) k) ?_
  refine Rch.go (U' := T0.setTop (mkF m 6 #[.val (.int (5 : Int32)), .val (.int p2), .val (.int p3), .val (.int p4), .val (.int p5), .unset, .unset, .unset] [(.int ((5 : Int32) >>> ((1 : Int32) &&& 31))), (.int (1 : Int32))])) (fun _ k => XS.ishr X0.here hx rfl (hb hby d11_5) rfl k) ?_
  rw [(by decide : ((5 : Int32) >>> ((1 : Int32) &&& 31)) = (2 : Int32))]
  refine Rch.go (U' := T0.setTop (mkF m 7 #[.val (.int (5 : Int32)), .val (.int p2), .val (.int p3), .val (.int p4), .val (.int p5), .unset, .unset, .unset] [(.int (1 : Int32)), (.int (2 : Int32)), (.int (1 : Int32))])) (fun _ k => XS.iconst X0.here hx rfl (hb hby d11_6) k) ?_
  refine Rch.go (U' := T0.setTop (mkF m 8 #[.val (.int (5 : Int32)), .val (.int p2), .val (.int p3), .val (.int p4), .val (.int p5), .unset, .unset, .unset] [(.int ((2 : Int32) &&& (1 : Int32))), (.int (1 : Int32))])) (fun _ k => XS.iand X0.here hx rfl (hb hby d11_7) rfl k) ?_
  rw [(by decide : ((2 : Int32) &&& (1 : Int32)) = (0 : Int32))]
  refine Rch.go (U' := T0.setTop (mkF m 9 #[.val (.int (5 : Int32)), .val (.int p2), .val (.int p3), .val (.int p4), .val (.int p5), .unset, .unset, .unset] [(.int ((1 : Int32) + (0 : Int32)))])) (fun _ k => XS.iadd X0.here hx rfl (hb hby d11_8) rfl k) ?_
  rw [(by decide : ((1 : Int32) + (0 : Int32)) = (1 : Int32))]
  refine Rch.go (U' := T0.setTop (mkF m 10 #[.val (.int (5 : Int32)), .val (.int p2), .val (.int p3), .val (.int p4), .val (.int p5), .unset, .unset, .unset] [(.int (5 : Int32)), (.int (1 : Int32))])) (fun _ k => XS.iloadN X0.here hx rfl (hb hby d11_9) rfl  k) ?_
  refine Rch.go (U' := T0.setTop (mkF m 11 #[.val (.int (5 : Int32)), .val (.int p2), .val (.int p3), .val (.int p4), .val (.int p5), .unset, .unset, .unset] [(.int (2 : Int32)), (.int (5 : Int32)), (.int (1 : Int32))])) (fun _ k => XS.iconst X0.here hx rfl (hb hby d11_10) k) ?_
  refine Rch.go (U' := T0.setTop (mkF m 12 #[.val (.int (5 : Int32)), .val (.int p2), .val (.int p3), .val (.int p4), .val (.int p5), .unset, .unset, .unset] [(.int ((5 : Int32) >>> ((2 : Int32) &&& 31))), (.int (1 : Int32))])) (fun _ k => XS.ishr X0.here hx rfl (hb hby d11_11) rfl k) ?_
  rw [(by decide : ((5 : Int32) >>> ((2 : Int32) &&& 31)) = (1 : Int32))]
  refine Rch.go (U' := T0.setTop (mkF m 13 #[.val (.int (5 : Int32)), .val (.int p2), .val (.int p3), .val (.int p4), .val (.int p5), .unset, .unset, .unset] [(.int (1 : Int32)), (.int (1 : Int32)), (.int (1 : Int32))])) (fun _ k => XS.iconst X0.here hx rfl (hb hby d11_12) k) ?_
  refine Rch.go (U' := T0.setTop (mkF m 14 #[.val (.int (5 : Int32)), .val (.int p2), .val (.int p3), .val (.int p4), .val (.int p5), .unset, .unset, .unset] [(.int ((1 : Int32) &&& (1 : Int32))), (.int (1 : Int32))])) (fun _ k => XS.iand X0.here hx rfl (hb hby d11_13) rfl k) ?_
  rw [(by decide : ((1 : Int32) &&& (1 : Int32)) = (1 : Int32))]
  refine Rch.go (U' := T0.setTop (mkF m 15 #[.val (.int (5 : Int32)), .val (.int p2), .val (.int p3), .val (.int p4), .val (.int p5), .unset, .unset, .unset] [(.int ((1 : Int32) + (1 : Int32)))])) (fun _ k => XS.iadd X0.here hx rfl (hb hby d11_14) rfl k) ?_
  rw [(by decide : ((1 : Int32) + (1 : Int32)) = (2 : Int32))]
  refine Rch.go (U' := T0.setTop (mkF m 16 #[.val (.int (5 : Int32)), .val (.int p2), .val (.int p3), .val (.int p4), .val (.int p5), .unset, .unset, .unset] [(.int (5 : Int32)), (.int (2 : Int32))])) (fun _ k => XS.iloadN X0.here hx rfl (hb hby d11_15) rfl  k) ?_
  refine Rch.go (U' := T0.setTop (mkF m 17 #[.val (.int (5 : Int32)), .val (.int p2), .val (.int p3), .val (.int p4), .val (.int p5), .unset, .unset, .unset] [(.int (3 : Int32)), (.int (5 : Int32)), (.int (2 : Int32))])) (fun _ k => XS.iconst X0.here hx rfl (hb hby d11_16) k) ?_
  refine Rch.go (U' := T0.setTop (mkF m 18 #[.val (.int (5 : Int32)), .val (.int p2), .val (.int p3), .val (.int p4), .val (.int p5), .unset, .unset, .unset] [(.int ((5 : Int32) >>> ((3 : Int32) &&& 31))), (.int (2 : Int32))])) (fun _ k => XS.ishr X0.here hx rfl (hb hby d11_17) rfl k) ?_
  rw [(by decide : ((5 : Int32) >>> ((3 : Int32) &&& 31)) = (0 : Int32))]
  refine Rch.go (U' := T0.setTop (mkF m 19 #[.val (.int (5 : Int32)), .val (.int p2), .val (.int p3), .val (.int p4), .val (.int p5), .unset, .unset, .unset] [(.int (1 : Int32)), (.int (0 : Int32)), (.int (2 : Int32))])) (fun _ k => XS.iconst X0.here hx rfl (hb hby d11_18) k) ?_
  refine Rch.go (U' := T0.setTop (mkF m 20 #[.val (.int (5 : Int32)), .val (.int p2), .val (.int p3), .val (.int p4), .val (.int p5), .unset, .unset, .unset] [(.int ((0 : Int32) &&& (1 : Int32))), (.int (2 : Int32))])) (fun _ k => XS.iand X0.here hx rfl (hb hby d11_19) rfl k) ?_
  rw [(by decide : ((0 : Int32) &&& (1 : Int32)) = (0 : Int32))]
  refine Rch.go (U' := T0.setTop (mkF m 21 #[.val (.int (5 : Int32)), .val (.int p2), .val (.int p3), .val (.int p4), .val (.int p5), .unset, .unset, .unset] [(.int ((2 : Int32) + (0 : Int32)))])) (fun _ k => XS.iadd X0.here hx rfl (hb hby d11_20) rfl k) ?_
  rw [(by decide : ((2 : Int32) + (0 : Int32)) = (2 : Int32))]
  refine Rch.go (U' := T0.setTop (mkF m 23 #[.val (.int (5 : Int32)), .val (.int p2), .val (.int p3), .val (.int p4), .val (.int p5), .val (.int (2 : Int32)), .unset, .unset] [])) (fun _ k => XS.istore X0.here hx rfl (hb hby d11_21) rfl (l' := #[.val (.int (5 : Int32)), .val (.int p2), .val (.int p3), .val (.int p4), .val (.int p5), .val (.int (2 : Int32)), .unset, .unset]) rfl k) ?_
  refine Rch.go (U' := T0.setTop (mkF m 25 #[.val (.int (5 : Int32)), .val (.int p2), .val (.int p3), .val (.int p4), .val (.int p5), .val (.int (2 : Int32)), .unset, .unset] [(.int (2 : Int32))])) (fun _ k => XS.iload X0.here hx rfl (hb hby d11_23) rfl  k) ?_
  obtain ⟨T68, h68, k68, X68, e68, E68, A68, st68⟩ := newP X0 hx hZ (wi hw 12 rfl) e0 (g := (mkF m 25 #[.val (.int (5 : Int32)), .val (.int p2), .val (.int p3), .val (.int p4), .val (.int p5), .val (.int (2 : Int32)), .unset, .unset] [(.int (2 : Int32))])) rfl (hb hby d11_25) rfl (by decide) (cap := 2) (by decide) (by decide) (by decide) (by decide)
  obtain ⟨b68, g68⟩ : ∃ z, z = h0.size := ⟨_, rfl⟩
  rw [← g68] at A68 st68
  have n0b68 : n0 ≤ b68 := Nat.le_trans Z0 (Nat.le_of_eq g68.symm)
  have szb68 : h0.size ≤ b68 := Nat.le_trans (Keep.refl h0 []).1 (Nat.le_of_eq g68.symm)
  have z69 := Nat.le_trans Z0 E68.1
  have K70 := (Keep.refl h0 []).ext E68
  have V68 : Arv Z h68 b68 k68 .int (2 : Int32) [(.int (0 : Int32)), (.int (0 : Int32))] (.int (0 : Int32)) := (Arv.new A68 (by decide)).pad (pad_rep [] (.int (0 : Int32)) 2)
  refine Rch.go (U' := T68.setTop (mkF m 27 #[.val (.int (5 : Int32)), .val (.int p2), .val (.int p3), .val (.int p4), .val (.int p5), .val (.int (2 : Int32)), .unset, .unset] [(.ref b68)])) st68 ?_
  refine Rch.go (U' := T68.setTop (mkF m 29 #[.val (.int (5 : Int32)), .val (.int p2), .val (.int p3), .val (.int p4), .val (.int p5), .val (.int (2 : Int32)), .val (.ref b68), .unset] [])) (fun _ k => XS.astore X68.here hx rfl (hb hby d11_27) rfl rfl (l' := #[.val (.int (5 : Int32)), .val (.int p2), .val (.int p3), .val (.int p4), .val (.int p5), .val (.int (2 : Int32)), .val (.ref b68), .unset]) rfl k) ?_
  refine Rch.go (U' := T68.setTop (mkF m 30 #[.val (.int (5 : Int32)), .val (.int p2), .val (.int p3), .val (.int p4), .val (.int p5), .val (.int (2 : Int32)), .val (.ref b68), .unset] [(.int (0 : Int32))])) (fun _ k => XS.iconst X68.here hx rfl (hb hby d11_29) k) ?_
  refine Rch.go (U' := T68.setTop (mkF m 32 #[.val (.int (5 : Int32)), .val (.int p2), .val (.int p3), .val (.int p4), .val (.int p5), .val (.int (2 : Int32)), .val (.ref b68), .val (.int (0 : Int32))] [])) (fun _ k => XS.istore X68.here hx rfl (hb hby d11_30) rfl (l' := #[.val (.int (5 : Int32)), .val (.int p2), .val (.int p3), .val (.int p4), .val (.int p5), .val (.int (2 : Int32)), .val (.ref b68), .val (.int (0 : Int32))]) rfl k) ?_
  refine Rch.go (U' := T68.setTop (mkF m 33 #[.val (.int (5 : Int32)), .val (.int p2), .val (.int p3), .val (.int p4), .val (.int p5), .val (.int (2 : Int32)), .val (.ref b68), .val (.int (0 : Int32))] [(.int (5 : Int32))])) (fun _ k => XS.iloadN X68.here hx rfl (hb hby d11_32) rfl  k) ?_
  refine Rch.go (U' := T68.setTop (mkF m 34 #[.val (.int (5 : Int32)), .val (.int p2), .val (.int p3), .val (.int p4), .val (.int p5), .val (.int (2 : Int32)), .val (.ref b68), .val (.int (0 : Int32))] [(.int (1 : Int32)), (.int (5 : Int32))])) (fun _ k => XS.iconst X68.here hx rfl (hb hby d11_33) k) ?_
  refine Rch.go (U' := T68.setTop (mkF m 35 #[.val (.int (5 : Int32)), .val (.int p2), .val (.int p3), .val (.int p4), .val (.int p5), .val (.int (2 : Int32)), .val (.ref b68), .val (.int (0 : Int32))] [(.int ((5 : Int32) &&& (1 : Int32)))])) (fun _ k => XS.iand X68.here hx rfl (hb hby d11_34) rfl k) ?_
  rw [(by decide : ((5 : Int32) &&& (1 : Int32)) = (1 : Int32))]
  have br71 : ¬ ((1 : Int32) = (0 : Int32)) := (by decide)
  refine Rch.go (U' := T68.setTop (mkF m 38 #[.val (.int (5 : Int32)), .val (.int p2), .val (.int p3), .val (.int p4), .val (.int p5), .val (.int (2 : Int32)), .val (.ref b68), .val (.int (0 : Int32))] [])) (fun _ k => XS.ifNo X68.here hx rfl (hb hby d11_35) rfl (XT.i0_eq_f br71) k) ?_
  refine Rch.go (U' := T68.setTop (mkF m 40 #[.val (.int (5 : Int32)), .val (.int p2), .val (.int p3), .val (.int p4), .val (.int p5), .val (.int (2 : Int32)), .val (.ref b68), .val (.int (0 : Int32))] [(.ref b68)])) (fun _ k => XS.aload X68.here hx rfl (hb hby d11_38) rfl rfl k) ?_
  refine Rch.go (U' := T68.setTop (mkF m 42 #[.val (.int (5 : Int32)), .val (.int p2), .val (.int p3), .val (.int p4), .val (.int p5), .val (.int (2 : Int32)), .val (.ref b68), .val (.int (0 : Int32))] [(.int (0 : Int32)), (.ref b68)])) (fun _ k => XS.iload X68.here hx rfl (hb hby d11_40) rfl  k) ?_
  refine Rch.go (U' := T68.setTop (mkF m 43 #[.val (.int (5 : Int32)), .val (.int p2), .val (.int p3), .val (.int p4), .val (.int p5), .val (.int (2 : Int32)), .val (.ref b68), .val (.int (0 : Int32))] [(.int p2), (.int (0 : Int32)), (.ref b68)])) (fun _ k => XS.iloadN X68.here hx rfl (hb hby d11_42) rfl  k) ?_
  obtain ⟨c72, Ar72, q72, S72, M72, Hs72, G72⟩ := id V68
  have i72 : ¬ ((0 : Int32) < 0 ∨ c72.slots.size ≤ ((0 : Int32)).toNatClampNeg) := inb_of S72 ⟨by decide, by decide⟩
  obtain ⟨T72, h72, X72, e72, W72, st72⟩ := stI X68 hx hZ e68 Ar72 (j := (0 : Int32)) i72 (g := (mkF m 43 #[.val (.int (5 : Int32)), .val (.int p2), .val (.int p3), .val (.int p4), .val (.int p5), .val (.int (2 : Int32)), .val (.ref b68), .val (.int (0 : Int32))] [(.int p2), (.int (0 : Int32)), (.ref b68)])) rfl rfl (hb hby d11_43)
  have V72 : Arv Z h72 b68 k68 .int (2 : Int32) [(.int p2), (.int (0 : Int32))] (.int (0 : Int32)) := Arv.set Ar72 q72 S72 M72 Hs72 G72 rfl W72 0 rfl (Nat.le_of_ble_eq_true rfl)
  have N72 := Fr.snoc X72 N0 n0b68
  have z73 := Nat.le_trans z69 (Keep.of_wr W72).1
  have K74 := K70.wr W72 (Or.inr szb68)
  refine Rch.go (U' := T72.setTop (mkF m 44 #[.val (.int (5 : Int32)), .val (.int p2), .val (.int p3), .val (.int p4), .val (.int p5), .val (.int (2 : Int32)), .val (.ref b68), .val (.int (0 : Int32))] [])) st72 ?_
  refine Rch.go (U' := T72.setTop (mkF m 46 #[.val (.int (5 : Int32)), .val (.int p2), .val (.int p3), .val (.int p4), .val (.int p5), .val (.int (2 : Int32)), .val (.ref b68), .val (.int (0 : Int32))] [(.int (0 : Int32))])) (fun _ k => XS.iload X72.here hx rfl (hb hby d11_44) rfl  k) ?_
  refine Rch.go (U' := T72.setTop (mkF m 47 #[.val (.int (5 : Int32)), .val (.int p2), .val (.int p3), .val (.int p4), .val (.int p5), .val (.int (2 : Int32)), .val (.ref b68), .val (.int (0 : Int32))] [(.int (1 : Int32)), (.int (0 : Int32))])) (fun _ k => XS.iconst X72.here hx rfl (hb hby d11_46) k) ?_
  refine Rch.go (U' := T72.setTop (mkF m 48 #[.val (.int (5 : Int32)), .val (.int p2), .val (.int p3), .val (.int p4), .val (.int p5), .val (.int (2 : Int32)), .val (.ref b68), .val (.int (0 : Int32))] [(.int ((0 : Int32) + (1 : Int32)))])) (fun _ k => XS.iadd X72.here hx rfl (hb hby d11_47) rfl k) ?_
  rw [(by decide : ((0 : Int32) + (1 : Int32)) = (1 : Int32))]
  refine Rch.go (U' := T72.setTop (mkF m 50 #[.val (.int (5 : Int32)), .val (.int p2), .val (.int p3), .val (.int p4), .val (.int p5), .val (.int (2 : Int32)), .val (.ref b68), .val (.int (1 : Int32))] [])) (fun _ k => XS.istore X72.here hx rfl (hb hby d11_48) rfl (l' := #[.val (.int (5 : Int32)), .val (.int p2), .val (.int p3), .val (.int p4), .val (.int p5), .val (.int (2 : Int32)), .val (.ref b68), .val (.int (1 : Int32))]) rfl k) ?_
  refine Rch.go (U' := T72.setTop (mkF m 51 #[.val (.int (5 : Int32)), .val (.int p2), .val (.int p3), .val (.int p4), .val (.int p5), .val (.int (2 : Int32)), .val (.ref b68), .val (.int (1 : Int32))] [(.int (5 : Int32))])) (fun _ k => XS.iloadN X72.here hx rfl (hb hby d11_50) rfl  k) ?_
  refine Rch.go (U' := T72.setTop (mkF m 52 #[.val (.int (5 : Int32)), .val (.int p2), .val (.int p3), .val (.int p4), .val (.int p5), .val (.int (2 : Int32)), .val (.ref b68), .val (.int (1 : Int32))] [(.int (2 : Int32)), (.int (5 : Int32))])) (fun _ k => XS.iconst X72.here hx rfl (hb hby d11_51) k) ?_
  refine Rch.go (U' := T72.setTop (mkF m 53 #[.val (.int (5 : Int32)), .val (.int p2), .val (.int p3), .val (.int p4), .val (.int p5), .val (.int (2 : Int32)), .val (.ref b68), .val (.int (1 : Int32))] [(.int ((5 : Int32) &&& (2 : Int32)))])) (fun _ k => XS.iand X72.here hx rfl (hb hby d11_52) rfl k) ?_
  rw [(by decide : ((5 : Int32) &&& (2 : Int32)) = (0 : Int32))]
  have br75 : (0 : Int32) = (0 : Int32) := (by decide)
  refine Rch.go (U' := T72.setTop (mkF m 68 #[.val (.int (5 : Int32)), .val (.int p2), .val (.int p3), .val (.int p4), .val (.int p5), .val (.int (2 : Int32)), .val (.ref b68), .val (.int (1 : Int32))] [])) (fun _ k => XS.ifYes X72.here hx rfl (pc0 := 53) (pc' := 68) rfl (hb hby d11_53) rfl (XT.i0_eq_t br75) (by decide) (by decide) k) ?_
  refine Rch.go (U' := T72.setTop (mkF m 69 #[.val (.int (5 : Int32)), .val (.int p2), .val (.int p3), .val (.int p4), .val (.int p5), .val (.int (2 : Int32)), .val (.ref b68), .val (.int (1 : Int32))] [(.int (5 : Int32))])) (fun _ k => XS.iloadN X72.here hx rfl (hb hby d11_68) rfl  k) ?_
  refine Rch.go (U' := T72.setTop (mkF m 70 #[.val (.int (5 : Int32)), .val (.int p2), .val (.int p3), .val (.int p4), .val (.int p5), .val (.int (2 : Int32)), .val (.ref b68), .val (.int (1 : Int32))] [(.int (4 : Int32)), (.int (5 : Int32))])) (fun _ k => XS.iconst X72.here hx rfl (hb hby d11_69) k) ?_
  refine Rch.go (U' := T72.setTop (mkF m 71 #[.val (.int (5 : Int32)), .val (.int p2), .val (.int p3), .val (.int p4), .val (.int p5), .val (.int (2 : Int32)), .val (.ref b68), .val (.int (1 : Int32))] [(.int ((5 : Int32) &&& (4 : Int32)))])) (fun _ k => XS.iand X72.here hx rfl (hb hby d11_70) rfl k) ?_
  rw [(by decide : ((5 : Int32) &&& (4 : Int32)) = (4 : Int32))]
  have br76 : ¬ ((4 : Int32) = (0 : Int32)) := (by decide)
  refine Rch.go (U' := T72.setTop (mkF m 74 #[.val (.int (5 : Int32)), .val (.int p2), .val (.int p3), .val (.int p4), .val (.int p5), .val (.int (2 : Int32)), .val (.ref b68), .val (.int (1 : Int32))] [])) (fun _ k => XS.ifNo X72.here hx rfl (hb hby d11_71) rfl (XT.i0_eq_f br76) k) ?_
  refine Rch.go (U' := T72.setTop (mkF m 76 #[.val (.int (5 : Int32)), .val (.int p2), .val (.int p3), .val (.int p4), .val (.int p5), .val (.int (2 : Int32)), .val (.ref b68), .val (.int (1 : Int32))] [(.ref b68)])) (fun _ k => XS.aload X72.here hx rfl (hb hby d11_74) rfl rfl k) ?_
  refine Rch.go (U' := T72.setTop (mkF m 78 #[.val (.int (5 : Int32)), .val (.int p2), .val (.int p3), .val (.int p4), .val (.int p5), .val (.int (2 : Int32)), .val (.ref b68), .val (.int (1 : Int32))] [(.int (1 : Int32)), (.ref b68)])) (fun _ k => XS.iload X72.here hx rfl (hb hby d11_76) rfl  k) ?_
  refine Rch.go (U' := T72.setTop (mkF m 79 #[.val (.int (5 : Int32)), .val (.int p2), .val (.int p3), .val (.int p4), .val (.int p5), .val (.int (2 : Int32)), .val (.ref b68), .val (.int (1 : Int32))] [(.int p4), (.int (1 : Int32)), (.ref b68)])) (fun _ k => XS.iloadN X72.here hx rfl (hb hby d11_78) rfl  k) ?_
  obtain ⟨c77, Ar77, q77, S77, M77, Hs77, G77⟩ := id V72
  have i77 : ¬ ((1 : Int32) < 0 ∨ c77.slots.size ≤ ((1 : Int32)).toNatClampNeg) := inb_of S77 ⟨by decide, by decide⟩
  obtain ⟨T77, h77, X77, e77, W77, st77⟩ := stI X72 hx hZ e72 Ar77 (j := (1 : Int32)) i77 (g := (mkF m 79 #[.val (.int (5 : Int32)), .val (.int p2), .val (.int p3), .val (.int p4), .val (.int p5), .val (.int (2 : Int32)), .val (.ref b68), .val (.int (1 : Int32))] [(.int p4), (.int (1 : Int32)), (.ref b68)])) rfl rfl (hb hby d11_79)
  have V77 : Arv Z h77 b68 k68 .int (2 : Int32) [(.int p2), (.int p4)] (.int (0 : Int32)) := Arv.set Ar77 q77 S77 M77 Hs77 G77 rfl W77 1 rfl (Nat.le_of_ble_eq_true rfl)
  have N77 := Fr.snoc X77 N72 n0b68
  have z78 := Nat.le_trans z73 (Keep.of_wr W77).1
  have K79 := K74.wr W77 (Or.inr szb68)
  refine Rch.go (U' := T77.setTop (mkF m 80 #[.val (.int (5 : Int32)), .val (.int p2), .val (.int p3), .val (.int p4), .val (.int p5), .val (.int (2 : Int32)), .val (.ref b68), .val (.int (1 : Int32))] [])) st77 ?_
  refine Rch.go (U' := T77.setTop (mkF m 82 #[.val (.int (5 : Int32)), .val (.int p2), .val (.int p3), .val (.int p4), .val (.int p5), .val (.int (2 : Int32)), .val (.ref b68), .val (.int (1 : Int32))] [(.int (1 : Int32))])) (fun _ k => XS.iload X77.here hx rfl (hb hby d11_80) rfl  k) ?_
  refine Rch.go (U' := T77.setTop (mkF m 83 #[.val (.int (5 : Int32)), .val (.int p2), .val (.int p3), .val (.int p4), .val (.int p5), .val (.int (2 : Int32)), .val (.ref b68), .val (.int (1 : Int32))] [(.int (1 : Int32)), (.int (1 : Int32))])) (fun _ k => XS.iconst X77.here hx rfl (hb hby d11_82) k) ?_
  refine Rch.go (U' := T77.setTop (mkF m 84 #[.val (.int (5 : Int32)), .val (.int p2), .val (.int p3), .val (.int p4), .val (.int p5), .val (.int (2 : Int32)), .val (.ref b68), .val (.int (1 : Int32))] [(.int ((1 : Int32) + (1 : Int32)))])) (fun _ k => XS.iadd X77.here hx rfl (hb hby d11_83) rfl k) ?_
  rw [(by decide : ((1 : Int32) + (1 : Int32)) = (2 : Int32))]
  refine Rch.go (U' := T77.setTop (mkF m 86 #[.val (.int (5 : Int32)), .val (.int p2), .val (.int p3), .val (.int p4), .val (.int p5), .val (.int (2 : Int32)), .val (.ref b68), .val (.int (2 : Int32))] [])) (fun _ k => XS.istore X77.here hx rfl (hb hby d11_84) rfl (l' := #[.val (.int (5 : Int32)), .val (.int p2), .val (.int p3), .val (.int p4), .val (.int p5), .val (.int (2 : Int32)), .val (.ref b68), .val (.int (2 : Int32))]) rfl k) ?_
  refine Rch.go (U' := T77.setTop (mkF m 87 #[.val (.int (5 : Int32)), .val (.int p2), .val (.int p3), .val (.int p4), .val (.int p5), .val (.int (2 : Int32)), .val (.ref b68), .val (.int (2 : Int32))] [(.int (5 : Int32))])) (fun _ k => XS.iloadN X77.here hx rfl (hb hby d11_86) rfl  k) ?_
  refine Rch.go (U' := T77.setTop (mkF m 89 #[.val (.int (5 : Int32)), .val (.int p2), .val (.int p3), .val (.int p4), .val (.int p5), .val (.int (2 : Int32)), .val (.ref b68), .val (.int (2 : Int32))] [(.int (8 : Int32)), (.int (5 : Int32))])) (fun _ k => XS.bipush X77.here hx rfl (hb hby d11_87) k) ?_
  refine Rch.go (U' := T77.setTop (mkF m 90 #[.val (.int (5 : Int32)), .val (.int p2), .val (.int p3), .val (.int p4), .val (.int p5), .val (.int (2 : Int32)), .val (.ref b68), .val (.int (2 : Int32))] [(.int ((5 : Int32) &&& (8 : Int32)))])) (fun _ k => XS.iand X77.here hx rfl (hb hby d11_89) rfl k) ?_
  rw [(by decide : ((5 : Int32) &&& (8 : Int32)) = (0 : Int32))]
  have br80 : (0 : Int32) = (0 : Int32) := (by decide)
  refine Rch.go (U' := T77.setTop (mkF m 106 #[.val (.int (5 : Int32)), .val (.int p2), .val (.int p3), .val (.int p4), .val (.int p5), .val (.int (2 : Int32)), .val (.ref b68), .val (.int (2 : Int32))] [])) (fun _ k => XS.ifYes X77.here hx rfl (pc0 := 90) (pc' := 106) rfl (hb hby d11_90) rfl (XT.i0_eq_t br80) (by decide) (by decide) k) ?_
  refine Rch.go (U' := T77.setTop (mkF m 108 #[.val (.int (5 : Int32)), .val (.int p2), .val (.int p3), .val (.int p4), .val (.int p5), .val (.int (2 : Int32)), .val (.ref b68), .val (.int (2 : Int32))] [(.ref b68)])) (fun _ k => XS.aload X77.here hx rfl (hb hby d11_106) rfl rfl k) ?_
  refine Rch.fin X77 hlk (v := some (.ref b68)) (fun h => by rw [hret] at h; cases h) e77 (by decide) (by decide) (fun fs hr => retOut X77 hx hret rfl (Or.inr (Or.inr (Or.inr (Or.inr ⟨rfl, rfl, rfl⟩)))) (hb hby d11_108) hr) ?_
  exact ⟨b68, k68, rfl, N77, K79, n0b68, szb68, by rw [own_s5]; exact V77⟩
theorem own_s6 (p2 p3 p4 p5 : Int32) : own_sub 6 p2 p3 p4 p5 = [p3, p4] := rfl
set_option maxRecDepth 65536 in
set_option maxHeartbeats 40000000 in
theorem sub6 {p : Program} {l : Launch} {e : Env} {s : State} {m : MethodId} {args : Array Value} {below : List Frame} {meth : Method} {c : Code} {T0 : State} {locs : List Loc} {Z : State} {a0 : Array Value} {h0 : Heap} {n0 : Nat}  (p2 : Int32) (p3 : Int32) (p4 : Int32) (p5 : Int32)
    (X0 : Stand p l e ({ frames := 0, cells := 1, slots := 4, locals := 0 } : Room) s m args below meth c T0 locs 0 0) (hx : p.tables.exec = Jvm.exec) (hZ : Z.Warmed39 s.vm) (hw : ∀ d ∈ tables_1, d.before a0 Z = true) (hby : c.code = method_2_code) (hml : c.maxLocals = 8) (hown : s.vm.findClass "com/example/fixpoints_of_behaviour/fixpointsofbehaviour/bisimulation/RefusalsHoldsPinLaw" = some m.cls) (hret : meth.sig.returnType = some (.array .int)) (hlk : meth.locks = false) (e0 : T0.heap = h0) (N0 : Fr n0 locs) (Z0 : n0 ≤ h0.size)  :
    Rch p e below (Fin s below (fun v h L => ∃ (b : Addr) (kb : ClassId), v = some (.ref b) ∧ Fr n0 L ∧ Keep h0 h [] ∧ n0 ≤ b ∧ h0.size ≤ b ∧ Arv Z h b kb .int (Int32.ofNat (own_sub 6 p2 p3 p4 p5).length) ((own_sub 6 p2 p3 p4 p5).map Value.int) (.int (0 : Int32))) 1 4) (T0.setTop (mkF m 0 #[.val (.int (6 : Int32)), .val (.int p2), .val (.int p3), .val (.int p4), .val (.int p5), .unset, .unset, .unset] [])) := by
  refine Rch.go (U' := T0.setTop (mkF m 1 #[.val (.int (6 : Int32)), .val (.int p2), .val (.int p3), .val (.int p4), .val (.int p5), .unset, .unset, .unset] [(.int (6 : Int32))])) (fun _ k => XS.iloadN X0.here hx rfl (hb hby d11_0) rfl  k) ?_
  refine Rch.go (U' := T0.setTop (mkF m 2 #[.val (.int (6 : Int32)), .val (.int p2), .val (.int p3), .val (.int p4), .val (.int p5), .unset, .unset, .unset] [(.int (1 : Int32)), (.int (6 : Int32))])) (fun _ k => XS.iconst X0.here hx rfl (hb hby d11_1) k) ?_
  refine Rch.go (U' := T0.setTop (mkF m 3 #[.val (.int (6 : Int32)), .val (.int p2), .val (.int p3), .val (.int p4), .val (.int p5), .unset, .unset, .unset] [(.int ((6 : Int32) &&& (1 : Int32)))])) (fun _ k => XS.iand X0.here hx rfl (hb hby d11_2) rfl k) ?_
  rw [(by decide : ((6 : Int32) &&& (1 : Int32)) = (0 : Int32))]
  refine Rch.go (U' := T0.setTop (mkF m 4 #[.val (.int (6 : Int32)), .val (.int p2), .val (.int p3), .val (.int p4), .val (.int p5), .unset, .unset, .unset] [(.int (6 : Int32)), (.int (0 : Int32))])) (fun _ k => XS.iloadN X0.here hx rfl (hb hby d11_3) rfl  k) ?_
  refine Rch.go (U' := T0.setTop (mkF m 5 #[.val (.int (6 : Int32)), .val (.int p2), .val (.int p3), .val (.int p4), .val (.int p5), .unset, .unset, .unset] [(.int (1 : Int32)), (.int (6 : Int32)), (.int (0 : Int32))])) (fun _ k => XS.iconst X0.here hx rfl (hb hby d11_4) k) ?_
  refine Rch.go (U' := T0.setTop (mkF m 6 #[.val (.int (6 : Int32)), .val (.int p2), .val (.int p3), .val (.int p4), .val (.int p5), .unset, .unset, .unset] [(.int ((6 : Int32) >>> ((1 : Int32) &&& 31))), (.int (0 : Int32))])) (fun _ k => XS.ishr X0.here hx rfl (hb hby d11_5) rfl k) ?_
  rw [(by decide : ((6 : Int32) >>> ((1 : Int32) &&& 31)) = (3 : Int32))]
  refine Rch.go (U' := T0.setTop (mkF m 7 #[.val (.int (6 : Int32)), .val (.int p2), .val (.int p3), .val (.int p4), .val (.int p5), .unset, .unset, .unset] [(.int (1 : Int32)), (.int (3 : Int32)), (.int (0 : Int32))])) (fun _ k => XS.iconst X0.here hx rfl (hb hby d11_6) k) ?_
  refine Rch.go (U' := T0.setTop (mkF m 8 #[.val (.int (6 : Int32)), .val (.int p2), .val (.int p3), .val (.int p4), .val (.int p5), .unset, .unset, .unset] [(.int ((3 : Int32) &&& (1 : Int32))), (.int (0 : Int32))])) (fun _ k => XS.iand X0.here hx rfl (hb hby d11_7) rfl k) ?_
  rw [(by decide : ((3 : Int32) &&& (1 : Int32)) = (1 : Int32))]
  refine Rch.go (U' := T0.setTop (mkF m 9 #[.val (.int (6 : Int32)), .val (.int p2), .val (.int p3), .val (.int p4), .val (.int p5), .unset, .unset, .unset] [(.int ((0 : Int32) + (1 : Int32)))])) (fun _ k => XS.iadd X0.here hx rfl (hb hby d11_8) rfl k) ?_
  rw [(by decide : ((0 : Int32) + (1 : Int32)) = (1 : Int32))]
  refine Rch.go (U' := T0.setTop (mkF m 10 #[.val (.int (6 : Int32)), .val (.int p2), .val (.int p3), .val (.int p4), .val (.int p5), .unset, .unset, .unset] [(.int (6 : Int32)), (.int (1 : Int32))])) (fun _ k => XS.iloadN X0.here hx rfl (hb hby d11_9) rfl  k) ?_
  refine Rch.go (U' := T0.setTop (mkF m 11 #[.val (.int (6 : Int32)), .val (.int p2), .val (.int p3), .val (.int p4), .val (.int p5), .unset, .unset, .unset] [(.int (2 : Int32)), (.int (6 : Int32)), (.int (1 : Int32))])) (fun _ k => XS.iconst X0.here hx rfl (hb hby d11_10) k) ?_
  refine Rch.go (U' := T0.setTop (mkF m 12 #[.val (.int (6 : Int32)), .val (.int p2), .val (.int p3), .val (.int p4), .val (.int p5), .unset, .unset, .unset] [(.int ((6 : Int32) >>> ((2 : Int32) &&& 31))), (.int (1 : Int32))])) (fun _ k => XS.ishr X0.here hx rfl (hb hby d11_11) rfl k) ?_
  rw [(by decide : ((6 : Int32) >>> ((2 : Int32) &&& 31)) = (1 : Int32))]
  refine Rch.go (U' := T0.setTop (mkF m 13 #[.val (.int (6 : Int32)), .val (.int p2), .val (.int p3), .val (.int p4), .val (.int p5), .unset, .unset, .unset] [(.int (1 : Int32)), (.int (1 : Int32)), (.int (1 : Int32))])) (fun _ k => XS.iconst X0.here hx rfl (hb hby d11_12) k) ?_
  refine Rch.go (U' := T0.setTop (mkF m 14 #[.val (.int (6 : Int32)), .val (.int p2), .val (.int p3), .val (.int p4), .val (.int p5), .unset, .unset, .unset] [(.int ((1 : Int32) &&& (1 : Int32))), (.int (1 : Int32))])) (fun _ k => XS.iand X0.here hx rfl (hb hby d11_13) rfl k) ?_
  rw [(by decide : ((1 : Int32) &&& (1 : Int32)) = (1 : Int32))]
  refine Rch.go (U' := T0.setTop (mkF m 15 #[.val (.int (6 : Int32)), .val (.int p2), .val (.int p3), .val (.int p4), .val (.int p5), .unset, .unset, .unset] [(.int ((1 : Int32) + (1 : Int32)))])) (fun _ k => XS.iadd X0.here hx rfl (hb hby d11_14) rfl k) ?_
  rw [(by decide : ((1 : Int32) + (1 : Int32)) = (2 : Int32))]
  refine Rch.go (U' := T0.setTop (mkF m 16 #[.val (.int (6 : Int32)), .val (.int p2), .val (.int p3), .val (.int p4), .val (.int p5), .unset, .unset, .unset] [(.int (6 : Int32)), (.int (2 : Int32))])) (fun _ k => XS.iloadN X0.here hx rfl (hb hby d11_15) rfl  k) ?_
  refine Rch.go (U' := T0.setTop (mkF m 17 #[.val (.int (6 : Int32)), .val (.int p2), .val (.int p3), .val (.int p4), .val (.int p5), .unset, .unset, .unset] [(.int (3 : Int32)), (.int (6 : Int32)), (.int (2 : Int32))])) (fun _ k => XS.iconst X0.here hx rfl (hb hby d11_16) k) ?_
  refine Rch.go (U' := T0.setTop (mkF m 18 #[.val (.int (6 : Int32)), .val (.int p2), .val (.int p3), .val (.int p4), .val (.int p5), .unset, .unset, .unset] [(.int ((6 : Int32) >>> ((3 : Int32) &&& 31))), (.int (2 : Int32))])) (fun _ k => XS.ishr X0.here hx rfl (hb hby d11_17) rfl k) ?_
  rw [(by decide : ((6 : Int32) >>> ((3 : Int32) &&& 31)) = (0 : Int32))]
  refine Rch.go (U' := T0.setTop (mkF m 19 #[.val (.int (6 : Int32)), .val (.int p2), .val (.int p3), .val (.int p4), .val (.int p5), .unset, .unset, .unset] [(.int (1 : Int32)), (.int (0 : Int32)), (.int (2 : Int32))])) (fun _ k => XS.iconst X0.here hx rfl (hb hby d11_18) k) ?_
  refine Rch.go (U' := T0.setTop (mkF m 20 #[.val (.int (6 : Int32)), .val (.int p2), .val (.int p3), .val (.int p4), .val (.int p5), .unset, .unset, .unset] [(.int ((0 : Int32) &&& (1 : Int32))), (.int (2 : Int32))])) (fun _ k => XS.iand X0.here hx rfl (hb hby d11_19) rfl k) ?_
  rw [(by decide : ((0 : Int32) &&& (1 : Int32)) = (0 : Int32))]
  refine Rch.go (U' := T0.setTop (mkF m 21 #[.val (.int (6 : Int32)), .val (.int p2), .val (.int p3), .val (.int p4), .val (.int p5), .unset, .unset, .unset] [(.int ((2 : Int32) + (0 : Int32)))])) (fun _ k => XS.iadd X0.here hx rfl (hb hby d11_20) rfl k) ?_
  rw [(by decide : ((2 : Int32) + (0 : Int32)) = (2 : Int32))]
  refine Rch.go (U' := T0.setTop (mkF m 23 #[.val (.int (6 : Int32)), .val (.int p2), .val (.int p3), .val (.int p4), .val (.int p5), .val (.int (2 : Int32)), .unset, .unset] [])) (fun _ k => XS.istore X0.here hx rfl (hb hby d11_21) rfl (l' := #[.val (.int (6 : Int32)), .val (.int p2), .val (.int p3), .val (.int p4), .val (.int p5), .val (.int (2 : Int32)), .unset, .unset]) rfl k) ?_
  refine Rch.go (U' := T0.setTop (mkF m 25 #[.val (.int (6 : Int32)), .val (.int p2), .val (.int p3), .val (.int p4), .val (.int p5), .val (.int (2 : Int32)), .unset, .unset] [(.int (2 : Int32))])) (fun _ k => XS.iload X0.here hx rfl (hb hby d11_23) rfl  k) ?_
  obtain ⟨T81, h81, k81, X81, e81, E81, A81, st81⟩ := newP X0 hx hZ (wi hw 12 rfl) e0 (g := (mkF m 25 #[.val (.int (6 : Int32)), .val (.int p2), .val (.int p3), .val (.int p4), .val (.int p5), .val (.int (2 : Int32)), .unset, .unset] [(.int (2 : Int32))])) rfl (hb hby d11_25) rfl (by decide) (cap := 2) (by decide) (by decide) (by decide) (by decide)
  obtain ⟨b81, g81⟩ : ∃ z, z = h0.size := ⟨_, rfl⟩
  rw [← g81] at A81 st81
  have n0b81 : n0 ≤ b81 := Nat.le_trans Z0 (Nat.le_of_eq g81.symm)
  have szb81 : h0.size ≤ b81 := Nat.le_trans (Keep.refl h0 []).1 (Nat.le_of_eq g81.symm)
  have z82 := Nat.le_trans Z0 E81.1
  have K83 := (Keep.refl h0 []).ext E81
  have V81 : Arv Z h81 b81 k81 .int (2 : Int32) [(.int (0 : Int32)), (.int (0 : Int32))] (.int (0 : Int32)) := (Arv.new A81 (by decide)).pad (pad_rep [] (.int (0 : Int32)) 2)
  refine Rch.go (U' := T81.setTop (mkF m 27 #[.val (.int (6 : Int32)), .val (.int p2), .val (.int p3), .val (.int p4), .val (.int p5), .val (.int (2 : Int32)), .unset, .unset] [(.ref b81)])) st81 ?_
  refine Rch.go (U' := T81.setTop (mkF m 29 #[.val (.int (6 : Int32)), .val (.int p2), .val (.int p3), .val (.int p4), .val (.int p5), .val (.int (2 : Int32)), .val (.ref b81), .unset] [])) (fun _ k => XS.astore X81.here hx rfl (hb hby d11_27) rfl rfl (l' := #[.val (.int (6 : Int32)), .val (.int p2), .val (.int p3), .val (.int p4), .val (.int p5), .val (.int (2 : Int32)), .val (.ref b81), .unset]) rfl k) ?_
  refine Rch.go (U' := T81.setTop (mkF m 30 #[.val (.int (6 : Int32)), .val (.int p2), .val (.int p3), .val (.int p4), .val (.int p5), .val (.int (2 : Int32)), .val (.ref b81), .unset] [(.int (0 : Int32))])) (fun _ k => XS.iconst X81.here hx rfl (hb hby d11_29) k) ?_
  refine Rch.go (U' := T81.setTop (mkF m 32 #[.val (.int (6 : Int32)), .val (.int p2), .val (.int p3), .val (.int p4), .val (.int p5), .val (.int (2 : Int32)), .val (.ref b81), .val (.int (0 : Int32))] [])) (fun _ k => XS.istore X81.here hx rfl (hb hby d11_30) rfl (l' := #[.val (.int (6 : Int32)), .val (.int p2), .val (.int p3), .val (.int p4), .val (.int p5), .val (.int (2 : Int32)), .val (.ref b81), .val (.int (0 : Int32))]) rfl k) ?_
  refine Rch.go (U' := T81.setTop (mkF m 33 #[.val (.int (6 : Int32)), .val (.int p2), .val (.int p3), .val (.int p4), .val (.int p5), .val (.int (2 : Int32)), .val (.ref b81), .val (.int (0 : Int32))] [(.int (6 : Int32))])) (fun _ k => XS.iloadN X81.here hx rfl (hb hby d11_32) rfl  k) ?_
  refine Rch.go (U' := T81.setTop (mkF m 34 #[.val (.int (6 : Int32)), .val (.int p2), .val (.int p3), .val (.int p4), .val (.int p5), .val (.int (2 : Int32)), .val (.ref b81), .val (.int (0 : Int32))] [(.int (1 : Int32)), (.int (6 : Int32))])) (fun _ k => XS.iconst X81.here hx rfl (hb hby d11_33) k) ?_
  refine Rch.go (U' := T81.setTop (mkF m 35 #[.val (.int (6 : Int32)), .val (.int p2), .val (.int p3), .val (.int p4), .val (.int p5), .val (.int (2 : Int32)), .val (.ref b81), .val (.int (0 : Int32))] [(.int ((6 : Int32) &&& (1 : Int32)))])) (fun _ k => XS.iand X81.here hx rfl (hb hby d11_34) rfl k) ?_
  rw [(by decide : ((6 : Int32) &&& (1 : Int32)) = (0 : Int32))]
  have br84 : (0 : Int32) = (0 : Int32) := (by decide)
  refine Rch.go (U' := T81.setTop (mkF m 50 #[.val (.int (6 : Int32)), .val (.int p2), .val (.int p3), .val (.int p4), .val (.int p5), .val (.int (2 : Int32)), .val (.ref b81), .val (.int (0 : Int32))] [])) (fun _ k => XS.ifYes X81.here hx rfl (pc0 := 35) (pc' := 50) rfl (hb hby d11_35) rfl (XT.i0_eq_t br84) (by decide) (by decide) k) ?_
  refine Rch.go (U' := T81.setTop (mkF m 51 #[.val (.int (6 : Int32)), .val (.int p2), .val (.int p3), .val (.int p4), .val (.int p5), .val (.int (2 : Int32)), .val (.ref b81), .val (.int (0 : Int32))] [(.int (6 : Int32))])) (fun _ k => XS.iloadN X81.here hx rfl (hb hby d11_50) rfl  k) ?_
  refine Rch.go (U' := T81.setTop (mkF m 52 #[.val (.int (6 : Int32)), .val (.int p2), .val (.int p3), .val (.int p4), .val (.int p5), .val (.int (2 : Int32)), .val (.ref b81), .val (.int (0 : Int32))] [(.int (2 : Int32)), (.int (6 : Int32))])) (fun _ k => XS.iconst X81.here hx rfl (hb hby d11_51) k) ?_
  refine Rch.go (U' := T81.setTop (mkF m 53 #[.val (.int (6 : Int32)), .val (.int p2), .val (.int p3), .val (.int p4), .val (.int p5), .val (.int (2 : Int32)), .val (.ref b81), .val (.int (0 : Int32))] [(.int ((6 : Int32) &&& (2 : Int32)))])) (fun _ k => XS.iand X81.here hx rfl (hb hby d11_52) rfl k) ?_
  rw [(by decide : ((6 : Int32) &&& (2 : Int32)) = (2 : Int32))]
  have br85 : ¬ ((2 : Int32) = (0 : Int32)) := (by decide)
  refine Rch.go (U' := T81.setTop (mkF m 56 #[.val (.int (6 : Int32)), .val (.int p2), .val (.int p3), .val (.int p4), .val (.int p5), .val (.int (2 : Int32)), .val (.ref b81), .val (.int (0 : Int32))] [])) (fun _ k => XS.ifNo X81.here hx rfl (hb hby d11_53) rfl (XT.i0_eq_f br85) k) ?_
  refine Rch.go (U' := T81.setTop (mkF m 58 #[.val (.int (6 : Int32)), .val (.int p2), .val (.int p3), .val (.int p4), .val (.int p5), .val (.int (2 : Int32)), .val (.ref b81), .val (.int (0 : Int32))] [(.ref b81)])) (fun _ k => XS.aload X81.here hx rfl (hb hby d11_56) rfl rfl k) ?_
  refine Rch.go (U' := T81.setTop (mkF m 60 #[.val (.int (6 : Int32)), .val (.int p2), .val (.int p3), .val (.int p4), .val (.int p5), .val (.int (2 : Int32)), .val (.ref b81), .val (.int (0 : Int32))] [(.int (0 : Int32)), (.ref b81)])) (fun _ k => XS.iload X81.here hx rfl (hb hby d11_58) rfl  k) ?_
  refine Rch.go (U' := T81.setTop (mkF m 61 #[.val (.int (6 : Int32)), .val (.int p2), .val (.int p3), .val (.int p4), .val (.int p5), .val (.int (2 : Int32)), .val (.ref b81), .val (.int (0 : Int32))] [(.int p3), (.int (0 : Int32)), (.ref b81)])) (fun _ k => XS.iloadN X81.here hx rfl (hb hby d11_60) rfl  k) ?_
  obtain ⟨c86, Ar86, q86, S86, M86, Hs86, G86⟩ := id V81
  have i86 : ¬ ((0 : Int32) < 0 ∨ c86.slots.size ≤ ((0 : Int32)).toNatClampNeg) := inb_of S86 ⟨by decide, by decide⟩
  obtain ⟨T86, h86, X86, e86, W86, st86⟩ := stI X81 hx hZ e81 Ar86 (j := (0 : Int32)) i86 (g := (mkF m 61 #[.val (.int (6 : Int32)), .val (.int p2), .val (.int p3), .val (.int p4), .val (.int p5), .val (.int (2 : Int32)), .val (.ref b81), .val (.int (0 : Int32))] [(.int p3), (.int (0 : Int32)), (.ref b81)])) rfl rfl (hb hby d11_61)
  have V86 : Arv Z h86 b81 k81 .int (2 : Int32) [(.int p3), (.int (0 : Int32))] (.int (0 : Int32)) := Arv.set Ar86 q86 S86 M86 Hs86 G86 rfl W86 0 rfl (Nat.le_of_ble_eq_true rfl)
  have N86 := Fr.snoc X86 N0 n0b81
  have z87 := Nat.le_trans z82 (Keep.of_wr W86).1
  have K88 := K83.wr W86 (Or.inr szb81)
  refine Rch.go (U' := T86.setTop (mkF m 62 #[.val (.int (6 : Int32)), .val (.int p2), .val (.int p3), .val (.int p4), .val (.int p5), .val (.int (2 : Int32)), .val (.ref b81), .val (.int (0 : Int32))] [])) st86 ?_
  refine Rch.go (U' := T86.setTop (mkF m 64 #[.val (.int (6 : Int32)), .val (.int p2), .val (.int p3), .val (.int p4), .val (.int p5), .val (.int (2 : Int32)), .val (.ref b81), .val (.int (0 : Int32))] [(.int (0 : Int32))])) (fun _ k => XS.iload X86.here hx rfl (hb hby d11_62) rfl  k) ?_
  refine Rch.go (U' := T86.setTop (mkF m 65 #[.val (.int (6 : Int32)), .val (.int p2), .val (.int p3), .val (.int p4), .val (.int p5), .val (.int (2 : Int32)), .val (.ref b81), .val (.int (0 : Int32))] [(.int (1 : Int32)), (.int (0 : Int32))])) (fun _ k => XS.iconst X86.here hx rfl (hb hby d11_64) k) ?_
  refine Rch.go (U' := T86.setTop (mkF m 66 #[.val (.int (6 : Int32)), .val (.int p2), .val (.int p3), .val (.int p4), .val (.int p5), .val (.int (2 : Int32)), .val (.ref b81), .val (.int (0 : Int32))] [(.int ((0 : Int32) + (1 : Int32)))])) (fun _ k => XS.iadd X86.here hx rfl (hb hby d11_65) rfl k) ?_
  rw [(by decide : ((0 : Int32) + (1 : Int32)) = (1 : Int32))]
  refine Rch.go (U' := T86.setTop (mkF m 68 #[.val (.int (6 : Int32)), .val (.int p2), .val (.int p3), .val (.int p4), .val (.int p5), .val (.int (2 : Int32)), .val (.ref b81), .val (.int (1 : Int32))] [])) (fun _ k => XS.istore X86.here hx rfl (hb hby d11_66) rfl (l' := #[.val (.int (6 : Int32)), .val (.int p2), .val (.int p3), .val (.int p4), .val (.int p5), .val (.int (2 : Int32)), .val (.ref b81), .val (.int (1 : Int32))]) rfl k) ?_
  refine Rch.go (U' := T86.setTop (mkF m 69 #[.val (.int (6 : Int32)), .val (.int p2), .val (.int p3), .val (.int p4), .val (.int p5), .val (.int (2 : Int32)), .val (.ref b81), .val (.int (1 : Int32))] [(.int (6 : Int32))])) (fun _ k => XS.iloadN X86.here hx rfl (hb hby d11_68) rfl  k) ?_
  refine Rch.go (U' := T86.setTop (mkF m 70 #[.val (.int (6 : Int32)), .val (.int p2), .val (.int p3), .val (.int p4), .val (.int p5), .val (.int (2 : Int32)), .val (.ref b81), .val (.int (1 : Int32))] [(.int (4 : Int32)), (.int (6 : Int32))])) (fun _ k => XS.iconst X86.here hx rfl (hb hby d11_69) k) ?_
  refine Rch.go (U' := T86.setTop (mkF m 71 #[.val (.int (6 : Int32)), .val (.int p2), .val (.int p3), .val (.int p4), .val (.int p5), .val (.int (2 : Int32)), .val (.ref b81), .val (.int (1 : Int32))] [(.int ((6 : Int32) &&& (4 : Int32)))])) (fun _ k => XS.iand X86.here hx rfl (hb hby d11_70) rfl k) ?_
  rw [(by decide : ((6 : Int32) &&& (4 : Int32)) = (4 : Int32))]
  have br89 : ¬ ((4 : Int32) = (0 : Int32)) := (by decide)
  refine Rch.go (U' := T86.setTop (mkF m 74 #[.val (.int (6 : Int32)), .val (.int p2), .val (.int p3), .val (.int p4), .val (.int p5), .val (.int (2 : Int32)), .val (.ref b81), .val (.int (1 : Int32))] [])) (fun _ k => XS.ifNo X86.here hx rfl (hb hby d11_71) rfl (XT.i0_eq_f br89) k) ?_
  refine Rch.go (U' := T86.setTop (mkF m 76 #[.val (.int (6 : Int32)), .val (.int p2), .val (.int p3), .val (.int p4), .val (.int p5), .val (.int (2 : Int32)), .val (.ref b81), .val (.int (1 : Int32))] [(.ref b81)])) (fun _ k => XS.aload X86.here hx rfl (hb hby d11_74) rfl rfl k) ?_
  refine Rch.go (U' := T86.setTop (mkF m 78 #[.val (.int (6 : Int32)), .val (.int p2), .val (.int p3), .val (.int p4), .val (.int p5), .val (.int (2 : Int32)), .val (.ref b81), .val (.int (1 : Int32))] [(.int (1 : Int32)), (.ref b81)])) (fun _ k => XS.iload X86.here hx rfl (hb hby d11_76) rfl  k) ?_
  refine Rch.go (U' := T86.setTop (mkF m 79 #[.val (.int (6 : Int32)), .val (.int p2), .val (.int p3), .val (.int p4), .val (.int p5), .val (.int (2 : Int32)), .val (.ref b81), .val (.int (1 : Int32))] [(.int p4), (.int (1 : Int32)), (.ref b81)])) (fun _ k => XS.iloadN X86.here hx rfl (hb hby d11_78) rfl  k) ?_
  obtain ⟨c90, Ar90, q90, S90, M90, Hs90, G90⟩ := id V86
  have i90 : ¬ ((1 : Int32) < 0 ∨ c90.slots.size ≤ ((1 : Int32)).toNatClampNeg) := inb_of S90 ⟨by decide, by decide⟩
  obtain ⟨T90, h90, X90, e90, W90, st90⟩ := stI X86 hx hZ e86 Ar90 (j := (1 : Int32)) i90 (g := (mkF m 79 #[.val (.int (6 : Int32)), .val (.int p2), .val (.int p3), .val (.int p4), .val (.int p5), .val (.int (2 : Int32)), .val (.ref b81), .val (.int (1 : Int32))] [(.int p4), (.int (1 : Int32)), (.ref b81)])) rfl rfl (hb hby d11_79)
  have V90 : Arv Z h90 b81 k81 .int (2 : Int32) [(.int p3), (.int p4)] (.int (0 : Int32)) := Arv.set Ar90 q90 S90 M90 Hs90 G90 rfl W90 1 rfl (Nat.le_of_ble_eq_true rfl)
  have N90 := Fr.snoc X90 N86 n0b81
  have z91 := Nat.le_trans z87 (Keep.of_wr W90).1
  have K92 := K88.wr W90 (Or.inr szb81)
  refine Rch.go (U' := T90.setTop (mkF m 80 #[.val (.int (6 : Int32)), .val (.int p2), .val (.int p3), .val (.int p4), .val (.int p5), .val (.int (2 : Int32)), .val (.ref b81), .val (.int (1 : Int32))] [])) st90 ?_
  refine Rch.go (U' := T90.setTop (mkF m 82 #[.val (.int (6 : Int32)), .val (.int p2), .val (.int p3), .val (.int p4), .val (.int p5), .val (.int (2 : Int32)), .val (.ref b81), .val (.int (1 : Int32))] [(.int (1 : Int32))])) (fun _ k => XS.iload X90.here hx rfl (hb hby d11_80) rfl  k) ?_
  refine Rch.go (U' := T90.setTop (mkF m 83 #[.val (.int (6 : Int32)), .val (.int p2), .val (.int p3), .val (.int p4), .val (.int p5), .val (.int (2 : Int32)), .val (.ref b81), .val (.int (1 : Int32))] [(.int (1 : Int32)), (.int (1 : Int32))])) (fun _ k => XS.iconst X90.here hx rfl (hb hby d11_82) k) ?_
  refine Rch.go (U' := T90.setTop (mkF m 84 #[.val (.int (6 : Int32)), .val (.int p2), .val (.int p3), .val (.int p4), .val (.int p5), .val (.int (2 : Int32)), .val (.ref b81), .val (.int (1 : Int32))] [(.int ((1 : Int32) + (1 : Int32)))])) (fun _ k => XS.iadd X90.here hx rfl (hb hby d11_83) rfl k) ?_
  rw [(by decide : ((1 : Int32) + (1 : Int32)) = (2 : Int32))]
  refine Rch.go (U' := T90.setTop (mkF m 86 #[.val (.int (6 : Int32)), .val (.int p2), .val (.int p3), .val (.int p4), .val (.int p5), .val (.int (2 : Int32)), .val (.ref b81), .val (.int (2 : Int32))] [])) (fun _ k => XS.istore X90.here hx rfl (hb hby d11_84) rfl (l' := #[.val (.int (6 : Int32)), .val (.int p2), .val (.int p3), .val (.int p4), .val (.int p5), .val (.int (2 : Int32)), .val (.ref b81), .val (.int (2 : Int32))]) rfl k) ?_
  refine Rch.go (U' := T90.setTop (mkF m 87 #[.val (.int (6 : Int32)), .val (.int p2), .val (.int p3), .val (.int p4), .val (.int p5), .val (.int (2 : Int32)), .val (.ref b81), .val (.int (2 : Int32))] [(.int (6 : Int32))])) (fun _ k => XS.iloadN X90.here hx rfl (hb hby d11_86) rfl  k) ?_
  refine Rch.go (U' := T90.setTop (mkF m 89 #[.val (.int (6 : Int32)), .val (.int p2), .val (.int p3), .val (.int p4), .val (.int p5), .val (.int (2 : Int32)), .val (.ref b81), .val (.int (2 : Int32))] [(.int (8 : Int32)), (.int (6 : Int32))])) (fun _ k => XS.bipush X90.here hx rfl (hb hby d11_87) k) ?_
  refine Rch.go (U' := T90.setTop (mkF m 90 #[.val (.int (6 : Int32)), .val (.int p2), .val (.int p3), .val (.int p4), .val (.int p5), .val (.int (2 : Int32)), .val (.ref b81), .val (.int (2 : Int32))] [(.int ((6 : Int32) &&& (8 : Int32)))])) (fun _ k => XS.iand X90.here hx rfl (hb hby d11_89) rfl k) ?_
  rw [(by decide : ((6 : Int32) &&& (8 : Int32)) = (0 : Int32))]
  have br93 : (0 : Int32) = (0 : Int32) := (by decide)
  refine Rch.go (U' := T90.setTop (mkF m 106 #[.val (.int (6 : Int32)), .val (.int p2), .val (.int p3), .val (.int p4), .val (.int p5), .val (.int (2 : Int32)), .val (.ref b81), .val (.int (2 : Int32))] [])) (fun _ k => XS.ifYes X90.here hx rfl (pc0 := 90) (pc' := 106) rfl (hb hby d11_90) rfl (XT.i0_eq_t br93) (by decide) (by decide) k) ?_
  refine Rch.go (U' := T90.setTop (mkF m 108 #[.val (.int (6 : Int32)), .val (.int p2), .val (.int p3), .val (.int p4), .val (.int p5), .val (.int (2 : Int32)), .val (.ref b81), .val (.int (2 : Int32))] [(.ref b81)])) (fun _ k => XS.aload X90.here hx rfl (hb hby d11_106) rfl rfl k) ?_
  refine Rch.fin X90 hlk (v := some (.ref b81)) (fun h => by rw [hret] at h; cases h) e90 (by decide) (by decide) (fun fs hr => retOut X90 hx hret rfl (Or.inr (Or.inr (Or.inr (Or.inr ⟨rfl, rfl, rfl⟩)))) (hb hby d11_108) hr) ?_
  exact ⟨b81, k81, rfl, N90, K92, n0b81, szb81, by rw [own_s6]; exact V90⟩
theorem own_s7 (p2 p3 p4 p5 : Int32) : own_sub 7 p2 p3 p4 p5 = [p2, p3, p4] := rfl
set_option maxRecDepth 65536 in
set_option maxHeartbeats 40000000 in
theorem sub7 {p : Program} {l : Launch} {e : Env} {s : State} {m : MethodId} {args : Array Value} {below : List Frame} {meth : Method} {c : Code} {T0 : State} {locs : List Loc} {Z : State} {a0 : Array Value} {h0 : Heap} {n0 : Nat}  (p2 : Int32) (p3 : Int32) (p4 : Int32) (p5 : Int32)
    (X0 : Stand p l e ({ frames := 0, cells := 1, slots := 4, locals := 0 } : Room) s m args below meth c T0 locs 0 0) (hx : p.tables.exec = Jvm.exec) (hZ : Z.Warmed39 s.vm) (hw : ∀ d ∈ tables_1, d.before a0 Z = true) (hby : c.code = method_2_code) (hml : c.maxLocals = 8) (hown : s.vm.findClass "com/example/fixpoints_of_behaviour/fixpointsofbehaviour/bisimulation/RefusalsHoldsPinLaw" = some m.cls) (hret : meth.sig.returnType = some (.array .int)) (hlk : meth.locks = false) (e0 : T0.heap = h0) (N0 : Fr n0 locs) (Z0 : n0 ≤ h0.size)  :
    Rch p e below (Fin s below (fun v h L => ∃ (b : Addr) (kb : ClassId), v = some (.ref b) ∧ Fr n0 L ∧ Keep h0 h [] ∧ n0 ≤ b ∧ h0.size ≤ b ∧ Arv Z h b kb .int (Int32.ofNat (own_sub 7 p2 p3 p4 p5).length) ((own_sub 7 p2 p3 p4 p5).map Value.int) (.int (0 : Int32))) 1 4) (T0.setTop (mkF m 0 #[.val (.int (7 : Int32)), .val (.int p2), .val (.int p3), .val (.int p4), .val (.int p5), .unset, .unset, .unset] [])) := by
  refine Rch.go (U' := T0.setTop (mkF m 1 #[.val (.int (7 : Int32)), .val (.int p2), .val (.int p3), .val (.int p4), .val (.int p5), .unset, .unset, .unset] [(.int (7 : Int32))])) (fun _ k => XS.iloadN X0.here hx rfl (hb hby d11_0) rfl  k) ?_
  refine Rch.go (U' := T0.setTop (mkF m 2 #[.val (.int (7 : Int32)), .val (.int p2), .val (.int p3), .val (.int p4), .val (.int p5), .unset, .unset, .unset] [(.int (1 : Int32)), (.int (7 : Int32))])) (fun _ k => XS.iconst X0.here hx rfl (hb hby d11_1) k) ?_
  refine Rch.go (U' := T0.setTop (mkF m 3 #[.val (.int (7 : Int32)), .val (.int p2), .val (.int p3), .val (.int p4), .val (.int p5), .unset, .unset, .unset] [(.int ((7 : Int32) &&& (1 : Int32)))])) (fun _ k => XS.iand X0.here hx rfl (hb hby d11_2) rfl k) ?_
  rw [(by decide : ((7 : Int32) &&& (1 : Int32)) = (1 : Int32))]
  refine Rch.go (U' := T0.setTop (mkF m 4 #[.val (.int (7 : Int32)), .val (.int p2), .val (.int p3), .val (.int p4), .val (.int p5), .unset, .unset, .unset] [(.int (7 : Int32)), (.int (1 : Int32))])) (fun _ k => XS.iloadN X0.here hx rfl (hb hby d11_3) rfl  k) ?_
  refine Rch.go (U' := T0.setTop (mkF m 5 #[.val (.int (7 : Int32)), .val (.int p2), .val (.int p3), .val (.int p4), .val (.int p5), .unset, .unset, .unset] [(.int (1 : Int32)), (.int (7 : Int32)), (.int (1 : Int32))])) (fun _ k => XS.iconst X0.here hx rfl (hb hby d11_4) k) ?_
  refine Rch.go (U' := T0.setTop (mkF m 6 #[.val (.int (7 : Int32)), .val (.int p2), .val (.int p3), .val (.int p4), .val (.int p5), .unset, .unset, .unset] [(.int ((7 : Int32) >>> ((1 : Int32) &&& 31))), (.int (1 : Int32))])) (fun _ k => XS.ishr X0.here hx rfl (hb hby d11_5) rfl k) ?_
  rw [(by decide : ((7 : Int32) >>> ((1 : Int32) &&& 31)) = (3 : Int32))]
  refine Rch.go (U' := T0.setTop (mkF m 7 #[.val (.int (7 : Int32)), .val (.int p2), .val (.int p3), .val (.int p4), .val (.int p5), .unset, .unset, .unset] [(.int (1 : Int32)), (.int (3 : Int32)), (.int (1 : Int32))])) (fun _ k => XS.iconst X0.here hx rfl (hb hby d11_6) k) ?_
  refine Rch.go (U' := T0.setTop (mkF m 8 #[.val (.int (7 : Int32)), .val (.int p2), .val (.int p3), .val (.int p4), .val (.int p5), .unset, .unset, .unset] [(.int ((3 : Int32) &&& (1 : Int32))), (.int (1 : Int32))])) (fun _ k => XS.iand X0.here hx rfl (hb hby d11_7) rfl k) ?_
  rw [(by decide : ((3 : Int32) &&& (1 : Int32)) = (1 : Int32))]
  refine Rch.go (U' := T0.setTop (mkF m 9 #[.val (.int (7 : Int32)), .val (.int p2), .val (.int p3), .val (.int p4), .val (.int p5), .unset, .unset, .unset] [(.int ((1 : Int32) + (1 : Int32)))])) (fun _ k => XS.iadd X0.here hx rfl (hb hby d11_8) rfl k) ?_
  rw [(by decide : ((1 : Int32) + (1 : Int32)) = (2 : Int32))]
  refine Rch.go (U' := T0.setTop (mkF m 10 #[.val (.int (7 : Int32)), .val (.int p2), .val (.int p3), .val (.int p4), .val (.int p5), .unset, .unset, .unset] [(.int (7 : Int32)), (.int (2 : Int32))])) (fun _ k => XS.iloadN X0.here hx rfl (hb hby d11_9) rfl  k) ?_
  refine Rch.go (U' := T0.setTop (mkF m 11 #[.val (.int (7 : Int32)), .val (.int p2), .val (.int p3), .val (.int p4), .val (.int p5), .unset, .unset, .unset] [(.int (2 : Int32)), (.int (7 : Int32)), (.int (2 : Int32))])) (fun _ k => XS.iconst X0.here hx rfl (hb hby d11_10) k) ?_
  refine Rch.go (U' := T0.setTop (mkF m 12 #[.val (.int (7 : Int32)), .val (.int p2), .val (.int p3), .val (.int p4), .val (.int p5), .unset, .unset, .unset] [(.int ((7 : Int32) >>> ((2 : Int32) &&& 31))), (.int (2 : Int32))])) (fun _ k => XS.ishr X0.here hx rfl (hb hby d11_11) rfl k) ?_
  rw [(by decide : ((7 : Int32) >>> ((2 : Int32) &&& 31)) = (1 : Int32))]
  refine Rch.go (U' := T0.setTop (mkF m 13 #[.val (.int (7 : Int32)), .val (.int p2), .val (.int p3), .val (.int p4), .val (.int p5), .unset, .unset, .unset] [(.int (1 : Int32)), (.int (1 : Int32)), (.int (2 : Int32))])) (fun _ k => XS.iconst X0.here hx rfl (hb hby d11_12) k) ?_
  refine Rch.go (U' := T0.setTop (mkF m 14 #[.val (.int (7 : Int32)), .val (.int p2), .val (.int p3), .val (.int p4), .val (.int p5), .unset, .unset, .unset] [(.int ((1 : Int32) &&& (1 : Int32))), (.int (2 : Int32))])) (fun _ k => XS.iand X0.here hx rfl (hb hby d11_13) rfl k) ?_
  rw [(by decide : ((1 : Int32) &&& (1 : Int32)) = (1 : Int32))]
  refine Rch.go (U' := T0.setTop (mkF m 15 #[.val (.int (7 : Int32)), .val (.int p2), .val (.int p3), .val (.int p4), .val (.int p5), .unset, .unset, .unset] [(.int ((2 : Int32) + (1 : Int32)))])) (fun _ k => XS.iadd X0.here hx rfl (hb hby d11_14) rfl k) ?_
  rw [(by decide : ((2 : Int32) + (1 : Int32)) = (3 : Int32))]
  refine Rch.go (U' := T0.setTop (mkF m 16 #[.val (.int (7 : Int32)), .val (.int p2), .val (.int p3), .val (.int p4), .val (.int p5), .unset, .unset, .unset] [(.int (7 : Int32)), (.int (3 : Int32))])) (fun _ k => XS.iloadN X0.here hx rfl (hb hby d11_15) rfl  k) ?_
  refine Rch.go (U' := T0.setTop (mkF m 17 #[.val (.int (7 : Int32)), .val (.int p2), .val (.int p3), .val (.int p4), .val (.int p5), .unset, .unset, .unset] [(.int (3 : Int32)), (.int (7 : Int32)), (.int (3 : Int32))])) (fun _ k => XS.iconst X0.here hx rfl (hb hby d11_16) k) ?_
  refine Rch.go (U' := T0.setTop (mkF m 18 #[.val (.int (7 : Int32)), .val (.int p2), .val (.int p3), .val (.int p4), .val (.int p5), .unset, .unset, .unset] [(.int ((7 : Int32) >>> ((3 : Int32) &&& 31))), (.int (3 : Int32))])) (fun _ k => XS.ishr X0.here hx rfl (hb hby d11_17) rfl k) ?_
  rw [(by decide : ((7 : Int32) >>> ((3 : Int32) &&& 31)) = (0 : Int32))]
  refine Rch.go (U' := T0.setTop (mkF m 19 #[.val (.int (7 : Int32)), .val (.int p2), .val (.int p3), .val (.int p4), .val (.int p5), .unset, .unset, .unset] [(.int (1 : Int32)), (.int (0 : Int32)), (.int (3 : Int32))])) (fun _ k => XS.iconst X0.here hx rfl (hb hby d11_18) k) ?_
  refine Rch.go (U' := T0.setTop (mkF m 20 #[.val (.int (7 : Int32)), .val (.int p2), .val (.int p3), .val (.int p4), .val (.int p5), .unset, .unset, .unset] [(.int ((0 : Int32) &&& (1 : Int32))), (.int (3 : Int32))])) (fun _ k => XS.iand X0.here hx rfl (hb hby d11_19) rfl k) ?_
  rw [(by decide : ((0 : Int32) &&& (1 : Int32)) = (0 : Int32))]
  refine Rch.go (U' := T0.setTop (mkF m 21 #[.val (.int (7 : Int32)), .val (.int p2), .val (.int p3), .val (.int p4), .val (.int p5), .unset, .unset, .unset] [(.int ((3 : Int32) + (0 : Int32)))])) (fun _ k => XS.iadd X0.here hx rfl (hb hby d11_20) rfl k) ?_
  rw [(by decide : ((3 : Int32) + (0 : Int32)) = (3 : Int32))]
  refine Rch.go (U' := T0.setTop (mkF m 23 #[.val (.int (7 : Int32)), .val (.int p2), .val (.int p3), .val (.int p4), .val (.int p5), .val (.int (3 : Int32)), .unset, .unset] [])) (fun _ k => XS.istore X0.here hx rfl (hb hby d11_21) rfl (l' := #[.val (.int (7 : Int32)), .val (.int p2), .val (.int p3), .val (.int p4), .val (.int p5), .val (.int (3 : Int32)), .unset, .unset]) rfl k) ?_
  refine Rch.go (U' := T0.setTop (mkF m 25 #[.val (.int (7 : Int32)), .val (.int p2), .val (.int p3), .val (.int p4), .val (.int p5), .val (.int (3 : Int32)), .unset, .unset] [(.int (3 : Int32))])) (fun _ k => XS.iload X0.here hx rfl (hb hby d11_23) rfl  k) ?_
  obtain ⟨T94, h94, k94, X94, e94, E94, A94, st94⟩ := newP X0 hx hZ (wi hw 12 rfl) e0 (g := (mkF m 25 #[.val (.int (7 : Int32)), .val (.int p2), .val (.int p3), .val (.int p4), .val (.int p5), .val (.int (3 : Int32)), .unset, .unset] [(.int (3 : Int32))])) rfl (hb hby d11_25) rfl (by decide) (cap := 3) (by decide) (by decide) (by decide) (by decide)
  obtain ⟨b94, g94⟩ : ∃ z, z = h0.size := ⟨_, rfl⟩
  rw [← g94] at A94 st94
  have n0b94 : n0 ≤ b94 := Nat.le_trans Z0 (Nat.le_of_eq g94.symm)
  have szb94 : h0.size ≤ b94 := Nat.le_trans (Keep.refl h0 []).1 (Nat.le_of_eq g94.symm)
  have z95 := Nat.le_trans Z0 E94.1
  have K96 := (Keep.refl h0 []).ext E94
  have V94 : Arv Z h94 b94 k94 .int (3 : Int32) [(.int (0 : Int32)), (.int (0 : Int32)), (.int (0 : Int32))] (.int (0 : Int32)) := (Arv.new A94 (by decide)).pad (pad_rep [] (.int (0 : Int32)) 3)
  refine Rch.go (U' := T94.setTop (mkF m 27 #[.val (.int (7 : Int32)), .val (.int p2), .val (.int p3), .val (.int p4), .val (.int p5), .val (.int (3 : Int32)), .unset, .unset] [(.ref b94)])) st94 ?_
  refine Rch.go (U' := T94.setTop (mkF m 29 #[.val (.int (7 : Int32)), .val (.int p2), .val (.int p3), .val (.int p4), .val (.int p5), .val (.int (3 : Int32)), .val (.ref b94), .unset] [])) (fun _ k => XS.astore X94.here hx rfl (hb hby d11_27) rfl rfl (l' := #[.val (.int (7 : Int32)), .val (.int p2), .val (.int p3), .val (.int p4), .val (.int p5), .val (.int (3 : Int32)), .val (.ref b94), .unset]) rfl k) ?_
  refine Rch.go (U' := T94.setTop (mkF m 30 #[.val (.int (7 : Int32)), .val (.int p2), .val (.int p3), .val (.int p4), .val (.int p5), .val (.int (3 : Int32)), .val (.ref b94), .unset] [(.int (0 : Int32))])) (fun _ k => XS.iconst X94.here hx rfl (hb hby d11_29) k) ?_
  refine Rch.go (U' := T94.setTop (mkF m 32 #[.val (.int (7 : Int32)), .val (.int p2), .val (.int p3), .val (.int p4), .val (.int p5), .val (.int (3 : Int32)), .val (.ref b94), .val (.int (0 : Int32))] [])) (fun _ k => XS.istore X94.here hx rfl (hb hby d11_30) rfl (l' := #[.val (.int (7 : Int32)), .val (.int p2), .val (.int p3), .val (.int p4), .val (.int p5), .val (.int (3 : Int32)), .val (.ref b94), .val (.int (0 : Int32))]) rfl k) ?_
  refine Rch.go (U' := T94.setTop (mkF m 33 #[.val (.int (7 : Int32)), .val (.int p2), .val (.int p3), .val (.int p4), .val (.int p5), .val (.int (3 : Int32)), .val (.ref b94), .val (.int (0 : Int32))] [(.int (7 : Int32))])) (fun _ k => XS.iloadN X94.here hx rfl (hb hby d11_32) rfl  k) ?_
  refine Rch.go (U' := T94.setTop (mkF m 34 #[.val (.int (7 : Int32)), .val (.int p2), .val (.int p3), .val (.int p4), .val (.int p5), .val (.int (3 : Int32)), .val (.ref b94), .val (.int (0 : Int32))] [(.int (1 : Int32)), (.int (7 : Int32))])) (fun _ k => XS.iconst X94.here hx rfl (hb hby d11_33) k) ?_
  refine Rch.go (U' := T94.setTop (mkF m 35 #[.val (.int (7 : Int32)), .val (.int p2), .val (.int p3), .val (.int p4), .val (.int p5), .val (.int (3 : Int32)), .val (.ref b94), .val (.int (0 : Int32))] [(.int ((7 : Int32) &&& (1 : Int32)))])) (fun _ k => XS.iand X94.here hx rfl (hb hby d11_34) rfl k) ?_
  rw [(by decide : ((7 : Int32) &&& (1 : Int32)) = (1 : Int32))]
  have br97 : ¬ ((1 : Int32) = (0 : Int32)) := (by decide)
  refine Rch.go (U' := T94.setTop (mkF m 38 #[.val (.int (7 : Int32)), .val (.int p2), .val (.int p3), .val (.int p4), .val (.int p5), .val (.int (3 : Int32)), .val (.ref b94), .val (.int (0 : Int32))] [])) (fun _ k => XS.ifNo X94.here hx rfl (hb hby d11_35) rfl (XT.i0_eq_f br97) k) ?_
  refine Rch.go (U' := T94.setTop (mkF m 40 #[.val (.int (7 : Int32)), .val (.int p2), .val (.int p3), .val (.int p4), .val (.int p5), .val (.int (3 : Int32)), .val (.ref b94), .val (.int (0 : Int32))] [(.ref b94)])) (fun _ k => XS.aload X94.here hx rfl (hb hby d11_38) rfl rfl k) ?_
  refine Rch.go (U' := T94.setTop (mkF m 42 #[.val (.int (7 : Int32)), .val (.int p2), .val (.int p3), .val (.int p4), .val (.int p5), .val (.int (3 : Int32)), .val (.ref b94), .val (.int (0 : Int32))] [(.int (0 : Int32)), (.ref b94)])) (fun _ k => XS.iload X94.here hx rfl (hb hby d11_40) rfl  k) ?_
  refine Rch.go (U' := T94.setTop (mkF m 43 #[.val (.int (7 : Int32)), .val (.int p2), .val (.int p3), .val (.int p4), .val (.int p5), .val (.int (3 : Int32)), .val (.ref b94), .val (.int (0 : Int32))] [(.int p2), (.int (0 : Int32)), (.ref b94)])) (fun _ k => XS.iloadN X94.here hx rfl (hb hby d11_42) rfl  k) ?_
  obtain ⟨c98, Ar98, q98, S98, M98, Hs98, G98⟩ := id V94
  have i98 : ¬ ((0 : Int32) < 0 ∨ c98.slots.size ≤ ((0 : Int32)).toNatClampNeg) := inb_of S98 ⟨by decide, by decide⟩
  obtain ⟨T98, h98, X98, e98, W98, st98⟩ := stI X94 hx hZ e94 Ar98 (j := (0 : Int32)) i98 (g := (mkF m 43 #[.val (.int (7 : Int32)), .val (.int p2), .val (.int p3), .val (.int p4), .val (.int p5), .val (.int (3 : Int32)), .val (.ref b94), .val (.int (0 : Int32))] [(.int p2), (.int (0 : Int32)), (.ref b94)])) rfl rfl (hb hby d11_43)
  have V98 : Arv Z h98 b94 k94 .int (3 : Int32) [(.int p2), (.int (0 : Int32)), (.int (0 : Int32))] (.int (0 : Int32)) := Arv.set Ar98 q98 S98 M98 Hs98 G98 rfl W98 0 rfl (Nat.le_of_ble_eq_true rfl)
  have N98 := Fr.snoc X98 N0 n0b94
  have z99 := Nat.le_trans z95 (Keep.of_wr W98).1
  have K100 := K96.wr W98 (Or.inr szb94)
  refine Rch.go (U' := T98.setTop (mkF m 44 #[.val (.int (7 : Int32)), .val (.int p2), .val (.int p3), .val (.int p4), .val (.int p5), .val (.int (3 : Int32)), .val (.ref b94), .val (.int (0 : Int32))] [])) st98 ?_
  refine Rch.go (U' := T98.setTop (mkF m 46 #[.val (.int (7 : Int32)), .val (.int p2), .val (.int p3), .val (.int p4), .val (.int p5), .val (.int (3 : Int32)), .val (.ref b94), .val (.int (0 : Int32))] [(.int (0 : Int32))])) (fun _ k => XS.iload X98.here hx rfl (hb hby d11_44) rfl  k) ?_
  refine Rch.go (U' := T98.setTop (mkF m 47 #[.val (.int (7 : Int32)), .val (.int p2), .val (.int p3), .val (.int p4), .val (.int p5), .val (.int (3 : Int32)), .val (.ref b94), .val (.int (0 : Int32))] [(.int (1 : Int32)), (.int (0 : Int32))])) (fun _ k => XS.iconst X98.here hx rfl (hb hby d11_46) k) ?_
  refine Rch.go (U' := T98.setTop (mkF m 48 #[.val (.int (7 : Int32)), .val (.int p2), .val (.int p3), .val (.int p4), .val (.int p5), .val (.int (3 : Int32)), .val (.ref b94), .val (.int (0 : Int32))] [(.int ((0 : Int32) + (1 : Int32)))])) (fun _ k => XS.iadd X98.here hx rfl (hb hby d11_47) rfl k) ?_
  rw [(by decide : ((0 : Int32) + (1 : Int32)) = (1 : Int32))]
  refine Rch.go (U' := T98.setTop (mkF m 50 #[.val (.int (7 : Int32)), .val (.int p2), .val (.int p3), .val (.int p4), .val (.int p5), .val (.int (3 : Int32)), .val (.ref b94), .val (.int (1 : Int32))] [])) (fun _ k => XS.istore X98.here hx rfl (hb hby d11_48) rfl (l' := #[.val (.int (7 : Int32)), .val (.int p2), .val (.int p3), .val (.int p4), .val (.int p5), .val (.int (3 : Int32)), .val (.ref b94), .val (.int (1 : Int32))]) rfl k) ?_
  refine Rch.go (U' := T98.setTop (mkF m 51 #[.val (.int (7 : Int32)), .val (.int p2), .val (.int p3), .val (.int p4), .val (.int p5), .val (.int (3 : Int32)), .val (.ref b94), .val (.int (1 : Int32))] [(.int (7 : Int32))])) (fun _ k => XS.iloadN X98.here hx rfl (hb hby d11_50) rfl  k) ?_
  refine Rch.go (U' := T98.setTop (mkF m 52 #[.val (.int (7 : Int32)), .val (.int p2), .val (.int p3), .val (.int p4), .val (.int p5), .val (.int (3 : Int32)), .val (.ref b94), .val (.int (1 : Int32))] [(.int (2 : Int32)), (.int (7 : Int32))])) (fun _ k => XS.iconst X98.here hx rfl (hb hby d11_51) k) ?_
  refine Rch.go (U' := T98.setTop (mkF m 53 #[.val (.int (7 : Int32)), .val (.int p2), .val (.int p3), .val (.int p4), .val (.int p5), .val (.int (3 : Int32)), .val (.ref b94), .val (.int (1 : Int32))] [(.int ((7 : Int32) &&& (2 : Int32)))])) (fun _ k => XS.iand X98.here hx rfl (hb hby d11_52) rfl k) ?_
  rw [(by decide : ((7 : Int32) &&& (2 : Int32)) = (2 : Int32))]
  have br101 : ¬ ((2 : Int32) = (0 : Int32)) := (by decide)
  refine Rch.go (U' := T98.setTop (mkF m 56 #[.val (.int (7 : Int32)), .val (.int p2), .val (.int p3), .val (.int p4), .val (.int p5), .val (.int (3 : Int32)), .val (.ref b94), .val (.int (1 : Int32))] [])) (fun _ k => XS.ifNo X98.here hx rfl (hb hby d11_53) rfl (XT.i0_eq_f br101) k) ?_
  refine Rch.go (U' := T98.setTop (mkF m 58 #[.val (.int (7 : Int32)), .val (.int p2), .val (.int p3), .val (.int p4), .val (.int p5), .val (.int (3 : Int32)), .val (.ref b94), .val (.int (1 : Int32))] [(.ref b94)])) (fun _ k => XS.aload X98.here hx rfl (hb hby d11_56) rfl rfl k) ?_
  refine Rch.go (U' := T98.setTop (mkF m 60 #[.val (.int (7 : Int32)), .val (.int p2), .val (.int p3), .val (.int p4), .val (.int p5), .val (.int (3 : Int32)), .val (.ref b94), .val (.int (1 : Int32))] [(.int (1 : Int32)), (.ref b94)])) (fun _ k => XS.iload X98.here hx rfl (hb hby d11_58) rfl  k) ?_
  refine Rch.go (U' := T98.setTop (mkF m 61 #[.val (.int (7 : Int32)), .val (.int p2), .val (.int p3), .val (.int p4), .val (.int p5), .val (.int (3 : Int32)), .val (.ref b94), .val (.int (1 : Int32))] [(.int p3), (.int (1 : Int32)), (.ref b94)])) (fun _ k => XS.iloadN X98.here hx rfl (hb hby d11_60) rfl  k) ?_
  obtain ⟨c102, Ar102, q102, S102, M102, Hs102, G102⟩ := id V98
  have i102 : ¬ ((1 : Int32) < 0 ∨ c102.slots.size ≤ ((1 : Int32)).toNatClampNeg) := inb_of S102 ⟨by decide, by decide⟩
  obtain ⟨T102, h102, X102, e102, W102, st102⟩ := stI X98 hx hZ e98 Ar102 (j := (1 : Int32)) i102 (g := (mkF m 61 #[.val (.int (7 : Int32)), .val (.int p2), .val (.int p3), .val (.int p4), .val (.int p5), .val (.int (3 : Int32)), .val (.ref b94), .val (.int (1 : Int32))] [(.int p3), (.int (1 : Int32)), (.ref b94)])) rfl rfl (hb hby d11_61)
  have V102 : Arv Z h102 b94 k94 .int (3 : Int32) [(.int p2), (.int p3), (.int (0 : Int32))] (.int (0 : Int32)) := Arv.set Ar102 q102 S102 M102 Hs102 G102 rfl W102 1 rfl (Nat.le_of_ble_eq_true rfl)
  have N102 := Fr.snoc X102 N98 n0b94
  have z103 := Nat.le_trans z99 (Keep.of_wr W102).1
  have K104 := K100.wr W102 (Or.inr szb94)
  refine Rch.go (U' := T102.setTop (mkF m 62 #[.val (.int (7 : Int32)), .val (.int p2), .val (.int p3), .val (.int p4), .val (.int p5), .val (.int (3 : Int32)), .val (.ref b94), .val (.int (1 : Int32))] [])) st102 ?_
  refine Rch.go (U' := T102.setTop (mkF m 64 #[.val (.int (7 : Int32)), .val (.int p2), .val (.int p3), .val (.int p4), .val (.int p5), .val (.int (3 : Int32)), .val (.ref b94), .val (.int (1 : Int32))] [(.int (1 : Int32))])) (fun _ k => XS.iload X102.here hx rfl (hb hby d11_62) rfl  k) ?_
  refine Rch.go (U' := T102.setTop (mkF m 65 #[.val (.int (7 : Int32)), .val (.int p2), .val (.int p3), .val (.int p4), .val (.int p5), .val (.int (3 : Int32)), .val (.ref b94), .val (.int (1 : Int32))] [(.int (1 : Int32)), (.int (1 : Int32))])) (fun _ k => XS.iconst X102.here hx rfl (hb hby d11_64) k) ?_
  refine Rch.go (U' := T102.setTop (mkF m 66 #[.val (.int (7 : Int32)), .val (.int p2), .val (.int p3), .val (.int p4), .val (.int p5), .val (.int (3 : Int32)), .val (.ref b94), .val (.int (1 : Int32))] [(.int ((1 : Int32) + (1 : Int32)))])) (fun _ k => XS.iadd X102.here hx rfl (hb hby d11_65) rfl k) ?_
  rw [(by decide : ((1 : Int32) + (1 : Int32)) = (2 : Int32))]
  refine Rch.go (U' := T102.setTop (mkF m 68 #[.val (.int (7 : Int32)), .val (.int p2), .val (.int p3), .val (.int p4), .val (.int p5), .val (.int (3 : Int32)), .val (.ref b94), .val (.int (2 : Int32))] [])) (fun _ k => XS.istore X102.here hx rfl (hb hby d11_66) rfl (l' := #[.val (.int (7 : Int32)), .val (.int p2), .val (.int p3), .val (.int p4), .val (.int p5), .val (.int (3 : Int32)), .val (.ref b94), .val (.int (2 : Int32))]) rfl k) ?_
  refine Rch.go (U' := T102.setTop (mkF m 69 #[.val (.int (7 : Int32)), .val (.int p2), .val (.int p3), .val (.int p4), .val (.int p5), .val (.int (3 : Int32)), .val (.ref b94), .val (.int (2 : Int32))] [(.int (7 : Int32))])) (fun _ k => XS.iloadN X102.here hx rfl (hb hby d11_68) rfl  k) ?_
  refine Rch.go (U' := T102.setTop (mkF m 70 #[.val (.int (7 : Int32)), .val (.int p2), .val (.int p3), .val (.int p4), .val (.int p5), .val (.int (3 : Int32)), .val (.ref b94), .val (.int (2 : Int32))] [(.int (4 : Int32)), (.int (7 : Int32))])) (fun _ k => XS.iconst X102.here hx rfl (hb hby d11_69) k) ?_
  refine Rch.go (U' := T102.setTop (mkF m 71 #[.val (.int (7 : Int32)), .val (.int p2), .val (.int p3), .val (.int p4), .val (.int p5), .val (.int (3 : Int32)), .val (.ref b94), .val (.int (2 : Int32))] [(.int ((7 : Int32) &&& (4 : Int32)))])) (fun _ k => XS.iand X102.here hx rfl (hb hby d11_70) rfl k) ?_
  rw [(by decide : ((7 : Int32) &&& (4 : Int32)) = (4 : Int32))]
  have br105 : ¬ ((4 : Int32) = (0 : Int32)) := (by decide)
  refine Rch.go (U' := T102.setTop (mkF m 74 #[.val (.int (7 : Int32)), .val (.int p2), .val (.int p3), .val (.int p4), .val (.int p5), .val (.int (3 : Int32)), .val (.ref b94), .val (.int (2 : Int32))] [])) (fun _ k => XS.ifNo X102.here hx rfl (hb hby d11_71) rfl (XT.i0_eq_f br105) k) ?_
  refine Rch.go (U' := T102.setTop (mkF m 76 #[.val (.int (7 : Int32)), .val (.int p2), .val (.int p3), .val (.int p4), .val (.int p5), .val (.int (3 : Int32)), .val (.ref b94), .val (.int (2 : Int32))] [(.ref b94)])) (fun _ k => XS.aload X102.here hx rfl (hb hby d11_74) rfl rfl k) ?_
  refine Rch.go (U' := T102.setTop (mkF m 78 #[.val (.int (7 : Int32)), .val (.int p2), .val (.int p3), .val (.int p4), .val (.int p5), .val (.int (3 : Int32)), .val (.ref b94), .val (.int (2 : Int32))] [(.int (2 : Int32)), (.ref b94)])) (fun _ k => XS.iload X102.here hx rfl (hb hby d11_76) rfl  k) ?_
  refine Rch.go (U' := T102.setTop (mkF m 79 #[.val (.int (7 : Int32)), .val (.int p2), .val (.int p3), .val (.int p4), .val (.int p5), .val (.int (3 : Int32)), .val (.ref b94), .val (.int (2 : Int32))] [(.int p4), (.int (2 : Int32)), (.ref b94)])) (fun _ k => XS.iloadN X102.here hx rfl (hb hby d11_78) rfl  k) ?_
  obtain ⟨c106, Ar106, q106, S106, M106, Hs106, G106⟩ := id V102
  have i106 : ¬ ((2 : Int32) < 0 ∨ c106.slots.size ≤ ((2 : Int32)).toNatClampNeg) := inb_of S106 ⟨by decide, by decide⟩
  obtain ⟨T106, h106, X106, e106, W106, st106⟩ := stI X102 hx hZ e102 Ar106 (j := (2 : Int32)) i106 (g := (mkF m 79 #[.val (.int (7 : Int32)), .val (.int p2), .val (.int p3), .val (.int p4), .val (.int p5), .val (.int (3 : Int32)), .val (.ref b94), .val (.int (2 : Int32))] [(.int p4), (.int (2 : Int32)), (.ref b94)])) rfl rfl (hb hby d11_79)
  have V106 : Arv Z h106 b94 k94 .int (3 : Int32) [(.int p2), (.int p3), (.int p4)] (.int (0 : Int32)) := Arv.set Ar106 q106 S106 M106 Hs106 G106 rfl W106 2 rfl (Nat.le_of_ble_eq_true rfl)
  have N106 := Fr.snoc X106 N102 n0b94
  have z107 := Nat.le_trans z103 (Keep.of_wr W106).1
  have K108 := K104.wr W106 (Or.inr szb94)
  refine Rch.go (U' := T106.setTop (mkF m 80 #[.val (.int (7 : Int32)), .val (.int p2), .val (.int p3), .val (.int p4), .val (.int p5), .val (.int (3 : Int32)), .val (.ref b94), .val (.int (2 : Int32))] [])) st106 ?_
  refine Rch.go (U' := T106.setTop (mkF m 82 #[.val (.int (7 : Int32)), .val (.int p2), .val (.int p3), .val (.int p4), .val (.int p5), .val (.int (3 : Int32)), .val (.ref b94), .val (.int (2 : Int32))] [(.int (2 : Int32))])) (fun _ k => XS.iload X106.here hx rfl (hb hby d11_80) rfl  k) ?_
  refine Rch.go (U' := T106.setTop (mkF m 83 #[.val (.int (7 : Int32)), .val (.int p2), .val (.int p3), .val (.int p4), .val (.int p5), .val (.int (3 : Int32)), .val (.ref b94), .val (.int (2 : Int32))] [(.int (1 : Int32)), (.int (2 : Int32))])) (fun _ k => XS.iconst X106.here hx rfl (hb hby d11_82) k) ?_
  refine Rch.go (U' := T106.setTop (mkF m 84 #[.val (.int (7 : Int32)), .val (.int p2), .val (.int p3), .val (.int p4), .val (.int p5), .val (.int (3 : Int32)), .val (.ref b94), .val (.int (2 : Int32))] [(.int ((2 : Int32) + (1 : Int32)))])) (fun _ k => XS.iadd X106.here hx rfl (hb hby d11_83) rfl k) ?_
  rw [(by decide : ((2 : Int32) + (1 : Int32)) = (3 : Int32))]
  refine Rch.go (U' := T106.setTop (mkF m 86 #[.val (.int (7 : Int32)), .val (.int p2), .val (.int p3), .val (.int p4), .val (.int p5), .val (.int (3 : Int32)), .val (.ref b94), .val (.int (3 : Int32))] [])) (fun _ k => XS.istore X106.here hx rfl (hb hby d11_84) rfl (l' := #[.val (.int (7 : Int32)), .val (.int p2), .val (.int p3), .val (.int p4), .val (.int p5), .val (.int (3 : Int32)), .val (.ref b94), .val (.int (3 : Int32))]) rfl k) ?_
  refine Rch.go (U' := T106.setTop (mkF m 87 #[.val (.int (7 : Int32)), .val (.int p2), .val (.int p3), .val (.int p4), .val (.int p5), .val (.int (3 : Int32)), .val (.ref b94), .val (.int (3 : Int32))] [(.int (7 : Int32))])) (fun _ k => XS.iloadN X106.here hx rfl (hb hby d11_86) rfl  k) ?_
  refine Rch.go (U' := T106.setTop (mkF m 89 #[.val (.int (7 : Int32)), .val (.int p2), .val (.int p3), .val (.int p4), .val (.int p5), .val (.int (3 : Int32)), .val (.ref b94), .val (.int (3 : Int32))] [(.int (8 : Int32)), (.int (7 : Int32))])) (fun _ k => XS.bipush X106.here hx rfl (hb hby d11_87) k) ?_
  refine Rch.go (U' := T106.setTop (mkF m 90 #[.val (.int (7 : Int32)), .val (.int p2), .val (.int p3), .val (.int p4), .val (.int p5), .val (.int (3 : Int32)), .val (.ref b94), .val (.int (3 : Int32))] [(.int ((7 : Int32) &&& (8 : Int32)))])) (fun _ k => XS.iand X106.here hx rfl (hb hby d11_89) rfl k) ?_
  rw [(by decide : ((7 : Int32) &&& (8 : Int32)) = (0 : Int32))]
  have br109 : (0 : Int32) = (0 : Int32) := (by decide)
  refine Rch.go (U' := T106.setTop (mkF m 106 #[.val (.int (7 : Int32)), .val (.int p2), .val (.int p3), .val (.int p4), .val (.int p5), .val (.int (3 : Int32)), .val (.ref b94), .val (.int (3 : Int32))] [])) (fun _ k => XS.ifYes X106.here hx rfl (pc0 := 90) (pc' := 106) rfl (hb hby d11_90) rfl (XT.i0_eq_t br109) (by decide) (by decide) k) ?_
  refine Rch.go (U' := T106.setTop (mkF m 108 #[.val (.int (7 : Int32)), .val (.int p2), .val (.int p3), .val (.int p4), .val (.int p5), .val (.int (3 : Int32)), .val (.ref b94), .val (.int (3 : Int32))] [(.ref b94)])) (fun _ k => XS.aload X106.here hx rfl (hb hby d11_106) rfl rfl k) ?_
  refine Rch.fin X106 hlk (v := some (.ref b94)) (fun h => by rw [hret] at h; cases h) e106 (by decide) (by decide) (fun fs hr => retOut X106 hx hret rfl (Or.inr (Or.inr (Or.inr (Or.inr ⟨rfl, rfl, rfl⟩)))) (hb hby d11_108) hr) ?_
  exact ⟨b94, k94, rfl, N106, K108, n0b94, szb94, by rw [own_s7]; exact V106⟩
theorem own_s8 (p2 p3 p4 p5 : Int32) : own_sub 8 p2 p3 p4 p5 = [p5] := rfl
set_option maxRecDepth 65536 in
set_option maxHeartbeats 40000000 in
theorem sub8 {p : Program} {l : Launch} {e : Env} {s : State} {m : MethodId} {args : Array Value} {below : List Frame} {meth : Method} {c : Code} {T0 : State} {locs : List Loc} {Z : State} {a0 : Array Value} {h0 : Heap} {n0 : Nat}  (p2 : Int32) (p3 : Int32) (p4 : Int32) (p5 : Int32)
    (X0 : Stand p l e ({ frames := 0, cells := 1, slots := 4, locals := 0 } : Room) s m args below meth c T0 locs 0 0) (hx : p.tables.exec = Jvm.exec) (hZ : Z.Warmed39 s.vm) (hw : ∀ d ∈ tables_1, d.before a0 Z = true) (hby : c.code = method_2_code) (hml : c.maxLocals = 8) (hown : s.vm.findClass "com/example/fixpoints_of_behaviour/fixpointsofbehaviour/bisimulation/RefusalsHoldsPinLaw" = some m.cls) (hret : meth.sig.returnType = some (.array .int)) (hlk : meth.locks = false) (e0 : T0.heap = h0) (N0 : Fr n0 locs) (Z0 : n0 ≤ h0.size)  :
    Rch p e below (Fin s below (fun v h L => ∃ (b : Addr) (kb : ClassId), v = some (.ref b) ∧ Fr n0 L ∧ Keep h0 h [] ∧ n0 ≤ b ∧ h0.size ≤ b ∧ Arv Z h b kb .int (Int32.ofNat (own_sub 8 p2 p3 p4 p5).length) ((own_sub 8 p2 p3 p4 p5).map Value.int) (.int (0 : Int32))) 1 4) (T0.setTop (mkF m 0 #[.val (.int (8 : Int32)), .val (.int p2), .val (.int p3), .val (.int p4), .val (.int p5), .unset, .unset, .unset] [])) := by
  refine Rch.go (U' := T0.setTop (mkF m 1 #[.val (.int (8 : Int32)), .val (.int p2), .val (.int p3), .val (.int p4), .val (.int p5), .unset, .unset, .unset] [(.int (8 : Int32))])) (fun _ k => XS.iloadN X0.here hx rfl (hb hby d11_0) rfl  k) ?_
  refine Rch.go (U' := T0.setTop (mkF m 2 #[.val (.int (8 : Int32)), .val (.int p2), .val (.int p3), .val (.int p4), .val (.int p5), .unset, .unset, .unset] [(.int (1 : Int32)), (.int (8 : Int32))])) (fun _ k => XS.iconst X0.here hx rfl (hb hby d11_1) k) ?_
  refine Rch.go (U' := T0.setTop (mkF m 3 #[.val (.int (8 : Int32)), .val (.int p2), .val (.int p3), .val (.int p4), .val (.int p5), .unset, .unset, .unset] [(.int ((8 : Int32) &&& (1 : Int32)))])) (fun _ k => XS.iand X0.here hx rfl (hb hby d11_2) rfl k) ?_
  rw [(by decide : ((8 : Int32) &&& (1 : Int32)) = (0 : Int32))]
  refine Rch.go (U' := T0.setTop (mkF m 4 #[.val (.int (8 : Int32)), .val (.int p2), .val (.int p3), .val (.int p4), .val (.int p5), .unset, .unset, .unset] [(.int (8 : Int32)), (.int (0 : Int32))])) (fun _ k => XS.iloadN X0.here hx rfl (hb hby d11_3) rfl  k) ?_
  refine Rch.go (U' := T0.setTop (mkF m 5 #[.val (.int (8 : Int32)), .val (.int p2), .val (.int p3), .val (.int p4), .val (.int p5), .unset, .unset, .unset] [(.int (1 : Int32)), (.int (8 : Int32)), (.int (0 : Int32))])) (fun _ k => XS.iconst X0.here hx rfl (hb hby d11_4) k) ?_
  refine Rch.go (U' := T0.setTop (mkF m 6 #[.val (.int (8 : Int32)), .val (.int p2), .val (.int p3), .val (.int p4), .val (.int p5), .unset, .unset, .unset] [(.int ((8 : Int32) >>> ((1 : Int32) &&& 31))), (.int (0 : Int32))])) (fun _ k => XS.ishr X0.here hx rfl (hb hby d11_5) rfl k) ?_
  rw [(by decide : ((8 : Int32) >>> ((1 : Int32) &&& 31)) = (4 : Int32))]
  refine Rch.go (U' := T0.setTop (mkF m 7 #[.val (.int (8 : Int32)), .val (.int p2), .val (.int p3), .val (.int p4), .val (.int p5), .unset, .unset, .unset] [(.int (1 : Int32)), (.int (4 : Int32)), (.int (0 : Int32))])) (fun _ k => XS.iconst X0.here hx rfl (hb hby d11_6) k) ?_
  refine Rch.go (U' := T0.setTop (mkF m 8 #[.val (.int (8 : Int32)), .val (.int p2), .val (.int p3), .val (.int p4), .val (.int p5), .unset, .unset, .unset] [(.int ((4 : Int32) &&& (1 : Int32))), (.int (0 : Int32))])) (fun _ k => XS.iand X0.here hx rfl (hb hby d11_7) rfl k) ?_
  rw [(by decide : ((4 : Int32) &&& (1 : Int32)) = (0 : Int32))]
  refine Rch.go (U' := T0.setTop (mkF m 9 #[.val (.int (8 : Int32)), .val (.int p2), .val (.int p3), .val (.int p4), .val (.int p5), .unset, .unset, .unset] [(.int ((0 : Int32) + (0 : Int32)))])) (fun _ k => XS.iadd X0.here hx rfl (hb hby d11_8) rfl k) ?_
  rw [(by decide : ((0 : Int32) + (0 : Int32)) = (0 : Int32))]
  refine Rch.go (U' := T0.setTop (mkF m 10 #[.val (.int (8 : Int32)), .val (.int p2), .val (.int p3), .val (.int p4), .val (.int p5), .unset, .unset, .unset] [(.int (8 : Int32)), (.int (0 : Int32))])) (fun _ k => XS.iloadN X0.here hx rfl (hb hby d11_9) rfl  k) ?_
  refine Rch.go (U' := T0.setTop (mkF m 11 #[.val (.int (8 : Int32)), .val (.int p2), .val (.int p3), .val (.int p4), .val (.int p5), .unset, .unset, .unset] [(.int (2 : Int32)), (.int (8 : Int32)), (.int (0 : Int32))])) (fun _ k => XS.iconst X0.here hx rfl (hb hby d11_10) k) ?_
  refine Rch.go (U' := T0.setTop (mkF m 12 #[.val (.int (8 : Int32)), .val (.int p2), .val (.int p3), .val (.int p4), .val (.int p5), .unset, .unset, .unset] [(.int ((8 : Int32) >>> ((2 : Int32) &&& 31))), (.int (0 : Int32))])) (fun _ k => XS.ishr X0.here hx rfl (hb hby d11_11) rfl k) ?_
  rw [(by decide : ((8 : Int32) >>> ((2 : Int32) &&& 31)) = (2 : Int32))]
  refine Rch.go (U' := T0.setTop (mkF m 13 #[.val (.int (8 : Int32)), .val (.int p2), .val (.int p3), .val (.int p4), .val (.int p5), .unset, .unset, .unset] [(.int (1 : Int32)), (.int (2 : Int32)), (.int (0 : Int32))])) (fun _ k => XS.iconst X0.here hx rfl (hb hby d11_12) k) ?_
  refine Rch.go (U' := T0.setTop (mkF m 14 #[.val (.int (8 : Int32)), .val (.int p2), .val (.int p3), .val (.int p4), .val (.int p5), .unset, .unset, .unset] [(.int ((2 : Int32) &&& (1 : Int32))), (.int (0 : Int32))])) (fun _ k => XS.iand X0.here hx rfl (hb hby d11_13) rfl k) ?_
  rw [(by decide : ((2 : Int32) &&& (1 : Int32)) = (0 : Int32))]
  refine Rch.go (U' := T0.setTop (mkF m 15 #[.val (.int (8 : Int32)), .val (.int p2), .val (.int p3), .val (.int p4), .val (.int p5), .unset, .unset, .unset] [(.int ((0 : Int32) + (0 : Int32)))])) (fun _ k => XS.iadd X0.here hx rfl (hb hby d11_14) rfl k) ?_
  rw [(by decide : ((0 : Int32) + (0 : Int32)) = (0 : Int32))]
  refine Rch.go (U' := T0.setTop (mkF m 16 #[.val (.int (8 : Int32)), .val (.int p2), .val (.int p3), .val (.int p4), .val (.int p5), .unset, .unset, .unset] [(.int (8 : Int32)), (.int (0 : Int32))])) (fun _ k => XS.iloadN X0.here hx rfl (hb hby d11_15) rfl  k) ?_
  refine Rch.go (U' := T0.setTop (mkF m 17 #[.val (.int (8 : Int32)), .val (.int p2), .val (.int p3), .val (.int p4), .val (.int p5), .unset, .unset, .unset] [(.int (3 : Int32)), (.int (8 : Int32)), (.int (0 : Int32))])) (fun _ k => XS.iconst X0.here hx rfl (hb hby d11_16) k) ?_
  refine Rch.go (U' := T0.setTop (mkF m 18 #[.val (.int (8 : Int32)), .val (.int p2), .val (.int p3), .val (.int p4), .val (.int p5), .unset, .unset, .unset] [(.int ((8 : Int32) >>> ((3 : Int32) &&& 31))), (.int (0 : Int32))])) (fun _ k => XS.ishr X0.here hx rfl (hb hby d11_17) rfl k) ?_
  rw [(by decide : ((8 : Int32) >>> ((3 : Int32) &&& 31)) = (1 : Int32))]
  refine Rch.go (U' := T0.setTop (mkF m 19 #[.val (.int (8 : Int32)), .val (.int p2), .val (.int p3), .val (.int p4), .val (.int p5), .unset, .unset, .unset] [(.int (1 : Int32)), (.int (1 : Int32)), (.int (0 : Int32))])) (fun _ k => XS.iconst X0.here hx rfl (hb hby d11_18) k) ?_
  refine Rch.go (U' := T0.setTop (mkF m 20 #[.val (.int (8 : Int32)), .val (.int p2), .val (.int p3), .val (.int p4), .val (.int p5), .unset, .unset, .unset] [(.int ((1 : Int32) &&& (1 : Int32))), (.int (0 : Int32))])) (fun _ k => XS.iand X0.here hx rfl (hb hby d11_19) rfl k) ?_
  rw [(by decide : ((1 : Int32) &&& (1 : Int32)) = (1 : Int32))]
  refine Rch.go (U' := T0.setTop (mkF m 21 #[.val (.int (8 : Int32)), .val (.int p2), .val (.int p3), .val (.int p4), .val (.int p5), .unset, .unset, .unset] [(.int ((0 : Int32) + (1 : Int32)))])) (fun _ k => XS.iadd X0.here hx rfl (hb hby d11_20) rfl k) ?_
  rw [(by decide : ((0 : Int32) + (1 : Int32)) = (1 : Int32))]
  refine Rch.go (U' := T0.setTop (mkF m 23 #[.val (.int (8 : Int32)), .val (.int p2), .val (.int p3), .val (.int p4), .val (.int p5), .val (.int (1 : Int32)), .unset, .unset] [])) (fun _ k => XS.istore X0.here hx rfl (hb hby d11_21) rfl (l' := #[.val (.int (8 : Int32)), .val (.int p2), .val (.int p3), .val (.int p4), .val (.int p5), .val (.int (1 : Int32)), .unset, .unset]) rfl k) ?_
  refine Rch.go (U' := T0.setTop (mkF m 25 #[.val (.int (8 : Int32)), .val (.int p2), .val (.int p3), .val (.int p4), .val (.int p5), .val (.int (1 : Int32)), .unset, .unset] [(.int (1 : Int32))])) (fun _ k => XS.iload X0.here hx rfl (hb hby d11_23) rfl  k) ?_
  obtain ⟨T110, h110, k110, X110, e110, E110, A110, st110⟩ := newP X0 hx hZ (wi hw 12 rfl) e0 (g := (mkF m 25 #[.val (.int (8 : Int32)), .val (.int p2), .val (.int p3), .val (.int p4), .val (.int p5), .val (.int (1 : Int32)), .unset, .unset] [(.int (1 : Int32))])) rfl (hb hby d11_25) rfl (by decide) (cap := 1) (by decide) (by decide) (by decide) (by decide)
  obtain ⟨b110, g110⟩ : ∃ z, z = h0.size := ⟨_, rfl⟩
  rw [← g110] at A110 st110
  have n0b110 : n0 ≤ b110 := Nat.le_trans Z0 (Nat.le_of_eq g110.symm)
  have szb110 : h0.size ≤ b110 := Nat.le_trans (Keep.refl h0 []).1 (Nat.le_of_eq g110.symm)
  have z111 := Nat.le_trans Z0 E110.1
  have K112 := (Keep.refl h0 []).ext E110
  have V110 : Arv Z h110 b110 k110 .int (1 : Int32) [(.int (0 : Int32))] (.int (0 : Int32)) := (Arv.new A110 (by decide)).pad (pad_rep [] (.int (0 : Int32)) 1)
  refine Rch.go (U' := T110.setTop (mkF m 27 #[.val (.int (8 : Int32)), .val (.int p2), .val (.int p3), .val (.int p4), .val (.int p5), .val (.int (1 : Int32)), .unset, .unset] [(.ref b110)])) st110 ?_
  refine Rch.go (U' := T110.setTop (mkF m 29 #[.val (.int (8 : Int32)), .val (.int p2), .val (.int p3), .val (.int p4), .val (.int p5), .val (.int (1 : Int32)), .val (.ref b110), .unset] [])) (fun _ k => XS.astore X110.here hx rfl (hb hby d11_27) rfl rfl (l' := #[.val (.int (8 : Int32)), .val (.int p2), .val (.int p3), .val (.int p4), .val (.int p5), .val (.int (1 : Int32)), .val (.ref b110), .unset]) rfl k) ?_
  refine Rch.go (U' := T110.setTop (mkF m 30 #[.val (.int (8 : Int32)), .val (.int p2), .val (.int p3), .val (.int p4), .val (.int p5), .val (.int (1 : Int32)), .val (.ref b110), .unset] [(.int (0 : Int32))])) (fun _ k => XS.iconst X110.here hx rfl (hb hby d11_29) k) ?_
  refine Rch.go (U' := T110.setTop (mkF m 32 #[.val (.int (8 : Int32)), .val (.int p2), .val (.int p3), .val (.int p4), .val (.int p5), .val (.int (1 : Int32)), .val (.ref b110), .val (.int (0 : Int32))] [])) (fun _ k => XS.istore X110.here hx rfl (hb hby d11_30) rfl (l' := #[.val (.int (8 : Int32)), .val (.int p2), .val (.int p3), .val (.int p4), .val (.int p5), .val (.int (1 : Int32)), .val (.ref b110), .val (.int (0 : Int32))]) rfl k) ?_
  refine Rch.go (U' := T110.setTop (mkF m 33 #[.val (.int (8 : Int32)), .val (.int p2), .val (.int p3), .val (.int p4), .val (.int p5), .val (.int (1 : Int32)), .val (.ref b110), .val (.int (0 : Int32))] [(.int (8 : Int32))])) (fun _ k => XS.iloadN X110.here hx rfl (hb hby d11_32) rfl  k) ?_
  refine Rch.go (U' := T110.setTop (mkF m 34 #[.val (.int (8 : Int32)), .val (.int p2), .val (.int p3), .val (.int p4), .val (.int p5), .val (.int (1 : Int32)), .val (.ref b110), .val (.int (0 : Int32))] [(.int (1 : Int32)), (.int (8 : Int32))])) (fun _ k => XS.iconst X110.here hx rfl (hb hby d11_33) k) ?_
  refine Rch.go (U' := T110.setTop (mkF m 35 #[.val (.int (8 : Int32)), .val (.int p2), .val (.int p3), .val (.int p4), .val (.int p5), .val (.int (1 : Int32)), .val (.ref b110), .val (.int (0 : Int32))] [(.int ((8 : Int32) &&& (1 : Int32)))])) (fun _ k => XS.iand X110.here hx rfl (hb hby d11_34) rfl k) ?_
  rw [(by decide : ((8 : Int32) &&& (1 : Int32)) = (0 : Int32))]
  have br113 : (0 : Int32) = (0 : Int32) := (by decide)
  refine Rch.go (U' := T110.setTop (mkF m 50 #[.val (.int (8 : Int32)), .val (.int p2), .val (.int p3), .val (.int p4), .val (.int p5), .val (.int (1 : Int32)), .val (.ref b110), .val (.int (0 : Int32))] [])) (fun _ k => XS.ifYes X110.here hx rfl (pc0 := 35) (pc' := 50) rfl (hb hby d11_35) rfl (XT.i0_eq_t br113) (by decide) (by decide) k) ?_
  refine Rch.go (U' := T110.setTop (mkF m 51 #[.val (.int (8 : Int32)), .val (.int p2), .val (.int p3), .val (.int p4), .val (.int p5), .val (.int (1 : Int32)), .val (.ref b110), .val (.int (0 : Int32))] [(.int (8 : Int32))])) (fun _ k => XS.iloadN X110.here hx rfl (hb hby d11_50) rfl  k) ?_
  refine Rch.go (U' := T110.setTop (mkF m 52 #[.val (.int (8 : Int32)), .val (.int p2), .val (.int p3), .val (.int p4), .val (.int p5), .val (.int (1 : Int32)), .val (.ref b110), .val (.int (0 : Int32))] [(.int (2 : Int32)), (.int (8 : Int32))])) (fun _ k => XS.iconst X110.here hx rfl (hb hby d11_51) k) ?_
  refine Rch.go (U' := T110.setTop (mkF m 53 #[.val (.int (8 : Int32)), .val (.int p2), .val (.int p3), .val (.int p4), .val (.int p5), .val (.int (1 : Int32)), .val (.ref b110), .val (.int (0 : Int32))] [(.int ((8 : Int32) &&& (2 : Int32)))])) (fun _ k => XS.iand X110.here hx rfl (hb hby d11_52) rfl k) ?_
  rw [(by decide : ((8 : Int32) &&& (2 : Int32)) = (0 : Int32))]
  have br114 : (0 : Int32) = (0 : Int32) := (by decide)
  refine Rch.go (U' := T110.setTop (mkF m 68 #[.val (.int (8 : Int32)), .val (.int p2), .val (.int p3), .val (.int p4), .val (.int p5), .val (.int (1 : Int32)), .val (.ref b110), .val (.int (0 : Int32))] [])) (fun _ k => XS.ifYes X110.here hx rfl (pc0 := 53) (pc' := 68) rfl (hb hby d11_53) rfl (XT.i0_eq_t br114) (by decide) (by decide) k) ?_
  refine Rch.go (U' := T110.setTop (mkF m 69 #[.val (.int (8 : Int32)), .val (.int p2), .val (.int p3), .val (.int p4), .val (.int p5), .val (.int (1 : Int32)), .val (.ref b110), .val (.int (0 : Int32))] [(.int (8 : Int32))])) (fun _ k => XS.iloadN X110.here hx rfl (hb hby d11_68) rfl  k) ?_
  refine Rch.go (U' := T110.setTop (mkF m 70 #[.val (.int (8 : Int32)), .val (.int p2), .val (.int p3), .val (.int p4), .val (.int p5), .val (.int (1 : Int32)), .val (.ref b110), .val (.int (0 : Int32))] [(.int (4 : Int32)), (.int (8 : Int32))])) (fun _ k => XS.iconst X110.here hx rfl (hb hby d11_69) k) ?_
  refine Rch.go (U' := T110.setTop (mkF m 71 #[.val (.int (8 : Int32)), .val (.int p2), .val (.int p3), .val (.int p4), .val (.int p5), .val (.int (1 : Int32)), .val (.ref b110), .val (.int (0 : Int32))] [(.int ((8 : Int32) &&& (4 : Int32)))])) (fun _ k => XS.iand X110.here hx rfl (hb hby d11_70) rfl k) ?_
  rw [(by decide : ((8 : Int32) &&& (4 : Int32)) = (0 : Int32))]
  have br115 : (0 : Int32) = (0 : Int32) := (by decide)
  refine Rch.go (U' := T110.setTop (mkF m 86 #[.val (.int (8 : Int32)), .val (.int p2), .val (.int p3), .val (.int p4), .val (.int p5), .val (.int (1 : Int32)), .val (.ref b110), .val (.int (0 : Int32))] [])) (fun _ k => XS.ifYes X110.here hx rfl (pc0 := 71) (pc' := 86) rfl (hb hby d11_71) rfl (XT.i0_eq_t br115) (by decide) (by decide) k) ?_
  refine Rch.go (U' := T110.setTop (mkF m 87 #[.val (.int (8 : Int32)), .val (.int p2), .val (.int p3), .val (.int p4), .val (.int p5), .val (.int (1 : Int32)), .val (.ref b110), .val (.int (0 : Int32))] [(.int (8 : Int32))])) (fun _ k => XS.iloadN X110.here hx rfl (hb hby d11_86) rfl  k) ?_
  refine Rch.go (U' := T110.setTop (mkF m 89 #[.val (.int (8 : Int32)), .val (.int p2), .val (.int p3), .val (.int p4), .val (.int p5), .val (.int (1 : Int32)), .val (.ref b110), .val (.int (0 : Int32))] [(.int (8 : Int32)), (.int (8 : Int32))])) (fun _ k => XS.bipush X110.here hx rfl (hb hby d11_87) k) ?_
  refine Rch.go (U' := T110.setTop (mkF m 90 #[.val (.int (8 : Int32)), .val (.int p2), .val (.int p3), .val (.int p4), .val (.int p5), .val (.int (1 : Int32)), .val (.ref b110), .val (.int (0 : Int32))] [(.int ((8 : Int32) &&& (8 : Int32)))])) (fun _ k => XS.iand X110.here hx rfl (hb hby d11_89) rfl k) ?_
  rw [(by decide : ((8 : Int32) &&& (8 : Int32)) = (8 : Int32))]
  have br116 : ¬ ((8 : Int32) = (0 : Int32)) := (by decide)
  refine Rch.go (U' := T110.setTop (mkF m 93 #[.val (.int (8 : Int32)), .val (.int p2), .val (.int p3), .val (.int p4), .val (.int p5), .val (.int (1 : Int32)), .val (.ref b110), .val (.int (0 : Int32))] [])) (fun _ k => XS.ifNo X110.here hx rfl (hb hby d11_90) rfl (XT.i0_eq_f br116) k) ?_
  refine Rch.go (U' := T110.setTop (mkF m 95 #[.val (.int (8 : Int32)), .val (.int p2), .val (.int p3), .val (.int p4), .val (.int p5), .val (.int (1 : Int32)), .val (.ref b110), .val (.int (0 : Int32))] [(.ref b110)])) (fun _ k => XS.aload X110.here hx rfl (hb hby d11_93) rfl rfl k) ?_
  refine Rch.go (U' := T110.setTop (mkF m 97 #[.val (.int (8 : Int32)), .val (.int p2), .val (.int p3), .val (.int p4), .val (.int p5), .val (.int (1 : Int32)), .val (.ref b110), .val (.int (0 : Int32))] [(.int (0 : Int32)), (.ref b110)])) (fun _ k => XS.iload X110.here hx rfl (hb hby d11_95) rfl  k) ?_
  refine Rch.go (U' := T110.setTop (mkF m 99 #[.val (.int (8 : Int32)), .val (.int p2), .val (.int p3), .val (.int p4), .val (.int p5), .val (.int (1 : Int32)), .val (.ref b110), .val (.int (0 : Int32))] [(.int p5), (.int (0 : Int32)), (.ref b110)])) (fun _ k => XS.iload X110.here hx rfl (hb hby d11_97) rfl  k) ?_
  obtain ⟨c117, Ar117, q117, S117, M117, Hs117, G117⟩ := id V110
  have i117 : ¬ ((0 : Int32) < 0 ∨ c117.slots.size ≤ ((0 : Int32)).toNatClampNeg) := inb_of S117 ⟨by decide, by decide⟩
  obtain ⟨T117, h117, X117, e117, W117, st117⟩ := stI X110 hx hZ e110 Ar117 (j := (0 : Int32)) i117 (g := (mkF m 99 #[.val (.int (8 : Int32)), .val (.int p2), .val (.int p3), .val (.int p4), .val (.int p5), .val (.int (1 : Int32)), .val (.ref b110), .val (.int (0 : Int32))] [(.int p5), (.int (0 : Int32)), (.ref b110)])) rfl rfl (hb hby d11_99)
  have V117 : Arv Z h117 b110 k110 .int (1 : Int32) [(.int p5)] (.int (0 : Int32)) := Arv.set Ar117 q117 S117 M117 Hs117 G117 rfl W117 0 rfl (Nat.le_of_ble_eq_true rfl)
  have N117 := Fr.snoc X117 N0 n0b110
  have z118 := Nat.le_trans z111 (Keep.of_wr W117).1
  have K119 := K112.wr W117 (Or.inr szb110)
  refine Rch.go (U' := T117.setTop (mkF m 100 #[.val (.int (8 : Int32)), .val (.int p2), .val (.int p3), .val (.int p4), .val (.int p5), .val (.int (1 : Int32)), .val (.ref b110), .val (.int (0 : Int32))] [])) st117 ?_
  refine Rch.go (U' := T117.setTop (mkF m 102 #[.val (.int (8 : Int32)), .val (.int p2), .val (.int p3), .val (.int p4), .val (.int p5), .val (.int (1 : Int32)), .val (.ref b110), .val (.int (0 : Int32))] [(.int (0 : Int32))])) (fun _ k => XS.iload X117.here hx rfl (hb hby d11_100) rfl  k) ?_
  refine Rch.go (U' := T117.setTop (mkF m 103 #[.val (.int (8 : Int32)), .val (.int p2), .val (.int p3), .val (.int p4), .val (.int p5), .val (.int (1 : Int32)), .val (.ref b110), .val (.int (0 : Int32))] [(.int (1 : Int32)), (.int (0 : Int32))])) (fun _ k => XS.iconst X117.here hx rfl (hb hby d11_102) k) ?_
  refine Rch.go (U' := T117.setTop (mkF m 104 #[.val (.int (8 : Int32)), .val (.int p2), .val (.int p3), .val (.int p4), .val (.int p5), .val (.int (1 : Int32)), .val (.ref b110), .val (.int (0 : Int32))] [(.int ((0 : Int32) + (1 : Int32)))])) (fun _ k => XS.iadd X117.here hx rfl (hb hby d11_103) rfl k) ?_
  rw [(by decide : ((0 : Int32) + (1 : Int32)) = (1 : Int32))]
  refine Rch.go (U' := T117.setTop (mkF m 106 #[.val (.int (8 : Int32)), .val (.int p2), .val (.int p3), .val (.int p4), .val (.int p5), .val (.int (1 : Int32)), .val (.ref b110), .val (.int (1 : Int32))] [])) (fun _ k => XS.istore X117.here hx rfl (hb hby d11_104) rfl (l' := #[.val (.int (8 : Int32)), .val (.int p2), .val (.int p3), .val (.int p4), .val (.int p5), .val (.int (1 : Int32)), .val (.ref b110), .val (.int (1 : Int32))]) rfl k) ?_
  refine Rch.go (U' := T117.setTop (mkF m 108 #[.val (.int (8 : Int32)), .val (.int p2), .val (.int p3), .val (.int p4), .val (.int p5), .val (.int (1 : Int32)), .val (.ref b110), .val (.int (1 : Int32))] [(.ref b110)])) (fun _ k => XS.aload X117.here hx rfl (hb hby d11_106) rfl rfl k) ?_
  refine Rch.fin X117 hlk (v := some (.ref b110)) (fun h => by rw [hret] at h; cases h) e117 (by decide) (by decide) (fun fs hr => retOut X117 hx hret rfl (Or.inr (Or.inr (Or.inr (Or.inr ⟨rfl, rfl, rfl⟩)))) (hb hby d11_108) hr) ?_
  exact ⟨b110, k110, rfl, N117, K119, n0b110, szb110, by rw [own_s8]; exact V117⟩
theorem own_s9 (p2 p3 p4 p5 : Int32) : own_sub 9 p2 p3 p4 p5 = [p2, p5] := rfl
set_option maxRecDepth 65536 in
set_option maxHeartbeats 40000000 in
theorem sub9 {p : Program} {l : Launch} {e : Env} {s : State} {m : MethodId} {args : Array Value} {below : List Frame} {meth : Method} {c : Code} {T0 : State} {locs : List Loc} {Z : State} {a0 : Array Value} {h0 : Heap} {n0 : Nat}  (p2 : Int32) (p3 : Int32) (p4 : Int32) (p5 : Int32)
    (X0 : Stand p l e ({ frames := 0, cells := 1, slots := 4, locals := 0 } : Room) s m args below meth c T0 locs 0 0) (hx : p.tables.exec = Jvm.exec) (hZ : Z.Warmed39 s.vm) (hw : ∀ d ∈ tables_1, d.before a0 Z = true) (hby : c.code = method_2_code) (hml : c.maxLocals = 8) (hown : s.vm.findClass "com/example/fixpoints_of_behaviour/fixpointsofbehaviour/bisimulation/RefusalsHoldsPinLaw" = some m.cls) (hret : meth.sig.returnType = some (.array .int)) (hlk : meth.locks = false) (e0 : T0.heap = h0) (N0 : Fr n0 locs) (Z0 : n0 ≤ h0.size)  :
    Rch p e below (Fin s below (fun v h L => ∃ (b : Addr) (kb : ClassId), v = some (.ref b) ∧ Fr n0 L ∧ Keep h0 h [] ∧ n0 ≤ b ∧ h0.size ≤ b ∧ Arv Z h b kb .int (Int32.ofNat (own_sub 9 p2 p3 p4 p5).length) ((own_sub 9 p2 p3 p4 p5).map Value.int) (.int (0 : Int32))) 1 4) (T0.setTop (mkF m 0 #[.val (.int (9 : Int32)), .val (.int p2), .val (.int p3), .val (.int p4), .val (.int p5), .unset, .unset, .unset] [])) := by
  refine Rch.go (U' := T0.setTop (mkF m 1 #[.val (.int (9 : Int32)), .val (.int p2), .val (.int p3), .val (.int p4), .val (.int p5), .unset, .unset, .unset] [(.int (9 : Int32))])) (fun _ k => XS.iloadN X0.here hx rfl (hb hby d11_0) rfl  k) ?_
  refine Rch.go (U' := T0.setTop (mkF m 2 #[.val (.int (9 : Int32)), .val (.int p2), .val (.int p3), .val (.int p4), .val (.int p5), .unset, .unset, .unset] [(.int (1 : Int32)), (.int (9 : Int32))])) (fun _ k => XS.iconst X0.here hx rfl (hb hby d11_1) k) ?_
  refine Rch.go (U' := T0.setTop (mkF m 3 #[.val (.int (9 : Int32)), .val (.int p2), .val (.int p3), .val (.int p4), .val (.int p5), .unset, .unset, .unset] [(.int ((9 : Int32) &&& (1 : Int32)))])) (fun _ k => XS.iand X0.here hx rfl (hb hby d11_2) rfl k) ?_
  rw [(by decide : ((9 : Int32) &&& (1 : Int32)) = (1 : Int32))]
  refine Rch.go (U' := T0.setTop (mkF m 4 #[.val (.int (9 : Int32)), .val (.int p2), .val (.int p3), .val (.int p4), .val (.int p5), .unset, .unset, .unset] [(.int (9 : Int32)), (.int (1 : Int32))])) (fun _ k => XS.iloadN X0.here hx rfl (hb hby d11_3) rfl  k) ?_
  refine Rch.go (U' := T0.setTop (mkF m 5 #[.val (.int (9 : Int32)), .val (.int p2), .val (.int p3), .val (.int p4), .val (.int p5), .unset, .unset, .unset] [(.int (1 : Int32)), (.int (9 : Int32)), (.int (1 : Int32))])) (fun _ k => XS.iconst X0.here hx rfl (hb hby d11_4) k) ?_
  refine Rch.go (U' := T0.setTop (mkF m 6 #[.val (.int (9 : Int32)), .val (.int p2), .val (.int p3), .val (.int p4), .val (.int p5), .unset, .unset, .unset] [(.int ((9 : Int32) >>> ((1 : Int32) &&& 31))), (.int (1 : Int32))])) (fun _ k => XS.ishr X0.here hx rfl (hb hby d11_5) rfl k) ?_
  rw [(by decide : ((9 : Int32) >>> ((1 : Int32) &&& 31)) = (4 : Int32))]
  refine Rch.go (U' := T0.setTop (mkF m 7 #[.val (.int (9 : Int32)), .val (.int p2), .val (.int p3), .val (.int p4), .val (.int p5), .unset, .unset, .unset] [(.int (1 : Int32)), (.int (4 : Int32)), (.int (1 : Int32))])) (fun _ k => XS.iconst X0.here hx rfl (hb hby d11_6) k) ?_
  refine Rch.go (U' := T0.setTop (mkF m 8 #[.val (.int (9 : Int32)), .val (.int p2), .val (.int p3), .val (.int p4), .val (.int p5), .unset, .unset, .unset] [(.int ((4 : Int32) &&& (1 : Int32))), (.int (1 : Int32))])) (fun _ k => XS.iand X0.here hx rfl (hb hby d11_7) rfl k) ?_
  rw [(by decide : ((4 : Int32) &&& (1 : Int32)) = (0 : Int32))]
  refine Rch.go (U' := T0.setTop (mkF m 9 #[.val (.int (9 : Int32)), .val (.int p2), .val (.int p3), .val (.int p4), .val (.int p5), .unset, .unset, .unset] [(.int ((1 : Int32) + (0 : Int32)))])) (fun _ k => XS.iadd X0.here hx rfl (hb hby d11_8) rfl k) ?_
  rw [(by decide : ((1 : Int32) + (0 : Int32)) = (1 : Int32))]
  refine Rch.go (U' := T0.setTop (mkF m 10 #[.val (.int (9 : Int32)), .val (.int p2), .val (.int p3), .val (.int p4), .val (.int p5), .unset, .unset, .unset] [(.int (9 : Int32)), (.int (1 : Int32))])) (fun _ k => XS.iloadN X0.here hx rfl (hb hby d11_9) rfl  k) ?_
  refine Rch.go (U' := T0.setTop (mkF m 11 #[.val (.int (9 : Int32)), .val (.int p2), .val (.int p3), .val (.int p4), .val (.int p5), .unset, .unset, .unset] [(.int (2 : Int32)), (.int (9 : Int32)), (.int (1 : Int32))])) (fun _ k => XS.iconst X0.here hx rfl (hb hby d11_10) k) ?_
  refine Rch.go (U' := T0.setTop (mkF m 12 #[.val (.int (9 : Int32)), .val (.int p2), .val (.int p3), .val (.int p4), .val (.int p5), .unset, .unset, .unset] [(.int ((9 : Int32) >>> ((2 : Int32) &&& 31))), (.int (1 : Int32))])) (fun _ k => XS.ishr X0.here hx rfl (hb hby d11_11) rfl k) ?_
  rw [(by decide : ((9 : Int32) >>> ((2 : Int32) &&& 31)) = (2 : Int32))]
  refine Rch.go (U' := T0.setTop (mkF m 13 #[.val (.int (9 : Int32)), .val (.int p2), .val (.int p3), .val (.int p4), .val (.int p5), .unset, .unset, .unset] [(.int (1 : Int32)), (.int (2 : Int32)), (.int (1 : Int32))])) (fun _ k => XS.iconst X0.here hx rfl (hb hby d11_12) k) ?_
  refine Rch.go (U' := T0.setTop (mkF m 14 #[.val (.int (9 : Int32)), .val (.int p2), .val (.int p3), .val (.int p4), .val (.int p5), .unset, .unset, .unset] [(.int ((2 : Int32) &&& (1 : Int32))), (.int (1 : Int32))])) (fun _ k => XS.iand X0.here hx rfl (hb hby d11_13) rfl k) ?_
  rw [(by decide : ((2 : Int32) &&& (1 : Int32)) = (0 : Int32))]
  refine Rch.go (U' := T0.setTop (mkF m 15 #[.val (.int (9 : Int32)), .val (.int p2), .val (.int p3), .val (.int p4), .val (.int p5), .unset, .unset, .unset] [(.int ((1 : Int32) + (0 : Int32)))])) (fun _ k => XS.iadd X0.here hx rfl (hb hby d11_14) rfl k) ?_
  rw [(by decide : ((1 : Int32) + (0 : Int32)) = (1 : Int32))]
  refine Rch.go (U' := T0.setTop (mkF m 16 #[.val (.int (9 : Int32)), .val (.int p2), .val (.int p3), .val (.int p4), .val (.int p5), .unset, .unset, .unset] [(.int (9 : Int32)), (.int (1 : Int32))])) (fun _ k => XS.iloadN X0.here hx rfl (hb hby d11_15) rfl  k) ?_
  refine Rch.go (U' := T0.setTop (mkF m 17 #[.val (.int (9 : Int32)), .val (.int p2), .val (.int p3), .val (.int p4), .val (.int p5), .unset, .unset, .unset] [(.int (3 : Int32)), (.int (9 : Int32)), (.int (1 : Int32))])) (fun _ k => XS.iconst X0.here hx rfl (hb hby d11_16) k) ?_
  refine Rch.go (U' := T0.setTop (mkF m 18 #[.val (.int (9 : Int32)), .val (.int p2), .val (.int p3), .val (.int p4), .val (.int p5), .unset, .unset, .unset] [(.int ((9 : Int32) >>> ((3 : Int32) &&& 31))), (.int (1 : Int32))])) (fun _ k => XS.ishr X0.here hx rfl (hb hby d11_17) rfl k) ?_
  rw [(by decide : ((9 : Int32) >>> ((3 : Int32) &&& 31)) = (1 : Int32))]
  refine Rch.go (U' := T0.setTop (mkF m 19 #[.val (.int (9 : Int32)), .val (.int p2), .val (.int p3), .val (.int p4), .val (.int p5), .unset, .unset, .unset] [(.int (1 : Int32)), (.int (1 : Int32)), (.int (1 : Int32))])) (fun _ k => XS.iconst X0.here hx rfl (hb hby d11_18) k) ?_
  refine Rch.go (U' := T0.setTop (mkF m 20 #[.val (.int (9 : Int32)), .val (.int p2), .val (.int p3), .val (.int p4), .val (.int p5), .unset, .unset, .unset] [(.int ((1 : Int32) &&& (1 : Int32))), (.int (1 : Int32))])) (fun _ k => XS.iand X0.here hx rfl (hb hby d11_19) rfl k) ?_
  rw [(by decide : ((1 : Int32) &&& (1 : Int32)) = (1 : Int32))]
  refine Rch.go (U' := T0.setTop (mkF m 21 #[.val (.int (9 : Int32)), .val (.int p2), .val (.int p3), .val (.int p4), .val (.int p5), .unset, .unset, .unset] [(.int ((1 : Int32) + (1 : Int32)))])) (fun _ k => XS.iadd X0.here hx rfl (hb hby d11_20) rfl k) ?_
  rw [(by decide : ((1 : Int32) + (1 : Int32)) = (2 : Int32))]
  refine Rch.go (U' := T0.setTop (mkF m 23 #[.val (.int (9 : Int32)), .val (.int p2), .val (.int p3), .val (.int p4), .val (.int p5), .val (.int (2 : Int32)), .unset, .unset] [])) (fun _ k => XS.istore X0.here hx rfl (hb hby d11_21) rfl (l' := #[.val (.int (9 : Int32)), .val (.int p2), .val (.int p3), .val (.int p4), .val (.int p5), .val (.int (2 : Int32)), .unset, .unset]) rfl k) ?_
  refine Rch.go (U' := T0.setTop (mkF m 25 #[.val (.int (9 : Int32)), .val (.int p2), .val (.int p3), .val (.int p4), .val (.int p5), .val (.int (2 : Int32)), .unset, .unset] [(.int (2 : Int32))])) (fun _ k => XS.iload X0.here hx rfl (hb hby d11_23) rfl  k) ?_
  obtain ⟨T120, h120, k120, X120, e120, E120, A120, st120⟩ := newP X0 hx hZ (wi hw 12 rfl) e0 (g := (mkF m 25 #[.val (.int (9 : Int32)), .val (.int p2), .val (.int p3), .val (.int p4), .val (.int p5), .val (.int (2 : Int32)), .unset, .unset] [(.int (2 : Int32))])) rfl (hb hby d11_25) rfl (by decide) (cap := 2) (by decide) (by decide) (by decide) (by decide)
  obtain ⟨b120, g120⟩ : ∃ z, z = h0.size := ⟨_, rfl⟩
  rw [← g120] at A120 st120
  have n0b120 : n0 ≤ b120 := Nat.le_trans Z0 (Nat.le_of_eq g120.symm)
  have szb120 : h0.size ≤ b120 := Nat.le_trans (Keep.refl h0 []).1 (Nat.le_of_eq g120.symm)
  have z121 := Nat.le_trans Z0 E120.1
  have K122 := (Keep.refl h0 []).ext E120
  have V120 : Arv Z h120 b120 k120 .int (2 : Int32) [(.int (0 : Int32)), (.int (0 : Int32))] (.int (0 : Int32)) := (Arv.new A120 (by decide)).pad (pad_rep [] (.int (0 : Int32)) 2)
  refine Rch.go (U' := T120.setTop (mkF m 27 #[.val (.int (9 : Int32)), .val (.int p2), .val (.int p3), .val (.int p4), .val (.int p5), .val (.int (2 : Int32)), .unset, .unset] [(.ref b120)])) st120 ?_
  refine Rch.go (U' := T120.setTop (mkF m 29 #[.val (.int (9 : Int32)), .val (.int p2), .val (.int p3), .val (.int p4), .val (.int p5), .val (.int (2 : Int32)), .val (.ref b120), .unset] [])) (fun _ k => XS.astore X120.here hx rfl (hb hby d11_27) rfl rfl (l' := #[.val (.int (9 : Int32)), .val (.int p2), .val (.int p3), .val (.int p4), .val (.int p5), .val (.int (2 : Int32)), .val (.ref b120), .unset]) rfl k) ?_
  refine Rch.go (U' := T120.setTop (mkF m 30 #[.val (.int (9 : Int32)), .val (.int p2), .val (.int p3), .val (.int p4), .val (.int p5), .val (.int (2 : Int32)), .val (.ref b120), .unset] [(.int (0 : Int32))])) (fun _ k => XS.iconst X120.here hx rfl (hb hby d11_29) k) ?_
  refine Rch.go (U' := T120.setTop (mkF m 32 #[.val (.int (9 : Int32)), .val (.int p2), .val (.int p3), .val (.int p4), .val (.int p5), .val (.int (2 : Int32)), .val (.ref b120), .val (.int (0 : Int32))] [])) (fun _ k => XS.istore X120.here hx rfl (hb hby d11_30) rfl (l' := #[.val (.int (9 : Int32)), .val (.int p2), .val (.int p3), .val (.int p4), .val (.int p5), .val (.int (2 : Int32)), .val (.ref b120), .val (.int (0 : Int32))]) rfl k) ?_
  refine Rch.go (U' := T120.setTop (mkF m 33 #[.val (.int (9 : Int32)), .val (.int p2), .val (.int p3), .val (.int p4), .val (.int p5), .val (.int (2 : Int32)), .val (.ref b120), .val (.int (0 : Int32))] [(.int (9 : Int32))])) (fun _ k => XS.iloadN X120.here hx rfl (hb hby d11_32) rfl  k) ?_
  refine Rch.go (U' := T120.setTop (mkF m 34 #[.val (.int (9 : Int32)), .val (.int p2), .val (.int p3), .val (.int p4), .val (.int p5), .val (.int (2 : Int32)), .val (.ref b120), .val (.int (0 : Int32))] [(.int (1 : Int32)), (.int (9 : Int32))])) (fun _ k => XS.iconst X120.here hx rfl (hb hby d11_33) k) ?_
  refine Rch.go (U' := T120.setTop (mkF m 35 #[.val (.int (9 : Int32)), .val (.int p2), .val (.int p3), .val (.int p4), .val (.int p5), .val (.int (2 : Int32)), .val (.ref b120), .val (.int (0 : Int32))] [(.int ((9 : Int32) &&& (1 : Int32)))])) (fun _ k => XS.iand X120.here hx rfl (hb hby d11_34) rfl k) ?_
  rw [(by decide : ((9 : Int32) &&& (1 : Int32)) = (1 : Int32))]
  have br123 : ¬ ((1 : Int32) = (0 : Int32)) := (by decide)
  refine Rch.go (U' := T120.setTop (mkF m 38 #[.val (.int (9 : Int32)), .val (.int p2), .val (.int p3), .val (.int p4), .val (.int p5), .val (.int (2 : Int32)), .val (.ref b120), .val (.int (0 : Int32))] [])) (fun _ k => XS.ifNo X120.here hx rfl (hb hby d11_35) rfl (XT.i0_eq_f br123) k) ?_
  refine Rch.go (U' := T120.setTop (mkF m 40 #[.val (.int (9 : Int32)), .val (.int p2), .val (.int p3), .val (.int p4), .val (.int p5), .val (.int (2 : Int32)), .val (.ref b120), .val (.int (0 : Int32))] [(.ref b120)])) (fun _ k => XS.aload X120.here hx rfl (hb hby d11_38) rfl rfl k) ?_
  refine Rch.go (U' := T120.setTop (mkF m 42 #[.val (.int (9 : Int32)), .val (.int p2), .val (.int p3), .val (.int p4), .val (.int p5), .val (.int (2 : Int32)), .val (.ref b120), .val (.int (0 : Int32))] [(.int (0 : Int32)), (.ref b120)])) (fun _ k => XS.iload X120.here hx rfl (hb hby d11_40) rfl  k) ?_
  refine Rch.go (U' := T120.setTop (mkF m 43 #[.val (.int (9 : Int32)), .val (.int p2), .val (.int p3), .val (.int p4), .val (.int p5), .val (.int (2 : Int32)), .val (.ref b120), .val (.int (0 : Int32))] [(.int p2), (.int (0 : Int32)), (.ref b120)])) (fun _ k => XS.iloadN X120.here hx rfl (hb hby d11_42) rfl  k) ?_
  obtain ⟨c124, Ar124, q124, S124, M124, Hs124, G124⟩ := id V120
  have i124 : ¬ ((0 : Int32) < 0 ∨ c124.slots.size ≤ ((0 : Int32)).toNatClampNeg) := inb_of S124 ⟨by decide, by decide⟩
  obtain ⟨T124, h124, X124, e124, W124, st124⟩ := stI X120 hx hZ e120 Ar124 (j := (0 : Int32)) i124 (g := (mkF m 43 #[.val (.int (9 : Int32)), .val (.int p2), .val (.int p3), .val (.int p4), .val (.int p5), .val (.int (2 : Int32)), .val (.ref b120), .val (.int (0 : Int32))] [(.int p2), (.int (0 : Int32)), (.ref b120)])) rfl rfl (hb hby d11_43)
  have V124 : Arv Z h124 b120 k120 .int (2 : Int32) [(.int p2), (.int (0 : Int32))] (.int (0 : Int32)) := Arv.set Ar124 q124 S124 M124 Hs124 G124 rfl W124 0 rfl (Nat.le_of_ble_eq_true rfl)
  have N124 := Fr.snoc X124 N0 n0b120
  have z125 := Nat.le_trans z121 (Keep.of_wr W124).1
  have K126 := K122.wr W124 (Or.inr szb120)
  refine Rch.go (U' := T124.setTop (mkF m 44 #[.val (.int (9 : Int32)), .val (.int p2), .val (.int p3), .val (.int p4), .val (.int p5), .val (.int (2 : Int32)), .val (.ref b120), .val (.int (0 : Int32))] [])) st124 ?_
  refine Rch.go (U' := T124.setTop (mkF m 46 #[.val (.int (9 : Int32)), .val (.int p2), .val (.int p3), .val (.int p4), .val (.int p5), .val (.int (2 : Int32)), .val (.ref b120), .val (.int (0 : Int32))] [(.int (0 : Int32))])) (fun _ k => XS.iload X124.here hx rfl (hb hby d11_44) rfl  k) ?_
  refine Rch.go (U' := T124.setTop (mkF m 47 #[.val (.int (9 : Int32)), .val (.int p2), .val (.int p3), .val (.int p4), .val (.int p5), .val (.int (2 : Int32)), .val (.ref b120), .val (.int (0 : Int32))] [(.int (1 : Int32)), (.int (0 : Int32))])) (fun _ k => XS.iconst X124.here hx rfl (hb hby d11_46) k) ?_
  refine Rch.go (U' := T124.setTop (mkF m 48 #[.val (.int (9 : Int32)), .val (.int p2), .val (.int p3), .val (.int p4), .val (.int p5), .val (.int (2 : Int32)), .val (.ref b120), .val (.int (0 : Int32))] [(.int ((0 : Int32) + (1 : Int32)))])) (fun _ k => XS.iadd X124.here hx rfl (hb hby d11_47) rfl k) ?_
  rw [(by decide : ((0 : Int32) + (1 : Int32)) = (1 : Int32))]
  refine Rch.go (U' := T124.setTop (mkF m 50 #[.val (.int (9 : Int32)), .val (.int p2), .val (.int p3), .val (.int p4), .val (.int p5), .val (.int (2 : Int32)), .val (.ref b120), .val (.int (1 : Int32))] [])) (fun _ k => XS.istore X124.here hx rfl (hb hby d11_48) rfl (l' := #[.val (.int (9 : Int32)), .val (.int p2), .val (.int p3), .val (.int p4), .val (.int p5), .val (.int (2 : Int32)), .val (.ref b120), .val (.int (1 : Int32))]) rfl k) ?_
  refine Rch.go (U' := T124.setTop (mkF m 51 #[.val (.int (9 : Int32)), .val (.int p2), .val (.int p3), .val (.int p4), .val (.int p5), .val (.int (2 : Int32)), .val (.ref b120), .val (.int (1 : Int32))] [(.int (9 : Int32))])) (fun _ k => XS.iloadN X124.here hx rfl (hb hby d11_50) rfl  k) ?_
  refine Rch.go (U' := T124.setTop (mkF m 52 #[.val (.int (9 : Int32)), .val (.int p2), .val (.int p3), .val (.int p4), .val (.int p5), .val (.int (2 : Int32)), .val (.ref b120), .val (.int (1 : Int32))] [(.int (2 : Int32)), (.int (9 : Int32))])) (fun _ k => XS.iconst X124.here hx rfl (hb hby d11_51) k) ?_
  refine Rch.go (U' := T124.setTop (mkF m 53 #[.val (.int (9 : Int32)), .val (.int p2), .val (.int p3), .val (.int p4), .val (.int p5), .val (.int (2 : Int32)), .val (.ref b120), .val (.int (1 : Int32))] [(.int ((9 : Int32) &&& (2 : Int32)))])) (fun _ k => XS.iand X124.here hx rfl (hb hby d11_52) rfl k) ?_
  rw [(by decide : ((9 : Int32) &&& (2 : Int32)) = (0 : Int32))]
  have br127 : (0 : Int32) = (0 : Int32) := (by decide)
  refine Rch.go (U' := T124.setTop (mkF m 68 #[.val (.int (9 : Int32)), .val (.int p2), .val (.int p3), .val (.int p4), .val (.int p5), .val (.int (2 : Int32)), .val (.ref b120), .val (.int (1 : Int32))] [])) (fun _ k => XS.ifYes X124.here hx rfl (pc0 := 53) (pc' := 68) rfl (hb hby d11_53) rfl (XT.i0_eq_t br127) (by decide) (by decide) k) ?_
  refine Rch.go (U' := T124.setTop (mkF m 69 #[.val (.int (9 : Int32)), .val (.int p2), .val (.int p3), .val (.int p4), .val (.int p5), .val (.int (2 : Int32)), .val (.ref b120), .val (.int (1 : Int32))] [(.int (9 : Int32))])) (fun _ k => XS.iloadN X124.here hx rfl (hb hby d11_68) rfl  k) ?_
  refine Rch.go (U' := T124.setTop (mkF m 70 #[.val (.int (9 : Int32)), .val (.int p2), .val (.int p3), .val (.int p4), .val (.int p5), .val (.int (2 : Int32)), .val (.ref b120), .val (.int (1 : Int32))] [(.int (4 : Int32)), (.int (9 : Int32))])) (fun _ k => XS.iconst X124.here hx rfl (hb hby d11_69) k) ?_
  refine Rch.go (U' := T124.setTop (mkF m 71 #[.val (.int (9 : Int32)), .val (.int p2), .val (.int p3), .val (.int p4), .val (.int p5), .val (.int (2 : Int32)), .val (.ref b120), .val (.int (1 : Int32))] [(.int ((9 : Int32) &&& (4 : Int32)))])) (fun _ k => XS.iand X124.here hx rfl (hb hby d11_70) rfl k) ?_
  rw [(by decide : ((9 : Int32) &&& (4 : Int32)) = (0 : Int32))]
  have br128 : (0 : Int32) = (0 : Int32) := (by decide)
  refine Rch.go (U' := T124.setTop (mkF m 86 #[.val (.int (9 : Int32)), .val (.int p2), .val (.int p3), .val (.int p4), .val (.int p5), .val (.int (2 : Int32)), .val (.ref b120), .val (.int (1 : Int32))] [])) (fun _ k => XS.ifYes X124.here hx rfl (pc0 := 71) (pc' := 86) rfl (hb hby d11_71) rfl (XT.i0_eq_t br128) (by decide) (by decide) k) ?_
  refine Rch.go (U' := T124.setTop (mkF m 87 #[.val (.int (9 : Int32)), .val (.int p2), .val (.int p3), .val (.int p4), .val (.int p5), .val (.int (2 : Int32)), .val (.ref b120), .val (.int (1 : Int32))] [(.int (9 : Int32))])) (fun _ k => XS.iloadN X124.here hx rfl (hb hby d11_86) rfl  k) ?_
  refine Rch.go (U' := T124.setTop (mkF m 89 #[.val (.int (9 : Int32)), .val (.int p2), .val (.int p3), .val (.int p4), .val (.int p5), .val (.int (2 : Int32)), .val (.ref b120), .val (.int (1 : Int32))] [(.int (8 : Int32)), (.int (9 : Int32))])) (fun _ k => XS.bipush X124.here hx rfl (hb hby d11_87) k) ?_
  refine Rch.go (U' := T124.setTop (mkF m 90 #[.val (.int (9 : Int32)), .val (.int p2), .val (.int p3), .val (.int p4), .val (.int p5), .val (.int (2 : Int32)), .val (.ref b120), .val (.int (1 : Int32))] [(.int ((9 : Int32) &&& (8 : Int32)))])) (fun _ k => XS.iand X124.here hx rfl (hb hby d11_89) rfl k) ?_
  rw [(by decide : ((9 : Int32) &&& (8 : Int32)) = (8 : Int32))]
  have br129 : ¬ ((8 : Int32) = (0 : Int32)) := (by decide)
  refine Rch.go (U' := T124.setTop (mkF m 93 #[.val (.int (9 : Int32)), .val (.int p2), .val (.int p3), .val (.int p4), .val (.int p5), .val (.int (2 : Int32)), .val (.ref b120), .val (.int (1 : Int32))] [])) (fun _ k => XS.ifNo X124.here hx rfl (hb hby d11_90) rfl (XT.i0_eq_f br129) k) ?_
  refine Rch.go (U' := T124.setTop (mkF m 95 #[.val (.int (9 : Int32)), .val (.int p2), .val (.int p3), .val (.int p4), .val (.int p5), .val (.int (2 : Int32)), .val (.ref b120), .val (.int (1 : Int32))] [(.ref b120)])) (fun _ k => XS.aload X124.here hx rfl (hb hby d11_93) rfl rfl k) ?_
  refine Rch.go (U' := T124.setTop (mkF m 97 #[.val (.int (9 : Int32)), .val (.int p2), .val (.int p3), .val (.int p4), .val (.int p5), .val (.int (2 : Int32)), .val (.ref b120), .val (.int (1 : Int32))] [(.int (1 : Int32)), (.ref b120)])) (fun _ k => XS.iload X124.here hx rfl (hb hby d11_95) rfl  k) ?_
  refine Rch.go (U' := T124.setTop (mkF m 99 #[.val (.int (9 : Int32)), .val (.int p2), .val (.int p3), .val (.int p4), .val (.int p5), .val (.int (2 : Int32)), .val (.ref b120), .val (.int (1 : Int32))] [(.int p5), (.int (1 : Int32)), (.ref b120)])) (fun _ k => XS.iload X124.here hx rfl (hb hby d11_97) rfl  k) ?_
  obtain ⟨c130, Ar130, q130, S130, M130, Hs130, G130⟩ := id V124
  have i130 : ¬ ((1 : Int32) < 0 ∨ c130.slots.size ≤ ((1 : Int32)).toNatClampNeg) := inb_of S130 ⟨by decide, by decide⟩
  obtain ⟨T130, h130, X130, e130, W130, st130⟩ := stI X124 hx hZ e124 Ar130 (j := (1 : Int32)) i130 (g := (mkF m 99 #[.val (.int (9 : Int32)), .val (.int p2), .val (.int p3), .val (.int p4), .val (.int p5), .val (.int (2 : Int32)), .val (.ref b120), .val (.int (1 : Int32))] [(.int p5), (.int (1 : Int32)), (.ref b120)])) rfl rfl (hb hby d11_99)
  have V130 : Arv Z h130 b120 k120 .int (2 : Int32) [(.int p2), (.int p5)] (.int (0 : Int32)) := Arv.set Ar130 q130 S130 M130 Hs130 G130 rfl W130 1 rfl (Nat.le_of_ble_eq_true rfl)
  have N130 := Fr.snoc X130 N124 n0b120
  have z131 := Nat.le_trans z125 (Keep.of_wr W130).1
  have K132 := K126.wr W130 (Or.inr szb120)
  refine Rch.go (U' := T130.setTop (mkF m 100 #[.val (.int (9 : Int32)), .val (.int p2), .val (.int p3), .val (.int p4), .val (.int p5), .val (.int (2 : Int32)), .val (.ref b120), .val (.int (1 : Int32))] [])) st130 ?_
  refine Rch.go (U' := T130.setTop (mkF m 102 #[.val (.int (9 : Int32)), .val (.int p2), .val (.int p3), .val (.int p4), .val (.int p5), .val (.int (2 : Int32)), .val (.ref b120), .val (.int (1 : Int32))] [(.int (1 : Int32))])) (fun _ k => XS.iload X130.here hx rfl (hb hby d11_100) rfl  k) ?_
  refine Rch.go (U' := T130.setTop (mkF m 103 #[.val (.int (9 : Int32)), .val (.int p2), .val (.int p3), .val (.int p4), .val (.int p5), .val (.int (2 : Int32)), .val (.ref b120), .val (.int (1 : Int32))] [(.int (1 : Int32)), (.int (1 : Int32))])) (fun _ k => XS.iconst X130.here hx rfl (hb hby d11_102) k) ?_
  refine Rch.go (U' := T130.setTop (mkF m 104 #[.val (.int (9 : Int32)), .val (.int p2), .val (.int p3), .val (.int p4), .val (.int p5), .val (.int (2 : Int32)), .val (.ref b120), .val (.int (1 : Int32))] [(.int ((1 : Int32) + (1 : Int32)))])) (fun _ k => XS.iadd X130.here hx rfl (hb hby d11_103) rfl k) ?_
  rw [(by decide : ((1 : Int32) + (1 : Int32)) = (2 : Int32))]
  refine Rch.go (U' := T130.setTop (mkF m 106 #[.val (.int (9 : Int32)), .val (.int p2), .val (.int p3), .val (.int p4), .val (.int p5), .val (.int (2 : Int32)), .val (.ref b120), .val (.int (2 : Int32))] [])) (fun _ k => XS.istore X130.here hx rfl (hb hby d11_104) rfl (l' := #[.val (.int (9 : Int32)), .val (.int p2), .val (.int p3), .val (.int p4), .val (.int p5), .val (.int (2 : Int32)), .val (.ref b120), .val (.int (2 : Int32))]) rfl k) ?_
  refine Rch.go (U' := T130.setTop (mkF m 108 #[.val (.int (9 : Int32)), .val (.int p2), .val (.int p3), .val (.int p4), .val (.int p5), .val (.int (2 : Int32)), .val (.ref b120), .val (.int (2 : Int32))] [(.ref b120)])) (fun _ k => XS.aload X130.here hx rfl (hb hby d11_106) rfl rfl k) ?_
  refine Rch.fin X130 hlk (v := some (.ref b120)) (fun h => by rw [hret] at h; cases h) e130 (by decide) (by decide) (fun fs hr => retOut X130 hx hret rfl (Or.inr (Or.inr (Or.inr (Or.inr ⟨rfl, rfl, rfl⟩)))) (hb hby d11_108) hr) ?_
  exact ⟨b120, k120, rfl, N130, K132, n0b120, szb120, by rw [own_s9]; exact V130⟩
theorem own_s10 (p2 p3 p4 p5 : Int32) : own_sub 10 p2 p3 p4 p5 = [p3, p5] := rfl
set_option maxRecDepth 65536 in
set_option maxHeartbeats 40000000 in
theorem sub10 {p : Program} {l : Launch} {e : Env} {s : State} {m : MethodId} {args : Array Value} {below : List Frame} {meth : Method} {c : Code} {T0 : State} {locs : List Loc} {Z : State} {a0 : Array Value} {h0 : Heap} {n0 : Nat}  (p2 : Int32) (p3 : Int32) (p4 : Int32) (p5 : Int32)
    (X0 : Stand p l e ({ frames := 0, cells := 1, slots := 4, locals := 0 } : Room) s m args below meth c T0 locs 0 0) (hx : p.tables.exec = Jvm.exec) (hZ : Z.Warmed39 s.vm) (hw : ∀ d ∈ tables_1, d.before a0 Z = true) (hby : c.code = method_2_code) (hml : c.maxLocals = 8) (hown : s.vm.findClass "com/example/fixpoints_of_behaviour/fixpointsofbehaviour/bisimulation/RefusalsHoldsPinLaw" = some m.cls) (hret : meth.sig.returnType = some (.array .int)) (hlk : meth.locks = false) (e0 : T0.heap = h0) (N0 : Fr n0 locs) (Z0 : n0 ≤ h0.size)  :
    Rch p e below (Fin s below (fun v h L => ∃ (b : Addr) (kb : ClassId), v = some (.ref b) ∧ Fr n0 L ∧ Keep h0 h [] ∧ n0 ≤ b ∧ h0.size ≤ b ∧ Arv Z h b kb .int (Int32.ofNat (own_sub 10 p2 p3 p4 p5).length) ((own_sub 10 p2 p3 p4 p5).map Value.int) (.int (0 : Int32))) 1 4) (T0.setTop (mkF m 0 #[.val (.int (10 : Int32)), .val (.int p2), .val (.int p3), .val (.int p4), .val (.int p5), .unset, .unset, .unset] [])) := by
  refine Rch.go (U' := T0.setTop (mkF m 1 #[.val (.int (10 : Int32)), .val (.int p2), .val (.int p3), .val (.int p4), .val (.int p5), .unset, .unset, .unset] [(.int (10 : Int32))])) (fun _ k => XS.iloadN X0.here hx rfl (hb hby d11_0) rfl  k) ?_
  refine Rch.go (U' := T0.setTop (mkF m 2 #[.val (.int (10 : Int32)), .val (.int p2), .val (.int p3), .val (.int p4), .val (.int p5), .unset, .unset, .unset] [(.int (1 : Int32)), (.int (10 : Int32))])) (fun _ k => XS.iconst X0.here hx rfl (hb hby d11_1) k) ?_
  refine Rch.go (U' := T0.setTop (mkF m 3 #[.val (.int (10 : Int32)), .val (.int p2), .val (.int p3), .val (.int p4), .val (.int p5), .unset, .unset, .unset] [(.int ((10 : Int32) &&& (1 : Int32)))])) (fun _ k => XS.iand X0.here hx rfl (hb hby d11_2) rfl k) ?_
  rw [(by decide : ((10 : Int32) &&& (1 : Int32)) = (0 : Int32))]
  refine Rch.go (U' := T0.setTop (mkF m 4 #[.val (.int (10 : Int32)), .val (.int p2), .val (.int p3), .val (.int p4), .val (.int p5), .unset, .unset, .unset] [(.int (10 : Int32)), (.int (0 : Int32))])) (fun _ k => XS.iloadN X0.here hx rfl (hb hby d11_3) rfl  k) ?_
  refine Rch.go (U' := T0.setTop (mkF m 5 #[.val (.int (10 : Int32)), .val (.int p2), .val (.int p3), .val (.int p4), .val (.int p5), .unset, .unset, .unset] [(.int (1 : Int32)), (.int (10 : Int32)), (.int (0 : Int32))])) (fun _ k => XS.iconst X0.here hx rfl (hb hby d11_4) k) ?_
  refine Rch.go (U' := T0.setTop (mkF m 6 #[.val (.int (10 : Int32)), .val (.int p2), .val (.int p3), .val (.int p4), .val (.int p5), .unset, .unset, .unset] [(.int ((10 : Int32) >>> ((1 : Int32) &&& 31))), (.int (0 : Int32))])) (fun _ k => XS.ishr X0.here hx rfl (hb hby d11_5) rfl k) ?_
  rw [(by decide : ((10 : Int32) >>> ((1 : Int32) &&& 31)) = (5 : Int32))]
  refine Rch.go (U' := T0.setTop (mkF m 7 #[.val (.int (10 : Int32)), .val (.int p2), .val (.int p3), .val (.int p4), .val (.int p5), .unset, .unset, .unset] [(.int (1 : Int32)), (.int (5 : Int32)), (.int (0 : Int32))])) (fun _ k => XS.iconst X0.here hx rfl (hb hby d11_6) k) ?_
  refine Rch.go (U' := T0.setTop (mkF m 8 #[.val (.int (10 : Int32)), .val (.int p2), .val (.int p3), .val (.int p4), .val (.int p5), .unset, .unset, .unset] [(.int ((5 : Int32) &&& (1 : Int32))), (.int (0 : Int32))])) (fun _ k => XS.iand X0.here hx rfl (hb hby d11_7) rfl k) ?_
  rw [(by decide : ((5 : Int32) &&& (1 : Int32)) = (1 : Int32))]
  refine Rch.go (U' := T0.setTop (mkF m 9 #[.val (.int (10 : Int32)), .val (.int p2), .val (.int p3), .val (.int p4), .val (.int p5), .unset, .unset, .unset] [(.int ((0 : Int32) + (1 : Int32)))])) (fun _ k => XS.iadd X0.here hx rfl (hb hby d11_8) rfl k) ?_
  rw [(by decide : ((0 : Int32) + (1 : Int32)) = (1 : Int32))]
  refine Rch.go (U' := T0.setTop (mkF m 10 #[.val (.int (10 : Int32)), .val (.int p2), .val (.int p3), .val (.int p4), .val (.int p5), .unset, .unset, .unset] [(.int (10 : Int32)), (.int (1 : Int32))])) (fun _ k => XS.iloadN X0.here hx rfl (hb hby d11_9) rfl  k) ?_
  refine Rch.go (U' := T0.setTop (mkF m 11 #[.val (.int (10 : Int32)), .val (.int p2), .val (.int p3), .val (.int p4), .val (.int p5), .unset, .unset, .unset] [(.int (2 : Int32)), (.int (10 : Int32)), (.int (1 : Int32))])) (fun _ k => XS.iconst X0.here hx rfl (hb hby d11_10) k) ?_
  refine Rch.go (U' := T0.setTop (mkF m 12 #[.val (.int (10 : Int32)), .val (.int p2), .val (.int p3), .val (.int p4), .val (.int p5), .unset, .unset, .unset] [(.int ((10 : Int32) >>> ((2 : Int32) &&& 31))), (.int (1 : Int32))])) (fun _ k => XS.ishr X0.here hx rfl (hb hby d11_11) rfl k) ?_
  rw [(by decide : ((10 : Int32) >>> ((2 : Int32) &&& 31)) = (2 : Int32))]
  refine Rch.go (U' := T0.setTop (mkF m 13 #[.val (.int (10 : Int32)), .val (.int p2), .val (.int p3), .val (.int p4), .val (.int p5), .unset, .unset, .unset] [(.int (1 : Int32)), (.int (2 : Int32)), (.int (1 : Int32))])) (fun _ k => XS.iconst X0.here hx rfl (hb hby d11_12) k) ?_
  refine Rch.go (U' := T0.setTop (mkF m 14 #[.val (.int (10 : Int32)), .val (.int p2), .val (.int p3), .val (.int p4), .val (.int p5), .unset, .unset, .unset] [(.int ((2 : Int32) &&& (1 : Int32))), (.int (1 : Int32))])) (fun _ k => XS.iand X0.here hx rfl (hb hby d11_13) rfl k) ?_
  rw [(by decide : ((2 : Int32) &&& (1 : Int32)) = (0 : Int32))]
  refine Rch.go (U' := T0.setTop (mkF m 15 #[.val (.int (10 : Int32)), .val (.int p2), .val (.int p3), .val (.int p4), .val (.int p5), .unset, .unset, .unset] [(.int ((1 : Int32) + (0 : Int32)))])) (fun _ k => XS.iadd X0.here hx rfl (hb hby d11_14) rfl k) ?_
  rw [(by decide : ((1 : Int32) + (0 : Int32)) = (1 : Int32))]
  refine Rch.go (U' := T0.setTop (mkF m 16 #[.val (.int (10 : Int32)), .val (.int p2), .val (.int p3), .val (.int p4), .val (.int p5), .unset, .unset, .unset] [(.int (10 : Int32)), (.int (1 : Int32))])) (fun _ k => XS.iloadN X0.here hx rfl (hb hby d11_15) rfl  k) ?_
  refine Rch.go (U' := T0.setTop (mkF m 17 #[.val (.int (10 : Int32)), .val (.int p2), .val (.int p3), .val (.int p4), .val (.int p5), .unset, .unset, .unset] [(.int (3 : Int32)), (.int (10 : Int32)), (.int (1 : Int32))])) (fun _ k => XS.iconst X0.here hx rfl (hb hby d11_16) k) ?_
  refine Rch.go (U' := T0.setTop (mkF m 18 #[.val (.int (10 : Int32)), .val (.int p2), .val (.int p3), .val (.int p4), .val (.int p5), .unset, .unset, .unset] [(.int ((10 : Int32) >>> ((3 : Int32) &&& 31))), (.int (1 : Int32))])) (fun _ k => XS.ishr X0.here hx rfl (hb hby d11_17) rfl k) ?_
  rw [(by decide : ((10 : Int32) >>> ((3 : Int32) &&& 31)) = (1 : Int32))]
  refine Rch.go (U' := T0.setTop (mkF m 19 #[.val (.int (10 : Int32)), .val (.int p2), .val (.int p3), .val (.int p4), .val (.int p5), .unset, .unset, .unset] [(.int (1 : Int32)), (.int (1 : Int32)), (.int (1 : Int32))])) (fun _ k => XS.iconst X0.here hx rfl (hb hby d11_18) k) ?_
  refine Rch.go (U' := T0.setTop (mkF m 20 #[.val (.int (10 : Int32)), .val (.int p2), .val (.int p3), .val (.int p4), .val (.int p5), .unset, .unset, .unset] [(.int ((1 : Int32) &&& (1 : Int32))), (.int (1 : Int32))])) (fun _ k => XS.iand X0.here hx rfl (hb hby d11_19) rfl k) ?_
  rw [(by decide : ((1 : Int32) &&& (1 : Int32)) = (1 : Int32))]
  refine Rch.go (U' := T0.setTop (mkF m 21 #[.val (.int (10 : Int32)), .val (.int p2), .val (.int p3), .val (.int p4), .val (.int p5), .unset, .unset, .unset] [(.int ((1 : Int32) + (1 : Int32)))])) (fun _ k => XS.iadd X0.here hx rfl (hb hby d11_20) rfl k) ?_
  rw [(by decide : ((1 : Int32) + (1 : Int32)) = (2 : Int32))]
  refine Rch.go (U' := T0.setTop (mkF m 23 #[.val (.int (10 : Int32)), .val (.int p2), .val (.int p3), .val (.int p4), .val (.int p5), .val (.int (2 : Int32)), .unset, .unset] [])) (fun _ k => XS.istore X0.here hx rfl (hb hby d11_21) rfl (l' := #[.val (.int (10 : Int32)), .val (.int p2), .val (.int p3), .val (.int p4), .val (.int p5), .val (.int (2 : Int32)), .unset, .unset]) rfl k) ?_
  refine Rch.go (U' := T0.setTop (mkF m 25 #[.val (.int (10 : Int32)), .val (.int p2), .val (.int p3), .val (.int p4), .val (.int p5), .val (.int (2 : Int32)), .unset, .unset] [(.int (2 : Int32))])) (fun _ k => XS.iload X0.here hx rfl (hb hby d11_23) rfl  k) ?_
  obtain ⟨T133, h133, k133, X133, e133, E133, A133, st133⟩ := newP X0 hx hZ (wi hw 12 rfl) e0 (g := (mkF m 25 #[.val (.int (10 : Int32)), .val (.int p2), .val (.int p3), .val (.int p4), .val (.int p5), .val (.int (2 : Int32)), .unset, .unset] [(.int (2 : Int32))])) rfl (hb hby d11_25) rfl (by decide) (cap := 2) (by decide) (by decide) (by decide) (by decide)
  obtain ⟨b133, g133⟩ : ∃ z, z = h0.size := ⟨_, rfl⟩
  rw [← g133] at A133 st133
  have n0b133 : n0 ≤ b133 := Nat.le_trans Z0 (Nat.le_of_eq g133.symm)
  have szb133 : h0.size ≤ b133 := Nat.le_trans (Keep.refl h0 []).1 (Nat.le_of_eq g133.symm)
  have z134 := Nat.le_trans Z0 E133.1
  have K135 := (Keep.refl h0 []).ext E133
  have V133 : Arv Z h133 b133 k133 .int (2 : Int32) [(.int (0 : Int32)), (.int (0 : Int32))] (.int (0 : Int32)) := (Arv.new A133 (by decide)).pad (pad_rep [] (.int (0 : Int32)) 2)
  refine Rch.go (U' := T133.setTop (mkF m 27 #[.val (.int (10 : Int32)), .val (.int p2), .val (.int p3), .val (.int p4), .val (.int p5), .val (.int (2 : Int32)), .unset, .unset] [(.ref b133)])) st133 ?_
  refine Rch.go (U' := T133.setTop (mkF m 29 #[.val (.int (10 : Int32)), .val (.int p2), .val (.int p3), .val (.int p4), .val (.int p5), .val (.int (2 : Int32)), .val (.ref b133), .unset] [])) (fun _ k => XS.astore X133.here hx rfl (hb hby d11_27) rfl rfl (l' := #[.val (.int (10 : Int32)), .val (.int p2), .val (.int p3), .val (.int p4), .val (.int p5), .val (.int (2 : Int32)), .val (.ref b133), .unset]) rfl k) ?_
  refine Rch.go (U' := T133.setTop (mkF m 30 #[.val (.int (10 : Int32)), .val (.int p2), .val (.int p3), .val (.int p4), .val (.int p5), .val (.int (2 : Int32)), .val (.ref b133), .unset] [(.int (0 : Int32))])) (fun _ k => XS.iconst X133.here hx rfl (hb hby d11_29) k) ?_
  refine Rch.go (U' := T133.setTop (mkF m 32 #[.val (.int (10 : Int32)), .val (.int p2), .val (.int p3), .val (.int p4), .val (.int p5), .val (.int (2 : Int32)), .val (.ref b133), .val (.int (0 : Int32))] [])) (fun _ k => XS.istore X133.here hx rfl (hb hby d11_30) rfl (l' := #[.val (.int (10 : Int32)), .val (.int p2), .val (.int p3), .val (.int p4), .val (.int p5), .val (.int (2 : Int32)), .val (.ref b133), .val (.int (0 : Int32))]) rfl k) ?_
  refine Rch.go (U' := T133.setTop (mkF m 33 #[.val (.int (10 : Int32)), .val (.int p2), .val (.int p3), .val (.int p4), .val (.int p5), .val (.int (2 : Int32)), .val (.ref b133), .val (.int (0 : Int32))] [(.int (10 : Int32))])) (fun _ k => XS.iloadN X133.here hx rfl (hb hby d11_32) rfl  k) ?_
  refine Rch.go (U' := T133.setTop (mkF m 34 #[.val (.int (10 : Int32)), .val (.int p2), .val (.int p3), .val (.int p4), .val (.int p5), .val (.int (2 : Int32)), .val (.ref b133), .val (.int (0 : Int32))] [(.int (1 : Int32)), (.int (10 : Int32))])) (fun _ k => XS.iconst X133.here hx rfl (hb hby d11_33) k) ?_
  refine Rch.go (U' := T133.setTop (mkF m 35 #[.val (.int (10 : Int32)), .val (.int p2), .val (.int p3), .val (.int p4), .val (.int p5), .val (.int (2 : Int32)), .val (.ref b133), .val (.int (0 : Int32))] [(.int ((10 : Int32) &&& (1 : Int32)))])) (fun _ k => XS.iand X133.here hx rfl (hb hby d11_34) rfl k) ?_
  rw [(by decide : ((10 : Int32) &&& (1 : Int32)) = (0 : Int32))]
  have br136 : (0 : Int32) = (0 : Int32) := (by decide)
  refine Rch.go (U' := T133.setTop (mkF m 50 #[.val (.int (10 : Int32)), .val (.int p2), .val (.int p3), .val (.int p4), .val (.int p5), .val (.int (2 : Int32)), .val (.ref b133), .val (.int (0 : Int32))] [])) (fun _ k => XS.ifYes X133.here hx rfl (pc0 := 35) (pc' := 50) rfl (hb hby d11_35) rfl (XT.i0_eq_t br136) (by decide) (by decide) k) ?_
  refine Rch.go (U' := T133.setTop (mkF m 51 #[.val (.int (10 : Int32)), .val (.int p2), .val (.int p3), .val (.int p4), .val (.int p5), .val (.int (2 : Int32)), .val (.ref b133), .val (.int (0 : Int32))] [(.int (10 : Int32))])) (fun _ k => XS.iloadN X133.here hx rfl (hb hby d11_50) rfl  k) ?_
  refine Rch.go (U' := T133.setTop (mkF m 52 #[.val (.int (10 : Int32)), .val (.int p2), .val (.int p3), .val (.int p4), .val (.int p5), .val (.int (2 : Int32)), .val (.ref b133), .val (.int (0 : Int32))] [(.int (2 : Int32)), (.int (10 : Int32))])) (fun _ k => XS.iconst X133.here hx rfl (hb hby d11_51) k) ?_
  refine Rch.go (U' := T133.setTop (mkF m 53 #[.val (.int (10 : Int32)), .val (.int p2), .val (.int p3), .val (.int p4), .val (.int p5), .val (.int (2 : Int32)), .val (.ref b133), .val (.int (0 : Int32))] [(.int ((10 : Int32) &&& (2 : Int32)))])) (fun _ k => XS.iand X133.here hx rfl (hb hby d11_52) rfl k) ?_
  rw [(by decide : ((10 : Int32) &&& (2 : Int32)) = (2 : Int32))]
  have br137 : ¬ ((2 : Int32) = (0 : Int32)) := (by decide)
  refine Rch.go (U' := T133.setTop (mkF m 56 #[.val (.int (10 : Int32)), .val (.int p2), .val (.int p3), .val (.int p4), .val (.int p5), .val (.int (2 : Int32)), .val (.ref b133), .val (.int (0 : Int32))] [])) (fun _ k => XS.ifNo X133.here hx rfl (hb hby d11_53) rfl (XT.i0_eq_f br137) k) ?_
  refine Rch.go (U' := T133.setTop (mkF m 58 #[.val (.int (10 : Int32)), .val (.int p2), .val (.int p3), .val (.int p4), .val (.int p5), .val (.int (2 : Int32)), .val (.ref b133), .val (.int (0 : Int32))] [(.ref b133)])) (fun _ k => XS.aload X133.here hx rfl (hb hby d11_56) rfl rfl k) ?_
  refine Rch.go (U' := T133.setTop (mkF m 60 #[.val (.int (10 : Int32)), .val (.int p2), .val (.int p3), .val (.int p4), .val (.int p5), .val (.int (2 : Int32)), .val (.ref b133), .val (.int (0 : Int32))] [(.int (0 : Int32)), (.ref b133)])) (fun _ k => XS.iload X133.here hx rfl (hb hby d11_58) rfl  k) ?_
  refine Rch.go (U' := T133.setTop (mkF m 61 #[.val (.int (10 : Int32)), .val (.int p2), .val (.int p3), .val (.int p4), .val (.int p5), .val (.int (2 : Int32)), .val (.ref b133), .val (.int (0 : Int32))] [(.int p3), (.int (0 : Int32)), (.ref b133)])) (fun _ k => XS.iloadN X133.here hx rfl (hb hby d11_60) rfl  k) ?_
  obtain ⟨c138, Ar138, q138, S138, M138, Hs138, G138⟩ := id V133
  have i138 : ¬ ((0 : Int32) < 0 ∨ c138.slots.size ≤ ((0 : Int32)).toNatClampNeg) := inb_of S138 ⟨by decide, by decide⟩
  obtain ⟨T138, h138, X138, e138, W138, st138⟩ := stI X133 hx hZ e133 Ar138 (j := (0 : Int32)) i138 (g := (mkF m 61 #[.val (.int (10 : Int32)), .val (.int p2), .val (.int p3), .val (.int p4), .val (.int p5), .val (.int (2 : Int32)), .val (.ref b133), .val (.int (0 : Int32))] [(.int p3), (.int (0 : Int32)), (.ref b133)])) rfl rfl (hb hby d11_61)
  have V138 : Arv Z h138 b133 k133 .int (2 : Int32) [(.int p3), (.int (0 : Int32))] (.int (0 : Int32)) := Arv.set Ar138 q138 S138 M138 Hs138 G138 rfl W138 0 rfl (Nat.le_of_ble_eq_true rfl)
  have N138 := Fr.snoc X138 N0 n0b133
  have z139 := Nat.le_trans z134 (Keep.of_wr W138).1
  have K140 := K135.wr W138 (Or.inr szb133)
  refine Rch.go (U' := T138.setTop (mkF m 62 #[.val (.int (10 : Int32)), .val (.int p2), .val (.int p3), .val (.int p4), .val (.int p5), .val (.int (2 : Int32)), .val (.ref b133), .val (.int (0 : Int32))] [])) st138 ?_
  refine Rch.go (U' := T138.setTop (mkF m 64 #[.val (.int (10 : Int32)), .val (.int p2), .val (.int p3), .val (.int p4), .val (.int p5), .val (.int (2 : Int32)), .val (.ref b133), .val (.int (0 : Int32))] [(.int (0 : Int32))])) (fun _ k => XS.iload X138.here hx rfl (hb hby d11_62) rfl  k) ?_
  refine Rch.go (U' := T138.setTop (mkF m 65 #[.val (.int (10 : Int32)), .val (.int p2), .val (.int p3), .val (.int p4), .val (.int p5), .val (.int (2 : Int32)), .val (.ref b133), .val (.int (0 : Int32))] [(.int (1 : Int32)), (.int (0 : Int32))])) (fun _ k => XS.iconst X138.here hx rfl (hb hby d11_64) k) ?_
  refine Rch.go (U' := T138.setTop (mkF m 66 #[.val (.int (10 : Int32)), .val (.int p2), .val (.int p3), .val (.int p4), .val (.int p5), .val (.int (2 : Int32)), .val (.ref b133), .val (.int (0 : Int32))] [(.int ((0 : Int32) + (1 : Int32)))])) (fun _ k => XS.iadd X138.here hx rfl (hb hby d11_65) rfl k) ?_
  rw [(by decide : ((0 : Int32) + (1 : Int32)) = (1 : Int32))]
  refine Rch.go (U' := T138.setTop (mkF m 68 #[.val (.int (10 : Int32)), .val (.int p2), .val (.int p3), .val (.int p4), .val (.int p5), .val (.int (2 : Int32)), .val (.ref b133), .val (.int (1 : Int32))] [])) (fun _ k => XS.istore X138.here hx rfl (hb hby d11_66) rfl (l' := #[.val (.int (10 : Int32)), .val (.int p2), .val (.int p3), .val (.int p4), .val (.int p5), .val (.int (2 : Int32)), .val (.ref b133), .val (.int (1 : Int32))]) rfl k) ?_
  refine Rch.go (U' := T138.setTop (mkF m 69 #[.val (.int (10 : Int32)), .val (.int p2), .val (.int p3), .val (.int p4), .val (.int p5), .val (.int (2 : Int32)), .val (.ref b133), .val (.int (1 : Int32))] [(.int (10 : Int32))])) (fun _ k => XS.iloadN X138.here hx rfl (hb hby d11_68) rfl  k) ?_
  refine Rch.go (U' := T138.setTop (mkF m 70 #[.val (.int (10 : Int32)), .val (.int p2), .val (.int p3), .val (.int p4), .val (.int p5), .val (.int (2 : Int32)), .val (.ref b133), .val (.int (1 : Int32))] [(.int (4 : Int32)), (.int (10 : Int32))])) (fun _ k => XS.iconst X138.here hx rfl (hb hby d11_69) k) ?_
  refine Rch.go (U' := T138.setTop (mkF m 71 #[.val (.int (10 : Int32)), .val (.int p2), .val (.int p3), .val (.int p4), .val (.int p5), .val (.int (2 : Int32)), .val (.ref b133), .val (.int (1 : Int32))] [(.int ((10 : Int32) &&& (4 : Int32)))])) (fun _ k => XS.iand X138.here hx rfl (hb hby d11_70) rfl k) ?_
  rw [(by decide : ((10 : Int32) &&& (4 : Int32)) = (0 : Int32))]
  have br141 : (0 : Int32) = (0 : Int32) := (by decide)
  refine Rch.go (U' := T138.setTop (mkF m 86 #[.val (.int (10 : Int32)), .val (.int p2), .val (.int p3), .val (.int p4), .val (.int p5), .val (.int (2 : Int32)), .val (.ref b133), .val (.int (1 : Int32))] [])) (fun _ k => XS.ifYes X138.here hx rfl (pc0 := 71) (pc' := 86) rfl (hb hby d11_71) rfl (XT.i0_eq_t br141) (by decide) (by decide) k) ?_
  refine Rch.go (U' := T138.setTop (mkF m 87 #[.val (.int (10 : Int32)), .val (.int p2), .val (.int p3), .val (.int p4), .val (.int p5), .val (.int (2 : Int32)), .val (.ref b133), .val (.int (1 : Int32))] [(.int (10 : Int32))])) (fun _ k => XS.iloadN X138.here hx rfl (hb hby d11_86) rfl  k) ?_
  refine Rch.go (U' := T138.setTop (mkF m 89 #[.val (.int (10 : Int32)), .val (.int p2), .val (.int p3), .val (.int p4), .val (.int p5), .val (.int (2 : Int32)), .val (.ref b133), .val (.int (1 : Int32))] [(.int (8 : Int32)), (.int (10 : Int32))])) (fun _ k => XS.bipush X138.here hx rfl (hb hby d11_87) k) ?_
  refine Rch.go (U' := T138.setTop (mkF m 90 #[.val (.int (10 : Int32)), .val (.int p2), .val (.int p3), .val (.int p4), .val (.int p5), .val (.int (2 : Int32)), .val (.ref b133), .val (.int (1 : Int32))] [(.int ((10 : Int32) &&& (8 : Int32)))])) (fun _ k => XS.iand X138.here hx rfl (hb hby d11_89) rfl k) ?_
  rw [(by decide : ((10 : Int32) &&& (8 : Int32)) = (8 : Int32))]
  have br142 : ¬ ((8 : Int32) = (0 : Int32)) := (by decide)
  refine Rch.go (U' := T138.setTop (mkF m 93 #[.val (.int (10 : Int32)), .val (.int p2), .val (.int p3), .val (.int p4), .val (.int p5), .val (.int (2 : Int32)), .val (.ref b133), .val (.int (1 : Int32))] [])) (fun _ k => XS.ifNo X138.here hx rfl (hb hby d11_90) rfl (XT.i0_eq_f br142) k) ?_
  refine Rch.go (U' := T138.setTop (mkF m 95 #[.val (.int (10 : Int32)), .val (.int p2), .val (.int p3), .val (.int p4), .val (.int p5), .val (.int (2 : Int32)), .val (.ref b133), .val (.int (1 : Int32))] [(.ref b133)])) (fun _ k => XS.aload X138.here hx rfl (hb hby d11_93) rfl rfl k) ?_
  refine Rch.go (U' := T138.setTop (mkF m 97 #[.val (.int (10 : Int32)), .val (.int p2), .val (.int p3), .val (.int p4), .val (.int p5), .val (.int (2 : Int32)), .val (.ref b133), .val (.int (1 : Int32))] [(.int (1 : Int32)), (.ref b133)])) (fun _ k => XS.iload X138.here hx rfl (hb hby d11_95) rfl  k) ?_
  refine Rch.go (U' := T138.setTop (mkF m 99 #[.val (.int (10 : Int32)), .val (.int p2), .val (.int p3), .val (.int p4), .val (.int p5), .val (.int (2 : Int32)), .val (.ref b133), .val (.int (1 : Int32))] [(.int p5), (.int (1 : Int32)), (.ref b133)])) (fun _ k => XS.iload X138.here hx rfl (hb hby d11_97) rfl  k) ?_
  obtain ⟨c143, Ar143, q143, S143, M143, Hs143, G143⟩ := id V138
  have i143 : ¬ ((1 : Int32) < 0 ∨ c143.slots.size ≤ ((1 : Int32)).toNatClampNeg) := inb_of S143 ⟨by decide, by decide⟩
  obtain ⟨T143, h143, X143, e143, W143, st143⟩ := stI X138 hx hZ e138 Ar143 (j := (1 : Int32)) i143 (g := (mkF m 99 #[.val (.int (10 : Int32)), .val (.int p2), .val (.int p3), .val (.int p4), .val (.int p5), .val (.int (2 : Int32)), .val (.ref b133), .val (.int (1 : Int32))] [(.int p5), (.int (1 : Int32)), (.ref b133)])) rfl rfl (hb hby d11_99)
  have V143 : Arv Z h143 b133 k133 .int (2 : Int32) [(.int p3), (.int p5)] (.int (0 : Int32)) := Arv.set Ar143 q143 S143 M143 Hs143 G143 rfl W143 1 rfl (Nat.le_of_ble_eq_true rfl)
  have N143 := Fr.snoc X143 N138 n0b133
  have z144 := Nat.le_trans z139 (Keep.of_wr W143).1
  have K145 := K140.wr W143 (Or.inr szb133)
  refine Rch.go (U' := T143.setTop (mkF m 100 #[.val (.int (10 : Int32)), .val (.int p2), .val (.int p3), .val (.int p4), .val (.int p5), .val (.int (2 : Int32)), .val (.ref b133), .val (.int (1 : Int32))] [])) st143 ?_
  refine Rch.go (U' := T143.setTop (mkF m 102 #[.val (.int (10 : Int32)), .val (.int p2), .val (.int p3), .val (.int p4), .val (.int p5), .val (.int (2 : Int32)), .val (.ref b133), .val (.int (1 : Int32))] [(.int (1 : Int32))])) (fun _ k => XS.iload X143.here hx rfl (hb hby d11_100) rfl  k) ?_
  refine Rch.go (U' := T143.setTop (mkF m 103 #[.val (.int (10 : Int32)), .val (.int p2), .val (.int p3), .val (.int p4), .val (.int p5), .val (.int (2 : Int32)), .val (.ref b133), .val (.int (1 : Int32))] [(.int (1 : Int32)), (.int (1 : Int32))])) (fun _ k => XS.iconst X143.here hx rfl (hb hby d11_102) k) ?_
  refine Rch.go (U' := T143.setTop (mkF m 104 #[.val (.int (10 : Int32)), .val (.int p2), .val (.int p3), .val (.int p4), .val (.int p5), .val (.int (2 : Int32)), .val (.ref b133), .val (.int (1 : Int32))] [(.int ((1 : Int32) + (1 : Int32)))])) (fun _ k => XS.iadd X143.here hx rfl (hb hby d11_103) rfl k) ?_
  rw [(by decide : ((1 : Int32) + (1 : Int32)) = (2 : Int32))]
  refine Rch.go (U' := T143.setTop (mkF m 106 #[.val (.int (10 : Int32)), .val (.int p2), .val (.int p3), .val (.int p4), .val (.int p5), .val (.int (2 : Int32)), .val (.ref b133), .val (.int (2 : Int32))] [])) (fun _ k => XS.istore X143.here hx rfl (hb hby d11_104) rfl (l' := #[.val (.int (10 : Int32)), .val (.int p2), .val (.int p3), .val (.int p4), .val (.int p5), .val (.int (2 : Int32)), .val (.ref b133), .val (.int (2 : Int32))]) rfl k) ?_
  refine Rch.go (U' := T143.setTop (mkF m 108 #[.val (.int (10 : Int32)), .val (.int p2), .val (.int p3), .val (.int p4), .val (.int p5), .val (.int (2 : Int32)), .val (.ref b133), .val (.int (2 : Int32))] [(.ref b133)])) (fun _ k => XS.aload X143.here hx rfl (hb hby d11_106) rfl rfl k) ?_
  refine Rch.fin X143 hlk (v := some (.ref b133)) (fun h => by rw [hret] at h; cases h) e143 (by decide) (by decide) (fun fs hr => retOut X143 hx hret rfl (Or.inr (Or.inr (Or.inr (Or.inr ⟨rfl, rfl, rfl⟩)))) (hb hby d11_108) hr) ?_
  exact ⟨b133, k133, rfl, N143, K145, n0b133, szb133, by rw [own_s10]; exact V143⟩
theorem own_s11 (p2 p3 p4 p5 : Int32) : own_sub 11 p2 p3 p4 p5 = [p2, p3, p5] := rfl
set_option maxRecDepth 65536 in
set_option maxHeartbeats 40000000 in
theorem sub11 {p : Program} {l : Launch} {e : Env} {s : State} {m : MethodId} {args : Array Value} {below : List Frame} {meth : Method} {c : Code} {T0 : State} {locs : List Loc} {Z : State} {a0 : Array Value} {h0 : Heap} {n0 : Nat}  (p2 : Int32) (p3 : Int32) (p4 : Int32) (p5 : Int32)
    (X0 : Stand p l e ({ frames := 0, cells := 1, slots := 4, locals := 0 } : Room) s m args below meth c T0 locs 0 0) (hx : p.tables.exec = Jvm.exec) (hZ : Z.Warmed39 s.vm) (hw : ∀ d ∈ tables_1, d.before a0 Z = true) (hby : c.code = method_2_code) (hml : c.maxLocals = 8) (hown : s.vm.findClass "com/example/fixpoints_of_behaviour/fixpointsofbehaviour/bisimulation/RefusalsHoldsPinLaw" = some m.cls) (hret : meth.sig.returnType = some (.array .int)) (hlk : meth.locks = false) (e0 : T0.heap = h0) (N0 : Fr n0 locs) (Z0 : n0 ≤ h0.size)  :
    Rch p e below (Fin s below (fun v h L => ∃ (b : Addr) (kb : ClassId), v = some (.ref b) ∧ Fr n0 L ∧ Keep h0 h [] ∧ n0 ≤ b ∧ h0.size ≤ b ∧ Arv Z h b kb .int (Int32.ofNat (own_sub 11 p2 p3 p4 p5).length) ((own_sub 11 p2 p3 p4 p5).map Value.int) (.int (0 : Int32))) 1 4) (T0.setTop (mkF m 0 #[.val (.int (11 : Int32)), .val (.int p2), .val (.int p3), .val (.int p4), .val (.int p5), .unset, .unset, .unset] [])) := by
  refine Rch.go (U' := T0.setTop (mkF m 1 #[.val (.int (11 : Int32)), .val (.int p2), .val (.int p3), .val (.int p4), .val (.int p5), .unset, .unset, .unset] [(.int (11 : Int32))])) (fun _ k => XS.iloadN X0.here hx rfl (hb hby d11_0) rfl  k) ?_
  refine Rch.go (U' := T0.setTop (mkF m 2 #[.val (.int (11 : Int32)), .val (.int p2), .val (.int p3), .val (.int p4), .val (.int p5), .unset, .unset, .unset] [(.int (1 : Int32)), (.int (11 : Int32))])) (fun _ k => XS.iconst X0.here hx rfl (hb hby d11_1) k) ?_
  refine Rch.go (U' := T0.setTop (mkF m 3 #[.val (.int (11 : Int32)), .val (.int p2), .val (.int p3), .val (.int p4), .val (.int p5), .unset, .unset, .unset] [(.int ((11 : Int32) &&& (1 : Int32)))])) (fun _ k => XS.iand X0.here hx rfl (hb hby d11_2) rfl k) ?_
  rw [(by decide : ((11 : Int32) &&& (1 : Int32)) = (1 : Int32))]
  refine Rch.go (U' := T0.setTop (mkF m 4 #[.val (.int (11 : Int32)), .val (.int p2), .val (.int p3), .val (.int p4), .val (.int p5), .unset, .unset, .unset] [(.int (11 : Int32)), (.int (1 : Int32))])) (fun _ k => XS.iloadN X0.here hx rfl (hb hby d11_3) rfl  k) ?_
  refine Rch.go (U' := T0.setTop (mkF m 5 #[.val (.int (11 : Int32)), .val (.int p2), .val (.int p3), .val (.int p4), .val (.int p5), .unset, .unset, .unset] [(.int (1 : Int32)), (.int (11 : Int32)), (.int (1 : Int32))])) (fun _ k => XS.iconst X0.here hx rfl (hb hby d11_4) k) ?_
  refine Rch.go (U' := T0.setTop (mkF m 6 #[.val (.int (11 : Int32)), .val (.int p2), .val (.int p3), .val (.int p4), .val (.int p5), .unset, .unset, .unset] [(.int ((11 : Int32) >>> ((1 : Int32) &&& 31))), (.int (1 : Int32))])) (fun _ k => XS.ishr X0.here hx rfl (hb hby d11_5) rfl k) ?_
  rw [(by decide : ((11 : Int32) >>> ((1 : Int32) &&& 31)) = (5 : Int32))]
  refine Rch.go (U' := T0.setTop (mkF m 7 #[.val (.int (11 : Int32)), .val (.int p2), .val (.int p3), .val (.int p4), .val (.int p5), .unset, .unset, .unset] [(.int (1 : Int32)), (.int (5 : Int32)), (.int (1 : Int32))])) (fun _ k => XS.iconst X0.here hx rfl (hb hby d11_6) k) ?_
  refine Rch.go (U' := T0.setTop (mkF m 8 #[.val (.int (11 : Int32)), .val (.int p2), .val (.int p3), .val (.int p4), .val (.int p5), .unset, .unset, .unset] [(.int ((5 : Int32) &&& (1 : Int32))), (.int (1 : Int32))])) (fun _ k => XS.iand X0.here hx rfl (hb hby d11_7) rfl k) ?_
  rw [(by decide : ((5 : Int32) &&& (1 : Int32)) = (1 : Int32))]
  refine Rch.go (U' := T0.setTop (mkF m 9 #[.val (.int (11 : Int32)), .val (.int p2), .val (.int p3), .val (.int p4), .val (.int p5), .unset, .unset, .unset] [(.int ((1 : Int32) + (1 : Int32)))])) (fun _ k => XS.iadd X0.here hx rfl (hb hby d11_8) rfl k) ?_
  rw [(by decide : ((1 : Int32) + (1 : Int32)) = (2 : Int32))]
  refine Rch.go (U' := T0.setTop (mkF m 10 #[.val (.int (11 : Int32)), .val (.int p2), .val (.int p3), .val (.int p4), .val (.int p5), .unset, .unset, .unset] [(.int (11 : Int32)), (.int (2 : Int32))])) (fun _ k => XS.iloadN X0.here hx rfl (hb hby d11_9) rfl  k) ?_
  refine Rch.go (U' := T0.setTop (mkF m 11 #[.val (.int (11 : Int32)), .val (.int p2), .val (.int p3), .val (.int p4), .val (.int p5), .unset, .unset, .unset] [(.int (2 : Int32)), (.int (11 : Int32)), (.int (2 : Int32))])) (fun _ k => XS.iconst X0.here hx rfl (hb hby d11_10) k) ?_
  refine Rch.go (U' := T0.setTop (mkF m 12 #[.val (.int (11 : Int32)), .val (.int p2), .val (.int p3), .val (.int p4), .val (.int p5), .unset, .unset, .unset] [(.int ((11 : Int32) >>> ((2 : Int32) &&& 31))), (.int (2 : Int32))])) (fun _ k => XS.ishr X0.here hx rfl (hb hby d11_11) rfl k) ?_
  rw [(by decide : ((11 : Int32) >>> ((2 : Int32) &&& 31)) = (2 : Int32))]
  refine Rch.go (U' := T0.setTop (mkF m 13 #[.val (.int (11 : Int32)), .val (.int p2), .val (.int p3), .val (.int p4), .val (.int p5), .unset, .unset, .unset] [(.int (1 : Int32)), (.int (2 : Int32)), (.int (2 : Int32))])) (fun _ k => XS.iconst X0.here hx rfl (hb hby d11_12) k) ?_
  refine Rch.go (U' := T0.setTop (mkF m 14 #[.val (.int (11 : Int32)), .val (.int p2), .val (.int p3), .val (.int p4), .val (.int p5), .unset, .unset, .unset] [(.int ((2 : Int32) &&& (1 : Int32))), (.int (2 : Int32))])) (fun _ k => XS.iand X0.here hx rfl (hb hby d11_13) rfl k) ?_
  rw [(by decide : ((2 : Int32) &&& (1 : Int32)) = (0 : Int32))]
  refine Rch.go (U' := T0.setTop (mkF m 15 #[.val (.int (11 : Int32)), .val (.int p2), .val (.int p3), .val (.int p4), .val (.int p5), .unset, .unset, .unset] [(.int ((2 : Int32) + (0 : Int32)))])) (fun _ k => XS.iadd X0.here hx rfl (hb hby d11_14) rfl k) ?_
  rw [(by decide : ((2 : Int32) + (0 : Int32)) = (2 : Int32))]
  refine Rch.go (U' := T0.setTop (mkF m 16 #[.val (.int (11 : Int32)), .val (.int p2), .val (.int p3), .val (.int p4), .val (.int p5), .unset, .unset, .unset] [(.int (11 : Int32)), (.int (2 : Int32))])) (fun _ k => XS.iloadN X0.here hx rfl (hb hby d11_15) rfl  k) ?_
  refine Rch.go (U' := T0.setTop (mkF m 17 #[.val (.int (11 : Int32)), .val (.int p2), .val (.int p3), .val (.int p4), .val (.int p5), .unset, .unset, .unset] [(.int (3 : Int32)), (.int (11 : Int32)), (.int (2 : Int32))])) (fun _ k => XS.iconst X0.here hx rfl (hb hby d11_16) k) ?_
  refine Rch.go (U' := T0.setTop (mkF m 18 #[.val (.int (11 : Int32)), .val (.int p2), .val (.int p3), .val (.int p4), .val (.int p5), .unset, .unset, .unset] [(.int ((11 : Int32) >>> ((3 : Int32) &&& 31))), (.int (2 : Int32))])) (fun _ k => XS.ishr X0.here hx rfl (hb hby d11_17) rfl k) ?_
  rw [(by decide : ((11 : Int32) >>> ((3 : Int32) &&& 31)) = (1 : Int32))]
  refine Rch.go (U' := T0.setTop (mkF m 19 #[.val (.int (11 : Int32)), .val (.int p2), .val (.int p3), .val (.int p4), .val (.int p5), .unset, .unset, .unset] [(.int (1 : Int32)), (.int (1 : Int32)), (.int (2 : Int32))])) (fun _ k => XS.iconst X0.here hx rfl (hb hby d11_18) k) ?_
  refine Rch.go (U' := T0.setTop (mkF m 20 #[.val (.int (11 : Int32)), .val (.int p2), .val (.int p3), .val (.int p4), .val (.int p5), .unset, .unset, .unset] [(.int ((1 : Int32) &&& (1 : Int32))), (.int (2 : Int32))])) (fun _ k => XS.iand X0.here hx rfl (hb hby d11_19) rfl k) ?_
  rw [(by decide : ((1 : Int32) &&& (1 : Int32)) = (1 : Int32))]
  refine Rch.go (U' := T0.setTop (mkF m 21 #[.val (.int (11 : Int32)), .val (.int p2), .val (.int p3), .val (.int p4), .val (.int p5), .unset, .unset, .unset] [(.int ((2 : Int32) + (1 : Int32)))])) (fun _ k => XS.iadd X0.here hx rfl (hb hby d11_20) rfl k) ?_
  rw [(by decide : ((2 : Int32) + (1 : Int32)) = (3 : Int32))]
  refine Rch.go (U' := T0.setTop (mkF m 23 #[.val (.int (11 : Int32)), .val (.int p2), .val (.int p3), .val (.int p4), .val (.int p5), .val (.int (3 : Int32)), .unset, .unset] [])) (fun _ k => XS.istore X0.here hx rfl (hb hby d11_21) rfl (l' := #[.val (.int (11 : Int32)), .val (.int p2), .val (.int p3), .val (.int p4), .val (.int p5), .val (.int (3 : Int32)), .unset, .unset]) rfl k) ?_
  refine Rch.go (U' := T0.setTop (mkF m 25 #[.val (.int (11 : Int32)), .val (.int p2), .val (.int p3), .val (.int p4), .val (.int p5), .val (.int (3 : Int32)), .unset, .unset] [(.int (3 : Int32))])) (fun _ k => XS.iload X0.here hx rfl (hb hby d11_23) rfl  k) ?_
  obtain ⟨T146, h146, k146, X146, e146, E146, A146, st146⟩ := newP X0 hx hZ (wi hw 12 rfl) e0 (g := (mkF m 25 #[.val (.int (11 : Int32)), .val (.int p2), .val (.int p3), .val (.int p4), .val (.int p5), .val (.int (3 : Int32)), .unset, .unset] [(.int (3 : Int32))])) rfl (hb hby d11_25) rfl (by decide) (cap := 3) (by decide) (by decide) (by decide) (by decide)
  obtain ⟨b146, g146⟩ : ∃ z, z = h0.size := ⟨_, rfl⟩
  rw [← g146] at A146 st146
  have n0b146 : n0 ≤ b146 := Nat.le_trans Z0 (Nat.le_of_eq g146.symm)
  have szb146 : h0.size ≤ b146 := Nat.le_trans (Keep.refl h0 []).1 (Nat.le_of_eq g146.symm)
  have z147 := Nat.le_trans Z0 E146.1
  have K148 := (Keep.refl h0 []).ext E146
  have V146 : Arv Z h146 b146 k146 .int (3 : Int32) [(.int (0 : Int32)), (.int (0 : Int32)), (.int (0 : Int32))] (.int (0 : Int32)) := (Arv.new A146 (by decide)).pad (pad_rep [] (.int (0 : Int32)) 3)
  refine Rch.go (U' := T146.setTop (mkF m 27 #[.val (.int (11 : Int32)), .val (.int p2), .val (.int p3), .val (.int p4), .val (.int p5), .val (.int (3 : Int32)), .unset, .unset] [(.ref b146)])) st146 ?_
  refine Rch.go (U' := T146.setTop (mkF m 29 #[.val (.int (11 : Int32)), .val (.int p2), .val (.int p3), .val (.int p4), .val (.int p5), .val (.int (3 : Int32)), .val (.ref b146), .unset] [])) (fun _ k => XS.astore X146.here hx rfl (hb hby d11_27) rfl rfl (l' := #[.val (.int (11 : Int32)), .val (.int p2), .val (.int p3), .val (.int p4), .val (.int p5), .val (.int (3 : Int32)), .val (.ref b146), .unset]) rfl k) ?_
  refine Rch.go (U' := T146.setTop (mkF m 30 #[.val (.int (11 : Int32)), .val (.int p2), .val (.int p3), .val (.int p4), .val (.int p5), .val (.int (3 : Int32)), .val (.ref b146), .unset] [(.int (0 : Int32))])) (fun _ k => XS.iconst X146.here hx rfl (hb hby d11_29) k) ?_
  refine Rch.go (U' := T146.setTop (mkF m 32 #[.val (.int (11 : Int32)), .val (.int p2), .val (.int p3), .val (.int p4), .val (.int p5), .val (.int (3 : Int32)), .val (.ref b146), .val (.int (0 : Int32))] [])) (fun _ k => XS.istore X146.here hx rfl (hb hby d11_30) rfl (l' := #[.val (.int (11 : Int32)), .val (.int p2), .val (.int p3), .val (.int p4), .val (.int p5), .val (.int (3 : Int32)), .val (.ref b146), .val (.int (0 : Int32))]) rfl k) ?_
  refine Rch.go (U' := T146.setTop (mkF m 33 #[.val (.int (11 : Int32)), .val (.int p2), .val (.int p3), .val (.int p4), .val (.int p5), .val (.int (3 : Int32)), .val (.ref b146), .val (.int (0 : Int32))] [(.int (11 : Int32))])) (fun _ k => XS.iloadN X146.here hx rfl (hb hby d11_32) rfl  k) ?_
  refine Rch.go (U' := T146.setTop (mkF m 34 #[.val (.int (11 : Int32)), .val (.int p2), .val (.int p3), .val (.int p4), .val (.int p5), .val (.int (3 : Int32)), .val (.ref b146), .val (.int (0 : Int32))] [(.int (1 : Int32)), (.int (11 : Int32))])) (fun _ k => XS.iconst X146.here hx rfl (hb hby d11_33) k) ?_
  refine Rch.go (U' := T146.setTop (mkF m 35 #[.val (.int (11 : Int32)), .val (.int p2), .val (.int p3), .val (.int p4), .val (.int p5), .val (.int (3 : Int32)), .val (.ref b146), .val (.int (0 : Int32))] [(.int ((11 : Int32) &&& (1 : Int32)))])) (fun _ k => XS.iand X146.here hx rfl (hb hby d11_34) rfl k) ?_
  rw [(by decide : ((11 : Int32) &&& (1 : Int32)) = (1 : Int32))]
  have br149 : ¬ ((1 : Int32) = (0 : Int32)) := (by decide)
  refine Rch.go (U' := T146.setTop (mkF m 38 #[.val (.int (11 : Int32)), .val (.int p2), .val (.int p3), .val (.int p4), .val (.int p5), .val (.int (3 : Int32)), .val (.ref b146), .val (.int (0 : Int32))] [])) (fun _ k => XS.ifNo X146.here hx rfl (hb hby d11_35) rfl (XT.i0_eq_f br149) k) ?_
  refine Rch.go (U' := T146.setTop (mkF m 40 #[.val (.int (11 : Int32)), .val (.int p2), .val (.int p3), .val (.int p4), .val (.int p5), .val (.int (3 : Int32)), .val (.ref b146), .val (.int (0 : Int32))] [(.ref b146)])) (fun _ k => XS.aload X146.here hx rfl (hb hby d11_38) rfl rfl k) ?_
  refine Rch.go (U' := T146.setTop (mkF m 42 #[.val (.int (11 : Int32)), .val (.int p2), .val (.int p3), .val (.int p4), .val (.int p5), .val (.int (3 : Int32)), .val (.ref b146), .val (.int (0 : Int32))] [(.int (0 : Int32)), (.ref b146)])) (fun _ k => XS.iload X146.here hx rfl (hb hby d11_40) rfl  k) ?_
  refine Rch.go (U' := T146.setTop (mkF m 43 #[.val (.int (11 : Int32)), .val (.int p2), .val (.int p3), .val (.int p4), .val (.int p5), .val (.int (3 : Int32)), .val (.ref b146), .val (.int (0 : Int32))] [(.int p2), (.int (0 : Int32)), (.ref b146)])) (fun _ k => XS.iloadN X146.here hx rfl (hb hby d11_42) rfl  k) ?_
  obtain ⟨c150, Ar150, q150, S150, M150, Hs150, G150⟩ := id V146
  have i150 : ¬ ((0 : Int32) < 0 ∨ c150.slots.size ≤ ((0 : Int32)).toNatClampNeg) := inb_of S150 ⟨by decide, by decide⟩
  obtain ⟨T150, h150, X150, e150, W150, st150⟩ := stI X146 hx hZ e146 Ar150 (j := (0 : Int32)) i150 (g := (mkF m 43 #[.val (.int (11 : Int32)), .val (.int p2), .val (.int p3), .val (.int p4), .val (.int p5), .val (.int (3 : Int32)), .val (.ref b146), .val (.int (0 : Int32))] [(.int p2), (.int (0 : Int32)), (.ref b146)])) rfl rfl (hb hby d11_43)
  have V150 : Arv Z h150 b146 k146 .int (3 : Int32) [(.int p2), (.int (0 : Int32)), (.int (0 : Int32))] (.int (0 : Int32)) := Arv.set Ar150 q150 S150 M150 Hs150 G150 rfl W150 0 rfl (Nat.le_of_ble_eq_true rfl)
  have N150 := Fr.snoc X150 N0 n0b146
  have z151 := Nat.le_trans z147 (Keep.of_wr W150).1
  have K152 := K148.wr W150 (Or.inr szb146)
  refine Rch.go (U' := T150.setTop (mkF m 44 #[.val (.int (11 : Int32)), .val (.int p2), .val (.int p3), .val (.int p4), .val (.int p5), .val (.int (3 : Int32)), .val (.ref b146), .val (.int (0 : Int32))] [])) st150 ?_
  refine Rch.go (U' := T150.setTop (mkF m 46 #[.val (.int (11 : Int32)), .val (.int p2), .val (.int p3), .val (.int p4), .val (.int p5), .val (.int (3 : Int32)), .val (.ref b146), .val (.int (0 : Int32))] [(.int (0 : Int32))])) (fun _ k => XS.iload X150.here hx rfl (hb hby d11_44) rfl  k) ?_
  refine Rch.go (U' := T150.setTop (mkF m 47 #[.val (.int (11 : Int32)), .val (.int p2), .val (.int p3), .val (.int p4), .val (.int p5), .val (.int (3 : Int32)), .val (.ref b146), .val (.int (0 : Int32))] [(.int (1 : Int32)), (.int (0 : Int32))])) (fun _ k => XS.iconst X150.here hx rfl (hb hby d11_46) k) ?_
  refine Rch.go (U' := T150.setTop (mkF m 48 #[.val (.int (11 : Int32)), .val (.int p2), .val (.int p3), .val (.int p4), .val (.int p5), .val (.int (3 : Int32)), .val (.ref b146), .val (.int (0 : Int32))] [(.int ((0 : Int32) + (1 : Int32)))])) (fun _ k => XS.iadd X150.here hx rfl (hb hby d11_47) rfl k) ?_
  rw [(by decide : ((0 : Int32) + (1 : Int32)) = (1 : Int32))]
  refine Rch.go (U' := T150.setTop (mkF m 50 #[.val (.int (11 : Int32)), .val (.int p2), .val (.int p3), .val (.int p4), .val (.int p5), .val (.int (3 : Int32)), .val (.ref b146), .val (.int (1 : Int32))] [])) (fun _ k => XS.istore X150.here hx rfl (hb hby d11_48) rfl (l' := #[.val (.int (11 : Int32)), .val (.int p2), .val (.int p3), .val (.int p4), .val (.int p5), .val (.int (3 : Int32)), .val (.ref b146), .val (.int (1 : Int32))]) rfl k) ?_
  refine Rch.go (U' := T150.setTop (mkF m 51 #[.val (.int (11 : Int32)), .val (.int p2), .val (.int p3), .val (.int p4), .val (.int p5), .val (.int (3 : Int32)), .val (.ref b146), .val (.int (1 : Int32))] [(.int (11 : Int32))])) (fun _ k => XS.iloadN X150.here hx rfl (hb hby d11_50) rfl  k) ?_
  refine Rch.go (U' := T150.setTop (mkF m 52 #[.val (.int (11 : Int32)), .val (.int p2), .val (.int p3), .val (.int p4), .val (.int p5), .val (.int (3 : Int32)), .val (.ref b146), .val (.int (1 : Int32))] [(.int (2 : Int32)), (.int (11 : Int32))])) (fun _ k => XS.iconst X150.here hx rfl (hb hby d11_51) k) ?_
  refine Rch.go (U' := T150.setTop (mkF m 53 #[.val (.int (11 : Int32)), .val (.int p2), .val (.int p3), .val (.int p4), .val (.int p5), .val (.int (3 : Int32)), .val (.ref b146), .val (.int (1 : Int32))] [(.int ((11 : Int32) &&& (2 : Int32)))])) (fun _ k => XS.iand X150.here hx rfl (hb hby d11_52) rfl k) ?_
  rw [(by decide : ((11 : Int32) &&& (2 : Int32)) = (2 : Int32))]
  have br153 : ¬ ((2 : Int32) = (0 : Int32)) := (by decide)
  refine Rch.go (U' := T150.setTop (mkF m 56 #[.val (.int (11 : Int32)), .val (.int p2), .val (.int p3), .val (.int p4), .val (.int p5), .val (.int (3 : Int32)), .val (.ref b146), .val (.int (1 : Int32))] [])) (fun _ k => XS.ifNo X150.here hx rfl (hb hby d11_53) rfl (XT.i0_eq_f br153) k) ?_
  refine Rch.go (U' := T150.setTop (mkF m 58 #[.val (.int (11 : Int32)), .val (.int p2), .val (.int p3), .val (.int p4), .val (.int p5), .val (.int (3 : Int32)), .val (.ref b146), .val (.int (1 : Int32))] [(.ref b146)])) (fun _ k => XS.aload X150.here hx rfl (hb hby d11_56) rfl rfl k) ?_
  refine Rch.go (U' := T150.setTop (mkF m 60 #[.val (.int (11 : Int32)), .val (.int p2), .val (.int p3), .val (.int p4), .val (.int p5), .val (.int (3 : Int32)), .val (.ref b146), .val (.int (1 : Int32))] [(.int (1 : Int32)), (.ref b146)])) (fun _ k => XS.iload X150.here hx rfl (hb hby d11_58) rfl  k) ?_
  refine Rch.go (U' := T150.setTop (mkF m 61 #[.val (.int (11 : Int32)), .val (.int p2), .val (.int p3), .val (.int p4), .val (.int p5), .val (.int (3 : Int32)), .val (.ref b146), .val (.int (1 : Int32))] [(.int p3), (.int (1 : Int32)), (.ref b146)])) (fun _ k => XS.iloadN X150.here hx rfl (hb hby d11_60) rfl  k) ?_
  obtain ⟨c154, Ar154, q154, S154, M154, Hs154, G154⟩ := id V150
  have i154 : ¬ ((1 : Int32) < 0 ∨ c154.slots.size ≤ ((1 : Int32)).toNatClampNeg) := inb_of S154 ⟨by decide, by decide⟩
  obtain ⟨T154, h154, X154, e154, W154, st154⟩ := stI X150 hx hZ e150 Ar154 (j := (1 : Int32)) i154 (g := (mkF m 61 #[.val (.int (11 : Int32)), .val (.int p2), .val (.int p3), .val (.int p4), .val (.int p5), .val (.int (3 : Int32)), .val (.ref b146), .val (.int (1 : Int32))] [(.int p3), (.int (1 : Int32)), (.ref b146)])) rfl rfl (hb hby d11_61)
  have V154 : Arv Z h154 b146 k146 .int (3 : Int32) [(.int p2), (.int p3), (.int (0 : Int32))] (.int (0 : Int32)) := Arv.set Ar154 q154 S154 M154 Hs154 G154 rfl W154 1 rfl (Nat.le_of_ble_eq_true rfl)
  have N154 := Fr.snoc X154 N150 n0b146
  have z155 := Nat.le_trans z151 (Keep.of_wr W154).1
  have K156 := K152.wr W154 (Or.inr szb146)
  refine Rch.go (U' := T154.setTop (mkF m 62 #[.val (.int (11 : Int32)), .val (.int p2), .val (.int p3), .val (.int p4), .val (.int p5), .val (.int (3 : Int32)), .val (.ref b146), .val (.int (1 : Int32))] [])) st154 ?_
  refine Rch.go (U' := T154.setTop (mkF m 64 #[.val (.int (11 : Int32)), .val (.int p2), .val (.int p3), .val (.int p4), .val (.int p5), .val (.int (3 : Int32)), .val (.ref b146), .val (.int (1 : Int32))] [(.int (1 : Int32))])) (fun _ k => XS.iload X154.here hx rfl (hb hby d11_62) rfl  k) ?_
  refine Rch.go (U' := T154.setTop (mkF m 65 #[.val (.int (11 : Int32)), .val (.int p2), .val (.int p3), .val (.int p4), .val (.int p5), .val (.int (3 : Int32)), .val (.ref b146), .val (.int (1 : Int32))] [(.int (1 : Int32)), (.int (1 : Int32))])) (fun _ k => XS.iconst X154.here hx rfl (hb hby d11_64) k) ?_
  refine Rch.go (U' := T154.setTop (mkF m 66 #[.val (.int (11 : Int32)), .val (.int p2), .val (.int p3), .val (.int p4), .val (.int p5), .val (.int (3 : Int32)), .val (.ref b146), .val (.int (1 : Int32))] [(.int ((1 : Int32) + (1 : Int32)))])) (fun _ k => XS.iadd X154.here hx rfl (hb hby d11_65) rfl k) ?_
  rw [(by decide : ((1 : Int32) + (1 : Int32)) = (2 : Int32))]
  refine Rch.go (U' := T154.setTop (mkF m 68 #[.val (.int (11 : Int32)), .val (.int p2), .val (.int p3), .val (.int p4), .val (.int p5), .val (.int (3 : Int32)), .val (.ref b146), .val (.int (2 : Int32))] [])) (fun _ k => XS.istore X154.here hx rfl (hb hby d11_66) rfl (l' := #[.val (.int (11 : Int32)), .val (.int p2), .val (.int p3), .val (.int p4), .val (.int p5), .val (.int (3 : Int32)), .val (.ref b146), .val (.int (2 : Int32))]) rfl k) ?_
  refine Rch.go (U' := T154.setTop (mkF m 69 #[.val (.int (11 : Int32)), .val (.int p2), .val (.int p3), .val (.int p4), .val (.int p5), .val (.int (3 : Int32)), .val (.ref b146), .val (.int (2 : Int32))] [(.int (11 : Int32))])) (fun _ k => XS.iloadN X154.here hx rfl (hb hby d11_68) rfl  k) ?_
  refine Rch.go (U' := T154.setTop (mkF m 70 #[.val (.int (11 : Int32)), .val (.int p2), .val (.int p3), .val (.int p4), .val (.int p5), .val (.int (3 : Int32)), .val (.ref b146), .val (.int (2 : Int32))] [(.int (4 : Int32)), (.int (11 : Int32))])) (fun _ k => XS.iconst X154.here hx rfl (hb hby d11_69) k) ?_
  refine Rch.go (U' := T154.setTop (mkF m 71 #[.val (.int (11 : Int32)), .val (.int p2), .val (.int p3), .val (.int p4), .val (.int p5), .val (.int (3 : Int32)), .val (.ref b146), .val (.int (2 : Int32))] [(.int ((11 : Int32) &&& (4 : Int32)))])) (fun _ k => XS.iand X154.here hx rfl (hb hby d11_70) rfl k) ?_
  rw [(by decide : ((11 : Int32) &&& (4 : Int32)) = (0 : Int32))]
  have br157 : (0 : Int32) = (0 : Int32) := (by decide)
  refine Rch.go (U' := T154.setTop (mkF m 86 #[.val (.int (11 : Int32)), .val (.int p2), .val (.int p3), .val (.int p4), .val (.int p5), .val (.int (3 : Int32)), .val (.ref b146), .val (.int (2 : Int32))] [])) (fun _ k => XS.ifYes X154.here hx rfl (pc0 := 71) (pc' := 86) rfl (hb hby d11_71) rfl (XT.i0_eq_t br157) (by decide) (by decide) k) ?_
  refine Rch.go (U' := T154.setTop (mkF m 87 #[.val (.int (11 : Int32)), .val (.int p2), .val (.int p3), .val (.int p4), .val (.int p5), .val (.int (3 : Int32)), .val (.ref b146), .val (.int (2 : Int32))] [(.int (11 : Int32))])) (fun _ k => XS.iloadN X154.here hx rfl (hb hby d11_86) rfl  k) ?_
  refine Rch.go (U' := T154.setTop (mkF m 89 #[.val (.int (11 : Int32)), .val (.int p2), .val (.int p3), .val (.int p4), .val (.int p5), .val (.int (3 : Int32)), .val (.ref b146), .val (.int (2 : Int32))] [(.int (8 : Int32)), (.int (11 : Int32))])) (fun _ k => XS.bipush X154.here hx rfl (hb hby d11_87) k) ?_
  refine Rch.go (U' := T154.setTop (mkF m 90 #[.val (.int (11 : Int32)), .val (.int p2), .val (.int p3), .val (.int p4), .val (.int p5), .val (.int (3 : Int32)), .val (.ref b146), .val (.int (2 : Int32))] [(.int ((11 : Int32) &&& (8 : Int32)))])) (fun _ k => XS.iand X154.here hx rfl (hb hby d11_89) rfl k) ?_
  rw [(by decide : ((11 : Int32) &&& (8 : Int32)) = (8 : Int32))]
  have br158 : ¬ ((8 : Int32) = (0 : Int32)) := (by decide)
  refine Rch.go (U' := T154.setTop (mkF m 93 #[.val (.int (11 : Int32)), .val (.int p2), .val (.int p3), .val (.int p4), .val (.int p5), .val (.int (3 : Int32)), .val (.ref b146), .val (.int (2 : Int32))] [])) (fun _ k => XS.ifNo X154.here hx rfl (hb hby d11_90) rfl (XT.i0_eq_f br158) k) ?_
  refine Rch.go (U' := T154.setTop (mkF m 95 #[.val (.int (11 : Int32)), .val (.int p2), .val (.int p3), .val (.int p4), .val (.int p5), .val (.int (3 : Int32)), .val (.ref b146), .val (.int (2 : Int32))] [(.ref b146)])) (fun _ k => XS.aload X154.here hx rfl (hb hby d11_93) rfl rfl k) ?_
  refine Rch.go (U' := T154.setTop (mkF m 97 #[.val (.int (11 : Int32)), .val (.int p2), .val (.int p3), .val (.int p4), .val (.int p5), .val (.int (3 : Int32)), .val (.ref b146), .val (.int (2 : Int32))] [(.int (2 : Int32)), (.ref b146)])) (fun _ k => XS.iload X154.here hx rfl (hb hby d11_95) rfl  k) ?_
  refine Rch.go (U' := T154.setTop (mkF m 99 #[.val (.int (11 : Int32)), .val (.int p2), .val (.int p3), .val (.int p4), .val (.int p5), .val (.int (3 : Int32)), .val (.ref b146), .val (.int (2 : Int32))] [(.int p5), (.int (2 : Int32)), (.ref b146)])) (fun _ k => XS.iload X154.here hx rfl (hb hby d11_97) rfl  k) ?_
  obtain ⟨c159, Ar159, q159, S159, M159, Hs159, G159⟩ := id V154
  have i159 : ¬ ((2 : Int32) < 0 ∨ c159.slots.size ≤ ((2 : Int32)).toNatClampNeg) := inb_of S159 ⟨by decide, by decide⟩
  obtain ⟨T159, h159, X159, e159, W159, st159⟩ := stI X154 hx hZ e154 Ar159 (j := (2 : Int32)) i159 (g := (mkF m 99 #[.val (.int (11 : Int32)), .val (.int p2), .val (.int p3), .val (.int p4), .val (.int p5), .val (.int (3 : Int32)), .val (.ref b146), .val (.int (2 : Int32))] [(.int p5), (.int (2 : Int32)), (.ref b146)])) rfl rfl (hb hby d11_99)
  have V159 : Arv Z h159 b146 k146 .int (3 : Int32) [(.int p2), (.int p3), (.int p5)] (.int (0 : Int32)) := Arv.set Ar159 q159 S159 M159 Hs159 G159 rfl W159 2 rfl (Nat.le_of_ble_eq_true rfl)
  have N159 := Fr.snoc X159 N154 n0b146
  have z160 := Nat.le_trans z155 (Keep.of_wr W159).1
  have K161 := K156.wr W159 (Or.inr szb146)
  refine Rch.go (U' := T159.setTop (mkF m 100 #[.val (.int (11 : Int32)), .val (.int p2), .val (.int p3), .val (.int p4), .val (.int p5), .val (.int (3 : Int32)), .val (.ref b146), .val (.int (2 : Int32))] [])) st159 ?_
  refine Rch.go (U' := T159.setTop (mkF m 102 #[.val (.int (11 : Int32)), .val (.int p2), .val (.int p3), .val (.int p4), .val (.int p5), .val (.int (3 : Int32)), .val (.ref b146), .val (.int (2 : Int32))] [(.int (2 : Int32))])) (fun _ k => XS.iload X159.here hx rfl (hb hby d11_100) rfl  k) ?_
  refine Rch.go (U' := T159.setTop (mkF m 103 #[.val (.int (11 : Int32)), .val (.int p2), .val (.int p3), .val (.int p4), .val (.int p5), .val (.int (3 : Int32)), .val (.ref b146), .val (.int (2 : Int32))] [(.int (1 : Int32)), (.int (2 : Int32))])) (fun _ k => XS.iconst X159.here hx rfl (hb hby d11_102) k) ?_
  refine Rch.go (U' := T159.setTop (mkF m 104 #[.val (.int (11 : Int32)), .val (.int p2), .val (.int p3), .val (.int p4), .val (.int p5), .val (.int (3 : Int32)), .val (.ref b146), .val (.int (2 : Int32))] [(.int ((2 : Int32) + (1 : Int32)))])) (fun _ k => XS.iadd X159.here hx rfl (hb hby d11_103) rfl k) ?_
  rw [(by decide : ((2 : Int32) + (1 : Int32)) = (3 : Int32))]
  refine Rch.go (U' := T159.setTop (mkF m 106 #[.val (.int (11 : Int32)), .val (.int p2), .val (.int p3), .val (.int p4), .val (.int p5), .val (.int (3 : Int32)), .val (.ref b146), .val (.int (3 : Int32))] [])) (fun _ k => XS.istore X159.here hx rfl (hb hby d11_104) rfl (l' := #[.val (.int (11 : Int32)), .val (.int p2), .val (.int p3), .val (.int p4), .val (.int p5), .val (.int (3 : Int32)), .val (.ref b146), .val (.int (3 : Int32))]) rfl k) ?_
  refine Rch.go (U' := T159.setTop (mkF m 108 #[.val (.int (11 : Int32)), .val (.int p2), .val (.int p3), .val (.int p4), .val (.int p5), .val (.int (3 : Int32)), .val (.ref b146), .val (.int (3 : Int32))] [(.ref b146)])) (fun _ k => XS.aload X159.here hx rfl (hb hby d11_106) rfl rfl k) ?_
  refine Rch.fin X159 hlk (v := some (.ref b146)) (fun h => by rw [hret] at h; cases h) e159 (by decide) (by decide) (fun fs hr => retOut X159 hx hret rfl (Or.inr (Or.inr (Or.inr (Or.inr ⟨rfl, rfl, rfl⟩)))) (hb hby d11_108) hr) ?_
  exact ⟨b146, k146, rfl, N159, K161, n0b146, szb146, by rw [own_s11]; exact V159⟩
theorem own_s12 (p2 p3 p4 p5 : Int32) : own_sub 12 p2 p3 p4 p5 = [p4, p5] := rfl
set_option maxRecDepth 65536 in
set_option maxHeartbeats 40000000 in
theorem sub12 {p : Program} {l : Launch} {e : Env} {s : State} {m : MethodId} {args : Array Value} {below : List Frame} {meth : Method} {c : Code} {T0 : State} {locs : List Loc} {Z : State} {a0 : Array Value} {h0 : Heap} {n0 : Nat}  (p2 : Int32) (p3 : Int32) (p4 : Int32) (p5 : Int32)
    (X0 : Stand p l e ({ frames := 0, cells := 1, slots := 4, locals := 0 } : Room) s m args below meth c T0 locs 0 0) (hx : p.tables.exec = Jvm.exec) (hZ : Z.Warmed39 s.vm) (hw : ∀ d ∈ tables_1, d.before a0 Z = true) (hby : c.code = method_2_code) (hml : c.maxLocals = 8) (hown : s.vm.findClass "com/example/fixpoints_of_behaviour/fixpointsofbehaviour/bisimulation/RefusalsHoldsPinLaw" = some m.cls) (hret : meth.sig.returnType = some (.array .int)) (hlk : meth.locks = false) (e0 : T0.heap = h0) (N0 : Fr n0 locs) (Z0 : n0 ≤ h0.size)  :
    Rch p e below (Fin s below (fun v h L => ∃ (b : Addr) (kb : ClassId), v = some (.ref b) ∧ Fr n0 L ∧ Keep h0 h [] ∧ n0 ≤ b ∧ h0.size ≤ b ∧ Arv Z h b kb .int (Int32.ofNat (own_sub 12 p2 p3 p4 p5).length) ((own_sub 12 p2 p3 p4 p5).map Value.int) (.int (0 : Int32))) 1 4) (T0.setTop (mkF m 0 #[.val (.int (12 : Int32)), .val (.int p2), .val (.int p3), .val (.int p4), .val (.int p5), .unset, .unset, .unset] [])) := by
  refine Rch.go (U' := T0.setTop (mkF m 1 #[.val (.int (12 : Int32)), .val (.int p2), .val (.int p3), .val (.int p4), .val (.int p5), .unset, .unset, .unset] [(.int (12 : Int32))])) (fun _ k => XS.iloadN X0.here hx rfl (hb hby d11_0) rfl  k) ?_
  refine Rch.go (U' := T0.setTop (mkF m 2 #[.val (.int (12 : Int32)), .val (.int p2), .val (.int p3), .val (.int p4), .val (.int p5), .unset, .unset, .unset] [(.int (1 : Int32)), (.int (12 : Int32))])) (fun _ k => XS.iconst X0.here hx rfl (hb hby d11_1) k) ?_
  refine Rch.go (U' := T0.setTop (mkF m 3 #[.val (.int (12 : Int32)), .val (.int p2), .val (.int p3), .val (.int p4), .val (.int p5), .unset, .unset, .unset] [(.int ((12 : Int32) &&& (1 : Int32)))])) (fun _ k => XS.iand X0.here hx rfl (hb hby d11_2) rfl k) ?_
  rw [(by decide : ((12 : Int32) &&& (1 : Int32)) = (0 : Int32))]
  refine Rch.go (U' := T0.setTop (mkF m 4 #[.val (.int (12 : Int32)), .val (.int p2), .val (.int p3), .val (.int p4), .val (.int p5), .unset, .unset, .unset] [(.int (12 : Int32)), (.int (0 : Int32))])) (fun _ k => XS.iloadN X0.here hx rfl (hb hby d11_3) rfl  k) ?_
  refine Rch.go (U' := T0.setTop (mkF m 5 #[.val (.int (12 : Int32)), .val (.int p2), .val (.int p3), .val (.int p4), .val (.int p5), .unset, .unset, .unset] [(.int (1 : Int32)), (.int (12 : Int32)), (.int (0 : Int32))])) (fun _ k => XS.iconst X0.here hx rfl (hb hby d11_4) k) ?_
  refine Rch.go (U' := T0.setTop (mkF m 6 #[.val (.int (12 : Int32)), .val (.int p2), .val (.int p3), .val (.int p4), .val (.int p5), .unset, .unset, .unset] [(.int ((12 : Int32) >>> ((1 : Int32) &&& 31))), (.int (0 : Int32))])) (fun _ k => XS.ishr X0.here hx rfl (hb hby d11_5) rfl k) ?_
  rw [(by decide : ((12 : Int32) >>> ((1 : Int32) &&& 31)) = (6 : Int32))]
  refine Rch.go (U' := T0.setTop (mkF m 7 #[.val (.int (12 : Int32)), .val (.int p2), .val (.int p3), .val (.int p4), .val (.int p5), .unset, .unset, .unset] [(.int (1 : Int32)), (.int (6 : Int32)), (.int (0 : Int32))])) (fun _ k => XS.iconst X0.here hx rfl (hb hby d11_6) k) ?_
  refine Rch.go (U' := T0.setTop (mkF m 8 #[.val (.int (12 : Int32)), .val (.int p2), .val (.int p3), .val (.int p4), .val (.int p5), .unset, .unset, .unset] [(.int ((6 : Int32) &&& (1 : Int32))), (.int (0 : Int32))])) (fun _ k => XS.iand X0.here hx rfl (hb hby d11_7) rfl k) ?_
  rw [(by decide : ((6 : Int32) &&& (1 : Int32)) = (0 : Int32))]
  refine Rch.go (U' := T0.setTop (mkF m 9 #[.val (.int (12 : Int32)), .val (.int p2), .val (.int p3), .val (.int p4), .val (.int p5), .unset, .unset, .unset] [(.int ((0 : Int32) + (0 : Int32)))])) (fun _ k => XS.iadd X0.here hx rfl (hb hby d11_8) rfl k) ?_
  rw [(by decide : ((0 : Int32) + (0 : Int32)) = (0 : Int32))]
  refine Rch.go (U' := T0.setTop (mkF m 10 #[.val (.int (12 : Int32)), .val (.int p2), .val (.int p3), .val (.int p4), .val (.int p5), .unset, .unset, .unset] [(.int (12 : Int32)), (.int (0 : Int32))])) (fun _ k => XS.iloadN X0.here hx rfl (hb hby d11_9) rfl  k) ?_
  refine Rch.go (U' := T0.setTop (mkF m 11 #[.val (.int (12 : Int32)), .val (.int p2), .val (.int p3), .val (.int p4), .val (.int p5), .unset, .unset, .unset] [(.int (2 : Int32)), (.int (12 : Int32)), (.int (0 : Int32))])) (fun _ k => XS.iconst X0.here hx rfl (hb hby d11_10) k) ?_
  refine Rch.go (U' := T0.setTop (mkF m 12 #[.val (.int (12 : Int32)), .val (.int p2), .val (.int p3), .val (.int p4), .val (.int p5), .unset, .unset, .unset] [(.int ((12 : Int32) >>> ((2 : Int32) &&& 31))), (.int (0 : Int32))])) (fun _ k => XS.ishr X0.here hx rfl (hb hby d11_11) rfl k) ?_
  rw [(by decide : ((12 : Int32) >>> ((2 : Int32) &&& 31)) = (3 : Int32))]
  refine Rch.go (U' := T0.setTop (mkF m 13 #[.val (.int (12 : Int32)), .val (.int p2), .val (.int p3), .val (.int p4), .val (.int p5), .unset, .unset, .unset] [(.int (1 : Int32)), (.int (3 : Int32)), (.int (0 : Int32))])) (fun _ k => XS.iconst X0.here hx rfl (hb hby d11_12) k) ?_
  refine Rch.go (U' := T0.setTop (mkF m 14 #[.val (.int (12 : Int32)), .val (.int p2), .val (.int p3), .val (.int p4), .val (.int p5), .unset, .unset, .unset] [(.int ((3 : Int32) &&& (1 : Int32))), (.int (0 : Int32))])) (fun _ k => XS.iand X0.here hx rfl (hb hby d11_13) rfl k) ?_
  rw [(by decide : ((3 : Int32) &&& (1 : Int32)) = (1 : Int32))]
  refine Rch.go (U' := T0.setTop (mkF m 15 #[.val (.int (12 : Int32)), .val (.int p2), .val (.int p3), .val (.int p4), .val (.int p5), .unset, .unset, .unset] [(.int ((0 : Int32) + (1 : Int32)))])) (fun _ k => XS.iadd X0.here hx rfl (hb hby d11_14) rfl k) ?_
  rw [(by decide : ((0 : Int32) + (1 : Int32)) = (1 : Int32))]
  refine Rch.go (U' := T0.setTop (mkF m 16 #[.val (.int (12 : Int32)), .val (.int p2), .val (.int p3), .val (.int p4), .val (.int p5), .unset, .unset, .unset] [(.int (12 : Int32)), (.int (1 : Int32))])) (fun _ k => XS.iloadN X0.here hx rfl (hb hby d11_15) rfl  k) ?_
  refine Rch.go (U' := T0.setTop (mkF m 17 #[.val (.int (12 : Int32)), .val (.int p2), .val (.int p3), .val (.int p4), .val (.int p5), .unset, .unset, .unset] [(.int (3 : Int32)), (.int (12 : Int32)), (.int (1 : Int32))])) (fun _ k => XS.iconst X0.here hx rfl (hb hby d11_16) k) ?_
  refine Rch.go (U' := T0.setTop (mkF m 18 #[.val (.int (12 : Int32)), .val (.int p2), .val (.int p3), .val (.int p4), .val (.int p5), .unset, .unset, .unset] [(.int ((12 : Int32) >>> ((3 : Int32) &&& 31))), (.int (1 : Int32))])) (fun _ k => XS.ishr X0.here hx rfl (hb hby d11_17) rfl k) ?_
  rw [(by decide : ((12 : Int32) >>> ((3 : Int32) &&& 31)) = (1 : Int32))]
  refine Rch.go (U' := T0.setTop (mkF m 19 #[.val (.int (12 : Int32)), .val (.int p2), .val (.int p3), .val (.int p4), .val (.int p5), .unset, .unset, .unset] [(.int (1 : Int32)), (.int (1 : Int32)), (.int (1 : Int32))])) (fun _ k => XS.iconst X0.here hx rfl (hb hby d11_18) k) ?_
  refine Rch.go (U' := T0.setTop (mkF m 20 #[.val (.int (12 : Int32)), .val (.int p2), .val (.int p3), .val (.int p4), .val (.int p5), .unset, .unset, .unset] [(.int ((1 : Int32) &&& (1 : Int32))), (.int (1 : Int32))])) (fun _ k => XS.iand X0.here hx rfl (hb hby d11_19) rfl k) ?_
  rw [(by decide : ((1 : Int32) &&& (1 : Int32)) = (1 : Int32))]
  refine Rch.go (U' := T0.setTop (mkF m 21 #[.val (.int (12 : Int32)), .val (.int p2), .val (.int p3), .val (.int p4), .val (.int p5), .unset, .unset, .unset] [(.int ((1 : Int32) + (1 : Int32)))])) (fun _ k => XS.iadd X0.here hx rfl (hb hby d11_20) rfl k) ?_
  rw [(by decide : ((1 : Int32) + (1 : Int32)) = (2 : Int32))]
  refine Rch.go (U' := T0.setTop (mkF m 23 #[.val (.int (12 : Int32)), .val (.int p2), .val (.int p3), .val (.int p4), .val (.int p5), .val (.int (2 : Int32)), .unset, .unset] [])) (fun _ k => XS.istore X0.here hx rfl (hb hby d11_21) rfl (l' := #[.val (.int (12 : Int32)), .val (.int p2), .val (.int p3), .val (.int p4), .val (.int p5), .val (.int (2 : Int32)), .unset, .unset]) rfl k) ?_
  refine Rch.go (U' := T0.setTop (mkF m 25 #[.val (.int (12 : Int32)), .val (.int p2), .val (.int p3), .val (.int p4), .val (.int p5), .val (.int (2 : Int32)), .unset, .unset] [(.int (2 : Int32))])) (fun _ k => XS.iload X0.here hx rfl (hb hby d11_23) rfl  k) ?_
  obtain ⟨T162, h162, k162, X162, e162, E162, A162, st162⟩ := newP X0 hx hZ (wi hw 12 rfl) e0 (g := (mkF m 25 #[.val (.int (12 : Int32)), .val (.int p2), .val (.int p3), .val (.int p4), .val (.int p5), .val (.int (2 : Int32)), .unset, .unset] [(.int (2 : Int32))])) rfl (hb hby d11_25) rfl (by decide) (cap := 2) (by decide) (by decide) (by decide) (by decide)
  obtain ⟨b162, g162⟩ : ∃ z, z = h0.size := ⟨_, rfl⟩
  rw [← g162] at A162 st162
  have n0b162 : n0 ≤ b162 := Nat.le_trans Z0 (Nat.le_of_eq g162.symm)
  have szb162 : h0.size ≤ b162 := Nat.le_trans (Keep.refl h0 []).1 (Nat.le_of_eq g162.symm)
  have z163 := Nat.le_trans Z0 E162.1
  have K164 := (Keep.refl h0 []).ext E162
  have V162 : Arv Z h162 b162 k162 .int (2 : Int32) [(.int (0 : Int32)), (.int (0 : Int32))] (.int (0 : Int32)) := (Arv.new A162 (by decide)).pad (pad_rep [] (.int (0 : Int32)) 2)
  refine Rch.go (U' := T162.setTop (mkF m 27 #[.val (.int (12 : Int32)), .val (.int p2), .val (.int p3), .val (.int p4), .val (.int p5), .val (.int (2 : Int32)), .unset, .unset] [(.ref b162)])) st162 ?_
  refine Rch.go (U' := T162.setTop (mkF m 29 #[.val (.int (12 : Int32)), .val (.int p2), .val (.int p3), .val (.int p4), .val (.int p5), .val (.int (2 : Int32)), .val (.ref b162), .unset] [])) (fun _ k => XS.astore X162.here hx rfl (hb hby d11_27) rfl rfl (l' := #[.val (.int (12 : Int32)), .val (.int p2), .val (.int p3), .val (.int p4), .val (.int p5), .val (.int (2 : Int32)), .val (.ref b162), .unset]) rfl k) ?_
  refine Rch.go (U' := T162.setTop (mkF m 30 #[.val (.int (12 : Int32)), .val (.int p2), .val (.int p3), .val (.int p4), .val (.int p5), .val (.int (2 : Int32)), .val (.ref b162), .unset] [(.int (0 : Int32))])) (fun _ k => XS.iconst X162.here hx rfl (hb hby d11_29) k) ?_
  refine Rch.go (U' := T162.setTop (mkF m 32 #[.val (.int (12 : Int32)), .val (.int p2), .val (.int p3), .val (.int p4), .val (.int p5), .val (.int (2 : Int32)), .val (.ref b162), .val (.int (0 : Int32))] [])) (fun _ k => XS.istore X162.here hx rfl (hb hby d11_30) rfl (l' := #[.val (.int (12 : Int32)), .val (.int p2), .val (.int p3), .val (.int p4), .val (.int p5), .val (.int (2 : Int32)), .val (.ref b162), .val (.int (0 : Int32))]) rfl k) ?_
  refine Rch.go (U' := T162.setTop (mkF m 33 #[.val (.int (12 : Int32)), .val (.int p2), .val (.int p3), .val (.int p4), .val (.int p5), .val (.int (2 : Int32)), .val (.ref b162), .val (.int (0 : Int32))] [(.int (12 : Int32))])) (fun _ k => XS.iloadN X162.here hx rfl (hb hby d11_32) rfl  k) ?_
  refine Rch.go (U' := T162.setTop (mkF m 34 #[.val (.int (12 : Int32)), .val (.int p2), .val (.int p3), .val (.int p4), .val (.int p5), .val (.int (2 : Int32)), .val (.ref b162), .val (.int (0 : Int32))] [(.int (1 : Int32)), (.int (12 : Int32))])) (fun _ k => XS.iconst X162.here hx rfl (hb hby d11_33) k) ?_
  refine Rch.go (U' := T162.setTop (mkF m 35 #[.val (.int (12 : Int32)), .val (.int p2), .val (.int p3), .val (.int p4), .val (.int p5), .val (.int (2 : Int32)), .val (.ref b162), .val (.int (0 : Int32))] [(.int ((12 : Int32) &&& (1 : Int32)))])) (fun _ k => XS.iand X162.here hx rfl (hb hby d11_34) rfl k) ?_
  rw [(by decide : ((12 : Int32) &&& (1 : Int32)) = (0 : Int32))]
  have br165 : (0 : Int32) = (0 : Int32) := (by decide)
  refine Rch.go (U' := T162.setTop (mkF m 50 #[.val (.int (12 : Int32)), .val (.int p2), .val (.int p3), .val (.int p4), .val (.int p5), .val (.int (2 : Int32)), .val (.ref b162), .val (.int (0 : Int32))] [])) (fun _ k => XS.ifYes X162.here hx rfl (pc0 := 35) (pc' := 50) rfl (hb hby d11_35) rfl (XT.i0_eq_t br165) (by decide) (by decide) k) ?_
  refine Rch.go (U' := T162.setTop (mkF m 51 #[.val (.int (12 : Int32)), .val (.int p2), .val (.int p3), .val (.int p4), .val (.int p5), .val (.int (2 : Int32)), .val (.ref b162), .val (.int (0 : Int32))] [(.int (12 : Int32))])) (fun _ k => XS.iloadN X162.here hx rfl (hb hby d11_50) rfl  k) ?_
  refine Rch.go (U' := T162.setTop (mkF m 52 #[.val (.int (12 : Int32)), .val (.int p2), .val (.int p3), .val (.int p4), .val (.int p5), .val (.int (2 : Int32)), .val (.ref b162), .val (.int (0 : Int32))] [(.int (2 : Int32)), (.int (12 : Int32))])) (fun _ k => XS.iconst X162.here hx rfl (hb hby d11_51) k) ?_
  refine Rch.go (U' := T162.setTop (mkF m 53 #[.val (.int (12 : Int32)), .val (.int p2), .val (.int p3), .val (.int p4), .val (.int p5), .val (.int (2 : Int32)), .val (.ref b162), .val (.int (0 : Int32))] [(.int ((12 : Int32) &&& (2 : Int32)))])) (fun _ k => XS.iand X162.here hx rfl (hb hby d11_52) rfl k) ?_
  rw [(by decide : ((12 : Int32) &&& (2 : Int32)) = (0 : Int32))]
  have br166 : (0 : Int32) = (0 : Int32) := (by decide)
  refine Rch.go (U' := T162.setTop (mkF m 68 #[.val (.int (12 : Int32)), .val (.int p2), .val (.int p3), .val (.int p4), .val (.int p5), .val (.int (2 : Int32)), .val (.ref b162), .val (.int (0 : Int32))] [])) (fun _ k => XS.ifYes X162.here hx rfl (pc0 := 53) (pc' := 68) rfl (hb hby d11_53) rfl (XT.i0_eq_t br166) (by decide) (by decide) k) ?_
  refine Rch.go (U' := T162.setTop (mkF m 69 #[.val (.int (12 : Int32)), .val (.int p2), .val (.int p3), .val (.int p4), .val (.int p5), .val (.int (2 : Int32)), .val (.ref b162), .val (.int (0 : Int32))] [(.int (12 : Int32))])) (fun _ k => XS.iloadN X162.here hx rfl (hb hby d11_68) rfl  k) ?_
  refine Rch.go (U' := T162.setTop (mkF m 70 #[.val (.int (12 : Int32)), .val (.int p2), .val (.int p3), .val (.int p4), .val (.int p5), .val (.int (2 : Int32)), .val (.ref b162), .val (.int (0 : Int32))] [(.int (4 : Int32)), (.int (12 : Int32))])) (fun _ k => XS.iconst X162.here hx rfl (hb hby d11_69) k) ?_
  refine Rch.go (U' := T162.setTop (mkF m 71 #[.val (.int (12 : Int32)), .val (.int p2), .val (.int p3), .val (.int p4), .val (.int p5), .val (.int (2 : Int32)), .val (.ref b162), .val (.int (0 : Int32))] [(.int ((12 : Int32) &&& (4 : Int32)))])) (fun _ k => XS.iand X162.here hx rfl (hb hby d11_70) rfl k) ?_
  rw [(by decide : ((12 : Int32) &&& (4 : Int32)) = (4 : Int32))]
  have br167 : ¬ ((4 : Int32) = (0 : Int32)) := (by decide)
  refine Rch.go (U' := T162.setTop (mkF m 74 #[.val (.int (12 : Int32)), .val (.int p2), .val (.int p3), .val (.int p4), .val (.int p5), .val (.int (2 : Int32)), .val (.ref b162), .val (.int (0 : Int32))] [])) (fun _ k => XS.ifNo X162.here hx rfl (hb hby d11_71) rfl (XT.i0_eq_f br167) k) ?_
  refine Rch.go (U' := T162.setTop (mkF m 76 #[.val (.int (12 : Int32)), .val (.int p2), .val (.int p3), .val (.int p4), .val (.int p5), .val (.int (2 : Int32)), .val (.ref b162), .val (.int (0 : Int32))] [(.ref b162)])) (fun _ k => XS.aload X162.here hx rfl (hb hby d11_74) rfl rfl k) ?_
  refine Rch.go (U' := T162.setTop (mkF m 78 #[.val (.int (12 : Int32)), .val (.int p2), .val (.int p3), .val (.int p4), .val (.int p5), .val (.int (2 : Int32)), .val (.ref b162), .val (.int (0 : Int32))] [(.int (0 : Int32)), (.ref b162)])) (fun _ k => XS.iload X162.here hx rfl (hb hby d11_76) rfl  k) ?_
  refine Rch.go (U' := T162.setTop (mkF m 79 #[.val (.int (12 : Int32)), .val (.int p2), .val (.int p3), .val (.int p4), .val (.int p5), .val (.int (2 : Int32)), .val (.ref b162), .val (.int (0 : Int32))] [(.int p4), (.int (0 : Int32)), (.ref b162)])) (fun _ k => XS.iloadN X162.here hx rfl (hb hby d11_78) rfl  k) ?_
  obtain ⟨c168, Ar168, q168, S168, M168, Hs168, G168⟩ := id V162
  have i168 : ¬ ((0 : Int32) < 0 ∨ c168.slots.size ≤ ((0 : Int32)).toNatClampNeg) := inb_of S168 ⟨by decide, by decide⟩
  obtain ⟨T168, h168, X168, e168, W168, st168⟩ := stI X162 hx hZ e162 Ar168 (j := (0 : Int32)) i168 (g := (mkF m 79 #[.val (.int (12 : Int32)), .val (.int p2), .val (.int p3), .val (.int p4), .val (.int p5), .val (.int (2 : Int32)), .val (.ref b162), .val (.int (0 : Int32))] [(.int p4), (.int (0 : Int32)), (.ref b162)])) rfl rfl (hb hby d11_79)
  have V168 : Arv Z h168 b162 k162 .int (2 : Int32) [(.int p4), (.int (0 : Int32))] (.int (0 : Int32)) := Arv.set Ar168 q168 S168 M168 Hs168 G168 rfl W168 0 rfl (Nat.le_of_ble_eq_true rfl)
  have N168 := Fr.snoc X168 N0 n0b162
  have z169 := Nat.le_trans z163 (Keep.of_wr W168).1
  have K170 := K164.wr W168 (Or.inr szb162)
  refine Rch.go (U' := T168.setTop (mkF m 80 #[.val (.int (12 : Int32)), .val (.int p2), .val (.int p3), .val (.int p4), .val (.int p5), .val (.int (2 : Int32)), .val (.ref b162), .val (.int (0 : Int32))] [])) st168 ?_
  refine Rch.go (U' := T168.setTop (mkF m 82 #[.val (.int (12 : Int32)), .val (.int p2), .val (.int p3), .val (.int p4), .val (.int p5), .val (.int (2 : Int32)), .val (.ref b162), .val (.int (0 : Int32))] [(.int (0 : Int32))])) (fun _ k => XS.iload X168.here hx rfl (hb hby d11_80) rfl  k) ?_
  refine Rch.go (U' := T168.setTop (mkF m 83 #[.val (.int (12 : Int32)), .val (.int p2), .val (.int p3), .val (.int p4), .val (.int p5), .val (.int (2 : Int32)), .val (.ref b162), .val (.int (0 : Int32))] [(.int (1 : Int32)), (.int (0 : Int32))])) (fun _ k => XS.iconst X168.here hx rfl (hb hby d11_82) k) ?_
  refine Rch.go (U' := T168.setTop (mkF m 84 #[.val (.int (12 : Int32)), .val (.int p2), .val (.int p3), .val (.int p4), .val (.int p5), .val (.int (2 : Int32)), .val (.ref b162), .val (.int (0 : Int32))] [(.int ((0 : Int32) + (1 : Int32)))])) (fun _ k => XS.iadd X168.here hx rfl (hb hby d11_83) rfl k) ?_
  rw [(by decide : ((0 : Int32) + (1 : Int32)) = (1 : Int32))]
  refine Rch.go (U' := T168.setTop (mkF m 86 #[.val (.int (12 : Int32)), .val (.int p2), .val (.int p3), .val (.int p4), .val (.int p5), .val (.int (2 : Int32)), .val (.ref b162), .val (.int (1 : Int32))] [])) (fun _ k => XS.istore X168.here hx rfl (hb hby d11_84) rfl (l' := #[.val (.int (12 : Int32)), .val (.int p2), .val (.int p3), .val (.int p4), .val (.int p5), .val (.int (2 : Int32)), .val (.ref b162), .val (.int (1 : Int32))]) rfl k) ?_
  refine Rch.go (U' := T168.setTop (mkF m 87 #[.val (.int (12 : Int32)), .val (.int p2), .val (.int p3), .val (.int p4), .val (.int p5), .val (.int (2 : Int32)), .val (.ref b162), .val (.int (1 : Int32))] [(.int (12 : Int32))])) (fun _ k => XS.iloadN X168.here hx rfl (hb hby d11_86) rfl  k) ?_
  refine Rch.go (U' := T168.setTop (mkF m 89 #[.val (.int (12 : Int32)), .val (.int p2), .val (.int p3), .val (.int p4), .val (.int p5), .val (.int (2 : Int32)), .val (.ref b162), .val (.int (1 : Int32))] [(.int (8 : Int32)), (.int (12 : Int32))])) (fun _ k => XS.bipush X168.here hx rfl (hb hby d11_87) k) ?_
  refine Rch.go (U' := T168.setTop (mkF m 90 #[.val (.int (12 : Int32)), .val (.int p2), .val (.int p3), .val (.int p4), .val (.int p5), .val (.int (2 : Int32)), .val (.ref b162), .val (.int (1 : Int32))] [(.int ((12 : Int32) &&& (8 : Int32)))])) (fun _ k => XS.iand X168.here hx rfl (hb hby d11_89) rfl k) ?_
  rw [(by decide : ((12 : Int32) &&& (8 : Int32)) = (8 : Int32))]
  have br171 : ¬ ((8 : Int32) = (0 : Int32)) := (by decide)
  refine Rch.go (U' := T168.setTop (mkF m 93 #[.val (.int (12 : Int32)), .val (.int p2), .val (.int p3), .val (.int p4), .val (.int p5), .val (.int (2 : Int32)), .val (.ref b162), .val (.int (1 : Int32))] [])) (fun _ k => XS.ifNo X168.here hx rfl (hb hby d11_90) rfl (XT.i0_eq_f br171) k) ?_
  refine Rch.go (U' := T168.setTop (mkF m 95 #[.val (.int (12 : Int32)), .val (.int p2), .val (.int p3), .val (.int p4), .val (.int p5), .val (.int (2 : Int32)), .val (.ref b162), .val (.int (1 : Int32))] [(.ref b162)])) (fun _ k => XS.aload X168.here hx rfl (hb hby d11_93) rfl rfl k) ?_
  refine Rch.go (U' := T168.setTop (mkF m 97 #[.val (.int (12 : Int32)), .val (.int p2), .val (.int p3), .val (.int p4), .val (.int p5), .val (.int (2 : Int32)), .val (.ref b162), .val (.int (1 : Int32))] [(.int (1 : Int32)), (.ref b162)])) (fun _ k => XS.iload X168.here hx rfl (hb hby d11_95) rfl  k) ?_
  refine Rch.go (U' := T168.setTop (mkF m 99 #[.val (.int (12 : Int32)), .val (.int p2), .val (.int p3), .val (.int p4), .val (.int p5), .val (.int (2 : Int32)), .val (.ref b162), .val (.int (1 : Int32))] [(.int p5), (.int (1 : Int32)), (.ref b162)])) (fun _ k => XS.iload X168.here hx rfl (hb hby d11_97) rfl  k) ?_
  obtain ⟨c172, Ar172, q172, S172, M172, Hs172, G172⟩ := id V168
  have i172 : ¬ ((1 : Int32) < 0 ∨ c172.slots.size ≤ ((1 : Int32)).toNatClampNeg) := inb_of S172 ⟨by decide, by decide⟩
  obtain ⟨T172, h172, X172, e172, W172, st172⟩ := stI X168 hx hZ e168 Ar172 (j := (1 : Int32)) i172 (g := (mkF m 99 #[.val (.int (12 : Int32)), .val (.int p2), .val (.int p3), .val (.int p4), .val (.int p5), .val (.int (2 : Int32)), .val (.ref b162), .val (.int (1 : Int32))] [(.int p5), (.int (1 : Int32)), (.ref b162)])) rfl rfl (hb hby d11_99)
  have V172 : Arv Z h172 b162 k162 .int (2 : Int32) [(.int p4), (.int p5)] (.int (0 : Int32)) := Arv.set Ar172 q172 S172 M172 Hs172 G172 rfl W172 1 rfl (Nat.le_of_ble_eq_true rfl)
  have N172 := Fr.snoc X172 N168 n0b162
  have z173 := Nat.le_trans z169 (Keep.of_wr W172).1
  have K174 := K170.wr W172 (Or.inr szb162)
  refine Rch.go (U' := T172.setTop (mkF m 100 #[.val (.int (12 : Int32)), .val (.int p2), .val (.int p3), .val (.int p4), .val (.int p5), .val (.int (2 : Int32)), .val (.ref b162), .val (.int (1 : Int32))] [])) st172 ?_
  refine Rch.go (U' := T172.setTop (mkF m 102 #[.val (.int (12 : Int32)), .val (.int p2), .val (.int p3), .val (.int p4), .val (.int p5), .val (.int (2 : Int32)), .val (.ref b162), .val (.int (1 : Int32))] [(.int (1 : Int32))])) (fun _ k => XS.iload X172.here hx rfl (hb hby d11_100) rfl  k) ?_
  refine Rch.go (U' := T172.setTop (mkF m 103 #[.val (.int (12 : Int32)), .val (.int p2), .val (.int p3), .val (.int p4), .val (.int p5), .val (.int (2 : Int32)), .val (.ref b162), .val (.int (1 : Int32))] [(.int (1 : Int32)), (.int (1 : Int32))])) (fun _ k => XS.iconst X172.here hx rfl (hb hby d11_102) k) ?_
  refine Rch.go (U' := T172.setTop (mkF m 104 #[.val (.int (12 : Int32)), .val (.int p2), .val (.int p3), .val (.int p4), .val (.int p5), .val (.int (2 : Int32)), .val (.ref b162), .val (.int (1 : Int32))] [(.int ((1 : Int32) + (1 : Int32)))])) (fun _ k => XS.iadd X172.here hx rfl (hb hby d11_103) rfl k) ?_
  rw [(by decide : ((1 : Int32) + (1 : Int32)) = (2 : Int32))]
  refine Rch.go (U' := T172.setTop (mkF m 106 #[.val (.int (12 : Int32)), .val (.int p2), .val (.int p3), .val (.int p4), .val (.int p5), .val (.int (2 : Int32)), .val (.ref b162), .val (.int (2 : Int32))] [])) (fun _ k => XS.istore X172.here hx rfl (hb hby d11_104) rfl (l' := #[.val (.int (12 : Int32)), .val (.int p2), .val (.int p3), .val (.int p4), .val (.int p5), .val (.int (2 : Int32)), .val (.ref b162), .val (.int (2 : Int32))]) rfl k) ?_
  refine Rch.go (U' := T172.setTop (mkF m 108 #[.val (.int (12 : Int32)), .val (.int p2), .val (.int p3), .val (.int p4), .val (.int p5), .val (.int (2 : Int32)), .val (.ref b162), .val (.int (2 : Int32))] [(.ref b162)])) (fun _ k => XS.aload X172.here hx rfl (hb hby d11_106) rfl rfl k) ?_
  refine Rch.fin X172 hlk (v := some (.ref b162)) (fun h => by rw [hret] at h; cases h) e172 (by decide) (by decide) (fun fs hr => retOut X172 hx hret rfl (Or.inr (Or.inr (Or.inr (Or.inr ⟨rfl, rfl, rfl⟩)))) (hb hby d11_108) hr) ?_
  exact ⟨b162, k162, rfl, N172, K174, n0b162, szb162, by rw [own_s12]; exact V172⟩
theorem own_s13 (p2 p3 p4 p5 : Int32) : own_sub 13 p2 p3 p4 p5 = [p2, p4, p5] := rfl
set_option maxRecDepth 65536 in
set_option maxHeartbeats 40000000 in
theorem sub13 {p : Program} {l : Launch} {e : Env} {s : State} {m : MethodId} {args : Array Value} {below : List Frame} {meth : Method} {c : Code} {T0 : State} {locs : List Loc} {Z : State} {a0 : Array Value} {h0 : Heap} {n0 : Nat}  (p2 : Int32) (p3 : Int32) (p4 : Int32) (p5 : Int32)
    (X0 : Stand p l e ({ frames := 0, cells := 1, slots := 4, locals := 0 } : Room) s m args below meth c T0 locs 0 0) (hx : p.tables.exec = Jvm.exec) (hZ : Z.Warmed39 s.vm) (hw : ∀ d ∈ tables_1, d.before a0 Z = true) (hby : c.code = method_2_code) (hml : c.maxLocals = 8) (hown : s.vm.findClass "com/example/fixpoints_of_behaviour/fixpointsofbehaviour/bisimulation/RefusalsHoldsPinLaw" = some m.cls) (hret : meth.sig.returnType = some (.array .int)) (hlk : meth.locks = false) (e0 : T0.heap = h0) (N0 : Fr n0 locs) (Z0 : n0 ≤ h0.size)  :
    Rch p e below (Fin s below (fun v h L => ∃ (b : Addr) (kb : ClassId), v = some (.ref b) ∧ Fr n0 L ∧ Keep h0 h [] ∧ n0 ≤ b ∧ h0.size ≤ b ∧ Arv Z h b kb .int (Int32.ofNat (own_sub 13 p2 p3 p4 p5).length) ((own_sub 13 p2 p3 p4 p5).map Value.int) (.int (0 : Int32))) 1 4) (T0.setTop (mkF m 0 #[.val (.int (13 : Int32)), .val (.int p2), .val (.int p3), .val (.int p4), .val (.int p5), .unset, .unset, .unset] [])) := by
  refine Rch.go (U' := T0.setTop (mkF m 1 #[.val (.int (13 : Int32)), .val (.int p2), .val (.int p3), .val (.int p4), .val (.int p5), .unset, .unset, .unset] [(.int (13 : Int32))])) (fun _ k => XS.iloadN X0.here hx rfl (hb hby d11_0) rfl  k) ?_
  refine Rch.go (U' := T0.setTop (mkF m 2 #[.val (.int (13 : Int32)), .val (.int p2), .val (.int p3), .val (.int p4), .val (.int p5), .unset, .unset, .unset] [(.int (1 : Int32)), (.int (13 : Int32))])) (fun _ k => XS.iconst X0.here hx rfl (hb hby d11_1) k) ?_
  refine Rch.go (U' := T0.setTop (mkF m 3 #[.val (.int (13 : Int32)), .val (.int p2), .val (.int p3), .val (.int p4), .val (.int p5), .unset, .unset, .unset] [(.int ((13 : Int32) &&& (1 : Int32)))])) (fun _ k => XS.iand X0.here hx rfl (hb hby d11_2) rfl k) ?_
  rw [(by decide : ((13 : Int32) &&& (1 : Int32)) = (1 : Int32))]
  refine Rch.go (U' := T0.setTop (mkF m 4 #[.val (.int (13 : Int32)), .val (.int p2), .val (.int p3), .val (.int p4), .val (.int p5), .unset, .unset, .unset] [(.int (13 : Int32)), (.int (1 : Int32))])) (fun _ k => XS.iloadN X0.here hx rfl (hb hby d11_3) rfl  k) ?_
  refine Rch.go (U' := T0.setTop (mkF m 5 #[.val (.int (13 : Int32)), .val (.int p2), .val (.int p3), .val (.int p4), .val (.int p5), .unset, .unset, .unset] [(.int (1 : Int32)), (.int (13 : Int32)), (.int (1 : Int32))])) (fun _ k => XS.iconst X0.here hx rfl (hb hby d11_4) k) ?_
  refine Rch.go (U' := T0.setTop (mkF m 6 #[.val (.int (13 : Int32)), .val (.int p2), .val (.int p3), .val (.int p4), .val (.int p5), .unset, .unset, .unset] [(.int ((13 : Int32) >>> ((1 : Int32) &&& 31))), (.int (1 : Int32))])) (fun _ k => XS.ishr X0.here hx rfl (hb hby d11_5) rfl k) ?_
  rw [(by decide : ((13 : Int32) >>> ((1 : Int32) &&& 31)) = (6 : Int32))]
  refine Rch.go (U' := T0.setTop (mkF m 7 #[.val (.int (13 : Int32)), .val (.int p2), .val (.int p3), .val (.int p4), .val (.int p5), .unset, .unset, .unset] [(.int (1 : Int32)), (.int (6 : Int32)), (.int (1 : Int32))])) (fun _ k => XS.iconst X0.here hx rfl (hb hby d11_6) k) ?_
  refine Rch.go (U' := T0.setTop (mkF m 8 #[.val (.int (13 : Int32)), .val (.int p2), .val (.int p3), .val (.int p4), .val (.int p5), .unset, .unset, .unset] [(.int ((6 : Int32) &&& (1 : Int32))), (.int (1 : Int32))])) (fun _ k => XS.iand X0.here hx rfl (hb hby d11_7) rfl k) ?_
  rw [(by decide : ((6 : Int32) &&& (1 : Int32)) = (0 : Int32))]
  refine Rch.go (U' := T0.setTop (mkF m 9 #[.val (.int (13 : Int32)), .val (.int p2), .val (.int p3), .val (.int p4), .val (.int p5), .unset, .unset, .unset] [(.int ((1 : Int32) + (0 : Int32)))])) (fun _ k => XS.iadd X0.here hx rfl (hb hby d11_8) rfl k) ?_
  rw [(by decide : ((1 : Int32) + (0 : Int32)) = (1 : Int32))]
  refine Rch.go (U' := T0.setTop (mkF m 10 #[.val (.int (13 : Int32)), .val (.int p2), .val (.int p3), .val (.int p4), .val (.int p5), .unset, .unset, .unset] [(.int (13 : Int32)), (.int (1 : Int32))])) (fun _ k => XS.iloadN X0.here hx rfl (hb hby d11_9) rfl  k) ?_
  refine Rch.go (U' := T0.setTop (mkF m 11 #[.val (.int (13 : Int32)), .val (.int p2), .val (.int p3), .val (.int p4), .val (.int p5), .unset, .unset, .unset] [(.int (2 : Int32)), (.int (13 : Int32)), (.int (1 : Int32))])) (fun _ k => XS.iconst X0.here hx rfl (hb hby d11_10) k) ?_
  refine Rch.go (U' := T0.setTop (mkF m 12 #[.val (.int (13 : Int32)), .val (.int p2), .val (.int p3), .val (.int p4), .val (.int p5), .unset, .unset, .unset] [(.int ((13 : Int32) >>> ((2 : Int32) &&& 31))), (.int (1 : Int32))])) (fun _ k => XS.ishr X0.here hx rfl (hb hby d11_11) rfl k) ?_
  rw [(by decide : ((13 : Int32) >>> ((2 : Int32) &&& 31)) = (3 : Int32))]
  refine Rch.go (U' := T0.setTop (mkF m 13 #[.val (.int (13 : Int32)), .val (.int p2), .val (.int p3), .val (.int p4), .val (.int p5), .unset, .unset, .unset] [(.int (1 : Int32)), (.int (3 : Int32)), (.int (1 : Int32))])) (fun _ k => XS.iconst X0.here hx rfl (hb hby d11_12) k) ?_
  refine Rch.go (U' := T0.setTop (mkF m 14 #[.val (.int (13 : Int32)), .val (.int p2), .val (.int p3), .val (.int p4), .val (.int p5), .unset, .unset, .unset] [(.int ((3 : Int32) &&& (1 : Int32))), (.int (1 : Int32))])) (fun _ k => XS.iand X0.here hx rfl (hb hby d11_13) rfl k) ?_
  rw [(by decide : ((3 : Int32) &&& (1 : Int32)) = (1 : Int32))]
  refine Rch.go (U' := T0.setTop (mkF m 15 #[.val (.int (13 : Int32)), .val (.int p2), .val (.int p3), .val (.int p4), .val (.int p5), .unset, .unset, .unset] [(.int ((1 : Int32) + (1 : Int32)))])) (fun _ k => XS.iadd X0.here hx rfl (hb hby d11_14) rfl k) ?_
  rw [(by decide : ((1 : Int32) + (1 : Int32)) = (2 : Int32))]
  refine Rch.go (U' := T0.setTop (mkF m 16 #[.val (.int (13 : Int32)), .val (.int p2), .val (.int p3), .val (.int p4), .val (.int p5), .unset, .unset, .unset] [(.int (13 : Int32)), (.int (2 : Int32))])) (fun _ k => XS.iloadN X0.here hx rfl (hb hby d11_15) rfl  k) ?_
  refine Rch.go (U' := T0.setTop (mkF m 17 #[.val (.int (13 : Int32)), .val (.int p2), .val (.int p3), .val (.int p4), .val (.int p5), .unset, .unset, .unset] [(.int (3 : Int32)), (.int (13 : Int32)), (.int (2 : Int32))])) (fun _ k => XS.iconst X0.here hx rfl (hb hby d11_16) k) ?_
  refine Rch.go (U' := T0.setTop (mkF m 18 #[.val (.int (13 : Int32)), .val (.int p2), .val (.int p3), .val (.int p4), .val (.int p5), .unset, .unset, .unset] [(.int ((13 : Int32) >>> ((3 : Int32) &&& 31))), (.int (2 : Int32))])) (fun _ k => XS.ishr X0.here hx rfl (hb hby d11_17) rfl k) ?_
  rw [(by decide : ((13 : Int32) >>> ((3 : Int32) &&& 31)) = (1 : Int32))]
  refine Rch.go (U' := T0.setTop (mkF m 19 #[.val (.int (13 : Int32)), .val (.int p2), .val (.int p3), .val (.int p4), .val (.int p5), .unset, .unset, .unset] [(.int (1 : Int32)), (.int (1 : Int32)), (.int (2 : Int32))])) (fun _ k => XS.iconst X0.here hx rfl (hb hby d11_18) k) ?_
  refine Rch.go (U' := T0.setTop (mkF m 20 #[.val (.int (13 : Int32)), .val (.int p2), .val (.int p3), .val (.int p4), .val (.int p5), .unset, .unset, .unset] [(.int ((1 : Int32) &&& (1 : Int32))), (.int (2 : Int32))])) (fun _ k => XS.iand X0.here hx rfl (hb hby d11_19) rfl k) ?_
  rw [(by decide : ((1 : Int32) &&& (1 : Int32)) = (1 : Int32))]
  refine Rch.go (U' := T0.setTop (mkF m 21 #[.val (.int (13 : Int32)), .val (.int p2), .val (.int p3), .val (.int p4), .val (.int p5), .unset, .unset, .unset] [(.int ((2 : Int32) + (1 : Int32)))])) (fun _ k => XS.iadd X0.here hx rfl (hb hby d11_20) rfl k) ?_
  rw [(by decide : ((2 : Int32) + (1 : Int32)) = (3 : Int32))]
  refine Rch.go (U' := T0.setTop (mkF m 23 #[.val (.int (13 : Int32)), .val (.int p2), .val (.int p3), .val (.int p4), .val (.int p5), .val (.int (3 : Int32)), .unset, .unset] [])) (fun _ k => XS.istore X0.here hx rfl (hb hby d11_21) rfl (l' := #[.val (.int (13 : Int32)), .val (.int p2), .val (.int p3), .val (.int p4), .val (.int p5), .val (.int (3 : Int32)), .unset, .unset]) rfl k) ?_
  refine Rch.go (U' := T0.setTop (mkF m 25 #[.val (.int (13 : Int32)), .val (.int p2), .val (.int p3), .val (.int p4), .val (.int p5), .val (.int (3 : Int32)), .unset, .unset] [(.int (3 : Int32))])) (fun _ k => XS.iload X0.here hx rfl (hb hby d11_23) rfl  k) ?_
  obtain ⟨T175, h175, k175, X175, e175, E175, A175, st175⟩ := newP X0 hx hZ (wi hw 12 rfl) e0 (g := (mkF m 25 #[.val (.int (13 : Int32)), .val (.int p2), .val (.int p3), .val (.int p4), .val (.int p5), .val (.int (3 : Int32)), .unset, .unset] [(.int (3 : Int32))])) rfl (hb hby d11_25) rfl (by decide) (cap := 3) (by decide) (by decide) (by decide) (by decide)
  obtain ⟨b175, g175⟩ : ∃ z, z = h0.size := ⟨_, rfl⟩
  rw [← g175] at A175 st175
  have n0b175 : n0 ≤ b175 := Nat.le_trans Z0 (Nat.le_of_eq g175.symm)
  have szb175 : h0.size ≤ b175 := Nat.le_trans (Keep.refl h0 []).1 (Nat.le_of_eq g175.symm)
  have z176 := Nat.le_trans Z0 E175.1
  have K177 := (Keep.refl h0 []).ext E175
  have V175 : Arv Z h175 b175 k175 .int (3 : Int32) [(.int (0 : Int32)), (.int (0 : Int32)), (.int (0 : Int32))] (.int (0 : Int32)) := (Arv.new A175 (by decide)).pad (pad_rep [] (.int (0 : Int32)) 3)
  refine Rch.go (U' := T175.setTop (mkF m 27 #[.val (.int (13 : Int32)), .val (.int p2), .val (.int p3), .val (.int p4), .val (.int p5), .val (.int (3 : Int32)), .unset, .unset] [(.ref b175)])) st175 ?_
  refine Rch.go (U' := T175.setTop (mkF m 29 #[.val (.int (13 : Int32)), .val (.int p2), .val (.int p3), .val (.int p4), .val (.int p5), .val (.int (3 : Int32)), .val (.ref b175), .unset] [])) (fun _ k => XS.astore X175.here hx rfl (hb hby d11_27) rfl rfl (l' := #[.val (.int (13 : Int32)), .val (.int p2), .val (.int p3), .val (.int p4), .val (.int p5), .val (.int (3 : Int32)), .val (.ref b175), .unset]) rfl k) ?_
  refine Rch.go (U' := T175.setTop (mkF m 30 #[.val (.int (13 : Int32)), .val (.int p2), .val (.int p3), .val (.int p4), .val (.int p5), .val (.int (3 : Int32)), .val (.ref b175), .unset] [(.int (0 : Int32))])) (fun _ k => XS.iconst X175.here hx rfl (hb hby d11_29) k) ?_
  refine Rch.go (U' := T175.setTop (mkF m 32 #[.val (.int (13 : Int32)), .val (.int p2), .val (.int p3), .val (.int p4), .val (.int p5), .val (.int (3 : Int32)), .val (.ref b175), .val (.int (0 : Int32))] [])) (fun _ k => XS.istore X175.here hx rfl (hb hby d11_30) rfl (l' := #[.val (.int (13 : Int32)), .val (.int p2), .val (.int p3), .val (.int p4), .val (.int p5), .val (.int (3 : Int32)), .val (.ref b175), .val (.int (0 : Int32))]) rfl k) ?_
  refine Rch.go (U' := T175.setTop (mkF m 33 #[.val (.int (13 : Int32)), .val (.int p2), .val (.int p3), .val (.int p4), .val (.int p5), .val (.int (3 : Int32)), .val (.ref b175), .val (.int (0 : Int32))] [(.int (13 : Int32))])) (fun _ k => XS.iloadN X175.here hx rfl (hb hby d11_32) rfl  k) ?_
  refine Rch.go (U' := T175.setTop (mkF m 34 #[.val (.int (13 : Int32)), .val (.int p2), .val (.int p3), .val (.int p4), .val (.int p5), .val (.int (3 : Int32)), .val (.ref b175), .val (.int (0 : Int32))] [(.int (1 : Int32)), (.int (13 : Int32))])) (fun _ k => XS.iconst X175.here hx rfl (hb hby d11_33) k) ?_
  refine Rch.go (U' := T175.setTop (mkF m 35 #[.val (.int (13 : Int32)), .val (.int p2), .val (.int p3), .val (.int p4), .val (.int p5), .val (.int (3 : Int32)), .val (.ref b175), .val (.int (0 : Int32))] [(.int ((13 : Int32) &&& (1 : Int32)))])) (fun _ k => XS.iand X175.here hx rfl (hb hby d11_34) rfl k) ?_
  rw [(by decide : ((13 : Int32) &&& (1 : Int32)) = (1 : Int32))]
  have br178 : ¬ ((1 : Int32) = (0 : Int32)) := (by decide)
  refine Rch.go (U' := T175.setTop (mkF m 38 #[.val (.int (13 : Int32)), .val (.int p2), .val (.int p3), .val (.int p4), .val (.int p5), .val (.int (3 : Int32)), .val (.ref b175), .val (.int (0 : Int32))] [])) (fun _ k => XS.ifNo X175.here hx rfl (hb hby d11_35) rfl (XT.i0_eq_f br178) k) ?_
  refine Rch.go (U' := T175.setTop (mkF m 40 #[.val (.int (13 : Int32)), .val (.int p2), .val (.int p3), .val (.int p4), .val (.int p5), .val (.int (3 : Int32)), .val (.ref b175), .val (.int (0 : Int32))] [(.ref b175)])) (fun _ k => XS.aload X175.here hx rfl (hb hby d11_38) rfl rfl k) ?_
  refine Rch.go (U' := T175.setTop (mkF m 42 #[.val (.int (13 : Int32)), .val (.int p2), .val (.int p3), .val (.int p4), .val (.int p5), .val (.int (3 : Int32)), .val (.ref b175), .val (.int (0 : Int32))] [(.int (0 : Int32)), (.ref b175)])) (fun _ k => XS.iload X175.here hx rfl (hb hby d11_40) rfl  k) ?_
  refine Rch.go (U' := T175.setTop (mkF m 43 #[.val (.int (13 : Int32)), .val (.int p2), .val (.int p3), .val (.int p4), .val (.int p5), .val (.int (3 : Int32)), .val (.ref b175), .val (.int (0 : Int32))] [(.int p2), (.int (0 : Int32)), (.ref b175)])) (fun _ k => XS.iloadN X175.here hx rfl (hb hby d11_42) rfl  k) ?_
  obtain ⟨c179, Ar179, q179, S179, M179, Hs179, G179⟩ := id V175
  have i179 : ¬ ((0 : Int32) < 0 ∨ c179.slots.size ≤ ((0 : Int32)).toNatClampNeg) := inb_of S179 ⟨by decide, by decide⟩
  obtain ⟨T179, h179, X179, e179, W179, st179⟩ := stI X175 hx hZ e175 Ar179 (j := (0 : Int32)) i179 (g := (mkF m 43 #[.val (.int (13 : Int32)), .val (.int p2), .val (.int p3), .val (.int p4), .val (.int p5), .val (.int (3 : Int32)), .val (.ref b175), .val (.int (0 : Int32))] [(.int p2), (.int (0 : Int32)), (.ref b175)])) rfl rfl (hb hby d11_43)
  have V179 : Arv Z h179 b175 k175 .int (3 : Int32) [(.int p2), (.int (0 : Int32)), (.int (0 : Int32))] (.int (0 : Int32)) := Arv.set Ar179 q179 S179 M179 Hs179 G179 rfl W179 0 rfl (Nat.le_of_ble_eq_true rfl)
  have N179 := Fr.snoc X179 N0 n0b175
  have z180 := Nat.le_trans z176 (Keep.of_wr W179).1
  have K181 := K177.wr W179 (Or.inr szb175)
  refine Rch.go (U' := T179.setTop (mkF m 44 #[.val (.int (13 : Int32)), .val (.int p2), .val (.int p3), .val (.int p4), .val (.int p5), .val (.int (3 : Int32)), .val (.ref b175), .val (.int (0 : Int32))] [])) st179 ?_
  refine Rch.go (U' := T179.setTop (mkF m 46 #[.val (.int (13 : Int32)), .val (.int p2), .val (.int p3), .val (.int p4), .val (.int p5), .val (.int (3 : Int32)), .val (.ref b175), .val (.int (0 : Int32))] [(.int (0 : Int32))])) (fun _ k => XS.iload X179.here hx rfl (hb hby d11_44) rfl  k) ?_
  refine Rch.go (U' := T179.setTop (mkF m 47 #[.val (.int (13 : Int32)), .val (.int p2), .val (.int p3), .val (.int p4), .val (.int p5), .val (.int (3 : Int32)), .val (.ref b175), .val (.int (0 : Int32))] [(.int (1 : Int32)), (.int (0 : Int32))])) (fun _ k => XS.iconst X179.here hx rfl (hb hby d11_46) k) ?_
  refine Rch.go (U' := T179.setTop (mkF m 48 #[.val (.int (13 : Int32)), .val (.int p2), .val (.int p3), .val (.int p4), .val (.int p5), .val (.int (3 : Int32)), .val (.ref b175), .val (.int (0 : Int32))] [(.int ((0 : Int32) + (1 : Int32)))])) (fun _ k => XS.iadd X179.here hx rfl (hb hby d11_47) rfl k) ?_
  rw [(by decide : ((0 : Int32) + (1 : Int32)) = (1 : Int32))]
  refine Rch.go (U' := T179.setTop (mkF m 50 #[.val (.int (13 : Int32)), .val (.int p2), .val (.int p3), .val (.int p4), .val (.int p5), .val (.int (3 : Int32)), .val (.ref b175), .val (.int (1 : Int32))] [])) (fun _ k => XS.istore X179.here hx rfl (hb hby d11_48) rfl (l' := #[.val (.int (13 : Int32)), .val (.int p2), .val (.int p3), .val (.int p4), .val (.int p5), .val (.int (3 : Int32)), .val (.ref b175), .val (.int (1 : Int32))]) rfl k) ?_
  refine Rch.go (U' := T179.setTop (mkF m 51 #[.val (.int (13 : Int32)), .val (.int p2), .val (.int p3), .val (.int p4), .val (.int p5), .val (.int (3 : Int32)), .val (.ref b175), .val (.int (1 : Int32))] [(.int (13 : Int32))])) (fun _ k => XS.iloadN X179.here hx rfl (hb hby d11_50) rfl  k) ?_
  refine Rch.go (U' := T179.setTop (mkF m 52 #[.val (.int (13 : Int32)), .val (.int p2), .val (.int p3), .val (.int p4), .val (.int p5), .val (.int (3 : Int32)), .val (.ref b175), .val (.int (1 : Int32))] [(.int (2 : Int32)), (.int (13 : Int32))])) (fun _ k => XS.iconst X179.here hx rfl (hb hby d11_51) k) ?_
  refine Rch.go (U' := T179.setTop (mkF m 53 #[.val (.int (13 : Int32)), .val (.int p2), .val (.int p3), .val (.int p4), .val (.int p5), .val (.int (3 : Int32)), .val (.ref b175), .val (.int (1 : Int32))] [(.int ((13 : Int32) &&& (2 : Int32)))])) (fun _ k => XS.iand X179.here hx rfl (hb hby d11_52) rfl k) ?_
  rw [(by decide : ((13 : Int32) &&& (2 : Int32)) = (0 : Int32))]
  have br182 : (0 : Int32) = (0 : Int32) := (by decide)
  refine Rch.go (U' := T179.setTop (mkF m 68 #[.val (.int (13 : Int32)), .val (.int p2), .val (.int p3), .val (.int p4), .val (.int p5), .val (.int (3 : Int32)), .val (.ref b175), .val (.int (1 : Int32))] [])) (fun _ k => XS.ifYes X179.here hx rfl (pc0 := 53) (pc' := 68) rfl (hb hby d11_53) rfl (XT.i0_eq_t br182) (by decide) (by decide) k) ?_
  refine Rch.go (U' := T179.setTop (mkF m 69 #[.val (.int (13 : Int32)), .val (.int p2), .val (.int p3), .val (.int p4), .val (.int p5), .val (.int (3 : Int32)), .val (.ref b175), .val (.int (1 : Int32))] [(.int (13 : Int32))])) (fun _ k => XS.iloadN X179.here hx rfl (hb hby d11_68) rfl  k) ?_
  refine Rch.go (U' := T179.setTop (mkF m 70 #[.val (.int (13 : Int32)), .val (.int p2), .val (.int p3), .val (.int p4), .val (.int p5), .val (.int (3 : Int32)), .val (.ref b175), .val (.int (1 : Int32))] [(.int (4 : Int32)), (.int (13 : Int32))])) (fun _ k => XS.iconst X179.here hx rfl (hb hby d11_69) k) ?_
  refine Rch.go (U' := T179.setTop (mkF m 71 #[.val (.int (13 : Int32)), .val (.int p2), .val (.int p3), .val (.int p4), .val (.int p5), .val (.int (3 : Int32)), .val (.ref b175), .val (.int (1 : Int32))] [(.int ((13 : Int32) &&& (4 : Int32)))])) (fun _ k => XS.iand X179.here hx rfl (hb hby d11_70) rfl k) ?_
  rw [(by decide : ((13 : Int32) &&& (4 : Int32)) = (4 : Int32))]
  have br183 : ¬ ((4 : Int32) = (0 : Int32)) := (by decide)
  refine Rch.go (U' := T179.setTop (mkF m 74 #[.val (.int (13 : Int32)), .val (.int p2), .val (.int p3), .val (.int p4), .val (.int p5), .val (.int (3 : Int32)), .val (.ref b175), .val (.int (1 : Int32))] [])) (fun _ k => XS.ifNo X179.here hx rfl (hb hby d11_71) rfl (XT.i0_eq_f br183) k) ?_
  refine Rch.go (U' := T179.setTop (mkF m 76 #[.val (.int (13 : Int32)), .val (.int p2), .val (.int p3), .val (.int p4), .val (.int p5), .val (.int (3 : Int32)), .val (.ref b175), .val (.int (1 : Int32))] [(.ref b175)])) (fun _ k => XS.aload X179.here hx rfl (hb hby d11_74) rfl rfl k) ?_
  refine Rch.go (U' := T179.setTop (mkF m 78 #[.val (.int (13 : Int32)), .val (.int p2), .val (.int p3), .val (.int p4), .val (.int p5), .val (.int (3 : Int32)), .val (.ref b175), .val (.int (1 : Int32))] [(.int (1 : Int32)), (.ref b175)])) (fun _ k => XS.iload X179.here hx rfl (hb hby d11_76) rfl  k) ?_
  refine Rch.go (U' := T179.setTop (mkF m 79 #[.val (.int (13 : Int32)), .val (.int p2), .val (.int p3), .val (.int p4), .val (.int p5), .val (.int (3 : Int32)), .val (.ref b175), .val (.int (1 : Int32))] [(.int p4), (.int (1 : Int32)), (.ref b175)])) (fun _ k => XS.iloadN X179.here hx rfl (hb hby d11_78) rfl  k) ?_
  obtain ⟨c184, Ar184, q184, S184, M184, Hs184, G184⟩ := id V179
  have i184 : ¬ ((1 : Int32) < 0 ∨ c184.slots.size ≤ ((1 : Int32)).toNatClampNeg) := inb_of S184 ⟨by decide, by decide⟩
  obtain ⟨T184, h184, X184, e184, W184, st184⟩ := stI X179 hx hZ e179 Ar184 (j := (1 : Int32)) i184 (g := (mkF m 79 #[.val (.int (13 : Int32)), .val (.int p2), .val (.int p3), .val (.int p4), .val (.int p5), .val (.int (3 : Int32)), .val (.ref b175), .val (.int (1 : Int32))] [(.int p4), (.int (1 : Int32)), (.ref b175)])) rfl rfl (hb hby d11_79)
  have V184 : Arv Z h184 b175 k175 .int (3 : Int32) [(.int p2), (.int p4), (.int (0 : Int32))] (.int (0 : Int32)) := Arv.set Ar184 q184 S184 M184 Hs184 G184 rfl W184 1 rfl (Nat.le_of_ble_eq_true rfl)
  have N184 := Fr.snoc X184 N179 n0b175
  have z185 := Nat.le_trans z180 (Keep.of_wr W184).1
  have K186 := K181.wr W184 (Or.inr szb175)
  refine Rch.go (U' := T184.setTop (mkF m 80 #[.val (.int (13 : Int32)), .val (.int p2), .val (.int p3), .val (.int p4), .val (.int p5), .val (.int (3 : Int32)), .val (.ref b175), .val (.int (1 : Int32))] [])) st184 ?_
  refine Rch.go (U' := T184.setTop (mkF m 82 #[.val (.int (13 : Int32)), .val (.int p2), .val (.int p3), .val (.int p4), .val (.int p5), .val (.int (3 : Int32)), .val (.ref b175), .val (.int (1 : Int32))] [(.int (1 : Int32))])) (fun _ k => XS.iload X184.here hx rfl (hb hby d11_80) rfl  k) ?_
  refine Rch.go (U' := T184.setTop (mkF m 83 #[.val (.int (13 : Int32)), .val (.int p2), .val (.int p3), .val (.int p4), .val (.int p5), .val (.int (3 : Int32)), .val (.ref b175), .val (.int (1 : Int32))] [(.int (1 : Int32)), (.int (1 : Int32))])) (fun _ k => XS.iconst X184.here hx rfl (hb hby d11_82) k) ?_
  refine Rch.go (U' := T184.setTop (mkF m 84 #[.val (.int (13 : Int32)), .val (.int p2), .val (.int p3), .val (.int p4), .val (.int p5), .val (.int (3 : Int32)), .val (.ref b175), .val (.int (1 : Int32))] [(.int ((1 : Int32) + (1 : Int32)))])) (fun _ k => XS.iadd X184.here hx rfl (hb hby d11_83) rfl k) ?_
  rw [(by decide : ((1 : Int32) + (1 : Int32)) = (2 : Int32))]
  refine Rch.go (U' := T184.setTop (mkF m 86 #[.val (.int (13 : Int32)), .val (.int p2), .val (.int p3), .val (.int p4), .val (.int p5), .val (.int (3 : Int32)), .val (.ref b175), .val (.int (2 : Int32))] [])) (fun _ k => XS.istore X184.here hx rfl (hb hby d11_84) rfl (l' := #[.val (.int (13 : Int32)), .val (.int p2), .val (.int p3), .val (.int p4), .val (.int p5), .val (.int (3 : Int32)), .val (.ref b175), .val (.int (2 : Int32))]) rfl k) ?_
  refine Rch.go (U' := T184.setTop (mkF m 87 #[.val (.int (13 : Int32)), .val (.int p2), .val (.int p3), .val (.int p4), .val (.int p5), .val (.int (3 : Int32)), .val (.ref b175), .val (.int (2 : Int32))] [(.int (13 : Int32))])) (fun _ k => XS.iloadN X184.here hx rfl (hb hby d11_86) rfl  k) ?_
  refine Rch.go (U' := T184.setTop (mkF m 89 #[.val (.int (13 : Int32)), .val (.int p2), .val (.int p3), .val (.int p4), .val (.int p5), .val (.int (3 : Int32)), .val (.ref b175), .val (.int (2 : Int32))] [(.int (8 : Int32)), (.int (13 : Int32))])) (fun _ k => XS.bipush X184.here hx rfl (hb hby d11_87) k) ?_
  refine Rch.go (U' := T184.setTop (mkF m 90 #[.val (.int (13 : Int32)), .val (.int p2), .val (.int p3), .val (.int p4), .val (.int p5), .val (.int (3 : Int32)), .val (.ref b175), .val (.int (2 : Int32))] [(.int ((13 : Int32) &&& (8 : Int32)))])) (fun _ k => XS.iand X184.here hx rfl (hb hby d11_89) rfl k) ?_
  rw [(by decide : ((13 : Int32) &&& (8 : Int32)) = (8 : Int32))]
  have br187 : ¬ ((8 : Int32) = (0 : Int32)) := (by decide)
  refine Rch.go (U' := T184.setTop (mkF m 93 #[.val (.int (13 : Int32)), .val (.int p2), .val (.int p3), .val (.int p4), .val (.int p5), .val (.int (3 : Int32)), .val (.ref b175), .val (.int (2 : Int32))] [])) (fun _ k => XS.ifNo X184.here hx rfl (hb hby d11_90) rfl (XT.i0_eq_f br187) k) ?_
  refine Rch.go (U' := T184.setTop (mkF m 95 #[.val (.int (13 : Int32)), .val (.int p2), .val (.int p3), .val (.int p4), .val (.int p5), .val (.int (3 : Int32)), .val (.ref b175), .val (.int (2 : Int32))] [(.ref b175)])) (fun _ k => XS.aload X184.here hx rfl (hb hby d11_93) rfl rfl k) ?_
  refine Rch.go (U' := T184.setTop (mkF m 97 #[.val (.int (13 : Int32)), .val (.int p2), .val (.int p3), .val (.int p4), .val (.int p5), .val (.int (3 : Int32)), .val (.ref b175), .val (.int (2 : Int32))] [(.int (2 : Int32)), (.ref b175)])) (fun _ k => XS.iload X184.here hx rfl (hb hby d11_95) rfl  k) ?_
  refine Rch.go (U' := T184.setTop (mkF m 99 #[.val (.int (13 : Int32)), .val (.int p2), .val (.int p3), .val (.int p4), .val (.int p5), .val (.int (3 : Int32)), .val (.ref b175), .val (.int (2 : Int32))] [(.int p5), (.int (2 : Int32)), (.ref b175)])) (fun _ k => XS.iload X184.here hx rfl (hb hby d11_97) rfl  k) ?_
  obtain ⟨c188, Ar188, q188, S188, M188, Hs188, G188⟩ := id V184
  have i188 : ¬ ((2 : Int32) < 0 ∨ c188.slots.size ≤ ((2 : Int32)).toNatClampNeg) := inb_of S188 ⟨by decide, by decide⟩
  obtain ⟨T188, h188, X188, e188, W188, st188⟩ := stI X184 hx hZ e184 Ar188 (j := (2 : Int32)) i188 (g := (mkF m 99 #[.val (.int (13 : Int32)), .val (.int p2), .val (.int p3), .val (.int p4), .val (.int p5), .val (.int (3 : Int32)), .val (.ref b175), .val (.int (2 : Int32))] [(.int p5), (.int (2 : Int32)), (.ref b175)])) rfl rfl (hb hby d11_99)
  have V188 : Arv Z h188 b175 k175 .int (3 : Int32) [(.int p2), (.int p4), (.int p5)] (.int (0 : Int32)) := Arv.set Ar188 q188 S188 M188 Hs188 G188 rfl W188 2 rfl (Nat.le_of_ble_eq_true rfl)
  have N188 := Fr.snoc X188 N184 n0b175
  have z189 := Nat.le_trans z185 (Keep.of_wr W188).1
  have K190 := K186.wr W188 (Or.inr szb175)
  refine Rch.go (U' := T188.setTop (mkF m 100 #[.val (.int (13 : Int32)), .val (.int p2), .val (.int p3), .val (.int p4), .val (.int p5), .val (.int (3 : Int32)), .val (.ref b175), .val (.int (2 : Int32))] [])) st188 ?_
  refine Rch.go (U' := T188.setTop (mkF m 102 #[.val (.int (13 : Int32)), .val (.int p2), .val (.int p3), .val (.int p4), .val (.int p5), .val (.int (3 : Int32)), .val (.ref b175), .val (.int (2 : Int32))] [(.int (2 : Int32))])) (fun _ k => XS.iload X188.here hx rfl (hb hby d11_100) rfl  k) ?_
  refine Rch.go (U' := T188.setTop (mkF m 103 #[.val (.int (13 : Int32)), .val (.int p2), .val (.int p3), .val (.int p4), .val (.int p5), .val (.int (3 : Int32)), .val (.ref b175), .val (.int (2 : Int32))] [(.int (1 : Int32)), (.int (2 : Int32))])) (fun _ k => XS.iconst X188.here hx rfl (hb hby d11_102) k) ?_
  refine Rch.go (U' := T188.setTop (mkF m 104 #[.val (.int (13 : Int32)), .val (.int p2), .val (.int p3), .val (.int p4), .val (.int p5), .val (.int (3 : Int32)), .val (.ref b175), .val (.int (2 : Int32))] [(.int ((2 : Int32) + (1 : Int32)))])) (fun _ k => XS.iadd X188.here hx rfl (hb hby d11_103) rfl k) ?_
  rw [(by decide : ((2 : Int32) + (1 : Int32)) = (3 : Int32))]
  refine Rch.go (U' := T188.setTop (mkF m 106 #[.val (.int (13 : Int32)), .val (.int p2), .val (.int p3), .val (.int p4), .val (.int p5), .val (.int (3 : Int32)), .val (.ref b175), .val (.int (3 : Int32))] [])) (fun _ k => XS.istore X188.here hx rfl (hb hby d11_104) rfl (l' := #[.val (.int (13 : Int32)), .val (.int p2), .val (.int p3), .val (.int p4), .val (.int p5), .val (.int (3 : Int32)), .val (.ref b175), .val (.int (3 : Int32))]) rfl k) ?_
  refine Rch.go (U' := T188.setTop (mkF m 108 #[.val (.int (13 : Int32)), .val (.int p2), .val (.int p3), .val (.int p4), .val (.int p5), .val (.int (3 : Int32)), .val (.ref b175), .val (.int (3 : Int32))] [(.ref b175)])) (fun _ k => XS.aload X188.here hx rfl (hb hby d11_106) rfl rfl k) ?_
  refine Rch.fin X188 hlk (v := some (.ref b175)) (fun h => by rw [hret] at h; cases h) e188 (by decide) (by decide) (fun fs hr => retOut X188 hx hret rfl (Or.inr (Or.inr (Or.inr (Or.inr ⟨rfl, rfl, rfl⟩)))) (hb hby d11_108) hr) ?_
  exact ⟨b175, k175, rfl, N188, K190, n0b175, szb175, by rw [own_s13]; exact V188⟩
theorem own_s14 (p2 p3 p4 p5 : Int32) : own_sub 14 p2 p3 p4 p5 = [p3, p4, p5] := rfl
set_option maxRecDepth 65536 in
set_option maxHeartbeats 40000000 in
theorem sub14 {p : Program} {l : Launch} {e : Env} {s : State} {m : MethodId} {args : Array Value} {below : List Frame} {meth : Method} {c : Code} {T0 : State} {locs : List Loc} {Z : State} {a0 : Array Value} {h0 : Heap} {n0 : Nat}  (p2 : Int32) (p3 : Int32) (p4 : Int32) (p5 : Int32)
    (X0 : Stand p l e ({ frames := 0, cells := 1, slots := 4, locals := 0 } : Room) s m args below meth c T0 locs 0 0) (hx : p.tables.exec = Jvm.exec) (hZ : Z.Warmed39 s.vm) (hw : ∀ d ∈ tables_1, d.before a0 Z = true) (hby : c.code = method_2_code) (hml : c.maxLocals = 8) (hown : s.vm.findClass "com/example/fixpoints_of_behaviour/fixpointsofbehaviour/bisimulation/RefusalsHoldsPinLaw" = some m.cls) (hret : meth.sig.returnType = some (.array .int)) (hlk : meth.locks = false) (e0 : T0.heap = h0) (N0 : Fr n0 locs) (Z0 : n0 ≤ h0.size)  :
    Rch p e below (Fin s below (fun v h L => ∃ (b : Addr) (kb : ClassId), v = some (.ref b) ∧ Fr n0 L ∧ Keep h0 h [] ∧ n0 ≤ b ∧ h0.size ≤ b ∧ Arv Z h b kb .int (Int32.ofNat (own_sub 14 p2 p3 p4 p5).length) ((own_sub 14 p2 p3 p4 p5).map Value.int) (.int (0 : Int32))) 1 4) (T0.setTop (mkF m 0 #[.val (.int (14 : Int32)), .val (.int p2), .val (.int p3), .val (.int p4), .val (.int p5), .unset, .unset, .unset] [])) := by
  refine Rch.go (U' := T0.setTop (mkF m 1 #[.val (.int (14 : Int32)), .val (.int p2), .val (.int p3), .val (.int p4), .val (.int p5), .unset, .unset, .unset] [(.int (14 : Int32))])) (fun _ k => XS.iloadN X0.here hx rfl (hb hby d11_0) rfl  k) ?_
  refine Rch.go (U' := T0.setTop (mkF m 2 #[.val (.int (14 : Int32)), .val (.int p2), .val (.int p3), .val (.int p4), .val (.int p5), .unset, .unset, .unset] [(.int (1 : Int32)), (.int (14 : Int32))])) (fun _ k => XS.iconst X0.here hx rfl (hb hby d11_1) k) ?_
  refine Rch.go (U' := T0.setTop (mkF m 3 #[.val (.int (14 : Int32)), .val (.int p2), .val (.int p3), .val (.int p4), .val (.int p5), .unset, .unset, .unset] [(.int ((14 : Int32) &&& (1 : Int32)))])) (fun _ k => XS.iand X0.here hx rfl (hb hby d11_2) rfl k) ?_
  rw [(by decide : ((14 : Int32) &&& (1 : Int32)) = (0 : Int32))]
  refine Rch.go (U' := T0.setTop (mkF m 4 #[.val (.int (14 : Int32)), .val (.int p2), .val (.int p3), .val (.int p4), .val (.int p5), .unset, .unset, .unset] [(.int (14 : Int32)), (.int (0 : Int32))])) (fun _ k => XS.iloadN X0.here hx rfl (hb hby d11_3) rfl  k) ?_
  refine Rch.go (U' := T0.setTop (mkF m 5 #[.val (.int (14 : Int32)), .val (.int p2), .val (.int p3), .val (.int p4), .val (.int p5), .unset, .unset, .unset] [(.int (1 : Int32)), (.int (14 : Int32)), (.int (0 : Int32))])) (fun _ k => XS.iconst X0.here hx rfl (hb hby d11_4) k) ?_
  refine Rch.go (U' := T0.setTop (mkF m 6 #[.val (.int (14 : Int32)), .val (.int p2), .val (.int p3), .val (.int p4), .val (.int p5), .unset, .unset, .unset] [(.int ((14 : Int32) >>> ((1 : Int32) &&& 31))), (.int (0 : Int32))])) (fun _ k => XS.ishr X0.here hx rfl (hb hby d11_5) rfl k) ?_
  rw [(by decide : ((14 : Int32) >>> ((1 : Int32) &&& 31)) = (7 : Int32))]
  refine Rch.go (U' := T0.setTop (mkF m 7 #[.val (.int (14 : Int32)), .val (.int p2), .val (.int p3), .val (.int p4), .val (.int p5), .unset, .unset, .unset] [(.int (1 : Int32)), (.int (7 : Int32)), (.int (0 : Int32))])) (fun _ k => XS.iconst X0.here hx rfl (hb hby d11_6) k) ?_
  refine Rch.go (U' := T0.setTop (mkF m 8 #[.val (.int (14 : Int32)), .val (.int p2), .val (.int p3), .val (.int p4), .val (.int p5), .unset, .unset, .unset] [(.int ((7 : Int32) &&& (1 : Int32))), (.int (0 : Int32))])) (fun _ k => XS.iand X0.here hx rfl (hb hby d11_7) rfl k) ?_
  rw [(by decide : ((7 : Int32) &&& (1 : Int32)) = (1 : Int32))]
  refine Rch.go (U' := T0.setTop (mkF m 9 #[.val (.int (14 : Int32)), .val (.int p2), .val (.int p3), .val (.int p4), .val (.int p5), .unset, .unset, .unset] [(.int ((0 : Int32) + (1 : Int32)))])) (fun _ k => XS.iadd X0.here hx rfl (hb hby d11_8) rfl k) ?_
  rw [(by decide : ((0 : Int32) + (1 : Int32)) = (1 : Int32))]
  refine Rch.go (U' := T0.setTop (mkF m 10 #[.val (.int (14 : Int32)), .val (.int p2), .val (.int p3), .val (.int p4), .val (.int p5), .unset, .unset, .unset] [(.int (14 : Int32)), (.int (1 : Int32))])) (fun _ k => XS.iloadN X0.here hx rfl (hb hby d11_9) rfl  k) ?_
  refine Rch.go (U' := T0.setTop (mkF m 11 #[.val (.int (14 : Int32)), .val (.int p2), .val (.int p3), .val (.int p4), .val (.int p5), .unset, .unset, .unset] [(.int (2 : Int32)), (.int (14 : Int32)), (.int (1 : Int32))])) (fun _ k => XS.iconst X0.here hx rfl (hb hby d11_10) k) ?_
  refine Rch.go (U' := T0.setTop (mkF m 12 #[.val (.int (14 : Int32)), .val (.int p2), .val (.int p3), .val (.int p4), .val (.int p5), .unset, .unset, .unset] [(.int ((14 : Int32) >>> ((2 : Int32) &&& 31))), (.int (1 : Int32))])) (fun _ k => XS.ishr X0.here hx rfl (hb hby d11_11) rfl k) ?_
  rw [(by decide : ((14 : Int32) >>> ((2 : Int32) &&& 31)) = (3 : Int32))]
  refine Rch.go (U' := T0.setTop (mkF m 13 #[.val (.int (14 : Int32)), .val (.int p2), .val (.int p3), .val (.int p4), .val (.int p5), .unset, .unset, .unset] [(.int (1 : Int32)), (.int (3 : Int32)), (.int (1 : Int32))])) (fun _ k => XS.iconst X0.here hx rfl (hb hby d11_12) k) ?_
  refine Rch.go (U' := T0.setTop (mkF m 14 #[.val (.int (14 : Int32)), .val (.int p2), .val (.int p3), .val (.int p4), .val (.int p5), .unset, .unset, .unset] [(.int ((3 : Int32) &&& (1 : Int32))), (.int (1 : Int32))])) (fun _ k => XS.iand X0.here hx rfl (hb hby d11_13) rfl k) ?_
  rw [(by decide : ((3 : Int32) &&& (1 : Int32)) = (1 : Int32))]
  refine Rch.go (U' := T0.setTop (mkF m 15 #[.val (.int (14 : Int32)), .val (.int p2), .val (.int p3), .val (.int p4), .val (.int p5), .unset, .unset, .unset] [(.int ((1 : Int32) + (1 : Int32)))])) (fun _ k => XS.iadd X0.here hx rfl (hb hby d11_14) rfl k) ?_
  rw [(by decide : ((1 : Int32) + (1 : Int32)) = (2 : Int32))]
  refine Rch.go (U' := T0.setTop (mkF m 16 #[.val (.int (14 : Int32)), .val (.int p2), .val (.int p3), .val (.int p4), .val (.int p5), .unset, .unset, .unset] [(.int (14 : Int32)), (.int (2 : Int32))])) (fun _ k => XS.iloadN X0.here hx rfl (hb hby d11_15) rfl  k) ?_
  refine Rch.go (U' := T0.setTop (mkF m 17 #[.val (.int (14 : Int32)), .val (.int p2), .val (.int p3), .val (.int p4), .val (.int p5), .unset, .unset, .unset] [(.int (3 : Int32)), (.int (14 : Int32)), (.int (2 : Int32))])) (fun _ k => XS.iconst X0.here hx rfl (hb hby d11_16) k) ?_
  refine Rch.go (U' := T0.setTop (mkF m 18 #[.val (.int (14 : Int32)), .val (.int p2), .val (.int p3), .val (.int p4), .val (.int p5), .unset, .unset, .unset] [(.int ((14 : Int32) >>> ((3 : Int32) &&& 31))), (.int (2 : Int32))])) (fun _ k => XS.ishr X0.here hx rfl (hb hby d11_17) rfl k) ?_
  rw [(by decide : ((14 : Int32) >>> ((3 : Int32) &&& 31)) = (1 : Int32))]
  refine Rch.go (U' := T0.setTop (mkF m 19 #[.val (.int (14 : Int32)), .val (.int p2), .val (.int p3), .val (.int p4), .val (.int p5), .unset, .unset, .unset] [(.int (1 : Int32)), (.int (1 : Int32)), (.int (2 : Int32))])) (fun _ k => XS.iconst X0.here hx rfl (hb hby d11_18) k) ?_
  refine Rch.go (U' := T0.setTop (mkF m 20 #[.val (.int (14 : Int32)), .val (.int p2), .val (.int p3), .val (.int p4), .val (.int p5), .unset, .unset, .unset] [(.int ((1 : Int32) &&& (1 : Int32))), (.int (2 : Int32))])) (fun _ k => XS.iand X0.here hx rfl (hb hby d11_19) rfl k) ?_
  rw [(by decide : ((1 : Int32) &&& (1 : Int32)) = (1 : Int32))]
  refine Rch.go (U' := T0.setTop (mkF m 21 #[.val (.int (14 : Int32)), .val (.int p2), .val (.int p3), .val (.int p4), .val (.int p5), .unset, .unset, .unset] [(.int ((2 : Int32) + (1 : Int32)))])) (fun _ k => XS.iadd X0.here hx rfl (hb hby d11_20) rfl k) ?_
  rw [(by decide : ((2 : Int32) + (1 : Int32)) = (3 : Int32))]
  refine Rch.go (U' := T0.setTop (mkF m 23 #[.val (.int (14 : Int32)), .val (.int p2), .val (.int p3), .val (.int p4), .val (.int p5), .val (.int (3 : Int32)), .unset, .unset] [])) (fun _ k => XS.istore X0.here hx rfl (hb hby d11_21) rfl (l' := #[.val (.int (14 : Int32)), .val (.int p2), .val (.int p3), .val (.int p4), .val (.int p5), .val (.int (3 : Int32)), .unset, .unset]) rfl k) ?_
  refine Rch.go (U' := T0.setTop (mkF m 25 #[.val (.int (14 : Int32)), .val (.int p2), .val (.int p3), .val (.int p4), .val (.int p5), .val (.int (3 : Int32)), .unset, .unset] [(.int (3 : Int32))])) (fun _ k => XS.iload X0.here hx rfl (hb hby d11_23) rfl  k) ?_
  obtain ⟨T191, h191, k191, X191, e191, E191, A191, st191⟩ := newP X0 hx hZ (wi hw 12 rfl) e0 (g := (mkF m 25 #[.val (.int (14 : Int32)), .val (.int p2), .val (.int p3), .val (.int p4), .val (.int p5), .val (.int (3 : Int32)), .unset, .unset] [(.int (3 : Int32))])) rfl (hb hby d11_25) rfl (by decide) (cap := 3) (by decide) (by decide) (by decide) (by decide)
  obtain ⟨b191, g191⟩ : ∃ z, z = h0.size := ⟨_, rfl⟩
  rw [← g191] at A191 st191
  have n0b191 : n0 ≤ b191 := Nat.le_trans Z0 (Nat.le_of_eq g191.symm)
  have szb191 : h0.size ≤ b191 := Nat.le_trans (Keep.refl h0 []).1 (Nat.le_of_eq g191.symm)
  have z192 := Nat.le_trans Z0 E191.1
  have K193 := (Keep.refl h0 []).ext E191
  have V191 : Arv Z h191 b191 k191 .int (3 : Int32) [(.int (0 : Int32)), (.int (0 : Int32)), (.int (0 : Int32))] (.int (0 : Int32)) := (Arv.new A191 (by decide)).pad (pad_rep [] (.int (0 : Int32)) 3)
  refine Rch.go (U' := T191.setTop (mkF m 27 #[.val (.int (14 : Int32)), .val (.int p2), .val (.int p3), .val (.int p4), .val (.int p5), .val (.int (3 : Int32)), .unset, .unset] [(.ref b191)])) st191 ?_
  refine Rch.go (U' := T191.setTop (mkF m 29 #[.val (.int (14 : Int32)), .val (.int p2), .val (.int p3), .val (.int p4), .val (.int p5), .val (.int (3 : Int32)), .val (.ref b191), .unset] [])) (fun _ k => XS.astore X191.here hx rfl (hb hby d11_27) rfl rfl (l' := #[.val (.int (14 : Int32)), .val (.int p2), .val (.int p3), .val (.int p4), .val (.int p5), .val (.int (3 : Int32)), .val (.ref b191), .unset]) rfl k) ?_
  refine Rch.go (U' := T191.setTop (mkF m 30 #[.val (.int (14 : Int32)), .val (.int p2), .val (.int p3), .val (.int p4), .val (.int p5), .val (.int (3 : Int32)), .val (.ref b191), .unset] [(.int (0 : Int32))])) (fun _ k => XS.iconst X191.here hx rfl (hb hby d11_29) k) ?_
  refine Rch.go (U' := T191.setTop (mkF m 32 #[.val (.int (14 : Int32)), .val (.int p2), .val (.int p3), .val (.int p4), .val (.int p5), .val (.int (3 : Int32)), .val (.ref b191), .val (.int (0 : Int32))] [])) (fun _ k => XS.istore X191.here hx rfl (hb hby d11_30) rfl (l' := #[.val (.int (14 : Int32)), .val (.int p2), .val (.int p3), .val (.int p4), .val (.int p5), .val (.int (3 : Int32)), .val (.ref b191), .val (.int (0 : Int32))]) rfl k) ?_
  refine Rch.go (U' := T191.setTop (mkF m 33 #[.val (.int (14 : Int32)), .val (.int p2), .val (.int p3), .val (.int p4), .val (.int p5), .val (.int (3 : Int32)), .val (.ref b191), .val (.int (0 : Int32))] [(.int (14 : Int32))])) (fun _ k => XS.iloadN X191.here hx rfl (hb hby d11_32) rfl  k) ?_
  refine Rch.go (U' := T191.setTop (mkF m 34 #[.val (.int (14 : Int32)), .val (.int p2), .val (.int p3), .val (.int p4), .val (.int p5), .val (.int (3 : Int32)), .val (.ref b191), .val (.int (0 : Int32))] [(.int (1 : Int32)), (.int (14 : Int32))])) (fun _ k => XS.iconst X191.here hx rfl (hb hby d11_33) k) ?_
  refine Rch.go (U' := T191.setTop (mkF m 35 #[.val (.int (14 : Int32)), .val (.int p2), .val (.int p3), .val (.int p4), .val (.int p5), .val (.int (3 : Int32)), .val (.ref b191), .val (.int (0 : Int32))] [(.int ((14 : Int32) &&& (1 : Int32)))])) (fun _ k => XS.iand X191.here hx rfl (hb hby d11_34) rfl k) ?_
  rw [(by decide : ((14 : Int32) &&& (1 : Int32)) = (0 : Int32))]
  have br194 : (0 : Int32) = (0 : Int32) := (by decide)
  refine Rch.go (U' := T191.setTop (mkF m 50 #[.val (.int (14 : Int32)), .val (.int p2), .val (.int p3), .val (.int p4), .val (.int p5), .val (.int (3 : Int32)), .val (.ref b191), .val (.int (0 : Int32))] [])) (fun _ k => XS.ifYes X191.here hx rfl (pc0 := 35) (pc' := 50) rfl (hb hby d11_35) rfl (XT.i0_eq_t br194) (by decide) (by decide) k) ?_
  refine Rch.go (U' := T191.setTop (mkF m 51 #[.val (.int (14 : Int32)), .val (.int p2), .val (.int p3), .val (.int p4), .val (.int p5), .val (.int (3 : Int32)), .val (.ref b191), .val (.int (0 : Int32))] [(.int (14 : Int32))])) (fun _ k => XS.iloadN X191.here hx rfl (hb hby d11_50) rfl  k) ?_
  refine Rch.go (U' := T191.setTop (mkF m 52 #[.val (.int (14 : Int32)), .val (.int p2), .val (.int p3), .val (.int p4), .val (.int p5), .val (.int (3 : Int32)), .val (.ref b191), .val (.int (0 : Int32))] [(.int (2 : Int32)), (.int (14 : Int32))])) (fun _ k => XS.iconst X191.here hx rfl (hb hby d11_51) k) ?_
  refine Rch.go (U' := T191.setTop (mkF m 53 #[.val (.int (14 : Int32)), .val (.int p2), .val (.int p3), .val (.int p4), .val (.int p5), .val (.int (3 : Int32)), .val (.ref b191), .val (.int (0 : Int32))] [(.int ((14 : Int32) &&& (2 : Int32)))])) (fun _ k => XS.iand X191.here hx rfl (hb hby d11_52) rfl k) ?_
  rw [(by decide : ((14 : Int32) &&& (2 : Int32)) = (2 : Int32))]
  have br195 : ¬ ((2 : Int32) = (0 : Int32)) := (by decide)
  refine Rch.go (U' := T191.setTop (mkF m 56 #[.val (.int (14 : Int32)), .val (.int p2), .val (.int p3), .val (.int p4), .val (.int p5), .val (.int (3 : Int32)), .val (.ref b191), .val (.int (0 : Int32))] [])) (fun _ k => XS.ifNo X191.here hx rfl (hb hby d11_53) rfl (XT.i0_eq_f br195) k) ?_
  refine Rch.go (U' := T191.setTop (mkF m 58 #[.val (.int (14 : Int32)), .val (.int p2), .val (.int p3), .val (.int p4), .val (.int p5), .val (.int (3 : Int32)), .val (.ref b191), .val (.int (0 : Int32))] [(.ref b191)])) (fun _ k => XS.aload X191.here hx rfl (hb hby d11_56) rfl rfl k) ?_
  refine Rch.go (U' := T191.setTop (mkF m 60 #[.val (.int (14 : Int32)), .val (.int p2), .val (.int p3), .val (.int p4), .val (.int p5), .val (.int (3 : Int32)), .val (.ref b191), .val (.int (0 : Int32))] [(.int (0 : Int32)), (.ref b191)])) (fun _ k => XS.iload X191.here hx rfl (hb hby d11_58) rfl  k) ?_
  refine Rch.go (U' := T191.setTop (mkF m 61 #[.val (.int (14 : Int32)), .val (.int p2), .val (.int p3), .val (.int p4), .val (.int p5), .val (.int (3 : Int32)), .val (.ref b191), .val (.int (0 : Int32))] [(.int p3), (.int (0 : Int32)), (.ref b191)])) (fun _ k => XS.iloadN X191.here hx rfl (hb hby d11_60) rfl  k) ?_
  obtain ⟨c196, Ar196, q196, S196, M196, Hs196, G196⟩ := id V191
  have i196 : ¬ ((0 : Int32) < 0 ∨ c196.slots.size ≤ ((0 : Int32)).toNatClampNeg) := inb_of S196 ⟨by decide, by decide⟩
  obtain ⟨T196, h196, X196, e196, W196, st196⟩ := stI X191 hx hZ e191 Ar196 (j := (0 : Int32)) i196 (g := (mkF m 61 #[.val (.int (14 : Int32)), .val (.int p2), .val (.int p3), .val (.int p4), .val (.int p5), .val (.int (3 : Int32)), .val (.ref b191), .val (.int (0 : Int32))] [(.int p3), (.int (0 : Int32)), (.ref b191)])) rfl rfl (hb hby d11_61)
  have V196 : Arv Z h196 b191 k191 .int (3 : Int32) [(.int p3), (.int (0 : Int32)), (.int (0 : Int32))] (.int (0 : Int32)) := Arv.set Ar196 q196 S196 M196 Hs196 G196 rfl W196 0 rfl (Nat.le_of_ble_eq_true rfl)
  have N196 := Fr.snoc X196 N0 n0b191
  have z197 := Nat.le_trans z192 (Keep.of_wr W196).1
  have K198 := K193.wr W196 (Or.inr szb191)
  refine Rch.go (U' := T196.setTop (mkF m 62 #[.val (.int (14 : Int32)), .val (.int p2), .val (.int p3), .val (.int p4), .val (.int p5), .val (.int (3 : Int32)), .val (.ref b191), .val (.int (0 : Int32))] [])) st196 ?_
  refine Rch.go (U' := T196.setTop (mkF m 64 #[.val (.int (14 : Int32)), .val (.int p2), .val (.int p3), .val (.int p4), .val (.int p5), .val (.int (3 : Int32)), .val (.ref b191), .val (.int (0 : Int32))] [(.int (0 : Int32))])) (fun _ k => XS.iload X196.here hx rfl (hb hby d11_62) rfl  k) ?_
  refine Rch.go (U' := T196.setTop (mkF m 65 #[.val (.int (14 : Int32)), .val (.int p2), .val (.int p3), .val (.int p4), .val (.int p5), .val (.int (3 : Int32)), .val (.ref b191), .val (.int (0 : Int32))] [(.int (1 : Int32)), (.int (0 : Int32))])) (fun _ k => XS.iconst X196.here hx rfl (hb hby d11_64) k) ?_
  refine Rch.go (U' := T196.setTop (mkF m 66 #[.val (.int (14 : Int32)), .val (.int p2), .val (.int p3), .val (.int p4), .val (.int p5), .val (.int (3 : Int32)), .val (.ref b191), .val (.int (0 : Int32))] [(.int ((0 : Int32) + (1 : Int32)))])) (fun _ k => XS.iadd X196.here hx rfl (hb hby d11_65) rfl k) ?_
  rw [(by decide : ((0 : Int32) + (1 : Int32)) = (1 : Int32))]
  refine Rch.go (U' := T196.setTop (mkF m 68 #[.val (.int (14 : Int32)), .val (.int p2), .val (.int p3), .val (.int p4), .val (.int p5), .val (.int (3 : Int32)), .val (.ref b191), .val (.int (1 : Int32))] [])) (fun _ k => XS.istore X196.here hx rfl (hb hby d11_66) rfl (l' := #[.val (.int (14 : Int32)), .val (.int p2), .val (.int p3), .val (.int p4), .val (.int p5), .val (.int (3 : Int32)), .val (.ref b191), .val (.int (1 : Int32))]) rfl k) ?_
  refine Rch.go (U' := T196.setTop (mkF m 69 #[.val (.int (14 : Int32)), .val (.int p2), .val (.int p3), .val (.int p4), .val (.int p5), .val (.int (3 : Int32)), .val (.ref b191), .val (.int (1 : Int32))] [(.int (14 : Int32))])) (fun _ k => XS.iloadN X196.here hx rfl (hb hby d11_68) rfl  k) ?_
  refine Rch.go (U' := T196.setTop (mkF m 70 #[.val (.int (14 : Int32)), .val (.int p2), .val (.int p3), .val (.int p4), .val (.int p5), .val (.int (3 : Int32)), .val (.ref b191), .val (.int (1 : Int32))] [(.int (4 : Int32)), (.int (14 : Int32))])) (fun _ k => XS.iconst X196.here hx rfl (hb hby d11_69) k) ?_
  refine Rch.go (U' := T196.setTop (mkF m 71 #[.val (.int (14 : Int32)), .val (.int p2), .val (.int p3), .val (.int p4), .val (.int p5), .val (.int (3 : Int32)), .val (.ref b191), .val (.int (1 : Int32))] [(.int ((14 : Int32) &&& (4 : Int32)))])) (fun _ k => XS.iand X196.here hx rfl (hb hby d11_70) rfl k) ?_
  rw [(by decide : ((14 : Int32) &&& (4 : Int32)) = (4 : Int32))]
  have br199 : ¬ ((4 : Int32) = (0 : Int32)) := (by decide)
  refine Rch.go (U' := T196.setTop (mkF m 74 #[.val (.int (14 : Int32)), .val (.int p2), .val (.int p3), .val (.int p4), .val (.int p5), .val (.int (3 : Int32)), .val (.ref b191), .val (.int (1 : Int32))] [])) (fun _ k => XS.ifNo X196.here hx rfl (hb hby d11_71) rfl (XT.i0_eq_f br199) k) ?_
  refine Rch.go (U' := T196.setTop (mkF m 76 #[.val (.int (14 : Int32)), .val (.int p2), .val (.int p3), .val (.int p4), .val (.int p5), .val (.int (3 : Int32)), .val (.ref b191), .val (.int (1 : Int32))] [(.ref b191)])) (fun _ k => XS.aload X196.here hx rfl (hb hby d11_74) rfl rfl k) ?_
  refine Rch.go (U' := T196.setTop (mkF m 78 #[.val (.int (14 : Int32)), .val (.int p2), .val (.int p3), .val (.int p4), .val (.int p5), .val (.int (3 : Int32)), .val (.ref b191), .val (.int (1 : Int32))] [(.int (1 : Int32)), (.ref b191)])) (fun _ k => XS.iload X196.here hx rfl (hb hby d11_76) rfl  k) ?_
  refine Rch.go (U' := T196.setTop (mkF m 79 #[.val (.int (14 : Int32)), .val (.int p2), .val (.int p3), .val (.int p4), .val (.int p5), .val (.int (3 : Int32)), .val (.ref b191), .val (.int (1 : Int32))] [(.int p4), (.int (1 : Int32)), (.ref b191)])) (fun _ k => XS.iloadN X196.here hx rfl (hb hby d11_78) rfl  k) ?_
  obtain ⟨c200, Ar200, q200, S200, M200, Hs200, G200⟩ := id V196
  have i200 : ¬ ((1 : Int32) < 0 ∨ c200.slots.size ≤ ((1 : Int32)).toNatClampNeg) := inb_of S200 ⟨by decide, by decide⟩
  obtain ⟨T200, h200, X200, e200, W200, st200⟩ := stI X196 hx hZ e196 Ar200 (j := (1 : Int32)) i200 (g := (mkF m 79 #[.val (.int (14 : Int32)), .val (.int p2), .val (.int p3), .val (.int p4), .val (.int p5), .val (.int (3 : Int32)), .val (.ref b191), .val (.int (1 : Int32))] [(.int p4), (.int (1 : Int32)), (.ref b191)])) rfl rfl (hb hby d11_79)
  have V200 : Arv Z h200 b191 k191 .int (3 : Int32) [(.int p3), (.int p4), (.int (0 : Int32))] (.int (0 : Int32)) := Arv.set Ar200 q200 S200 M200 Hs200 G200 rfl W200 1 rfl (Nat.le_of_ble_eq_true rfl)
  have N200 := Fr.snoc X200 N196 n0b191
  have z201 := Nat.le_trans z197 (Keep.of_wr W200).1
  have K202 := K198.wr W200 (Or.inr szb191)
  refine Rch.go (U' := T200.setTop (mkF m 80 #[.val (.int (14 : Int32)), .val (.int p2), .val (.int p3), .val (.int p4), .val (.int p5), .val (.int (3 : Int32)), .val (.ref b191), .val (.int (1 : Int32))] [])) st200 ?_
  refine Rch.go (U' := T200.setTop (mkF m 82 #[.val (.int (14 : Int32)), .val (.int p2), .val (.int p3), .val (.int p4), .val (.int p5), .val (.int (3 : Int32)), .val (.ref b191), .val (.int (1 : Int32))] [(.int (1 : Int32))])) (fun _ k => XS.iload X200.here hx rfl (hb hby d11_80) rfl  k) ?_
  refine Rch.go (U' := T200.setTop (mkF m 83 #[.val (.int (14 : Int32)), .val (.int p2), .val (.int p3), .val (.int p4), .val (.int p5), .val (.int (3 : Int32)), .val (.ref b191), .val (.int (1 : Int32))] [(.int (1 : Int32)), (.int (1 : Int32))])) (fun _ k => XS.iconst X200.here hx rfl (hb hby d11_82) k) ?_
  refine Rch.go (U' := T200.setTop (mkF m 84 #[.val (.int (14 : Int32)), .val (.int p2), .val (.int p3), .val (.int p4), .val (.int p5), .val (.int (3 : Int32)), .val (.ref b191), .val (.int (1 : Int32))] [(.int ((1 : Int32) + (1 : Int32)))])) (fun _ k => XS.iadd X200.here hx rfl (hb hby d11_83) rfl k) ?_
  rw [(by decide : ((1 : Int32) + (1 : Int32)) = (2 : Int32))]
  refine Rch.go (U' := T200.setTop (mkF m 86 #[.val (.int (14 : Int32)), .val (.int p2), .val (.int p3), .val (.int p4), .val (.int p5), .val (.int (3 : Int32)), .val (.ref b191), .val (.int (2 : Int32))] [])) (fun _ k => XS.istore X200.here hx rfl (hb hby d11_84) rfl (l' := #[.val (.int (14 : Int32)), .val (.int p2), .val (.int p3), .val (.int p4), .val (.int p5), .val (.int (3 : Int32)), .val (.ref b191), .val (.int (2 : Int32))]) rfl k) ?_
  refine Rch.go (U' := T200.setTop (mkF m 87 #[.val (.int (14 : Int32)), .val (.int p2), .val (.int p3), .val (.int p4), .val (.int p5), .val (.int (3 : Int32)), .val (.ref b191), .val (.int (2 : Int32))] [(.int (14 : Int32))])) (fun _ k => XS.iloadN X200.here hx rfl (hb hby d11_86) rfl  k) ?_
  refine Rch.go (U' := T200.setTop (mkF m 89 #[.val (.int (14 : Int32)), .val (.int p2), .val (.int p3), .val (.int p4), .val (.int p5), .val (.int (3 : Int32)), .val (.ref b191), .val (.int (2 : Int32))] [(.int (8 : Int32)), (.int (14 : Int32))])) (fun _ k => XS.bipush X200.here hx rfl (hb hby d11_87) k) ?_
  refine Rch.go (U' := T200.setTop (mkF m 90 #[.val (.int (14 : Int32)), .val (.int p2), .val (.int p3), .val (.int p4), .val (.int p5), .val (.int (3 : Int32)), .val (.ref b191), .val (.int (2 : Int32))] [(.int ((14 : Int32) &&& (8 : Int32)))])) (fun _ k => XS.iand X200.here hx rfl (hb hby d11_89) rfl k) ?_
  rw [(by decide : ((14 : Int32) &&& (8 : Int32)) = (8 : Int32))]
  have br203 : ¬ ((8 : Int32) = (0 : Int32)) := (by decide)
  refine Rch.go (U' := T200.setTop (mkF m 93 #[.val (.int (14 : Int32)), .val (.int p2), .val (.int p3), .val (.int p4), .val (.int p5), .val (.int (3 : Int32)), .val (.ref b191), .val (.int (2 : Int32))] [])) (fun _ k => XS.ifNo X200.here hx rfl (hb hby d11_90) rfl (XT.i0_eq_f br203) k) ?_
  refine Rch.go (U' := T200.setTop (mkF m 95 #[.val (.int (14 : Int32)), .val (.int p2), .val (.int p3), .val (.int p4), .val (.int p5), .val (.int (3 : Int32)), .val (.ref b191), .val (.int (2 : Int32))] [(.ref b191)])) (fun _ k => XS.aload X200.here hx rfl (hb hby d11_93) rfl rfl k) ?_
  refine Rch.go (U' := T200.setTop (mkF m 97 #[.val (.int (14 : Int32)), .val (.int p2), .val (.int p3), .val (.int p4), .val (.int p5), .val (.int (3 : Int32)), .val (.ref b191), .val (.int (2 : Int32))] [(.int (2 : Int32)), (.ref b191)])) (fun _ k => XS.iload X200.here hx rfl (hb hby d11_95) rfl  k) ?_
  refine Rch.go (U' := T200.setTop (mkF m 99 #[.val (.int (14 : Int32)), .val (.int p2), .val (.int p3), .val (.int p4), .val (.int p5), .val (.int (3 : Int32)), .val (.ref b191), .val (.int (2 : Int32))] [(.int p5), (.int (2 : Int32)), (.ref b191)])) (fun _ k => XS.iload X200.here hx rfl (hb hby d11_97) rfl  k) ?_
  obtain ⟨c204, Ar204, q204, S204, M204, Hs204, G204⟩ := id V200
  have i204 : ¬ ((2 : Int32) < 0 ∨ c204.slots.size ≤ ((2 : Int32)).toNatClampNeg) := inb_of S204 ⟨by decide, by decide⟩
  obtain ⟨T204, h204, X204, e204, W204, st204⟩ := stI X200 hx hZ e200 Ar204 (j := (2 : Int32)) i204 (g := (mkF m 99 #[.val (.int (14 : Int32)), .val (.int p2), .val (.int p3), .val (.int p4), .val (.int p5), .val (.int (3 : Int32)), .val (.ref b191), .val (.int (2 : Int32))] [(.int p5), (.int (2 : Int32)), (.ref b191)])) rfl rfl (hb hby d11_99)
  have V204 : Arv Z h204 b191 k191 .int (3 : Int32) [(.int p3), (.int p4), (.int p5)] (.int (0 : Int32)) := Arv.set Ar204 q204 S204 M204 Hs204 G204 rfl W204 2 rfl (Nat.le_of_ble_eq_true rfl)
  have N204 := Fr.snoc X204 N200 n0b191
  have z205 := Nat.le_trans z201 (Keep.of_wr W204).1
  have K206 := K202.wr W204 (Or.inr szb191)
  refine Rch.go (U' := T204.setTop (mkF m 100 #[.val (.int (14 : Int32)), .val (.int p2), .val (.int p3), .val (.int p4), .val (.int p5), .val (.int (3 : Int32)), .val (.ref b191), .val (.int (2 : Int32))] [])) st204 ?_
  refine Rch.go (U' := T204.setTop (mkF m 102 #[.val (.int (14 : Int32)), .val (.int p2), .val (.int p3), .val (.int p4), .val (.int p5), .val (.int (3 : Int32)), .val (.ref b191), .val (.int (2 : Int32))] [(.int (2 : Int32))])) (fun _ k => XS.iload X204.here hx rfl (hb hby d11_100) rfl  k) ?_
  refine Rch.go (U' := T204.setTop (mkF m 103 #[.val (.int (14 : Int32)), .val (.int p2), .val (.int p3), .val (.int p4), .val (.int p5), .val (.int (3 : Int32)), .val (.ref b191), .val (.int (2 : Int32))] [(.int (1 : Int32)), (.int (2 : Int32))])) (fun _ k => XS.iconst X204.here hx rfl (hb hby d11_102) k) ?_
  refine Rch.go (U' := T204.setTop (mkF m 104 #[.val (.int (14 : Int32)), .val (.int p2), .val (.int p3), .val (.int p4), .val (.int p5), .val (.int (3 : Int32)), .val (.ref b191), .val (.int (2 : Int32))] [(.int ((2 : Int32) + (1 : Int32)))])) (fun _ k => XS.iadd X204.here hx rfl (hb hby d11_103) rfl k) ?_
  rw [(by decide : ((2 : Int32) + (1 : Int32)) = (3 : Int32))]
  refine Rch.go (U' := T204.setTop (mkF m 106 #[.val (.int (14 : Int32)), .val (.int p2), .val (.int p3), .val (.int p4), .val (.int p5), .val (.int (3 : Int32)), .val (.ref b191), .val (.int (3 : Int32))] [])) (fun _ k => XS.istore X204.here hx rfl (hb hby d11_104) rfl (l' := #[.val (.int (14 : Int32)), .val (.int p2), .val (.int p3), .val (.int p4), .val (.int p5), .val (.int (3 : Int32)), .val (.ref b191), .val (.int (3 : Int32))]) rfl k) ?_
  refine Rch.go (U' := T204.setTop (mkF m 108 #[.val (.int (14 : Int32)), .val (.int p2), .val (.int p3), .val (.int p4), .val (.int p5), .val (.int (3 : Int32)), .val (.ref b191), .val (.int (3 : Int32))] [(.ref b191)])) (fun _ k => XS.aload X204.here hx rfl (hb hby d11_106) rfl rfl k) ?_
  refine Rch.fin X204 hlk (v := some (.ref b191)) (fun h => by rw [hret] at h; cases h) e204 (by decide) (by decide) (fun fs hr => retOut X204 hx hret rfl (Or.inr (Or.inr (Or.inr (Or.inr ⟨rfl, rfl, rfl⟩)))) (hb hby d11_108) hr) ?_
  exact ⟨b191, k191, rfl, N204, K206, n0b191, szb191, by rw [own_s14]; exact V204⟩
theorem own_s15 (p2 p3 p4 p5 : Int32) : own_sub 15 p2 p3 p4 p5 = [p2, p3, p4, p5] := rfl
set_option maxRecDepth 65536 in
set_option maxHeartbeats 40000000 in
theorem sub15 {p : Program} {l : Launch} {e : Env} {s : State} {m : MethodId} {args : Array Value} {below : List Frame} {meth : Method} {c : Code} {T0 : State} {locs : List Loc} {Z : State} {a0 : Array Value} {h0 : Heap} {n0 : Nat}  (p2 : Int32) (p3 : Int32) (p4 : Int32) (p5 : Int32)
    (X0 : Stand p l e ({ frames := 0, cells := 1, slots := 4, locals := 0 } : Room) s m args below meth c T0 locs 0 0) (hx : p.tables.exec = Jvm.exec) (hZ : Z.Warmed39 s.vm) (hw : ∀ d ∈ tables_1, d.before a0 Z = true) (hby : c.code = method_2_code) (hml : c.maxLocals = 8) (hown : s.vm.findClass "com/example/fixpoints_of_behaviour/fixpointsofbehaviour/bisimulation/RefusalsHoldsPinLaw" = some m.cls) (hret : meth.sig.returnType = some (.array .int)) (hlk : meth.locks = false) (e0 : T0.heap = h0) (N0 : Fr n0 locs) (Z0 : n0 ≤ h0.size)  :
    Rch p e below (Fin s below (fun v h L => ∃ (b : Addr) (kb : ClassId), v = some (.ref b) ∧ Fr n0 L ∧ Keep h0 h [] ∧ n0 ≤ b ∧ h0.size ≤ b ∧ Arv Z h b kb .int (Int32.ofNat (own_sub 15 p2 p3 p4 p5).length) ((own_sub 15 p2 p3 p4 p5).map Value.int) (.int (0 : Int32))) 1 4) (T0.setTop (mkF m 0 #[.val (.int (15 : Int32)), .val (.int p2), .val (.int p3), .val (.int p4), .val (.int p5), .unset, .unset, .unset] [])) := by
  refine Rch.go (U' := T0.setTop (mkF m 1 #[.val (.int (15 : Int32)), .val (.int p2), .val (.int p3), .val (.int p4), .val (.int p5), .unset, .unset, .unset] [(.int (15 : Int32))])) (fun _ k => XS.iloadN X0.here hx rfl (hb hby d11_0) rfl  k) ?_
  refine Rch.go (U' := T0.setTop (mkF m 2 #[.val (.int (15 : Int32)), .val (.int p2), .val (.int p3), .val (.int p4), .val (.int p5), .unset, .unset, .unset] [(.int (1 : Int32)), (.int (15 : Int32))])) (fun _ k => XS.iconst X0.here hx rfl (hb hby d11_1) k) ?_
  refine Rch.go (U' := T0.setTop (mkF m 3 #[.val (.int (15 : Int32)), .val (.int p2), .val (.int p3), .val (.int p4), .val (.int p5), .unset, .unset, .unset] [(.int ((15 : Int32) &&& (1 : Int32)))])) (fun _ k => XS.iand X0.here hx rfl (hb hby d11_2) rfl k) ?_
  rw [(by decide : ((15 : Int32) &&& (1 : Int32)) = (1 : Int32))]
  refine Rch.go (U' := T0.setTop (mkF m 4 #[.val (.int (15 : Int32)), .val (.int p2), .val (.int p3), .val (.int p4), .val (.int p5), .unset, .unset, .unset] [(.int (15 : Int32)), (.int (1 : Int32))])) (fun _ k => XS.iloadN X0.here hx rfl (hb hby d11_3) rfl  k) ?_
  refine Rch.go (U' := T0.setTop (mkF m 5 #[.val (.int (15 : Int32)), .val (.int p2), .val (.int p3), .val (.int p4), .val (.int p5), .unset, .unset, .unset] [(.int (1 : Int32)), (.int (15 : Int32)), (.int (1 : Int32))])) (fun _ k => XS.iconst X0.here hx rfl (hb hby d11_4) k) ?_
  refine Rch.go (U' := T0.setTop (mkF m 6 #[.val (.int (15 : Int32)), .val (.int p2), .val (.int p3), .val (.int p4), .val (.int p5), .unset, .unset, .unset] [(.int ((15 : Int32) >>> ((1 : Int32) &&& 31))), (.int (1 : Int32))])) (fun _ k => XS.ishr X0.here hx rfl (hb hby d11_5) rfl k) ?_
  rw [(by decide : ((15 : Int32) >>> ((1 : Int32) &&& 31)) = (7 : Int32))]
  refine Rch.go (U' := T0.setTop (mkF m 7 #[.val (.int (15 : Int32)), .val (.int p2), .val (.int p3), .val (.int p4), .val (.int p5), .unset, .unset, .unset] [(.int (1 : Int32)), (.int (7 : Int32)), (.int (1 : Int32))])) (fun _ k => XS.iconst X0.here hx rfl (hb hby d11_6) k) ?_
  refine Rch.go (U' := T0.setTop (mkF m 8 #[.val (.int (15 : Int32)), .val (.int p2), .val (.int p3), .val (.int p4), .val (.int p5), .unset, .unset, .unset] [(.int ((7 : Int32) &&& (1 : Int32))), (.int (1 : Int32))])) (fun _ k => XS.iand X0.here hx rfl (hb hby d11_7) rfl k) ?_
  rw [(by decide : ((7 : Int32) &&& (1 : Int32)) = (1 : Int32))]
  refine Rch.go (U' := T0.setTop (mkF m 9 #[.val (.int (15 : Int32)), .val (.int p2), .val (.int p3), .val (.int p4), .val (.int p5), .unset, .unset, .unset] [(.int ((1 : Int32) + (1 : Int32)))])) (fun _ k => XS.iadd X0.here hx rfl (hb hby d11_8) rfl k) ?_
  rw [(by decide : ((1 : Int32) + (1 : Int32)) = (2 : Int32))]
  refine Rch.go (U' := T0.setTop (mkF m 10 #[.val (.int (15 : Int32)), .val (.int p2), .val (.int p3), .val (.int p4), .val (.int p5), .unset, .unset, .unset] [(.int (15 : Int32)), (.int (2 : Int32))])) (fun _ k => XS.iloadN X0.here hx rfl (hb hby d11_9) rfl  k) ?_
  refine Rch.go (U' := T0.setTop (mkF m 11 #[.val (.int (15 : Int32)), .val (.int p2), .val (.int p3), .val (.int p4), .val (.int p5), .unset, .unset, .unset] [(.int (2 : Int32)), (.int (15 : Int32)), (.int (2 : Int32))])) (fun _ k => XS.iconst X0.here hx rfl (hb hby d11_10) k) ?_
  refine Rch.go (U' := T0.setTop (mkF m 12 #[.val (.int (15 : Int32)), .val (.int p2), .val (.int p3), .val (.int p4), .val (.int p5), .unset, .unset, .unset] [(.int ((15 : Int32) >>> ((2 : Int32) &&& 31))), (.int (2 : Int32))])) (fun _ k => XS.ishr X0.here hx rfl (hb hby d11_11) rfl k) ?_
  rw [(by decide : ((15 : Int32) >>> ((2 : Int32) &&& 31)) = (3 : Int32))]
  refine Rch.go (U' := T0.setTop (mkF m 13 #[.val (.int (15 : Int32)), .val (.int p2), .val (.int p3), .val (.int p4), .val (.int p5), .unset, .unset, .unset] [(.int (1 : Int32)), (.int (3 : Int32)), (.int (2 : Int32))])) (fun _ k => XS.iconst X0.here hx rfl (hb hby d11_12) k) ?_
  refine Rch.go (U' := T0.setTop (mkF m 14 #[.val (.int (15 : Int32)), .val (.int p2), .val (.int p3), .val (.int p4), .val (.int p5), .unset, .unset, .unset] [(.int ((3 : Int32) &&& (1 : Int32))), (.int (2 : Int32))])) (fun _ k => XS.iand X0.here hx rfl (hb hby d11_13) rfl k) ?_
  rw [(by decide : ((3 : Int32) &&& (1 : Int32)) = (1 : Int32))]
  refine Rch.go (U' := T0.setTop (mkF m 15 #[.val (.int (15 : Int32)), .val (.int p2), .val (.int p3), .val (.int p4), .val (.int p5), .unset, .unset, .unset] [(.int ((2 : Int32) + (1 : Int32)))])) (fun _ k => XS.iadd X0.here hx rfl (hb hby d11_14) rfl k) ?_
  rw [(by decide : ((2 : Int32) + (1 : Int32)) = (3 : Int32))]
  refine Rch.go (U' := T0.setTop (mkF m 16 #[.val (.int (15 : Int32)), .val (.int p2), .val (.int p3), .val (.int p4), .val (.int p5), .unset, .unset, .unset] [(.int (15 : Int32)), (.int (3 : Int32))])) (fun _ k => XS.iloadN X0.here hx rfl (hb hby d11_15) rfl  k) ?_
  refine Rch.go (U' := T0.setTop (mkF m 17 #[.val (.int (15 : Int32)), .val (.int p2), .val (.int p3), .val (.int p4), .val (.int p5), .unset, .unset, .unset] [(.int (3 : Int32)), (.int (15 : Int32)), (.int (3 : Int32))])) (fun _ k => XS.iconst X0.here hx rfl (hb hby d11_16) k) ?_
  refine Rch.go (U' := T0.setTop (mkF m 18 #[.val (.int (15 : Int32)), .val (.int p2), .val (.int p3), .val (.int p4), .val (.int p5), .unset, .unset, .unset] [(.int ((15 : Int32) >>> ((3 : Int32) &&& 31))), (.int (3 : Int32))])) (fun _ k => XS.ishr X0.here hx rfl (hb hby d11_17) rfl k) ?_
  rw [(by decide : ((15 : Int32) >>> ((3 : Int32) &&& 31)) = (1 : Int32))]
  refine Rch.go (U' := T0.setTop (mkF m 19 #[.val (.int (15 : Int32)), .val (.int p2), .val (.int p3), .val (.int p4), .val (.int p5), .unset, .unset, .unset] [(.int (1 : Int32)), (.int (1 : Int32)), (.int (3 : Int32))])) (fun _ k => XS.iconst X0.here hx rfl (hb hby d11_18) k) ?_
  refine Rch.go (U' := T0.setTop (mkF m 20 #[.val (.int (15 : Int32)), .val (.int p2), .val (.int p3), .val (.int p4), .val (.int p5), .unset, .unset, .unset] [(.int ((1 : Int32) &&& (1 : Int32))), (.int (3 : Int32))])) (fun _ k => XS.iand X0.here hx rfl (hb hby d11_19) rfl k) ?_
  rw [(by decide : ((1 : Int32) &&& (1 : Int32)) = (1 : Int32))]
  refine Rch.go (U' := T0.setTop (mkF m 21 #[.val (.int (15 : Int32)), .val (.int p2), .val (.int p3), .val (.int p4), .val (.int p5), .unset, .unset, .unset] [(.int ((3 : Int32) + (1 : Int32)))])) (fun _ k => XS.iadd X0.here hx rfl (hb hby d11_20) rfl k) ?_
  rw [(by decide : ((3 : Int32) + (1 : Int32)) = (4 : Int32))]
  refine Rch.go (U' := T0.setTop (mkF m 23 #[.val (.int (15 : Int32)), .val (.int p2), .val (.int p3), .val (.int p4), .val (.int p5), .val (.int (4 : Int32)), .unset, .unset] [])) (fun _ k => XS.istore X0.here hx rfl (hb hby d11_21) rfl (l' := #[.val (.int (15 : Int32)), .val (.int p2), .val (.int p3), .val (.int p4), .val (.int p5), .val (.int (4 : Int32)), .unset, .unset]) rfl k) ?_
  refine Rch.go (U' := T0.setTop (mkF m 25 #[.val (.int (15 : Int32)), .val (.int p2), .val (.int p3), .val (.int p4), .val (.int p5), .val (.int (4 : Int32)), .unset, .unset] [(.int (4 : Int32))])) (fun _ k => XS.iload X0.here hx rfl (hb hby d11_23) rfl  k) ?_
  obtain ⟨T207, h207, k207, X207, e207, E207, A207, st207⟩ := newP X0 hx hZ (wi hw 12 rfl) e0 (g := (mkF m 25 #[.val (.int (15 : Int32)), .val (.int p2), .val (.int p3), .val (.int p4), .val (.int p5), .val (.int (4 : Int32)), .unset, .unset] [(.int (4 : Int32))])) rfl (hb hby d11_25) rfl (by decide) (cap := 4) (by decide) (by decide) (by decide) (by decide)
  obtain ⟨b207, g207⟩ : ∃ z, z = h0.size := ⟨_, rfl⟩
  rw [← g207] at A207 st207
  have n0b207 : n0 ≤ b207 := Nat.le_trans Z0 (Nat.le_of_eq g207.symm)
  have szb207 : h0.size ≤ b207 := Nat.le_trans (Keep.refl h0 []).1 (Nat.le_of_eq g207.symm)
  have z208 := Nat.le_trans Z0 E207.1
  have K209 := (Keep.refl h0 []).ext E207
  have V207 : Arv Z h207 b207 k207 .int (4 : Int32) [(.int (0 : Int32)), (.int (0 : Int32)), (.int (0 : Int32)), (.int (0 : Int32))] (.int (0 : Int32)) := (Arv.new A207 (by decide)).pad (pad_rep [] (.int (0 : Int32)) 4)
  refine Rch.go (U' := T207.setTop (mkF m 27 #[.val (.int (15 : Int32)), .val (.int p2), .val (.int p3), .val (.int p4), .val (.int p5), .val (.int (4 : Int32)), .unset, .unset] [(.ref b207)])) st207 ?_
  refine Rch.go (U' := T207.setTop (mkF m 29 #[.val (.int (15 : Int32)), .val (.int p2), .val (.int p3), .val (.int p4), .val (.int p5), .val (.int (4 : Int32)), .val (.ref b207), .unset] [])) (fun _ k => XS.astore X207.here hx rfl (hb hby d11_27) rfl rfl (l' := #[.val (.int (15 : Int32)), .val (.int p2), .val (.int p3), .val (.int p4), .val (.int p5), .val (.int (4 : Int32)), .val (.ref b207), .unset]) rfl k) ?_
  refine Rch.go (U' := T207.setTop (mkF m 30 #[.val (.int (15 : Int32)), .val (.int p2), .val (.int p3), .val (.int p4), .val (.int p5), .val (.int (4 : Int32)), .val (.ref b207), .unset] [(.int (0 : Int32))])) (fun _ k => XS.iconst X207.here hx rfl (hb hby d11_29) k) ?_
  refine Rch.go (U' := T207.setTop (mkF m 32 #[.val (.int (15 : Int32)), .val (.int p2), .val (.int p3), .val (.int p4), .val (.int p5), .val (.int (4 : Int32)), .val (.ref b207), .val (.int (0 : Int32))] [])) (fun _ k => XS.istore X207.here hx rfl (hb hby d11_30) rfl (l' := #[.val (.int (15 : Int32)), .val (.int p2), .val (.int p3), .val (.int p4), .val (.int p5), .val (.int (4 : Int32)), .val (.ref b207), .val (.int (0 : Int32))]) rfl k) ?_
  refine Rch.go (U' := T207.setTop (mkF m 33 #[.val (.int (15 : Int32)), .val (.int p2), .val (.int p3), .val (.int p4), .val (.int p5), .val (.int (4 : Int32)), .val (.ref b207), .val (.int (0 : Int32))] [(.int (15 : Int32))])) (fun _ k => XS.iloadN X207.here hx rfl (hb hby d11_32) rfl  k) ?_
  refine Rch.go (U' := T207.setTop (mkF m 34 #[.val (.int (15 : Int32)), .val (.int p2), .val (.int p3), .val (.int p4), .val (.int p5), .val (.int (4 : Int32)), .val (.ref b207), .val (.int (0 : Int32))] [(.int (1 : Int32)), (.int (15 : Int32))])) (fun _ k => XS.iconst X207.here hx rfl (hb hby d11_33) k) ?_
  refine Rch.go (U' := T207.setTop (mkF m 35 #[.val (.int (15 : Int32)), .val (.int p2), .val (.int p3), .val (.int p4), .val (.int p5), .val (.int (4 : Int32)), .val (.ref b207), .val (.int (0 : Int32))] [(.int ((15 : Int32) &&& (1 : Int32)))])) (fun _ k => XS.iand X207.here hx rfl (hb hby d11_34) rfl k) ?_
  rw [(by decide : ((15 : Int32) &&& (1 : Int32)) = (1 : Int32))]
  have br210 : ¬ ((1 : Int32) = (0 : Int32)) := (by decide)
  refine Rch.go (U' := T207.setTop (mkF m 38 #[.val (.int (15 : Int32)), .val (.int p2), .val (.int p3), .val (.int p4), .val (.int p5), .val (.int (4 : Int32)), .val (.ref b207), .val (.int (0 : Int32))] [])) (fun _ k => XS.ifNo X207.here hx rfl (hb hby d11_35) rfl (XT.i0_eq_f br210) k) ?_
  refine Rch.go (U' := T207.setTop (mkF m 40 #[.val (.int (15 : Int32)), .val (.int p2), .val (.int p3), .val (.int p4), .val (.int p5), .val (.int (4 : Int32)), .val (.ref b207), .val (.int (0 : Int32))] [(.ref b207)])) (fun _ k => XS.aload X207.here hx rfl (hb hby d11_38) rfl rfl k) ?_
  refine Rch.go (U' := T207.setTop (mkF m 42 #[.val (.int (15 : Int32)), .val (.int p2), .val (.int p3), .val (.int p4), .val (.int p5), .val (.int (4 : Int32)), .val (.ref b207), .val (.int (0 : Int32))] [(.int (0 : Int32)), (.ref b207)])) (fun _ k => XS.iload X207.here hx rfl (hb hby d11_40) rfl  k) ?_
  refine Rch.go (U' := T207.setTop (mkF m 43 #[.val (.int (15 : Int32)), .val (.int p2), .val (.int p3), .val (.int p4), .val (.int p5), .val (.int (4 : Int32)), .val (.ref b207), .val (.int (0 : Int32))] [(.int p2), (.int (0 : Int32)), (.ref b207)])) (fun _ k => XS.iloadN X207.here hx rfl (hb hby d11_42) rfl  k) ?_
  obtain ⟨c211, Ar211, q211, S211, M211, Hs211, G211⟩ := id V207
  have i211 : ¬ ((0 : Int32) < 0 ∨ c211.slots.size ≤ ((0 : Int32)).toNatClampNeg) := inb_of S211 ⟨by decide, by decide⟩
  obtain ⟨T211, h211, X211, e211, W211, st211⟩ := stI X207 hx hZ e207 Ar211 (j := (0 : Int32)) i211 (g := (mkF m 43 #[.val (.int (15 : Int32)), .val (.int p2), .val (.int p3), .val (.int p4), .val (.int p5), .val (.int (4 : Int32)), .val (.ref b207), .val (.int (0 : Int32))] [(.int p2), (.int (0 : Int32)), (.ref b207)])) rfl rfl (hb hby d11_43)
  have V211 : Arv Z h211 b207 k207 .int (4 : Int32) [(.int p2), (.int (0 : Int32)), (.int (0 : Int32)), (.int (0 : Int32))] (.int (0 : Int32)) := Arv.set Ar211 q211 S211 M211 Hs211 G211 rfl W211 0 rfl (Nat.le_of_ble_eq_true rfl)
  have N211 := Fr.snoc X211 N0 n0b207
  have z212 := Nat.le_trans z208 (Keep.of_wr W211).1
  have K213 := K209.wr W211 (Or.inr szb207)
  refine Rch.go (U' := T211.setTop (mkF m 44 #[.val (.int (15 : Int32)), .val (.int p2), .val (.int p3), .val (.int p4), .val (.int p5), .val (.int (4 : Int32)), .val (.ref b207), .val (.int (0 : Int32))] [])) st211 ?_
  refine Rch.go (U' := T211.setTop (mkF m 46 #[.val (.int (15 : Int32)), .val (.int p2), .val (.int p3), .val (.int p4), .val (.int p5), .val (.int (4 : Int32)), .val (.ref b207), .val (.int (0 : Int32))] [(.int (0 : Int32))])) (fun _ k => XS.iload X211.here hx rfl (hb hby d11_44) rfl  k) ?_
  refine Rch.go (U' := T211.setTop (mkF m 47 #[.val (.int (15 : Int32)), .val (.int p2), .val (.int p3), .val (.int p4), .val (.int p5), .val (.int (4 : Int32)), .val (.ref b207), .val (.int (0 : Int32))] [(.int (1 : Int32)), (.int (0 : Int32))])) (fun _ k => XS.iconst X211.here hx rfl (hb hby d11_46) k) ?_
  refine Rch.go (U' := T211.setTop (mkF m 48 #[.val (.int (15 : Int32)), .val (.int p2), .val (.int p3), .val (.int p4), .val (.int p5), .val (.int (4 : Int32)), .val (.ref b207), .val (.int (0 : Int32))] [(.int ((0 : Int32) + (1 : Int32)))])) (fun _ k => XS.iadd X211.here hx rfl (hb hby d11_47) rfl k) ?_
  rw [(by decide : ((0 : Int32) + (1 : Int32)) = (1 : Int32))]
  refine Rch.go (U' := T211.setTop (mkF m 50 #[.val (.int (15 : Int32)), .val (.int p2), .val (.int p3), .val (.int p4), .val (.int p5), .val (.int (4 : Int32)), .val (.ref b207), .val (.int (1 : Int32))] [])) (fun _ k => XS.istore X211.here hx rfl (hb hby d11_48) rfl (l' := #[.val (.int (15 : Int32)), .val (.int p2), .val (.int p3), .val (.int p4), .val (.int p5), .val (.int (4 : Int32)), .val (.ref b207), .val (.int (1 : Int32))]) rfl k) ?_
  refine Rch.go (U' := T211.setTop (mkF m 51 #[.val (.int (15 : Int32)), .val (.int p2), .val (.int p3), .val (.int p4), .val (.int p5), .val (.int (4 : Int32)), .val (.ref b207), .val (.int (1 : Int32))] [(.int (15 : Int32))])) (fun _ k => XS.iloadN X211.here hx rfl (hb hby d11_50) rfl  k) ?_
  refine Rch.go (U' := T211.setTop (mkF m 52 #[.val (.int (15 : Int32)), .val (.int p2), .val (.int p3), .val (.int p4), .val (.int p5), .val (.int (4 : Int32)), .val (.ref b207), .val (.int (1 : Int32))] [(.int (2 : Int32)), (.int (15 : Int32))])) (fun _ k => XS.iconst X211.here hx rfl (hb hby d11_51) k) ?_
  refine Rch.go (U' := T211.setTop (mkF m 53 #[.val (.int (15 : Int32)), .val (.int p2), .val (.int p3), .val (.int p4), .val (.int p5), .val (.int (4 : Int32)), .val (.ref b207), .val (.int (1 : Int32))] [(.int ((15 : Int32) &&& (2 : Int32)))])) (fun _ k => XS.iand X211.here hx rfl (hb hby d11_52) rfl k) ?_
  rw [(by decide : ((15 : Int32) &&& (2 : Int32)) = (2 : Int32))]
  have br214 : ¬ ((2 : Int32) = (0 : Int32)) := (by decide)
  refine Rch.go (U' := T211.setTop (mkF m 56 #[.val (.int (15 : Int32)), .val (.int p2), .val (.int p3), .val (.int p4), .val (.int p5), .val (.int (4 : Int32)), .val (.ref b207), .val (.int (1 : Int32))] [])) (fun _ k => XS.ifNo X211.here hx rfl (hb hby d11_53) rfl (XT.i0_eq_f br214) k) ?_
  refine Rch.go (U' := T211.setTop (mkF m 58 #[.val (.int (15 : Int32)), .val (.int p2), .val (.int p3), .val (.int p4), .val (.int p5), .val (.int (4 : Int32)), .val (.ref b207), .val (.int (1 : Int32))] [(.ref b207)])) (fun _ k => XS.aload X211.here hx rfl (hb hby d11_56) rfl rfl k) ?_
  refine Rch.go (U' := T211.setTop (mkF m 60 #[.val (.int (15 : Int32)), .val (.int p2), .val (.int p3), .val (.int p4), .val (.int p5), .val (.int (4 : Int32)), .val (.ref b207), .val (.int (1 : Int32))] [(.int (1 : Int32)), (.ref b207)])) (fun _ k => XS.iload X211.here hx rfl (hb hby d11_58) rfl  k) ?_
  refine Rch.go (U' := T211.setTop (mkF m 61 #[.val (.int (15 : Int32)), .val (.int p2), .val (.int p3), .val (.int p4), .val (.int p5), .val (.int (4 : Int32)), .val (.ref b207), .val (.int (1 : Int32))] [(.int p3), (.int (1 : Int32)), (.ref b207)])) (fun _ k => XS.iloadN X211.here hx rfl (hb hby d11_60) rfl  k) ?_
  obtain ⟨c215, Ar215, q215, S215, M215, Hs215, G215⟩ := id V211
  have i215 : ¬ ((1 : Int32) < 0 ∨ c215.slots.size ≤ ((1 : Int32)).toNatClampNeg) := inb_of S215 ⟨by decide, by decide⟩
  obtain ⟨T215, h215, X215, e215, W215, st215⟩ := stI X211 hx hZ e211 Ar215 (j := (1 : Int32)) i215 (g := (mkF m 61 #[.val (.int (15 : Int32)), .val (.int p2), .val (.int p3), .val (.int p4), .val (.int p5), .val (.int (4 : Int32)), .val (.ref b207), .val (.int (1 : Int32))] [(.int p3), (.int (1 : Int32)), (.ref b207)])) rfl rfl (hb hby d11_61)
  have V215 : Arv Z h215 b207 k207 .int (4 : Int32) [(.int p2), (.int p3), (.int (0 : Int32)), (.int (0 : Int32))] (.int (0 : Int32)) := Arv.set Ar215 q215 S215 M215 Hs215 G215 rfl W215 1 rfl (Nat.le_of_ble_eq_true rfl)
  have N215 := Fr.snoc X215 N211 n0b207
  have z216 := Nat.le_trans z212 (Keep.of_wr W215).1
  have K217 := K213.wr W215 (Or.inr szb207)
  refine Rch.go (U' := T215.setTop (mkF m 62 #[.val (.int (15 : Int32)), .val (.int p2), .val (.int p3), .val (.int p4), .val (.int p5), .val (.int (4 : Int32)), .val (.ref b207), .val (.int (1 : Int32))] [])) st215 ?_
  refine Rch.go (U' := T215.setTop (mkF m 64 #[.val (.int (15 : Int32)), .val (.int p2), .val (.int p3), .val (.int p4), .val (.int p5), .val (.int (4 : Int32)), .val (.ref b207), .val (.int (1 : Int32))] [(.int (1 : Int32))])) (fun _ k => XS.iload X215.here hx rfl (hb hby d11_62) rfl  k) ?_
  refine Rch.go (U' := T215.setTop (mkF m 65 #[.val (.int (15 : Int32)), .val (.int p2), .val (.int p3), .val (.int p4), .val (.int p5), .val (.int (4 : Int32)), .val (.ref b207), .val (.int (1 : Int32))] [(.int (1 : Int32)), (.int (1 : Int32))])) (fun _ k => XS.iconst X215.here hx rfl (hb hby d11_64) k) ?_
  refine Rch.go (U' := T215.setTop (mkF m 66 #[.val (.int (15 : Int32)), .val (.int p2), .val (.int p3), .val (.int p4), .val (.int p5), .val (.int (4 : Int32)), .val (.ref b207), .val (.int (1 : Int32))] [(.int ((1 : Int32) + (1 : Int32)))])) (fun _ k => XS.iadd X215.here hx rfl (hb hby d11_65) rfl k) ?_
  rw [(by decide : ((1 : Int32) + (1 : Int32)) = (2 : Int32))]
  refine Rch.go (U' := T215.setTop (mkF m 68 #[.val (.int (15 : Int32)), .val (.int p2), .val (.int p3), .val (.int p4), .val (.int p5), .val (.int (4 : Int32)), .val (.ref b207), .val (.int (2 : Int32))] [])) (fun _ k => XS.istore X215.here hx rfl (hb hby d11_66) rfl (l' := #[.val (.int (15 : Int32)), .val (.int p2), .val (.int p3), .val (.int p4), .val (.int p5), .val (.int (4 : Int32)), .val (.ref b207), .val (.int (2 : Int32))]) rfl k) ?_
  refine Rch.go (U' := T215.setTop (mkF m 69 #[.val (.int (15 : Int32)), .val (.int p2), .val (.int p3), .val (.int p4), .val (.int p5), .val (.int (4 : Int32)), .val (.ref b207), .val (.int (2 : Int32))] [(.int (15 : Int32))])) (fun _ k => XS.iloadN X215.here hx rfl (hb hby d11_68) rfl  k) ?_
  refine Rch.go (U' := T215.setTop (mkF m 70 #[.val (.int (15 : Int32)), .val (.int p2), .val (.int p3), .val (.int p4), .val (.int p5), .val (.int (4 : Int32)), .val (.ref b207), .val (.int (2 : Int32))] [(.int (4 : Int32)), (.int (15 : Int32))])) (fun _ k => XS.iconst X215.here hx rfl (hb hby d11_69) k) ?_
  refine Rch.go (U' := T215.setTop (mkF m 71 #[.val (.int (15 : Int32)), .val (.int p2), .val (.int p3), .val (.int p4), .val (.int p5), .val (.int (4 : Int32)), .val (.ref b207), .val (.int (2 : Int32))] [(.int ((15 : Int32) &&& (4 : Int32)))])) (fun _ k => XS.iand X215.here hx rfl (hb hby d11_70) rfl k) ?_
  rw [(by decide : ((15 : Int32) &&& (4 : Int32)) = (4 : Int32))]
  have br218 : ¬ ((4 : Int32) = (0 : Int32)) := (by decide)
  refine Rch.go (U' := T215.setTop (mkF m 74 #[.val (.int (15 : Int32)), .val (.int p2), .val (.int p3), .val (.int p4), .val (.int p5), .val (.int (4 : Int32)), .val (.ref b207), .val (.int (2 : Int32))] [])) (fun _ k => XS.ifNo X215.here hx rfl (hb hby d11_71) rfl (XT.i0_eq_f br218) k) ?_
  refine Rch.go (U' := T215.setTop (mkF m 76 #[.val (.int (15 : Int32)), .val (.int p2), .val (.int p3), .val (.int p4), .val (.int p5), .val (.int (4 : Int32)), .val (.ref b207), .val (.int (2 : Int32))] [(.ref b207)])) (fun _ k => XS.aload X215.here hx rfl (hb hby d11_74) rfl rfl k) ?_
  refine Rch.go (U' := T215.setTop (mkF m 78 #[.val (.int (15 : Int32)), .val (.int p2), .val (.int p3), .val (.int p4), .val (.int p5), .val (.int (4 : Int32)), .val (.ref b207), .val (.int (2 : Int32))] [(.int (2 : Int32)), (.ref b207)])) (fun _ k => XS.iload X215.here hx rfl (hb hby d11_76) rfl  k) ?_
  refine Rch.go (U' := T215.setTop (mkF m 79 #[.val (.int (15 : Int32)), .val (.int p2), .val (.int p3), .val (.int p4), .val (.int p5), .val (.int (4 : Int32)), .val (.ref b207), .val (.int (2 : Int32))] [(.int p4), (.int (2 : Int32)), (.ref b207)])) (fun _ k => XS.iloadN X215.here hx rfl (hb hby d11_78) rfl  k) ?_
  obtain ⟨c219, Ar219, q219, S219, M219, Hs219, G219⟩ := id V215
  have i219 : ¬ ((2 : Int32) < 0 ∨ c219.slots.size ≤ ((2 : Int32)).toNatClampNeg) := inb_of S219 ⟨by decide, by decide⟩
  obtain ⟨T219, h219, X219, e219, W219, st219⟩ := stI X215 hx hZ e215 Ar219 (j := (2 : Int32)) i219 (g := (mkF m 79 #[.val (.int (15 : Int32)), .val (.int p2), .val (.int p3), .val (.int p4), .val (.int p5), .val (.int (4 : Int32)), .val (.ref b207), .val (.int (2 : Int32))] [(.int p4), (.int (2 : Int32)), (.ref b207)])) rfl rfl (hb hby d11_79)
  have V219 : Arv Z h219 b207 k207 .int (4 : Int32) [(.int p2), (.int p3), (.int p4), (.int (0 : Int32))] (.int (0 : Int32)) := Arv.set Ar219 q219 S219 M219 Hs219 G219 rfl W219 2 rfl (Nat.le_of_ble_eq_true rfl)
  have N219 := Fr.snoc X219 N215 n0b207
  have z220 := Nat.le_trans z216 (Keep.of_wr W219).1
  have K221 := K217.wr W219 (Or.inr szb207)
  refine Rch.go (U' := T219.setTop (mkF m 80 #[.val (.int (15 : Int32)), .val (.int p2), .val (.int p3), .val (.int p4), .val (.int p5), .val (.int (4 : Int32)), .val (.ref b207), .val (.int (2 : Int32))] [])) st219 ?_
  refine Rch.go (U' := T219.setTop (mkF m 82 #[.val (.int (15 : Int32)), .val (.int p2), .val (.int p3), .val (.int p4), .val (.int p5), .val (.int (4 : Int32)), .val (.ref b207), .val (.int (2 : Int32))] [(.int (2 : Int32))])) (fun _ k => XS.iload X219.here hx rfl (hb hby d11_80) rfl  k) ?_
  refine Rch.go (U' := T219.setTop (mkF m 83 #[.val (.int (15 : Int32)), .val (.int p2), .val (.int p3), .val (.int p4), .val (.int p5), .val (.int (4 : Int32)), .val (.ref b207), .val (.int (2 : Int32))] [(.int (1 : Int32)), (.int (2 : Int32))])) (fun _ k => XS.iconst X219.here hx rfl (hb hby d11_82) k) ?_
  refine Rch.go (U' := T219.setTop (mkF m 84 #[.val (.int (15 : Int32)), .val (.int p2), .val (.int p3), .val (.int p4), .val (.int p5), .val (.int (4 : Int32)), .val (.ref b207), .val (.int (2 : Int32))] [(.int ((2 : Int32) + (1 : Int32)))])) (fun _ k => XS.iadd X219.here hx rfl (hb hby d11_83) rfl k) ?_
  rw [(by decide : ((2 : Int32) + (1 : Int32)) = (3 : Int32))]
  refine Rch.go (U' := T219.setTop (mkF m 86 #[.val (.int (15 : Int32)), .val (.int p2), .val (.int p3), .val (.int p4), .val (.int p5), .val (.int (4 : Int32)), .val (.ref b207), .val (.int (3 : Int32))] [])) (fun _ k => XS.istore X219.here hx rfl (hb hby d11_84) rfl (l' := #[.val (.int (15 : Int32)), .val (.int p2), .val (.int p3), .val (.int p4), .val (.int p5), .val (.int (4 : Int32)), .val (.ref b207), .val (.int (3 : Int32))]) rfl k) ?_
  refine Rch.go (U' := T219.setTop (mkF m 87 #[.val (.int (15 : Int32)), .val (.int p2), .val (.int p3), .val (.int p4), .val (.int p5), .val (.int (4 : Int32)), .val (.ref b207), .val (.int (3 : Int32))] [(.int (15 : Int32))])) (fun _ k => XS.iloadN X219.here hx rfl (hb hby d11_86) rfl  k) ?_
  refine Rch.go (U' := T219.setTop (mkF m 89 #[.val (.int (15 : Int32)), .val (.int p2), .val (.int p3), .val (.int p4), .val (.int p5), .val (.int (4 : Int32)), .val (.ref b207), .val (.int (3 : Int32))] [(.int (8 : Int32)), (.int (15 : Int32))])) (fun _ k => XS.bipush X219.here hx rfl (hb hby d11_87) k) ?_
  refine Rch.go (U' := T219.setTop (mkF m 90 #[.val (.int (15 : Int32)), .val (.int p2), .val (.int p3), .val (.int p4), .val (.int p5), .val (.int (4 : Int32)), .val (.ref b207), .val (.int (3 : Int32))] [(.int ((15 : Int32) &&& (8 : Int32)))])) (fun _ k => XS.iand X219.here hx rfl (hb hby d11_89) rfl k) ?_
  rw [(by decide : ((15 : Int32) &&& (8 : Int32)) = (8 : Int32))]
  have br222 : ¬ ((8 : Int32) = (0 : Int32)) := (by decide)
  refine Rch.go (U' := T219.setTop (mkF m 93 #[.val (.int (15 : Int32)), .val (.int p2), .val (.int p3), .val (.int p4), .val (.int p5), .val (.int (4 : Int32)), .val (.ref b207), .val (.int (3 : Int32))] [])) (fun _ k => XS.ifNo X219.here hx rfl (hb hby d11_90) rfl (XT.i0_eq_f br222) k) ?_
  refine Rch.go (U' := T219.setTop (mkF m 95 #[.val (.int (15 : Int32)), .val (.int p2), .val (.int p3), .val (.int p4), .val (.int p5), .val (.int (4 : Int32)), .val (.ref b207), .val (.int (3 : Int32))] [(.ref b207)])) (fun _ k => XS.aload X219.here hx rfl (hb hby d11_93) rfl rfl k) ?_
  refine Rch.go (U' := T219.setTop (mkF m 97 #[.val (.int (15 : Int32)), .val (.int p2), .val (.int p3), .val (.int p4), .val (.int p5), .val (.int (4 : Int32)), .val (.ref b207), .val (.int (3 : Int32))] [(.int (3 : Int32)), (.ref b207)])) (fun _ k => XS.iload X219.here hx rfl (hb hby d11_95) rfl  k) ?_
  refine Rch.go (U' := T219.setTop (mkF m 99 #[.val (.int (15 : Int32)), .val (.int p2), .val (.int p3), .val (.int p4), .val (.int p5), .val (.int (4 : Int32)), .val (.ref b207), .val (.int (3 : Int32))] [(.int p5), (.int (3 : Int32)), (.ref b207)])) (fun _ k => XS.iload X219.here hx rfl (hb hby d11_97) rfl  k) ?_
  obtain ⟨c223, Ar223, q223, S223, M223, Hs223, G223⟩ := id V219
  have i223 : ¬ ((3 : Int32) < 0 ∨ c223.slots.size ≤ ((3 : Int32)).toNatClampNeg) := inb_of S223 ⟨by decide, by decide⟩
  obtain ⟨T223, h223, X223, e223, W223, st223⟩ := stI X219 hx hZ e219 Ar223 (j := (3 : Int32)) i223 (g := (mkF m 99 #[.val (.int (15 : Int32)), .val (.int p2), .val (.int p3), .val (.int p4), .val (.int p5), .val (.int (4 : Int32)), .val (.ref b207), .val (.int (3 : Int32))] [(.int p5), (.int (3 : Int32)), (.ref b207)])) rfl rfl (hb hby d11_99)
  have V223 : Arv Z h223 b207 k207 .int (4 : Int32) [(.int p2), (.int p3), (.int p4), (.int p5)] (.int (0 : Int32)) := Arv.set Ar223 q223 S223 M223 Hs223 G223 rfl W223 3 rfl (Nat.le_of_ble_eq_true rfl)
  have N223 := Fr.snoc X223 N219 n0b207
  have z224 := Nat.le_trans z220 (Keep.of_wr W223).1
  have K225 := K221.wr W223 (Or.inr szb207)
  refine Rch.go (U' := T223.setTop (mkF m 100 #[.val (.int (15 : Int32)), .val (.int p2), .val (.int p3), .val (.int p4), .val (.int p5), .val (.int (4 : Int32)), .val (.ref b207), .val (.int (3 : Int32))] [])) st223 ?_
  refine Rch.go (U' := T223.setTop (mkF m 102 #[.val (.int (15 : Int32)), .val (.int p2), .val (.int p3), .val (.int p4), .val (.int p5), .val (.int (4 : Int32)), .val (.ref b207), .val (.int (3 : Int32))] [(.int (3 : Int32))])) (fun _ k => XS.iload X223.here hx rfl (hb hby d11_100) rfl  k) ?_
  refine Rch.go (U' := T223.setTop (mkF m 103 #[.val (.int (15 : Int32)), .val (.int p2), .val (.int p3), .val (.int p4), .val (.int p5), .val (.int (4 : Int32)), .val (.ref b207), .val (.int (3 : Int32))] [(.int (1 : Int32)), (.int (3 : Int32))])) (fun _ k => XS.iconst X223.here hx rfl (hb hby d11_102) k) ?_
  refine Rch.go (U' := T223.setTop (mkF m 104 #[.val (.int (15 : Int32)), .val (.int p2), .val (.int p3), .val (.int p4), .val (.int p5), .val (.int (4 : Int32)), .val (.ref b207), .val (.int (3 : Int32))] [(.int ((3 : Int32) + (1 : Int32)))])) (fun _ k => XS.iadd X223.here hx rfl (hb hby d11_103) rfl k) ?_
  rw [(by decide : ((3 : Int32) + (1 : Int32)) = (4 : Int32))]
  refine Rch.go (U' := T223.setTop (mkF m 106 #[.val (.int (15 : Int32)), .val (.int p2), .val (.int p3), .val (.int p4), .val (.int p5), .val (.int (4 : Int32)), .val (.ref b207), .val (.int (4 : Int32))] [])) (fun _ k => XS.istore X223.here hx rfl (hb hby d11_104) rfl (l' := #[.val (.int (15 : Int32)), .val (.int p2), .val (.int p3), .val (.int p4), .val (.int p5), .val (.int (4 : Int32)), .val (.ref b207), .val (.int (4 : Int32))]) rfl k) ?_
  refine Rch.go (U' := T223.setTop (mkF m 108 #[.val (.int (15 : Int32)), .val (.int p2), .val (.int p3), .val (.int p4), .val (.int p5), .val (.int (4 : Int32)), .val (.ref b207), .val (.int (4 : Int32))] [(.ref b207)])) (fun _ k => XS.aload X223.here hx rfl (hb hby d11_106) rfl rfl k) ?_
  refine Rch.fin X223 hlk (v := some (.ref b207)) (fun h => by rw [hret] at h; cases h) e223 (by decide) (by decide) (fun fs hr => retOut X223 hx hret rfl (Or.inr (Or.inr (Or.inr (Or.inr ⟨rfl, rfl, rfl⟩)))) (hb hby d11_108) hr) ?_
  exact ⟨b207, k207, rfl, N223, K225, n0b207, szb207, by rw [own_s15]; exact V223⟩
theorem pn_com_example_fixpoints_of_behaviour_fixpointsofbehaviour_bisimulation_RefusalsHoldsPinLaw : plainName "com/example/fixpoints_of_behaviour/fixpointsofbehaviour/bisimulation/RefusalsHoldsPinLaw" = true := by first | (simp [plainName, overriddenIn]; done) | decide +kernel
theorem ef_rmS (m : MethodId) (p1 : Int32) (p2 : Int32) (p3 : Int32) (p4 : Int32) (p5 : Int32) : entryFrame m #[(.int p1), (.int p2), (.int p3), (.int p4), (.int p5)] 8 = mkF m 0 #[.val (.int p1), .val (.int p2), .val (.int p3), .val (.int p4), .val (.int p5), .unset, .unset, .unset] [] := by first | (simp [entryFrame, mkF, argsToLocals, Value.category]; done) | rfl
def Q_rmS (Z : State) (p1 : Int32) (p2 : Int32) (p3 : Int32) (p4 : Int32) (p5 : Int32) (h0 : Heap) (n0 : Nat) (v : Option Value) (h : Heap) (L : List Loc) : Prop := ∃ (b : Addr) (kb : ClassId), v = some (.ref b) ∧ Fr n0 L ∧ Keep h0 h [] ∧ n0 ≤ b ∧ h0.size ≤ b ∧ Arv Z h b kb .int (Int32.ofNat (own_sub p1 p2 p3 p4 p5).length) ((own_sub p1 p2 p3 p4 p5).map Value.int) (.int (0 : Int32))
set_option maxRecDepth 65536 in
set_option maxHeartbeats 40000000 in
theorem rmS (l : Launch) (Z : State) (a0 : Array Value) (hw : ∀ d ∈ tables_1, d.before a0 Z = true) (ws : List Jvm.Cond) (p1 : Int32) (p2 : Int32) (p3 : Int32) (p4 : Int32) (p5 : Int32) (h0 : Heap) (n0 : Nat) (Z0 : n0 ≤ h0.size) (hm : p1 = 0 ∨ p1 = 1 ∨ p1 = 2 ∨ p1 = 3 ∨ p1 = 4 ∨ p1 = 5 ∨ p1 = 6 ∨ p1 = 7 ∨ p1 = 8 ∨ p1 = 9 ∨ p1 = 10 ∨ p1 = 11 ∨ p1 = 12 ∨ p1 = 13 ∨ p1 = 14 ∨ p1 = 15) :
    MetFree l (⟨"com/example/fixpoints_of_behaviour/fixpointsofbehaviour/bisimulation/RefusalsHoldsPinLaw", "subset", "(IIIII)[I"⟩ : MethodName) (head1 (Jvm.Cond.code (⟨"com/example/fixpoints_of_behaviour/fixpointsofbehaviour/bisimulation/RefusalsHoldsPinLaw", "subset", "(IIIII)[I"⟩ : MethodName) method_2_code 8 (some (.array .int)) :: ws) ({ frames := 0, cells := 1, slots := 4, locals := 0 } : Room)) (fun a U => a = #[(.int p1), (.int p2), (.int p3), (.int p4), (.int p5)] ∧ Z.Warmed39 U.vm ∧ U.heap = h0) (fun _ _ _ _ _ => True) (fun _ U o U' => ∃ v L, o = .returned v ∧ Q_rmS Z p1 p2 p3 p4 p5 h0 n0 v U'.heap L ∧ FrameEnd U o U' L ({ frames := 0, cells := 1, slots := 4, locals := 0 } : Room).cells ({ frames := 0, cells := 1, slots := 4, locals := 0 } : Room).slots) := by
  refine MetFree.of_bodySF (plainFor_of_name pn_com_example_fixpoints_of_behaviour_fixpointsofbehaviour_bisimulation_RefusalsHoldsPinLaw) hisR ?_
  intro p e s m args below meth c s₁ Bd hml0 hP hK
  obtain ⟨rfl, hZ, hh⟩ := hP
  have hx := Bd.exec
  have hby := Bd.bytes
  have hml : c.maxLocals = 8 := hml0
  have hown : s.vm.findClass "com/example/fixpoints_of_behaviour/fixpointsofbehaviour/bisimulation/RefusalsHoldsPinLaw" = some m.cls := findClass_of_methodNamed Bd.named
  have hnm := (name_of_methodNamed Bd.named Bd.method).1
  have hret := Bd.returns
  have hlk : meth.locks = false := BodyLoose.notSynchronized Bd
  have X0 : Stand p l e ({ frames := 0, cells := 1, slots := 4, locals := 0 } : Room) s m #[(.int p1), (.int p2), (.int p3), (.int p4), (.int p5)] below meth c s₁ [] 0 0 := Stand.of_body Bd
  have e0 : s₁.heap = h0 := by rw [← hh, Bd.state]; rfl
  have N0 := Fr.nil n0
  refine Rch.body (Q := Q_rmS Z p1 p2 p3 p4 p5 h0 n0) (U' := s₁.setTop (mkF m 0 #[.val (.int p1), .val (.int p2), .val (.int p3), .val (.int p4), .val (.int p5), .unset, .unset, .unset] [])) (fun t k => castTop (ef_rmS m p1 p2 p3 p4 p5) k) ?_
  rcases hm with q | q | q | q | q | q | q | q | q | q | q | q | q | q | q | q <;> subst q
  · exact sub0 p2 p3 p4 p5 X0 hx hZ hw hby hml hown hret hlk e0 N0 Z0
  · exact sub1 p2 p3 p4 p5 X0 hx hZ hw hby hml hown hret hlk e0 N0 Z0
  · exact sub2 p2 p3 p4 p5 X0 hx hZ hw hby hml hown hret hlk e0 N0 Z0
  · exact sub3 p2 p3 p4 p5 X0 hx hZ hw hby hml hown hret hlk e0 N0 Z0
  · exact sub4 p2 p3 p4 p5 X0 hx hZ hw hby hml hown hret hlk e0 N0 Z0
  · exact sub5 p2 p3 p4 p5 X0 hx hZ hw hby hml hown hret hlk e0 N0 Z0
  · exact sub6 p2 p3 p4 p5 X0 hx hZ hw hby hml hown hret hlk e0 N0 Z0
  · exact sub7 p2 p3 p4 p5 X0 hx hZ hw hby hml hown hret hlk e0 N0 Z0
  · exact sub8 p2 p3 p4 p5 X0 hx hZ hw hby hml hown hret hlk e0 N0 Z0
  · exact sub9 p2 p3 p4 p5 X0 hx hZ hw hby hml hown hret hlk e0 N0 Z0
  · exact sub10 p2 p3 p4 p5 X0 hx hZ hw hby hml hown hret hlk e0 N0 Z0
  · exact sub11 p2 p3 p4 p5 X0 hx hZ hw hby hml hown hret hlk e0 N0 Z0
  · exact sub12 p2 p3 p4 p5 X0 hx hZ hw hby hml hown hret hlk e0 N0 Z0
  · exact sub13 p2 p3 p4 p5 X0 hx hZ hw hby hml hown hret hlk e0 N0 Z0
  · exact sub14 p2 p3 p4 p5 X0 hx hZ hw hby hml hown hret hlk e0 N0 Z0
  · exact sub15 p2 p3 p4 p5 X0 hx hZ hw hby hml hown hret hlk e0 N0 Z0
theorem own_sl (m v0 v1 v2 v3 : Int32) : (own_sub m v0 v1 v2 v3).length < 2147483648 := by
  unfold own_sub own_bits
  cases (m &&& 1) != 0 <;> cases (m &&& 2) != 0 <;> cases (m &&& 4) != 0 <;> cases (m &&& 8) != 0 <;> simp [own_pick]
/-- each that the second takes the first takes too -/
def own_imp : List Bool → List Bool → Bool
  | b :: bs, c :: cs => (b || !c) && own_imp bs cs
  | _, _ => true
theorem own_hd (v : Int32) (X Y : List Int32) (hY : ∀ y ∈ Y, v < y) : own_holds (v :: X) Y = own_holds X Y := by
  cases Y with
  | nil => unfold own_holds; rfl
  | cons y Y => rw [own_holds, if_pos (hY y (List.mem_cons_self ..))]
theorem own_pick_mem : ∀ (bs : List Bool) (xs : List Int32) (P : Int32 → Prop), (∀ x ∈ xs, P x) → ∀ x ∈ own_pick bs xs, P x
  | [], xs, P, h, x, hx => by simp [own_pick] at hx
  | b :: bs, [], P, h, x, hx => by cases b <;> simp [own_pick] at hx
  | true :: bs, y :: ys, P, h, x, hx => by
    simp only [own_pick, List.mem_cons] at hx
    rcases hx with rfl | hx
    · exact h _ (List.mem_cons_self ..)
    · exact own_pick_mem bs ys P (fun z hz => h z (List.mem_cons_of_mem _ hz)) x hx
  | false :: bs, y :: ys, P, h, x, hx => by
    simp only [own_pick] at hx
    exact own_pick_mem bs ys P (fun z hz => h z (List.mem_cons_of_mem _ hz)) x hx
theorem own_pp : ∀ (vs : List Int32) (bs cs : List Bool), vs.Pairwise (· < ·) → bs.length = vs.length → cs.length = vs.length → own_holds (own_pick bs vs) (own_pick cs vs) = if own_imp bs cs = true then 1 else 0
  | [], [], [], _, _, _ => by simp [own_pick, own_imp, own_holds]
  | v :: vs, b :: bs, c :: cs, hp, h1, h2 => by
    have hp' := List.pairwise_cons.mp hp
    have ih := own_pp vs bs cs hp'.2 (by simpa using h1) (by simpa using h2)
    have hX := own_pick_mem bs vs (fun y => v < y) hp'.1
    have hY := own_pick_mem cs vs (fun y => v < y) hp'.1
    cases b <;> cases c
    · simpa [own_pick, own_imp] using ih
    · simp only [own_pick, own_imp]
      cases hx : own_pick bs vs with
      | nil => simp [own_holds]
      | cons x X =>
        have hv : v < x := hX x (by rw [hx]; exact List.mem_cons_self ..)
        have n1 : ¬ x < v := fun q => absurd (Int32.lt_trans hv q) (Int32.lt_irrefl)
        have n2 : ¬ x = v := fun q => absurd (q ▸ hv) (Int32.lt_irrefl)
        rw [own_holds, if_neg n1, if_neg n2]; simp
    · simp only [own_pick, own_imp]
      rw [own_hd v _ _ hY, ih]; simp
    · simp only [own_pick, own_imp]
      rw [own_holds, if_neg Int32.lt_irrefl, if_pos rfl, own_hd v _ _ hY, ih]; simp
theorem own_m16 : ∀ a b : Fin 16, own_imp (own_bits (Int32.ofNat a)) (own_bits (Int32.ofNat b)) = decide (((Int32.ofNat b &&& (Int32.ofNat a ^^^ (-1 : Int32))) &&& (15 : Int32)) = (0 : Int32)) := by decide +kernel
theorem own_fin {m : Int32} (h : m = 0 ∨ m = 1 ∨ m = 2 ∨ m = 3 ∨ m = 4 ∨ m = 5 ∨ m = 6 ∨ m = 7 ∨ m = 8 ∨ m = 9 ∨ m = 10 ∨ m = 11 ∨ m = 12 ∨ m = 13 ∨ m = 14 ∨ m = 15) : ∃ a : Fin 16, m = Int32.ofNat a := by
  rcases h with h | h | h | h | h | h | h | h | h | h | h | h | h | h | h | h
  · exact ⟨0, h⟩
  · exact ⟨1, h⟩
  · exact ⟨2, h⟩
  · exact ⟨3, h⟩
  · exact ⟨4, h⟩
  · exact ⟨5, h⟩
  · exact ⟨6, h⟩
  · exact ⟨7, h⟩
  · exact ⟨8, h⟩
  · exact ⟨9, h⟩
  · exact ⟨10, h⟩
  · exact ⟨11, h⟩
  · exact ⟨12, h⟩
  · exact ⟨13, h⟩
  · exact ⟨14, h⟩
  · exact ⟨15, h⟩
theorem own_law (m1 m2 v0 v1 v2 v3 : Int32) (h1 : m1 = 0 ∨ m1 = 1 ∨ m1 = 2 ∨ m1 = 3 ∨ m1 = 4 ∨ m1 = 5 ∨ m1 = 6 ∨ m1 = 7 ∨ m1 = 8 ∨ m1 = 9 ∨ m1 = 10 ∨ m1 = 11 ∨ m1 = 12 ∨ m1 = 13 ∨ m1 = 14 ∨ m1 = 15) (h2 : m2 = 0 ∨ m2 = 1 ∨ m2 = 2 ∨ m2 = 3 ∨ m2 = 4 ∨ m2 = 5 ∨ m2 = 6 ∨ m2 = 7 ∨ m2 = 8 ∨ m2 = 9 ∨ m2 = 10 ∨ m2 = 11 ∨ m2 = 12 ∨ m2 = 13 ∨ m2 = 14 ∨ m2 = 15) (s0 : v0 < v1) (s1 : v1 < v2) (s2 : v2 < v3) :
    own_H (own_sub m1 v0 v1 v2 v3) (own_sub m2 v0 v1 v2 v3) 0 0 = if ((m2 &&& (m1 ^^^ (-1 : Int32))) &&& (15 : Int32)) = (0 : Int32) then 1 else 0 := by
  obtain ⟨a, rfl⟩ := own_fin h1
  obtain ⟨b, rfl⟩ := own_fin h2
  have hp : [v0, v1, v2, v3].Pairwise (· < ·) := by
    have t1 := Int32.lt_trans s0 s1
    have t2 := Int32.lt_trans s1 s2
    have t3 := Int32.lt_trans t1 s2
    simp [s0, s1, s2, t1, t2, t3]
  show own_holds (own_pick _ _) (own_pick _ _) = _
  rw [own_pp _ _ _ hp rfl rfl, own_m16 a b]
  simp only [decide_eq_true_eq]
theorem own_asc (p q : Int32) (h : ¬ ((own_max p q).toInt64 - (own_min p q).toInt64 < (3 : Int64))) : own_min p q < own_min p q + (1 : Int32) ∧ own_min p q + (1 : Int32) < own_max p q - (1 : Int32) ∧ own_max p q - (1 : Int32) < own_max p q := by
  generalize own_max p q = b at *
  generalize own_min p q = a at *
  have ra := rng32 a
  have rb := rng32 b
  have e : (b.toInt64 - a.toInt64).toInt = b.toInt - a.toInt := by
    rw [XT.sub64 (by rw [c_i2l, c_i2l]; constructor <;> omega), c_i2l, c_i2l]
  have h' : ¬ (b.toInt - a.toInt < 3) := fun z => h (Int64.lt_iff_toInt_lt.mpr (by rw [e]; exact z))
  have z1 : (1 : Int32).toInt = 1 := rfl
  have e1 : (a + 1).toInt = a.toInt + 1 := XT.add32 (y := 1) ⟨by rw [z1]; omega, by rw [z1]; omega⟩
  have e2 : (b - 1).toInt = b.toInt - 1 := XT.sub32 (y := 1) ⟨by rw [z1]; omega, by rw [z1]; omega⟩
  refine ⟨?_, ?_, ?_⟩ <;> rw [Int32.lt_iff_toInt_lt] <;> omega

theorem pd_4 : parseMethodDescriptor "(II)I" = some ⟨[.int, .int], some .int⟩ := by decide +kernel
theorem pd_5 : parseMethodDescriptor "(IIIII)[I" = some ⟨[.int, .int, .int, .int, .int], some (.array .int)⟩ := by decide +kernel
theorem pd_6 : parseMethodDescriptor "([I[I)Z" = some ⟨[(.array .int), (.array .int)], some .boolean⟩ := by decide +kernel
theorem ef_rm0 (m : MethodId) (p1 : Int32) (p2 : Int32) (p3 : Int32) (p4 : Int32) : entryFrame m #[(.int p1), (.int p2), (.int p3), (.int p4)] maxLocals = mkF m 0 #[.val (.int p1), .val (.int p2), .val (.int p3), .val (.int p4), .unset, .unset, .unset, .unset, .unset, .unset, .unset, .unset, .unset, .unset, .unset] [] := by first | (simp [entryFrame, mkF, argsToLocals, Value.category, maxLocals]; done) | rfl
def Q_rm0 (Z : State) (p1 : Int32) (p2 : Int32) (p3 : Int32) (p4 : Int32) (h0 : Heap) (n0 : Nat) (v : Option Value) (h : Heap) (L : List Loc) : Prop := v = some (.int 1) ∧ Fr n0 L
set_option maxRecDepth 65536 in
set_option maxHeartbeats 40000000 in
theorem rm0 (l : Launch) (Z : State) (a0 : Array Value) (hw : ∀ d ∈ tables_1, d.before a0 Z = true) (ws : List Jvm.Cond) (p1 : Int32) (p2 : Int32) (p3 : Int32) (p4 : Int32) (h0 : Heap) (n0 : Nat) (Z0 : n0 ≤ h0.size)  :
    MetFree l x (head1 (Jvm.Cond.code x code maxLocals ret :: ws) room_1) (fun a U => a = #[(.int p1), (.int p2), (.int p3), (.int p4)] ∧ Z.Warmed39 U.vm ∧ U.heap = h0) (fun _ _ _ _ _ => True) (fun _ U o U' => ∃ v L, o = .returned v ∧ Q_rm0 Z p1 p2 p3 p4 h0 n0 v U'.heap L ∧ FrameEnd U o U' L 16 128) := by
  refine MetFree.of_bodySF (plainFor_of_name pn_com_example_fixpoints_of_behaviour_fixpointsofbehaviour_bisimulation_RefusalsHoldsPinLaw) hisR ?_
  intro p e s m args below meth c s₁ Bd hml0 hP hK
  obtain ⟨rfl, hZ, hh⟩ := hP
  have hx := Bd.exec
  have hby := Bd.bytes
  have hml : c.maxLocals = 15 := hml0
  have hown : s.vm.findClass "com/example/fixpoints_of_behaviour/fixpointsofbehaviour/bisimulation/RefusalsHoldsPinLaw" = some m.cls := findClass_of_methodNamed Bd.named
  have hnm := (name_of_methodNamed Bd.named Bd.method).1
  have hret := Bd.returns
  have hlk : meth.locks = false := BodyLoose.notSynchronized Bd
  have X0 : Stand p l e room_1 s m #[(.int p1), (.int p2), (.int p3), (.int p4)] below meth c s₁ [] 0 0 := Stand.of_body Bd
  have e0 : s₁.heap = h0 := by rw [← hh, Bd.state]; rfl
  have N0 := Fr.nil n0
  refine Rch.body (Q := Q_rm0 Z p1 p2 p3 p4 h0 n0) (U' := s₁.setTop (mkF m 0 #[.val (.int p1), .val (.int p2), .val (.int p3), .val (.int p4), .unset, .unset, .unset, .unset, .unset, .unset, .unset, .unset, .unset, .unset, .unset] [])) (fun t k => castTop (ef_rm0 m p1 p2 p3 p4) k) ?_
  refine Rch.go (U' := s₁.setTop (mkF m 1 #[.val (.int p1), .val (.int p2), .val (.int p3), .val (.int p4), .unset, .unset, .unset, .unset, .unset, .unset, .unset, .unset, .unset, .unset, .unset] [(.int p1)])) (fun _ k => XS.iloadN X0.here hx rfl (hb hby at_0) rfl  k) ?_
  refine Rch.go (U' := s₁.setTop (mkF m 2 #[.val (.int p1), .val (.int p2), .val (.int p3), .val (.int p4), .unset, .unset, .unset, .unset, .unset, .unset, .unset, .unset, .unset, .unset, .unset] [(.int p2), (.int p1)])) (fun _ k => XS.iloadN X0.here hx rfl (hb hby at_1) rfl  k) ?_
  obtain ⟨_, _, ⟨T226, L226, k226, n226⟩, -, X226, ⟨Lc226, hQ226, l226, y226, z226⟩, st226⟩ := Jvm.LawKit.callS X0 hx (y := (⟨"java/lang/Math", "min", "(II)I"⟩ : MethodName)) hown (mvT hZ (wi hw 0 rfl)) (mvT hZ (wi hw 1 rfl)) (mvT hZ (wi hw 2 rfl)) (mvT hZ (wi hw 3 rfl)) (by decide) (backOf (W := 0) (rmMin l Z a0 hw [] p1 p2 h0 n0 Z0 ) hZ (wi hw 3 rfl) (wi hw 2 rfl) (by decide) (by decide)) (g := (mkF m 2 #[.val (.int p1), .val (.int p2), .val (.int p3), .val (.int p4), .unset, .unset, .unset, .unset, .unset, .unset, .unset, .unset, .unset, .unset, .unset] [(.int p2), (.int p1)])) rfl (by rw [hml]; rfl) (argsL := [(.int p1), (.int p2)]) (rest := []) (lenOf pd_4 rfl) rfl (by show 2 * 0 + _ ≤ _; exact Nat.le_of_eq rfl) (hb hby at_2) (fun _ _ => ⟨rfl, e0, (by decide : 0 + 0 ≤ _), (by decide : 0 + 0 ≤ _)⟩)
  dsimp only [Pt.U, Pt.locs, Pt.cells, Pt.slots] at X226 l226 y226 z226 st226 hQ226
  subst l226 y226 z226
  obtain ⟨rfl, N226q, e226⟩ := hQ226
  have N226 := Fr.app N0 N226q
  refine Rch.go (U' := T226.setTop (mkF m 5 #[.val (.int p1), .val (.int p2), .val (.int p3), .val (.int p4), .unset, .unset, .unset, .unset, .unset, .unset, .unset, .unset, .unset, .unset, .unset] [(.int (own_min p1 p2))])) st226 ?_
  generalize hloq : (own_min p1 p2) = lo
  refine Rch.go (U' := T226.setTop (mkF m 7 #[.val (.int p1), .val (.int p2), .val (.int p3), .val (.int p4), .val (.int lo), .unset, .unset, .unset, .unset, .unset, .unset, .unset, .unset, .unset, .unset] [])) (fun _ k => XS.istore X226.here hx rfl (hb hby at_5) rfl (l' := #[.val (.int p1), .val (.int p2), .val (.int p3), .val (.int p4), .val (.int lo), .unset, .unset, .unset, .unset, .unset, .unset, .unset, .unset, .unset, .unset]) rfl k) ?_
  refine Rch.go (U' := T226.setTop (mkF m 8 #[.val (.int p1), .val (.int p2), .val (.int p3), .val (.int p4), .val (.int lo), .unset, .unset, .unset, .unset, .unset, .unset, .unset, .unset, .unset, .unset] [(.int p1)])) (fun _ k => XS.iloadN X226.here hx rfl (hb hby at_7) rfl  k) ?_
  refine Rch.go (U' := T226.setTop (mkF m 9 #[.val (.int p1), .val (.int p2), .val (.int p3), .val (.int p4), .val (.int lo), .unset, .unset, .unset, .unset, .unset, .unset, .unset, .unset, .unset, .unset] [(.int p2), (.int p1)])) (fun _ k => XS.iloadN X226.here hx rfl (hb hby at_8) rfl  k) ?_
  obtain ⟨_, _, ⟨T227, L227, k227, n227⟩, -, X227, ⟨Lc227, hQ227, l227, y227, z227⟩, st227⟩ := Jvm.LawKit.callS X226 hx (y := (⟨"java/lang/Math", "max", "(II)I"⟩ : MethodName)) hown (mvT hZ (wi hw 4 rfl)) (mvT hZ (wi hw 5 rfl)) (mvT hZ (wi hw 2 rfl)) (mvT hZ (wi hw 6 rfl)) (by decide) (backOf (W := 0) (rmMax l Z a0 hw [] p1 p2 h0 n0 Z0 ) hZ (wi hw 6 rfl) (wi hw 2 rfl) (by decide) (by decide)) (g := (mkF m 9 #[.val (.int p1), .val (.int p2), .val (.int p3), .val (.int p4), .val (.int lo), .unset, .unset, .unset, .unset, .unset, .unset, .unset, .unset, .unset, .unset] [(.int p2), (.int p1)])) rfl (by rw [hml]; rfl) (argsL := [(.int p1), (.int p2)]) (rest := []) (lenOf pd_4 rfl) rfl (by show 2 * 0 + _ ≤ _; exact Nat.le_of_eq rfl) (hb hby at_9) (fun _ _ => ⟨rfl, e226, (by decide : 0 + 0 ≤ _), (by decide : 0 + 0 ≤ _)⟩)
  dsimp only [Pt.U, Pt.locs, Pt.cells, Pt.slots] at X227 l227 y227 z227 st227 hQ227
  subst l227 y227 z227
  obtain ⟨rfl, N227q, e227⟩ := hQ227
  have N227 := Fr.app N226 N227q
  refine Rch.go (U' := T227.setTop (mkF m 12 #[.val (.int p1), .val (.int p2), .val (.int p3), .val (.int p4), .val (.int lo), .unset, .unset, .unset, .unset, .unset, .unset, .unset, .unset, .unset, .unset] [(.int (own_max p1 p2))])) st227 ?_
  generalize hhiq : (own_max p1 p2) = hi
  refine Rch.go (U' := T227.setTop (mkF m 14 #[.val (.int p1), .val (.int p2), .val (.int p3), .val (.int p4), .val (.int lo), .val (.int hi), .unset, .unset, .unset, .unset, .unset, .unset, .unset, .unset, .unset] [])) (fun _ k => XS.istore X227.here hx rfl (hb hby at_12) rfl (l' := #[.val (.int p1), .val (.int p2), .val (.int p3), .val (.int p4), .val (.int lo), .val (.int hi), .unset, .unset, .unset, .unset, .unset, .unset, .unset, .unset, .unset]) rfl k) ?_
  refine Rch.go (U' := T227.setTop (mkF m 16 #[.val (.int p1), .val (.int p2), .val (.int p3), .val (.int p4), .val (.int lo), .val (.int hi), .unset, .unset, .unset, .unset, .unset, .unset, .unset, .unset, .unset] [(.int hi)])) (fun _ k => XS.iload X227.here hx rfl (hb hby at_14) rfl  k) ?_
  refine Rch.go (U' := T227.setTop (mkF m 17 #[.val (.int p1), .val (.int p2), .val (.int p3), .val (.int p4), .val (.int lo), .val (.int hi), .unset, .unset, .unset, .unset, .unset, .unset, .unset, .unset, .unset] [(.long (hi).toInt64)])) (fun _ k => XS.i2l X227.here hx rfl (hb hby at_16) rfl k) ?_
  refine Rch.go (U' := T227.setTop (mkF m 19 #[.val (.int p1), .val (.int p2), .val (.int p3), .val (.int p4), .val (.int lo), .val (.int hi), .unset, .unset, .unset, .unset, .unset, .unset, .unset, .unset, .unset] [(.int lo), (.long (hi).toInt64)])) (fun _ k => XS.iload X227.here hx rfl (hb hby at_17) rfl  k) ?_
  refine Rch.go (U' := T227.setTop (mkF m 20 #[.val (.int p1), .val (.int p2), .val (.int p3), .val (.int p4), .val (.int lo), .val (.int hi), .unset, .unset, .unset, .unset, .unset, .unset, .unset, .unset, .unset] [(.long (lo).toInt64), (.long (hi).toInt64)])) (fun _ k => XS.i2l X227.here hx rfl (hb hby at_19) rfl k) ?_
  refine Rch.go (U' := T227.setTop (mkF m 21 #[.val (.int p1), .val (.int p2), .val (.int p3), .val (.int p4), .val (.int lo), .val (.int hi), .unset, .unset, .unset, .unset, .unset, .unset, .unset, .unset, .unset] [(.long ((hi).toInt64 - (lo).toInt64))])) (fun _ k => XS.lsub X227.here hx rfl (hb hby at_20) rfl k) ?_
  refine Rch.go (U' := T227.setTop (mkF m 24 #[.val (.int p1), .val (.int p2), .val (.int p3), .val (.int p4), .val (.int lo), .val (.int hi), .unset, .unset, .unset, .unset, .unset, .unset, .unset, .unset, .unset] [(.long (3 : Int64)), (.long ((hi).toInt64 - (lo).toInt64))])) (fun _ k => X227.ldc2Long hx hown (mvT hZ (wi hw 7 rfl)) (g := (mkF m 21 #[.val (.int p1), .val (.int p2), .val (.int p3), .val (.int p4), .val (.int lo), .val (.int hi), .unset, .unset, .unset, .unset, .unset, .unset, .unset, .unset, .unset] [(.long ((hi).toInt64 - (lo).toInt64))])) rfl (hb hby at_21) _ k) ?_
  refine Rch.go (U' := T227.setTop (mkF m 25 #[.val (.int p1), .val (.int p2), .val (.int p3), .val (.int p4), .val (.int lo), .val (.int hi), .unset, .unset, .unset, .unset, .unset, .unset, .unset, .unset, .unset] [(.int (XT.cmpL ((hi).toInt64 - (lo).toInt64) (3 : Int64)))])) (fun _ k => XT.lcmp X227.here hx rfl (hb hby at_24) rfl k) ?_
  by_cases br228 : ((hi).toInt64 - (lo).toInt64) < (3 : Int64)
  ·
    refine Rch.go (U' := T227.setTop (mkF m 28 #[.val (.int p1), .val (.int p2), .val (.int p3), .val (.int p4), .val (.int lo), .val (.int hi), .unset, .unset, .unset, .unset, .unset, .unset, .unset, .unset, .unset] [])) (fun _ k => XS.ifNo X227.here hx rfl (hb hby at_25) rfl (XT.ll_ge_f br228) k) ?_
    refine Rch.go (U' := T227.setTop (mkF m 29 #[.val (.int p1), .val (.int p2), .val (.int p3), .val (.int p4), .val (.int lo), .val (.int hi), .unset, .unset, .unset, .unset, .unset, .unset, .unset, .unset, .unset] [(.int (1 : Int32))])) (fun _ k => XS.iconst X227.here hx rfl (hb hby at_28) k) ?_
    refine Rch.fin X227 hlk (v := some (.int (nar .boolean (1 : Int32)))) (fun h => by rw [hret] at h; cases h) e227 (by decide) (by decide) (fun fs hr => retN X227 hx (t := .boolean) hret (by simp) (hb hby at_29) hr) ?_
    exact ⟨rfl, N227⟩
  ·
    refine Rch.go (U' := T227.setTop (mkF m 30 #[.val (.int p1), .val (.int p2), .val (.int p3), .val (.int p4), .val (.int lo), .val (.int hi), .unset, .unset, .unset, .unset, .unset, .unset, .unset, .unset, .unset] [])) (fun _ k => XS.ifYes X227.here hx rfl (pc0 := 25) (pc' := 30) rfl (hb hby at_25) rfl (XT.ll_ge_t br228) (by decide) (by decide) k) ?_
    refine Rch.go (U' := T227.setTop (mkF m 32 #[.val (.int p1), .val (.int p2), .val (.int p3), .val (.int p4), .val (.int lo), .val (.int hi), .unset, .unset, .unset, .unset, .unset, .unset, .unset, .unset, .unset] [(.int lo)])) (fun _ k => XS.iload X227.here hx rfl (hb hby at_30) rfl  k) ?_
    refine Rch.go (U' := T227.setTop (mkF m 34 #[.val (.int p1), .val (.int p2), .val (.int p3), .val (.int p4), .val (.int lo), .val (.int hi), .val (.int lo), .unset, .unset, .unset, .unset, .unset, .unset, .unset, .unset] [])) (fun _ k => XS.istore X227.here hx rfl (hb hby at_32) rfl (l' := #[.val (.int p1), .val (.int p2), .val (.int p3), .val (.int p4), .val (.int lo), .val (.int hi), .val (.int lo), .unset, .unset, .unset, .unset, .unset, .unset, .unset, .unset]) rfl k) ?_
    refine Rch.go (U' := T227.setTop (mkF m 36 #[.val (.int p1), .val (.int p2), .val (.int p3), .val (.int p4), .val (.int lo), .val (.int hi), .val (.int lo), .unset, .unset, .unset, .unset, .unset, .unset, .unset, .unset] [(.int lo)])) (fun _ k => XS.iload X227.here hx rfl (hb hby at_34) rfl  k) ?_
    refine Rch.go (U' := T227.setTop (mkF m 37 #[.val (.int p1), .val (.int p2), .val (.int p3), .val (.int p4), .val (.int lo), .val (.int hi), .val (.int lo), .unset, .unset, .unset, .unset, .unset, .unset, .unset, .unset] [(.int (1 : Int32)), (.int lo)])) (fun _ k => XS.iconst X227.here hx rfl (hb hby at_36) k) ?_
    refine Rch.go (U' := T227.setTop (mkF m 38 #[.val (.int p1), .val (.int p2), .val (.int p3), .val (.int p4), .val (.int lo), .val (.int hi), .val (.int lo), .unset, .unset, .unset, .unset, .unset, .unset, .unset, .unset] [(.int (lo + (1 : Int32)))])) (fun _ k => XS.iadd X227.here hx rfl (hb hby at_37) rfl k) ?_
    generalize hv1 : (lo + (1 : Int32)) = v1
    refine Rch.go (U' := T227.setTop (mkF m 40 #[.val (.int p1), .val (.int p2), .val (.int p3), .val (.int p4), .val (.int lo), .val (.int hi), .val (.int lo), .val (.int v1), .unset, .unset, .unset, .unset, .unset, .unset, .unset] [])) (fun _ k => XS.istore X227.here hx rfl (hb hby at_38) rfl (l' := #[.val (.int p1), .val (.int p2), .val (.int p3), .val (.int p4), .val (.int lo), .val (.int hi), .val (.int lo), .val (.int v1), .unset, .unset, .unset, .unset, .unset, .unset, .unset]) rfl k) ?_
    refine Rch.go (U' := T227.setTop (mkF m 42 #[.val (.int p1), .val (.int p2), .val (.int p3), .val (.int p4), .val (.int lo), .val (.int hi), .val (.int lo), .val (.int v1), .unset, .unset, .unset, .unset, .unset, .unset, .unset] [(.int hi)])) (fun _ k => XS.iload X227.here hx rfl (hb hby at_40) rfl  k) ?_
    refine Rch.go (U' := T227.setTop (mkF m 43 #[.val (.int p1), .val (.int p2), .val (.int p3), .val (.int p4), .val (.int lo), .val (.int hi), .val (.int lo), .val (.int v1), .unset, .unset, .unset, .unset, .unset, .unset, .unset] [(.int (1 : Int32)), (.int hi)])) (fun _ k => XS.iconst X227.here hx rfl (hb hby at_42) k) ?_
    refine Rch.go (U' := T227.setTop (mkF m 44 #[.val (.int p1), .val (.int p2), .val (.int p3), .val (.int p4), .val (.int lo), .val (.int hi), .val (.int lo), .val (.int v1), .unset, .unset, .unset, .unset, .unset, .unset, .unset] [(.int (hi - (1 : Int32)))])) (fun _ k => XS.isub X227.here hx rfl (hb hby at_43) rfl k) ?_
    generalize hv2 : (hi - (1 : Int32)) = v2
    refine Rch.go (U' := T227.setTop (mkF m 46 #[.val (.int p1), .val (.int p2), .val (.int p3), .val (.int p4), .val (.int lo), .val (.int hi), .val (.int lo), .val (.int v1), .val (.int v2), .unset, .unset, .unset, .unset, .unset, .unset] [])) (fun _ k => XS.istore X227.here hx rfl (hb hby at_44) rfl (l' := #[.val (.int p1), .val (.int p2), .val (.int p3), .val (.int p4), .val (.int lo), .val (.int hi), .val (.int lo), .val (.int v1), .val (.int v2), .unset, .unset, .unset, .unset, .unset, .unset]) rfl k) ?_
    refine Rch.go (U' := T227.setTop (mkF m 48 #[.val (.int p1), .val (.int p2), .val (.int p3), .val (.int p4), .val (.int lo), .val (.int hi), .val (.int lo), .val (.int v1), .val (.int v2), .unset, .unset, .unset, .unset, .unset, .unset] [(.int hi)])) (fun _ k => XS.iload X227.here hx rfl (hb hby at_46) rfl  k) ?_
    refine Rch.go (U' := T227.setTop (mkF m 50 #[.val (.int p1), .val (.int p2), .val (.int p3), .val (.int p4), .val (.int lo), .val (.int hi), .val (.int lo), .val (.int v1), .val (.int v2), .val (.int hi), .unset, .unset, .unset, .unset, .unset] [])) (fun _ k => XS.istore X227.here hx rfl (hb hby at_48) rfl (l' := #[.val (.int p1), .val (.int p2), .val (.int p3), .val (.int p4), .val (.int lo), .val (.int hi), .val (.int lo), .val (.int v1), .val (.int v2), .val (.int hi), .unset, .unset, .unset, .unset, .unset]) rfl k) ?_
    refine Rch.go (U' := T227.setTop (mkF m 51 #[.val (.int p1), .val (.int p2), .val (.int p3), .val (.int p4), .val (.int lo), .val (.int hi), .val (.int lo), .val (.int v1), .val (.int v2), .val (.int hi), .unset, .unset, .unset, .unset, .unset] [(.int p3)])) (fun _ k => XS.iloadN X227.here hx rfl (hb hby at_50) rfl  k) ?_
    refine Rch.go (U' := T227.setTop (mkF m 53 #[.val (.int p1), .val (.int p2), .val (.int p3), .val (.int p4), .val (.int lo), .val (.int hi), .val (.int lo), .val (.int v1), .val (.int v2), .val (.int hi), .unset, .unset, .unset, .unset, .unset] [(.int (15 : Int32)), (.int p3)])) (fun _ k => XS.bipush X227.here hx rfl (hb hby at_51) k) ?_
    refine Rch.go (U' := T227.setTop (mkF m 54 #[.val (.int p1), .val (.int p2), .val (.int p3), .val (.int p4), .val (.int lo), .val (.int hi), .val (.int lo), .val (.int v1), .val (.int v2), .val (.int hi), .unset, .unset, .unset, .unset, .unset] [(.int (p3 &&& (15 : Int32)))])) (fun _ k => XS.iand X227.here hx rfl (hb hby at_53) rfl k) ?_
    generalize hm1q : (p3 &&& (15 : Int32)) = m1
    refine Rch.go (U' := T227.setTop (mkF m 56 #[.val (.int p1), .val (.int p2), .val (.int p3), .val (.int p4), .val (.int lo), .val (.int hi), .val (.int lo), .val (.int v1), .val (.int v2), .val (.int hi), .val (.int m1), .unset, .unset, .unset, .unset] [])) (fun _ k => XS.istore X227.here hx rfl (hb hby at_54) rfl (l' := #[.val (.int p1), .val (.int p2), .val (.int p3), .val (.int p4), .val (.int lo), .val (.int hi), .val (.int lo), .val (.int v1), .val (.int v2), .val (.int hi), .val (.int m1), .unset, .unset, .unset, .unset]) rfl k) ?_
    refine Rch.go (U' := T227.setTop (mkF m 57 #[.val (.int p1), .val (.int p2), .val (.int p3), .val (.int p4), .val (.int lo), .val (.int hi), .val (.int lo), .val (.int v1), .val (.int v2), .val (.int hi), .val (.int m1), .unset, .unset, .unset, .unset] [(.int p4)])) (fun _ k => XS.iloadN X227.here hx rfl (hb hby at_56) rfl  k) ?_
    refine Rch.go (U' := T227.setTop (mkF m 59 #[.val (.int p1), .val (.int p2), .val (.int p3), .val (.int p4), .val (.int lo), .val (.int hi), .val (.int lo), .val (.int v1), .val (.int v2), .val (.int hi), .val (.int m1), .unset, .unset, .unset, .unset] [(.int (15 : Int32)), (.int p4)])) (fun _ k => XS.bipush X227.here hx rfl (hb hby at_57) k) ?_
    refine Rch.go (U' := T227.setTop (mkF m 60 #[.val (.int p1), .val (.int p2), .val (.int p3), .val (.int p4), .val (.int lo), .val (.int hi), .val (.int lo), .val (.int v1), .val (.int v2), .val (.int hi), .val (.int m1), .unset, .unset, .unset, .unset] [(.int (p4 &&& (15 : Int32)))])) (fun _ k => XS.iand X227.here hx rfl (hb hby at_59) rfl k) ?_
    generalize hm2q : (p4 &&& (15 : Int32)) = m2
    refine Rch.go (U' := T227.setTop (mkF m 62 #[.val (.int p1), .val (.int p2), .val (.int p3), .val (.int p4), .val (.int lo), .val (.int hi), .val (.int lo), .val (.int v1), .val (.int v2), .val (.int hi), .val (.int m1), .val (.int m2), .unset, .unset, .unset] [])) (fun _ k => XS.istore X227.here hx rfl (hb hby at_60) rfl (l' := #[.val (.int p1), .val (.int p2), .val (.int p3), .val (.int p4), .val (.int lo), .val (.int hi), .val (.int lo), .val (.int v1), .val (.int v2), .val (.int hi), .val (.int m1), .val (.int m2), .unset, .unset, .unset]) rfl k) ?_
    have hm1 := own_16 p3
    rw [hm1q] at hm1
    have hm2 := own_16 p4
    rw [hm2q] at hm2
    have hs := own_asc p1 p2 (by rw [hhiq, hloq]; exact br228)
    rw [hloq, hhiq, hv1, hv2] at hs
    obtain ⟨hs0, hs1, hs2⟩ := hs
    refine Rch.go (U' := T227.setTop (mkF m 64 #[.val (.int p1), .val (.int p2), .val (.int p3), .val (.int p4), .val (.int lo), .val (.int hi), .val (.int lo), .val (.int v1), .val (.int v2), .val (.int hi), .val (.int m1), .val (.int m2), .unset, .unset, .unset] [(.int m1)])) (fun _ k => XS.iload X227.here hx rfl (hb hby at_62) rfl  k) ?_
    refine Rch.go (U' := T227.setTop (mkF m 66 #[.val (.int p1), .val (.int p2), .val (.int p3), .val (.int p4), .val (.int lo), .val (.int hi), .val (.int lo), .val (.int v1), .val (.int v2), .val (.int hi), .val (.int m1), .val (.int m2), .unset, .unset, .unset] [(.int lo), (.int m1)])) (fun _ k => XS.iload X227.here hx rfl (hb hby at_64) rfl  k) ?_
    refine Rch.go (U' := T227.setTop (mkF m 68 #[.val (.int p1), .val (.int p2), .val (.int p3), .val (.int p4), .val (.int lo), .val (.int hi), .val (.int lo), .val (.int v1), .val (.int v2), .val (.int hi), .val (.int m1), .val (.int m2), .unset, .unset, .unset] [(.int v1), (.int lo), (.int m1)])) (fun _ k => XS.iload X227.here hx rfl (hb hby at_66) rfl  k) ?_
    refine Rch.go (U' := T227.setTop (mkF m 70 #[.val (.int p1), .val (.int p2), .val (.int p3), .val (.int p4), .val (.int lo), .val (.int hi), .val (.int lo), .val (.int v1), .val (.int v2), .val (.int hi), .val (.int m1), .val (.int m2), .unset, .unset, .unset] [(.int v2), (.int v1), (.int lo), (.int m1)])) (fun _ k => XS.iload X227.here hx rfl (hb hby at_68) rfl  k) ?_
    refine Rch.go (U' := T227.setTop (mkF m 72 #[.val (.int p1), .val (.int p2), .val (.int p3), .val (.int p4), .val (.int lo), .val (.int hi), .val (.int lo), .val (.int v1), .val (.int v2), .val (.int hi), .val (.int m1), .val (.int m2), .unset, .unset, .unset] [(.int hi), (.int v2), (.int v1), (.int lo), (.int m1)])) (fun _ k => XS.iload X227.here hx rfl (hb hby at_70) rfl  k) ?_
    obtain ⟨_, _, ⟨T229, L229, k229, n229⟩, -, X229, ⟨Lc229, hQ229, l229, y229, z229⟩, st229⟩ := Jvm.LawKit.callS X227 hx (y := (⟨"com/example/fixpoints_of_behaviour/fixpointsofbehaviour/bisimulation/RefusalsHoldsPinLaw", "subset", "(IIIII)[I"⟩ : MethodName)) hown (mvT hZ (wi hw 8 rfl)) (mvT hZ (wi hw 9 rfl)) (mvT hZ (wi hw 10 rfl)) (mvT hZ (wi hw 11 rfl)) (by decide) (backOf (W := 0) (rmS l Z a0 hw [] m1 lo v1 v2 hi h0 n0 Z0 hm1) hZ (wi hw 11 rfl) (wi hw 10 rfl) (by decide) (by decide)) (g := (mkF m 72 #[.val (.int p1), .val (.int p2), .val (.int p3), .val (.int p4), .val (.int lo), .val (.int hi), .val (.int lo), .val (.int v1), .val (.int v2), .val (.int hi), .val (.int m1), .val (.int m2), .unset, .unset, .unset] [(.int hi), (.int v2), (.int v1), (.int lo), (.int m1)])) rfl (by rw [hml]; rfl) (argsL := [(.int m1), (.int lo), (.int v1), (.int v2), (.int hi)]) (rest := []) (lenOf pd_5 rfl) rfl (by show 2 * 0 + _ ≤ _; exact Nat.le_of_eq rfl) (hb hby at_72) (fun _ _ => ⟨rfl, e227, (by decide : 0 + 1 ≤ _), (by decide : 0 + 4 ≤ _)⟩)
    dsimp only [Pt.U, Pt.locs, Pt.cells, Pt.slots] at X229 l229 y229 z229 st229 hQ229
    subst l229 y229 z229
    obtain ⟨b229, kb229, rfl, N229q, K229q, g229, s229, V229⟩ := hQ229
    have N229 := Fr.app N227 N229q
    have z230 := Nat.le_trans Z0 K229q.1
    refine Rch.go (U' := T229.setTop (mkF m 75 #[.val (.int p1), .val (.int p2), .val (.int p3), .val (.int p4), .val (.int lo), .val (.int hi), .val (.int lo), .val (.int v1), .val (.int v2), .val (.int hi), .val (.int m1), .val (.int m2), .unset, .unset, .unset] [(.ref b229)])) st229 ?_
    refine Rch.go (U' := T229.setTop (mkF m 77 #[.val (.int p1), .val (.int p2), .val (.int p3), .val (.int p4), .val (.int lo), .val (.int hi), .val (.int lo), .val (.int v1), .val (.int v2), .val (.int hi), .val (.int m1), .val (.int m2), .val (.ref b229), .unset, .unset] [])) (fun _ k => XS.astore X229.here hx rfl (hb hby at_75) rfl rfl (l' := #[.val (.int p1), .val (.int p2), .val (.int p3), .val (.int p4), .val (.int lo), .val (.int hi), .val (.int lo), .val (.int v1), .val (.int v2), .val (.int hi), .val (.int m1), .val (.int m2), .val (.ref b229), .unset, .unset]) rfl k) ?_
    refine Rch.go (U' := T229.setTop (mkF m 79 #[.val (.int p1), .val (.int p2), .val (.int p3), .val (.int p4), .val (.int lo), .val (.int hi), .val (.int lo), .val (.int v1), .val (.int v2), .val (.int hi), .val (.int m1), .val (.int m2), .val (.ref b229), .unset, .unset] [(.int m2)])) (fun _ k => XS.iload X229.here hx rfl (hb hby at_77) rfl  k) ?_
    refine Rch.go (U' := T229.setTop (mkF m 81 #[.val (.int p1), .val (.int p2), .val (.int p3), .val (.int p4), .val (.int lo), .val (.int hi), .val (.int lo), .val (.int v1), .val (.int v2), .val (.int hi), .val (.int m1), .val (.int m2), .val (.ref b229), .unset, .unset] [(.int lo), (.int m2)])) (fun _ k => XS.iload X229.here hx rfl (hb hby at_79) rfl  k) ?_
    refine Rch.go (U' := T229.setTop (mkF m 83 #[.val (.int p1), .val (.int p2), .val (.int p3), .val (.int p4), .val (.int lo), .val (.int hi), .val (.int lo), .val (.int v1), .val (.int v2), .val (.int hi), .val (.int m1), .val (.int m2), .val (.ref b229), .unset, .unset] [(.int v1), (.int lo), (.int m2)])) (fun _ k => XS.iload X229.here hx rfl (hb hby at_81) rfl  k) ?_
    refine Rch.go (U' := T229.setTop (mkF m 85 #[.val (.int p1), .val (.int p2), .val (.int p3), .val (.int p4), .val (.int lo), .val (.int hi), .val (.int lo), .val (.int v1), .val (.int v2), .val (.int hi), .val (.int m1), .val (.int m2), .val (.ref b229), .unset, .unset] [(.int v2), (.int v1), (.int lo), (.int m2)])) (fun _ k => XS.iload X229.here hx rfl (hb hby at_83) rfl  k) ?_
    refine Rch.go (U' := T229.setTop (mkF m 87 #[.val (.int p1), .val (.int p2), .val (.int p3), .val (.int p4), .val (.int lo), .val (.int hi), .val (.int lo), .val (.int v1), .val (.int v2), .val (.int hi), .val (.int m1), .val (.int m2), .val (.ref b229), .unset, .unset] [(.int hi), (.int v2), (.int v1), (.int lo), (.int m2)])) (fun _ k => XS.iload X229.here hx rfl (hb hby at_85) rfl  k) ?_
    obtain ⟨_, _, ⟨T231, L231, k231, n231⟩, -, X231, ⟨Lc231, hQ231, l231, y231, z231⟩, st231⟩ := Jvm.LawKit.callS X229 hx (y := (⟨"com/example/fixpoints_of_behaviour/fixpointsofbehaviour/bisimulation/RefusalsHoldsPinLaw", "subset", "(IIIII)[I"⟩ : MethodName)) hown (mvT hZ (wi hw 8 rfl)) (mvT hZ (wi hw 9 rfl)) (mvT hZ (wi hw 10 rfl)) (mvT hZ (wi hw 11 rfl)) (by decide) (backOf (W := 0) (rmS l Z a0 hw [] m2 lo v1 v2 hi T229.heap n0 z230 hm2) hZ (wi hw 11 rfl) (wi hw 10 rfl) (by decide) (by decide)) (g := (mkF m 87 #[.val (.int p1), .val (.int p2), .val (.int p3), .val (.int p4), .val (.int lo), .val (.int hi), .val (.int lo), .val (.int v1), .val (.int v2), .val (.int hi), .val (.int m1), .val (.int m2), .val (.ref b229), .unset, .unset] [(.int hi), (.int v2), (.int v1), (.int lo), (.int m2)])) rfl (by rw [hml]; rfl) (argsL := [(.int m2), (.int lo), (.int v1), (.int v2), (.int hi)]) (rest := []) (lenOf pd_5 rfl) rfl (by show 2 * 0 + _ ≤ _; exact Nat.le_of_eq rfl) (hb hby at_87) (fun _ _ => ⟨rfl, rfl, (by decide : 1 + 1 ≤ _), (by decide : 4 + 4 ≤ _)⟩)
    dsimp only [Pt.U, Pt.locs, Pt.cells, Pt.slots] at X231 l231 y231 z231 st231 hQ231
    subst l231 y231 z231
    obtain ⟨b231, kb231, rfl, N231q, K231q, g231, s231, V231⟩ := hQ231
    have N231 := Fr.app N229 N231q
    have z232 := Nat.le_trans z230 K231q.1
    have f233 := V229.keep K231q nin0
    have ne234 : b229 ≠ b231 := Nat.ne_of_lt (Nat.lt_of_lt_of_le V229.lt s231)
    refine Rch.go (U' := T231.setTop (mkF m 90 #[.val (.int p1), .val (.int p2), .val (.int p3), .val (.int p4), .val (.int lo), .val (.int hi), .val (.int lo), .val (.int v1), .val (.int v2), .val (.int hi), .val (.int m1), .val (.int m2), .val (.ref b229), .unset, .unset] [(.ref b231)])) st231 ?_
    refine Rch.go (U' := T231.setTop (mkF m 92 #[.val (.int p1), .val (.int p2), .val (.int p3), .val (.int p4), .val (.int lo), .val (.int hi), .val (.int lo), .val (.int v1), .val (.int v2), .val (.int hi), .val (.int m1), .val (.int m2), .val (.ref b229), .val (.ref b231), .unset] [])) (fun _ k => XS.astore X231.here hx rfl (hb hby at_90) rfl rfl (l' := #[.val (.int p1), .val (.int p2), .val (.int p3), .val (.int p4), .val (.int lo), .val (.int hi), .val (.int lo), .val (.int v1), .val (.int v2), .val (.int hi), .val (.int m1), .val (.int m2), .val (.ref b229), .val (.ref b231), .unset]) rfl k) ?_
    refine Rch.go (U' := T231.setTop (mkF m 94 #[.val (.int p1), .val (.int p2), .val (.int p3), .val (.int p4), .val (.int lo), .val (.int hi), .val (.int lo), .val (.int v1), .val (.int v2), .val (.int hi), .val (.int m1), .val (.int m2), .val (.ref b229), .val (.ref b231), .unset] [(.int m2)])) (fun _ k => XS.iload X231.here hx rfl (hb hby at_92) rfl  k) ?_
    refine Rch.go (U' := T231.setTop (mkF m 96 #[.val (.int p1), .val (.int p2), .val (.int p3), .val (.int p4), .val (.int lo), .val (.int hi), .val (.int lo), .val (.int v1), .val (.int v2), .val (.int hi), .val (.int m1), .val (.int m2), .val (.ref b229), .val (.ref b231), .unset] [(.int m1), (.int m2)])) (fun _ k => XS.iload X231.here hx rfl (hb hby at_94) rfl  k) ?_
    refine Rch.go (U' := T231.setTop (mkF m 97 #[.val (.int p1), .val (.int p2), .val (.int p3), .val (.int p4), .val (.int lo), .val (.int hi), .val (.int lo), .val (.int v1), .val (.int v2), .val (.int hi), .val (.int m1), .val (.int m2), .val (.ref b229), .val (.ref b231), .unset] [(.int (-1 : Int32)), (.int m1), (.int m2)])) (fun _ k => XS.iconst X231.here hx rfl (hb hby at_96) k) ?_
    refine Rch.go (U' := T231.setTop (mkF m 98 #[.val (.int p1), .val (.int p2), .val (.int p3), .val (.int p4), .val (.int lo), .val (.int hi), .val (.int lo), .val (.int v1), .val (.int v2), .val (.int hi), .val (.int m1), .val (.int m2), .val (.ref b229), .val (.ref b231), .unset] [(.int (m1 ^^^ (-1 : Int32))), (.int m2)])) (fun _ k => XS.ixor X231.here hx rfl (hb hby at_97) rfl k) ?_
    refine Rch.go (U' := T231.setTop (mkF m 99 #[.val (.int p1), .val (.int p2), .val (.int p3), .val (.int p4), .val (.int lo), .val (.int hi), .val (.int lo), .val (.int v1), .val (.int v2), .val (.int hi), .val (.int m1), .val (.int m2), .val (.ref b229), .val (.ref b231), .unset] [(.int (m2 &&& (m1 ^^^ (-1 : Int32))))])) (fun _ k => XS.iand X231.here hx rfl (hb hby at_98) rfl k) ?_
    refine Rch.go (U' := T231.setTop (mkF m 101 #[.val (.int p1), .val (.int p2), .val (.int p3), .val (.int p4), .val (.int lo), .val (.int hi), .val (.int lo), .val (.int v1), .val (.int v2), .val (.int hi), .val (.int m1), .val (.int m2), .val (.ref b229), .val (.ref b231), .unset] [(.int (15 : Int32)), (.int (m2 &&& (m1 ^^^ (-1 : Int32))))])) (fun _ k => XS.bipush X231.here hx rfl (hb hby at_99) k) ?_
    refine Rch.go (U' := T231.setTop (mkF m 102 #[.val (.int p1), .val (.int p2), .val (.int p3), .val (.int p4), .val (.int lo), .val (.int hi), .val (.int lo), .val (.int v1), .val (.int v2), .val (.int hi), .val (.int m1), .val (.int m2), .val (.ref b229), .val (.ref b231), .unset] [(.int ((m2 &&& (m1 ^^^ (-1 : Int32))) &&& (15 : Int32)))])) (fun _ k => XS.iand X231.here hx rfl (hb hby at_101) rfl k) ?_
    by_cases br235 : ((m2 &&& (m1 ^^^ (-1 : Int32))) &&& (15 : Int32)) = (0 : Int32)
    ·
      refine Rch.go (U' := T231.setTop (mkF m 105 #[.val (.int p1), .val (.int p2), .val (.int p3), .val (.int p4), .val (.int lo), .val (.int hi), .val (.int lo), .val (.int v1), .val (.int v2), .val (.int hi), .val (.int m1), .val (.int m2), .val (.ref b229), .val (.ref b231), .unset] [])) (fun _ k => XS.ifNo X231.here hx rfl (hb hby at_102) rfl (XT.i0_ne_f br235) k) ?_
      refine Rch.go (U' := T231.setTop (mkF m 106 #[.val (.int p1), .val (.int p2), .val (.int p3), .val (.int p4), .val (.int lo), .val (.int hi), .val (.int lo), .val (.int v1), .val (.int v2), .val (.int hi), .val (.int m1), .val (.int m2), .val (.ref b229), .val (.ref b231), .unset] [(.int (1 : Int32))])) (fun _ k => XS.iconst X231.here hx rfl (hb hby at_105) k) ?_
      refine Rch.go (U' := T231.setTop (mkF m 110 #[.val (.int p1), .val (.int p2), .val (.int p3), .val (.int p4), .val (.int lo), .val (.int hi), .val (.int lo), .val (.int v1), .val (.int v2), .val (.int hi), .val (.int m1), .val (.int m2), .val (.ref b229), .val (.ref b231), .unset] [(.int (1 : Int32))])) (fun _ k => XS.goto X231.here hx rfl (pc0 := 106) (pc' := 110) rfl (hb hby at_106) (by decide) (by decide) k) ?_
      refine Rch.go (U' := T231.setTop (mkF m 112 #[.val (.int p1), .val (.int p2), .val (.int p3), .val (.int p4), .val (.int lo), .val (.int hi), .val (.int lo), .val (.int v1), .val (.int v2), .val (.int hi), .val (.int m1), .val (.int m2), .val (.ref b229), .val (.ref b231), .val (.int (1 : Int32))] [])) (fun _ k => XS.istore X231.here hx rfl (hb hby at_110) rfl (l' := #[.val (.int p1), .val (.int p2), .val (.int p3), .val (.int p4), .val (.int lo), .val (.int hi), .val (.int lo), .val (.int v1), .val (.int v2), .val (.int hi), .val (.int m1), .val (.int m2), .val (.ref b229), .val (.ref b231), .val (.int (1 : Int32))]) rfl k) ?_
      refine Rch.go (U' := T231.setTop (mkF m 114 #[.val (.int p1), .val (.int p2), .val (.int p3), .val (.int p4), .val (.int lo), .val (.int hi), .val (.int lo), .val (.int v1), .val (.int v2), .val (.int hi), .val (.int m1), .val (.int m2), .val (.ref b229), .val (.ref b231), .val (.int (1 : Int32))] [(.ref b229)])) (fun _ k => XS.aload X231.here hx rfl (hb hby at_112) rfl rfl k) ?_
      refine Rch.go (U' := T231.setTop (mkF m 116 #[.val (.int p1), .val (.int p2), .val (.int p3), .val (.int p4), .val (.int lo), .val (.int hi), .val (.int lo), .val (.int v1), .val (.int v2), .val (.int hi), .val (.int m1), .val (.int m2), .val (.ref b229), .val (.ref b231), .val (.int (1 : Int32))] [(.ref b231), (.ref b229)])) (fun _ k => XS.aload X231.here hx rfl (hb hby at_114) rfl rfl k) ?_
      obtain ⟨_, _, ⟨T236, L236, k236, n236⟩, -, X236, ⟨Lc236, hQ236, l236, y236, z236⟩, st236⟩ := Jvm.LawKit.callS X231 hx (y := (⟨"com/example/fixpoints_of_behaviour/fixpointsofbehaviour/bisimulation/Refusals", "holds", "([I[I)Z"⟩ : MethodName)) hown (mvT hZ (wi hw 13 rfl)) (mvT hZ (wi hw 14 rfl)) (mvT hZ (wi hw 15 rfl)) (mvT hZ (wi hw 16 rfl)) (by decide) (backOf (W := 0) (rmH l Z a0 hw [] b229 b231 kb229 kb231 (own_sub m1 lo v1 v2 hi) (own_sub m2 lo v1 v2 hi) T231.heap n0 z232 f233 V231 (own_sl _ _ _ _ _) (own_sl _ _ _ _ _)) hZ (wi hw 16 rfl) (wi hw 15 rfl) (by decide) (by decide)) (g := (mkF m 116 #[.val (.int p1), .val (.int p2), .val (.int p3), .val (.int p4), .val (.int lo), .val (.int hi), .val (.int lo), .val (.int v1), .val (.int v2), .val (.int hi), .val (.int m1), .val (.int m2), .val (.ref b229), .val (.ref b231), .val (.int (1 : Int32))] [(.ref b231), (.ref b229)])) rfl (by rw [hml]; rfl) (argsL := [(.ref b229), (.ref b231)]) (rest := []) (lenOf pd_6 rfl) rfl (by show 2 * 0 + _ ≤ _; exact Nat.le_of_eq rfl) (hb hby at_116) (fun _ _ => ⟨rfl, rfl, (by decide : 2 + 0 ≤ _), (by decide : 8 + 0 ≤ _)⟩)
      dsimp only [Pt.U, Pt.locs, Pt.cells, Pt.slots] at X236 l236 y236 z236 st236 hQ236
      subst l236 y236 z236
      obtain ⟨rfl, N236q, e236⟩ := hQ236
      have N236 := Fr.app N231 N236q
      refine Rch.go (U' := T236.setTop (mkF m 119 #[.val (.int p1), .val (.int p2), .val (.int p3), .val (.int p4), .val (.int lo), .val (.int hi), .val (.int lo), .val (.int v1), .val (.int v2), .val (.int hi), .val (.int m1), .val (.int m2), .val (.ref b229), .val (.ref b231), .val (.int (1 : Int32))] [(.int (own_H (own_sub m1 lo v1 v2 hi) (own_sub m2 lo v1 v2 hi) 0 0))])) st236 ?_
      refine Rch.go (U' := T236.setTop (mkF m 121 #[.val (.int p1), .val (.int p2), .val (.int p3), .val (.int p4), .val (.int lo), .val (.int hi), .val (.int lo), .val (.int v1), .val (.int v2), .val (.int hi), .val (.int m1), .val (.int m2), .val (.ref b229), .val (.ref b231), .val (.int (1 : Int32))] [(.int (1 : Int32)), (.int (own_H (own_sub m1 lo v1 v2 hi) (own_sub m2 lo v1 v2 hi) 0 0))])) (fun _ k => XS.iload X236.here hx rfl (hb hby at_119) rfl  k) ?_
      have br237 : (own_H (own_sub m1 lo v1 v2 hi) (own_sub m2 lo v1 v2 hi) 0 0) = (1 : Int32) := (own_law _ _ _ _ _ _ hm1 hm2 hs0 hs1 hs2).trans (by rw [if_pos br235])
      refine Rch.go (U' := T236.setTop (mkF m 124 #[.val (.int p1), .val (.int p2), .val (.int p3), .val (.int p4), .val (.int lo), .val (.int hi), .val (.int lo), .val (.int v1), .val (.int v2), .val (.int hi), .val (.int m1), .val (.int m2), .val (.ref b229), .val (.ref b231), .val (.int (1 : Int32))] [])) (fun _ k => XS.icmpNo X236.here hx rfl (hb hby at_121) rfl (XT.ii_ne_f br237) k) ?_
      refine Rch.go (U' := T236.setTop (mkF m 125 #[.val (.int p1), .val (.int p2), .val (.int p3), .val (.int p4), .val (.int lo), .val (.int hi), .val (.int lo), .val (.int v1), .val (.int v2), .val (.int hi), .val (.int m1), .val (.int m2), .val (.ref b229), .val (.ref b231), .val (.int (1 : Int32))] [(.int (1 : Int32))])) (fun _ k => XS.iconst X236.here hx rfl (hb hby at_124) k) ?_
      refine Rch.go (U' := T236.setTop (mkF m 129 #[.val (.int p1), .val (.int p2), .val (.int p3), .val (.int p4), .val (.int lo), .val (.int hi), .val (.int lo), .val (.int v1), .val (.int v2), .val (.int hi), .val (.int m1), .val (.int m2), .val (.ref b229), .val (.ref b231), .val (.int (1 : Int32))] [(.int (1 : Int32))])) (fun _ k => XS.goto X236.here hx rfl (pc0 := 125) (pc' := 129) rfl (hb hby at_125) (by decide) (by decide) k) ?_
      refine Rch.fin X236 hlk (v := some (.int (nar .boolean (1 : Int32)))) (fun h => by rw [hret] at h; cases h) e236 (by decide) (by decide) (fun fs hr => retN X236 hx (t := .boolean) hret (by simp) (hb hby at_129) hr) ?_
      exact ⟨rfl, N236⟩
    ·
      refine Rch.go (U' := T231.setTop (mkF m 109 #[.val (.int p1), .val (.int p2), .val (.int p3), .val (.int p4), .val (.int lo), .val (.int hi), .val (.int lo), .val (.int v1), .val (.int v2), .val (.int hi), .val (.int m1), .val (.int m2), .val (.ref b229), .val (.ref b231), .unset] [])) (fun _ k => XS.ifYes X231.here hx rfl (pc0 := 102) (pc' := 109) rfl (hb hby at_102) rfl (XT.i0_ne_t br235) (by decide) (by decide) k) ?_
      refine Rch.go (U' := T231.setTop (mkF m 110 #[.val (.int p1), .val (.int p2), .val (.int p3), .val (.int p4), .val (.int lo), .val (.int hi), .val (.int lo), .val (.int v1), .val (.int v2), .val (.int hi), .val (.int m1), .val (.int m2), .val (.ref b229), .val (.ref b231), .unset] [(.int (0 : Int32))])) (fun _ k => XS.iconst X231.here hx rfl (hb hby at_109) k) ?_
      refine Rch.go (U' := T231.setTop (mkF m 112 #[.val (.int p1), .val (.int p2), .val (.int p3), .val (.int p4), .val (.int lo), .val (.int hi), .val (.int lo), .val (.int v1), .val (.int v2), .val (.int hi), .val (.int m1), .val (.int m2), .val (.ref b229), .val (.ref b231), .val (.int (0 : Int32))] [])) (fun _ k => XS.istore X231.here hx rfl (hb hby at_110) rfl (l' := #[.val (.int p1), .val (.int p2), .val (.int p3), .val (.int p4), .val (.int lo), .val (.int hi), .val (.int lo), .val (.int v1), .val (.int v2), .val (.int hi), .val (.int m1), .val (.int m2), .val (.ref b229), .val (.ref b231), .val (.int (0 : Int32))]) rfl k) ?_
      refine Rch.go (U' := T231.setTop (mkF m 114 #[.val (.int p1), .val (.int p2), .val (.int p3), .val (.int p4), .val (.int lo), .val (.int hi), .val (.int lo), .val (.int v1), .val (.int v2), .val (.int hi), .val (.int m1), .val (.int m2), .val (.ref b229), .val (.ref b231), .val (.int (0 : Int32))] [(.ref b229)])) (fun _ k => XS.aload X231.here hx rfl (hb hby at_112) rfl rfl k) ?_
      refine Rch.go (U' := T231.setTop (mkF m 116 #[.val (.int p1), .val (.int p2), .val (.int p3), .val (.int p4), .val (.int lo), .val (.int hi), .val (.int lo), .val (.int v1), .val (.int v2), .val (.int hi), .val (.int m1), .val (.int m2), .val (.ref b229), .val (.ref b231), .val (.int (0 : Int32))] [(.ref b231), (.ref b229)])) (fun _ k => XS.aload X231.here hx rfl (hb hby at_114) rfl rfl k) ?_
      obtain ⟨_, _, ⟨T238, L238, k238, n238⟩, -, X238, ⟨Lc238, hQ238, l238, y238, z238⟩, st238⟩ := Jvm.LawKit.callS X231 hx (y := (⟨"com/example/fixpoints_of_behaviour/fixpointsofbehaviour/bisimulation/Refusals", "holds", "([I[I)Z"⟩ : MethodName)) hown (mvT hZ (wi hw 13 rfl)) (mvT hZ (wi hw 14 rfl)) (mvT hZ (wi hw 15 rfl)) (mvT hZ (wi hw 16 rfl)) (by decide) (backOf (W := 0) (rmH l Z a0 hw [] b229 b231 kb229 kb231 (own_sub m1 lo v1 v2 hi) (own_sub m2 lo v1 v2 hi) T231.heap n0 z232 f233 V231 (own_sl _ _ _ _ _) (own_sl _ _ _ _ _)) hZ (wi hw 16 rfl) (wi hw 15 rfl) (by decide) (by decide)) (g := (mkF m 116 #[.val (.int p1), .val (.int p2), .val (.int p3), .val (.int p4), .val (.int lo), .val (.int hi), .val (.int lo), .val (.int v1), .val (.int v2), .val (.int hi), .val (.int m1), .val (.int m2), .val (.ref b229), .val (.ref b231), .val (.int (0 : Int32))] [(.ref b231), (.ref b229)])) rfl (by rw [hml]; rfl) (argsL := [(.ref b229), (.ref b231)]) (rest := []) (lenOf pd_6 rfl) rfl (by show 2 * 0 + _ ≤ _; exact Nat.le_of_eq rfl) (hb hby at_116) (fun _ _ => ⟨rfl, rfl, (by decide : 2 + 0 ≤ _), (by decide : 8 + 0 ≤ _)⟩)
      dsimp only [Pt.U, Pt.locs, Pt.cells, Pt.slots] at X238 l238 y238 z238 st238 hQ238
      subst l238 y238 z238
      obtain ⟨rfl, N238q, e238⟩ := hQ238
      have N238 := Fr.app N231 N238q
      refine Rch.go (U' := T238.setTop (mkF m 119 #[.val (.int p1), .val (.int p2), .val (.int p3), .val (.int p4), .val (.int lo), .val (.int hi), .val (.int lo), .val (.int v1), .val (.int v2), .val (.int hi), .val (.int m1), .val (.int m2), .val (.ref b229), .val (.ref b231), .val (.int (0 : Int32))] [(.int (own_H (own_sub m1 lo v1 v2 hi) (own_sub m2 lo v1 v2 hi) 0 0))])) st238 ?_
      refine Rch.go (U' := T238.setTop (mkF m 121 #[.val (.int p1), .val (.int p2), .val (.int p3), .val (.int p4), .val (.int lo), .val (.int hi), .val (.int lo), .val (.int v1), .val (.int v2), .val (.int hi), .val (.int m1), .val (.int m2), .val (.ref b229), .val (.ref b231), .val (.int (0 : Int32))] [(.int (0 : Int32)), (.int (own_H (own_sub m1 lo v1 v2 hi) (own_sub m2 lo v1 v2 hi) 0 0))])) (fun _ k => XS.iload X238.here hx rfl (hb hby at_119) rfl  k) ?_
      have br239 : (own_H (own_sub m1 lo v1 v2 hi) (own_sub m2 lo v1 v2 hi) 0 0) = (0 : Int32) := (own_law _ _ _ _ _ _ hm1 hm2 hs0 hs1 hs2).trans (by rw [if_neg br235])
      refine Rch.go (U' := T238.setTop (mkF m 124 #[.val (.int p1), .val (.int p2), .val (.int p3), .val (.int p4), .val (.int lo), .val (.int hi), .val (.int lo), .val (.int v1), .val (.int v2), .val (.int hi), .val (.int m1), .val (.int m2), .val (.ref b229), .val (.ref b231), .val (.int (0 : Int32))] [])) (fun _ k => XS.icmpNo X238.here hx rfl (hb hby at_121) rfl (XT.ii_ne_f br239) k) ?_
      refine Rch.go (U' := T238.setTop (mkF m 125 #[.val (.int p1), .val (.int p2), .val (.int p3), .val (.int p4), .val (.int lo), .val (.int hi), .val (.int lo), .val (.int v1), .val (.int v2), .val (.int hi), .val (.int m1), .val (.int m2), .val (.ref b229), .val (.ref b231), .val (.int (0 : Int32))] [(.int (1 : Int32))])) (fun _ k => XS.iconst X238.here hx rfl (hb hby at_124) k) ?_
      refine Rch.go (U' := T238.setTop (mkF m 129 #[.val (.int p1), .val (.int p2), .val (.int p3), .val (.int p4), .val (.int lo), .val (.int hi), .val (.int lo), .val (.int v1), .val (.int v2), .val (.int hi), .val (.int m1), .val (.int m2), .val (.ref b229), .val (.ref b231), .val (.int (0 : Int32))] [(.int (1 : Int32))])) (fun _ k => XS.goto X238.here hx rfl (pc0 := 125) (pc' := 129) rfl (hb hby at_125) (by decide) (by decide) k) ?_
      refine Rch.fin X238 hlk (v := some (.int (nar .boolean (1 : Int32)))) (fun h => by rw [hret] at h; cases h) e238 (by decide) (by decide) (fun fs hr => retN X238 hx (t := .boolean) hret (by simp) (hb hby at_129) hr) ?_
      exact ⟨rfl, N238⟩
set_option maxRecDepth 65536 in
set_option maxHeartbeats 40000000 in
theorem comes_1 {Post : Tables → Env → Array Value → State → Outcome → State → Prop} (hpost : ∀ tb e args s v u, (limb_1_1.after args s (.returned v) u = true ∧ limb_1_2.after args s (.returned v) u = true ∧ True) → FrameEnd s (.returned v) u (Jvm.fieldLocs frame_1_writes args s ++ Jvm.arrayLocs frame_1_arrays args s ++ Jvm.staticLocs frame_1_statics s) 16 128 → Post tb e args s (.returned v) u) :
    ArmFor flags0 classFile x code maxLocals ret World_1 tables_1 room_1 Calls_1 rest_1 Pre_1 Post := by
  intro l hfl _ _ p e ha hc hk s m args below hf hA hF happ hP
  obtain ⟨hcalls, hrest, hpre⟩ := hP
  obtain ⟨-, -, -, hnamed, -, -, -, hat⟩ := (Spec.applies_iff hf).mp happ
  obtain ⟨hg, hn⟩ := and_e (Cond.before_iff.mp (show (Jvm.Cond.and given_1 narrow_1).before args s = true from hpre))
  obtain ⟨hcount, hg0⟩ := and_e hg
  obtain ⟨ga0, hg1⟩ := and_e hg0
  obtain ⟨ga1, hg2⟩ := and_e hg1
  obtain ⟨ga2, hg3⟩ := and_e hg2
  obtain ⟨w0, w1, w2, w3, rfl⟩ : ∃ w0 w1 w2 w3 : Value, args = #[w0, w1, w2, w3] := by
    have hs : args.size = 4 := by simpa [Cond.value, given_1] using hcount
    obtain ⟨L⟩ := args
    match L, hs with
    | [w0, w1, w2, w3], _ => exact ⟨w0, w1, w2, w3, rfl⟩
  have hw := fun d (hd : d ∈ tables_1) => atoms_spec (ws := Jvm.Cond.code x code maxLocals ret :: tables_1) hat d (List.mem_cons_of_mem _ hd)
  obtain ⟨i0, ei0⟩ := is_v ga0
  obtain rfl : w0 = (.int i0) := Option.some.inj ei0
  obtain ⟨i1, ei1⟩ := is_v ga1
  obtain rfl : w1 = (.int i1) := Option.some.inj ei1
  obtain ⟨i2, ei2⟩ := is_v ga2
  obtain rfl : w2 = (.int i2) := Option.some.inj ei2
  obtain ⟨i3, ei3⟩ := is_v hg3
  obtain rfl : w3 = (.int i3) := Option.some.inj ei3
  obtain ⟨n, o, h1, h2, h3, _, L, rfl, ⟨rfl, N⟩, hq⟩ := rm0 l s _ hw tables_1 i0 i1 i2 i3 s.heap s.heap.size (Nat.le_refl _)  p e ha hc hk s m _ below hf ((Spec.applies_iff_loose hf).mp happ).1 ⟨rfl, State.Warmed39.refl s, rfl⟩ trivial
  refine ⟨n, _, h1, h2, h3, hpost _ _ _ _ _ _ ⟨Cond.after_iff.mpr rfl, Cond.after_iff.mpr (eq_i res_at (Term.int_eval (1)) rfl), trivial⟩ ⟨hq.1, hq.2.1, (hq.2.2.sift fun y hy => Or.inr (N y hy)).mono (by decide) (by decide)⟩⟩
theorem main_1_1 : Claimed_1_1 := comes_1 fun _ _ _ _ _ _ h hF => ⟨h.1, hF⟩
theorem main_1_2 : Claimed_1_2 := comes_1 fun _ _ _ _ _ _ h hF => ⟨h.2.1, hF⟩
end Jvm.Pilot.@@N@@
namespace Jvm.Pilot.@@N@@
open Jvm Jvm.ClassFile Sem Op Lib Jvm.Free Jvm.Stand Jvm.Pilot.@@N@@.Jvm.D
/-! MADE BY PROGRAM (witnessworld.py) out of the Statement's table words and the real class files: 10 classes; the members and pool entries that the words name. The judged class is class 1, her method 2. -/
namespace start1
open Jvm.ClassFile
def u (s : String) : CpInfo := .utf8 (stringToUtf16 s)
/-- a pool by its gaps: so many unusable entries, then the entry; so many at the end -/
def gap : Nat → List CpInfo → List CpInfo
  | 0, r => r
  | n + 1, r => .unusable :: gap n r
def poolList (es : List (Nat × CpInfo)) (last : Nat) : List CpInfo := es.foldr (fun e r => gap e.1 (e.2 :: r)) (gap last [])
def pool (es : List (Nat × CpInfo)) (last : Nat) : Array CpInfo := ⟨poolList es last⟩
def fileOf (pool : Array CpInfo) (this : Nat) (attrs : Array Attribute := #[]) (ms : Array MethodInfo := #[]) (fl : Nat := 33) (sup : Nat := 0) (ifs : Array Nat := #[]) (fds : Array FieldInfo := #[]) : ClassFile where
  minorVersion := 0
  majorVersion := 65
  constantPool := pool
  accessFlags := fl
  thisClass := this
  superClass := sup
  interfaces := ifs
  fields := fds
  methods := ms
  attributes := attrs
def plain (name : String) (sup : Option ClassId) : Class where
  name := name
  kind := .ordinary
  loader := none
  accessFlags := 33
  super := sup
  interfaces := #[]
  cf := none
  fields := #[]
  methods := #[]
  instanceTypes := #[]
  staticTypes := #[]
  resolved := #[]
  callSites := []
  init := .initialized
  statics := none
  mirror := none

def pool0 : Array CpInfo := pool [(5, u "<init>"), (0, u "()V"), (1, .class_ 10), (1, u "java/lang/Object")] 113

def k0m0 : Method := { name := "<init>", desc := "()V", sig := { parameters := [], returnType := none }, accessFlags := 1, code := none }
/-- java/lang/Object -/
def k0 : Class := { plain "java/lang/Object" none with
  accessFlags := 33
  interfaces := #[]
  cf := some (fileOf pool0 8 #[] #[{ accessFlags := 1, nameIndex := 5, descriptorIndex := 6, attributes := #[] }] 33 0 #[] #[])
  fields := #[]
  methods := #[k0m0]
  instanceTypes := #[]
  staticTypes := #[]
  resolved := Array.replicate 124 none
  statics := none }

def pool1 : Array CpInfo := pool [(2, .class_ 4), (1, u "java/lang/Object"), (0, u "<init>"), (0, u "()V"), (0, .methodref 8 9), (0, .class_ 10), (0, .nameAndType 11 12), (0, u "java/lang/Math"), (0, u "min"), (0, u "(II)I"), (0, .methodref 8 14), (0, .nameAndType 15 12), (0, u "max"), (0, .long 3), (1, .methodref 19 20), (0, .class_ 21), (0, .nameAndType 22 23), (0, u "com/example/fixpoints_of_behaviour/fixpointsofbehaviour/bisimulation/RefusalsHoldsPinLaw"), (0, u "subset"), (0, u "(IIIII)[I"), (0, .methodref 25 26), (0, .class_ 27), (0, .nameAndType 28 29), (0, u "com/example/fixpoints_of_behaviour/fixpointsofbehaviour/bisimulation/Refusals"), (0, u "holds"), (0, u "([I[I)Z"), (5, u "law"), (0, u "(IIII)Z")] 2

def k1m0 : Method := { name := "<init>", desc := "()V", sig := { parameters := [], returnType := none }, accessFlags := 2, code := none }
def k1c1 : Code := { maxStack := 3, maxLocals := 8, code := method_2_code, exceptionTable := #[], attributes := #[] }
def k1m1 : Method := { name := "subset", desc := "(IIIII)[I", sig := { parameters := [.int, .int, .int, .int, .int], returnType := some (.array .int) }, accessFlags := 10, code := some k1c1 }
def k1c2 : Code := { maxStack := 5, maxLocals := 15, code := code, exceptionTable := #[], attributes := #[] }
def k1m2 : Method := { name := "law", desc := "(IIII)Z", sig := { parameters := [.int, .int, .int, .int], returnType := some .boolean }, accessFlags := 9, code := some k1c2 }
/-- com/example/fixpoints_of_behaviour/fixpointsofbehaviour/bisimulation/RefusalsHoldsPinLaw -/
def k1 : Class := { plain "com/example/fixpoints_of_behaviour/fixpointsofbehaviour/bisimulation/RefusalsHoldsPinLaw" (some 0) with
  accessFlags := 49
  interfaces := #[]
  cf := some (fileOf pool1 19 #[] #[{ accessFlags := 2, nameIndex := 5, descriptorIndex := 6, attributes := #[] }, { accessFlags := 10, nameIndex := 22, descriptorIndex := 23, attributes := #[] }, { accessFlags := 9, nameIndex := 35, descriptorIndex := 36, attributes := #[] }] 49 2 #[] #[])
  fields := #[]
  methods := #[k1m0, k1m1, k1m2]
  instanceTypes := #[]
  staticTypes := #[]
  resolved := Array.replicate 39 none
  statics := none }

def pool2 : Array CpInfo := pool [(1, .class_ 2), (0, u "java/lang/Math"), (1, .class_ 6), (1, u "java/lang/Object"), (0, u "<init>"), (0, u "()V"), (89, .class_ 100), (1, u "java/lang/Math$RandomNumberGeneratorHolder"), (71, u "negativeZeroFloatBits"), (0, u "J"), (2, u "negativeZeroDoubleBits"), (21, u "max"), (2, u "min"), (43, u "$assertionsDisabled"), (0, u "Z"), (88, u "(II)I"), (2, u "twoToTheDoubleScaleDown"), (0, u "D"), (4, u "twoToTheDoubleScaleUp"), (9, u "E"), (3, u "PI"), (2, u "TAU"), (2, u "DEGREES_TO_RADIANS"), (0, u "RADIANS_TO_DEGREES")] 94

def k2m0 : Method := { name := "<init>", desc := "()V", sig := { parameters := [], returnType := none }, accessFlags := 2, code := none }
def k2c1 : Code := { maxStack := 2, maxLocals := 2, code := jdk_29_method_65_code, exceptionTable := #[], attributes := #[] }
def k2m1 : Method := { name := "max", desc := "(II)I", sig := { parameters := [.int, .int], returnType := some .int }, accessFlags := 9, code := some k2c1 }
def k2c2 : Code := { maxStack := 2, maxLocals := 2, code := jdk_29_method_69_code, exceptionTable := #[], attributes := #[] }
def k2m2 : Method := { name := "min", desc := "(II)I", sig := { parameters := [.int, .int], returnType := some .int }, accessFlags := 9, code := some k2c2 }
/-- java/lang/Math -/
def k2 : Class := { plain "java/lang/Math" (some 0) with
  accessFlags := 49
  interfaces := #[]
  cf := some (fileOf pool2 1 #[.nestMembers #[98]] #[{ accessFlags := 2, nameIndex := 7, descriptorIndex := 8, attributes := #[] }, { accessFlags := 9, nameIndex := 198, descriptorIndex := 335, attributes := #[] }, { accessFlags := 9, nameIndex := 201, descriptorIndex := 335, attributes := #[] }] 49 4 #[] #[{ accessFlags := 25, nameIndex := 354, descriptorIndex := 339, attributes := #[] }, { accessFlags := 25, nameIndex := 358, descriptorIndex := 339, attributes := #[] }, { accessFlags := 25, nameIndex := 361, descriptorIndex := 339, attributes := #[] }, { accessFlags := 26, nameIndex := 364, descriptorIndex := 339, attributes := #[] }, { accessFlags := 26, nameIndex := 365, descriptorIndex := 339, attributes := #[] }, { accessFlags := 26, nameIndex := 172, descriptorIndex := 173, attributes := #[] }, { accessFlags := 26, nameIndex := 176, descriptorIndex := 173, attributes := #[] }, { accessFlags := 8, nameIndex := 344, descriptorIndex := 339, attributes := #[] }, { accessFlags := 8, nameIndex := 338, descriptorIndex := 339, attributes := #[] }, { accessFlags := 4120, nameIndex := 245, descriptorIndex := 246, attributes := #[] }])
  fields := #[{ name := "E", type := .double, accessFlags := 25, slot := 0, constantValue := 0 }, { name := "PI", type := .double, accessFlags := 25, slot := 1, constantValue := 0 }, { name := "TAU", type := .double, accessFlags := 25, slot := 2, constantValue := 0 }, { name := "DEGREES_TO_RADIANS", type := .double, accessFlags := 26, slot := 3, constantValue := 0 }, { name := "RADIANS_TO_DEGREES", type := .double, accessFlags := 26, slot := 4, constantValue := 0 }, { name := "negativeZeroFloatBits", type := .long, accessFlags := 26, slot := 5, constantValue := 0 }, { name := "negativeZeroDoubleBits", type := .long, accessFlags := 26, slot := 6, constantValue := 0 }, { name := "twoToTheDoubleScaleUp", type := .double, accessFlags := 8, slot := 7, constantValue := 0 }, { name := "twoToTheDoubleScaleDown", type := .double, accessFlags := 8, slot := 8, constantValue := 0 }, { name := "$assertionsDisabled", type := .boolean, accessFlags := 4120, slot := 9, constantValue := 0 }]
  methods := #[k2m0, k2m1, k2m2]
  instanceTypes := #[]
  staticTypes := #[.double, .double, .double, .double, .double, .long, .long, .double, .double, .boolean]
  resolved := Array.replicate 460 none
  statics := none }

def pool3 : Array CpInfo := pool [(4, .class_ 6), (1, u "java/lang/Object"), (3, .class_ 12), (1, u "com/example/fixpoints_of_behaviour/fixpointsofbehaviour/bisimulation/Refusals"), (0, u "lts"), (0, u "Lcom/example/fixpoints_of_behaviour/fixpointsofbehaviour/lts/Lts;"), (2, u "internal"), (0, u "[Z"), (8, u "bySource"), (0, u "[I"), (21, u "start"), (5, u "counted"), (8, u "kindOf"), (53, u "fertile"), (80, u "holds"), (0, u "([I[I)Z"), (6, u "TOO_MANY"), (0, u "Ljava/lang/String;")] 47

def k3c0 : Code := { maxStack := 2, maxLocals := 7, code := prog_37_method_5_code, exceptionTable := #[], attributes := #[] }
def k3m0 : Method := { name := "holds", desc := "([I[I)Z", sig := { parameters := [(.array .int), (.array .int)], returnType := some .boolean }, accessFlags := 8, code := some k3c0 }
/-- com/example/fixpoints_of_behaviour/fixpointsofbehaviour/bisimulation/Refusals -/
def k3 : Class := { plain "com/example/fixpoints_of_behaviour/fixpointsofbehaviour/bisimulation/Refusals" (some 0) with
  accessFlags := 32
  interfaces := #[]
  cf := some (fileOf pool3 10 #[] #[{ accessFlags := 8, nameIndex := 200, descriptorIndex := 201, attributes := #[] }] 32 4 #[] #[{ accessFlags := 26, nameIndex := 208, descriptorIndex := 209, attributes := #[] }, { accessFlags := 18, nameIndex := 13, descriptorIndex := 14, attributes := #[] }, { accessFlags := 18, nameIndex := 17, descriptorIndex := 18, attributes := #[] }, { accessFlags := 18, nameIndex := 27, descriptorIndex := 28, attributes := #[] }, { accessFlags := 18, nameIndex := 50, descriptorIndex := 28, attributes := #[] }, { accessFlags := 18, nameIndex := 56, descriptorIndex := 18, attributes := #[] }, { accessFlags := 18, nameIndex := 65, descriptorIndex := 28, attributes := #[] }, { accessFlags := 18, nameIndex := 119, descriptorIndex := 18, attributes := #[] }])
  fields := #[{ name := "TOO_MANY", type := (.object "java/lang/String"), accessFlags := 26, slot := 0, constantValue := 0 }, { name := "lts", type := (.object "com/example/fixpoints_of_behaviour/fixpointsofbehaviour/lts/Lts"), accessFlags := 18, slot := 0, constantValue := 0 }, { name := "internal", type := (.array .boolean), accessFlags := 18, slot := 1, constantValue := 0 }, { name := "bySource", type := (.array .int), accessFlags := 18, slot := 2, constantValue := 0 }, { name := "start", type := (.array .int), accessFlags := 18, slot := 3, constantValue := 0 }, { name := "counted", type := (.array .boolean), accessFlags := 18, slot := 4, constantValue := 0 }, { name := "kindOf", type := (.array .int), accessFlags := 18, slot := 5, constantValue := 0 }, { name := "fertile", type := (.array .boolean), accessFlags := 18, slot := 6, constantValue := 0 }]
  methods := #[k3m0]
  instanceTypes := #[(.object "com/example/fixpoints_of_behaviour/fixpointsofbehaviour/lts/Lts"), (.array .boolean), (.array .int), (.array .int), (.array .boolean), (.array .int), (.array .boolean)]
  staticTypes := #[(.object "java/lang/String")]
  resolved := Array.replicate 257 none
  statics := none }

def pool4 : Array CpInfo := pool [(1, u "java/lang/Cloneable"), (0, .class_ 1), (0, u "java/lang/Object"), (0, .class_ 3)] 3

/-- java/lang/Cloneable -/
def k4 : Class := { plain "java/lang/Cloneable" (some 0) with
  accessFlags := 1537
  interfaces := #[]
  cf := some (fileOf pool4 2 #[] #[] 1537 4 #[] #[])
  fields := #[]
  methods := #[]
  instanceTypes := #[]
  staticTypes := #[]
  resolved := Array.replicate 8 none
  statics := none }

def pool5 : Array CpInfo := pool [(1, u "java/io/Serializable"), (0, .class_ 1), (0, u "java/lang/Object"), (0, .class_ 3)] 3

/-- java/io/Serializable -/
def k5 : Class := { plain "java/io/Serializable" (some 0) with
  accessFlags := 1537
  interfaces := #[]
  cf := some (fileOf pool5 2 #[] #[] 1537 4 #[] #[])
  fields := #[]
  methods := #[]
  instanceTypes := #[]
  staticTypes := #[]
  resolved := Array.replicate 8 none
  statics := none }

/-- the primitive byte -/
def k6 : Class := { plain "byte" none with kind := .primitive 'B', accessFlags := 0x411 }
/-- [B -/
def k7 : Class := { plain "[B" (some 0) with kind := .array 6 .byte, interfaces := #[4, 5], accessFlags := 1041 }

/-- the primitive int -/
def k8 : Class := { plain "int" none with kind := .primitive 'I', accessFlags := 0x411 }
/-- [I -/
def k9 : Class := { plain "[I" (some 0) with kind := .array 8 .int, interfaces := #[4, 5], accessFlags := 1041 }

def heap : Heap := #[]
def classes : Array Class := #[k0, k1, k2, k3, k4, k5, k6, k7, k8, k9]
def interned : List (Array UInt16 × Addr) := []
def slotsUsed : Nat := 0
def theMethod : MethodId := ⟨1, 2⟩
def args0 : Array Value := #[.int 3, .int 65, .int 2, .int 3]
def aboutOver (below : List Frame) : State where
  vm := { classes := classes, interned := interned.toArray }
  heap := heap
  slotsUsed := slotsUsed
  threads := #[{ frames := .invoking theMethod args0 :: below }]
def below0 : List Frame := [.native { method := ⟨0, 0⟩, args := #[] }]
def about1 : State := aboutOver below0
def p0 : Program := .bare "" "" ""
def e0 : Env := launch0.env 0 0 0
theorem w_frames : about1.frames = Frame.invoking theMethod args0 :: below0 := rfl
set_option maxRecDepth 65536 in
theorem w_args : argsFit about1.vm theMethod args0 = true := by decide +kernel
set_option maxRecDepth 65536 in
theorem w_heap : heapFits about1 = true := by decide +kernel
set_option maxRecDepth 65536 in
theorem w_runnable : about1.curStatus? = some .runnable := by decide +kernel
set_option maxRecDepth 65536 in
theorem w_alone : about1.alone = true := by decide +kernel
set_option maxRecDepth 65536 in
theorem w_named : about1.methodNamed? x = some theMethod := by decide +kernel
set_option maxRecDepth 65536 in
theorem w_hears : about1.hears theMethod below0 = true := by decide +kernel
set_option maxRecDepth 65536 in
theorem w_ripe : about1.ripe theMethod args0 below0 = true := by decide +kernel
theorem w_running : about1.status = .running := rfl
set_option maxRecDepth 65536 in
theorem w_room : about1.hasRoom e0.platform room_1 = true :=
  launch0.hasRoom_least _ room_1 (by decide +kernel) (by decide +kernel) (by decide +kernel) (by decide +kernel) (by decide +kernel) (by decide +kernel)
theorem allAtoms_all (ts : List Jvm.Cond) (a : Array Jvm.Value) (st : Jvm.State) : (allAtoms ts).before a st = ts.all (fun c => c.before a st) := by
  induction ts with
  | nil => rfl
  | cons c t ih =>
    show (Jvm.Cond.and c (allAtoms t)).before a st = _
    rw [Jvm.Cond.before_and, ih, List.all_cons]
def words1 : List Jvm.Cond := Jvm.Cond.code x code maxLocals ret :: tables_1
/-- a 'code' word, met by the world's own term for the bytes: nothing is compared byte by byte -/
theorem code_word {y : MethodName} {bytes : ByteArray} {mx : Nat} {rt : Option FieldType} {a : Array Value} {s : State} {m : MethodId} {meth : Method} {c : Code} (h1 : s.methodNamed? y = some m) (h2 : s.vm.method? m = some meth) (h3 : meth.code = some c) (h4 : c.code = bytes)
    (h5 : (c.maxLocals == mx && c.exceptionTable.isEmpty && decide (c.maxStack ≤ mostOperands) && decide (meth.sig.returnType = rt) && !meth.locks && decide (parseMethodDescriptor y.desc = some meth.sig)) = true) : (Jvm.Cond.code y bytes mx rt).before a s = true := by
  simp only [Bool.and_eq_true, beq_iff_eq, Bool.not_eq_true', decide_eq_true_eq] at h5
  obtain ⟨⟨⟨⟨⟨g1, g2⟩, g3⟩, g4⟩, g5⟩, g6⟩ := h5
  simp [Cond.before, Cond.holds, Cond.value, h1, h2, h3, h4, g1, g2, g3, g4, g5, g6]
def isCode : Jvm.Cond → Bool
  | .code _ _ _ _ => true
  | _ => false
theorem all_split {L : List Jvm.Cond} {P : Jvm.Cond → Bool} (h1 : L.all (fun c => isCode c || P c) = true) (h2 : ∀ c ∈ L.filter isCode, P c = true) : L.all P = true := by
  refine List.all_eq_true.mpr fun c hc => ?_
  have h := List.all_eq_true.mp h1 c hc
  rcases Bool.eq_false_or_eq_true (isCode c) with hi | hi
  · exact h2 c (List.mem_filter.mpr ⟨hc, hi⟩)
  · simpa [hi] using h
set_option maxRecDepth 65536 in
theorem w_c0 : (Jvm.Cond.code x code maxLocals ret).before args0 about1 = true := code_word (m := ⟨1, 2⟩) (meth := k1m2) (c := k1c2) (by decide +kernel) rfl rfl rfl (by decide +kernel)
set_option maxRecDepth 65536 in
theorem w_c1 : (Jvm.Cond.code ({ cls := "java/lang/Math", name := "min", desc := "(II)I" } : Jvm.MethodName) jdk_29_method_69_code (2 : Nat) (Option.some Jvm.ClassFile.FieldType.int)).before args0 about1 = true := code_word (m := ⟨2, 2⟩) (meth := k2m2) (c := k2c2) (by decide +kernel) rfl rfl rfl (by decide +kernel)
set_option maxRecDepth 65536 in
theorem w_c2 : (Jvm.Cond.code ({ cls := "java/lang/Math", name := "max", desc := "(II)I" } : Jvm.MethodName) jdk_29_method_65_code (2 : Nat) (Option.some Jvm.ClassFile.FieldType.int)).before args0 about1 = true := code_word (m := ⟨2, 1⟩) (meth := k2m1) (c := k2c1) (by decide +kernel) rfl rfl rfl (by decide +kernel)
set_option maxRecDepth 65536 in
theorem w_c3 : (Jvm.Cond.code ({ cls := "com/example/fixpoints_of_behaviour/fixpointsofbehaviour/bisimulation/RefusalsHoldsPinLaw", name := "subset", desc := "(IIIII)[I" } : Jvm.MethodName) method_2_code (8 : Nat) (Option.some (Jvm.ClassFile.FieldType.array Jvm.ClassFile.FieldType.int))).before args0 about1 = true := code_word (m := ⟨1, 1⟩) (meth := k1m1) (c := k1c1) (by decide +kernel) rfl rfl rfl (by decide +kernel)
set_option maxRecDepth 65536 in
theorem w_c4 : (Jvm.Cond.code ({ cls := "com/example/fixpoints_of_behaviour/fixpointsofbehaviour/bisimulation/Refusals", name := "holds", desc := "([I[I)Z" } : Jvm.MethodName) prog_37_method_5_code (7 : Nat) (Option.some Jvm.ClassFile.FieldType.boolean)).before args0 about1 = true := code_word (m := ⟨3, 0⟩) (meth := k3m0) (c := k3c0) (by decide +kernel) rfl rfl rfl (by decide +kernel)
def codes1 : List Jvm.Cond := [Jvm.Cond.code x code maxLocals ret, Jvm.Cond.code ({ cls := "java/lang/Math", name := "min", desc := "(II)I" } : Jvm.MethodName) jdk_29_method_69_code (2 : Nat) (Option.some Jvm.ClassFile.FieldType.int), Jvm.Cond.code ({ cls := "java/lang/Math", name := "max", desc := "(II)I" } : Jvm.MethodName) jdk_29_method_65_code (2 : Nat) (Option.some Jvm.ClassFile.FieldType.int), Jvm.Cond.code ({ cls := "com/example/fixpoints_of_behaviour/fixpointsofbehaviour/bisimulation/RefusalsHoldsPinLaw", name := "subset", desc := "(IIIII)[I" } : Jvm.MethodName) method_2_code (8 : Nat) (Option.some (Jvm.ClassFile.FieldType.array Jvm.ClassFile.FieldType.int)), Jvm.Cond.code ({ cls := "com/example/fixpoints_of_behaviour/fixpointsofbehaviour/bisimulation/Refusals", name := "holds", desc := "([I[I)Z" } : Jvm.MethodName) prog_37_method_5_code (7 : Nat) (Option.some Jvm.ClassFile.FieldType.boolean)]
set_option maxRecDepth 65536 in
theorem codes_eq : words1.filter isCode = codes1 := rfl
theorem w_codes : ∀ c ∈ words1.filter isCode, c.before args0 about1 = true := by
  rw [codes_eq]
  intro c hc
  simp only [codes1, List.mem_cons, List.not_mem_nil, or_false] at hc
  rcases hc with rfl | rfl | rfl | rfl | rfl
  · exact w_c0
  · exact w_c1
  · exact w_c2
  · exact w_c3
  · exact w_c4
set_option maxRecDepth 65536 in
theorem w_t1 : words1.all (fun c => isCode c || c.before args0 about1) = true := by decide +kernel
theorem w_tables : (allAtoms (Jvm.Cond.code x code maxLocals ret :: tables_1)).before args0 about1 = true := by
  rw [allAtoms_all]
  show words1.all (fun c => c.before args0 about1) = true
  refine all_split ?_ w_codes
  rw [w_t1]
set_option maxRecDepth 65536 in
theorem w_case : (Jvm.Cond.and given_1 narrow_1).before args0 about1 = true := by decide +kernel
theorem w_applies : (headSpec (Jvm.Cond.code x code maxLocals ret :: tables_1) room_1).applies x e0.platform about1 = true :=
  (Spec.applies_iff w_frames).mpr ⟨w_running, w_runnable, w_alone, w_named, w_hears, w_ripe, w_room, w_tables⟩
theorem atStart : AtStart classFile x code maxLocals ret World_1 tables_1 room_1 Calls_1 rest_1 Pre_1 launch0 p0 e0 about1 theMethod args0 below0 :=
  ⟨lists_1, trivial, launch0.admits_env _ _ _, launch0.least_env, fairChoices_fair.cas, fairChoices_fair.clock, w_frames, w_args, w_heap, w_applies, trivial, trivial, w_case⟩
end start1
theorem witness_1 : WitnessClaimed_1 := ⟨start1.p0, start1.e0, start1.about1, start1.theMethod, start1.args0, start1.below0, start1.atStart⟩
end Jvm.Pilot.@@N@@
