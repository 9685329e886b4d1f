import JvmDerived
import JvmDerived.Pilot.@@N@@Statement
import JvmDerived.Pilot.@@N@@Code
set_option linter.unusedVariables false
set_option linter.unusedSimpArgs false
namespace Jvm.RoadKit
open Sem ClassFile Op Lib Jvm.Stand Jvm.Free Jvm.LawKit
section New
variable {p : Program} {l : Launch} {e : Env} {R : Room} {s : State} {m : MethodId} {args : Array Value} {below : List Frame} {meth : Method} {c : Code} {T : State} {locs : List Loc} {cells slots : Nat}
theorem retI (X : Stand p l e R s m args below meth c T locs cells slots) (hx : p.tables.exec = Jvm.exec) {pc : Nat} {Ls : Array Slot} {z : Int32} {rest : List Value} (hret : meth.sig.returnType = some .int) (hd : decode c.code pc = .ok (.ireturn, 1)) {fs : List Frame}
    (hl : ∀ (f : JFrame) (acts : List Action), f.method = m → f.locked = none → f.entered = [] → (doReturn e (T.setTop f) acts (some (.int z))).1 = T.setFrames fs) : Steps p.tables e below (T.setTop (mkF m pc Ls (.int z :: rest))) (T.setFrames fs) := by
  have hm' : T.vm.method? m = some meth := X.method'
  have hn : narrow .int (.int z) = .int z := rfl
  show Steps p.tables e below (T.setTop { method := m, pc := pc, locals := Ls, stack := _ :: rest, locked := none }) _
  jvm_step X.here [X.here.top, hx, hd, hm', hret, hn]
  first | (intro acts; rw [hl _ acts rfl rfl rfl]) | rw [hl _ _ rfl rfl rfl]
  exact Steps.refl _
/-- a run from U comes to a state of which K holds -/
def Rch (p : Program) (e : Env) (below : List Frame) (K : State → Prop) (U : State) : Prop := ∃ s₂, Steps p.tables e below U s₂ ∧ K s₂
theorem Rch.go {K : State → Prop} {U U' : State} (h : ∀ t, Steps p.tables e below U' t → Steps p.tables e below U t) (k : Rch p e below K U') : Rch p e below K U := by
  obtain ⟨s₂, a, b⟩ := k; exact ⟨s₂, h _ a, b⟩
theorem Rch.to {K : State → Prop} {U U' : State} (h : Steps p.tables e below U U') (k : Rch p e below K U') : Rch p e below K U := by
  obtain ⟨s₂, a, b⟩ := k; exact ⟨s₂, h.trans a, b⟩
theorem Rch.then {K K' : State → Prop} {U : State} (h : Rch p e below K U) (f : ∀ V, K V → Rch p e below K' V) : Rch p e below K' U := by
  obtain ⟨s₂, a, b⟩ := h; exact Rch.to a (f _ b)
/-- the body is left: what it returned and what it leaves -/
def Fin (s : State) (below : List Frame) (Q : Option Value → Heap → List Loc → Prop) (k n : Nat) (s₂ : State) : Prop :=
  ∃ o, s₂.status = .running ∧ Ended s₂ below o ∧ ∃ v L, o = .returned v ∧ Q v s₂.heap L ∧ FrameEnd s o s₂ L k n
theorem Rch.fin {Q : Option Value → Heap → List Loc → Prop} {k n : Nat} {U : State} {h : Heap} (X : Stand p l e R s m args below meth c T locs cells slots) (hlk : meth.locks = false) {v : Option Value} (hv : meth.sig.returnType = none → v = none) (eT : T.heap = h) (hc : cells ≤ k) (hn : slots ≤ n)
    (st : ∀ fs, (∀ (f : JFrame) (acts : List Action), f.method = m → f.locked = none → f.entered = [] → (doReturn e (T.setTop f) acts v).1 = T.setFrames fs) → Steps p.tables e below U (T.setFrames fs)) (hQ : Q v h locs) : Rch p e below (Fin s below Q k n) U := by
  obtain ⟨fs, hr, hrun, hended, hW, hsame⟩ := X.leave hv hlk
  refine ⟨_, st fs hr, _, hrun, hended, v, locs, rfl, ?_, ⟨_, rfl⟩, hW, hsame.mono hc hn⟩
  show Q v T.heap locs
  rw [eT]; exact hQ
theorem Rch.body {Q : Option Value → Heap → List Loc → Prop} {k n : Nat} {U U' : State} (h : ∀ t, Steps p.tables e below U' t → Steps p.tables e below U t) (H : Rch p e below (Fin s below Q k n) U') :
    ∃ s₂ o, Steps p.tables e below U s₂ ∧ s₂.status = .running ∧ Ended s₂ below o ∧ (∃ v L, o = .returned v ∧ Q v s₂.heap L ∧ FrameEnd s o s₂ L k n) := by
  obtain ⟨s₂, a, o, b, c, d⟩ := H; exact ⟨s₂, o, h _ a, b, c, d⟩
/-- the same, said with the wide end (a String constant may have been interned) -/
def FinW (s : State) (below : List Frame) (Q : Option Value → Heap → List Loc → Prop) (k n : Nat) (s₂ : State) : Prop :=
  ∃ o, s₂.status = .running ∧ Ended s₂ below o ∧ ∃ v L, o = .returned v ∧ Q v s₂.heap L ∧ ReturnedEndW s o s₂ L k n
theorem Rch.finW {Q : Option Value → Heap → List Loc → Prop} {k n : Nat} {U : State} {h : Heap} {vm₁ : Vm} {n1 : Nat} (X : Stand p l e R (s.setVm vm₁) m args below meth c T locs cells slots) (hlk : meth.locks = false) {v : Option Value} (hv : meth.sig.returnType = none → v = none) (eT : T.heap = h) (hc : cells ≤ k) (hn : slots ≤ n)
    (hS : s.Since vm₁ n1) (hk : n1 ≤ h.size) (st : ∀ fs, (∀ (f : JFrame) (acts : List Action), f.method = m → f.locked = none → f.entered = [] → (doReturn e (T.setTop f) acts v).1 = T.setFrames fs) → Steps p.tables e below U (T.setFrames fs)) (hQ : Q v h locs) : Rch p e below (FinW s below Q k n) U := by
  obtain ⟨fs, hr, hrun, hended, hE⟩ := X.leaveW hS (by rw [eT]; exact hk) hv hlk
  refine ⟨_, st fs hr, _, hrun, hended, v, locs, rfl, ?_, hE.1, hE.2.1, hE.2.2.1, hE.2.2.2.mono hc hn⟩
  show Q v T.heap locs
  rw [eT]; exact hQ
theorem Rch.bodyW {Q : Option Value → Heap → List Loc → Prop} {k n : Nat} {U U' : State} (h : ∀ t, Steps p.tables e below U' t → Steps p.tables e below U t) (H : Rch p e below (FinW s below Q k n) U') :
    ∃ s₂ o, Steps p.tables e below U s₂ ∧ s₂.status = .running ∧ Ended s₂ below o ∧ (∃ v L, o = .returned v ∧ Q v s₂.heap L ∧ ReturnedEndW s o s₂ L k n) := by
  obtain ⟨s₂, a, o, b, c, d⟩ := H; exact ⟨s₂, o, h _ a, b, c, d⟩
theorem nar_1 : nar .boolean 1 = 1 := rfl
theorem nar_0 : nar .boolean 0 = 0 := rfl
end New
end Jvm.RoadKit
namespace Jvm.Pilot.@@N@@
open Jvm Jvm.ClassFile Sem Op Lib Jvm.Free Jvm.Stand Jvm.LawKit Jvm.RoadKit Bundle Jvm.Pilot.@@N@@.Jvm.D
theorem wi {Z : State} {a0 : Array Value} (hw : ∀ d ∈ tables_1, d.before a0 Z = true) (i : Nat) {d : Jvm.Cond} (h : tables_1[i]? = some d) : d.before a0 Z = true := hw d (List.mem_of_getElem? h)
def own_max (p1 p2 : Int32) : Int32 := if p1 < p2 then p2 else p1
theorem d7_0 : decode jdk_29_method_65_code 0 = .ok (.iload_n 0, 1) := by decide +kernel
theorem d7_1 : decode jdk_29_method_65_code 1 = .ok (.iload_n 1, 1) := by decide +kernel
theorem d7_2 : decode jdk_29_method_65_code 2 = .ok (.if_icmp .lt 7, 3) := by decide +kernel
theorem d7_5 : decode jdk_29_method_65_code 5 = .ok (.iload_n 0, 1) := by decide +kernel
theorem d7_6 : decode jdk_29_method_65_code 6 = .ok (.goto 4, 3) := by decide +kernel
theorem d7_9 : decode jdk_29_method_65_code 9 = .ok (.iload_n 1, 1) := by decide +kernel
theorem d7_10 : decode jdk_29_method_65_code 10 = .ok (.ireturn, 1) := by decide +kernel
theorem ef_rmMax (m : MethodId) (p1 : Int32) (p2 : Int32) : entryFrame m #[(.int p1), (.int p2)] 2 = mkF m 0 #[.val (.int p1), .val (.int p2)] [] := by first | (simp [entryFrame, mkF, argsToLocals, Value.category]; done) | rfl
def Q_rmMax (Z : State) (p1 : Int32) (p2 : Int32) (h0 : Heap) (n0 : Nat) (v : Option Value) (h : Heap) (L : List Loc) : Prop := v = some (.int (own_max p1 p2)) ∧ Fr n0 L ∧ h = h0
set_option maxRecDepth 65536 in
set_option maxHeartbeats 40000000 in
theorem rmMax (l : Launch) (Z : State) (a0 : Array Value) (hw : ∀ d ∈ tables_1, d.before a0 Z = true) (ws : List Jvm.Cond) (p1 : Int32) (p2 : Int32) (h0 : Heap) (n0 : Nat) (Z0 : n0 ≤ h0.size)  :
    MetFree l (⟨"java/lang/Math", "max", "(II)I"⟩ : MethodName) (head1 (Jvm.Cond.code (⟨"java/lang/Math", "max", "(II)I"⟩ : MethodName) jdk_29_method_65_code 2 (some .int) :: ws) ({ frames := 0, cells := 0, slots := 0, locals := 0 } : Room)) (fun a U => a = #[(.int p1), (.int p2)] ∧ Z.Warmed39 U.vm ∧ U.heap = h0) (fun _ _ _ _ _ => True) (fun _ U o U' => ∃ v L, o = .returned v ∧ Q_rmMax Z p1 p2 h0 n0 v U'.heap L ∧ FrameEnd U o U' L ({ frames := 0, cells := 0, slots := 0, locals := 0 } : Room).cells ({ frames := 0, cells := 0, slots := 0, locals := 0 } : Room).slots) := by
  refine MetFree.of_bodySF (Jvm.Free.JP.mathPlain rfl (by decide +kernel)) hisR ?_
  intro p e s m args below meth c s₁ Bd hml0 hP hK
  obtain ⟨rfl, hZ, hh⟩ := hP
  have hx := Bd.exec
  have hby := Bd.bytes
  have hml : c.maxLocals = 2 := hml0
  have hown : s.vm.findClass "java/lang/Math" = some m.cls := findClass_of_methodNamed Bd.named
  have hnm := (name_of_methodNamed Bd.named Bd.method).1
  have hret := Bd.returns
  have hlk : meth.locks = false := BodyLoose.notSynchronized Bd
  have X0 : Stand p l e ({ frames := 0, cells := 0, slots := 0, locals := 0 } : Room) s m #[(.int p1), (.int p2)] below meth c s₁ [] 0 0 := Stand.of_body Bd
  have e0 : s₁.heap = h0 := by rw [← hh, Bd.state]; rfl
  have N0 := Fr.nil n0
  refine Rch.body (Q := Q_rmMax Z p1 p2 h0 n0) (U' := s₁.setTop (mkF m 0 #[.val (.int p1), .val (.int p2)] [])) (fun t k => castTop (ef_rmMax m p1 p2) k) ?_
  refine Rch.go (U' := s₁.setTop (mkF m 1 #[.val (.int p1), .val (.int p2)] [(.int p1)])) (fun _ k => XS.iloadN X0.here hx rfl (hb hby d7_0) rfl  k) ?_
  refine Rch.go (U' := s₁.setTop (mkF m 2 #[.val (.int p1), .val (.int p2)] [(.int p2), (.int p1)])) (fun _ k => XS.iloadN X0.here hx rfl (hb hby d7_1) rfl  k) ?_
  by_cases br1 : p1 < p2
  ·
    refine Rch.go (U' := s₁.setTop (mkF m 9 #[.val (.int p1), .val (.int p2)] [])) (fun _ k => XS.icmpYes X0.here hx rfl (pc0 := 2) (pc' := 9) rfl (hb hby d7_2) rfl (XT.ii_lt_t br1) (by decide) (by decide) k) ?_
    refine Rch.go (U' := s₁.setTop (mkF m 10 #[.val (.int p1), .val (.int p2)] [(.int p2)])) (fun _ k => XS.iloadN X0.here hx rfl (hb hby d7_9) rfl  k) ?_
    refine Rch.fin X0 hlk (v := some (.int p2)) (fun h => by rw [hret] at h; cases h) e0 (by decide) (by decide) (fun fs hr => retI X0 hx hret (hb hby d7_10) hr) ?_
    exact ⟨by simp only [own_max, br1, ↓reduceIte], N0, rfl⟩
  ·
    refine Rch.go (U' := s₁.setTop (mkF m 5 #[.val (.int p1), .val (.int p2)] [])) (fun _ k => XS.icmpNo X0.here hx rfl (hb hby d7_2) rfl (XT.ii_lt_f br1) k) ?_
    refine Rch.go (U' := s₁.setTop (mkF m 6 #[.val (.int p1), .val (.int p2)] [(.int p1)])) (fun _ k => XS.iloadN X0.here hx rfl (hb hby d7_5) rfl  k) ?_
    refine Rch.go (U' := s₁.setTop (mkF m 10 #[.val (.int p1), .val (.int p2)] [(.int p1)])) (fun _ k => XS.goto X0.here hx rfl (pc0 := 6) (pc' := 10) rfl (hb hby d7_6) (by decide) (by decide) k) ?_
    refine Rch.fin X0 hlk (v := some (.int p1)) (fun h => by rw [hret] at h; cases h) e0 (by decide) (by decide) (fun fs hr => retI X0 hx hret (hb hby d7_10) hr) ?_
    exact ⟨by simp only [own_max, br1, ↓reduceIte], N0, rfl⟩
def own_min (p1 p2 : Int32) : Int32 := if p2 < p1 then p2 else p1
theorem d58_0 : decode jdk_29_method_69_code 0 = .ok (.iload_n 0, 1) := by decide +kernel
theorem d58_1 : decode jdk_29_method_69_code 1 = .ok (.iload_n 1, 1) := by decide +kernel
theorem d58_2 : decode jdk_29_method_69_code 2 = .ok (.if_icmp .gt 7, 3) := by decide +kernel
theorem d58_5 : decode jdk_29_method_69_code 5 = .ok (.iload_n 0, 1) := by decide +kernel
theorem d58_6 : decode jdk_29_method_69_code 6 = .ok (.goto 4, 3) := by decide +kernel
theorem d58_9 : decode jdk_29_method_69_code 9 = .ok (.iload_n 1, 1) := by decide +kernel
theorem d58_10 : decode jdk_29_method_69_code 10 = .ok (.ireturn, 1) := by decide +kernel
theorem ef_rmMin (m : MethodId) (p1 : Int32) (p2 : Int32) : entryFrame m #[(.int p1), (.int p2)] 2 = mkF m 0 #[.val (.int p1), .val (.int p2)] [] := by first | (simp [entryFrame, mkF, argsToLocals, Value.category]; done) | rfl
def Q_rmMin (Z : State) (p1 : Int32) (p2 : Int32) (h0 : Heap) (n0 : Nat) (v : Option Value) (h : Heap) (L : List Loc) : Prop := v = some (.int (own_min p1 p2)) ∧ Fr n0 L ∧ h = h0
set_option maxRecDepth 65536 in
set_option maxHeartbeats 40000000 in
theorem rmMin (l : Launch) (Z : State) (a0 : Array Value) (hw : ∀ d ∈ tables_1, d.before a0 Z = true) (ws : List Jvm.Cond) (p1 : Int32) (p2 : Int32) (h0 : Heap) (n0 : Nat) (Z0 : n0 ≤ h0.size)  :
    MetFree l (⟨"java/lang/Math", "min", "(II)I"⟩ : MethodName) (head1 (Jvm.Cond.code (⟨"java/lang/Math", "min", "(II)I"⟩ : MethodName) jdk_29_method_69_code 2 (some .int) :: ws) ({ frames := 0, cells := 0, slots := 0, locals := 0 } : Room)) (fun a U => a = #[(.int p1), (.int p2)] ∧ Z.Warmed39 U.vm ∧ U.heap = h0) (fun _ _ _ _ _ => True) (fun _ U o U' => ∃ v L, o = .returned v ∧ Q_rmMin Z p1 p2 h0 n0 v U'.heap L ∧ FrameEnd U o U' L ({ frames := 0, cells := 0, slots := 0, locals := 0 } : Room).cells ({ frames := 0, cells := 0, slots := 0, locals := 0 } : Room).slots) := by
  refine MetFree.of_bodySF (Jvm.Free.JP.mathPlain rfl (by decide +kernel)) hisR ?_
  intro p e s m args below meth c s₁ Bd hml0 hP hK
  obtain ⟨rfl, hZ, hh⟩ := hP
  have hx := Bd.exec
  have hby := Bd.bytes
  have hml : c.maxLocals = 2 := hml0
  have hown : s.vm.findClass "java/lang/Math" = some m.cls := findClass_of_methodNamed Bd.named
  have hnm := (name_of_methodNamed Bd.named Bd.method).1
  have hret := Bd.returns
  have hlk : meth.locks = false := BodyLoose.notSynchronized Bd
  have X0 : Stand p l e ({ frames := 0, cells := 0, slots := 0, locals := 0 } : Room) s m #[(.int p1), (.int p2)] below meth c s₁ [] 0 0 := Stand.of_body Bd
  have e0 : s₁.heap = h0 := by rw [← hh, Bd.state]; rfl
  have N0 := Fr.nil n0
  refine Rch.body (Q := Q_rmMin Z p1 p2 h0 n0) (U' := s₁.setTop (mkF m 0 #[.val (.int p1), .val (.int p2)] [])) (fun t k => castTop (ef_rmMin m p1 p2) k) ?_
  refine Rch.go (U' := s₁.setTop (mkF m 1 #[.val (.int p1), .val (.int p2)] [(.int p1)])) (fun _ k => XS.iloadN X0.here hx rfl (hb hby d58_0) rfl  k) ?_
  refine Rch.go (U' := s₁.setTop (mkF m 2 #[.val (.int p1), .val (.int p2)] [(.int p2), (.int p1)])) (fun _ k => XS.iloadN X0.here hx rfl (hb hby d58_1) rfl  k) ?_
  by_cases br2 : p2 < p1
  ·
    refine Rch.go (U' := s₁.setTop (mkF m 9 #[.val (.int p1), .val (.int p2)] [])) (fun _ k => XS.icmpYes X0.here hx rfl (pc0 := 2) (pc' := 9) rfl (hb hby d58_2) rfl (XT.ii_gt_t br2) (by decide) (by decide) k) ?_
    refine Rch.go (U' := s₁.setTop (mkF m 10 #[.val (.int p1), .val (.int p2)] [(.int p2)])) (fun _ k => XS.iloadN X0.here hx rfl (hb hby d58_9) rfl  k) ?_
    refine Rch.fin X0 hlk (v := some (.int p2)) (fun h => by rw [hret] at h; cases h) e0 (by decide) (by decide) (fun fs hr => retI X0 hx hret (hb hby d58_10) hr) ?_
    exact ⟨by simp only [own_min, br2, ↓reduceIte], N0, rfl⟩
  ·
    refine Rch.go (U' := s₁.setTop (mkF m 5 #[.val (.int p1), .val (.int p2)] [])) (fun _ k => XS.icmpNo X0.here hx rfl (hb hby d58_2) rfl (XT.ii_gt_f br2) k) ?_
    refine Rch.go (U' := s₁.setTop (mkF m 6 #[.val (.int p1), .val (.int p2)] [(.int p1)])) (fun _ k => XS.iloadN X0.here hx rfl (hb hby d58_5) rfl  k) ?_
    refine Rch.go (U' := s₁.setTop (mkF m 10 #[.val (.int p1), .val (.int p2)] [(.int p1)])) (fun _ k => XS.goto X0.here hx rfl (pc0 := 6) (pc' := 10) rfl (hb hby d58_6) (by decide) (by decide) k) ?_
    refine Rch.fin X0 hlk (v := some (.int p1)) (fun h => by rw [hret] at h; cases h) e0 (by decide) (by decide) (fun fs hr => retI X0 hx hret (hb hby d58_10) hr) ?_
    exact ⟨by simp only [own_min, br2, ↓reduceIte], N0, rfl⟩
def own_next (mw wt : Int32) : Int32 := own_min (own_max ((2 : Int32) * wt) (1 : Int32)) mw
def own_fwt (mw wt lf : Int32) : Int32 := if lf = 0 then own_next mw wt else wt
def own_flf (mw wt lf : Int32) : Int32 := if lf = 0 then own_next mw wt else lf
def own_fret (mw wt lf : Int32) : Int32 := if lf = 0 then own_next mw wt else 0
def own_ev (lf : Int32) : Int32 := if 0 < lf then lf - 1 else lf
def own_pos (x : Int32) : Int32 := if 0 < x then 1 else 0
theorem d10_0 : decode prog_22_method_1_code 0 = .ok (.aload_n 0, 1) := by decide +kernel
theorem d10_1 : decode prog_22_method_1_code 1 = .ok (.invokespecial 1, 3) := by decide +kernel
theorem d10_4 : decode prog_22_method_1_code 4 = .ok (.aload_n 0, 1) := by decide +kernel
theorem d10_5 : decode prog_22_method_1_code 5 = .ok (.iload_n 1, 1) := by decide +kernel
theorem d10_6 : decode prog_22_method_1_code 6 = .ok (.putfield 7, 3) := by decide +kernel
theorem d10_9 : decode prog_22_method_1_code 9 = .ok (.return_, 1) := by decide +kernel
theorem pd_3 : parseMethodDescriptor "()V" = some ⟨[], none⟩ := by decide +kernel
theorem pn_com_example_ebb_ebb_StartBackoff : plainName "com/example/ebb/ebb/StartBackoff" = true := by first | (simp [plainName, overriddenIn]; done) | decide +kernel
theorem ef_rmNew (m : MethodId) (a1 : Addr) (p1 : Int32) : entryFrame m #[(.ref a1), (.int p1)] 2 = mkF m 0 #[.val (.ref a1), .val (.int p1)] [] := by first | (simp [entryFrame, mkF, argsToLocals, Value.category]; done) | rfl
def Q_rmNew (Z : State) (a1 : Addr) (p1 : Int32) (mw : Int32) (fir : Int32) (eir : Int32) (ew : Int32) (wt : Int32) (lf : Int32) (h0 : Heap) (n0 : Nat) (v : Option Value) (h : Heap) (L : List Loc) : Prop := v = none ∧ Fr n0 L ∧ Keep h0 h [a1] ∧ Fld Z h a1 "com/example/ebb/ebb/StartBackoff" "maxWait" "I" (.int p1) ∧ Fld Z h a1 "com/example/ebb/ebb/StartBackoff" "failedInRow" "I" (.int fir) ∧ Fld Z h a1 "com/example/ebb/ebb/StartBackoff" "endedInRow" "I" (.int eir) ∧ Fld Z h a1 "com/example/ebb/ebb/StartBackoff" "endedWait" "I" (.int ew) ∧ Fld Z h a1 "com/example/ebb/ebb/StartBackoff" "wait" "I" (.int wt) ∧ Fld Z h a1 "com/example/ebb/ebb/StartBackoff" "left" "I" (.int lf)
set_option maxRecDepth 65536 in
set_option maxHeartbeats 40000000 in
theorem rmNew (l : Launch) (Z : State) (a0 : Array Value) (hw : ∀ d ∈ tables_1, d.before a0 Z = true) (ws : List Jvm.Cond) (a1 : Addr) (p1 : Int32) (mw : Int32) (fir : Int32) (eir : Int32) (ew : Int32) (wt : Int32) (lf : Int32) (h0 : Heap) (n0 : Nat) (Z0 : n0 ≤ h0.size) (E_a1 : Exa Z h0 a1 "com/example/ebb/ebb/StartBackoff") (F_a1_maxWait : Fld Z h0 a1 "com/example/ebb/ebb/StartBackoff" "maxWait" "I" (.int mw)) (F_a1_failedInRow : Fld Z h0 a1 "com/example/ebb/ebb/StartBackoff" "failedInRow" "I" (.int fir)) (F_a1_endedInRow : Fld Z h0 a1 "com/example/ebb/ebb/StartBackoff" "endedInRow" "I" (.int eir)) (F_a1_endedWait : Fld Z h0 a1 "com/example/ebb/ebb/StartBackoff" "endedWait" "I" (.int ew)) (F_a1_wait : Fld Z h0 a1 "com/example/ebb/ebb/StartBackoff" "wait" "I" (.int wt)) (F_a1_left : Fld Z h0 a1 "com/example/ebb/ebb/StartBackoff" "left" "I" (.int lf)) (g_a1 : n0 ≤ a1) :
    MetFree l (⟨"com/example/ebb/ebb/StartBackoff", "<init>", "(I)V"⟩ : MethodName) (head1 (Jvm.Cond.code (⟨"com/example/ebb/ebb/StartBackoff", "<init>", "(I)V"⟩ : MethodName) prog_22_method_1_code 2 none :: ws) ({ frames := 1, cells := 0, slots := 0, locals := 12 } : Room)) (fun a U => a = #[(.ref a1), (.int p1)] ∧ Z.Warmed39 U.vm ∧ U.heap = h0) (fun _ _ _ _ _ => True) (fun _ U o U' => ∃ v L, o = .returned v ∧ Q_rmNew Z a1 p1 mw fir eir ew wt lf h0 n0 v U'.heap L ∧ FrameEnd U o U' L ({ frames := 1, cells := 0, slots := 0, locals := 12 } : Room).cells ({ frames := 1, cells := 0, slots := 0, locals := 12 } : Room).slots) := by
  refine MetFree.of_bodySF (plainFor_of_name pn_com_example_ebb_ebb_StartBackoff) hisR ?_
  intro p e s m args below meth c s₁ Bd hml0 hP hK
  obtain ⟨rfl, hZ, hh⟩ := hP
  have hx := Bd.exec
  have hby := Bd.bytes
  have hml : c.maxLocals = 2 := hml0
  have hown : s.vm.findClass "com/example/ebb/ebb/StartBackoff" = some m.cls := findClass_of_methodNamed Bd.named
  have hnm := (name_of_methodNamed Bd.named Bd.method).1
  have hret := Bd.returns
  have hlk : meth.locks = false := BodyLoose.notSynchronized Bd
  have X0 : Stand p l e ({ frames := 1, cells := 0, slots := 0, locals := 12 } : Room) s m #[(.ref a1), (.int p1)] below meth c s₁ [] 0 0 := Stand.of_body Bd
  have e0 : s₁.heap = h0 := by rw [← hh, Bd.state]; rfl
  have N0 := Fr.nil n0
  have K0 := Keep.refl h0 [a1]
  refine Rch.body (Q := Q_rmNew Z a1 p1 mw fir eir ew wt lf h0 n0) (U' := s₁.setTop (mkF m 0 #[.val (.ref a1), .val (.int p1)] [])) (fun t k => castTop (ef_rmNew m a1 p1) k) ?_
  refine Rch.go (U' := s₁.setTop (mkF m 1 #[.val (.ref a1), .val (.int p1)] [(.ref a1)])) (fun _ k => XS.aloadN X0.here hx rfl (hb hby d10_0) rfl rfl k) ?_
  obtain ⟨T3, X3, e3, st3⟩ := initO X0 hx hZ hown (wi hw 11 rfl) (wi hw 12 rfl) (wi hw 13 rfl) e0 (g := (mkF m 1 #[.val (.ref a1), .val (.int p1)] [(.ref a1)])) rfl (by rw [hml]; rfl) rfl (hb hby d10_1) (by decide) (W := 0) (by show 2 * 0 + _ ≤ _; exact Nat.le_of_eq rfl) (by decide)
  refine Rch.go (U' := T3.setTop (mkF m 4 #[.val (.ref a1), .val (.int p1)] [])) st3 ?_
  refine Rch.go (U' := T3.setTop (mkF m 5 #[.val (.ref a1), .val (.int p1)] [(.ref a1)])) (fun _ k => XS.aloadN X3.here hx rfl (hb hby d10_4) rfl rfl k) ?_
  refine Rch.go (U' := T3.setTop (mkF m 6 #[.val (.ref a1), .val (.int p1)] [(.int p1), (.ref a1)])) (fun _ k => XS.iloadN X3.here hx rfl (hb hby d10_5) rfl  k) ?_
  obtain ⟨T4, h4, X4, e4, W4, st4⟩ := putF X3 hx hZ hown (host := "") (Or.inl (wi hw 14 rfl)) Via.refl e3 F_a1_maxWait E_a1 (Or.inr ⟨(wi hw 15 rfl), rfl, hnm⟩) (wi hw 1 rfl) (ty := .int) (by decide) rfl rfl (g := (mkF m 6 #[.val (.ref a1), .val (.int p1)] [(.int p1), (.ref a1)])) rfl rfl (hb hby d10_6)
  have F4 := F_a1_maxWait.same W4
  have f5 := E_a1.wr W4
  have f6 := F_a1_failedInRow.other W4 (Or.inr (slot_ne (Or.inl (wi hw 22 rfl)) (Or.inr (wi hw 15 rfl)) (by decide) (t := .int) (t' := .int) (by decide) (by decide)))
  have f7 := F_a1_endedInRow.other W4 (Or.inr (slot_ne (Or.inl (wi hw 33 rfl)) (Or.inr (wi hw 15 rfl)) (by decide) (t := .int) (t' := .int) (by decide) (by decide)))
  have f8 := F_a1_endedWait.other W4 (Or.inr (slot_ne (Or.inl (wi hw 35 rfl)) (Or.inr (wi hw 15 rfl)) (by decide) (t := .int) (t' := .int) (by decide) (by decide)))
  have f9 := F_a1_wait.other W4 (Or.inr (slot_ne (Or.inl (wi hw 42 rfl)) (Or.inr (wi hw 15 rfl)) (by decide) (t := .int) (t' := .int) (by decide) (by decide)))
  have f10 := F_a1_left.other W4 (Or.inr (slot_ne (Or.inl (wi hw 45 rfl)) (Or.inr (wi hw 15 rfl)) (by decide) (t := .int) (t' := .int) (by decide) (by decide)))
  have N4 := Fr.snoc X4 N0 g_a1
  have z11 := Nat.le_trans Z0 (Keep.of_wr W4).1
  have K12 := K0.wr W4 (Or.inl (List.mem_of_getElem? (i := 0) rfl))
  refine Rch.go (U' := T4.setTop (mkF m 9 #[.val (.ref a1), .val (.int p1)] [])) st4 ?_
  refine Rch.fin X4 hlk (v := none) (fun _ => rfl) e4 (by decide) (by decide) (fun fs hr => X4.returnOut hx hret (hb hby d10_9) hr) ?_
  exact ⟨rfl, N4, K12, (by first | exact F4 | (simp only [nar_1, nar_0, ↓reduceIte]; exact F4) | (simp [nar_1, nar_0, ↓reduceIte]; exact F4)), (by first | exact f6 | (simp only [nar_1, nar_0, ↓reduceIte]; exact f6) | (simp [nar_1, nar_0, ↓reduceIte]; exact f6)), (by first | exact f7 | (simp only [nar_1, nar_0, ↓reduceIte]; exact f7) | (simp [nar_1, nar_0, ↓reduceIte]; exact f7)), (by first | exact f8 | (simp only [nar_1, nar_0, ↓reduceIte]; exact f8) | (simp [nar_1, nar_0, ↓reduceIte]; exact f8)), (by first | exact f9 | (simp only [nar_1, nar_0, ↓reduceIte]; exact f9) | (simp [nar_1, nar_0, ↓reduceIte]; exact f9)), (by first | exact f10 | (simp only [nar_1, nar_0, ↓reduceIte]; exact f10) | (simp [nar_1, nar_0, ↓reduceIte]; exact f10))⟩
theorem d55_0 : decode prog_22_method_2_code 0 = .ok (.aload_n 0, 1) := by decide +kernel
theorem d55_1 : decode prog_22_method_2_code 1 = .ok (.dup, 1) := by decide +kernel
theorem d55_2 : decode prog_22_method_2_code 2 = .ok (.getfield 13, 3) := by decide +kernel
theorem d55_5 : decode prog_22_method_2_code 5 = .ok (.iconst 1, 1) := by decide +kernel
theorem d55_6 : decode prog_22_method_2_code 6 = .ok (.iadd, 1) := by decide +kernel
theorem d55_7 : decode prog_22_method_2_code 7 = .ok (.putfield 13, 3) := by decide +kernel
theorem d55_10 : decode prog_22_method_2_code 10 = .ok (.iconst 0, 1) := by decide +kernel
theorem d55_11 : decode prog_22_method_2_code 11 = .ok (.istore_n 1, 1) := by decide +kernel
theorem d55_12 : decode prog_22_method_2_code 12 = .ok (.aload_n 0, 1) := by decide +kernel
theorem d55_13 : decode prog_22_method_2_code 13 = .ok (.getfield 16, 3) := by decide +kernel
theorem d55_16 : decode prog_22_method_2_code 16 = .ok (.ifCond .ne 37, 3) := by decide +kernel
theorem d55_19 : decode prog_22_method_2_code 19 = .ok (.aload_n 0, 1) := by decide +kernel
theorem d55_20 : decode prog_22_method_2_code 20 = .ok (.iconst 2, 1) := by decide +kernel
theorem d55_21 : decode prog_22_method_2_code 21 = .ok (.aload_n 0, 1) := by decide +kernel
theorem d55_22 : decode prog_22_method_2_code 22 = .ok (.getfield 19, 3) := by decide +kernel
theorem d55_25 : decode prog_22_method_2_code 25 = .ok (.imul, 1) := by decide +kernel
theorem d55_26 : decode prog_22_method_2_code 26 = .ok (.iconst 1, 1) := by decide +kernel
theorem d55_27 : decode prog_22_method_2_code 27 = .ok (.invokestatic 22, 3) := by decide +kernel
theorem d55_30 : decode prog_22_method_2_code 30 = .ok (.aload_n 0, 1) := by decide +kernel
theorem d55_31 : decode prog_22_method_2_code 31 = .ok (.getfield 7, 3) := by decide +kernel
theorem d55_34 : decode prog_22_method_2_code 34 = .ok (.invokestatic 28, 3) := by decide +kernel
theorem d55_37 : decode prog_22_method_2_code 37 = .ok (.putfield 19, 3) := by decide +kernel
theorem d55_40 : decode prog_22_method_2_code 40 = .ok (.aload_n 0, 1) := by decide +kernel
theorem d55_41 : decode prog_22_method_2_code 41 = .ok (.aload_n 0, 1) := by decide +kernel
theorem d55_42 : decode prog_22_method_2_code 42 = .ok (.getfield 19, 3) := by decide +kernel
theorem d55_45 : decode prog_22_method_2_code 45 = .ok (.putfield 16, 3) := by decide +kernel
theorem d55_48 : decode prog_22_method_2_code 48 = .ok (.aload_n 0, 1) := by decide +kernel
theorem d55_49 : decode prog_22_method_2_code 49 = .ok (.getfield 19, 3) := by decide +kernel
theorem d55_52 : decode prog_22_method_2_code 52 = .ok (.istore_n 1, 1) := by decide +kernel
theorem d55_53 : decode prog_22_method_2_code 53 = .ok (.iload_n 1, 1) := by decide +kernel
theorem d55_54 : decode prog_22_method_2_code 54 = .ok (.ireturn, 1) := by decide +kernel
theorem pd_5 : parseMethodDescriptor "(II)I" = some ⟨[.int, .int], some .int⟩ := by decide +kernel
theorem ef_rmFailed (m : MethodId) (a1 : Addr) : entryFrame m #[(.ref a1)] 2 = mkF m 0 #[.val (.ref a1), .unset] [] := by first | (simp [entryFrame, mkF, argsToLocals, Value.category]; done) | rfl
def Q_rmFailed (Z : State) (a1 : Addr) (mw : Int32) (fir : Int32) (eir : Int32) (ew : Int32) (wt : Int32) (lf : Int32) (h0 : Heap) (n0 : Nat) (v : Option Value) (h : Heap) (L : List Loc) : Prop := v = some (.int (own_fret mw wt lf)) ∧ Fr n0 L ∧ Keep h0 h [a1] ∧ Fld Z h a1 "com/example/ebb/ebb/StartBackoff" "maxWait" "I" (.int mw) ∧ Fld Z h a1 "com/example/ebb/ebb/StartBackoff" "failedInRow" "I" (.int (fir + (1 : Int32))) ∧ Fld Z h a1 "com/example/ebb/ebb/StartBackoff" "endedInRow" "I" (.int eir) ∧ Fld Z h a1 "com/example/ebb/ebb/StartBackoff" "endedWait" "I" (.int ew) ∧ Fld Z h a1 "com/example/ebb/ebb/StartBackoff" "wait" "I" (.int (own_fwt mw wt lf)) ∧ Fld Z h a1 "com/example/ebb/ebb/StartBackoff" "left" "I" (.int (own_flf mw wt lf))
set_option maxRecDepth 65536 in
set_option maxHeartbeats 40000000 in
theorem rmFailed (l : Launch) (Z : State) (a0 : Array Value) (hw : ∀ d ∈ tables_1, d.before a0 Z = true) (ws : List Jvm.Cond) (a1 : Addr) (mw : Int32) (fir : Int32) (eir : Int32) (ew : Int32) (wt : Int32) (lf : Int32) (h0 : Heap) (n0 : Nat) (Z0 : n0 ≤ h0.size) (E_a1 : Exa Z h0 a1 "com/example/ebb/ebb/StartBackoff") (F_a1_maxWait : Fld Z h0 a1 "com/example/ebb/ebb/StartBackoff" "maxWait" "I" (.int mw)) (F_a1_failedInRow : Fld Z h0 a1 "com/example/ebb/ebb/StartBackoff" "failedInRow" "I" (.int fir)) (F_a1_endedInRow : Fld Z h0 a1 "com/example/ebb/ebb/StartBackoff" "endedInRow" "I" (.int eir)) (F_a1_endedWait : Fld Z h0 a1 "com/example/ebb/ebb/StartBackoff" "endedWait" "I" (.int ew)) (F_a1_wait : Fld Z h0 a1 "com/example/ebb/ebb/StartBackoff" "wait" "I" (.int wt)) (F_a1_left : Fld Z h0 a1 "com/example/ebb/ebb/StartBackoff" "left" "I" (.int lf)) (g_a1 : n0 ≤ a1) :
    MetFree l (⟨"com/example/ebb/ebb/StartBackoff", "failed", "()I"⟩ : MethodName) (head1 (Jvm.Cond.code (⟨"com/example/ebb/ebb/StartBackoff", "failed", "()I"⟩ : MethodName) prog_22_method_2_code 2 (some .int) :: ws) ({ frames := 1, cells := 0, slots := 0, locals := 14 } : Room)) (fun a U => a = #[(.ref a1)] ∧ Z.Warmed39 U.vm ∧ U.heap = h0) (fun _ _ _ _ _ => True) (fun _ U o U' => ∃ v L, o = .returned v ∧ Q_rmFailed Z a1 mw fir eir ew wt lf h0 n0 v U'.heap L ∧ FrameEnd U o U' L ({ frames := 1, cells := 0, slots := 0, locals := 14 } : Room).cells ({ frames := 1, cells := 0, slots := 0, locals := 14 } : Room).slots) := by
  refine MetFree.of_bodySF (plainFor_of_name pn_com_example_ebb_ebb_StartBackoff) hisR ?_
  intro p e s m args below meth c s₁ Bd hml0 hP hK
  obtain ⟨rfl, hZ, hh⟩ := hP
  have hx := Bd.exec
  have hby := Bd.bytes
  have hml : c.maxLocals = 2 := hml0
  have hown : s.vm.findClass "com/example/ebb/ebb/StartBackoff" = some m.cls := findClass_of_methodNamed Bd.named
  have hnm := (name_of_methodNamed Bd.named Bd.method).1
  have hret := Bd.returns
  have hlk : meth.locks = false := BodyLoose.notSynchronized Bd
  have X0 : Stand p l e ({ frames := 1, cells := 0, slots := 0, locals := 14 } : Room) s m #[(.ref a1)] below meth c s₁ [] 0 0 := Stand.of_body Bd
  have e0 : s₁.heap = h0 := by rw [← hh, Bd.state]; rfl
  have N0 := Fr.nil n0
  have K0 := Keep.refl h0 [a1]
  refine Rch.body (Q := Q_rmFailed Z a1 mw fir eir ew wt lf h0 n0) (U' := s₁.setTop (mkF m 0 #[.val (.ref a1), .unset] [])) (fun t k => castTop (ef_rmFailed m a1) k) ?_
  refine Rch.go (U' := s₁.setTop (mkF m 1 #[.val (.ref a1), .unset] [(.ref a1)])) (fun _ k => XS.aloadN X0.here hx rfl (hb hby d55_0) rfl rfl k) ?_
  refine Rch.go (U' := s₁.setTop (mkF m 2 #[.val (.ref a1), .unset] [(.ref a1), (.ref a1)])) (fun _ k => XS.dup X0.here hx rfl (hb hby d55_1) rfl rfl k) ?_
  obtain ⟨T13, X13, e13, st13⟩ := getF X0 hx hZ hown (host := "") (Or.inl (wi hw 21 rfl)) Via.refl e0 F_a1_failedInRow (g := (mkF m 2 #[.val (.ref a1), .unset] [(.ref a1), (.ref a1)])) rfl rfl (hb hby d55_2)
  refine Rch.go (U' := T13.setTop (mkF m 5 #[.val (.ref a1), .unset] [(.int fir), (.ref a1)])) st13 ?_
  refine Rch.go (U' := T13.setTop (mkF m 6 #[.val (.ref a1), .unset] [(.int (1 : Int32)), (.int fir), (.ref a1)])) (fun _ k => XS.iconst X13.here hx rfl (hb hby d55_5) k) ?_
  refine Rch.go (U' := T13.setTop (mkF m 7 #[.val (.ref a1), .unset] [(.int (fir + (1 : Int32))), (.ref a1)])) (fun _ k => XS.iadd X13.here hx rfl (hb hby d55_6) rfl k) ?_
  obtain ⟨T14, h14, X14, e14, W14, st14⟩ := putF X13 hx hZ hown (host := "") (Or.inl (wi hw 21 rfl)) Via.refl e13 F_a1_failedInRow E_a1 (Or.inl (wi hw 22 rfl)) (wi hw 1 rfl) (ty := .int) (by decide) rfl rfl (g := (mkF m 7 #[.val (.ref a1), .unset] [(.int (fir + (1 : Int32))), (.ref a1)])) rfl rfl (hb hby d55_7)
  have F14 := F_a1_failedInRow.same W14
  have f15 := E_a1.wr W14
  have f16 := F_a1_maxWait.other W14 (Or.inr (slot_ne (Or.inr (wi hw 15 rfl)) (Or.inl (wi hw 22 rfl)) (by decide) (t := .int) (t' := .int) (by decide) (by decide)))
  have f17 := F_a1_endedInRow.other W14 (Or.inr (slot_ne (Or.inl (wi hw 33 rfl)) (Or.inl (wi hw 22 rfl)) (by decide) (t := .int) (t' := .int) (by decide) (by decide)))
  have f18 := F_a1_endedWait.other W14 (Or.inr (slot_ne (Or.inl (wi hw 35 rfl)) (Or.inl (wi hw 22 rfl)) (by decide) (t := .int) (t' := .int) (by decide) (by decide)))
  have f19 := F_a1_wait.other W14 (Or.inr (slot_ne (Or.inl (wi hw 42 rfl)) (Or.inl (wi hw 22 rfl)) (by decide) (t := .int) (t' := .int) (by decide) (by decide)))
  have f20 := F_a1_left.other W14 (Or.inr (slot_ne (Or.inl (wi hw 45 rfl)) (Or.inl (wi hw 22 rfl)) (by decide) (t := .int) (t' := .int) (by decide) (by decide)))
  have N14 := Fr.snoc X14 N0 g_a1
  have z21 := Nat.le_trans Z0 (Keep.of_wr W14).1
  have K22 := K0.wr W14 (Or.inl (List.mem_of_getElem? (i := 0) rfl))
  refine Rch.go (U' := T14.setTop (mkF m 10 #[.val (.ref a1), .unset] [])) st14 ?_
  refine Rch.go (U' := T14.setTop (mkF m 11 #[.val (.ref a1), .unset] [(.int (0 : Int32))])) (fun _ k => XS.iconst X14.here hx rfl (hb hby d55_10) k) ?_
  refine Rch.go (U' := T14.setTop (mkF m 12 #[.val (.ref a1), .val (.int (0 : Int32))] [])) (fun _ k => XS.istoreN X14.here hx rfl (hb hby d55_11) rfl (l' := #[.val (.ref a1), .val (.int (0 : Int32))]) rfl k) ?_
  refine Rch.go (U' := T14.setTop (mkF m 13 #[.val (.ref a1), .val (.int (0 : Int32))] [(.ref a1)])) (fun _ k => XS.aloadN X14.here hx rfl (hb hby d55_12) rfl rfl k) ?_
  obtain ⟨T23, X23, e23, st23⟩ := getF X14 hx hZ hown (host := "") (Or.inl (wi hw 44 rfl)) Via.refl e14 f20 (g := (mkF m 13 #[.val (.ref a1), .val (.int (0 : Int32))] [(.ref a1)])) rfl rfl (hb hby d55_13)
  refine Rch.go (U' := T23.setTop (mkF m 16 #[.val (.ref a1), .val (.int (0 : Int32))] [(.int lf)])) st23 ?_
  by_cases br24 : lf = (0 : Int32)
  ·
    refine Rch.go (U' := T23.setTop (mkF m 19 #[.val (.ref a1), .val (.int (0 : Int32))] [])) (fun _ k => XS.ifNo X23.here hx rfl (hb hby d55_16) rfl (XT.i0_ne_f br24) k) ?_
    refine Rch.go (U' := T23.setTop (mkF m 20 #[.val (.ref a1), .val (.int (0 : Int32))] [(.ref a1)])) (fun _ k => XS.aloadN X23.here hx rfl (hb hby d55_19) rfl rfl k) ?_
    refine Rch.go (U' := T23.setTop (mkF m 21 #[.val (.ref a1), .val (.int (0 : Int32))] [(.int (2 : Int32)), (.ref a1)])) (fun _ k => XS.iconst X23.here hx rfl (hb hby d55_20) k) ?_
    refine Rch.go (U' := T23.setTop (mkF m 22 #[.val (.ref a1), .val (.int (0 : Int32))] [(.ref a1), (.int (2 : Int32)), (.ref a1)])) (fun _ k => XS.aloadN X23.here hx rfl (hb hby d55_21) rfl rfl k) ?_
    obtain ⟨T25, X25, e25, st25⟩ := getF X23 hx hZ hown (host := "") (Or.inl (wi hw 41 rfl)) Via.refl e23 f19 (g := (mkF m 22 #[.val (.ref a1), .val (.int (0 : Int32))] [(.ref a1), (.int (2 : Int32)), (.ref a1)])) rfl rfl (hb hby d55_22)
    refine Rch.go (U' := T25.setTop (mkF m 25 #[.val (.ref a1), .val (.int (0 : Int32))] [(.int wt), (.int (2 : Int32)), (.ref a1)])) st25 ?_
    refine Rch.go (U' := T25.setTop (mkF m 26 #[.val (.ref a1), .val (.int (0 : Int32))] [(.int ((2 : Int32) * wt)), (.ref a1)])) (fun _ k => XS.imul X25.here hx rfl (hb hby d55_25) rfl k) ?_
    refine Rch.go (U' := T25.setTop (mkF m 27 #[.val (.ref a1), .val (.int (0 : Int32))] [(.int (1 : Int32)), (.int ((2 : Int32) * wt)), (.ref a1)])) (fun _ k => XS.iconst X25.here hx rfl (hb hby d55_26) k) ?_
    obtain ⟨_, _, ⟨T26, L26, k26, n26⟩, -, X26, ⟨Lc26, hQ26, l26, y26, z26⟩, st26⟩ := Jvm.LawKit.callS X25 hx (y := (⟨"java/lang/Math", "max", "(II)I"⟩ : MethodName)) hown (mvT hZ (wi hw 43 rfl)) (mvT hZ (wi hw 5 rfl)) (mvT hZ (wi hw 6 rfl)) (mvT hZ (wi hw 7 rfl)) (by decide) (backOf (W := 1) (rmMax l Z a0 hw [] ((2 : Int32) * wt) (1 : Int32) h14 n0 z21 ) hZ (wi hw 7 rfl) (wi hw 6 rfl) (by decide) (by decide)) (g := (mkF m 27 #[.val (.ref a1), .val (.int (0 : Int32))] [(.int (1 : Int32)), (.int ((2 : Int32) * wt)), (.ref a1)])) rfl (by rw [hml]; rfl) (argsL := [(.int ((2 : Int32) * wt)), (.int (1 : Int32))]) (rest := [(.ref a1)]) (lenOf pd_5 rfl) rfl (by show 2 * 0 + _ ≤ _; exact Nat.le_of_eq rfl) (hb hby d55_27) (fun _ _ => ⟨rfl, e25, (by decide : 0 + 0 ≤ _), (by decide : 0 + 0 ≤ _)⟩)
    dsimp only [Pt.U, Pt.locs, Pt.cells, Pt.slots] at X26 l26 y26 z26 st26 hQ26
    subst l26 y26 z26
    obtain ⟨rfl, N26q, e26⟩ := hQ26
    have N26 := Fr.app N14 N26q
    refine Rch.go (U' := T26.setTop (mkF m 30 #[.val (.ref a1), .val (.int (0 : Int32))] [(.int (own_max ((2 : Int32) * wt) (1 : Int32))), (.ref a1)])) st26 ?_
    refine Rch.go (U' := T26.setTop (mkF m 31 #[.val (.ref a1), .val (.int (0 : Int32))] [(.ref a1), (.int (own_max ((2 : Int32) * wt) (1 : Int32))), (.ref a1)])) (fun _ k => XS.aloadN X26.here hx rfl (hb hby d55_30) rfl rfl k) ?_
    obtain ⟨T27, X27, e27, st27⟩ := getF X26 hx hZ hown (host := "") (Or.inl (wi hw 14 rfl)) Via.refl e26 f16 (g := (mkF m 31 #[.val (.ref a1), .val (.int (0 : Int32))] [(.ref a1), (.int (own_max ((2 : Int32) * wt) (1 : Int32))), (.ref a1)])) rfl rfl (hb hby d55_31)
    refine Rch.go (U' := T27.setTop (mkF m 34 #[.val (.ref a1), .val (.int (0 : Int32))] [(.int mw), (.int (own_max ((2 : Int32) * wt) (1 : Int32))), (.ref a1)])) st27 ?_
    obtain ⟨_, _, ⟨T28, L28, k28, n28⟩, -, X28, ⟨Lc28, hQ28, l28, y28, z28⟩, st28⟩ := Jvm.LawKit.callS X27 hx (y := (⟨"java/lang/Math", "min", "(II)I"⟩ : MethodName)) hown (mvT hZ (wi hw 56 rfl)) (mvT hZ (wi hw 57 rfl)) (mvT hZ (wi hw 6 rfl)) (mvT hZ (wi hw 58 rfl)) (by decide) (backOf (W := 1) (rmMin l Z a0 hw [] (own_max ((2 : Int32) * wt) (1 : Int32)) mw h14 n0 z21 ) hZ (wi hw 58 rfl) (wi hw 6 rfl) (by decide) (by decide)) (g := (mkF m 34 #[.val (.ref a1), .val (.int (0 : Int32))] [(.int mw), (.int (own_max ((2 : Int32) * wt) (1 : Int32))), (.ref a1)])) rfl (by rw [hml]; rfl) (argsL := [(.int (own_max ((2 : Int32) * wt) (1 : Int32))), (.int mw)]) (rest := [(.ref a1)]) (lenOf pd_5 rfl) rfl (by show 2 * 0 + _ ≤ _; exact Nat.le_of_eq rfl) (hb hby d55_34) (fun _ _ => ⟨rfl, e27, (by decide : 0 + 0 ≤ _), (by decide : 0 + 0 ≤ _)⟩)
    dsimp only [Pt.U, Pt.locs, Pt.cells, Pt.slots] at X28 l28 y28 z28 st28 hQ28
    subst l28 y28 z28
    obtain ⟨rfl, N28q, e28⟩ := hQ28
    have N28 := Fr.app N26 N28q
    refine Rch.go (U' := T28.setTop (mkF m 37 #[.val (.ref a1), .val (.int (0 : Int32))] [(.int (own_min (own_max ((2 : Int32) * wt) (1 : Int32)) mw)), (.ref a1)])) st28 ?_
    obtain ⟨T29, h29, X29, e29, W29, st29⟩ := putF X28 hx hZ hown (host := "") (Or.inl (wi hw 41 rfl)) Via.refl e28 f19 f15 (Or.inl (wi hw 42 rfl)) (wi hw 1 rfl) (ty := .int) (by decide) rfl rfl (g := (mkF m 37 #[.val (.ref a1), .val (.int (0 : Int32))] [(.int (own_min (own_max ((2 : Int32) * wt) (1 : Int32)) mw)), (.ref a1)])) rfl rfl (hb hby d55_37)
    have F29 := f19.same W29
    have f30 := f15.wr W29
    have f31 := f16.other W29 (Or.inr (slot_ne (Or.inr (wi hw 15 rfl)) (Or.inl (wi hw 42 rfl)) (by decide) (t := .int) (t' := .int) (by decide) (by decide)))
    have f32 := F14.other W29 (Or.inr (slot_ne (Or.inl (wi hw 22 rfl)) (Or.inl (wi hw 42 rfl)) (by decide) (t := .int) (t' := .int) (by decide) (by decide)))
    have f33 := f17.other W29 (Or.inr (slot_ne (Or.inl (wi hw 33 rfl)) (Or.inl (wi hw 42 rfl)) (by decide) (t := .int) (t' := .int) (by decide) (by decide)))
    have f34 := f18.other W29 (Or.inr (slot_ne (Or.inl (wi hw 35 rfl)) (Or.inl (wi hw 42 rfl)) (by decide) (t := .int) (t' := .int) (by decide) (by decide)))
    have f35 := f20.other W29 (Or.inr (slot_ne (Or.inl (wi hw 45 rfl)) (Or.inl (wi hw 42 rfl)) (by decide) (t := .int) (t' := .int) (by decide) (by decide)))
    have N29 := Fr.snoc X29 N28 g_a1
    have z36 := Nat.le_trans z21 (Keep.of_wr W29).1
    have K37 := K22.wr W29 (Or.inl (List.mem_of_getElem? (i := 0) rfl))
    refine Rch.go (U' := T29.setTop (mkF m 40 #[.val (.ref a1), .val (.int (0 : Int32))] [])) st29 ?_
    refine Rch.go (U' := T29.setTop (mkF m 41 #[.val (.ref a1), .val (.int (0 : Int32))] [(.ref a1)])) (fun _ k => XS.aloadN X29.here hx rfl (hb hby d55_40) rfl rfl k) ?_
    refine Rch.go (U' := T29.setTop (mkF m 42 #[.val (.ref a1), .val (.int (0 : Int32))] [(.ref a1), (.ref a1)])) (fun _ k => XS.aloadN X29.here hx rfl (hb hby d55_41) rfl rfl k) ?_
    obtain ⟨T38, X38, e38, st38⟩ := getF X29 hx hZ hown (host := "") (Or.inl (wi hw 41 rfl)) Via.refl e29 F29 (g := (mkF m 42 #[.val (.ref a1), .val (.int (0 : Int32))] [(.ref a1), (.ref a1)])) rfl rfl (hb hby d55_42)
    refine Rch.go (U' := T38.setTop (mkF m 45 #[.val (.ref a1), .val (.int (0 : Int32))] [(.int (own_min (own_max ((2 : Int32) * wt) (1 : Int32)) mw)), (.ref a1)])) st38 ?_
    obtain ⟨T39, h39, X39, e39, W39, st39⟩ := putF X38 hx hZ hown (host := "") (Or.inl (wi hw 44 rfl)) Via.refl e38 f35 f30 (Or.inl (wi hw 45 rfl)) (wi hw 1 rfl) (ty := .int) (by decide) rfl rfl (g := (mkF m 45 #[.val (.ref a1), .val (.int (0 : Int32))] [(.int (own_min (own_max ((2 : Int32) * wt) (1 : Int32)) mw)), (.ref a1)])) rfl rfl (hb hby d55_45)
    have F39 := f35.same W39
    have f40 := f30.wr W39
    have f41 := f31.other W39 (Or.inr (slot_ne (Or.inr (wi hw 15 rfl)) (Or.inl (wi hw 45 rfl)) (by decide) (t := .int) (t' := .int) (by decide) (by decide)))
    have f42 := f32.other W39 (Or.inr (slot_ne (Or.inl (wi hw 22 rfl)) (Or.inl (wi hw 45 rfl)) (by decide) (t := .int) (t' := .int) (by decide) (by decide)))
    have f43 := f33.other W39 (Or.inr (slot_ne (Or.inl (wi hw 33 rfl)) (Or.inl (wi hw 45 rfl)) (by decide) (t := .int) (t' := .int) (by decide) (by decide)))
    have f44 := f34.other W39 (Or.inr (slot_ne (Or.inl (wi hw 35 rfl)) (Or.inl (wi hw 45 rfl)) (by decide) (t := .int) (t' := .int) (by decide) (by decide)))
    have f45 := F29.other W39 (Or.inr (slot_ne (Or.inl (wi hw 42 rfl)) (Or.inl (wi hw 45 rfl)) (by decide) (t := .int) (t' := .int) (by decide) (by decide)))
    have N39 := Fr.snoc X39 N29 g_a1
    have z46 := Nat.le_trans z36 (Keep.of_wr W39).1
    have K47 := K37.wr W39 (Or.inl (List.mem_of_getElem? (i := 0) rfl))
    refine Rch.go (U' := T39.setTop (mkF m 48 #[.val (.ref a1), .val (.int (0 : Int32))] [])) st39 ?_
    refine Rch.go (U' := T39.setTop (mkF m 49 #[.val (.ref a1), .val (.int (0 : Int32))] [(.ref a1)])) (fun _ k => XS.aloadN X39.here hx rfl (hb hby d55_48) rfl rfl k) ?_
    obtain ⟨T48, X48, e48, st48⟩ := getF X39 hx hZ hown (host := "") (Or.inl (wi hw 41 rfl)) Via.refl e39 f45 (g := (mkF m 49 #[.val (.ref a1), .val (.int (0 : Int32))] [(.ref a1)])) rfl rfl (hb hby d55_49)
    refine Rch.go (U' := T48.setTop (mkF m 52 #[.val (.ref a1), .val (.int (0 : Int32))] [(.int (own_min (own_max ((2 : Int32) * wt) (1 : Int32)) mw))])) st48 ?_
    refine Rch.go (U' := T48.setTop (mkF m 53 #[.val (.ref a1), .val (.int (own_min (own_max ((2 : Int32) * wt) (1 : Int32)) mw))] [])) (fun _ k => XS.istoreN X48.here hx rfl (hb hby d55_52) rfl (l' := #[.val (.ref a1), .val (.int (own_min (own_max ((2 : Int32) * wt) (1 : Int32)) mw))]) rfl k) ?_
    refine Rch.go (U' := T48.setTop (mkF m 54 #[.val (.ref a1), .val (.int (own_min (own_max ((2 : Int32) * wt) (1 : Int32)) mw))] [(.int (own_min (own_max ((2 : Int32) * wt) (1 : Int32)) mw))])) (fun _ k => XS.iloadN X48.here hx rfl (hb hby d55_53) rfl  k) ?_
    refine Rch.fin X48 hlk (v := some (.int (own_min (own_max ((2 : Int32) * wt) (1 : Int32)) mw))) (fun h => by rw [hret] at h; cases h) e48 (by decide) (by decide) (fun fs hr => retI X48 hx hret (hb hby d55_54) hr) ?_
    exact ⟨(by first | rfl | (simp only [own_fwt, own_flf, own_fret, own_next, br24, nar_1, nar_0, ↓reduceIte]; done) | (simp [own_fwt, own_flf, own_fret, own_next, br24, nar_1, nar_0, ↓reduceIte]; done)), N39, K47, (by first | exact f41 | (simp only [own_fwt, own_flf, own_fret, own_next, br24, nar_1, nar_0, ↓reduceIte]; exact f41) | (simp [own_fwt, own_flf, own_fret, own_next, br24, nar_1, nar_0, ↓reduceIte]; exact f41)), (by first | exact f42 | (simp only [own_fwt, own_flf, own_fret, own_next, br24, nar_1, nar_0, ↓reduceIte]; exact f42) | (simp [own_fwt, own_flf, own_fret, own_next, br24, nar_1, nar_0, ↓reduceIte]; exact f42)), (by first | exact f43 | (simp only [own_fwt, own_flf, own_fret, own_next, br24, nar_1, nar_0, ↓reduceIte]; exact f43) | (simp [own_fwt, own_flf, own_fret, own_next, br24, nar_1, nar_0, ↓reduceIte]; exact f43)), (by first | exact f44 | (simp only [own_fwt, own_flf, own_fret, own_next, br24, nar_1, nar_0, ↓reduceIte]; exact f44) | (simp [own_fwt, own_flf, own_fret, own_next, br24, nar_1, nar_0, ↓reduceIte]; exact f44)), (by first | exact f45 | (simp only [own_fwt, own_flf, own_fret, own_next, br24, nar_1, nar_0, ↓reduceIte]; exact f45) | (simp [own_fwt, own_flf, own_fret, own_next, br24, nar_1, nar_0, ↓reduceIte]; exact f45)), (by first | exact F39 | (simp only [own_fwt, own_flf, own_fret, own_next, br24, nar_1, nar_0, ↓reduceIte]; exact F39) | (simp [own_fwt, own_flf, own_fret, own_next, br24, nar_1, nar_0, ↓reduceIte]; exact F39))⟩
  ·
    refine Rch.go (U' := T23.setTop (mkF m 53 #[.val (.ref a1), .val (.int (0 : Int32))] [])) (fun _ k => XS.ifYes X23.here hx rfl (pc0 := 16) (pc' := 53) rfl (hb hby d55_16) rfl (XT.i0_ne_t br24) (by decide) (by decide) k) ?_
    refine Rch.go (U' := T23.setTop (mkF m 54 #[.val (.ref a1), .val (.int (0 : Int32))] [(.int (0 : Int32))])) (fun _ k => XS.iloadN X23.here hx rfl (hb hby d55_53) rfl  k) ?_
    refine Rch.fin X23 hlk (v := some (.int (0 : Int32))) (fun h => by rw [hret] at h; cases h) e23 (by decide) (by decide) (fun fs hr => retI X23 hx hret (hb hby d55_54) hr) ?_
    exact ⟨(by first | rfl | (simp only [own_fwt, own_flf, own_fret, own_next, br24, nar_1, nar_0, ↓reduceIte]; done) | (simp [own_fwt, own_flf, own_fret, own_next, br24, nar_1, nar_0, ↓reduceIte]; done)), N14, K22, (by first | exact f16 | (simp only [own_fwt, own_flf, own_fret, own_next, br24, nar_1, nar_0, ↓reduceIte]; exact f16) | (simp [own_fwt, own_flf, own_fret, own_next, br24, nar_1, nar_0, ↓reduceIte]; exact f16)), (by first | exact F14 | (simp only [own_fwt, own_flf, own_fret, own_next, br24, nar_1, nar_0, ↓reduceIte]; exact F14) | (simp [own_fwt, own_flf, own_fret, own_next, br24, nar_1, nar_0, ↓reduceIte]; exact F14)), (by first | exact f17 | (simp only [own_fwt, own_flf, own_fret, own_next, br24, nar_1, nar_0, ↓reduceIte]; exact f17) | (simp [own_fwt, own_flf, own_fret, own_next, br24, nar_1, nar_0, ↓reduceIte]; exact f17)), (by first | exact f18 | (simp only [own_fwt, own_flf, own_fret, own_next, br24, nar_1, nar_0, ↓reduceIte]; exact f18) | (simp [own_fwt, own_flf, own_fret, own_next, br24, nar_1, nar_0, ↓reduceIte]; exact f18)), (by first | exact f19 | (simp only [own_fwt, own_flf, own_fret, own_next, br24, nar_1, nar_0, ↓reduceIte]; exact f19) | (simp [own_fwt, own_flf, own_fret, own_next, br24, nar_1, nar_0, ↓reduceIte]; exact f19)), (by first | exact f20 | (simp only [own_fwt, own_flf, own_fret, own_next, br24, nar_1, nar_0, ↓reduceIte]; exact f20) | (simp [own_fwt, own_flf, own_fret, own_next, br24, nar_1, nar_0, ↓reduceIte]; exact f20))⟩
theorem d64_0 : decode prog_22_method_6_code 0 = .ok (.aload_n 0, 1) := by decide +kernel
theorem d64_1 : decode prog_22_method_6_code 1 = .ok (.getfield 16, 3) := by decide +kernel
theorem d64_4 : decode prog_22_method_6_code 4 = .ok (.ifCond .le 13, 3) := by decide +kernel
theorem d64_7 : decode prog_22_method_6_code 7 = .ok (.aload_n 0, 1) := by decide +kernel
theorem d64_8 : decode prog_22_method_6_code 8 = .ok (.dup, 1) := by decide +kernel
theorem d64_9 : decode prog_22_method_6_code 9 = .ok (.getfield 16, 3) := by decide +kernel
theorem d64_12 : decode prog_22_method_6_code 12 = .ok (.iconst 1, 1) := by decide +kernel
theorem d64_13 : decode prog_22_method_6_code 13 = .ok (.isub, 1) := by decide +kernel
theorem d64_14 : decode prog_22_method_6_code 14 = .ok (.putfield 16, 3) := by decide +kernel
theorem d64_17 : decode prog_22_method_6_code 17 = .ok (.return_, 1) := by decide +kernel
theorem ef_rmEval (m : MethodId) (a1 : Addr) : entryFrame m #[(.ref a1)] 1 = mkF m 0 #[.val (.ref a1)] [] := by first | (simp [entryFrame, mkF, argsToLocals, Value.category]; done) | rfl
def Q_rmEval (Z : State) (a1 : Addr) (mw : Int32) (fir : Int32) (eir : Int32) (ew : Int32) (wt : Int32) (lf : Int32) (h0 : Heap) (n0 : Nat) (v : Option Value) (h : Heap) (L : List Loc) : Prop := v = none ∧ Fr n0 L ∧ Keep h0 h [a1] ∧ Fld Z h a1 "com/example/ebb/ebb/StartBackoff" "maxWait" "I" (.int mw) ∧ Fld Z h a1 "com/example/ebb/ebb/StartBackoff" "failedInRow" "I" (.int fir) ∧ Fld Z h a1 "com/example/ebb/ebb/StartBackoff" "endedInRow" "I" (.int eir) ∧ Fld Z h a1 "com/example/ebb/ebb/StartBackoff" "endedWait" "I" (.int ew) ∧ Fld Z h a1 "com/example/ebb/ebb/StartBackoff" "wait" "I" (.int wt) ∧ Fld Z h a1 "com/example/ebb/ebb/StartBackoff" "left" "I" (.int (own_ev lf))
set_option maxRecDepth 65536 in
set_option maxHeartbeats 40000000 in
theorem rmEval (l : Launch) (Z : State) (a0 : Array Value) (hw : ∀ d ∈ tables_1, d.before a0 Z = true) (ws : List Jvm.Cond) (a1 : Addr) (mw : Int32) (fir : Int32) (eir : Int32) (ew : Int32) (wt : Int32) (lf : Int32) (h0 : Heap) (n0 : Nat) (Z0 : n0 ≤ h0.size) (E_a1 : Exa Z h0 a1 "com/example/ebb/ebb/StartBackoff") (F_a1_maxWait : Fld Z h0 a1 "com/example/ebb/ebb/StartBackoff" "maxWait" "I" (.int mw)) (F_a1_failedInRow : Fld Z h0 a1 "com/example/ebb/ebb/StartBackoff" "failedInRow" "I" (.int fir)) (F_a1_endedInRow : Fld Z h0 a1 "com/example/ebb/ebb/StartBackoff" "endedInRow" "I" (.int eir)) (F_a1_endedWait : Fld Z h0 a1 "com/example/ebb/ebb/StartBackoff" "endedWait" "I" (.int ew)) (F_a1_wait : Fld Z h0 a1 "com/example/ebb/ebb/StartBackoff" "wait" "I" (.int wt)) (F_a1_left : Fld Z h0 a1 "com/example/ebb/ebb/StartBackoff" "left" "I" (.int lf)) (g_a1 : n0 ≤ a1) :
    MetFree l (⟨"com/example/ebb/ebb/StartBackoff", "evaluated", "()V"⟩ : MethodName) (head1 (Jvm.Cond.code (⟨"com/example/ebb/ebb/StartBackoff", "evaluated", "()V"⟩ : MethodName) prog_22_method_6_code 1 none :: ws) ({ frames := 0, cells := 0, slots := 0, locals := 0 } : Room)) (fun a U => a = #[(.ref a1)] ∧ Z.Warmed39 U.vm ∧ U.heap = h0) (fun _ _ _ _ _ => True) (fun _ U o U' => ∃ v L, o = .returned v ∧ Q_rmEval Z a1 mw fir eir ew wt lf h0 n0 v U'.heap L ∧ FrameEnd U o U' L ({ frames := 0, cells := 0, slots := 0, locals := 0 } : Room).cells ({ frames := 0, cells := 0, slots := 0, locals := 0 } : Room).slots) := by
  refine MetFree.of_bodySF (plainFor_of_name pn_com_example_ebb_ebb_StartBackoff) hisR ?_
  intro p e s m args below meth c s₁ Bd hml0 hP hK
  obtain ⟨rfl, hZ, hh⟩ := hP
  have hx := Bd.exec
  have hby := Bd.bytes
  have hml : c.maxLocals = 1 := hml0
  have hown : s.vm.findClass "com/example/ebb/ebb/StartBackoff" = some m.cls := findClass_of_methodNamed Bd.named
  have hnm := (name_of_methodNamed Bd.named Bd.method).1
  have hret := Bd.returns
  have hlk : meth.locks = false := BodyLoose.notSynchronized Bd
  have X0 : Stand p l e ({ frames := 0, cells := 0, slots := 0, locals := 0 } : Room) s m #[(.ref a1)] below meth c s₁ [] 0 0 := Stand.of_body Bd
  have e0 : s₁.heap = h0 := by rw [← hh, Bd.state]; rfl
  have N0 := Fr.nil n0
  have K0 := Keep.refl h0 [a1]
  refine Rch.body (Q := Q_rmEval Z a1 mw fir eir ew wt lf h0 n0) (U' := s₁.setTop (mkF m 0 #[.val (.ref a1)] [])) (fun t k => castTop (ef_rmEval m a1) k) ?_
  refine Rch.go (U' := s₁.setTop (mkF m 1 #[.val (.ref a1)] [(.ref a1)])) (fun _ k => XS.aloadN X0.here hx rfl (hb hby d64_0) rfl rfl k) ?_
  obtain ⟨T49, X49, e49, st49⟩ := getF X0 hx hZ hown (host := "") (Or.inl (wi hw 44 rfl)) Via.refl e0 F_a1_left (g := (mkF m 1 #[.val (.ref a1)] [(.ref a1)])) rfl rfl (hb hby d64_1)
  refine Rch.go (U' := T49.setTop (mkF m 4 #[.val (.ref a1)] [(.int lf)])) st49 ?_
  by_cases br50 : (0 : Int32) < lf
  ·
    refine Rch.go (U' := T49.setTop (mkF m 7 #[.val (.ref a1)] [])) (fun _ k => XS.ifNo X49.here hx rfl (hb hby d64_4) rfl (XT.i0_le_f br50) k) ?_
    refine Rch.go (U' := T49.setTop (mkF m 8 #[.val (.ref a1)] [(.ref a1)])) (fun _ k => XS.aloadN X49.here hx rfl (hb hby d64_7) rfl rfl k) ?_
    refine Rch.go (U' := T49.setTop (mkF m 9 #[.val (.ref a1)] [(.ref a1), (.ref a1)])) (fun _ k => XS.dup X49.here hx rfl (hb hby d64_8) rfl rfl k) ?_
    obtain ⟨T51, X51, e51, st51⟩ := getF X49 hx hZ hown (host := "") (Or.inl (wi hw 44 rfl)) Via.refl e49 F_a1_left (g := (mkF m 9 #[.val (.ref a1)] [(.ref a1), (.ref a1)])) rfl rfl (hb hby d64_9)
    refine Rch.go (U' := T51.setTop (mkF m 12 #[.val (.ref a1)] [(.int lf), (.ref a1)])) st51 ?_
    refine Rch.go (U' := T51.setTop (mkF m 13 #[.val (.ref a1)] [(.int (1 : Int32)), (.int lf), (.ref a1)])) (fun _ k => XS.iconst X51.here hx rfl (hb hby d64_12) k) ?_
    refine Rch.go (U' := T51.setTop (mkF m 14 #[.val (.ref a1)] [(.int (lf - (1 : Int32))), (.ref a1)])) (fun _ k => XS.isub X51.here hx rfl (hb hby d64_13) rfl k) ?_
    obtain ⟨T52, h52, X52, e52, W52, st52⟩ := putF X51 hx hZ hown (host := "") (Or.inl (wi hw 44 rfl)) Via.refl e51 F_a1_left E_a1 (Or.inl (wi hw 45 rfl)) (wi hw 1 rfl) (ty := .int) (by decide) rfl rfl (g := (mkF m 14 #[.val (.ref a1)] [(.int (lf - (1 : Int32))), (.ref a1)])) rfl rfl (hb hby d64_14)
    have F52 := F_a1_left.same W52
    have f53 := E_a1.wr W52
    have f54 := F_a1_maxWait.other W52 (Or.inr (slot_ne (Or.inr (wi hw 15 rfl)) (Or.inl (wi hw 45 rfl)) (by decide) (t := .int) (t' := .int) (by decide) (by decide)))
    have f55 := F_a1_failedInRow.other W52 (Or.inr (slot_ne (Or.inl (wi hw 22 rfl)) (Or.inl (wi hw 45 rfl)) (by decide) (t := .int) (t' := .int) (by decide) (by decide)))
    have f56 := F_a1_endedInRow.other W52 (Or.inr (slot_ne (Or.inl (wi hw 33 rfl)) (Or.inl (wi hw 45 rfl)) (by decide) (t := .int) (t' := .int) (by decide) (by decide)))
    have f57 := F_a1_endedWait.other W52 (Or.inr (slot_ne (Or.inl (wi hw 35 rfl)) (Or.inl (wi hw 45 rfl)) (by decide) (t := .int) (t' := .int) (by decide) (by decide)))
    have f58 := F_a1_wait.other W52 (Or.inr (slot_ne (Or.inl (wi hw 42 rfl)) (Or.inl (wi hw 45 rfl)) (by decide) (t := .int) (t' := .int) (by decide) (by decide)))
    have N52 := Fr.snoc X52 N0 g_a1
    have z59 := Nat.le_trans Z0 (Keep.of_wr W52).1
    have K60 := K0.wr W52 (Or.inl (List.mem_of_getElem? (i := 0) rfl))
    refine Rch.go (U' := T52.setTop (mkF m 17 #[.val (.ref a1)] [])) st52 ?_
    refine Rch.fin X52 hlk (v := none) (fun _ => rfl) e52 (by decide) (by decide) (fun fs hr => X52.returnOut hx hret (hb hby d64_17) hr) ?_
    exact ⟨rfl, N52, K60, (by first | exact f54 | (simp only [own_ev, br50, nar_1, nar_0, ↓reduceIte]; exact f54) | (simp [own_ev, br50, nar_1, nar_0, ↓reduceIte]; exact f54)), (by first | exact f55 | (simp only [own_ev, br50, nar_1, nar_0, ↓reduceIte]; exact f55) | (simp [own_ev, br50, nar_1, nar_0, ↓reduceIte]; exact f55)), (by first | exact f56 | (simp only [own_ev, br50, nar_1, nar_0, ↓reduceIte]; exact f56) | (simp [own_ev, br50, nar_1, nar_0, ↓reduceIte]; exact f56)), (by first | exact f57 | (simp only [own_ev, br50, nar_1, nar_0, ↓reduceIte]; exact f57) | (simp [own_ev, br50, nar_1, nar_0, ↓reduceIte]; exact f57)), (by first | exact f58 | (simp only [own_ev, br50, nar_1, nar_0, ↓reduceIte]; exact f58) | (simp [own_ev, br50, nar_1, nar_0, ↓reduceIte]; exact f58)), (by first | exact F52 | (simp only [own_ev, br50, nar_1, nar_0, ↓reduceIte]; exact F52) | (simp [own_ev, br50, nar_1, nar_0, ↓reduceIte]; exact F52))⟩
  ·
    refine Rch.go (U' := T49.setTop (mkF m 17 #[.val (.ref a1)] [])) (fun _ k => XS.ifYes X49.here hx rfl (pc0 := 4) (pc' := 17) rfl (hb hby d64_4) rfl (XT.i0_le_t br50) (by decide) (by decide) k) ?_
    refine Rch.fin X49 hlk (v := none) (fun _ => rfl) e49 (by decide) (by decide) (fun fs hr => X49.returnOut hx hret (hb hby d64_17) hr) ?_
    exact ⟨rfl, N0, K0, (by first | exact F_a1_maxWait | (simp only [own_ev, br50, nar_1, nar_0, ↓reduceIte]; exact F_a1_maxWait) | (simp [own_ev, br50, nar_1, nar_0, ↓reduceIte]; exact F_a1_maxWait)), (by first | exact F_a1_failedInRow | (simp only [own_ev, br50, nar_1, nar_0, ↓reduceIte]; exact F_a1_failedInRow) | (simp [own_ev, br50, nar_1, nar_0, ↓reduceIte]; exact F_a1_failedInRow)), (by first | exact F_a1_endedInRow | (simp only [own_ev, br50, nar_1, nar_0, ↓reduceIte]; exact F_a1_endedInRow) | (simp [own_ev, br50, nar_1, nar_0, ↓reduceIte]; exact F_a1_endedInRow)), (by first | exact F_a1_endedWait | (simp only [own_ev, br50, nar_1, nar_0, ↓reduceIte]; exact F_a1_endedWait) | (simp [own_ev, br50, nar_1, nar_0, ↓reduceIte]; exact F_a1_endedWait)), (by first | exact F_a1_wait | (simp only [own_ev, br50, nar_1, nar_0, ↓reduceIte]; exact F_a1_wait) | (simp [own_ev, br50, nar_1, nar_0, ↓reduceIte]; exact F_a1_wait)), (by first | exact F_a1_left | (simp only [own_ev, br50, nar_1, nar_0, ↓reduceIte]; exact F_a1_left) | (simp [own_ev, br50, nar_1, nar_0, ↓reduceIte]; exact F_a1_left))⟩
theorem d20_0 : decode prog_22_method_7_code 0 = .ok (.aload_n 0, 1) := by decide +kernel
theorem d20_1 : decode prog_22_method_7_code 1 = .ok (.getfield 13, 3) := by decide +kernel
theorem d20_4 : decode prog_22_method_7_code 4 = .ok (.ifCond .le 7, 3) := by decide +kernel
theorem d20_7 : decode prog_22_method_7_code 7 = .ok (.iconst 1, 1) := by decide +kernel
theorem d20_8 : decode prog_22_method_7_code 8 = .ok (.goto 4, 3) := by decide +kernel
theorem d20_11 : decode prog_22_method_7_code 11 = .ok (.iconst 0, 1) := by decide +kernel
theorem d20_12 : decode prog_22_method_7_code 12 = .ok (.ireturn, 1) := by decide +kernel
theorem ef_rmIsF (m : MethodId) (a1 : Addr) : entryFrame m #[(.ref a1)] 1 = mkF m 0 #[.val (.ref a1)] [] := by first | (simp [entryFrame, mkF, argsToLocals, Value.category]; done) | rfl
def Q_rmIsF (Z : State) (a1 : Addr) (mw : Int32) (fir : Int32) (eir : Int32) (ew : Int32) (wt : Int32) (lf : Int32) (h0 : Heap) (n0 : Nat) (v : Option Value) (h : Heap) (L : List Loc) : Prop := v = some (.int (own_pos fir)) ∧ Fr n0 L ∧ h = h0
set_option maxRecDepth 65536 in
set_option maxHeartbeats 40000000 in
theorem rmIsF (l : Launch) (Z : State) (a0 : Array Value) (hw : ∀ d ∈ tables_1, d.before a0 Z = true) (ws : List Jvm.Cond) (a1 : Addr) (mw : Int32) (fir : Int32) (eir : Int32) (ew : Int32) (wt : Int32) (lf : Int32) (h0 : Heap) (n0 : Nat) (Z0 : n0 ≤ h0.size) (E_a1 : Exa Z h0 a1 "com/example/ebb/ebb/StartBackoff") (F_a1_maxWait : Fld Z h0 a1 "com/example/ebb/ebb/StartBackoff" "maxWait" "I" (.int mw)) (F_a1_failedInRow : Fld Z h0 a1 "com/example/ebb/ebb/StartBackoff" "failedInRow" "I" (.int fir)) (F_a1_endedInRow : Fld Z h0 a1 "com/example/ebb/ebb/StartBackoff" "endedInRow" "I" (.int eir)) (F_a1_endedWait : Fld Z h0 a1 "com/example/ebb/ebb/StartBackoff" "endedWait" "I" (.int ew)) (F_a1_wait : Fld Z h0 a1 "com/example/ebb/ebb/StartBackoff" "wait" "I" (.int wt)) (F_a1_left : Fld Z h0 a1 "com/example/ebb/ebb/StartBackoff" "left" "I" (.int lf)) :
    MetFree l (⟨"com/example/ebb/ebb/StartBackoff", "isFailing", "()Z"⟩ : MethodName) (head1 (Jvm.Cond.code (⟨"com/example/ebb/ebb/StartBackoff", "isFailing", "()Z"⟩ : MethodName) prog_22_method_7_code 1 (some .boolean) :: ws) ({ frames := 0, cells := 0, slots := 0, locals := 0 } : Room)) (fun a U => a = #[(.ref a1)] ∧ Z.Warmed39 U.vm ∧ U.heap = h0) (fun _ _ _ _ _ => True) (fun _ U o U' => ∃ v L, o = .returned v ∧ Q_rmIsF Z a1 mw fir eir ew wt lf h0 n0 v U'.heap L ∧ FrameEnd U o U' L ({ frames := 0, cells := 0, slots := 0, locals := 0 } : Room).cells ({ frames := 0, cells := 0, slots := 0, locals := 0 } : Room).slots) := by
  refine MetFree.of_bodySF (plainFor_of_name pn_com_example_ebb_ebb_StartBackoff) hisR ?_
  intro p e s m args below meth c s₁ Bd hml0 hP hK
  obtain ⟨rfl, hZ, hh⟩ := hP
  have hx := Bd.exec
  have hby := Bd.bytes
  have hml : c.maxLocals = 1 := hml0
  have hown : s.vm.findClass "com/example/ebb/ebb/StartBackoff" = some m.cls := findClass_of_methodNamed Bd.named
  have hnm := (name_of_methodNamed Bd.named Bd.method).1
  have hret := Bd.returns
  have hlk : meth.locks = false := BodyLoose.notSynchronized Bd
  have X0 : Stand p l e ({ frames := 0, cells := 0, slots := 0, locals := 0 } : Room) s m #[(.ref a1)] below meth c s₁ [] 0 0 := Stand.of_body Bd
  have e0 : s₁.heap = h0 := by rw [← hh, Bd.state]; rfl
  have N0 := Fr.nil n0
  refine Rch.body (Q := Q_rmIsF Z a1 mw fir eir ew wt lf h0 n0) (U' := s₁.setTop (mkF m 0 #[.val (.ref a1)] [])) (fun t k => castTop (ef_rmIsF m a1) k) ?_
  refine Rch.go (U' := s₁.setTop (mkF m 1 #[.val (.ref a1)] [(.ref a1)])) (fun _ k => XS.aloadN X0.here hx rfl (hb hby d20_0) rfl rfl k) ?_
  obtain ⟨T61, X61, e61, st61⟩ := getF X0 hx hZ hown (host := "") (Or.inl (wi hw 21 rfl)) Via.refl e0 F_a1_failedInRow (g := (mkF m 1 #[.val (.ref a1)] [(.ref a1)])) rfl rfl (hb hby d20_1)
  refine Rch.go (U' := T61.setTop (mkF m 4 #[.val (.ref a1)] [(.int fir)])) st61 ?_
  by_cases br62 : (0 : Int32) < fir
  ·
    refine Rch.go (U' := T61.setTop (mkF m 7 #[.val (.ref a1)] [])) (fun _ k => XS.ifNo X61.here hx rfl (hb hby d20_4) rfl (XT.i0_le_f br62) k) ?_
    refine Rch.go (U' := T61.setTop (mkF m 8 #[.val (.ref a1)] [(.int (1 : Int32))])) (fun _ k => XS.iconst X61.here hx rfl (hb hby d20_7) k) ?_
    refine Rch.go (U' := T61.setTop (mkF m 12 #[.val (.ref a1)] [(.int (1 : Int32))])) (fun _ k => XS.goto X61.here hx rfl (pc0 := 8) (pc' := 12) rfl (hb hby d20_8) (by decide) (by decide) k) ?_
    refine Rch.fin X61 hlk (v := some (.int (nar .boolean (1 : Int32)))) (fun h => by rw [hret] at h; cases h) e61 (by decide) (by decide) (fun fs hr => retN X61 hx (t := .boolean) hret (by simp) (hb hby d20_12) hr) ?_
    exact ⟨(by first | rfl | (simp only [own_pos, br62, nar_1, nar_0, ↓reduceIte]; done) | (simp [own_pos, br62, nar_1, nar_0, ↓reduceIte]; done)), N0, rfl⟩
  ·
    refine Rch.go (U' := T61.setTop (mkF m 11 #[.val (.ref a1)] [])) (fun _ k => XS.ifYes X61.here hx rfl (pc0 := 4) (pc' := 11) rfl (hb hby d20_4) rfl (XT.i0_le_t br62) (by decide) (by decide) k) ?_
    refine Rch.go (U' := T61.setTop (mkF m 12 #[.val (.ref a1)] [(.int (0 : Int32))])) (fun _ k => XS.iconst X61.here hx rfl (hb hby d20_11) k) ?_
    refine Rch.fin X61 hlk (v := some (.int (nar .boolean (0 : Int32)))) (fun h => by rw [hret] at h; cases h) e61 (by decide) (by decide) (fun fs hr => retN X61 hx (t := .boolean) hret (by simp) (hb hby d20_12) hr) ?_
    exact ⟨(by first | rfl | (simp only [own_pos, br62, nar_1, nar_0, ↓reduceIte]; done) | (simp [own_pos, br62, nar_1, nar_0, ↓reduceIte]; done)), N0, rfl⟩
theorem d31_0 : decode prog_22_method_5_code 0 = .ok (.aload_n 0, 1) := by decide +kernel
theorem d31_1 : decode prog_22_method_5_code 1 = .ok (.iconst 0, 1) := by decide +kernel
theorem d31_2 : decode prog_22_method_5_code 2 = .ok (.putfield 31, 3) := by decide +kernel
theorem d31_5 : decode prog_22_method_5_code 5 = .ok (.aload_n 0, 1) := by decide +kernel
theorem d31_6 : decode prog_22_method_5_code 6 = .ok (.iconst 0, 1) := by decide +kernel
theorem d31_7 : decode prog_22_method_5_code 7 = .ok (.putfield 34, 3) := by decide +kernel
theorem d31_10 : decode prog_22_method_5_code 10 = .ok (.return_, 1) := by decide +kernel
theorem ef_rmLasted (m : MethodId) (a1 : Addr) : entryFrame m #[(.ref a1)] 1 = mkF m 0 #[.val (.ref a1)] [] := by first | (simp [entryFrame, mkF, argsToLocals, Value.category]; done) | rfl
def Q_rmLasted (Z : State) (a1 : Addr) (mw : Int32) (fir : Int32) (eir : Int32) (ew : Int32) (wt : Int32) (lf : Int32) (h0 : Heap) (n0 : Nat) (v : Option Value) (h : Heap) (L : List Loc) : Prop := v = none ∧ Fr n0 L ∧ Keep h0 h [a1] ∧ Fld Z h a1 "com/example/ebb/ebb/StartBackoff" "maxWait" "I" (.int mw) ∧ Fld Z h a1 "com/example/ebb/ebb/StartBackoff" "failedInRow" "I" (.int fir) ∧ Fld Z h a1 "com/example/ebb/ebb/StartBackoff" "endedInRow" "I" (.int (0 : Int32)) ∧ Fld Z h a1 "com/example/ebb/ebb/StartBackoff" "endedWait" "I" (.int (0 : Int32)) ∧ Fld Z h a1 "com/example/ebb/ebb/StartBackoff" "wait" "I" (.int wt) ∧ Fld Z h a1 "com/example/ebb/ebb/StartBackoff" "left" "I" (.int lf)
set_option maxRecDepth 65536 in
set_option maxHeartbeats 40000000 in
theorem rmLasted (l : Launch) (Z : State) (a0 : Array Value) (hw : ∀ d ∈ tables_1, d.before a0 Z = true) (ws : List Jvm.Cond) (a1 : Addr) (mw : Int32) (fir : Int32) (eir : Int32) (ew : Int32) (wt : Int32) (lf : Int32) (h0 : Heap) (n0 : Nat) (Z0 : n0 ≤ h0.size) (E_a1 : Exa Z h0 a1 "com/example/ebb/ebb/StartBackoff") (F_a1_maxWait : Fld Z h0 a1 "com/example/ebb/ebb/StartBackoff" "maxWait" "I" (.int mw)) (F_a1_failedInRow : Fld Z h0 a1 "com/example/ebb/ebb/StartBackoff" "failedInRow" "I" (.int fir)) (F_a1_endedInRow : Fld Z h0 a1 "com/example/ebb/ebb/StartBackoff" "endedInRow" "I" (.int eir)) (F_a1_endedWait : Fld Z h0 a1 "com/example/ebb/ebb/StartBackoff" "endedWait" "I" (.int ew)) (F_a1_wait : Fld Z h0 a1 "com/example/ebb/ebb/StartBackoff" "wait" "I" (.int wt)) (F_a1_left : Fld Z h0 a1 "com/example/ebb/ebb/StartBackoff" "left" "I" (.int lf)) (g_a1 : n0 ≤ a1) :
    MetFree l (⟨"com/example/ebb/ebb/StartBackoff", "lasted", "()V"⟩ : MethodName) (head1 (Jvm.Cond.code (⟨"com/example/ebb/ebb/StartBackoff", "lasted", "()V"⟩ : MethodName) prog_22_method_5_code 1 none :: ws) ({ frames := 0, cells := 0, slots := 0, locals := 0 } : Room)) (fun a U => a = #[(.ref a1)] ∧ Z.Warmed39 U.vm ∧ U.heap = h0) (fun _ _ _ _ _ => True) (fun _ U o U' => ∃ v L, o = .returned v ∧ Q_rmLasted Z a1 mw fir eir ew wt lf h0 n0 v U'.heap L ∧ FrameEnd U o U' L ({ frames := 0, cells := 0, slots := 0, locals := 0 } : Room).cells ({ frames := 0, cells := 0, slots := 0, locals := 0 } : Room).slots) := by
  refine MetFree.of_bodySF (plainFor_of_name pn_com_example_ebb_ebb_StartBackoff) hisR ?_
  intro p e s m args below meth c s₁ Bd hml0 hP hK
  obtain ⟨rfl, hZ, hh⟩ := hP
  have hx := Bd.exec
  have hby := Bd.bytes
  have hml : c.maxLocals = 1 := hml0
  have hown : s.vm.findClass "com/example/ebb/ebb/StartBackoff" = some m.cls := findClass_of_methodNamed Bd.named
  have hnm := (name_of_methodNamed Bd.named Bd.method).1
  have hret := Bd.returns
  have hlk : meth.locks = false := BodyLoose.notSynchronized Bd
  have X0 : Stand p l e ({ frames := 0, cells := 0, slots := 0, locals := 0 } : Room) s m #[(.ref a1)] below meth c s₁ [] 0 0 := Stand.of_body Bd
  have e0 : s₁.heap = h0 := by rw [← hh, Bd.state]; rfl
  have N0 := Fr.nil n0
  have K0 := Keep.refl h0 [a1]
  refine Rch.body (Q := Q_rmLasted Z a1 mw fir eir ew wt lf h0 n0) (U' := s₁.setTop (mkF m 0 #[.val (.ref a1)] [])) (fun t k => castTop (ef_rmLasted m a1) k) ?_
  refine Rch.go (U' := s₁.setTop (mkF m 1 #[.val (.ref a1)] [(.ref a1)])) (fun _ k => XS.aloadN X0.here hx rfl (hb hby d31_0) rfl rfl k) ?_
  refine Rch.go (U' := s₁.setTop (mkF m 2 #[.val (.ref a1)] [(.int (0 : Int32)), (.ref a1)])) (fun _ k => XS.iconst X0.here hx rfl (hb hby d31_1) k) ?_
  obtain ⟨T63, h63, X63, e63, W63, st63⟩ := putF X0 hx hZ hown (host := "") (Or.inl (wi hw 32 rfl)) Via.refl e0 F_a1_endedInRow E_a1 (Or.inl (wi hw 33 rfl)) (wi hw 1 rfl) (ty := .int) (by decide) rfl rfl (g := (mkF m 2 #[.val (.ref a1)] [(.int (0 : Int32)), (.ref a1)])) rfl rfl (hb hby d31_2)
  have F63 := F_a1_endedInRow.same W63
  have f64 := E_a1.wr W63
  have f65 := F_a1_maxWait.other W63 (Or.inr (slot_ne (Or.inr (wi hw 15 rfl)) (Or.inl (wi hw 33 rfl)) (by decide) (t := .int) (t' := .int) (by decide) (by decide)))
  have f66 := F_a1_failedInRow.other W63 (Or.inr (slot_ne (Or.inl (wi hw 22 rfl)) (Or.inl (wi hw 33 rfl)) (by decide) (t := .int) (t' := .int) (by decide) (by decide)))
  have f67 := F_a1_endedWait.other W63 (Or.inr (slot_ne (Or.inl (wi hw 35 rfl)) (Or.inl (wi hw 33 rfl)) (by decide) (t := .int) (t' := .int) (by decide) (by decide)))
  have f68 := F_a1_wait.other W63 (Or.inr (slot_ne (Or.inl (wi hw 42 rfl)) (Or.inl (wi hw 33 rfl)) (by decide) (t := .int) (t' := .int) (by decide) (by decide)))
  have f69 := F_a1_left.other W63 (Or.inr (slot_ne (Or.inl (wi hw 45 rfl)) (Or.inl (wi hw 33 rfl)) (by decide) (t := .int) (t' := .int) (by decide) (by decide)))
  have N63 := Fr.snoc X63 N0 g_a1
  have z70 := Nat.le_trans Z0 (Keep.of_wr W63).1
  have K71 := K0.wr W63 (Or.inl (List.mem_of_getElem? (i := 0) rfl))
  refine Rch.go (U' := T63.setTop (mkF m 5 #[.val (.ref a1)] [])) st63 ?_
  refine Rch.go (U' := T63.setTop (mkF m 6 #[.val (.ref a1)] [(.ref a1)])) (fun _ k => XS.aloadN X63.here hx rfl (hb hby d31_5) rfl rfl k) ?_
  refine Rch.go (U' := T63.setTop (mkF m 7 #[.val (.ref a1)] [(.int (0 : Int32)), (.ref a1)])) (fun _ k => XS.iconst X63.here hx rfl (hb hby d31_6) k) ?_
  obtain ⟨T72, h72, X72, e72, W72, st72⟩ := putF X63 hx hZ hown (host := "") (Or.inl (wi hw 34 rfl)) Via.refl e63 f67 f64 (Or.inl (wi hw 35 rfl)) (wi hw 1 rfl) (ty := .int) (by decide) rfl rfl (g := (mkF m 7 #[.val (.ref a1)] [(.int (0 : Int32)), (.ref a1)])) rfl rfl (hb hby d31_7)
  have F72 := f67.same W72
  have f73 := f64.wr W72
  have f74 := f65.other W72 (Or.inr (slot_ne (Or.inr (wi hw 15 rfl)) (Or.inl (wi hw 35 rfl)) (by decide) (t := .int) (t' := .int) (by decide) (by decide)))
  have f75 := f66.other W72 (Or.inr (slot_ne (Or.inl (wi hw 22 rfl)) (Or.inl (wi hw 35 rfl)) (by decide) (t := .int) (t' := .int) (by decide) (by decide)))
  have f76 := F63.other W72 (Or.inr (slot_ne (Or.inl (wi hw 33 rfl)) (Or.inl (wi hw 35 rfl)) (by decide) (t := .int) (t' := .int) (by decide) (by decide)))
  have f77 := f68.other W72 (Or.inr (slot_ne (Or.inl (wi hw 42 rfl)) (Or.inl (wi hw 35 rfl)) (by decide) (t := .int) (t' := .int) (by decide) (by decide)))
  have f78 := f69.other W72 (Or.inr (slot_ne (Or.inl (wi hw 45 rfl)) (Or.inl (wi hw 35 rfl)) (by decide) (t := .int) (t' := .int) (by decide) (by decide)))
  have N72 := Fr.snoc X72 N63 g_a1
  have z79 := Nat.le_trans z70 (Keep.of_wr W72).1
  have K80 := K71.wr W72 (Or.inl (List.mem_of_getElem? (i := 0) rfl))
  refine Rch.go (U' := T72.setTop (mkF m 10 #[.val (.ref a1)] [])) st72 ?_
  refine Rch.fin X72 hlk (v := none) (fun _ => rfl) e72 (by decide) (by decide) (fun fs hr => X72.returnOut hx hret (hb hby d31_10) hr) ?_
  exact ⟨rfl, N72, K80, (by first | exact f74 | (simp only [nar_1, nar_0, ↓reduceIte]; exact f74) | (simp [nar_1, nar_0, ↓reduceIte]; exact f74)), (by first | exact f75 | (simp only [nar_1, nar_0, ↓reduceIte]; exact f75) | (simp [nar_1, nar_0, ↓reduceIte]; exact f75)), (by first | exact f76 | (simp only [nar_1, nar_0, ↓reduceIte]; exact f76) | (simp [nar_1, nar_0, ↓reduceIte]; exact f76)), (by first | exact F72 | (simp only [nar_1, nar_0, ↓reduceIte]; exact F72) | (simp [nar_1, nar_0, ↓reduceIte]; exact F72)), (by first | exact f77 | (simp only [nar_1, nar_0, ↓reduceIte]; exact f77) | (simp [nar_1, nar_0, ↓reduceIte]; exact f77)), (by first | exact f78 | (simp only [nar_1, nar_0, ↓reduceIte]; exact f78) | (simp [nar_1, nar_0, ↓reduceIte]; exact f78))⟩
theorem d40_0 : decode prog_22_method_4_code 0 = .ok (.aload_n 0, 1) := by decide +kernel
theorem d40_1 : decode prog_22_method_4_code 1 = .ok (.dup, 1) := by decide +kernel
theorem d40_2 : decode prog_22_method_4_code 2 = .ok (.getfield 31, 3) := by decide +kernel
theorem d40_5 : decode prog_22_method_4_code 5 = .ok (.aload_n 0, 1) := by decide +kernel
theorem d40_6 : decode prog_22_method_4_code 6 = .ok (.getfield 13, 3) := by decide +kernel
theorem d40_9 : decode prog_22_method_4_code 9 = .ok (.iadd, 1) := by decide +kernel
theorem d40_10 : decode prog_22_method_4_code 10 = .ok (.putfield 31, 3) := by decide +kernel
theorem d40_13 : decode prog_22_method_4_code 13 = .ok (.aload_n 0, 1) := by decide +kernel
theorem d40_14 : decode prog_22_method_4_code 14 = .ok (.aload_n 0, 1) := by decide +kernel
theorem d40_15 : decode prog_22_method_4_code 15 = .ok (.getfield 34, 3) := by decide +kernel
theorem d40_18 : decode prog_22_method_4_code 18 = .ok (.aload_n 0, 1) := by decide +kernel
theorem d40_19 : decode prog_22_method_4_code 19 = .ok (.getfield 19, 3) := by decide +kernel
theorem d40_22 : decode prog_22_method_4_code 22 = .ok (.invokestatic 22, 3) := by decide +kernel
theorem d40_25 : decode prog_22_method_4_code 25 = .ok (.putfield 34, 3) := by decide +kernel
theorem d40_28 : decode prog_22_method_4_code 28 = .ok (.aload_n 0, 1) := by decide +kernel
theorem d40_29 : decode prog_22_method_4_code 29 = .ok (.iconst 0, 1) := by decide +kernel
theorem d40_30 : decode prog_22_method_4_code 30 = .ok (.putfield 13, 3) := by decide +kernel
theorem d40_33 : decode prog_22_method_4_code 33 = .ok (.aload_n 0, 1) := by decide +kernel
theorem d40_34 : decode prog_22_method_4_code 34 = .ok (.iconst 0, 1) := by decide +kernel
theorem d40_35 : decode prog_22_method_4_code 35 = .ok (.putfield 19, 3) := by decide +kernel
theorem d40_38 : decode prog_22_method_4_code 38 = .ok (.aload_n 0, 1) := by decide +kernel
theorem d40_39 : decode prog_22_method_4_code 39 = .ok (.iconst 0, 1) := by decide +kernel
theorem d40_40 : decode prog_22_method_4_code 40 = .ok (.putfield 16, 3) := by decide +kernel
theorem d40_43 : decode prog_22_method_4_code 43 = .ok (.return_, 1) := by decide +kernel
theorem ef_rmReady (m : MethodId) (a1 : Addr) : entryFrame m #[(.ref a1)] 1 = mkF m 0 #[.val (.ref a1)] [] := by first | (simp [entryFrame, mkF, argsToLocals, Value.category]; done) | rfl
def Q_rmReady (Z : State) (a1 : Addr) (mw : Int32) (fir : Int32) (eir : Int32) (ew : Int32) (wt : Int32) (lf : Int32) (h0 : Heap) (n0 : Nat) (v : Option Value) (h : Heap) (L : List Loc) : Prop := v = none ∧ Fr n0 L ∧ Keep h0 h [a1] ∧ Fld Z h a1 "com/example/ebb/ebb/StartBackoff" "maxWait" "I" (.int mw) ∧ Fld Z h a1 "com/example/ebb/ebb/StartBackoff" "failedInRow" "I" (.int (0 : Int32)) ∧ Fld Z h a1 "com/example/ebb/ebb/StartBackoff" "endedInRow" "I" (.int (eir + fir)) ∧ Fld Z h a1 "com/example/ebb/ebb/StartBackoff" "endedWait" "I" (.int (own_max ew wt)) ∧ Fld Z h a1 "com/example/ebb/ebb/StartBackoff" "wait" "I" (.int (0 : Int32)) ∧ Fld Z h a1 "com/example/ebb/ebb/StartBackoff" "left" "I" (.int (0 : Int32))
set_option maxRecDepth 65536 in
set_option maxHeartbeats 40000000 in
theorem rmReady (l : Launch) (Z : State) (a0 : Array Value) (hw : ∀ d ∈ tables_1, d.before a0 Z = true) (ws : List Jvm.Cond) (a1 : Addr) (mw : Int32) (fir : Int32) (eir : Int32) (ew : Int32) (wt : Int32) (lf : Int32) (h0 : Heap) (n0 : Nat) (Z0 : n0 ≤ h0.size) (E_a1 : Exa Z h0 a1 "com/example/ebb/ebb/StartBackoff") (F_a1_maxWait : Fld Z h0 a1 "com/example/ebb/ebb/StartBackoff" "maxWait" "I" (.int mw)) (F_a1_failedInRow : Fld Z h0 a1 "com/example/ebb/ebb/StartBackoff" "failedInRow" "I" (.int fir)) (F_a1_endedInRow : Fld Z h0 a1 "com/example/ebb/ebb/StartBackoff" "endedInRow" "I" (.int eir)) (F_a1_endedWait : Fld Z h0 a1 "com/example/ebb/ebb/StartBackoff" "endedWait" "I" (.int ew)) (F_a1_wait : Fld Z h0 a1 "com/example/ebb/ebb/StartBackoff" "wait" "I" (.int wt)) (F_a1_left : Fld Z h0 a1 "com/example/ebb/ebb/StartBackoff" "left" "I" (.int lf)) (g_a1 : n0 ≤ a1) :
    MetFree l (⟨"com/example/ebb/ebb/StartBackoff", "ready", "()V"⟩ : MethodName) (head1 (Jvm.Cond.code (⟨"com/example/ebb/ebb/StartBackoff", "ready", "()V"⟩ : MethodName) prog_22_method_4_code 1 none :: ws) ({ frames := 1, cells := 0, slots := 0, locals := 14 } : Room)) (fun a U => a = #[(.ref a1)] ∧ Z.Warmed39 U.vm ∧ U.heap = h0) (fun _ _ _ _ _ => True) (fun _ U o U' => ∃ v L, o = .returned v ∧ Q_rmReady Z a1 mw fir eir ew wt lf h0 n0 v U'.heap L ∧ FrameEnd U o U' L ({ frames := 1, cells := 0, slots := 0, locals := 14 } : Room).cells ({ frames := 1, cells := 0, slots := 0, locals := 14 } : Room).slots) := by
  refine MetFree.of_bodySF (plainFor_of_name pn_com_example_ebb_ebb_StartBackoff) hisR ?_
  intro p e s m args below meth c s₁ Bd hml0 hP hK
  obtain ⟨rfl, hZ, hh⟩ := hP
  have hx := Bd.exec
  have hby := Bd.bytes
  have hml : c.maxLocals = 1 := hml0
  have hown : s.vm.findClass "com/example/ebb/ebb/StartBackoff" = some m.cls := findClass_of_methodNamed Bd.named
  have hnm := (name_of_methodNamed Bd.named Bd.method).1
  have hret := Bd.returns
  have hlk : meth.locks = false := BodyLoose.notSynchronized Bd
  have X0 : Stand p l e ({ frames := 1, cells := 0, slots := 0, locals := 14 } : Room) s m #[(.ref a1)] below meth c s₁ [] 0 0 := Stand.of_body Bd
  have e0 : s₁.heap = h0 := by rw [← hh, Bd.state]; rfl
  have N0 := Fr.nil n0
  have K0 := Keep.refl h0 [a1]
  refine Rch.body (Q := Q_rmReady Z a1 mw fir eir ew wt lf h0 n0) (U' := s₁.setTop (mkF m 0 #[.val (.ref a1)] [])) (fun t k => castTop (ef_rmReady m a1) k) ?_
  refine Rch.go (U' := s₁.setTop (mkF m 1 #[.val (.ref a1)] [(.ref a1)])) (fun _ k => XS.aloadN X0.here hx rfl (hb hby d40_0) rfl rfl k) ?_
  refine Rch.go (U' := s₁.setTop (mkF m 2 #[.val (.ref a1)] [(.ref a1), (.ref a1)])) (fun _ k => XS.dup X0.here hx rfl (hb hby d40_1) rfl rfl k) ?_
  obtain ⟨T81, X81, e81, st81⟩ := getF X0 hx hZ hown (host := "") (Or.inl (wi hw 32 rfl)) Via.refl e0 F_a1_endedInRow (g := (mkF m 2 #[.val (.ref a1)] [(.ref a1), (.ref a1)])) rfl rfl (hb hby d40_2)
  refine Rch.go (U' := T81.setTop (mkF m 5 #[.val (.ref a1)] [(.int eir), (.ref a1)])) st81 ?_
  refine Rch.go (U' := T81.setTop (mkF m 6 #[.val (.ref a1)] [(.ref a1), (.int eir), (.ref a1)])) (fun _ k => XS.aloadN X81.here hx rfl (hb hby d40_5) rfl rfl k) ?_
  obtain ⟨T82, X82, e82, st82⟩ := getF X81 hx hZ hown (host := "") (Or.inl (wi hw 21 rfl)) Via.refl e81 F_a1_failedInRow (g := (mkF m 6 #[.val (.ref a1)] [(.ref a1), (.int eir), (.ref a1)])) rfl rfl (hb hby d40_6)
  refine Rch.go (U' := T82.setTop (mkF m 9 #[.val (.ref a1)] [(.int fir), (.int eir), (.ref a1)])) st82 ?_
  refine Rch.go (U' := T82.setTop (mkF m 10 #[.val (.ref a1)] [(.int (eir + fir)), (.ref a1)])) (fun _ k => XS.iadd X82.here hx rfl (hb hby d40_9) rfl k) ?_
  obtain ⟨T83, h83, X83, e83, W83, st83⟩ := putF X82 hx hZ hown (host := "") (Or.inl (wi hw 32 rfl)) Via.refl e82 F_a1_endedInRow E_a1 (Or.inl (wi hw 33 rfl)) (wi hw 1 rfl) (ty := .int) (by decide) rfl rfl (g := (mkF m 10 #[.val (.ref a1)] [(.int (eir + fir)), (.ref a1)])) rfl rfl (hb hby d40_10)
  have F83 := F_a1_endedInRow.same W83
  have f84 := E_a1.wr W83
  have f85 := F_a1_maxWait.other W83 (Or.inr (slot_ne (Or.inr (wi hw 15 rfl)) (Or.inl (wi hw 33 rfl)) (by decide) (t := .int) (t' := .int) (by decide) (by decide)))
  have f86 := F_a1_failedInRow.other W83 (Or.inr (slot_ne (Or.inl (wi hw 22 rfl)) (Or.inl (wi hw 33 rfl)) (by decide) (t := .int) (t' := .int) (by decide) (by decide)))
  have f87 := F_a1_endedWait.other W83 (Or.inr (slot_ne (Or.inl (wi hw 35 rfl)) (Or.inl (wi hw 33 rfl)) (by decide) (t := .int) (t' := .int) (by decide) (by decide)))
  have f88 := F_a1_wait.other W83 (Or.inr (slot_ne (Or.inl (wi hw 42 rfl)) (Or.inl (wi hw 33 rfl)) (by decide) (t := .int) (t' := .int) (by decide) (by decide)))
  have f89 := F_a1_left.other W83 (Or.inr (slot_ne (Or.inl (wi hw 45 rfl)) (Or.inl (wi hw 33 rfl)) (by decide) (t := .int) (t' := .int) (by decide) (by decide)))
  have N83 := Fr.snoc X83 N0 g_a1
  have z90 := Nat.le_trans Z0 (Keep.of_wr W83).1
  have K91 := K0.wr W83 (Or.inl (List.mem_of_getElem? (i := 0) rfl))
  refine Rch.go (U' := T83.setTop (mkF m 13 #[.val (.ref a1)] [])) st83 ?_
  refine Rch.go (U' := T83.setTop (mkF m 14 #[.val (.ref a1)] [(.ref a1)])) (fun _ k => XS.aloadN X83.here hx rfl (hb hby d40_13) rfl rfl k) ?_
  refine Rch.go (U' := T83.setTop (mkF m 15 #[.val (.ref a1)] [(.ref a1), (.ref a1)])) (fun _ k => XS.aloadN X83.here hx rfl (hb hby d40_14) rfl rfl k) ?_
  obtain ⟨T92, X92, e92, st92⟩ := getF X83 hx hZ hown (host := "") (Or.inl (wi hw 34 rfl)) Via.refl e83 f87 (g := (mkF m 15 #[.val (.ref a1)] [(.ref a1), (.ref a1)])) rfl rfl (hb hby d40_15)
  refine Rch.go (U' := T92.setTop (mkF m 18 #[.val (.ref a1)] [(.int ew), (.ref a1)])) st92 ?_
  refine Rch.go (U' := T92.setTop (mkF m 19 #[.val (.ref a1)] [(.ref a1), (.int ew), (.ref a1)])) (fun _ k => XS.aloadN X92.here hx rfl (hb hby d40_18) rfl rfl k) ?_
  obtain ⟨T93, X93, e93, st93⟩ := getF X92 hx hZ hown (host := "") (Or.inl (wi hw 41 rfl)) Via.refl e92 f88 (g := (mkF m 19 #[.val (.ref a1)] [(.ref a1), (.int ew), (.ref a1)])) rfl rfl (hb hby d40_19)
  refine Rch.go (U' := T93.setTop (mkF m 22 #[.val (.ref a1)] [(.int wt), (.int ew), (.ref a1)])) st93 ?_
  obtain ⟨_, _, ⟨T94, L94, k94, n94⟩, -, X94, ⟨Lc94, hQ94, l94, y94, z94⟩, st94⟩ := Jvm.LawKit.callS X93 hx (y := (⟨"java/lang/Math", "max", "(II)I"⟩ : MethodName)) hown (mvT hZ (wi hw 43 rfl)) (mvT hZ (wi hw 5 rfl)) (mvT hZ (wi hw 6 rfl)) (mvT hZ (wi hw 7 rfl)) (by decide) (backOf (W := 1) (rmMax l Z a0 hw [] ew wt h83 n0 z90 ) hZ (wi hw 7 rfl) (wi hw 6 rfl) (by decide) (by decide)) (g := (mkF m 22 #[.val (.ref a1)] [(.int wt), (.int ew), (.ref a1)])) rfl (by rw [hml]; rfl) (argsL := [(.int ew), (.int wt)]) (rest := [(.ref a1)]) (lenOf pd_5 rfl) rfl (by show 2 * 0 + _ ≤ _; exact Nat.le_of_eq rfl) (hb hby d40_22) (fun _ _ => ⟨rfl, e93, (by decide : 0 + 0 ≤ _), (by decide : 0 + 0 ≤ _)⟩)
  dsimp only [Pt.U, Pt.locs, Pt.cells, Pt.slots] at X94 l94 y94 z94 st94 hQ94
  subst l94 y94 z94
  obtain ⟨rfl, N94q, e94⟩ := hQ94
  have N94 := Fr.app N83 N94q
  refine Rch.go (U' := T94.setTop (mkF m 25 #[.val (.ref a1)] [(.int (own_max ew wt)), (.ref a1)])) st94 ?_
  obtain ⟨T95, h95, X95, e95, W95, st95⟩ := putF X94 hx hZ hown (host := "") (Or.inl (wi hw 34 rfl)) Via.refl e94 f87 f84 (Or.inl (wi hw 35 rfl)) (wi hw 1 rfl) (ty := .int) (by decide) rfl rfl (g := (mkF m 25 #[.val (.ref a1)] [(.int (own_max ew wt)), (.ref a1)])) rfl rfl (hb hby d40_25)
  have F95 := f87.same W95
  have f96 := f84.wr W95
  have f97 := f85.other W95 (Or.inr (slot_ne (Or.inr (wi hw 15 rfl)) (Or.inl (wi hw 35 rfl)) (by decide) (t := .int) (t' := .int) (by decide) (by decide)))
  have f98 := f86.other W95 (Or.inr (slot_ne (Or.inl (wi hw 22 rfl)) (Or.inl (wi hw 35 rfl)) (by decide) (t := .int) (t' := .int) (by decide) (by decide)))
  have f99 := F83.other W95 (Or.inr (slot_ne (Or.inl (wi hw 33 rfl)) (Or.inl (wi hw 35 rfl)) (by decide) (t := .int) (t' := .int) (by decide) (by decide)))
  have f100 := f88.other W95 (Or.inr (slot_ne (Or.inl (wi hw 42 rfl)) (Or.inl (wi hw 35 rfl)) (by decide) (t := .int) (t' := .int) (by decide) (by decide)))
  have f101 := f89.other W95 (Or.inr (slot_ne (Or.inl (wi hw 45 rfl)) (Or.inl (wi hw 35 rfl)) (by decide) (t := .int) (t' := .int) (by decide) (by decide)))
  have N95 := Fr.snoc X95 N94 g_a1
  have z102 := Nat.le_trans z90 (Keep.of_wr W95).1
  have K103 := K91.wr W95 (Or.inl (List.mem_of_getElem? (i := 0) rfl))
  refine Rch.go (U' := T95.setTop (mkF m 28 #[.val (.ref a1)] [])) st95 ?_
  refine Rch.go (U' := T95.setTop (mkF m 29 #[.val (.ref a1)] [(.ref a1)])) (fun _ k => XS.aloadN X95.here hx rfl (hb hby d40_28) rfl rfl k) ?_
  refine Rch.go (U' := T95.setTop (mkF m 30 #[.val (.ref a1)] [(.int (0 : Int32)), (.ref a1)])) (fun _ k => XS.iconst X95.here hx rfl (hb hby d40_29) k) ?_
  obtain ⟨T104, h104, X104, e104, W104, st104⟩ := putF X95 hx hZ hown (host := "") (Or.inl (wi hw 21 rfl)) Via.refl e95 f98 f96 (Or.inl (wi hw 22 rfl)) (wi hw 1 rfl) (ty := .int) (by decide) rfl rfl (g := (mkF m 30 #[.val (.ref a1)] [(.int (0 : Int32)), (.ref a1)])) rfl rfl (hb hby d40_30)
  have F104 := f98.same W104
  have f105 := f96.wr W104
  have f106 := f97.other W104 (Or.inr (slot_ne (Or.inr (wi hw 15 rfl)) (Or.inl (wi hw 22 rfl)) (by decide) (t := .int) (t' := .int) (by decide) (by decide)))
  have f107 := f99.other W104 (Or.inr (slot_ne (Or.inl (wi hw 33 rfl)) (Or.inl (wi hw 22 rfl)) (by decide) (t := .int) (t' := .int) (by decide) (by decide)))
  have f108 := F95.other W104 (Or.inr (slot_ne (Or.inl (wi hw 35 rfl)) (Or.inl (wi hw 22 rfl)) (by decide) (t := .int) (t' := .int) (by decide) (by decide)))
  have f109 := f100.other W104 (Or.inr (slot_ne (Or.inl (wi hw 42 rfl)) (Or.inl (wi hw 22 rfl)) (by decide) (t := .int) (t' := .int) (by decide) (by decide)))
  have f110 := f101.other W104 (Or.inr (slot_ne (Or.inl (wi hw 45 rfl)) (Or.inl (wi hw 22 rfl)) (by decide) (t := .int) (t' := .int) (by decide) (by decide)))
  have N104 := Fr.snoc X104 N95 g_a1
  have z111 := Nat.le_trans z102 (Keep.of_wr W104).1
  have K112 := K103.wr W104 (Or.inl (List.mem_of_getElem? (i := 0) rfl))
  refine Rch.go (U' := T104.setTop (mkF m 33 #[.val (.ref a1)] [])) st104 ?_
  refine Rch.go (U' := T104.setTop (mkF m 34 #[.val (.ref a1)] [(.ref a1)])) (fun _ k => XS.aloadN X104.here hx rfl (hb hby d40_33) rfl rfl k) ?_
  refine Rch.go (U' := T104.setTop (mkF m 35 #[.val (.ref a1)] [(.int (0 : Int32)), (.ref a1)])) (fun _ k => XS.iconst X104.here hx rfl (hb hby d40_34) k) ?_
  obtain ⟨T113, h113, X113, e113, W113, st113⟩ := putF X104 hx hZ hown (host := "") (Or.inl (wi hw 41 rfl)) Via.refl e104 f109 f105 (Or.inl (wi hw 42 rfl)) (wi hw 1 rfl) (ty := .int) (by decide) rfl rfl (g := (mkF m 35 #[.val (.ref a1)] [(.int (0 : Int32)), (.ref a1)])) rfl rfl (hb hby d40_35)
  have F113 := f109.same W113
  have f114 := f105.wr W113
  have f115 := f106.other W113 (Or.inr (slot_ne (Or.inr (wi hw 15 rfl)) (Or.inl (wi hw 42 rfl)) (by decide) (t := .int) (t' := .int) (by decide) (by decide)))
  have f116 := F104.other W113 (Or.inr (slot_ne (Or.inl (wi hw 22 rfl)) (Or.inl (wi hw 42 rfl)) (by decide) (t := .int) (t' := .int) (by decide) (by decide)))
  have f117 := f107.other W113 (Or.inr (slot_ne (Or.inl (wi hw 33 rfl)) (Or.inl (wi hw 42 rfl)) (by decide) (t := .int) (t' := .int) (by decide) (by decide)))
  have f118 := f108.other W113 (Or.inr (slot_ne (Or.inl (wi hw 35 rfl)) (Or.inl (wi hw 42 rfl)) (by decide) (t := .int) (t' := .int) (by decide) (by decide)))
  have f119 := f110.other W113 (Or.inr (slot_ne (Or.inl (wi hw 45 rfl)) (Or.inl (wi hw 42 rfl)) (by decide) (t := .int) (t' := .int) (by decide) (by decide)))
  have N113 := Fr.snoc X113 N104 g_a1
  have z120 := Nat.le_trans z111 (Keep.of_wr W113).1
  have K121 := K112.wr W113 (Or.inl (List.mem_of_getElem? (i := 0) rfl))
  refine Rch.go (U' := T113.setTop (mkF m 38 #[.val (.ref a1)] [])) st113 ?_
  refine Rch.go (U' := T113.setTop (mkF m 39 #[.val (.ref a1)] [(.ref a1)])) (fun _ k => XS.aloadN X113.here hx rfl (hb hby d40_38) rfl rfl k) ?_
  refine Rch.go (U' := T113.setTop (mkF m 40 #[.val (.ref a1)] [(.int (0 : Int32)), (.ref a1)])) (fun _ k => XS.iconst X113.here hx rfl (hb hby d40_39) k) ?_
  obtain ⟨T122, h122, X122, e122, W122, st122⟩ := putF X113 hx hZ hown (host := "") (Or.inl (wi hw 44 rfl)) Via.refl e113 f119 f114 (Or.inl (wi hw 45 rfl)) (wi hw 1 rfl) (ty := .int) (by decide) rfl rfl (g := (mkF m 40 #[.val (.ref a1)] [(.int (0 : Int32)), (.ref a1)])) rfl rfl (hb hby d40_40)
  have F122 := f119.same W122
  have f123 := f114.wr W122
  have f124 := f115.other W122 (Or.inr (slot_ne (Or.inr (wi hw 15 rfl)) (Or.inl (wi hw 45 rfl)) (by decide) (t := .int) (t' := .int) (by decide) (by decide)))
  have f125 := f116.other W122 (Or.inr (slot_ne (Or.inl (wi hw 22 rfl)) (Or.inl (wi hw 45 rfl)) (by decide) (t := .int) (t' := .int) (by decide) (by decide)))
  have f126 := f117.other W122 (Or.inr (slot_ne (Or.inl (wi hw 33 rfl)) (Or.inl (wi hw 45 rfl)) (by decide) (t := .int) (t' := .int) (by decide) (by decide)))
  have f127 := f118.other W122 (Or.inr (slot_ne (Or.inl (wi hw 35 rfl)) (Or.inl (wi hw 45 rfl)) (by decide) (t := .int) (t' := .int) (by decide) (by decide)))
  have f128 := F113.other W122 (Or.inr (slot_ne (Or.inl (wi hw 42 rfl)) (Or.inl (wi hw 45 rfl)) (by decide) (t := .int) (t' := .int) (by decide) (by decide)))
  have N122 := Fr.snoc X122 N113 g_a1
  have z129 := Nat.le_trans z120 (Keep.of_wr W122).1
  have K130 := K121.wr W122 (Or.inl (List.mem_of_getElem? (i := 0) rfl))
  refine Rch.go (U' := T122.setTop (mkF m 43 #[.val (.ref a1)] [])) st122 ?_
  refine Rch.fin X122 hlk (v := none) (fun _ => rfl) e122 (by decide) (by decide) (fun fs hr => X122.returnOut hx hret (hb hby d40_43) hr) ?_
  exact ⟨rfl, N122, K130, (by first | exact f124 | (simp only [nar_1, nar_0, ↓reduceIte]; exact f124) | (simp [nar_1, nar_0, ↓reduceIte]; exact f124)), (by first | exact f125 | (simp only [nar_1, nar_0, ↓reduceIte]; exact f125) | (simp [nar_1, nar_0, ↓reduceIte]; exact f125)), (by first | exact f126 | (simp only [nar_1, nar_0, ↓reduceIte]; exact f126) | (simp [nar_1, nar_0, ↓reduceIte]; exact f126)), (by first | exact f127 | (simp only [nar_1, nar_0, ↓reduceIte]; exact f127) | (simp [nar_1, nar_0, ↓reduceIte]; exact f127)), (by first | exact f128 | (simp only [nar_1, nar_0, ↓reduceIte]; exact f128) | (simp [nar_1, nar_0, ↓reduceIte]; exact f128)), (by first | exact F122 | (simp only [nar_1, nar_0, ↓reduceIte]; exact F122) | (simp [nar_1, nar_0, ↓reduceIte]; exact F122))⟩
theorem d50_0 : decode prog_22_method_3_code 0 = .ok (.aload_n 0, 1) := by decide +kernel
theorem d50_1 : decode prog_22_method_3_code 1 = .ok (.dup, 1) := by decide +kernel
theorem d50_2 : decode prog_22_method_3_code 2 = .ok (.getfield 13, 3) := by decide +kernel
theorem d50_5 : decode prog_22_method_3_code 5 = .ok (.aload_n 0, 1) := by decide +kernel
theorem d50_6 : decode prog_22_method_3_code 6 = .ok (.getfield 31, 3) := by decide +kernel
theorem d50_9 : decode prog_22_method_3_code 9 = .ok (.iadd, 1) := by decide +kernel
theorem d50_10 : decode prog_22_method_3_code 10 = .ok (.putfield 13, 3) := by decide +kernel
theorem d50_13 : decode prog_22_method_3_code 13 = .ok (.aload_n 0, 1) := by decide +kernel
theorem d50_14 : decode prog_22_method_3_code 14 = .ok (.aload_n 0, 1) := by decide +kernel
theorem d50_15 : decode prog_22_method_3_code 15 = .ok (.getfield 19, 3) := by decide +kernel
theorem d50_18 : decode prog_22_method_3_code 18 = .ok (.aload_n 0, 1) := by decide +kernel
theorem d50_19 : decode prog_22_method_3_code 19 = .ok (.getfield 34, 3) := by decide +kernel
theorem d50_22 : decode prog_22_method_3_code 22 = .ok (.invokestatic 22, 3) := by decide +kernel
theorem d50_25 : decode prog_22_method_3_code 25 = .ok (.putfield 19, 3) := by decide +kernel
theorem d50_28 : decode prog_22_method_3_code 28 = .ok (.aload_n 0, 1) := by decide +kernel
theorem d50_29 : decode prog_22_method_3_code 29 = .ok (.iconst 0, 1) := by decide +kernel
theorem d50_30 : decode prog_22_method_3_code 30 = .ok (.putfield 31, 3) := by decide +kernel
theorem d50_33 : decode prog_22_method_3_code 33 = .ok (.aload_n 0, 1) := by decide +kernel
theorem d50_34 : decode prog_22_method_3_code 34 = .ok (.iconst 0, 1) := by decide +kernel
theorem d50_35 : decode prog_22_method_3_code 35 = .ok (.putfield 34, 3) := by decide +kernel
theorem d50_38 : decode prog_22_method_3_code 38 = .ok (.aload_n 0, 1) := by decide +kernel
theorem d50_39 : decode prog_22_method_3_code 39 = .ok (.invokevirtual 37, 3) := by decide +kernel
theorem d50_42 : decode prog_22_method_3_code 42 = .ok (.ireturn, 1) := by decide +kernel
theorem pd_11 : parseMethodDescriptor "()I" = some ⟨[], some .int⟩ := by decide +kernel
theorem ef_rmFOR (m : MethodId) (a1 : Addr) : entryFrame m #[(.ref a1)] 1 = mkF m 0 #[.val (.ref a1)] [] := by first | (simp [entryFrame, mkF, argsToLocals, Value.category]; done) | rfl
def Q_rmFOR (Z : State) (a1 : Addr) (mw : Int32) (fir : Int32) (eir : Int32) (ew : Int32) (wt : Int32) (lf : Int32) (h0 : Heap) (n0 : Nat) (v : Option Value) (h : Heap) (L : List Loc) : Prop := v = some (.int (own_fret mw (own_max wt ew) lf)) ∧ Fr n0 L ∧ Keep h0 h [a1] ∧ Fld Z h a1 "com/example/ebb/ebb/StartBackoff" "maxWait" "I" (.int mw) ∧ Fld Z h a1 "com/example/ebb/ebb/StartBackoff" "failedInRow" "I" (.int ((fir + eir) + (1 : Int32))) ∧ Fld Z h a1 "com/example/ebb/ebb/StartBackoff" "endedInRow" "I" (.int (0 : Int32)) ∧ Fld Z h a1 "com/example/ebb/ebb/StartBackoff" "endedWait" "I" (.int (0 : Int32)) ∧ Fld Z h a1 "com/example/ebb/ebb/StartBackoff" "wait" "I" (.int (own_fwt mw (own_max wt ew) lf)) ∧ Fld Z h a1 "com/example/ebb/ebb/StartBackoff" "left" "I" (.int (own_flf mw (own_max wt ew) lf))
set_option maxRecDepth 65536 in
set_option maxHeartbeats 40000000 in
theorem rmFOR (l : Launch) (Z : State) (a0 : Array Value) (hw : ∀ d ∈ tables_1, d.before a0 Z = true) (ws : List Jvm.Cond) (a1 : Addr) (mw : Int32) (fir : Int32) (eir : Int32) (ew : Int32) (wt : Int32) (lf : Int32) (h0 : Heap) (n0 : Nat) (Z0 : n0 ≤ h0.size) (E_a1 : Exa Z h0 a1 "com/example/ebb/ebb/StartBackoff") (F_a1_maxWait : Fld Z h0 a1 "com/example/ebb/ebb/StartBackoff" "maxWait" "I" (.int mw)) (F_a1_failedInRow : Fld Z h0 a1 "com/example/ebb/ebb/StartBackoff" "failedInRow" "I" (.int fir)) (F_a1_endedInRow : Fld Z h0 a1 "com/example/ebb/ebb/StartBackoff" "endedInRow" "I" (.int eir)) (F_a1_endedWait : Fld Z h0 a1 "com/example/ebb/ebb/StartBackoff" "endedWait" "I" (.int ew)) (F_a1_wait : Fld Z h0 a1 "com/example/ebb/ebb/StartBackoff" "wait" "I" (.int wt)) (F_a1_left : Fld Z h0 a1 "com/example/ebb/ebb/StartBackoff" "left" "I" (.int lf)) (g_a1 : n0 ≤ a1) :
    MetFree l (⟨"com/example/ebb/ebb/StartBackoff", "failedOnceReady", "()I"⟩ : MethodName) (head1 (Jvm.Cond.code (⟨"com/example/ebb/ebb/StartBackoff", "failedOnceReady", "()I"⟩ : MethodName) prog_22_method_3_code 1 (some .int) :: ws) ({ frames := 2, cells := 0, slots := 0, locals := 27 } : Room)) (fun a U => a = #[(.ref a1)] ∧ Z.Warmed39 U.vm ∧ U.heap = h0) (fun _ _ _ _ _ => True) (fun _ U o U' => ∃ v L, o = .returned v ∧ Q_rmFOR Z a1 mw fir eir ew wt lf h0 n0 v U'.heap L ∧ FrameEnd U o U' L ({ frames := 2, cells := 0, slots := 0, locals := 27 } : Room).cells ({ frames := 2, cells := 0, slots := 0, locals := 27 } : Room).slots) := by
  refine MetFree.of_bodySF (plainFor_of_name pn_com_example_ebb_ebb_StartBackoff) hisR ?_
  intro p e s m args below meth c s₁ Bd hml0 hP hK
  obtain ⟨rfl, hZ, hh⟩ := hP
  have hx := Bd.exec
  have hby := Bd.bytes
  have hml : c.maxLocals = 1 := hml0
  have hown : s.vm.findClass "com/example/ebb/ebb/StartBackoff" = some m.cls := findClass_of_methodNamed Bd.named
  have hnm := (name_of_methodNamed Bd.named Bd.method).1
  have hret := Bd.returns
  have hlk : meth.locks = false := BodyLoose.notSynchronized Bd
  have X0 : Stand p l e ({ frames := 2, cells := 0, slots := 0, locals := 27 } : Room) s m #[(.ref a1)] below meth c s₁ [] 0 0 := Stand.of_body Bd
  have e0 : s₁.heap = h0 := by rw [← hh, Bd.state]; rfl
  have N0 := Fr.nil n0
  have K0 := Keep.refl h0 [a1]
  refine Rch.body (Q := Q_rmFOR Z a1 mw fir eir ew wt lf h0 n0) (U' := s₁.setTop (mkF m 0 #[.val (.ref a1)] [])) (fun t k => castTop (ef_rmFOR m a1) k) ?_
  refine Rch.go (U' := s₁.setTop (mkF m 1 #[.val (.ref a1)] [(.ref a1)])) (fun _ k => XS.aloadN X0.here hx rfl (hb hby d50_0) rfl rfl k) ?_
  refine Rch.go (U' := s₁.setTop (mkF m 2 #[.val (.ref a1)] [(.ref a1), (.ref a1)])) (fun _ k => XS.dup X0.here hx rfl (hb hby d50_1) rfl rfl k) ?_
  obtain ⟨T131, X131, e131, st131⟩ := getF X0 hx hZ hown (host := "") (Or.inl (wi hw 21 rfl)) Via.refl e0 F_a1_failedInRow (g := (mkF m 2 #[.val (.ref a1)] [(.ref a1), (.ref a1)])) rfl rfl (hb hby d50_2)
  refine Rch.go (U' := T131.setTop (mkF m 5 #[.val (.ref a1)] [(.int fir), (.ref a1)])) st131 ?_
  refine Rch.go (U' := T131.setTop (mkF m 6 #[.val (.ref a1)] [(.ref a1), (.int fir), (.ref a1)])) (fun _ k => XS.aloadN X131.here hx rfl (hb hby d50_5) rfl rfl k) ?_
  obtain ⟨T132, X132, e132, st132⟩ := getF X131 hx hZ hown (host := "") (Or.inl (wi hw 32 rfl)) Via.refl e131 F_a1_endedInRow (g := (mkF m 6 #[.val (.ref a1)] [(.ref a1), (.int fir), (.ref a1)])) rfl rfl (hb hby d50_6)
  refine Rch.go (U' := T132.setTop (mkF m 9 #[.val (.ref a1)] [(.int eir), (.int fir), (.ref a1)])) st132 ?_
  refine Rch.go (U' := T132.setTop (mkF m 10 #[.val (.ref a1)] [(.int (fir + eir)), (.ref a1)])) (fun _ k => XS.iadd X132.here hx rfl (hb hby d50_9) rfl k) ?_
  obtain ⟨T133, h133, X133, e133, W133, st133⟩ := putF X132 hx hZ hown (host := "") (Or.inl (wi hw 21 rfl)) Via.refl e132 F_a1_failedInRow E_a1 (Or.inl (wi hw 22 rfl)) (wi hw 1 rfl) (ty := .int) (by decide) rfl rfl (g := (mkF m 10 #[.val (.ref a1)] [(.int (fir + eir)), (.ref a1)])) rfl rfl (hb hby d50_10)
  have F133 := F_a1_failedInRow.same W133
  have f134 := E_a1.wr W133
  have f135 := F_a1_maxWait.other W133 (Or.inr (slot_ne (Or.inr (wi hw 15 rfl)) (Or.inl (wi hw 22 rfl)) (by decide) (t := .int) (t' := .int) (by decide) (by decide)))
  have f136 := F_a1_endedInRow.other W133 (Or.inr (slot_ne (Or.inl (wi hw 33 rfl)) (Or.inl (wi hw 22 rfl)) (by decide) (t := .int) (t' := .int) (by decide) (by decide)))
  have f137 := F_a1_endedWait.other W133 (Or.inr (slot_ne (Or.inl (wi hw 35 rfl)) (Or.inl (wi hw 22 rfl)) (by decide) (t := .int) (t' := .int) (by decide) (by decide)))
  have f138 := F_a1_wait.other W133 (Or.inr (slot_ne (Or.inl (wi hw 42 rfl)) (Or.inl (wi hw 22 rfl)) (by decide) (t := .int) (t' := .int) (by decide) (by decide)))
  have f139 := F_a1_left.other W133 (Or.inr (slot_ne (Or.inl (wi hw 45 rfl)) (Or.inl (wi hw 22 rfl)) (by decide) (t := .int) (t' := .int) (by decide) (by decide)))
  have N133 := Fr.snoc X133 N0 g_a1
  have z140 := Nat.le_trans Z0 (Keep.of_wr W133).1
  have K141 := K0.wr W133 (Or.inl (List.mem_of_getElem? (i := 0) rfl))
  refine Rch.go (U' := T133.setTop (mkF m 13 #[.val (.ref a1)] [])) st133 ?_
  refine Rch.go (U' := T133.setTop (mkF m 14 #[.val (.ref a1)] [(.ref a1)])) (fun _ k => XS.aloadN X133.here hx rfl (hb hby d50_13) rfl rfl k) ?_
  refine Rch.go (U' := T133.setTop (mkF m 15 #[.val (.ref a1)] [(.ref a1), (.ref a1)])) (fun _ k => XS.aloadN X133.here hx rfl (hb hby d50_14) rfl rfl k) ?_
  obtain ⟨T142, X142, e142, st142⟩ := getF X133 hx hZ hown (host := "") (Or.inl (wi hw 41 rfl)) Via.refl e133 f138 (g := (mkF m 15 #[.val (.ref a1)] [(.ref a1), (.ref a1)])) rfl rfl (hb hby d50_15)
  refine Rch.go (U' := T142.setTop (mkF m 18 #[.val (.ref a1)] [(.int wt), (.ref a1)])) st142 ?_
  refine Rch.go (U' := T142.setTop (mkF m 19 #[.val (.ref a1)] [(.ref a1), (.int wt), (.ref a1)])) (fun _ k => XS.aloadN X142.here hx rfl (hb hby d50_18) rfl rfl k) ?_
  obtain ⟨T143, X143, e143, st143⟩ := getF X142 hx hZ hown (host := "") (Or.inl (wi hw 34 rfl)) Via.refl e142 f137 (g := (mkF m 19 #[.val (.ref a1)] [(.ref a1), (.int wt), (.ref a1)])) rfl rfl (hb hby d50_19)
  refine Rch.go (U' := T143.setTop (mkF m 22 #[.val (.ref a1)] [(.int ew), (.int wt), (.ref a1)])) st143 ?_
  obtain ⟨_, _, ⟨T144, L144, k144, n144⟩, -, X144, ⟨Lc144, hQ144, l144, y144, z144⟩, st144⟩ := Jvm.LawKit.callS X143 hx (y := (⟨"java/lang/Math", "max", "(II)I"⟩ : MethodName)) hown (mvT hZ (wi hw 43 rfl)) (mvT hZ (wi hw 5 rfl)) (mvT hZ (wi hw 6 rfl)) (mvT hZ (wi hw 7 rfl)) (by decide) (backOf (W := 1) (rmMax l Z a0 hw [] wt ew h133 n0 z140 ) hZ (wi hw 7 rfl) (wi hw 6 rfl) (by decide) (by decide)) (g := (mkF m 22 #[.val (.ref a1)] [(.int ew), (.int wt), (.ref a1)])) rfl (by rw [hml]; rfl) (argsL := [(.int wt), (.int ew)]) (rest := [(.ref a1)]) (lenOf pd_5 rfl) rfl (by show 2 * 0 + _ ≤ _; exact Nat.le_of_eq rfl) (hb hby d50_22) (fun _ _ => ⟨rfl, e143, (by decide : 0 + 0 ≤ _), (by decide : 0 + 0 ≤ _)⟩)
  dsimp only [Pt.U, Pt.locs, Pt.cells, Pt.slots] at X144 l144 y144 z144 st144 hQ144
  subst l144 y144 z144
  obtain ⟨rfl, N144q, e144⟩ := hQ144
  have N144 := Fr.app N133 N144q
  refine Rch.go (U' := T144.setTop (mkF m 25 #[.val (.ref a1)] [(.int (own_max wt ew)), (.ref a1)])) st144 ?_
  obtain ⟨T145, h145, X145, e145, W145, st145⟩ := putF X144 hx hZ hown (host := "") (Or.inl (wi hw 41 rfl)) Via.refl e144 f138 f134 (Or.inl (wi hw 42 rfl)) (wi hw 1 rfl) (ty := .int) (by decide) rfl rfl (g := (mkF m 25 #[.val (.ref a1)] [(.int (own_max wt ew)), (.ref a1)])) rfl rfl (hb hby d50_25)
  have F145 := f138.same W145
  have f146 := f134.wr W145
  have f147 := f135.other W145 (Or.inr (slot_ne (Or.inr (wi hw 15 rfl)) (Or.inl (wi hw 42 rfl)) (by decide) (t := .int) (t' := .int) (by decide) (by decide)))
  have f148 := F133.other W145 (Or.inr (slot_ne (Or.inl (wi hw 22 rfl)) (Or.inl (wi hw 42 rfl)) (by decide) (t := .int) (t' := .int) (by decide) (by decide)))
  have f149 := f136.other W145 (Or.inr (slot_ne (Or.inl (wi hw 33 rfl)) (Or.inl (wi hw 42 rfl)) (by decide) (t := .int) (t' := .int) (by decide) (by decide)))
  have f150 := f137.other W145 (Or.inr (slot_ne (Or.inl (wi hw 35 rfl)) (Or.inl (wi hw 42 rfl)) (by decide) (t := .int) (t' := .int) (by decide) (by decide)))
  have f151 := f139.other W145 (Or.inr (slot_ne (Or.inl (wi hw 45 rfl)) (Or.inl (wi hw 42 rfl)) (by decide) (t := .int) (t' := .int) (by decide) (by decide)))
  have N145 := Fr.snoc X145 N144 g_a1
  have z152 := Nat.le_trans z140 (Keep.of_wr W145).1
  have K153 := K141.wr W145 (Or.inl (List.mem_of_getElem? (i := 0) rfl))
  refine Rch.go (U' := T145.setTop (mkF m 28 #[.val (.ref a1)] [])) st145 ?_
  refine Rch.go (U' := T145.setTop (mkF m 29 #[.val (.ref a1)] [(.ref a1)])) (fun _ k => XS.aloadN X145.here hx rfl (hb hby d50_28) rfl rfl k) ?_
  refine Rch.go (U' := T145.setTop (mkF m 30 #[.val (.ref a1)] [(.int (0 : Int32)), (.ref a1)])) (fun _ k => XS.iconst X145.here hx rfl (hb hby d50_29) k) ?_
  obtain ⟨T154, h154, X154, e154, W154, st154⟩ := putF X145 hx hZ hown (host := "") (Or.inl (wi hw 32 rfl)) Via.refl e145 f149 f146 (Or.inl (wi hw 33 rfl)) (wi hw 1 rfl) (ty := .int) (by decide) rfl rfl (g := (mkF m 30 #[.val (.ref a1)] [(.int (0 : Int32)), (.ref a1)])) rfl rfl (hb hby d50_30)
  have F154 := f149.same W154
  have f155 := f146.wr W154
  have f156 := f147.other W154 (Or.inr (slot_ne (Or.inr (wi hw 15 rfl)) (Or.inl (wi hw 33 rfl)) (by decide) (t := .int) (t' := .int) (by decide) (by decide)))
  have f157 := f148.other W154 (Or.inr (slot_ne (Or.inl (wi hw 22 rfl)) (Or.inl (wi hw 33 rfl)) (by decide) (t := .int) (t' := .int) (by decide) (by decide)))
  have f158 := f150.other W154 (Or.inr (slot_ne (Or.inl (wi hw 35 rfl)) (Or.inl (wi hw 33 rfl)) (by decide) (t := .int) (t' := .int) (by decide) (by decide)))
  have f159 := F145.other W154 (Or.inr (slot_ne (Or.inl (wi hw 42 rfl)) (Or.inl (wi hw 33 rfl)) (by decide) (t := .int) (t' := .int) (by decide) (by decide)))
  have f160 := f151.other W154 (Or.inr (slot_ne (Or.inl (wi hw 45 rfl)) (Or.inl (wi hw 33 rfl)) (by decide) (t := .int) (t' := .int) (by decide) (by decide)))
  have N154 := Fr.snoc X154 N145 g_a1
  have z161 := Nat.le_trans z152 (Keep.of_wr W154).1
  have K162 := K153.wr W154 (Or.inl (List.mem_of_getElem? (i := 0) rfl))
  refine Rch.go (U' := T154.setTop (mkF m 33 #[.val (.ref a1)] [])) st154 ?_
  refine Rch.go (U' := T154.setTop (mkF m 34 #[.val (.ref a1)] [(.ref a1)])) (fun _ k => XS.aloadN X154.here hx rfl (hb hby d50_33) rfl rfl k) ?_
  refine Rch.go (U' := T154.setTop (mkF m 35 #[.val (.ref a1)] [(.int (0 : Int32)), (.ref a1)])) (fun _ k => XS.iconst X154.here hx rfl (hb hby d50_34) k) ?_
  obtain ⟨T163, h163, X163, e163, W163, st163⟩ := putF X154 hx hZ hown (host := "") (Or.inl (wi hw 34 rfl)) Via.refl e154 f158 f155 (Or.inl (wi hw 35 rfl)) (wi hw 1 rfl) (ty := .int) (by decide) rfl rfl (g := (mkF m 35 #[.val (.ref a1)] [(.int (0 : Int32)), (.ref a1)])) rfl rfl (hb hby d50_35)
  have F163 := f158.same W163
  have f164 := f155.wr W163
  have f165 := f156.other W163 (Or.inr (slot_ne (Or.inr (wi hw 15 rfl)) (Or.inl (wi hw 35 rfl)) (by decide) (t := .int) (t' := .int) (by decide) (by decide)))
  have f166 := f157.other W163 (Or.inr (slot_ne (Or.inl (wi hw 22 rfl)) (Or.inl (wi hw 35 rfl)) (by decide) (t := .int) (t' := .int) (by decide) (by decide)))
  have f167 := F154.other W163 (Or.inr (slot_ne (Or.inl (wi hw 33 rfl)) (Or.inl (wi hw 35 rfl)) (by decide) (t := .int) (t' := .int) (by decide) (by decide)))
  have f168 := f159.other W163 (Or.inr (slot_ne (Or.inl (wi hw 42 rfl)) (Or.inl (wi hw 35 rfl)) (by decide) (t := .int) (t' := .int) (by decide) (by decide)))
  have f169 := f160.other W163 (Or.inr (slot_ne (Or.inl (wi hw 45 rfl)) (Or.inl (wi hw 35 rfl)) (by decide) (t := .int) (t' := .int) (by decide) (by decide)))
  have N163 := Fr.snoc X163 N154 g_a1
  have z170 := Nat.le_trans z161 (Keep.of_wr W163).1
  have K171 := K162.wr W163 (Or.inl (List.mem_of_getElem? (i := 0) rfl))
  refine Rch.go (U' := T163.setTop (mkF m 38 #[.val (.ref a1)] [])) st163 ?_
  refine Rch.go (U' := T163.setTop (mkF m 39 #[.val (.ref a1)] [(.ref a1)])) (fun _ k => XS.aloadN X163.here hx rfl (hb hby d50_38) rfl rfl k) ?_
  obtain ⟨cq172, kq172, q172a, q172b, q172c⟩ := isOf hZ e163 f164
  obtain ⟨_, _, ⟨T172, L172, k172, n172⟩, -, X172, ⟨Lc172, hQ172, l172, y172, z172⟩, st172⟩ := X163.virtualBack hx (y := (⟨"com/example/ebb/ebb/StartBackoff", "failed", "()I"⟩ : MethodName)) (z := (⟨"com/example/ebb/ebb/StartBackoff", "failed", "()I"⟩ : MethodName)) hown (mvT hZ (wi hw 51 rfl)) (mvT hZ (wi hw 52 rfl)) (notFace_of_selects (args := #[]) (mvT hZ (wi hw 54 rfl))) (mvT hZ (wi hw 54 rfl)) (mvT hZ (wi hw 53 rfl)) (by decide) (backOf (W := 0) (rmFailed l Z a0 hw [] a1 mw (fir + eir) (0 : Int32) (0 : Int32) (own_max wt ew) lf h163 n0 z170 f164 f165 f166 f167 F163 f168 f169 g_a1) hZ (wi hw 55 rfl) (wi hw 2 rfl) (by decide) (by decide)) q172a q172c (g := (mkF m 39 #[.val (.ref a1)] [(.ref a1)])) rfl (by rw [hml]; rfl) (Steps.refl _) (argsL := []) (rest := []) (lenOf pd_11 rfl) rfl (by show 2 * 0 + _ ≤ _; exact Nat.le_of_eq rfl) (hb hby d50_39) (fun _ _ => ⟨rfl, e163, (by decide : 0 + 0 ≤ _), (by decide : 0 + 0 ≤ _)⟩)
  dsimp only [Pt.U, Pt.locs, Pt.cells, Pt.slots] at X172 l172 y172 z172 st172 hQ172
  subst l172 y172 z172
  obtain ⟨rfl, N172q, K172q, F172_maxWait, F172_failedInRow, F172_endedInRow, F172_endedWait, F172_wait, F172_left⟩ := hQ172
  have N172 := Fr.app N163 N172q
  have z173 := Nat.le_trans z170 K172q.1
  have f174 := f164.keep K172q
  have K175 := K171.trans K172q (allS (Or.inl (List.mem_of_getElem? (i := 0) rfl)) all0)
  refine Rch.to (U' := T172.setTop (mkF m 42 #[.val (.ref a1)] [(.int (own_fret mw (own_max wt ew) lf))])) st172 ?_
  refine Rch.fin X172 hlk (v := some (.int (own_fret mw (own_max wt ew) lf))) (fun h => by rw [hret] at h; cases h) rfl (by decide) (by decide) (fun fs hr => retI X172 hx hret (hb hby d50_42) hr) ?_
  exact ⟨(by first | rfl | (simp only [nar_1, nar_0, ↓reduceIte]; done) | (simp [nar_1, nar_0, ↓reduceIte]; done)), N172, K175, (by first | exact F172_maxWait | (simp only [nar_1, nar_0, ↓reduceIte]; exact F172_maxWait) | (simp [nar_1, nar_0, ↓reduceIte]; exact F172_maxWait)), (by first | exact F172_failedInRow | (simp only [nar_1, nar_0, ↓reduceIte]; exact F172_failedInRow) | (simp [nar_1, nar_0, ↓reduceIte]; exact F172_failedInRow)), (by first | exact F172_endedInRow | (simp only [nar_1, nar_0, ↓reduceIte]; exact F172_endedInRow) | (simp [nar_1, nar_0, ↓reduceIte]; exact F172_endedInRow)), (by first | exact F172_endedWait | (simp only [nar_1, nar_0, ↓reduceIte]; exact F172_endedWait) | (simp [nar_1, nar_0, ↓reduceIte]; exact F172_endedWait)), (by first | exact F172_wait | (simp only [nar_1, nar_0, ↓reduceIte]; exact F172_wait) | (simp [nar_1, nar_0, ↓reduceIte]; exact F172_wait)), (by first | exact F172_left | (simp only [nar_1, nar_0, ↓reduceIte]; exact F172_left) | (simp [nar_1, nar_0, ↓reduceIte]; exact F172_left))⟩
/-- the counts stay small -/
def own_inv (N : Int) (fir eir : Int32) : Prop := 0 ≤ fir.toInt ∧ 0 ≤ eir.toInt ∧ fir.toInt + eir.toInt ≤ N
theorem own_sum {a b : Int32} {N : Int} (h : own_inv N a b) (hN : N ≤ 100) : (a + b).toInt = a.toInt + b.toInt := by
  obtain ⟨h1, h2, h3⟩ := h; exact XT.add32 ⟨by omega, by omega⟩
theorem own_one {a : Int32} (h : 0 ≤ a.toInt) (h' : a.toInt ≤ 100) : (a + 1).toInt = a.toInt + 1 := by
  rw [XT.add32 (y := 1) ⟨by show _ ≤ a.toInt + 1; omega, by show a.toInt + 1 < _; omega⟩]; rfl
theorem own_pos_of {a : Int32} (h : 0 < a.toInt) : own_pos a = 1 := by
  have : 0 < a := by rw [Int32.lt_iff_toInt_lt]; exact h
  simp only [own_pos, this, ↓reduceIte]
theorem own_inv_failed {N : Int} {a b : Int32} (h : own_inv N a b) (hN : N ≤ 100) : own_inv (N + 1) (a + 1) b ∧ own_pos (a + 1) = 1 := by
  obtain ⟨h1, h2, h3⟩ := h; have e := own_one h1 (by omega); exact ⟨⟨by omega, h2, by omega⟩, own_pos_of (by omega)⟩
theorem own_inv_for {N : Int} {a b : Int32} (h : own_inv N a b) (hN : N ≤ 100) : own_inv (N + 1) ((a + b) + 1) 0 ∧ own_pos ((a + b) + 1) = 1 := by
  have e0 := own_sum h hN; obtain ⟨h1, h2, h3⟩ := h; have e := own_one (a := a + b) (by omega) (by omega); exact ⟨⟨by omega, by decide, by rw [e, e0]; show _ + 0 ≤ _; omega⟩, own_pos_of (by omega)⟩
theorem own_inv_ready {N : Int} {a b : Int32} (h : own_inv N a b) (hN : N ≤ 100) : own_inv (N + 1) 0 (b + a) := by
  obtain ⟨h1, h2, h3⟩ := h; have e : (b + a).toInt = b.toInt + a.toInt := XT.add32 ⟨by omega, by omega⟩; exact ⟨by decide, by omega, by rw [e]; show 0 + _ ≤ _; omega⟩
theorem own_inv_last {N : Int} {a b : Int32} (h : own_inv N a b) : own_inv (N + 1) a 0 := by
  obtain ⟨h1, h2, h3⟩ := h; exact ⟨h1, by decide, by show _ + 0 ≤ _; omega⟩
theorem own_inv_more {N : Int} {a b : Int32} (h : own_inv N a b) : own_inv (N + 1) a b := by
  obtain ⟨h1, h2, h3⟩ := h; exact ⟨h1, h2, by omega⟩
theorem own_pos_01 (a : Int32) : own_pos a = 0 ∨ own_pos a = 1 := by unfold own_pos; split <;> simp
theorem d26_0 : decode method_3_code 0 = .ok (.iload_n 1, 1) := by decide +kernel
theorem d26_1 : decode method_3_code 1 = .ok (.ldc 9, 2) := by decide +kernel
theorem d26_3 : decode method_3_code 3 = .ok (.iand, 1) := by decide +kernel
theorem d26_4 : decode method_3_code 4 = .ok (.iconst 5, 1) := by decide +kernel
theorem d26_5 : decode method_3_code 5 = .ok (.irem, 1) := by decide +kernel
theorem d26_6 : decode method_3_code 6 = .ok (.istore_n 3, 1) := by decide +kernel
theorem d26_7 : decode method_3_code 7 = .ok (.iload_n 2, 1) := by decide +kernel
theorem d26_8 : decode method_3_code 8 = .ok (.istore 4, 2) := by decide +kernel
theorem d26_10 : decode method_3_code 10 = .ok (.iload_n 3, 1) := by decide +kernel
theorem d26_11 : decode method_3_code 11 = .ok (.ifCond .ne 14, 3) := by decide +kernel
theorem d26_14 : decode method_3_code 14 = .ok (.aload_n 0, 1) := by decide +kernel
theorem d26_15 : decode method_3_code 15 = .ok (.invokevirtual 29, 3) := by decide +kernel
theorem d26_18 : decode method_3_code 18 = .ok (.pop, 1) := by decide +kernel
theorem d26_19 : decode method_3_code 19 = .ok (.iconst 1, 1) := by decide +kernel
theorem d26_20 : decode method_3_code 20 = .ok (.istore 4, 2) := by decide +kernel
theorem d26_22 : decode method_3_code 22 = .ok (.goto 50, 3) := by decide +kernel
theorem d26_25 : decode method_3_code 25 = .ok (.iload_n 3, 1) := by decide +kernel
theorem d26_26 : decode method_3_code 26 = .ok (.iconst 1, 1) := by decide +kernel
theorem d26_27 : decode method_3_code 27 = .ok (.if_icmp .ne 14, 3) := by decide +kernel
theorem d26_30 : decode method_3_code 30 = .ok (.aload_n 0, 1) := by decide +kernel
theorem d26_31 : decode method_3_code 31 = .ok (.invokevirtual 33, 3) := by decide +kernel
theorem d26_34 : decode method_3_code 34 = .ok (.pop, 1) := by decide +kernel
theorem d26_35 : decode method_3_code 35 = .ok (.iconst 1, 1) := by decide +kernel
theorem d26_36 : decode method_3_code 36 = .ok (.istore 4, 2) := by decide +kernel
theorem d26_38 : decode method_3_code 38 = .ok (.goto 34, 3) := by decide +kernel
theorem d26_41 : decode method_3_code 41 = .ok (.iload_n 3, 1) := by decide +kernel
theorem d26_42 : decode method_3_code 42 = .ok (.iconst 2, 1) := by decide +kernel
theorem d26_43 : decode method_3_code 43 = .ok (.if_icmp .ne 13, 3) := by decide +kernel
theorem d26_46 : decode method_3_code 46 = .ok (.aload_n 0, 1) := by decide +kernel
theorem d26_47 : decode method_3_code 47 = .ok (.invokevirtual 36, 3) := by decide +kernel
theorem d26_50 : decode method_3_code 50 = .ok (.iconst 0, 1) := by decide +kernel
theorem d26_51 : decode method_3_code 51 = .ok (.istore 4, 2) := by decide +kernel
theorem d26_53 : decode method_3_code 53 = .ok (.goto 19, 3) := by decide +kernel
theorem d26_56 : decode method_3_code 56 = .ok (.iload_n 3, 1) := by decide +kernel
theorem d26_57 : decode method_3_code 57 = .ok (.iconst 3, 1) := by decide +kernel
theorem d26_58 : decode method_3_code 58 = .ok (.if_icmp .ne 10, 3) := by decide +kernel
theorem d26_61 : decode method_3_code 61 = .ok (.aload_n 0, 1) := by decide +kernel
theorem d26_62 : decode method_3_code 62 = .ok (.invokevirtual 39, 3) := by decide +kernel
theorem d26_65 : decode method_3_code 65 = .ok (.goto 7, 3) := by decide +kernel
theorem d26_68 : decode method_3_code 68 = .ok (.aload_n 0, 1) := by decide +kernel
theorem d26_69 : decode method_3_code 69 = .ok (.invokevirtual 42, 3) := by decide +kernel
theorem d26_72 : decode method_3_code 72 = .ok (.aload_n 0, 1) := by decide +kernel
theorem d26_73 : decode method_3_code 73 = .ok (.invokevirtual 19, 3) := by decide +kernel
theorem d26_76 : decode method_3_code 76 = .ok (.iload 4, 2) := by decide +kernel
theorem d26_78 : decode method_3_code 78 = .ok (.iconst 1, 1) := by decide +kernel
theorem d26_79 : decode method_3_code 79 = .ok (.if_icmp .ne 7, 3) := by decide +kernel
theorem d26_82 : decode method_3_code 82 = .ok (.iconst 1, 1) := by decide +kernel
theorem d26_83 : decode method_3_code 83 = .ok (.goto 4, 3) := by decide +kernel
theorem d26_86 : decode method_3_code 86 = .ok (.iconst 0, 1) := by decide +kernel
theorem d26_87 : decode method_3_code 87 = .ok (.if_icmp .ne 8, 3) := by decide +kernel
theorem d26_90 : decode method_3_code 90 = .ok (.iload 4, 2) := by decide +kernel
theorem d26_92 : decode method_3_code 92 = .ok (.goto 4, 3) := by decide +kernel
theorem d26_95 : decode method_3_code 95 = .ok (.iconst (-1), 1) := by decide +kernel
theorem d26_96 : decode method_3_code 96 = .ok (.ireturn, 1) := by decide +kernel
theorem pd_13 : parseMethodDescriptor "()Z" = some ⟨[], some .boolean⟩ := by decide +kernel
theorem pn_com_example_ebb_ebb_StartBackoffIsFailingPinLaw : plainName "com/example/ebb/ebb/StartBackoffIsFailingPinLaw" = true := by first | (simp [plainName, overriddenIn]; done) | decide +kernel
theorem ef_rmStep (m : MethodId) (a1 : Addr) (p2 : Int32) (p3 : Int32) : entryFrame m #[(.ref a1), (.int p2), (.int p3)] 5 = mkF m 0 #[.val (.ref a1), .val (.int p2), .val (.int p3), .unset, .unset] [] := by first | (simp [entryFrame, mkF, argsToLocals, Value.category]; done) | rfl
def Q_rmStep (Z : State) (a1 : Addr) (p2 : Int32) (p3 : Int32) (mw : Int32) (fir : Int32) (eir : Int32) (ew : Int32) (wt : Int32) (lf : Int32) (N : Int) (h0 : Heap) (n0 : Nat) (v : Option Value) (h : Heap) (L : List Loc) : Prop := ∃ fir' wt' lf' eir' ew' : Int32, v = some (.int (own_pos fir')) ∧ Fr n0 L ∧ Keep h0 h [a1] ∧ Fld Z h a1 "com/example/ebb/ebb/StartBackoff" "maxWait" "I" (.int mw) ∧ Fld Z h a1 "com/example/ebb/ebb/StartBackoff" "failedInRow" "I" (.int fir') ∧ Fld Z h a1 "com/example/ebb/ebb/StartBackoff" "endedInRow" "I" (.int eir') ∧ Fld Z h a1 "com/example/ebb/ebb/StartBackoff" "endedWait" "I" (.int ew') ∧ Fld Z h a1 "com/example/ebb/ebb/StartBackoff" "wait" "I" (.int wt') ∧ Fld Z h a1 "com/example/ebb/ebb/StartBackoff" "left" "I" (.int lf') ∧ own_inv (N + 1) fir' eir'
set_option maxRecDepth 65536 in
set_option maxHeartbeats 40000000 in
theorem rmStep (l : Launch) (Z : State) (a0 : Array Value) (hw : ∀ d ∈ tables_1, d.before a0 Z = true) (ws : List Jvm.Cond) (a1 : Addr) (p2 : Int32) (p3 : Int32) (mw : Int32) (fir : Int32) (eir : Int32) (ew : Int32) (wt : Int32) (lf : Int32) (N : Int) (h0 : Heap) (n0 : Nat) (Z0 : n0 ≤ h0.size) (E_a1 : Exa Z h0 a1 "com/example/ebb/ebb/StartBackoff") (F_a1_maxWait : Fld Z h0 a1 "com/example/ebb/ebb/StartBackoff" "maxWait" "I" (.int mw)) (F_a1_failedInRow : Fld Z h0 a1 "com/example/ebb/ebb/StartBackoff" "failedInRow" "I" (.int fir)) (F_a1_endedInRow : Fld Z h0 a1 "com/example/ebb/ebb/StartBackoff" "endedInRow" "I" (.int eir)) (F_a1_endedWait : Fld Z h0 a1 "com/example/ebb/ebb/StartBackoff" "endedWait" "I" (.int ew)) (F_a1_wait : Fld Z h0 a1 "com/example/ebb/ebb/StartBackoff" "wait" "I" (.int wt)) (F_a1_left : Fld Z h0 a1 "com/example/ebb/ebb/StartBackoff" "left" "I" (.int lf)) (g_a1 : n0 ≤ a1) (hf : p3 = own_pos fir) (hI : own_inv N fir eir) (hN : N ≤ 100) :
    MetFree l (⟨"com/example/ebb/ebb/StartBackoffIsFailingPinLaw", "step", "(Lcom/example/ebb/ebb/StartBackoff;II)I"⟩ : MethodName) (head1 (Jvm.Cond.code (⟨"com/example/ebb/ebb/StartBackoffIsFailingPinLaw", "step", "(Lcom/example/ebb/ebb/StartBackoff;II)I"⟩ : MethodName) method_3_code 5 (some .int) :: ws) ({ frames := 3, cells := 0, slots := 0, locals := 39 } : Room)) (fun a U => a = #[(.ref a1), (.int p2), (.int p3)] ∧ Z.Warmed39 U.vm ∧ U.heap = h0) (fun _ _ _ _ _ => True) (fun _ U o U' => ∃ v L, o = .returned v ∧ Q_rmStep Z a1 p2 p3 mw fir eir ew wt lf N h0 n0 v U'.heap L ∧ FrameEnd U o U' L ({ frames := 3, cells := 0, slots := 0, locals := 39 } : Room).cells ({ frames := 3, cells := 0, slots := 0, locals := 39 } : Room).slots) := by
  refine MetFree.of_bodySF (plainFor_of_name pn_com_example_ebb_ebb_StartBackoffIsFailingPinLaw) hisR ?_
  intro p e s m args below meth c s₁ Bd hml0 hP hK
  obtain ⟨rfl, hZ, hh⟩ := hP
  have hx := Bd.exec
  have hby := Bd.bytes
  have hml : c.maxLocals = 5 := hml0
  have hown : s.vm.findClass "com/example/ebb/ebb/StartBackoffIsFailingPinLaw" = some m.cls := findClass_of_methodNamed Bd.named
  have hnm := (name_of_methodNamed Bd.named Bd.method).1
  have hret := Bd.returns
  have hlk : meth.locks = false := BodyLoose.notSynchronized Bd
  have X0 : Stand p l e ({ frames := 3, cells := 0, slots := 0, locals := 39 } : Room) s m #[(.ref a1), (.int p2), (.int p3)] below meth c s₁ [] 0 0 := Stand.of_body Bd
  have e0 : s₁.heap = h0 := by rw [← hh, Bd.state]; rfl
  have N0 := Fr.nil n0
  have K0 := Keep.refl h0 [a1]
  refine Rch.body (Q := Q_rmStep Z a1 p2 p3 mw fir eir ew wt lf N h0 n0) (U' := s₁.setTop (mkF m 0 #[.val (.ref a1), .val (.int p2), .val (.int p3), .unset, .unset] [])) (fun t k => castTop (ef_rmStep m a1 p2 p3) k) ?_
  refine Rch.go (U' := s₁.setTop (mkF m 1 #[.val (.ref a1), .val (.int p2), .val (.int p3), .unset, .unset] [(.int p2)])) (fun _ k => XS.iloadN X0.here hx rfl (hb hby d26_0) rfl  k) ?_
  refine Rch.go (U' := s₁.setTop (mkF m 3 #[.val (.ref a1), .val (.int p2), .val (.int p3), .unset, .unset] [(.int (2147483647 : Int32)), (.int p2)])) (fun _ k => X0.ldcInt hx hown (mvT hZ (wi hw 3 rfl)) (g := (mkF m 1 #[.val (.ref a1), .val (.int p2), .val (.int p3), .unset, .unset] [(.int p2)])) rfl (hb hby d26_1) _ k) ?_
  refine Rch.go (U' := s₁.setTop (mkF m 4 #[.val (.ref a1), .val (.int p2), .val (.int p3), .unset, .unset] [(.int (p2 &&& (2147483647 : Int32)))])) (fun _ k => XS.iand X0.here hx rfl (hb hby d26_3) rfl k) ?_
  refine Rch.go (U' := s₁.setTop (mkF m 5 #[.val (.ref a1), .val (.int p2), .val (.int p3), .unset, .unset] [(.int (5 : Int32)), (.int (p2 &&& (2147483647 : Int32)))])) (fun _ k => XS.iconst X0.here hx rfl (hb hby d26_4) k) ?_
  refine Rch.go (U' := s₁.setTop (mkF m 6 #[.val (.ref a1), .val (.int p2), .val (.int p3), .unset, .unset] [(.int ((p2 &&& (2147483647 : Int32)) % (5 : Int32)))])) (fun _ k => iremM X0 hx rfl (hb hby d26_5) rfl (by decide) k) ?_
  generalize hop : ((p2 &&& (2147483647 : Int32)) % (5 : Int32)) = op
  refine Rch.go (U' := s₁.setTop (mkF m 7 #[.val (.ref a1), .val (.int p2), .val (.int p3), .val (.int op), .unset] [])) (fun _ k => XS.istoreN X0.here hx rfl (hb hby d26_6) rfl (l' := #[.val (.ref a1), .val (.int p2), .val (.int p3), .val (.int op), .unset]) rfl k) ?_
  refine Rch.go (U' := s₁.setTop (mkF m 8 #[.val (.ref a1), .val (.int p2), .val (.int p3), .val (.int op), .unset] [(.int p3)])) (fun _ k => XS.iloadN X0.here hx rfl (hb hby d26_7) rfl  k) ?_
  refine Rch.go (U' := s₁.setTop (mkF m 10 #[.val (.ref a1), .val (.int p2), .val (.int p3), .val (.int op), .val (.int p3)] [])) (fun _ k => XS.istore X0.here hx rfl (hb hby d26_8) rfl (l' := #[.val (.ref a1), .val (.int p2), .val (.int p3), .val (.int op), .val (.int p3)]) rfl k) ?_
  refine Rch.go (U' := s₁.setTop (mkF m 11 #[.val (.ref a1), .val (.int p2), .val (.int p3), .val (.int op), .val (.int p3)] [(.int op)])) (fun _ k => XS.iloadN X0.here hx rfl (hb hby d26_10) rfl  k) ?_
  by_cases br176 : op = (0 : Int32)
  ·
    refine Rch.go (U' := s₁.setTop (mkF m 14 #[.val (.ref a1), .val (.int p2), .val (.int p3), .val (.int op), .val (.int p3)] [])) (fun _ k => XS.ifNo X0.here hx rfl (hb hby d26_11) rfl (XT.i0_ne_f br176) k) ?_
    refine Rch.go (U' := s₁.setTop (mkF m 15 #[.val (.ref a1), .val (.int p2), .val (.int p3), .val (.int op), .val (.int p3)] [(.ref a1)])) (fun _ k => XS.aloadN X0.here hx rfl (hb hby d26_14) rfl rfl k) ?_
    obtain ⟨cq177, kq177, q177a, q177b, q177c⟩ := isOf hZ e0 E_a1
    obtain ⟨_, _, ⟨T177, L177, k177, n177⟩, -, X177, ⟨Lc177, hQ177, l177, y177, z177⟩, st177⟩ := X0.virtualBack hx (y := (⟨"com/example/ebb/ebb/StartBackoff", "failed", "()I"⟩ : MethodName)) (z := (⟨"com/example/ebb/ebb/StartBackoff", "failed", "()I"⟩ : MethodName)) hown (mvT hZ (wi hw 59 rfl)) (mvT hZ (wi hw 52 rfl)) (notFace_of_selects (args := #[]) (mvT hZ (wi hw 54 rfl))) (mvT hZ (wi hw 54 rfl)) (mvT hZ (wi hw 53 rfl)) (by decide) (backOf (W := 0) (rmFailed l Z a0 hw [] a1 mw fir eir ew wt lf h0 n0 Z0 E_a1 F_a1_maxWait F_a1_failedInRow F_a1_endedInRow F_a1_endedWait F_a1_wait F_a1_left g_a1) hZ (wi hw 55 rfl) (wi hw 2 rfl) (by decide) (by decide)) q177a q177c (g := (mkF m 15 #[.val (.ref a1), .val (.int p2), .val (.int p3), .val (.int op), .val (.int p3)] [(.ref a1)])) rfl (by rw [hml]; rfl) (Steps.refl _) (argsL := []) (rest := []) (lenOf pd_11 rfl) rfl (by show 2 * 0 + _ ≤ _; exact Nat.le_of_eq rfl) (hb hby d26_15) (fun _ _ => ⟨rfl, e0, (by decide : 0 + 0 ≤ _), (by decide : 0 + 0 ≤ _)⟩)
    dsimp only [Pt.U, Pt.locs, Pt.cells, Pt.slots] at X177 l177 y177 z177 st177 hQ177
    subst l177 y177 z177
    obtain ⟨rfl, N177q, K177q, F177_maxWait, F177_failedInRow, F177_endedInRow, F177_endedWait, F177_wait, F177_left⟩ := hQ177
    have N177 := Fr.app N0 N177q
    have z178 := Nat.le_trans Z0 K177q.1
    have f179 := E_a1.keep K177q
    have K180 := K0.trans K177q (allS (Or.inl (List.mem_of_getElem? (i := 0) rfl)) all0)
    refine Rch.to (U' := T177.setTop (mkF m 18 #[.val (.ref a1), .val (.int p2), .val (.int p3), .val (.int op), .val (.int p3)] [(.int (own_fret mw wt lf))])) st177 ?_
    refine Rch.go (U' := T177.setTop (mkF m 19 #[.val (.ref a1), .val (.int p2), .val (.int p3), .val (.int op), .val (.int p3)] [])) (fun _ k => XS.pop X177.here hx rfl (hb hby d26_18) rfl rfl k) ?_
    refine Rch.go (U' := T177.setTop (mkF m 20 #[.val (.ref a1), .val (.int p2), .val (.int p3), .val (.int op), .val (.int p3)] [(.int (1 : Int32))])) (fun _ k => XS.iconst X177.here hx rfl (hb hby d26_19) k) ?_
    refine Rch.go (U' := T177.setTop (mkF m 22 #[.val (.ref a1), .val (.int p2), .val (.int p3), .val (.int op), .val (.int (1 : Int32))] [])) (fun _ k => XS.istore X177.here hx rfl (hb hby d26_20) rfl (l' := #[.val (.ref a1), .val (.int p2), .val (.int p3), .val (.int op), .val (.int (1 : Int32))]) rfl k) ?_
    refine Rch.go (U' := T177.setTop (mkF m 72 #[.val (.ref a1), .val (.int p2), .val (.int p3), .val (.int op), .val (.int (1 : Int32))] [])) (fun _ k => XS.goto X177.here hx rfl (pc0 := 22) (pc' := 72) rfl (hb hby d26_22) (by decide) (by decide) k) ?_
    refine Rch.go (U' := T177.setTop (mkF m 73 #[.val (.ref a1), .val (.int p2), .val (.int p3), .val (.int op), .val (.int (1 : Int32))] [(.ref a1)])) (fun _ k => XS.aloadN X177.here hx rfl (hb hby d26_72) rfl rfl k) ?_
    obtain ⟨cq181, kq181, q181a, q181b, q181c⟩ := isOf hZ rfl f179
    obtain ⟨_, _, ⟨T181, L181, k181, n181⟩, -, X181, ⟨Lc181, hQ181, l181, y181, z181⟩, st181⟩ := X177.virtualBack hx (y := (⟨"com/example/ebb/ebb/StartBackoff", "isFailing", "()Z"⟩ : MethodName)) (z := (⟨"com/example/ebb/ebb/StartBackoff", "isFailing", "()Z"⟩ : MethodName)) hown (mvT hZ (wi hw 16 rfl)) (mvT hZ (wi hw 17 rfl)) (notFace_of_selects (args := #[]) (mvT hZ (wi hw 19 rfl))) (mvT hZ (wi hw 19 rfl)) (mvT hZ (wi hw 18 rfl)) (by decide) (backOf (W := 0) (rmIsF l Z a0 hw [] a1 mw (fir + (1 : Int32)) eir ew (own_fwt mw wt lf) (own_flf mw wt lf) T177.heap n0 z178 f179 F177_maxWait F177_failedInRow F177_endedInRow F177_endedWait F177_wait F177_left) hZ (wi hw 20 rfl) (wi hw 2 rfl) (by decide) (by decide)) q181a q181c (g := (mkF m 73 #[.val (.ref a1), .val (.int p2), .val (.int p3), .val (.int op), .val (.int (1 : Int32))] [(.ref a1)])) rfl (by rw [hml]; rfl) (Steps.refl _) (argsL := []) (rest := []) (lenOf pd_13 rfl) rfl (by show 2 * 0 + _ ≤ _; exact Nat.le_of_eq rfl) (hb hby d26_73) (fun _ _ => ⟨rfl, rfl, (by decide : 0 + 0 ≤ _), (by decide : 0 + 0 ≤ _)⟩)
    dsimp only [Pt.U, Pt.locs, Pt.cells, Pt.slots] at X181 l181 y181 z181 st181 hQ181
    subst l181 y181 z181
    obtain ⟨rfl, N181q, e181⟩ := hQ181
    have N181 := Fr.app N177 N181q
    refine Rch.to (U' := T181.setTop (mkF m 76 #[.val (.ref a1), .val (.int p2), .val (.int p3), .val (.int op), .val (.int (1 : Int32))] [(.int (own_pos (fir + (1 : Int32))))])) st181 ?_
    refine Rch.go (U' := T181.setTop (mkF m 78 #[.val (.ref a1), .val (.int p2), .val (.int p3), .val (.int op), .val (.int (1 : Int32))] [(.int (1 : Int32)), (.int (own_pos (fir + (1 : Int32))))])) (fun _ k => XS.iload X181.here hx rfl (hb hby d26_76) rfl  k) ?_
    refine Rch.go (U' := T181.setTop (mkF m 79 #[.val (.ref a1), .val (.int p2), .val (.int p3), .val (.int op), .val (.int (1 : Int32))] [(.int (1 : Int32)), (.int (1 : Int32)), (.int (own_pos (fir + (1 : Int32))))])) (fun _ k => XS.iconst X181.here hx rfl (hb hby d26_78) k) ?_
    have br182 : (1 : Int32) = (1 : Int32) := rfl
    refine Rch.go (U' := T181.setTop (mkF m 82 #[.val (.ref a1), .val (.int p2), .val (.int p3), .val (.int op), .val (.int (1 : Int32))] [(.int (own_pos (fir + (1 : Int32))))])) (fun _ k => XS.icmpNo X181.here hx rfl (hb hby d26_79) rfl (XT.ii_ne_f br182) k) ?_
    refine Rch.go (U' := T181.setTop (mkF m 83 #[.val (.ref a1), .val (.int p2), .val (.int p3), .val (.int op), .val (.int (1 : Int32))] [(.int (1 : Int32)), (.int (own_pos (fir + (1 : Int32))))])) (fun _ k => XS.iconst X181.here hx rfl (hb hby d26_82) k) ?_
    refine Rch.go (U' := T181.setTop (mkF m 87 #[.val (.ref a1), .val (.int p2), .val (.int p3), .val (.int op), .val (.int (1 : Int32))] [(.int (1 : Int32)), (.int (own_pos (fir + (1 : Int32))))])) (fun _ k => XS.goto X181.here hx rfl (pc0 := 83) (pc' := 87) rfl (hb hby d26_83) (by decide) (by decide) k) ?_
    have br183 : (own_pos (fir + (1 : Int32))) = (1 : Int32) := (own_inv_failed hI hN).2
    refine Rch.go (U' := T181.setTop (mkF m 90 #[.val (.ref a1), .val (.int p2), .val (.int p3), .val (.int op), .val (.int (1 : Int32))] [])) (fun _ k => XS.icmpNo X181.here hx rfl (hb hby d26_87) rfl (XT.ii_ne_f br183) k) ?_
    refine Rch.go (U' := T181.setTop (mkF m 92 #[.val (.ref a1), .val (.int p2), .val (.int p3), .val (.int op), .val (.int (1 : Int32))] [(.int (1 : Int32))])) (fun _ k => XS.iload X181.here hx rfl (hb hby d26_90) rfl  k) ?_
    refine Rch.go (U' := T181.setTop (mkF m 96 #[.val (.ref a1), .val (.int p2), .val (.int p3), .val (.int op), .val (.int (1 : Int32))] [(.int (1 : Int32))])) (fun _ k => XS.goto X181.here hx rfl (pc0 := 92) (pc' := 96) rfl (hb hby d26_92) (by decide) (by decide) k) ?_
    refine Rch.fin X181 hlk (v := some (.int (1 : Int32))) (fun h => by rw [hret] at h; cases h) e181 (by decide) (by decide) (fun fs hr => retI X181 hx hret (hb hby d26_96) hr) ?_
    exact ⟨(fir + (1 : Int32)), (own_fwt mw wt lf), (own_flf mw wt lf), eir, ew, (congrArg (fun z => some (Value.int z)) (own_inv_failed hI hN).2.symm), N181, K180, F177_maxWait, F177_failedInRow, F177_endedInRow, F177_endedWait, F177_wait, F177_left, (own_inv_failed hI hN).1⟩
  ·
    refine Rch.go (U' := s₁.setTop (mkF m 25 #[.val (.ref a1), .val (.int p2), .val (.int p3), .val (.int op), .val (.int p3)] [])) (fun _ k => XS.ifYes X0.here hx rfl (pc0 := 11) (pc' := 25) rfl (hb hby d26_11) rfl (XT.i0_ne_t br176) (by decide) (by decide) k) ?_
    refine Rch.go (U' := s₁.setTop (mkF m 26 #[.val (.ref a1), .val (.int p2), .val (.int p3), .val (.int op), .val (.int p3)] [(.int op)])) (fun _ k => XS.iloadN X0.here hx rfl (hb hby d26_25) rfl  k) ?_
    refine Rch.go (U' := s₁.setTop (mkF m 27 #[.val (.ref a1), .val (.int p2), .val (.int p3), .val (.int op), .val (.int p3)] [(.int (1 : Int32)), (.int op)])) (fun _ k => XS.iconst X0.here hx rfl (hb hby d26_26) k) ?_
    by_cases br184 : op = (1 : Int32)
    ·
      refine Rch.go (U' := s₁.setTop (mkF m 30 #[.val (.ref a1), .val (.int p2), .val (.int p3), .val (.int op), .val (.int p3)] [])) (fun _ k => XS.icmpNo X0.here hx rfl (hb hby d26_27) rfl (XT.ii_ne_f br184) k) ?_
      refine Rch.go (U' := s₁.setTop (mkF m 31 #[.val (.ref a1), .val (.int p2), .val (.int p3), .val (.int op), .val (.int p3)] [(.ref a1)])) (fun _ k => XS.aloadN X0.here hx rfl (hb hby d26_30) rfl rfl k) ?_
      obtain ⟨cq185, kq185, q185a, q185b, q185c⟩ := isOf hZ e0 E_a1
      obtain ⟨_, _, ⟨T185, L185, k185, n185⟩, -, X185, ⟨Lc185, hQ185, l185, y185, z185⟩, st185⟩ := X0.virtualBack hx (y := (⟨"com/example/ebb/ebb/StartBackoff", "failedOnceReady", "()I"⟩ : MethodName)) (z := (⟨"com/example/ebb/ebb/StartBackoff", "failedOnceReady", "()I"⟩ : MethodName)) hown (mvT hZ (wi hw 46 rfl)) (mvT hZ (wi hw 47 rfl)) (notFace_of_selects (args := #[]) (mvT hZ (wi hw 49 rfl))) (mvT hZ (wi hw 49 rfl)) (mvT hZ (wi hw 48 rfl)) (by decide) (backOf (W := 0) (rmFOR l Z a0 hw [] a1 mw fir eir ew wt lf h0 n0 Z0 E_a1 F_a1_maxWait F_a1_failedInRow F_a1_endedInRow F_a1_endedWait F_a1_wait F_a1_left g_a1) hZ (wi hw 50 rfl) (wi hw 2 rfl) (by decide) (by decide)) q185a q185c (g := (mkF m 31 #[.val (.ref a1), .val (.int p2), .val (.int p3), .val (.int op), .val (.int p3)] [(.ref a1)])) rfl (by rw [hml]; rfl) (Steps.refl _) (argsL := []) (rest := []) (lenOf pd_11 rfl) rfl (by show 2 * 0 + _ ≤ _; exact Nat.le_of_eq rfl) (hb hby d26_31) (fun _ _ => ⟨rfl, e0, (by decide : 0 + 0 ≤ _), (by decide : 0 + 0 ≤ _)⟩)
      dsimp only [Pt.U, Pt.locs, Pt.cells, Pt.slots] at X185 l185 y185 z185 st185 hQ185
      subst l185 y185 z185
      obtain ⟨rfl, N185q, K185q, F185_maxWait, F185_failedInRow, F185_endedInRow, F185_endedWait, F185_wait, F185_left⟩ := hQ185
      have N185 := Fr.app N0 N185q
      have z186 := Nat.le_trans Z0 K185q.1
      have f187 := E_a1.keep K185q
      have K188 := K0.trans K185q (allS (Or.inl (List.mem_of_getElem? (i := 0) rfl)) all0)
      refine Rch.to (U' := T185.setTop (mkF m 34 #[.val (.ref a1), .val (.int p2), .val (.int p3), .val (.int op), .val (.int p3)] [(.int (own_fret mw (own_max wt ew) lf))])) st185 ?_
      refine Rch.go (U' := T185.setTop (mkF m 35 #[.val (.ref a1), .val (.int p2), .val (.int p3), .val (.int op), .val (.int p3)] [])) (fun _ k => XS.pop X185.here hx rfl (hb hby d26_34) rfl rfl k) ?_
      refine Rch.go (U' := T185.setTop (mkF m 36 #[.val (.ref a1), .val (.int p2), .val (.int p3), .val (.int op), .val (.int p3)] [(.int (1 : Int32))])) (fun _ k => XS.iconst X185.here hx rfl (hb hby d26_35) k) ?_
      refine Rch.go (U' := T185.setTop (mkF m 38 #[.val (.ref a1), .val (.int p2), .val (.int p3), .val (.int op), .val (.int (1 : Int32))] [])) (fun _ k => XS.istore X185.here hx rfl (hb hby d26_36) rfl (l' := #[.val (.ref a1), .val (.int p2), .val (.int p3), .val (.int op), .val (.int (1 : Int32))]) rfl k) ?_
      refine Rch.go (U' := T185.setTop (mkF m 72 #[.val (.ref a1), .val (.int p2), .val (.int p3), .val (.int op), .val (.int (1 : Int32))] [])) (fun _ k => XS.goto X185.here hx rfl (pc0 := 38) (pc' := 72) rfl (hb hby d26_38) (by decide) (by decide) k) ?_
      refine Rch.go (U' := T185.setTop (mkF m 73 #[.val (.ref a1), .val (.int p2), .val (.int p3), .val (.int op), .val (.int (1 : Int32))] [(.ref a1)])) (fun _ k => XS.aloadN X185.here hx rfl (hb hby d26_72) rfl rfl k) ?_
      obtain ⟨cq189, kq189, q189a, q189b, q189c⟩ := isOf hZ rfl f187
      obtain ⟨_, _, ⟨T189, L189, k189, n189⟩, -, X189, ⟨Lc189, hQ189, l189, y189, z189⟩, st189⟩ := X185.virtualBack hx (y := (⟨"com/example/ebb/ebb/StartBackoff", "isFailing", "()Z"⟩ : MethodName)) (z := (⟨"com/example/ebb/ebb/StartBackoff", "isFailing", "()Z"⟩ : MethodName)) hown (mvT hZ (wi hw 16 rfl)) (mvT hZ (wi hw 17 rfl)) (notFace_of_selects (args := #[]) (mvT hZ (wi hw 19 rfl))) (mvT hZ (wi hw 19 rfl)) (mvT hZ (wi hw 18 rfl)) (by decide) (backOf (W := 0) (rmIsF l Z a0 hw [] a1 mw ((fir + eir) + (1 : Int32)) (0 : Int32) (0 : Int32) (own_fwt mw (own_max wt ew) lf) (own_flf mw (own_max wt ew) lf) T185.heap n0 z186 f187 F185_maxWait F185_failedInRow F185_endedInRow F185_endedWait F185_wait F185_left) hZ (wi hw 20 rfl) (wi hw 2 rfl) (by decide) (by decide)) q189a q189c (g := (mkF m 73 #[.val (.ref a1), .val (.int p2), .val (.int p3), .val (.int op), .val (.int (1 : Int32))] [(.ref a1)])) rfl (by rw [hml]; rfl) (Steps.refl _) (argsL := []) (rest := []) (lenOf pd_13 rfl) rfl (by show 2 * 0 + _ ≤ _; exact Nat.le_of_eq rfl) (hb hby d26_73) (fun _ _ => ⟨rfl, rfl, (by decide : 0 + 0 ≤ _), (by decide : 0 + 0 ≤ _)⟩)
      dsimp only [Pt.U, Pt.locs, Pt.cells, Pt.slots] at X189 l189 y189 z189 st189 hQ189
      subst l189 y189 z189
      obtain ⟨rfl, N189q, e189⟩ := hQ189
      have N189 := Fr.app N185 N189q
      refine Rch.to (U' := T189.setTop (mkF m 76 #[.val (.ref a1), .val (.int p2), .val (.int p3), .val (.int op), .val (.int (1 : Int32))] [(.int (own_pos ((fir + eir) + (1 : Int32))))])) st189 ?_
      refine Rch.go (U' := T189.setTop (mkF m 78 #[.val (.ref a1), .val (.int p2), .val (.int p3), .val (.int op), .val (.int (1 : Int32))] [(.int (1 : Int32)), (.int (own_pos ((fir + eir) + (1 : Int32))))])) (fun _ k => XS.iload X189.here hx rfl (hb hby d26_76) rfl  k) ?_
      refine Rch.go (U' := T189.setTop (mkF m 79 #[.val (.ref a1), .val (.int p2), .val (.int p3), .val (.int op), .val (.int (1 : Int32))] [(.int (1 : Int32)), (.int (1 : Int32)), (.int (own_pos ((fir + eir) + (1 : Int32))))])) (fun _ k => XS.iconst X189.here hx rfl (hb hby d26_78) k) ?_
      have br190 : (1 : Int32) = (1 : Int32) := rfl
      refine Rch.go (U' := T189.setTop (mkF m 82 #[.val (.ref a1), .val (.int p2), .val (.int p3), .val (.int op), .val (.int (1 : Int32))] [(.int (own_pos ((fir + eir) + (1 : Int32))))])) (fun _ k => XS.icmpNo X189.here hx rfl (hb hby d26_79) rfl (XT.ii_ne_f br190) k) ?_
      refine Rch.go (U' := T189.setTop (mkF m 83 #[.val (.ref a1), .val (.int p2), .val (.int p3), .val (.int op), .val (.int (1 : Int32))] [(.int (1 : Int32)), (.int (own_pos ((fir + eir) + (1 : Int32))))])) (fun _ k => XS.iconst X189.here hx rfl (hb hby d26_82) k) ?_
      refine Rch.go (U' := T189.setTop (mkF m 87 #[.val (.ref a1), .val (.int p2), .val (.int p3), .val (.int op), .val (.int (1 : Int32))] [(.int (1 : Int32)), (.int (own_pos ((fir + eir) + (1 : Int32))))])) (fun _ k => XS.goto X189.here hx rfl (pc0 := 83) (pc' := 87) rfl (hb hby d26_83) (by decide) (by decide) k) ?_
      have br191 : (own_pos ((fir + eir) + (1 : Int32))) = (1 : Int32) := (own_inv_for hI hN).2
      refine Rch.go (U' := T189.setTop (mkF m 90 #[.val (.ref a1), .val (.int p2), .val (.int p3), .val (.int op), .val (.int (1 : Int32))] [])) (fun _ k => XS.icmpNo X189.here hx rfl (hb hby d26_87) rfl (XT.ii_ne_f br191) k) ?_
      refine Rch.go (U' := T189.setTop (mkF m 92 #[.val (.ref a1), .val (.int p2), .val (.int p3), .val (.int op), .val (.int (1 : Int32))] [(.int (1 : Int32))])) (fun _ k => XS.iload X189.here hx rfl (hb hby d26_90) rfl  k) ?_
      refine Rch.go (U' := T189.setTop (mkF m 96 #[.val (.ref a1), .val (.int p2), .val (.int p3), .val (.int op), .val (.int (1 : Int32))] [(.int (1 : Int32))])) (fun _ k => XS.goto X189.here hx rfl (pc0 := 92) (pc' := 96) rfl (hb hby d26_92) (by decide) (by decide) k) ?_
      refine Rch.fin X189 hlk (v := some (.int (1 : Int32))) (fun h => by rw [hret] at h; cases h) e189 (by decide) (by decide) (fun fs hr => retI X189 hx hret (hb hby d26_96) hr) ?_
      exact ⟨((fir + eir) + (1 : Int32)), (own_fwt mw (own_max wt ew) lf), (own_flf mw (own_max wt ew) lf), (0 : Int32), (0 : Int32), (congrArg (fun z => some (Value.int z)) (own_inv_for hI hN).2.symm), N189, K188, F185_maxWait, F185_failedInRow, F185_endedInRow, F185_endedWait, F185_wait, F185_left, (own_inv_for hI hN).1⟩
    ·
      refine Rch.go (U' := s₁.setTop (mkF m 41 #[.val (.ref a1), .val (.int p2), .val (.int p3), .val (.int op), .val (.int p3)] [])) (fun _ k => XS.icmpYes X0.here hx rfl (pc0 := 27) (pc' := 41) rfl (hb hby d26_27) rfl (XT.ii_ne_t br184) (by decide) (by decide) k) ?_
      refine Rch.go (U' := s₁.setTop (mkF m 42 #[.val (.ref a1), .val (.int p2), .val (.int p3), .val (.int op), .val (.int p3)] [(.int op)])) (fun _ k => XS.iloadN X0.here hx rfl (hb hby d26_41) rfl  k) ?_
      refine Rch.go (U' := s₁.setTop (mkF m 43 #[.val (.ref a1), .val (.int p2), .val (.int p3), .val (.int op), .val (.int p3)] [(.int (2 : Int32)), (.int op)])) (fun _ k => XS.iconst X0.here hx rfl (hb hby d26_42) k) ?_
      by_cases br192 : op = (2 : Int32)
      ·
        refine Rch.go (U' := s₁.setTop (mkF m 46 #[.val (.ref a1), .val (.int p2), .val (.int p3), .val (.int op), .val (.int p3)] [])) (fun _ k => XS.icmpNo X0.here hx rfl (hb hby d26_43) rfl (XT.ii_ne_f br192) k) ?_
        refine Rch.go (U' := s₁.setTop (mkF m 47 #[.val (.ref a1), .val (.int p2), .val (.int p3), .val (.int op), .val (.int p3)] [(.ref a1)])) (fun _ k => XS.aloadN X0.here hx rfl (hb hby d26_46) rfl rfl k) ?_
        obtain ⟨cq193, kq193, q193a, q193b, q193c⟩ := isOf hZ e0 E_a1
        obtain ⟨_, _, ⟨T193, L193, k193, n193⟩, -, X193, ⟨Lc193, hQ193, l193, y193, z193⟩, st193⟩ := X0.virtualBack hx (y := (⟨"com/example/ebb/ebb/StartBackoff", "ready", "()V"⟩ : MethodName)) (z := (⟨"com/example/ebb/ebb/StartBackoff", "ready", "()V"⟩ : MethodName)) hown (mvT hZ (wi hw 36 rfl)) (mvT hZ (wi hw 37 rfl)) (notFace_of_selects (args := #[]) (mvT hZ (wi hw 39 rfl))) (mvT hZ (wi hw 39 rfl)) (mvT hZ (wi hw 38 rfl)) (by decide) (backOf (W := 0) (rmReady l Z a0 hw [] a1 mw fir eir ew wt lf h0 n0 Z0 E_a1 F_a1_maxWait F_a1_failedInRow F_a1_endedInRow F_a1_endedWait F_a1_wait F_a1_left g_a1) hZ (wi hw 40 rfl) (wi hw 2 rfl) (by decide) (by decide)) q193a q193c (g := (mkF m 47 #[.val (.ref a1), .val (.int p2), .val (.int p3), .val (.int op), .val (.int p3)] [(.ref a1)])) rfl (by rw [hml]; rfl) (Steps.refl _) (argsL := []) (rest := []) (lenOf pd_3 rfl) rfl (by show 2 * 0 + _ ≤ _; exact Nat.le_of_eq rfl) (hb hby d26_47) (fun _ _ => ⟨rfl, e0, (by decide : 0 + 0 ≤ _), (by decide : 0 + 0 ≤ _)⟩)
        dsimp only [Pt.U, Pt.locs, Pt.cells, Pt.slots] at X193 l193 y193 z193 st193 hQ193
        subst l193 y193 z193
        obtain ⟨rfl, N193q, K193q, F193_maxWait, F193_failedInRow, F193_endedInRow, F193_endedWait, F193_wait, F193_left⟩ := hQ193
        have N193 := Fr.app N0 N193q
        have z194 := Nat.le_trans Z0 K193q.1
        have f195 := E_a1.keep K193q
        have K196 := K0.trans K193q (allS (Or.inl (List.mem_of_getElem? (i := 0) rfl)) all0)
        refine Rch.to (U' := T193.setTop (mkF m 50 #[.val (.ref a1), .val (.int p2), .val (.int p3), .val (.int op), .val (.int p3)] [])) st193 ?_
        refine Rch.go (U' := T193.setTop (mkF m 51 #[.val (.ref a1), .val (.int p2), .val (.int p3), .val (.int op), .val (.int p3)] [(.int (0 : Int32))])) (fun _ k => XS.iconst X193.here hx rfl (hb hby d26_50) k) ?_
        refine Rch.go (U' := T193.setTop (mkF m 53 #[.val (.ref a1), .val (.int p2), .val (.int p3), .val (.int op), .val (.int (0 : Int32))] [])) (fun _ k => XS.istore X193.here hx rfl (hb hby d26_51) rfl (l' := #[.val (.ref a1), .val (.int p2), .val (.int p3), .val (.int op), .val (.int (0 : Int32))]) rfl k) ?_
        refine Rch.go (U' := T193.setTop (mkF m 72 #[.val (.ref a1), .val (.int p2), .val (.int p3), .val (.int op), .val (.int (0 : Int32))] [])) (fun _ k => XS.goto X193.here hx rfl (pc0 := 53) (pc' := 72) rfl (hb hby d26_53) (by decide) (by decide) k) ?_
        refine Rch.go (U' := T193.setTop (mkF m 73 #[.val (.ref a1), .val (.int p2), .val (.int p3), .val (.int op), .val (.int (0 : Int32))] [(.ref a1)])) (fun _ k => XS.aloadN X193.here hx rfl (hb hby d26_72) rfl rfl k) ?_
        obtain ⟨cq197, kq197, q197a, q197b, q197c⟩ := isOf hZ rfl f195
        obtain ⟨_, _, ⟨T197, L197, k197, n197⟩, -, X197, ⟨Lc197, hQ197, l197, y197, z197⟩, st197⟩ := X193.virtualBack hx (y := (⟨"com/example/ebb/ebb/StartBackoff", "isFailing", "()Z"⟩ : MethodName)) (z := (⟨"com/example/ebb/ebb/StartBackoff", "isFailing", "()Z"⟩ : MethodName)) hown (mvT hZ (wi hw 16 rfl)) (mvT hZ (wi hw 17 rfl)) (notFace_of_selects (args := #[]) (mvT hZ (wi hw 19 rfl))) (mvT hZ (wi hw 19 rfl)) (mvT hZ (wi hw 18 rfl)) (by decide) (backOf (W := 0) (rmIsF l Z a0 hw [] a1 mw (0 : Int32) (eir + fir) (own_max ew wt) (0 : Int32) (0 : Int32) T193.heap n0 z194 f195 F193_maxWait F193_failedInRow F193_endedInRow F193_endedWait F193_wait F193_left) hZ (wi hw 20 rfl) (wi hw 2 rfl) (by decide) (by decide)) q197a q197c (g := (mkF m 73 #[.val (.ref a1), .val (.int p2), .val (.int p3), .val (.int op), .val (.int (0 : Int32))] [(.ref a1)])) rfl (by rw [hml]; rfl) (Steps.refl _) (argsL := []) (rest := []) (lenOf pd_13 rfl) rfl (by show 2 * 0 + _ ≤ _; exact Nat.le_of_eq rfl) (hb hby d26_73) (fun _ _ => ⟨rfl, rfl, (by decide : 0 + 0 ≤ _), (by decide : 0 + 0 ≤ _)⟩)
        dsimp only [Pt.U, Pt.locs, Pt.cells, Pt.slots] at X197 l197 y197 z197 st197 hQ197
        subst l197 y197 z197
        obtain ⟨rfl, N197q, e197⟩ := hQ197
        have N197 := Fr.app N193 N197q
        refine Rch.to (U' := T197.setTop (mkF m 76 #[.val (.ref a1), .val (.int p2), .val (.int p3), .val (.int op), .val (.int (0 : Int32))] [(.int (own_pos (0 : Int32)))])) st197 ?_
        refine Rch.go (U' := T197.setTop (mkF m 78 #[.val (.ref a1), .val (.int p2), .val (.int p3), .val (.int op), .val (.int (0 : Int32))] [(.int (0 : Int32)), (.int (own_pos (0 : Int32)))])) (fun _ k => XS.iload X197.here hx rfl (hb hby d26_76) rfl  k) ?_
        refine Rch.go (U' := T197.setTop (mkF m 79 #[.val (.ref a1), .val (.int p2), .val (.int p3), .val (.int op), .val (.int (0 : Int32))] [(.int (1 : Int32)), (.int (0 : Int32)), (.int (own_pos (0 : Int32)))])) (fun _ k => XS.iconst X197.here hx rfl (hb hby d26_78) k) ?_
        have br198 : ¬ ((0 : Int32) = (1 : Int32)) := (by decide)
        refine Rch.go (U' := T197.setTop (mkF m 86 #[.val (.ref a1), .val (.int p2), .val (.int p3), .val (.int op), .val (.int (0 : Int32))] [(.int (own_pos (0 : Int32)))])) (fun _ k => XS.icmpYes X197.here hx rfl (pc0 := 79) (pc' := 86) rfl (hb hby d26_79) rfl (XT.ii_ne_t br198) (by decide) (by decide) k) ?_
        refine Rch.go (U' := T197.setTop (mkF m 87 #[.val (.ref a1), .val (.int p2), .val (.int p3), .val (.int op), .val (.int (0 : Int32))] [(.int (0 : Int32)), (.int (own_pos (0 : Int32)))])) (fun _ k => XS.iconst X197.here hx rfl (hb hby d26_86) k) ?_
        have br199 : (own_pos (0 : Int32)) = (0 : Int32) := (by decide)
        refine Rch.go (U' := T197.setTop (mkF m 90 #[.val (.ref a1), .val (.int p2), .val (.int p3), .val (.int op), .val (.int (0 : Int32))] [])) (fun _ k => XS.icmpNo X197.here hx rfl (hb hby d26_87) rfl (XT.ii_ne_f br199) k) ?_
        refine Rch.go (U' := T197.setTop (mkF m 92 #[.val (.ref a1), .val (.int p2), .val (.int p3), .val (.int op), .val (.int (0 : Int32))] [(.int (0 : Int32))])) (fun _ k => XS.iload X197.here hx rfl (hb hby d26_90) rfl  k) ?_
        refine Rch.go (U' := T197.setTop (mkF m 96 #[.val (.ref a1), .val (.int p2), .val (.int p3), .val (.int op), .val (.int (0 : Int32))] [(.int (0 : Int32))])) (fun _ k => XS.goto X197.here hx rfl (pc0 := 92) (pc' := 96) rfl (hb hby d26_92) (by decide) (by decide) k) ?_
        refine Rch.fin X197 hlk (v := some (.int (0 : Int32))) (fun h => by rw [hret] at h; cases h) e197 (by decide) (by decide) (fun fs hr => retI X197 hx hret (hb hby d26_96) hr) ?_
        exact ⟨(0 : Int32), (0 : Int32), (0 : Int32), (eir + fir), (own_max ew wt), (congrArg (fun z => some (Value.int z)) (by decide : (0 : Int32) = own_pos 0)), N197, K196, F193_maxWait, F193_failedInRow, F193_endedInRow, F193_endedWait, F193_wait, F193_left, own_inv_ready hI hN⟩
      ·
        refine Rch.go (U' := s₁.setTop (mkF m 56 #[.val (.ref a1), .val (.int p2), .val (.int p3), .val (.int op), .val (.int p3)] [])) (fun _ k => XS.icmpYes X0.here hx rfl (pc0 := 43) (pc' := 56) rfl (hb hby d26_43) rfl (XT.ii_ne_t br192) (by decide) (by decide) k) ?_
        refine Rch.go (U' := s₁.setTop (mkF m 57 #[.val (.ref a1), .val (.int p2), .val (.int p3), .val (.int op), .val (.int p3)] [(.int op)])) (fun _ k => XS.iloadN X0.here hx rfl (hb hby d26_56) rfl  k) ?_
        refine Rch.go (U' := s₁.setTop (mkF m 58 #[.val (.ref a1), .val (.int p2), .val (.int p3), .val (.int op), .val (.int p3)] [(.int (3 : Int32)), (.int op)])) (fun _ k => XS.iconst X0.here hx rfl (hb hby d26_57) k) ?_
        by_cases br200 : op = (3 : Int32)
        ·
          refine Rch.go (U' := s₁.setTop (mkF m 61 #[.val (.ref a1), .val (.int p2), .val (.int p3), .val (.int op), .val (.int p3)] [])) (fun _ k => XS.icmpNo X0.here hx rfl (hb hby d26_58) rfl (XT.ii_ne_f br200) k) ?_
          refine Rch.go (U' := s₁.setTop (mkF m 62 #[.val (.ref a1), .val (.int p2), .val (.int p3), .val (.int op), .val (.int p3)] [(.ref a1)])) (fun _ k => XS.aloadN X0.here hx rfl (hb hby d26_61) rfl rfl k) ?_
          obtain ⟨cq201, kq201, q201a, q201b, q201c⟩ := isOf hZ e0 E_a1
          obtain ⟨_, _, ⟨T201, L201, k201, n201⟩, -, X201, ⟨Lc201, hQ201, l201, y201, z201⟩, st201⟩ := X0.virtualBack hx (y := (⟨"com/example/ebb/ebb/StartBackoff", "lasted", "()V"⟩ : MethodName)) (z := (⟨"com/example/ebb/ebb/StartBackoff", "lasted", "()V"⟩ : MethodName)) hown (mvT hZ (wi hw 27 rfl)) (mvT hZ (wi hw 28 rfl)) (notFace_of_selects (args := #[]) (mvT hZ (wi hw 30 rfl))) (mvT hZ (wi hw 30 rfl)) (mvT hZ (wi hw 29 rfl)) (by decide) (backOf (W := 0) (rmLasted l Z a0 hw [] a1 mw fir eir ew wt lf h0 n0 Z0 E_a1 F_a1_maxWait F_a1_failedInRow F_a1_endedInRow F_a1_endedWait F_a1_wait F_a1_left g_a1) hZ (wi hw 31 rfl) (wi hw 2 rfl) (by decide) (by decide)) q201a q201c (g := (mkF m 62 #[.val (.ref a1), .val (.int p2), .val (.int p3), .val (.int op), .val (.int p3)] [(.ref a1)])) rfl (by rw [hml]; rfl) (Steps.refl _) (argsL := []) (rest := []) (lenOf pd_3 rfl) rfl (by show 2 * 0 + _ ≤ _; exact Nat.le_of_eq rfl) (hb hby d26_62) (fun _ _ => ⟨rfl, e0, (by decide : 0 + 0 ≤ _), (by decide : 0 + 0 ≤ _)⟩)
          dsimp only [Pt.U, Pt.locs, Pt.cells, Pt.slots] at X201 l201 y201 z201 st201 hQ201
          subst l201 y201 z201
          obtain ⟨rfl, N201q, K201q, F201_maxWait, F201_failedInRow, F201_endedInRow, F201_endedWait, F201_wait, F201_left⟩ := hQ201
          have N201 := Fr.app N0 N201q
          have z202 := Nat.le_trans Z0 K201q.1
          have f203 := E_a1.keep K201q
          have K204 := K0.trans K201q (allS (Or.inl (List.mem_of_getElem? (i := 0) rfl)) all0)
          refine Rch.to (U' := T201.setTop (mkF m 65 #[.val (.ref a1), .val (.int p2), .val (.int p3), .val (.int op), .val (.int p3)] [])) st201 ?_
          refine Rch.go (U' := T201.setTop (mkF m 72 #[.val (.ref a1), .val (.int p2), .val (.int p3), .val (.int op), .val (.int p3)] [])) (fun _ k => XS.goto X201.here hx rfl (pc0 := 65) (pc' := 72) rfl (hb hby d26_65) (by decide) (by decide) k) ?_
          refine Rch.go (U' := T201.setTop (mkF m 73 #[.val (.ref a1), .val (.int p2), .val (.int p3), .val (.int op), .val (.int p3)] [(.ref a1)])) (fun _ k => XS.aloadN X201.here hx rfl (hb hby d26_72) rfl rfl k) ?_
          obtain ⟨cq205, kq205, q205a, q205b, q205c⟩ := isOf hZ rfl f203
          obtain ⟨_, _, ⟨T205, L205, k205, n205⟩, -, X205, ⟨Lc205, hQ205, l205, y205, z205⟩, st205⟩ := X201.virtualBack hx (y := (⟨"com/example/ebb/ebb/StartBackoff", "isFailing", "()Z"⟩ : MethodName)) (z := (⟨"com/example/ebb/ebb/StartBackoff", "isFailing", "()Z"⟩ : MethodName)) hown (mvT hZ (wi hw 16 rfl)) (mvT hZ (wi hw 17 rfl)) (notFace_of_selects (args := #[]) (mvT hZ (wi hw 19 rfl))) (mvT hZ (wi hw 19 rfl)) (mvT hZ (wi hw 18 rfl)) (by decide) (backOf (W := 0) (rmIsF l Z a0 hw [] a1 mw fir (0 : Int32) (0 : Int32) wt lf T201.heap n0 z202 f203 F201_maxWait F201_failedInRow F201_endedInRow F201_endedWait F201_wait F201_left) hZ (wi hw 20 rfl) (wi hw 2 rfl) (by decide) (by decide)) q205a q205c (g := (mkF m 73 #[.val (.ref a1), .val (.int p2), .val (.int p3), .val (.int op), .val (.int p3)] [(.ref a1)])) rfl (by rw [hml]; rfl) (Steps.refl _) (argsL := []) (rest := []) (lenOf pd_13 rfl) rfl (by show 2 * 0 + _ ≤ _; exact Nat.le_of_eq rfl) (hb hby d26_73) (fun _ _ => ⟨rfl, rfl, (by decide : 0 + 0 ≤ _), (by decide : 0 + 0 ≤ _)⟩)
          dsimp only [Pt.U, Pt.locs, Pt.cells, Pt.slots] at X205 l205 y205 z205 st205 hQ205
          subst l205 y205 z205
          obtain ⟨rfl, N205q, e205⟩ := hQ205
          have N205 := Fr.app N201 N205q
          refine Rch.to (U' := T205.setTop (mkF m 76 #[.val (.ref a1), .val (.int p2), .val (.int p3), .val (.int op), .val (.int p3)] [(.int (own_pos fir))])) st205 ?_
          refine Rch.go (U' := T205.setTop (mkF m 78 #[.val (.ref a1), .val (.int p2), .val (.int p3), .val (.int op), .val (.int p3)] [(.int p3), (.int (own_pos fir))])) (fun _ k => XS.iload X205.here hx rfl (hb hby d26_76) rfl  k) ?_
          refine Rch.go (U' := T205.setTop (mkF m 79 #[.val (.ref a1), .val (.int p2), .val (.int p3), .val (.int op), .val (.int p3)] [(.int (1 : Int32)), (.int p3), (.int (own_pos fir))])) (fun _ k => XS.iconst X205.here hx rfl (hb hby d26_78) k) ?_
          by_cases br206 : p3 = (1 : Int32)
          ·
            refine Rch.go (U' := T205.setTop (mkF m 82 #[.val (.ref a1), .val (.int p2), .val (.int p3), .val (.int op), .val (.int p3)] [(.int (own_pos fir))])) (fun _ k => XS.icmpNo X205.here hx rfl (hb hby d26_79) rfl (XT.ii_ne_f br206) k) ?_
            refine Rch.go (U' := T205.setTop (mkF m 83 #[.val (.ref a1), .val (.int p2), .val (.int p3), .val (.int op), .val (.int p3)] [(.int (1 : Int32)), (.int (own_pos fir))])) (fun _ k => XS.iconst X205.here hx rfl (hb hby d26_82) k) ?_
            refine Rch.go (U' := T205.setTop (mkF m 87 #[.val (.ref a1), .val (.int p2), .val (.int p3), .val (.int op), .val (.int p3)] [(.int (1 : Int32)), (.int (own_pos fir))])) (fun _ k => XS.goto X205.here hx rfl (pc0 := 83) (pc' := 87) rfl (hb hby d26_83) (by decide) (by decide) k) ?_
            have br207 : (own_pos fir) = (1 : Int32) := hf.symm.trans br206
            refine Rch.go (U' := T205.setTop (mkF m 90 #[.val (.ref a1), .val (.int p2), .val (.int p3), .val (.int op), .val (.int p3)] [])) (fun _ k => XS.icmpNo X205.here hx rfl (hb hby d26_87) rfl (XT.ii_ne_f br207) k) ?_
            refine Rch.go (U' := T205.setTop (mkF m 92 #[.val (.ref a1), .val (.int p2), .val (.int p3), .val (.int op), .val (.int p3)] [(.int p3)])) (fun _ k => XS.iload X205.here hx rfl (hb hby d26_90) rfl  k) ?_
            refine Rch.go (U' := T205.setTop (mkF m 96 #[.val (.ref a1), .val (.int p2), .val (.int p3), .val (.int op), .val (.int p3)] [(.int p3)])) (fun _ k => XS.goto X205.here hx rfl (pc0 := 92) (pc' := 96) rfl (hb hby d26_92) (by decide) (by decide) k) ?_
            refine Rch.fin X205 hlk (v := some (.int p3)) (fun h => by rw [hret] at h; cases h) e205 (by decide) (by decide) (fun fs hr => retI X205 hx hret (hb hby d26_96) hr) ?_
            exact ⟨fir, wt, lf, (0 : Int32), (0 : Int32), (congrArg (fun z => some (Value.int z)) hf), N205, K204, F201_maxWait, F201_failedInRow, F201_endedInRow, F201_endedWait, F201_wait, F201_left, own_inv_last hI⟩
          ·
            refine Rch.go (U' := T205.setTop (mkF m 86 #[.val (.ref a1), .val (.int p2), .val (.int p3), .val (.int op), .val (.int p3)] [(.int (own_pos fir))])) (fun _ k => XS.icmpYes X205.here hx rfl (pc0 := 79) (pc' := 86) rfl (hb hby d26_79) rfl (XT.ii_ne_t br206) (by decide) (by decide) k) ?_
            refine Rch.go (U' := T205.setTop (mkF m 87 #[.val (.ref a1), .val (.int p2), .val (.int p3), .val (.int op), .val (.int p3)] [(.int (0 : Int32)), (.int (own_pos fir))])) (fun _ k => XS.iconst X205.here hx rfl (hb hby d26_86) k) ?_
            have br208 : (own_pos fir) = (0 : Int32) := (own_pos_01 fir).resolve_right (fun q => br206 (hf.trans q))
            refine Rch.go (U' := T205.setTop (mkF m 90 #[.val (.ref a1), .val (.int p2), .val (.int p3), .val (.int op), .val (.int p3)] [])) (fun _ k => XS.icmpNo X205.here hx rfl (hb hby d26_87) rfl (XT.ii_ne_f br208) k) ?_
            refine Rch.go (U' := T205.setTop (mkF m 92 #[.val (.ref a1), .val (.int p2), .val (.int p3), .val (.int op), .val (.int p3)] [(.int p3)])) (fun _ k => XS.iload X205.here hx rfl (hb hby d26_90) rfl  k) ?_
            refine Rch.go (U' := T205.setTop (mkF m 96 #[.val (.ref a1), .val (.int p2), .val (.int p3), .val (.int op), .val (.int p3)] [(.int p3)])) (fun _ k => XS.goto X205.here hx rfl (pc0 := 92) (pc' := 96) rfl (hb hby d26_92) (by decide) (by decide) k) ?_
            refine Rch.fin X205 hlk (v := some (.int p3)) (fun h => by rw [hret] at h; cases h) e205 (by decide) (by decide) (fun fs hr => retI X205 hx hret (hb hby d26_96) hr) ?_
            exact ⟨fir, wt, lf, (0 : Int32), (0 : Int32), (congrArg (fun z => some (Value.int z)) hf), N205, K204, F201_maxWait, F201_failedInRow, F201_endedInRow, F201_endedWait, F201_wait, F201_left, own_inv_last hI⟩
        ·
          refine Rch.go (U' := s₁.setTop (mkF m 68 #[.val (.ref a1), .val (.int p2), .val (.int p3), .val (.int op), .val (.int p3)] [])) (fun _ k => XS.icmpYes X0.here hx rfl (pc0 := 58) (pc' := 68) rfl (hb hby d26_58) rfl (XT.ii_ne_t br200) (by decide) (by decide) k) ?_
          refine Rch.go (U' := s₁.setTop (mkF m 69 #[.val (.ref a1), .val (.int p2), .val (.int p3), .val (.int op), .val (.int p3)] [(.ref a1)])) (fun _ k => XS.aloadN X0.here hx rfl (hb hby d26_68) rfl rfl k) ?_
          obtain ⟨cq209, kq209, q209a, q209b, q209c⟩ := isOf hZ e0 E_a1
          obtain ⟨_, _, ⟨T209, L209, k209, n209⟩, -, X209, ⟨Lc209, hQ209, l209, y209, z209⟩, st209⟩ := X0.virtualBack hx (y := (⟨"com/example/ebb/ebb/StartBackoff", "evaluated", "()V"⟩ : MethodName)) (z := (⟨"com/example/ebb/ebb/StartBackoff", "evaluated", "()V"⟩ : MethodName)) hown (mvT hZ (wi hw 60 rfl)) (mvT hZ (wi hw 61 rfl)) (notFace_of_selects (args := #[]) (mvT hZ (wi hw 63 rfl))) (mvT hZ (wi hw 63 rfl)) (mvT hZ (wi hw 62 rfl)) (by decide) (backOf (W := 0) (rmEval l Z a0 hw [] a1 mw fir eir ew wt lf h0 n0 Z0 E_a1 F_a1_maxWait F_a1_failedInRow F_a1_endedInRow F_a1_endedWait F_a1_wait F_a1_left g_a1) hZ (wi hw 64 rfl) (wi hw 2 rfl) (by decide) (by decide)) q209a q209c (g := (mkF m 69 #[.val (.ref a1), .val (.int p2), .val (.int p3), .val (.int op), .val (.int p3)] [(.ref a1)])) rfl (by rw [hml]; rfl) (Steps.refl _) (argsL := []) (rest := []) (lenOf pd_3 rfl) rfl (by show 2 * 0 + _ ≤ _; exact Nat.le_of_eq rfl) (hb hby d26_69) (fun _ _ => ⟨rfl, e0, (by decide : 0 + 0 ≤ _), (by decide : 0 + 0 ≤ _)⟩)
          dsimp only [Pt.U, Pt.locs, Pt.cells, Pt.slots] at X209 l209 y209 z209 st209 hQ209
          subst l209 y209 z209
          obtain ⟨rfl, N209q, K209q, F209_maxWait, F209_failedInRow, F209_endedInRow, F209_endedWait, F209_wait, F209_left⟩ := hQ209
          have N209 := Fr.app N0 N209q
          have z210 := Nat.le_trans Z0 K209q.1
          have f211 := E_a1.keep K209q
          have K212 := K0.trans K209q (allS (Or.inl (List.mem_of_getElem? (i := 0) rfl)) all0)
          refine Rch.to (U' := T209.setTop (mkF m 72 #[.val (.ref a1), .val (.int p2), .val (.int p3), .val (.int op), .val (.int p3)] [])) st209 ?_
          refine Rch.go (U' := T209.setTop (mkF m 73 #[.val (.ref a1), .val (.int p2), .val (.int p3), .val (.int op), .val (.int p3)] [(.ref a1)])) (fun _ k => XS.aloadN X209.here hx rfl (hb hby d26_72) rfl rfl k) ?_
          obtain ⟨cq213, kq213, q213a, q213b, q213c⟩ := isOf hZ rfl f211
          obtain ⟨_, _, ⟨T213, L213, k213, n213⟩, -, X213, ⟨Lc213, hQ213, l213, y213, z213⟩, st213⟩ := X209.virtualBack hx (y := (⟨"com/example/ebb/ebb/StartBackoff", "isFailing", "()Z"⟩ : MethodName)) (z := (⟨"com/example/ebb/ebb/StartBackoff", "isFailing", "()Z"⟩ : MethodName)) hown (mvT hZ (wi hw 16 rfl)) (mvT hZ (wi hw 17 rfl)) (notFace_of_selects (args := #[]) (mvT hZ (wi hw 19 rfl))) (mvT hZ (wi hw 19 rfl)) (mvT hZ (wi hw 18 rfl)) (by decide) (backOf (W := 0) (rmIsF l Z a0 hw [] a1 mw fir eir ew wt (own_ev lf) T209.heap n0 z210 f211 F209_maxWait F209_failedInRow F209_endedInRow F209_endedWait F209_wait F209_left) hZ (wi hw 20 rfl) (wi hw 2 rfl) (by decide) (by decide)) q213a q213c (g := (mkF m 73 #[.val (.ref a1), .val (.int p2), .val (.int p3), .val (.int op), .val (.int p3)] [(.ref a1)])) rfl (by rw [hml]; rfl) (Steps.refl _) (argsL := []) (rest := []) (lenOf pd_13 rfl) rfl (by show 2 * 0 + _ ≤ _; exact Nat.le_of_eq rfl) (hb hby d26_73) (fun _ _ => ⟨rfl, rfl, (by decide : 0 + 0 ≤ _), (by decide : 0 + 0 ≤ _)⟩)
          dsimp only [Pt.U, Pt.locs, Pt.cells, Pt.slots] at X213 l213 y213 z213 st213 hQ213
          subst l213 y213 z213
          obtain ⟨rfl, N213q, e213⟩ := hQ213
          have N213 := Fr.app N209 N213q
          refine Rch.to (U' := T213.setTop (mkF m 76 #[.val (.ref a1), .val (.int p2), .val (.int p3), .val (.int op), .val (.int p3)] [(.int (own_pos fir))])) st213 ?_
          refine Rch.go (U' := T213.setTop (mkF m 78 #[.val (.ref a1), .val (.int p2), .val (.int p3), .val (.int op), .val (.int p3)] [(.int p3), (.int (own_pos fir))])) (fun _ k => XS.iload X213.here hx rfl (hb hby d26_76) rfl  k) ?_
          refine Rch.go (U' := T213.setTop (mkF m 79 #[.val (.ref a1), .val (.int p2), .val (.int p3), .val (.int op), .val (.int p3)] [(.int (1 : Int32)), (.int p3), (.int (own_pos fir))])) (fun _ k => XS.iconst X213.here hx rfl (hb hby d26_78) k) ?_
          by_cases br214 : p3 = (1 : Int32)
          ·
            refine Rch.go (U' := T213.setTop (mkF m 82 #[.val (.ref a1), .val (.int p2), .val (.int p3), .val (.int op), .val (.int p3)] [(.int (own_pos fir))])) (fun _ k => XS.icmpNo X213.here hx rfl (hb hby d26_79) rfl (XT.ii_ne_f br214) k) ?_
            refine Rch.go (U' := T213.setTop (mkF m 83 #[.val (.ref a1), .val (.int p2), .val (.int p3), .val (.int op), .val (.int p3)] [(.int (1 : Int32)), (.int (own_pos fir))])) (fun _ k => XS.iconst X213.here hx rfl (hb hby d26_82) k) ?_
            refine Rch.go (U' := T213.setTop (mkF m 87 #[.val (.ref a1), .val (.int p2), .val (.int p3), .val (.int op), .val (.int p3)] [(.int (1 : Int32)), (.int (own_pos fir))])) (fun _ k => XS.goto X213.here hx rfl (pc0 := 83) (pc' := 87) rfl (hb hby d26_83) (by decide) (by decide) k) ?_
            have br215 : (own_pos fir) = (1 : Int32) := hf.symm.trans br214
            refine Rch.go (U' := T213.setTop (mkF m 90 #[.val (.ref a1), .val (.int p2), .val (.int p3), .val (.int op), .val (.int p3)] [])) (fun _ k => XS.icmpNo X213.here hx rfl (hb hby d26_87) rfl (XT.ii_ne_f br215) k) ?_
            refine Rch.go (U' := T213.setTop (mkF m 92 #[.val (.ref a1), .val (.int p2), .val (.int p3), .val (.int op), .val (.int p3)] [(.int p3)])) (fun _ k => XS.iload X213.here hx rfl (hb hby d26_90) rfl  k) ?_
            refine Rch.go (U' := T213.setTop (mkF m 96 #[.val (.ref a1), .val (.int p2), .val (.int p3), .val (.int op), .val (.int p3)] [(.int p3)])) (fun _ k => XS.goto X213.here hx rfl (pc0 := 92) (pc' := 96) rfl (hb hby d26_92) (by decide) (by decide) k) ?_
            refine Rch.fin X213 hlk (v := some (.int p3)) (fun h => by rw [hret] at h; cases h) e213 (by decide) (by decide) (fun fs hr => retI X213 hx hret (hb hby d26_96) hr) ?_
            exact ⟨fir, wt, (own_ev lf), eir, ew, (congrArg (fun z => some (Value.int z)) hf), N213, K212, F209_maxWait, F209_failedInRow, F209_endedInRow, F209_endedWait, F209_wait, F209_left, own_inv_more hI⟩
          ·
            refine Rch.go (U' := T213.setTop (mkF m 86 #[.val (.ref a1), .val (.int p2), .val (.int p3), .val (.int op), .val (.int p3)] [(.int (own_pos fir))])) (fun _ k => XS.icmpYes X213.here hx rfl (pc0 := 79) (pc' := 86) rfl (hb hby d26_79) rfl (XT.ii_ne_t br214) (by decide) (by decide) k) ?_
            refine Rch.go (U' := T213.setTop (mkF m 87 #[.val (.ref a1), .val (.int p2), .val (.int p3), .val (.int op), .val (.int p3)] [(.int (0 : Int32)), (.int (own_pos fir))])) (fun _ k => XS.iconst X213.here hx rfl (hb hby d26_86) k) ?_
            have br216 : (own_pos fir) = (0 : Int32) := (own_pos_01 fir).resolve_right (fun q => br214 (hf.trans q))
            refine Rch.go (U' := T213.setTop (mkF m 90 #[.val (.ref a1), .val (.int p2), .val (.int p3), .val (.int op), .val (.int p3)] [])) (fun _ k => XS.icmpNo X213.here hx rfl (hb hby d26_87) rfl (XT.ii_ne_f br216) k) ?_
            refine Rch.go (U' := T213.setTop (mkF m 92 #[.val (.ref a1), .val (.int p2), .val (.int p3), .val (.int op), .val (.int p3)] [(.int p3)])) (fun _ k => XS.iload X213.here hx rfl (hb hby d26_90) rfl  k) ?_
            refine Rch.go (U' := T213.setTop (mkF m 96 #[.val (.ref a1), .val (.int p2), .val (.int p3), .val (.int op), .val (.int p3)] [(.int p3)])) (fun _ k => XS.goto X213.here hx rfl (pc0 := 92) (pc' := 96) rfl (hb hby d26_92) (by decide) (by decide) k) ?_
            refine Rch.fin X213 hlk (v := some (.int p3)) (fun h => by rw [hret] at h; cases h) e213 (by decide) (by decide) (fun fs hr => retI X213 hx hret (hb hby d26_96) hr) ?_
            exact ⟨fir, wt, (own_ev lf), eir, ew, (congrArg (fun z => some (Value.int z)) hf), N213, K212, F209_maxWait, F209_failedInRow, F209_endedInRow, F209_endedWait, F209_wait, F209_left, own_inv_more hI⟩
theorem own_nn (a : Int32) : ¬ own_pos a < 0 := by rcases own_pos_01 a with h | h <;> rw [h] <;> decide
theorem pd_14 : parseMethodDescriptor "(I)V" = some ⟨[.int], none⟩ := by decide +kernel
theorem pd_15 : parseMethodDescriptor "(Lcom/example/ebb/ebb/StartBackoff;II)I" = some ⟨[(.object "com/example/ebb/ebb/StartBackoff"), .int, .int], some .int⟩ := by decide +kernel
theorem ef_rm0 (m : MethodId) (p1 : Int32) (p2 : Int32) (p3 : Int32) (p4 : Int32) (p5 : Int32) : entryFrame m #[(.int p1), (.int p2), (.int p3), (.int p4), (.int p5)] maxLocals = mkF m 0 #[.val (.int p1), .val (.int p2), .val (.int p3), .val (.int p4), .val (.int p5), .unset, .unset] [] := by first | (simp [entryFrame, mkF, argsToLocals, Value.category, maxLocals]; done) | rfl
def Q_rm0 (Z : State) (p1 : Int32) (p2 : Int32) (p3 : Int32) (p4 : Int32) (p5 : Int32) (h0 : Heap) (n0 : Nat) (v : Option Value) (h : Heap) (L : List Loc) : Prop := v = some (.int 1) ∧ Fr n0 L
set_option maxRecDepth 65536 in
set_option maxHeartbeats 40000000 in
theorem rm0 (l : Launch) (Z : State) (a0 : Array Value) (hw : ∀ d ∈ tables_1, d.before a0 Z = true) (ws : List Jvm.Cond) (p1 : Int32) (p2 : Int32) (p3 : Int32) (p4 : Int32) (p5 : Int32) (h0 : Heap) (n0 : Nat) (Z0 : n0 ≤ h0.size)  :
    MetFree l x (head1 (Jvm.Cond.code x code maxLocals ret :: ws) room_1) (fun a U => a = #[(.int p1), (.int p2), (.int p3), (.int p4), (.int p5)] ∧ Z.Warmed39 U.vm ∧ U.heap = h0) (fun _ _ _ _ _ => True) (fun _ U o U' => ∃ v L, o = .returned v ∧ Q_rm0 Z p1 p2 p3 p4 p5 h0 n0 v U'.heap L ∧ FrameEnd U o U' L 16 128) := by
  refine MetFree.of_bodySF (plainFor_of_name pn_com_example_ebb_ebb_StartBackoffIsFailingPinLaw) hisR ?_
  intro p e s m args below meth c s₁ Bd hml0 hP hK
  obtain ⟨rfl, hZ, hh⟩ := hP
  have hx := Bd.exec
  have hby := Bd.bytes
  have hml : c.maxLocals = 7 := hml0
  have hown : s.vm.findClass "com/example/ebb/ebb/StartBackoffIsFailingPinLaw" = some m.cls := findClass_of_methodNamed Bd.named
  have hnm := (name_of_methodNamed Bd.named Bd.method).1
  have hret := Bd.returns
  have hlk : meth.locks = false := BodyLoose.notSynchronized Bd
  have X0 : Stand p l e room_1 s m #[(.int p1), (.int p2), (.int p3), (.int p4), (.int p5)] below meth c s₁ [] 0 0 := Stand.of_body Bd
  have e0 : s₁.heap = h0 := by rw [← hh, Bd.state]; rfl
  have N0 := Fr.nil n0
  refine Rch.body (Q := Q_rm0 Z p1 p2 p3 p4 p5 h0 n0) (U' := s₁.setTop (mkF m 0 #[.val (.int p1), .val (.int p2), .val (.int p3), .val (.int p4), .val (.int p5), .unset, .unset] [])) (fun t k => castTop (ef_rm0 m p1 p2 p3 p4 p5) k) ?_
  obtain ⟨T217, h217, X217, e217, E217, A217, D217, -, st217⟩ := newO X0 hx hZ hown (wi hw 0 rfl) (wi hw 1 rfl) (wi hw 2 rfl) e0 (g := (mkF m 0 #[.val (.int p1), .val (.int p2), .val (.int p3), .val (.int p4), .val (.int p5), .unset, .unset] [])) rfl (hb hby at_0) (by decide) (by decide)
  obtain ⟨b217, g217⟩ : ∃ z, z = h0.size := ⟨_, rfl⟩
  rw [← g217] at A217 D217 st217
  have n0b217 : n0 ≤ b217 := Nat.le_trans Z0 (Nat.le_of_eq g217.symm)
  have z218 := Nat.le_trans Z0 E217.1
  have F217_maxWait : Fld Z h217 b217 "com/example/ebb/ebb/StartBackoff" "maxWait" "I" (.int (0 : Int32)) := D217 (Or.inr (wi hw 15 rfl)) (ty := .int) (by decide)
  have F217_failedInRow : Fld Z h217 b217 "com/example/ebb/ebb/StartBackoff" "failedInRow" "I" (.int (0 : Int32)) := D217 (Or.inl (wi hw 22 rfl)) (ty := .int) (by decide)
  have F217_endedInRow : Fld Z h217 b217 "com/example/ebb/ebb/StartBackoff" "endedInRow" "I" (.int (0 : Int32)) := D217 (Or.inl (wi hw 33 rfl)) (ty := .int) (by decide)
  have F217_endedWait : Fld Z h217 b217 "com/example/ebb/ebb/StartBackoff" "endedWait" "I" (.int (0 : Int32)) := D217 (Or.inl (wi hw 35 rfl)) (ty := .int) (by decide)
  have F217_wait : Fld Z h217 b217 "com/example/ebb/ebb/StartBackoff" "wait" "I" (.int (0 : Int32)) := D217 (Or.inl (wi hw 42 rfl)) (ty := .int) (by decide)
  have F217_left : Fld Z h217 b217 "com/example/ebb/ebb/StartBackoff" "left" "I" (.int (0 : Int32)) := D217 (Or.inl (wi hw 45 rfl)) (ty := .int) (by decide)
  refine Rch.go (U' := T217.setTop (mkF m 3 #[.val (.int p1), .val (.int p2), .val (.int p3), .val (.int p4), .val (.int p5), .unset, .unset] [(.ref b217)])) st217 ?_
  refine Rch.go (U' := T217.setTop (mkF m 4 #[.val (.int p1), .val (.int p2), .val (.int p3), .val (.int p4), .val (.int p5), .unset, .unset] [(.ref b217), (.ref b217)])) (fun _ k => XS.dup X217.here hx rfl (hb hby at_3) rfl rfl k) ?_
  refine Rch.go (U' := T217.setTop (mkF m 5 #[.val (.int p1), .val (.int p2), .val (.int p3), .val (.int p4), .val (.int p5), .unset, .unset] [(.int (1 : Int32)), (.ref b217), (.ref b217)])) (fun _ k => XS.iconst X217.here hx rfl (hb hby at_4) k) ?_
  refine Rch.go (U' := T217.setTop (mkF m 6 #[.val (.int p1), .val (.int p2), .val (.int p3), .val (.int p4), .val (.int p5), .unset, .unset] [(.int p1), (.int (1 : Int32)), (.ref b217), (.ref b217)])) (fun _ k => XS.iloadN X217.here hx rfl (hb hby at_5) rfl  k) ?_
  refine Rch.go (U' := T217.setTop (mkF m 8 #[.val (.int p1), .val (.int p2), .val (.int p3), .val (.int p4), .val (.int p5), .unset, .unset] [(.int (2147483647 : Int32)), (.int p1), (.int (1 : Int32)), (.ref b217), (.ref b217)])) (fun _ k => X217.ldcInt hx hown (mvT hZ (wi hw 3 rfl)) (g := (mkF m 6 #[.val (.int p1), .val (.int p2), .val (.int p3), .val (.int p4), .val (.int p5), .unset, .unset] [(.int p1), (.int (1 : Int32)), (.ref b217), (.ref b217)])) rfl (hb hby at_6) _ k) ?_
  refine Rch.go (U' := T217.setTop (mkF m 9 #[.val (.int p1), .val (.int p2), .val (.int p3), .val (.int p4), .val (.int p5), .unset, .unset] [(.int (p1 &&& (2147483647 : Int32))), (.int (1 : Int32)), (.ref b217), (.ref b217)])) (fun _ k => XS.iand X217.here hx rfl (hb hby at_8) rfl k) ?_
  obtain ⟨_, _, ⟨T219, L219, k219, n219⟩, -, X219, ⟨Lc219, hQ219, l219, y219, z219⟩, st219⟩ := Jvm.LawKit.callS X217 hx (y := (⟨"java/lang/Math", "max", "(II)I"⟩ : MethodName)) hown (mvT hZ (wi hw 4 rfl)) (mvT hZ (wi hw 5 rfl)) (mvT hZ (wi hw 6 rfl)) (mvT hZ (wi hw 7 rfl)) (by decide) (backOf (W := 2) (rmMax l Z a0 hw [] (1 : Int32) (p1 &&& (2147483647 : Int32)) h217 n0 z218 ) hZ (wi hw 7 rfl) (wi hw 6 rfl) (by decide) (by decide)) (g := (mkF m 9 #[.val (.int p1), .val (.int p2), .val (.int p3), .val (.int p4), .val (.int p5), .unset, .unset] [(.int (p1 &&& (2147483647 : Int32))), (.int (1 : Int32)), (.ref b217), (.ref b217)])) rfl (by rw [hml]; rfl) (argsL := [(.int (1 : Int32)), (.int (p1 &&& (2147483647 : Int32)))]) (rest := [(.ref b217), (.ref b217)]) (lenOf pd_5 rfl) rfl (by show 2 * 0 + _ ≤ _; exact Nat.le_of_eq rfl) (hb hby at_9) (fun _ _ => ⟨rfl, e217, (by decide : 1 + 0 ≤ _), (by decide : 6 + 0 ≤ _)⟩)
  dsimp only [Pt.U, Pt.locs, Pt.cells, Pt.slots] at X219 l219 y219 z219 st219 hQ219
  subst l219 y219 z219
  obtain ⟨rfl, N219q, e219⟩ := hQ219
  have N219 := Fr.app N0 N219q
  refine Rch.go (U' := T219.setTop (mkF m 12 #[.val (.int p1), .val (.int p2), .val (.int p3), .val (.int p4), .val (.int p5), .unset, .unset] [(.int (own_max (1 : Int32) (p1 &&& (2147483647 : Int32)))), (.ref b217), (.ref b217)])) st219 ?_
  obtain ⟨_, _, ⟨T220, L220, k220, n220⟩, -, X220, ⟨Lc220, hQ220, l220, y220, z220⟩, st220⟩ := X219.specialBack hx (y := (⟨"com/example/ebb/ebb/StartBackoff", "<init>", "(I)V"⟩ : MethodName)) rfl hown (mvT hZ (wi hw 8 rfl)) (mvT hZ (wi hw 9 rfl)) (mvT hZ (wi hw 10 rfl)) (by decide) (backOf (W := 1) (rmNew l Z a0 hw [] b217 (own_max (1 : Int32) (p1 &&& (2147483647 : Int32))) (0 : Int32) (0 : Int32) (0 : Int32) (0 : Int32) (0 : Int32) (0 : Int32) h217 n0 z218 A217 F217_maxWait F217_failedInRow F217_endedInRow F217_endedWait F217_wait F217_left n0b217) hZ (wi hw 10 rfl) (wi hw 2 rfl) (by decide) (by decide)) (g := (mkF m 12 #[.val (.int p1), .val (.int p2), .val (.int p3), .val (.int p4), .val (.int p5), .unset, .unset] [(.int (own_max (1 : Int32) (p1 &&& (2147483647 : Int32)))), (.ref b217), (.ref b217)])) rfl (by rw [hml]; rfl) (Steps.refl _) (a := b217) (argsL := [(.int (own_max (1 : Int32) (p1 &&& (2147483647 : Int32))))]) (rest := [(.ref b217)]) (lenOf pd_14 rfl) rfl (by show 2 * 0 + _ ≤ _; exact Nat.le_of_eq rfl) (hb hby at_12) (fun _ _ => ⟨rfl, e219, (by decide : 1 + 0 ≤ _), (by decide : 6 + 0 ≤ _)⟩)
  dsimp only [Pt.U, Pt.locs, Pt.cells, Pt.slots] at X220 l220 y220 z220 st220 hQ220
  subst l220 y220 z220
  obtain ⟨rfl, N220q, K220q, F220_maxWait, F220_failedInRow, F220_endedInRow, F220_endedWait, F220_wait, F220_left⟩ := hQ220
  have N220 := Fr.app N219 N220q
  have z221 := Nat.le_trans z218 K220q.1
  have f222 := A217.keep K220q
  refine Rch.to (U' := T220.setTop (mkF m 15 #[.val (.int p1), .val (.int p2), .val (.int p3), .val (.int p4), .val (.int p5), .unset, .unset] [(.ref b217)])) st220 ?_
  refine Rch.go (U' := T220.setTop (mkF m 17 #[.val (.int p1), .val (.int p2), .val (.int p3), .val (.int p4), .val (.int p5), .val (.ref b217), .unset] [])) (fun _ k => XS.astore X220.here hx rfl (hb hby at_15) rfl rfl (l' := #[.val (.int p1), .val (.int p2), .val (.int p3), .val (.int p4), .val (.int p5), .val (.ref b217), .unset]) rfl k) ?_
  refine Rch.go (U' := T220.setTop (mkF m 19 #[.val (.int p1), .val (.int p2), .val (.int p3), .val (.int p4), .val (.int p5), .val (.ref b217), .unset] [(.ref b217)])) (fun _ k => XS.aload X220.here hx rfl (hb hby at_17) rfl rfl k) ?_
  obtain ⟨cq223, kq223, q223a, q223b, q223c⟩ := isOf hZ rfl f222
  obtain ⟨_, _, ⟨T223, L223, k223, n223⟩, -, X223, ⟨Lc223, hQ223, l223, y223, z223⟩, st223⟩ := X220.virtualBack hx (y := (⟨"com/example/ebb/ebb/StartBackoff", "isFailing", "()Z"⟩ : MethodName)) (z := (⟨"com/example/ebb/ebb/StartBackoff", "isFailing", "()Z"⟩ : MethodName)) hown (mvT hZ (wi hw 16 rfl)) (mvT hZ (wi hw 17 rfl)) (notFace_of_selects (args := #[]) (mvT hZ (wi hw 19 rfl))) (mvT hZ (wi hw 19 rfl)) (mvT hZ (wi hw 18 rfl)) (by decide) (backOf (W := 0) (rmIsF l Z a0 hw [] b217 (own_max (1 : Int32) (p1 &&& (2147483647 : Int32))) (0 : Int32) (0 : Int32) (0 : Int32) (0 : Int32) (0 : Int32) T220.heap n0 z221 f222 F220_maxWait F220_failedInRow F220_endedInRow F220_endedWait F220_wait F220_left) hZ (wi hw 20 rfl) (wi hw 2 rfl) (by decide) (by decide)) q223a q223c (g := (mkF m 19 #[.val (.int p1), .val (.int p2), .val (.int p3), .val (.int p4), .val (.int p5), .val (.ref b217), .unset] [(.ref b217)])) rfl (by rw [hml]; rfl) (Steps.refl _) (argsL := []) (rest := []) (lenOf pd_13 rfl) rfl (by show 2 * 0 + _ ≤ _; exact Nat.le_of_eq rfl) (hb hby at_19) (fun _ _ => ⟨rfl, rfl, (by decide : 1 + 0 ≤ _), (by decide : 6 + 0 ≤ _)⟩)
  dsimp only [Pt.U, Pt.locs, Pt.cells, Pt.slots] at X223 l223 y223 z223 st223 hQ223
  subst l223 y223 z223
  obtain ⟨rfl, N223q, e223⟩ := hQ223
  have N223 := Fr.app N220 N223q
  refine Rch.to (U' := T223.setTop (mkF m 22 #[.val (.int p1), .val (.int p2), .val (.int p3), .val (.int p4), .val (.int p5), .val (.ref b217), .unset] [(.int (own_pos (0 : Int32)))])) st223 ?_
  have br224 : (own_pos (0 : Int32)) = (0 : Int32) := (by decide)
  refine Rch.go (U' := T223.setTop (mkF m 27 #[.val (.int p1), .val (.int p2), .val (.int p3), .val (.int p4), .val (.int p5), .val (.ref b217), .unset] [])) (fun _ k => XS.ifYes X223.here hx rfl (pc0 := 22) (pc' := 27) rfl (hb hby at_22) rfl (XT.i0_eq_t br224) (by decide) (by decide) k) ?_
  refine Rch.go (U' := T223.setTop (mkF m 29 #[.val (.int p1), .val (.int p2), .val (.int p3), .val (.int p4), .val (.int p5), .val (.ref b217), .unset] [(.ref b217)])) (fun _ k => XS.aload X223.here hx rfl (hb hby at_27) rfl rfl k) ?_
  refine Rch.go (U' := T223.setTop (mkF m 30 #[.val (.int p1), .val (.int p2), .val (.int p3), .val (.int p4), .val (.int p5), .val (.ref b217), .unset] [(.int p2), (.ref b217)])) (fun _ k => XS.iloadN X223.here hx rfl (hb hby at_29) rfl  k) ?_
  refine Rch.go (U' := T223.setTop (mkF m 31 #[.val (.int p1), .val (.int p2), .val (.int p3), .val (.int p4), .val (.int p5), .val (.ref b217), .unset] [(.int (0 : Int32)), (.int p2), (.ref b217)])) (fun _ k => XS.iconst X223.here hx rfl (hb hby at_30) k) ?_
  obtain ⟨_, _, ⟨T225, L225, k225, n225⟩, -, X225, ⟨Lc225, hQ225, l225, y225, z225⟩, st225⟩ := Jvm.LawKit.callS X223 hx (y := (⟨"com/example/ebb/ebb/StartBackoffIsFailingPinLaw", "step", "(Lcom/example/ebb/ebb/StartBackoff;II)I"⟩ : MethodName)) hown (mvT hZ (wi hw 23 rfl)) (mvT hZ (wi hw 24 rfl)) (mvT hZ (wi hw 25 rfl)) (mvT hZ (wi hw 26 rfl)) (by decide) (backOf (W := 0) (rmStep l Z a0 hw [] b217 p2 (0 : Int32) (own_max (1 : Int32) (p1 &&& (2147483647 : Int32))) (0 : Int32) (0 : Int32) (0 : Int32) (0 : Int32) (0 : Int32) (0) T220.heap n0 z221 f222 F220_maxWait F220_failedInRow F220_endedInRow F220_endedWait F220_wait F220_left n0b217 (by decide) (⟨by decide, by decide, by decide⟩ : own_inv 0 0 0) (by decide)) hZ (wi hw 26 rfl) (wi hw 25 rfl) (by decide) (by decide)) (g := (mkF m 31 #[.val (.int p1), .val (.int p2), .val (.int p3), .val (.int p4), .val (.int p5), .val (.ref b217), .unset] [(.int (0 : Int32)), (.int p2), (.ref b217)])) rfl (by rw [hml]; rfl) (argsL := [(.ref b217), (.int p2), (.int (0 : Int32))]) (rest := []) (lenOf pd_15 rfl) rfl (by show 2 * 0 + _ ≤ _; exact Nat.le_of_eq rfl) (hb hby at_31) (fun _ _ => ⟨rfl, e223, (by decide : 1 + 0 ≤ _), (by decide : 6 + 0 ≤ _)⟩)
  dsimp only [Pt.U, Pt.locs, Pt.cells, Pt.slots] at X225 l225 y225 z225 st225 hQ225
  subst l225 y225 z225
  obtain ⟨fir225, wt225, lf225, eir225, ew225, rfl, N225q, K225q, F225_maxWait, F225_failedInRow, F225_endedInRow, F225_endedWait, F225_wait, F225_left, hI225⟩ := hQ225
  have N225 := Fr.app N223 N225q
  have z226 := Nat.le_trans z221 K225q.1
  have f227 := f222.keep K225q
  refine Rch.go (U' := T225.setTop (mkF m 34 #[.val (.int p1), .val (.int p2), .val (.int p3), .val (.int p4), .val (.int p5), .val (.ref b217), .unset] [(.int (own_pos fir225))])) st225 ?_
  refine Rch.go (U' := T225.setTop (mkF m 36 #[.val (.int p1), .val (.int p2), .val (.int p3), .val (.int p4), .val (.int p5), .val (.ref b217), .val (.int (own_pos fir225))] [])) (fun _ k => XS.istore X225.here hx rfl (hb hby at_34) rfl (l' := #[.val (.int p1), .val (.int p2), .val (.int p3), .val (.int p4), .val (.int p5), .val (.ref b217), .val (.int (own_pos fir225))]) rfl k) ?_
  refine Rch.go (U' := T225.setTop (mkF m 38 #[.val (.int p1), .val (.int p2), .val (.int p3), .val (.int p4), .val (.int p5), .val (.ref b217), .val (.int (own_pos fir225))] [(.int (own_pos fir225))])) (fun _ k => XS.iload X225.here hx rfl (hb hby at_36) rfl  k) ?_
  have br228 : ¬ ((own_pos fir225) < (0 : Int32)) := own_nn _
  refine Rch.go (U' := T225.setTop (mkF m 43 #[.val (.int p1), .val (.int p2), .val (.int p3), .val (.int p4), .val (.int p5), .val (.ref b217), .val (.int (own_pos fir225))] [])) (fun _ k => XS.ifYes X225.here hx rfl (pc0 := 38) (pc' := 43) rfl (hb hby at_38) rfl (XT.i0_ge_t br228) (by decide) (by decide) k) ?_
  refine Rch.go (U' := T225.setTop (mkF m 45 #[.val (.int p1), .val (.int p2), .val (.int p3), .val (.int p4), .val (.int p5), .val (.ref b217), .val (.int (own_pos fir225))] [(.ref b217)])) (fun _ k => XS.aload X225.here hx rfl (hb hby at_43) rfl rfl k) ?_
  refine Rch.go (U' := T225.setTop (mkF m 46 #[.val (.int p1), .val (.int p2), .val (.int p3), .val (.int p4), .val (.int p5), .val (.ref b217), .val (.int (own_pos fir225))] [(.int p3), (.ref b217)])) (fun _ k => XS.iloadN X225.here hx rfl (hb hby at_45) rfl  k) ?_
  refine Rch.go (U' := T225.setTop (mkF m 48 #[.val (.int p1), .val (.int p2), .val (.int p3), .val (.int p4), .val (.int p5), .val (.ref b217), .val (.int (own_pos fir225))] [(.int (own_pos fir225)), (.int p3), (.ref b217)])) (fun _ k => XS.iload X225.here hx rfl (hb hby at_46) rfl  k) ?_
  obtain ⟨_, _, ⟨T229, L229, k229, n229⟩, -, X229, ⟨Lc229, hQ229, l229, y229, z229⟩, st229⟩ := Jvm.LawKit.callS X225 hx (y := (⟨"com/example/ebb/ebb/StartBackoffIsFailingPinLaw", "step", "(Lcom/example/ebb/ebb/StartBackoff;II)I"⟩ : MethodName)) hown (mvT hZ (wi hw 23 rfl)) (mvT hZ (wi hw 24 rfl)) (mvT hZ (wi hw 25 rfl)) (mvT hZ (wi hw 26 rfl)) (by decide) (backOf (W := 0) (rmStep l Z a0 hw [] b217 p3 (own_pos fir225) (own_max (1 : Int32) (p1 &&& (2147483647 : Int32))) fir225 eir225 ew225 wt225 lf225 (0 + 1) T225.heap n0 z226 f227 F225_maxWait F225_failedInRow F225_endedInRow F225_endedWait F225_wait F225_left n0b217 rfl hI225 (by decide)) hZ (wi hw 26 rfl) (wi hw 25 rfl) (by decide) (by decide)) (g := (mkF m 48 #[.val (.int p1), .val (.int p2), .val (.int p3), .val (.int p4), .val (.int p5), .val (.ref b217), .val (.int (own_pos fir225))] [(.int (own_pos fir225)), (.int p3), (.ref b217)])) rfl (by rw [hml]; rfl) (argsL := [(.ref b217), (.int p3), (.int (own_pos fir225))]) (rest := []) (lenOf pd_15 rfl) rfl (by show 2 * 0 + _ ≤ _; exact Nat.le_of_eq rfl) (hb hby at_48) (fun _ _ => ⟨rfl, rfl, (by decide : 1 + 0 ≤ _), (by decide : 6 + 0 ≤ _)⟩)
  dsimp only [Pt.U, Pt.locs, Pt.cells, Pt.slots] at X229 l229 y229 z229 st229 hQ229
  subst l229 y229 z229
  obtain ⟨fir229, wt229, lf229, eir229, ew229, rfl, N229q, K229q, F229_maxWait, F229_failedInRow, F229_endedInRow, F229_endedWait, F229_wait, F229_left, hI229⟩ := hQ229
  have N229 := Fr.app N225 N229q
  have z230 := Nat.le_trans z226 K229q.1
  have f231 := f227.keep K229q
  refine Rch.go (U' := T229.setTop (mkF m 51 #[.val (.int p1), .val (.int p2), .val (.int p3), .val (.int p4), .val (.int p5), .val (.ref b217), .val (.int (own_pos fir225))] [(.int (own_pos fir229))])) st229 ?_
  refine Rch.go (U' := T229.setTop (mkF m 53 #[.val (.int p1), .val (.int p2), .val (.int p3), .val (.int p4), .val (.int p5), .val (.ref b217), .val (.int (own_pos fir229))] [])) (fun _ k => XS.istore X229.here hx rfl (hb hby at_51) rfl (l' := #[.val (.int p1), .val (.int p2), .val (.int p3), .val (.int p4), .val (.int p5), .val (.ref b217), .val (.int (own_pos fir229))]) rfl k) ?_
  refine Rch.go (U' := T229.setTop (mkF m 55 #[.val (.int p1), .val (.int p2), .val (.int p3), .val (.int p4), .val (.int p5), .val (.ref b217), .val (.int (own_pos fir229))] [(.int (own_pos fir229))])) (fun _ k => XS.iload X229.here hx rfl (hb hby at_53) rfl  k) ?_
  have br232 : ¬ ((own_pos fir229) < (0 : Int32)) := own_nn _
  refine Rch.go (U' := T229.setTop (mkF m 60 #[.val (.int p1), .val (.int p2), .val (.int p3), .val (.int p4), .val (.int p5), .val (.ref b217), .val (.int (own_pos fir229))] [])) (fun _ k => XS.ifYes X229.here hx rfl (pc0 := 55) (pc' := 60) rfl (hb hby at_55) rfl (XT.i0_ge_t br232) (by decide) (by decide) k) ?_
  refine Rch.go (U' := T229.setTop (mkF m 62 #[.val (.int p1), .val (.int p2), .val (.int p3), .val (.int p4), .val (.int p5), .val (.ref b217), .val (.int (own_pos fir229))] [(.ref b217)])) (fun _ k => XS.aload X229.here hx rfl (hb hby at_60) rfl rfl k) ?_
  refine Rch.go (U' := T229.setTop (mkF m 63 #[.val (.int p1), .val (.int p2), .val (.int p3), .val (.int p4), .val (.int p5), .val (.ref b217), .val (.int (own_pos fir229))] [(.int p4), (.ref b217)])) (fun _ k => XS.iloadN X229.here hx rfl (hb hby at_62) rfl  k) ?_
  refine Rch.go (U' := T229.setTop (mkF m 65 #[.val (.int p1), .val (.int p2), .val (.int p3), .val (.int p4), .val (.int p5), .val (.ref b217), .val (.int (own_pos fir229))] [(.int (own_pos fir229)), (.int p4), (.ref b217)])) (fun _ k => XS.iload X229.here hx rfl (hb hby at_63) rfl  k) ?_
  obtain ⟨_, _, ⟨T233, L233, k233, n233⟩, -, X233, ⟨Lc233, hQ233, l233, y233, z233⟩, st233⟩ := Jvm.LawKit.callS X229 hx (y := (⟨"com/example/ebb/ebb/StartBackoffIsFailingPinLaw", "step", "(Lcom/example/ebb/ebb/StartBackoff;II)I"⟩ : MethodName)) hown (mvT hZ (wi hw 23 rfl)) (mvT hZ (wi hw 24 rfl)) (mvT hZ (wi hw 25 rfl)) (mvT hZ (wi hw 26 rfl)) (by decide) (backOf (W := 0) (rmStep l Z a0 hw [] b217 p4 (own_pos fir229) (own_max (1 : Int32) (p1 &&& (2147483647 : Int32))) fir229 eir229 ew229 wt229 lf229 (0 + 1 + 1) T229.heap n0 z230 f231 F229_maxWait F229_failedInRow F229_endedInRow F229_endedWait F229_wait F229_left n0b217 rfl hI229 (by decide)) hZ (wi hw 26 rfl) (wi hw 25 rfl) (by decide) (by decide)) (g := (mkF m 65 #[.val (.int p1), .val (.int p2), .val (.int p3), .val (.int p4), .val (.int p5), .val (.ref b217), .val (.int (own_pos fir229))] [(.int (own_pos fir229)), (.int p4), (.ref b217)])) rfl (by rw [hml]; rfl) (argsL := [(.ref b217), (.int p4), (.int (own_pos fir229))]) (rest := []) (lenOf pd_15 rfl) rfl (by show 2 * 0 + _ ≤ _; exact Nat.le_of_eq rfl) (hb hby at_65) (fun _ _ => ⟨rfl, rfl, (by decide : 1 + 0 ≤ _), (by decide : 6 + 0 ≤ _)⟩)
  dsimp only [Pt.U, Pt.locs, Pt.cells, Pt.slots] at X233 l233 y233 z233 st233 hQ233
  subst l233 y233 z233
  obtain ⟨fir233, wt233, lf233, eir233, ew233, rfl, N233q, K233q, F233_maxWait, F233_failedInRow, F233_endedInRow, F233_endedWait, F233_wait, F233_left, hI233⟩ := hQ233
  have N233 := Fr.app N229 N233q
  have z234 := Nat.le_trans z230 K233q.1
  have f235 := f231.keep K233q
  refine Rch.go (U' := T233.setTop (mkF m 68 #[.val (.int p1), .val (.int p2), .val (.int p3), .val (.int p4), .val (.int p5), .val (.ref b217), .val (.int (own_pos fir229))] [(.int (own_pos fir233))])) st233 ?_
  refine Rch.go (U' := T233.setTop (mkF m 70 #[.val (.int p1), .val (.int p2), .val (.int p3), .val (.int p4), .val (.int p5), .val (.ref b217), .val (.int (own_pos fir233))] [])) (fun _ k => XS.istore X233.here hx rfl (hb hby at_68) rfl (l' := #[.val (.int p1), .val (.int p2), .val (.int p3), .val (.int p4), .val (.int p5), .val (.ref b217), .val (.int (own_pos fir233))]) rfl k) ?_
  refine Rch.go (U' := T233.setTop (mkF m 72 #[.val (.int p1), .val (.int p2), .val (.int p3), .val (.int p4), .val (.int p5), .val (.ref b217), .val (.int (own_pos fir233))] [(.int (own_pos fir233))])) (fun _ k => XS.iload X233.here hx rfl (hb hby at_70) rfl  k) ?_
  have br236 : ¬ ((own_pos fir233) < (0 : Int32)) := own_nn _
  refine Rch.go (U' := T233.setTop (mkF m 77 #[.val (.int p1), .val (.int p2), .val (.int p3), .val (.int p4), .val (.int p5), .val (.ref b217), .val (.int (own_pos fir233))] [])) (fun _ k => XS.ifYes X233.here hx rfl (pc0 := 72) (pc' := 77) rfl (hb hby at_72) rfl (XT.i0_ge_t br236) (by decide) (by decide) k) ?_
  refine Rch.go (U' := T233.setTop (mkF m 79 #[.val (.int p1), .val (.int p2), .val (.int p3), .val (.int p4), .val (.int p5), .val (.ref b217), .val (.int (own_pos fir233))] [(.ref b217)])) (fun _ k => XS.aload X233.here hx rfl (hb hby at_77) rfl rfl k) ?_
  refine Rch.go (U' := T233.setTop (mkF m 81 #[.val (.int p1), .val (.int p2), .val (.int p3), .val (.int p4), .val (.int p5), .val (.ref b217), .val (.int (own_pos fir233))] [(.int p5), (.ref b217)])) (fun _ k => XS.iload X233.here hx rfl (hb hby at_79) rfl  k) ?_
  refine Rch.go (U' := T233.setTop (mkF m 83 #[.val (.int p1), .val (.int p2), .val (.int p3), .val (.int p4), .val (.int p5), .val (.ref b217), .val (.int (own_pos fir233))] [(.int (own_pos fir233)), (.int p5), (.ref b217)])) (fun _ k => XS.iload X233.here hx rfl (hb hby at_81) rfl  k) ?_
  obtain ⟨_, _, ⟨T237, L237, k237, n237⟩, -, X237, ⟨Lc237, hQ237, l237, y237, z237⟩, st237⟩ := Jvm.LawKit.callS X233 hx (y := (⟨"com/example/ebb/ebb/StartBackoffIsFailingPinLaw", "step", "(Lcom/example/ebb/ebb/StartBackoff;II)I"⟩ : MethodName)) hown (mvT hZ (wi hw 23 rfl)) (mvT hZ (wi hw 24 rfl)) (mvT hZ (wi hw 25 rfl)) (mvT hZ (wi hw 26 rfl)) (by decide) (backOf (W := 0) (rmStep l Z a0 hw [] b217 p5 (own_pos fir233) (own_max (1 : Int32) (p1 &&& (2147483647 : Int32))) fir233 eir233 ew233 wt233 lf233 (0 + 1 + 1 + 1) T233.heap n0 z234 f235 F233_maxWait F233_failedInRow F233_endedInRow F233_endedWait F233_wait F233_left n0b217 rfl hI233 (by decide)) hZ (wi hw 26 rfl) (wi hw 25 rfl) (by decide) (by decide)) (g := (mkF m 83 #[.val (.int p1), .val (.int p2), .val (.int p3), .val (.int p4), .val (.int p5), .val (.ref b217), .val (.int (own_pos fir233))] [(.int (own_pos fir233)), (.int p5), (.ref b217)])) rfl (by rw [hml]; rfl) (argsL := [(.ref b217), (.int p5), (.int (own_pos fir233))]) (rest := []) (lenOf pd_15 rfl) rfl (by show 2 * 0 + _ ≤ _; exact Nat.le_of_eq rfl) (hb hby at_83) (fun _ _ => ⟨rfl, rfl, (by decide : 1 + 0 ≤ _), (by decide : 6 + 0 ≤ _)⟩)
  dsimp only [Pt.U, Pt.locs, Pt.cells, Pt.slots] at X237 l237 y237 z237 st237 hQ237
  subst l237 y237 z237
  obtain ⟨fir237, wt237, lf237, eir237, ew237, rfl, N237q, K237q, F237_maxWait, F237_failedInRow, F237_endedInRow, F237_endedWait, F237_wait, F237_left, hI237⟩ := hQ237
  have N237 := Fr.app N233 N237q
  have z238 := Nat.le_trans z234 K237q.1
  have f239 := f235.keep K237q
  refine Rch.go (U' := T237.setTop (mkF m 86 #[.val (.int p1), .val (.int p2), .val (.int p3), .val (.int p4), .val (.int p5), .val (.ref b217), .val (.int (own_pos fir233))] [(.int (own_pos fir237))])) st237 ?_
  refine Rch.go (U' := T237.setTop (mkF m 88 #[.val (.int p1), .val (.int p2), .val (.int p3), .val (.int p4), .val (.int p5), .val (.ref b217), .val (.int (own_pos fir237))] [])) (fun _ k => XS.istore X237.here hx rfl (hb hby at_86) rfl (l' := #[.val (.int p1), .val (.int p2), .val (.int p3), .val (.int p4), .val (.int p5), .val (.ref b217), .val (.int (own_pos fir237))]) rfl k) ?_
  refine Rch.go (U' := T237.setTop (mkF m 90 #[.val (.int p1), .val (.int p2), .val (.int p3), .val (.int p4), .val (.int p5), .val (.ref b217), .val (.int (own_pos fir237))] [(.int (own_pos fir237))])) (fun _ k => XS.iload X237.here hx rfl (hb hby at_88) rfl  k) ?_
  have br240 : ¬ ((own_pos fir237) < (0 : Int32)) := own_nn _
  refine Rch.go (U' := T237.setTop (mkF m 93 #[.val (.int p1), .val (.int p2), .val (.int p3), .val (.int p4), .val (.int p5), .val (.ref b217), .val (.int (own_pos fir237))] [])) (fun _ k => XS.ifNo X237.here hx rfl (hb hby at_90) rfl (XT.i0_lt_f br240) k) ?_
  refine Rch.go (U' := T237.setTop (mkF m 94 #[.val (.int p1), .val (.int p2), .val (.int p3), .val (.int p4), .val (.int p5), .val (.ref b217), .val (.int (own_pos fir237))] [(.int (1 : Int32))])) (fun _ k => XS.iconst X237.here hx rfl (hb hby at_93) k) ?_
  refine Rch.go (U' := T237.setTop (mkF m 98 #[.val (.int p1), .val (.int p2), .val (.int p3), .val (.int p4), .val (.int p5), .val (.ref b217), .val (.int (own_pos fir237))] [(.int (1 : Int32))])) (fun _ k => XS.goto X237.here hx rfl (pc0 := 94) (pc' := 98) rfl (hb hby at_94) (by decide) (by decide) k) ?_
  refine Rch.fin X237 hlk (v := some (.int (nar .boolean (1 : Int32)))) (fun h => by rw [hret] at h; cases h) rfl (by decide) (by decide) (fun fs hr => retN X237 hx (t := .boolean) hret (by simp) (hb hby at_98) hr) ?_
  exact ⟨rfl, N237⟩
set_option maxRecDepth 65536 in
set_option maxHeartbeats 40000000 in
theorem comes_1 {Post : Tables → Env → Array Value → State → Outcome → State → Prop} (hpost : ∀ tb e args s v u, (limb_1_1.after args s (.returned v) u = true ∧ limb_1_2.after args s (.returned v) u = true ∧ True) → FrameEnd s (.returned v) u (Jvm.fieldLocs frame_1_writes args s ++ Jvm.arrayLocs frame_1_arrays args s ++ Jvm.staticLocs frame_1_statics s) 16 128 → Post tb e args s (.returned v) u) :
    ArmFor flags0 classFile x code maxLocals ret World_1 tables_1 room_1 Calls_1 rest_1 Pre_1 Post := by
  intro l hfl _ _ p e ha hc hk s m args below hf hA hF happ hP
  obtain ⟨hcalls, hrest, hpre⟩ := hP
  obtain ⟨-, -, -, hnamed, -, -, -, hat⟩ := (Spec.applies_iff hf).mp happ
  obtain ⟨hg, hn⟩ := and_e (Cond.before_iff.mp (show (Jvm.Cond.and given_1 narrow_1).before args s = true from hpre))
  obtain ⟨hcount, hg0⟩ := and_e hg
  obtain ⟨ga0, hg1⟩ := and_e hg0
  obtain ⟨ga1, hg2⟩ := and_e hg1
  obtain ⟨ga2, hg3⟩ := and_e hg2
  obtain ⟨ga3, hg4⟩ := and_e hg3
  obtain ⟨w0, w1, w2, w3, w4, rfl⟩ : ∃ w0 w1 w2 w3 w4 : Value, args = #[w0, w1, w2, w3, w4] := by
    have hs : args.size = 5 := by simpa [Cond.value, given_1] using hcount
    obtain ⟨L⟩ := args
    match L, hs with
    | [w0, w1, w2, w3, w4], _ => exact ⟨w0, w1, w2, w3, w4, rfl⟩
  have hw := fun d (hd : d ∈ tables_1) => atoms_spec (ws := Jvm.Cond.code x code maxLocals ret :: tables_1) hat d (List.mem_cons_of_mem _ hd)
  obtain ⟨i0, ei0⟩ := is_v ga0
  obtain rfl : w0 = (.int i0) := Option.some.inj ei0
  obtain ⟨i1, ei1⟩ := is_v ga1
  obtain rfl : w1 = (.int i1) := Option.some.inj ei1
  obtain ⟨i2, ei2⟩ := is_v ga2
  obtain rfl : w2 = (.int i2) := Option.some.inj ei2
  obtain ⟨i3, ei3⟩ := is_v ga3
  obtain rfl : w3 = (.int i3) := Option.some.inj ei3
  obtain ⟨i4, ei4⟩ := is_v hg4
  obtain rfl : w4 = (.int i4) := Option.some.inj ei4
  obtain ⟨n, o, h1, h2, h3, _, L, rfl, ⟨rfl, N⟩, hq⟩ := rm0 l s _ hw tables_1 i0 i1 i2 i3 i4 s.heap s.heap.size (Nat.le_refl _)  p e ha hc hk s m _ below hf ((Spec.applies_iff_loose hf).mp happ).1 ⟨rfl, State.Warmed39.refl s, rfl⟩ trivial
  refine ⟨n, _, h1, h2, h3, hpost _ _ _ _ _ _ ⟨Cond.after_iff.mpr rfl, Cond.after_iff.mpr (eq_i res_at (Term.int_eval (1)) rfl), trivial⟩ ⟨hq.1, hq.2.1, (hq.2.2.sift fun y hy => Or.inr (N y hy)).mono (by decide) (by decide)⟩⟩
theorem main_1_1 : Claimed_1_1 := comes_1 fun _ _ _ _ _ _ h hF => ⟨h.1, hF⟩
theorem main_1_2 : Claimed_1_2 := comes_1 fun _ _ _ _ _ _ h hF => ⟨h.2.1, hF⟩
end Jvm.Pilot.@@N@@
namespace Jvm.Pilot.@@N@@
open Jvm Jvm.ClassFile Sem Op Lib Jvm.Free Jvm.Stand Jvm.Pilot.@@N@@.Jvm.D
/-! MADE BY PROGRAM (witnessworld.py) out of the Statement's table words and the real class files: 10 classes; the members and pool entries that the words name. The judged class is class 1, her method 1. -/
namespace start1
open Jvm.ClassFile
def u (s : String) : CpInfo := .utf8 (stringToUtf16 s)
/-- a pool by its gaps: so many unusable entries, then the entry; so many at the end -/
def gap : Nat → List CpInfo → List CpInfo
  | 0, r => r
  | n + 1, r => .unusable :: gap n r
def poolList (es : List (Nat × CpInfo)) (last : Nat) : List CpInfo := es.foldr (fun e r => gap e.1 (e.2 :: r)) (gap last [])
def pool (es : List (Nat × CpInfo)) (last : Nat) : Array CpInfo := ⟨poolList es last⟩
def fileOf (pool : Array CpInfo) (this : Nat) (attrs : Array Attribute := #[]) (ms : Array MethodInfo := #[]) (fl : Nat := 33) (sup : Nat := 0) (ifs : Array Nat := #[]) (fds : Array FieldInfo := #[]) : ClassFile where
  minorVersion := 0
  majorVersion := 65
  constantPool := pool
  accessFlags := fl
  thisClass := this
  superClass := sup
  interfaces := ifs
  fields := fds
  methods := ms
  attributes := attrs
def plain (name : String) (sup : Option ClassId) : Class where
  name := name
  kind := .ordinary
  loader := none
  accessFlags := 33
  super := sup
  interfaces := #[]
  cf := none
  fields := #[]
  methods := #[]
  instanceTypes := #[]
  staticTypes := #[]
  resolved := #[]
  callSites := []
  init := .initialized
  statics := none
  mirror := none

def pool0 : Array CpInfo := pool [(5, u "<init>"), (0, u "()V"), (1, .class_ 10), (1, u "java/lang/Object")] 113

def k0c0 : Code := { maxStack := 0, maxLocals := 1, code := object_method_1_code, exceptionTable := #[], attributes := #[] }
def k0m0 : Method := { name := "<init>", desc := "()V", sig := { parameters := [], returnType := none }, accessFlags := 1, code := some k0c0 }
/-- java/lang/Object -/
def k0 : Class := { plain "java/lang/Object" none with
  accessFlags := 33
  interfaces := #[]
  cf := some (fileOf pool0 8 #[] #[{ accessFlags := 1, nameIndex := 5, descriptorIndex := 6, attributes := #[] }] 33 0 #[] #[])
  fields := #[]
  methods := #[k0m0]
  instanceTypes := #[]
  staticTypes := #[]
  resolved := Array.replicate 124 none
  statics := none }

def pool1 : Array CpInfo := pool [(2, .class_ 4), (1, u "java/lang/Object"), (0, u "<init>"), (0, u "()V"), (0, .class_ 8), (0, u "com/example/ebb/ebb/StartBackoff"), (0, .integer 2147483647), (0, .methodref 11 12), (0, .class_ 13), (0, .nameAndType 14 15), (0, u "java/lang/Math"), (0, u "max"), (0, u "(II)I"), (0, .methodref 7 17), (0, .nameAndType 5 18), (0, u "(I)V"), (0, .methodref 7 20), (0, .nameAndType 21 22), (0, u "isFailing"), (0, u "()Z"), (0, .methodref 24 25), (0, .class_ 26), (0, .nameAndType 27 28), (0, u "com/example/ebb/ebb/StartBackoffIsFailingPinLaw"), (0, u "step"), (0, u "(Lcom/example/ebb/ebb/StartBackoff;II)I"), (0, .methodref 7 30), (0, .nameAndType 31 32), (0, u "failed"), (0, u "()I"), (0, .methodref 7 34), (0, .nameAndType 35 32), (0, u "failedOnceReady"), (0, .methodref 7 37), (0, .nameAndType 38 6), (0, u "ready"), (0, .methodref 7 40), (0, .nameAndType 41 6), (0, u "lasted"), (0, .methodref 7 43), (0, .nameAndType 44 6), (0, u "evaluated"), (2, u "law"), (0, u "(IIIII)Z")] 3

def k1m0 : Method := { name := "<init>", desc := "()V", sig := { parameters := [], returnType := none }, accessFlags := 1, code := none }
def k1c1 : Code := { maxStack := 5, maxLocals := 7, code := code, exceptionTable := #[], attributes := #[] }
def k1m1 : Method := { name := "law", desc := "(IIIII)Z", sig := { parameters := [.int, .int, .int, .int, .int], returnType := some .boolean }, accessFlags := 9, code := some k1c1 }
def k1c2 : Code := { maxStack := 3, maxLocals := 5, code := method_3_code, exceptionTable := #[], attributes := #[] }
def k1m2 : Method := { name := "step", desc := "(Lcom/example/ebb/ebb/StartBackoff;II)I", sig := { parameters := [(.object "com/example/ebb/ebb/StartBackoff"), .int, .int], returnType := some .int }, accessFlags := 10, code := some k1c2 }
/-- com/example/ebb/ebb/StartBackoffIsFailingPinLaw -/
def k1 : Class := { plain "com/example/ebb/ebb/StartBackoffIsFailingPinLaw" (some 0) with
  accessFlags := 49
  interfaces := #[]
  cf := some (fileOf pool1 24 #[] #[{ accessFlags := 1, nameIndex := 5, descriptorIndex := 6, attributes := #[] }, { accessFlags := 9, nameIndex := 47, descriptorIndex := 48, attributes := #[] }, { accessFlags := 10, nameIndex := 27, descriptorIndex := 28, attributes := #[] }] 49 2 #[] #[])
  fields := #[]
  methods := #[k1m0, k1m1, k1m2]
  instanceTypes := #[]
  staticTypes := #[]
  resolved := Array.replicate 52 none
  statics := none }

def pool2 : Array CpInfo := pool [(1, .methodref 2 3), (0, .class_ 4), (0, .nameAndType 5 6), (0, u "java/lang/Object"), (0, u "<init>"), (0, u "()V"), (0, .fieldref 8 9), (0, .class_ 10), (0, .nameAndType 11 12), (0, u "com/example/ebb/ebb/StartBackoff"), (0, u "maxWait"), (0, u "I"), (0, .fieldref 8 14), (0, .nameAndType 15 12), (0, u "failedInRow"), (0, .fieldref 8 17), (0, .nameAndType 18 12), (0, u "left"), (0, .fieldref 8 20), (0, .nameAndType 21 12), (0, u "wait"), (0, .methodref 23 24), (0, .class_ 25), (0, .nameAndType 26 27), (0, u "java/lang/Math"), (0, u "max"), (0, u "(II)I"), (0, .methodref 23 29), (0, .nameAndType 30 27), (0, u "min"), (0, .fieldref 8 32), (0, .nameAndType 33 12), (0, u "endedInRow"), (0, .fieldref 8 35), (0, .nameAndType 36 12), (0, u "endedWait"), (0, .methodref 8 38), (0, .nameAndType 39 40), (0, u "failed"), (0, u "()I"), (0, u "(I)V"), (3, u "failedOnceReady"), (0, u "ready"), (0, u "lasted"), (0, u "evaluated"), (0, u "isFailing"), (0, u "()Z")] 3

def k2c0 : Code := { maxStack := 2, maxLocals := 2, code := prog_22_method_1_code, exceptionTable := #[], attributes := #[] }
def k2m0 : Method := { name := "<init>", desc := "(I)V", sig := { parameters := [.int], returnType := none }, accessFlags := 0, code := some k2c0 }
def k2c1 : Code := { maxStack := 3, maxLocals := 2, code := prog_22_method_2_code, exceptionTable := #[], attributes := #[] }
def k2m1 : Method := { name := "failed", desc := "()I", sig := { parameters := [], returnType := some .int }, accessFlags := 0, code := some k2c1 }
def k2c2 : Code := { maxStack := 3, maxLocals := 1, code := prog_22_method_3_code, exceptionTable := #[], attributes := #[] }
def k2m2 : Method := { name := "failedOnceReady", desc := "()I", sig := { parameters := [], returnType := some .int }, accessFlags := 0, code := some k2c2 }
def k2c3 : Code := { maxStack := 3, maxLocals := 1, code := prog_22_method_4_code, exceptionTable := #[], attributes := #[] }
def k2m3 : Method := { name := "ready", desc := "()V", sig := { parameters := [], returnType := none }, accessFlags := 0, code := some k2c3 }
def k2c4 : Code := { maxStack := 2, maxLocals := 1, code := prog_22_method_5_code, exceptionTable := #[], attributes := #[] }
def k2m4 : Method := { name := "lasted", desc := "()V", sig := { parameters := [], returnType := none }, accessFlags := 0, code := some k2c4 }
def k2c5 : Code := { maxStack := 3, maxLocals := 1, code := prog_22_method_6_code, exceptionTable := #[], attributes := #[] }
def k2m5 : Method := { name := "evaluated", desc := "()V", sig := { parameters := [], returnType := none }, accessFlags := 0, code := some k2c5 }
def k2c6 : Code := { maxStack := 1, maxLocals := 1, code := prog_22_method_7_code, exceptionTable := #[], attributes := #[] }
def k2m6 : Method := { name := "isFailing", desc := "()Z", sig := { parameters := [], returnType := some .boolean }, accessFlags := 0, code := some k2c6 }
/-- com/example/ebb/ebb/StartBackoff -/
def k2 : Class := { plain "com/example/ebb/ebb/StartBackoff" (some 0) with
  accessFlags := 48
  interfaces := #[]
  cf := some (fileOf pool2 8 #[] #[{ accessFlags := 0, nameIndex := 5, descriptorIndex := 41, attributes := #[] }, { accessFlags := 0, nameIndex := 39, descriptorIndex := 40, attributes := #[] }, { accessFlags := 0, nameIndex := 45, descriptorIndex := 40, attributes := #[] }, { accessFlags := 0, nameIndex := 46, descriptorIndex := 6, attributes := #[] }, { accessFlags := 0, nameIndex := 47, descriptorIndex := 6, attributes := #[] }, { accessFlags := 0, nameIndex := 48, descriptorIndex := 6, attributes := #[] }, { accessFlags := 0, nameIndex := 49, descriptorIndex := 50, attributes := #[] }] 48 2 #[] #[{ accessFlags := 18, nameIndex := 11, descriptorIndex := 12, attributes := #[] }, { accessFlags := 2, nameIndex := 15, descriptorIndex := 12, attributes := #[] }, { accessFlags := 2, nameIndex := 21, descriptorIndex := 12, attributes := #[] }, { accessFlags := 2, nameIndex := 18, descriptorIndex := 12, attributes := #[] }, { accessFlags := 2, nameIndex := 33, descriptorIndex := 12, attributes := #[] }, { accessFlags := 2, nameIndex := 36, descriptorIndex := 12, attributes := #[] }])
  fields := #[{ name := "maxWait", type := .int, accessFlags := 18, slot := 0, constantValue := 0 }, { name := "failedInRow", type := .int, accessFlags := 2, slot := 1, constantValue := 0 }, { name := "wait", type := .int, accessFlags := 2, slot := 2, constantValue := 0 }, { name := "left", type := .int, accessFlags := 2, slot := 3, constantValue := 0 }, { name := "endedInRow", type := .int, accessFlags := 2, slot := 4, constantValue := 0 }, { name := "endedWait", type := .int, accessFlags := 2, slot := 5, constantValue := 0 }]
  methods := #[k2m0, k2m1, k2m2, k2m3, k2m4, k2m5, k2m6]
  instanceTypes := #[.int, .int, .int, .int, .int, .int]
  staticTypes := #[]
  resolved := Array.replicate 54 none
  statics := none }

def pool3 : Array CpInfo := pool [(1, .class_ 2), (0, u "java/lang/Math"), (1, .class_ 6), (1, u "java/lang/Object"), (0, u "<init>"), (0, u "()V"), (89, .class_ 100), (1, u "java/lang/Math$RandomNumberGeneratorHolder"), (71, u "negativeZeroFloatBits"), (0, u "J"), (2, u "negativeZeroDoubleBits"), (21, u "max"), (2, u "min"), (43, u "$assertionsDisabled"), (0, u "Z"), (88, u "(II)I"), (2, u "twoToTheDoubleScaleDown"), (0, u "D"), (4, u "twoToTheDoubleScaleUp"), (9, u "E"), (3, u "PI"), (2, u "TAU"), (2, u "DEGREES_TO_RADIANS"), (0, u "RADIANS_TO_DEGREES")] 94

def k3m0 : Method := { name := "<init>", desc := "()V", sig := { parameters := [], returnType := none }, accessFlags := 2, code := none }
def k3c1 : Code := { maxStack := 2, maxLocals := 2, code := jdk_29_method_65_code, exceptionTable := #[], attributes := #[] }
def k3m1 : Method := { name := "max", desc := "(II)I", sig := { parameters := [.int, .int], returnType := some .int }, accessFlags := 9, code := some k3c1 }
def k3c2 : Code := { maxStack := 2, maxLocals := 2, code := jdk_29_method_69_code, exceptionTable := #[], attributes := #[] }
def k3m2 : Method := { name := "min", desc := "(II)I", sig := { parameters := [.int, .int], returnType := some .int }, accessFlags := 9, code := some k3c2 }
/-- java/lang/Math -/
def k3 : Class := { plain "java/lang/Math" (some 0) with
  accessFlags := 49
  interfaces := #[]
  cf := some (fileOf pool3 1 #[.nestMembers #[98]] #[{ accessFlags := 2, nameIndex := 7, descriptorIndex := 8, attributes := #[] }, { accessFlags := 9, nameIndex := 198, descriptorIndex := 335, attributes := #[] }, { accessFlags := 9, nameIndex := 201, descriptorIndex := 335, attributes := #[] }] 49 4 #[] #[{ accessFlags := 25, nameIndex := 354, descriptorIndex := 339, attributes := #[] }, { accessFlags := 25, nameIndex := 358, descriptorIndex := 339, attributes := #[] }, { accessFlags := 25, nameIndex := 361, descriptorIndex := 339, attributes := #[] }, { accessFlags := 26, nameIndex := 364, descriptorIndex := 339, attributes := #[] }, { accessFlags := 26, nameIndex := 365, descriptorIndex := 339, attributes := #[] }, { accessFlags := 26, nameIndex := 172, descriptorIndex := 173, attributes := #[] }, { accessFlags := 26, nameIndex := 176, descriptorIndex := 173, attributes := #[] }, { accessFlags := 8, nameIndex := 344, descriptorIndex := 339, attributes := #[] }, { accessFlags := 8, nameIndex := 338, descriptorIndex := 339, attributes := #[] }, { accessFlags := 4120, nameIndex := 245, descriptorIndex := 246, attributes := #[] }])
  fields := #[{ name := "E", type := .double, accessFlags := 25, slot := 0, constantValue := 0 }, { name := "PI", type := .double, accessFlags := 25, slot := 1, constantValue := 0 }, { name := "TAU", type := .double, accessFlags := 25, slot := 2, constantValue := 0 }, { name := "DEGREES_TO_RADIANS", type := .double, accessFlags := 26, slot := 3, constantValue := 0 }, { name := "RADIANS_TO_DEGREES", type := .double, accessFlags := 26, slot := 4, constantValue := 0 }, { name := "negativeZeroFloatBits", type := .long, accessFlags := 26, slot := 5, constantValue := 0 }, { name := "negativeZeroDoubleBits", type := .long, accessFlags := 26, slot := 6, constantValue := 0 }, { name := "twoToTheDoubleScaleUp", type := .double, accessFlags := 8, slot := 7, constantValue := 0 }, { name := "twoToTheDoubleScaleDown", type := .double, accessFlags := 8, slot := 8, constantValue := 0 }, { name := "$assertionsDisabled", type := .boolean, accessFlags := 4120, slot := 9, constantValue := 0 }]
  methods := #[k3m0, k3m1, k3m2]
  instanceTypes := #[]
  staticTypes := #[.double, .double, .double, .double, .double, .long, .long, .double, .double, .boolean]
  resolved := Array.replicate 460 none
  statics := none }

def pool4 : Array CpInfo := pool [(1, u "java/lang/Cloneable"), (0, .class_ 1), (0, u "java/lang/Object"), (0, .class_ 3)] 3

/-- java/lang/Cloneable -/
def k4 : Class := { plain "java/lang/Cloneable" (some 0) with
  accessFlags := 1537
  interfaces := #[]
  cf := some (fileOf pool4 2 #[] #[] 1537 4 #[] #[])
  fields := #[]
  methods := #[]
  instanceTypes := #[]
  staticTypes := #[]
  resolved := Array.replicate 8 none
  statics := none }

def pool5 : Array CpInfo := pool [(1, u "java/io/Serializable"), (0, .class_ 1), (0, u "java/lang/Object"), (0, .class_ 3)] 3

/-- java/io/Serializable -/
def k5 : Class := { plain "java/io/Serializable" (some 0) with
  accessFlags := 1537
  interfaces := #[]
  cf := some (fileOf pool5 2 #[] #[] 1537 4 #[] #[])
  fields := #[]
  methods := #[]
  instanceTypes := #[]
  staticTypes := #[]
  resolved := Array.replicate 8 none
  statics := none }

/-- the primitive byte -/
def k6 : Class := { plain "byte" none with kind := .primitive 'B', accessFlags := 0x411 }
/-- [B -/
def k7 : Class := { plain "[B" (some 0) with kind := .array 6 .byte, interfaces := #[4, 5], accessFlags := 1041 }

/-- the primitive int -/
def k8 : Class := { plain "int" none with kind := .primitive 'I', accessFlags := 0x411 }
/-- [I -/
def k9 : Class := { plain "[I" (some 0) with kind := .array 8 .int, interfaces := #[4, 5], accessFlags := 1041 }

def heap : Heap := #[]
def classes : Array Class := #[k0, k1, k2, k3, k4, k5, k6, k7, k8, k9]
def interned : List (Array UInt16 × Addr) := []
def slotsUsed : Nat := 0
def theMethod : MethodId := ⟨1, 1⟩
def args0 : Array Value := #[.int 5, .int 1, .int 2, .int 3, .int 4]
def aboutOver (below : List Frame) : State where
  vm := { classes := classes, interned := interned.toArray }
  heap := heap
  slotsUsed := slotsUsed
  threads := #[{ frames := .invoking theMethod args0 :: below }]
def below0 : List Frame := [.native { method := ⟨0, 0⟩, args := #[] }]
def about1 : State := aboutOver below0
def p0 : Program := .bare "" "" ""
def e0 : Env := launch0.env 0 0 0
theorem w_frames : about1.frames = Frame.invoking theMethod args0 :: below0 := rfl
set_option maxRecDepth 65536 in
theorem w_args : argsFit about1.vm theMethod args0 = true := by decide +kernel
set_option maxRecDepth 65536 in
theorem w_heap : heapFits about1 = true := by decide +kernel
set_option maxRecDepth 65536 in
theorem w_runnable : about1.curStatus? = some .runnable := by decide +kernel
set_option maxRecDepth 65536 in
theorem w_alone : about1.alone = true := by decide +kernel
set_option maxRecDepth 65536 in
theorem w_named : about1.methodNamed? x = some theMethod := by decide +kernel
set_option maxRecDepth 65536 in
theorem w_hears : about1.hears theMethod below0 = true := by decide +kernel
set_option maxRecDepth 65536 in
theorem w_ripe : about1.ripe theMethod args0 below0 = true := by decide +kernel
theorem w_running : about1.status = .running := rfl
set_option maxRecDepth 65536 in
theorem w_room : about1.hasRoom e0.platform room_1 = true :=
  launch0.hasRoom_least _ room_1 (by decide +kernel) (by decide +kernel) (by decide +kernel) (by decide +kernel) (by decide +kernel) (by decide +kernel)
theorem allAtoms_all (ts : List Jvm.Cond) (a : Array Jvm.Value) (st : Jvm.State) : (allAtoms ts).before a st = ts.all (fun c => c.before a st) := by
  induction ts with
  | nil => rfl
  | cons c t ih =>
    show (Jvm.Cond.and c (allAtoms t)).before a st = _
    rw [Jvm.Cond.before_and, ih, List.all_cons]
def words1 : List Jvm.Cond := Jvm.Cond.code x code maxLocals ret :: tables_1
/-- a 'code' word, met by the world's own term for the bytes: nothing is compared byte by byte -/
theorem code_word {y : MethodName} {bytes : ByteArray} {mx : Nat} {rt : Option FieldType} {a : Array Value} {s : State} {m : MethodId} {meth : Method} {c : Code} (h1 : s.methodNamed? y = some m) (h2 : s.vm.method? m = some meth) (h3 : meth.code = some c) (h4 : c.code = bytes)
    (h5 : (c.maxLocals == mx && c.exceptionTable.isEmpty && decide (c.maxStack ≤ mostOperands) && decide (meth.sig.returnType = rt) && !meth.locks && decide (parseMethodDescriptor y.desc = some meth.sig)) = true) : (Jvm.Cond.code y bytes mx rt).before a s = true := by
  simp only [Bool.and_eq_true, beq_iff_eq, Bool.not_eq_true', decide_eq_true_eq] at h5
  obtain ⟨⟨⟨⟨⟨g1, g2⟩, g3⟩, g4⟩, g5⟩, g6⟩ := h5
  simp [Cond.before, Cond.holds, Cond.value, h1, h2, h3, h4, g1, g2, g3, g4, g5, g6]
def isCode : Jvm.Cond → Bool
  | .code _ _ _ _ => true
  | _ => false
theorem all_split {L : List Jvm.Cond} {P : Jvm.Cond → Bool} (h1 : L.all (fun c => isCode c || P c) = true) (h2 : ∀ c ∈ L.filter isCode, P c = true) : L.all P = true := by
  refine List.all_eq_true.mpr fun c hc => ?_
  have h := List.all_eq_true.mp h1 c hc
  rcases Bool.eq_false_or_eq_true (isCode c) with hi | hi
  · exact h2 c (List.mem_filter.mpr ⟨hc, hi⟩)
  · simpa [hi] using h
set_option maxRecDepth 65536 in
theorem w_c0 : (Jvm.Cond.code x code maxLocals ret).before args0 about1 = true := code_word (m := ⟨1, 1⟩) (meth := k1m1) (c := k1c1) (by decide +kernel) rfl rfl rfl (by decide +kernel)
set_option maxRecDepth 65536 in
theorem w_c1 : (Jvm.Cond.code ({ cls := "java/lang/Math", name := "max", desc := "(II)I" } : Jvm.MethodName) jdk_29_method_65_code (2 : Nat) (Option.some Jvm.ClassFile.FieldType.int)).before args0 about1 = true := code_word (m := ⟨3, 1⟩) (meth := k3m1) (c := k3c1) (by decide +kernel) rfl rfl rfl (by decide +kernel)
set_option maxRecDepth 65536 in
theorem w_c2 : (Jvm.Cond.code ({ cls := "com/example/ebb/ebb/StartBackoff", name := "<init>", desc := "(I)V" } : Jvm.MethodName) prog_22_method_1_code (2 : Nat) (Option.none : Option Jvm.ClassFile.FieldType)).before args0 about1 = true := code_word (m := ⟨2, 0⟩) (meth := k2m0) (c := k2c0) (by decide +kernel) rfl rfl rfl (by decide +kernel)
set_option maxRecDepth 65536 in
theorem w_c3 : (Jvm.Cond.code ({ cls := "java/lang/Object", name := "<init>", desc := "()V" } : Jvm.MethodName) object_method_1_code (1 : Nat) (Option.none : Option Jvm.ClassFile.FieldType)).before args0 about1 = true := code_word (m := ⟨0, 0⟩) (meth := k0m0) (c := k0c0) (by decide +kernel) rfl rfl rfl (by decide +kernel)
set_option maxRecDepth 65536 in
theorem w_c4 : (Jvm.Cond.code ({ cls := "com/example/ebb/ebb/StartBackoff", name := "isFailing", desc := "()Z" } : Jvm.MethodName) prog_22_method_7_code (1 : Nat) (Option.some Jvm.ClassFile.FieldType.boolean)).before args0 about1 = true := code_word (m := ⟨2, 6⟩) (meth := k2m6) (c := k2c6) (by decide +kernel) rfl rfl rfl (by decide +kernel)
set_option maxRecDepth 65536 in
theorem w_c5 : (Jvm.Cond.code ({ cls := "com/example/ebb/ebb/StartBackoffIsFailingPinLaw", name := "step", desc := "(Lcom/example/ebb/ebb/StartBackoff;II)I" } : Jvm.MethodName) method_3_code (5 : Nat) (Option.some Jvm.ClassFile.FieldType.int)).before args0 about1 = true := code_word (m := ⟨1, 2⟩) (meth := k1m2) (c := k1c2) (by decide +kernel) rfl rfl rfl (by decide +kernel)
set_option maxRecDepth 65536 in
theorem w_c6 : (Jvm.Cond.code ({ cls := "com/example/ebb/ebb/StartBackoff", name := "lasted", desc := "()V" } : Jvm.MethodName) prog_22_method_5_code (1 : Nat) (Option.none : Option Jvm.ClassFile.FieldType)).before args0 about1 = true := code_word (m := ⟨2, 4⟩) (meth := k2m4) (c := k2c4) (by decide +kernel) rfl rfl rfl (by decide +kernel)
set_option maxRecDepth 65536 in
theorem w_c7 : (Jvm.Cond.code ({ cls := "com/example/ebb/ebb/StartBackoff", name := "ready", desc := "()V" } : Jvm.MethodName) prog_22_method_4_code (1 : Nat) (Option.none : Option Jvm.ClassFile.FieldType)).before args0 about1 = true := code_word (m := ⟨2, 3⟩) (meth := k2m3) (c := k2c3) (by decide +kernel) rfl rfl rfl (by decide +kernel)
set_option maxRecDepth 65536 in
theorem w_c8 : (Jvm.Cond.code ({ cls := "com/example/ebb/ebb/StartBackoff", name := "failedOnceReady", desc := "()I" } : Jvm.MethodName) prog_22_method_3_code (1 : Nat) (Option.some Jvm.ClassFile.FieldType.int)).before args0 about1 = true := code_word (m := ⟨2, 2⟩) (meth := k2m2) (c := k2c2) (by decide +kernel) rfl rfl rfl (by decide +kernel)
set_option maxRecDepth 65536 in
theorem w_c9 : (Jvm.Cond.code ({ cls := "com/example/ebb/ebb/StartBackoff", name := "failed", desc := "()I" } : Jvm.MethodName) prog_22_method_2_code (2 : Nat) (Option.some Jvm.ClassFile.FieldType.int)).before args0 about1 = true := code_word (m := ⟨2, 1⟩) (meth := k2m1) (c := k2c1) (by decide +kernel) rfl rfl rfl (by decide +kernel)
set_option maxRecDepth 65536 in
theorem w_c10 : (Jvm.Cond.code ({ cls := "java/lang/Math", name := "min", desc := "(II)I" } : Jvm.MethodName) jdk_29_method_69_code (2 : Nat) (Option.some Jvm.ClassFile.FieldType.int)).before args0 about1 = true := code_word (m := ⟨3, 2⟩) (meth := k3m2) (c := k3c2) (by decide +kernel) rfl rfl rfl (by decide +kernel)
set_option maxRecDepth 65536 in
theorem w_c11 : (Jvm.Cond.code ({ cls := "com/example/ebb/ebb/StartBackoff", name := "evaluated", desc := "()V" } : Jvm.MethodName) prog_22_method_6_code (1 : Nat) (Option.none : Option Jvm.ClassFile.FieldType)).before args0 about1 = true := code_word (m := ⟨2, 5⟩) (meth := k2m5) (c := k2c5) (by decide +kernel) rfl rfl rfl (by decide +kernel)
def codes1 : List Jvm.Cond := [Jvm.Cond.code x code maxLocals ret, Jvm.Cond.code ({ cls := "java/lang/Math", name := "max", desc := "(II)I" } : Jvm.MethodName) jdk_29_method_65_code (2 : Nat) (Option.some Jvm.ClassFile.FieldType.int), Jvm.Cond.code ({ cls := "com/example/ebb/ebb/StartBackoff", name := "<init>", desc := "(I)V" } : Jvm.MethodName) prog_22_method_1_code (2 : Nat) (Option.none : Option Jvm.ClassFile.FieldType), Jvm.Cond.code ({ cls := "java/lang/Object", name := "<init>", desc := "()V" } : Jvm.MethodName) object_method_1_code (1 : Nat) (Option.none : Option Jvm.ClassFile.FieldType), Jvm.Cond.code ({ cls := "com/example/ebb/ebb/StartBackoff", name := "isFailing", desc := "()Z" } : Jvm.MethodName) prog_22_method_7_code (1 : Nat) (Option.some Jvm.ClassFile.FieldType.boolean), Jvm.Cond.code ({ cls := "com/example/ebb/ebb/StartBackoffIsFailingPinLaw", name := "step", desc := "(Lcom/example/ebb/ebb/StartBackoff;II)I" } : Jvm.MethodName) method_3_code (5 : Nat) (Option.some Jvm.ClassFile.FieldType.int), Jvm.Cond.code ({ cls := "com/example/ebb/ebb/StartBackoff", name := "lasted", desc := "()V" } : Jvm.MethodName) prog_22_method_5_code (1 : Nat) (Option.none : Option Jvm.ClassFile.FieldType), Jvm.Cond.code ({ cls := "com/example/ebb/ebb/StartBackoff", name := "ready", desc := "()V" } : Jvm.MethodName) prog_22_method_4_code (1 : Nat) (Option.none : Option Jvm.ClassFile.FieldType), Jvm.Cond.code ({ cls := "com/example/ebb/ebb/StartBackoff", name := "failedOnceReady", desc := "()I" } : Jvm.MethodName) prog_22_method_3_code (1 : Nat) (Option.some Jvm.ClassFile.FieldType.int), Jvm.Cond.code ({ cls := "com/example/ebb/ebb/StartBackoff", name := "failed", desc := "()I" } : Jvm.MethodName) prog_22_method_2_code (2 : Nat) (Option.some Jvm.ClassFile.FieldType.int), Jvm.Cond.code ({ cls := "java/lang/Math", name := "min", desc := "(II)I" } : Jvm.MethodName) jdk_29_method_69_code (2 : Nat) (Option.some Jvm.ClassFile.FieldType.int), Jvm.Cond.code ({ cls := "com/example/ebb/ebb/StartBackoff", name := "evaluated", desc := "()V" } : Jvm.MethodName) prog_22_method_6_code (1 : Nat) (Option.none : Option Jvm.ClassFile.FieldType)]
set_option maxRecDepth 65536 in
theorem codes_eq : words1.filter isCode = codes1 := rfl
theorem w_codes : ∀ c ∈ words1.filter isCode, c.before args0 about1 = true := by
  rw [codes_eq]
  intro c hc
  simp only [codes1, List.mem_cons, List.not_mem_nil, or_false] at hc
  rcases hc with rfl | rfl | rfl | rfl | rfl | rfl | rfl | rfl | rfl | rfl | rfl | rfl
  · exact w_c0
  · exact w_c1
  · exact w_c2
  · exact w_c3
  · exact w_c4
  · exact w_c5
  · exact w_c6
  · exact w_c7
  · exact w_c8
  · exact w_c9
  · exact w_c10
  · exact w_c11
set_option maxRecDepth 65536 in
theorem w_t1 : (words1.take 24).all (fun c => isCode c || c.before args0 about1) = true := by decide +kernel
set_option maxRecDepth 65536 in
theorem w_t2 : ((words1.drop 24).take 24).all (fun c => isCode c || c.before args0 about1) = true := by decide +kernel
set_option maxRecDepth 65536 in
theorem w_t3 : ((words1.drop 24).drop 24).all (fun c => isCode c || c.before args0 about1) = true := by decide +kernel
theorem w_tables : (allAtoms (Jvm.Cond.code x code maxLocals ret :: tables_1)).before args0 about1 = true := by
  rw [allAtoms_all]
  show words1.all (fun c => c.before args0 about1) = true
  refine all_split ?_ w_codes
  rw [← List.take_append_drop 24 words1, List.all_append, w_t1, ← List.take_append_drop 24 (words1.drop 24), List.all_append, w_t2, w_t3]
  rfl
set_option maxRecDepth 65536 in
theorem w_case : (Jvm.Cond.and given_1 narrow_1).before args0 about1 = true := by decide +kernel
theorem w_applies : (headSpec (Jvm.Cond.code x code maxLocals ret :: tables_1) room_1).applies x e0.platform about1 = true :=
  (Spec.applies_iff w_frames).mpr ⟨w_running, w_runnable, w_alone, w_named, w_hears, w_ripe, w_room, w_tables⟩
theorem atStart : AtStart classFile x code maxLocals ret World_1 tables_1 room_1 Calls_1 rest_1 Pre_1 launch0 p0 e0 about1 theMethod args0 below0 :=
  ⟨lists_1, trivial, launch0.admits_env _ _ _, launch0.least_env, fairChoices_fair.cas, fairChoices_fair.clock, w_frames, w_args, w_heap, w_applies, trivial, trivial, w_case⟩
end start1
theorem witness_1 : WitnessClaimed_1 := ⟨start1.p0, start1.e0, start1.about1, start1.theMethod, start1.args0, start1.below0, start1.atStart⟩
end Jvm.Pilot.@@N@@
