import JvmDerived
import JvmDerived.Pilot.@@N@@Statement
import JvmDerived.Pilot.@@N@@Code
set_option linter.unusedVariables false
set_option linter.unusedSimpArgs false
namespace Jvm.RoadKit
open Sem ClassFile Op Lib Jvm.Stand Jvm.Free Jvm.LawKit
section New
variable {p : Program} {l : Launch} {e : Env} {R : Room} {s : State} {m : MethodId} {args : Array Value} {below : List Frame} {meth : Method} {c : Code} {T : State} {locs : List Loc} {cells slots : Nat}
theorem retI (X : Stand p l e R s m args below meth c T locs cells slots) (hx : p.tables.exec = Jvm.exec) {pc : Nat} {Ls : Array Slot} {z : Int32} {rest : List Value} (hret : meth.sig.returnType = some .int) (hd : decode c.code pc = .ok (.ireturn, 1)) {fs : List Frame}
    (hl : ∀ (f : JFrame) (acts : List Action), f.method = m → f.locked = none → f.entered = [] → (doReturn e (T.setTop f) acts (some (.int z))).1 = T.setFrames fs) : Steps p.tables e below (T.setTop (mkF m pc Ls (.int z :: rest))) (T.setFrames fs) := by
  have hm' : T.vm.method? m = some meth := X.method'
  have hn : narrow .int (.int z) = .int z := rfl
  show Steps p.tables e below (T.setTop { method := m, pc := pc, locals := Ls, stack := _ :: rest, locked := none }) _
  jvm_step X.here [X.here.top, hx, hd, hm', hret, hn]
  first | (intro acts; rw [hl _ acts rfl rfl rfl]) | rw [hl _ _ rfl rfl rfl]
  exact Steps.refl _
/-- a run from U comes to a state of which K holds -/
def Rch (p : Program) (e : Env) (below : List Frame) (K : State → Prop) (U : State) : Prop := ∃ s₂, Steps p.tables e below U s₂ ∧ K s₂
theorem Rch.go {K : State → Prop} {U U' : State} (h : ∀ t, Steps p.tables e below U' t → Steps p.tables e below U t) (k : Rch p e below K U') : Rch p e below K U := by
  obtain ⟨s₂, a, b⟩ := k; exact ⟨s₂, h _ a, b⟩
theorem Rch.to {K : State → Prop} {U U' : State} (h : Steps p.tables e below U U') (k : Rch p e below K U') : Rch p e below K U := by
  obtain ⟨s₂, a, b⟩ := k; exact ⟨s₂, h.trans a, b⟩
theorem Rch.then {K K' : State → Prop} {U : State} (h : Rch p e below K U) (f : ∀ V, K V → Rch p e below K' V) : Rch p e below K' U := by
  obtain ⟨s₂, a, b⟩ := h; exact Rch.to a (f _ b)
/-- the body is left: what it returned and what it leaves -/
def Fin (s : State) (below : List Frame) (Q : Option Value → Heap → List Loc → Prop) (k n : Nat) (s₂ : State) : Prop :=
  ∃ o, s₂.status = .running ∧ Ended s₂ below o ∧ ∃ v L, o = .returned v ∧ Q v s₂.heap L ∧ FrameEnd s o s₂ L k n
theorem Rch.fin {Q : Option Value → Heap → List Loc → Prop} {k n : Nat} {U : State} {h : Heap} (X : Stand p l e R s m args below meth c T locs cells slots) (hlk : meth.locks = false) {v : Option Value} (hv : meth.sig.returnType = none → v = none) (eT : T.heap = h) (hc : cells ≤ k) (hn : slots ≤ n)
    (st : ∀ fs, (∀ (f : JFrame) (acts : List Action), f.method = m → f.locked = none → f.entered = [] → (doReturn e (T.setTop f) acts v).1 = T.setFrames fs) → Steps p.tables e below U (T.setFrames fs)) (hQ : Q v h locs) : Rch p e below (Fin s below Q k n) U := by
  obtain ⟨fs, hr, hrun, hended, hW, hsame⟩ := X.leave hv hlk
  refine ⟨_, st fs hr, _, hrun, hended, v, locs, rfl, ?_, ⟨_, rfl⟩, hW, hsame.mono hc hn⟩
  show Q v T.heap locs
  rw [eT]; exact hQ
theorem Rch.body {Q : Option Value → Heap → List Loc → Prop} {k n : Nat} {U U' : State} (h : ∀ t, Steps p.tables e below U' t → Steps p.tables e below U t) (H : Rch p e below (Fin s below Q k n) U') :
    ∃ s₂ o, Steps p.tables e below U s₂ ∧ s₂.status = .running ∧ Ended s₂ below o ∧ (∃ v L, o = .returned v ∧ Q v s₂.heap L ∧ FrameEnd s o s₂ L k n) := by
  obtain ⟨s₂, a, o, b, c, d⟩ := H; exact ⟨s₂, o, h _ a, b, c, d⟩
/-- the same, said with the wide end (a String constant may have been interned) -/
def FinW (s : State) (below : List Frame) (Q : Option Value → Heap → List Loc → Prop) (k n : Nat) (s₂ : State) : Prop :=
  ∃ o, s₂.status = .running ∧ Ended s₂ below o ∧ ∃ v L, o = .returned v ∧ Q v s₂.heap L ∧ ReturnedEndW s o s₂ L k n
theorem Rch.finW {Q : Option Value → Heap → List Loc → Prop} {k n : Nat} {U : State} {h : Heap} {vm₁ : Vm} {n1 : Nat} (X : Stand p l e R (s.setVm vm₁) m args below meth c T locs cells slots) (hlk : meth.locks = false) {v : Option Value} (hv : meth.sig.returnType = none → v = none) (eT : T.heap = h) (hc : cells ≤ k) (hn : slots ≤ n)
    (hS : s.Since vm₁ n1) (hk : n1 ≤ h.size) (st : ∀ fs, (∀ (f : JFrame) (acts : List Action), f.method = m → f.locked = none → f.entered = [] → (doReturn e (T.setTop f) acts v).1 = T.setFrames fs) → Steps p.tables e below U (T.setFrames fs)) (hQ : Q v h locs) : Rch p e below (FinW s below Q k n) U := by
  obtain ⟨fs, hr, hrun, hended, hE⟩ := X.leaveW hS (by rw [eT]; exact hk) hv hlk
  refine ⟨_, st fs hr, _, hrun, hended, v, locs, rfl, ?_, hE.1, hE.2.1, hE.2.2.1, hE.2.2.2.mono hc hn⟩
  show Q v T.heap locs
  rw [eT]; exact hQ
theorem Rch.bodyW {Q : Option Value → Heap → List Loc → Prop} {k n : Nat} {U U' : State} (h : ∀ t, Steps p.tables e below U' t → Steps p.tables e below U t) (H : Rch p e below (FinW s below Q k n) U') :
    ∃ s₂ o, Steps p.tables e below U s₂ ∧ s₂.status = .running ∧ Ended s₂ below o ∧ (∃ v L, o = .returned v ∧ Q v s₂.heap L ∧ ReturnedEndW s o s₂ L k n) := by
  obtain ⟨s₂, a, o, b, c, d⟩ := H; exact ⟨s₂, o, h _ a, b, c, d⟩
theorem nar_1 : nar .boolean 1 = 1 := rfl
theorem nar_0 : nar .boolean 0 = 0 := rfl
end New
end Jvm.RoadKit
namespace Jvm.Pilot.@@N@@
open Jvm Jvm.ClassFile Sem Op Lib Jvm.Free Jvm.Stand Jvm.LawKit Jvm.RoadKit Bundle Jvm.Pilot.@@N@@.Jvm.D
theorem wi {Z : State} {a0 : Array Value} (hw : ∀ d ∈ tables_1, d.before a0 Z = true) (i : Nat) {d : Jvm.Cond} (h : tables_1[i]? = some d) : d.before a0 Z = true := hw d (List.mem_of_getElem? h)
/-- what isStart answers -/
def own_start (c : Int32) : Int32 := if c < 65 then (if c < 97 then 0 else if 122 < c then 0 else 1) else if 90 < c then (if c < 97 then 0 else if 122 < c then 0 else 1) else 1
theorem own_at (c : Int32) (n : Nat) (h : c.toInt = n) : c = Int32.ofInt n := by rw [← h]; exact (Int32.ofInt_toInt c).symm
def own_exp (f : Int32) : Int32 := if f < 97 then 0 else if 122 < f then 0 else 1
theorem own_small : ∀ n : Fin 128, own_start (Int32.ofInt n.val) = own_exp (Int32.ofInt n.val ||| 32) := by decide +kernel
theorem own_law (c : Int32) (h0 : 0 ≤ c.toInt) (h1 : c.toInt < 65536) : own_start c = own_exp (c ||| 32) := by
  by_cases h : c.toInt < 128
  · obtain ⟨n, hn⟩ : ∃ n : Nat, c.toInt = n := ⟨c.toInt.toNat, by omega⟩
    have := own_small ⟨n, by omega⟩
    rw [own_at c n hn]; exact this
  · have h2 := (c_or0 c 32 h0 (by decide)).1
    have e1 : ¬ c < 65 := by rw [Int32.lt_iff_toInt_lt]; show ¬ c.toInt < 65; omega
    have e2 : 90 < c := by rw [Int32.lt_iff_toInt_lt]; show 90 < c.toInt; omega
    have e3 : ¬ c < 97 := by rw [Int32.lt_iff_toInt_lt]; show ¬ c.toInt < 97; omega
    have e4 : 122 < c := by rw [Int32.lt_iff_toInt_lt]; show 122 < c.toInt; omega
    have e5 : ¬ (c ||| 32) < 97 := by rw [Int32.lt_iff_toInt_lt]; show ¬ (c ||| 32).toInt < 97; omega
    have e6 : 122 < (c ||| 32) := by rw [Int32.lt_iff_toInt_lt]; show 122 < (c ||| 32).toInt; omega
    simp only [own_start, own_exp, e1, e2, e3, e4, e5, e6, ↓reduceIte]
theorem d3_0 : decode prog_161_method_2_code 0 = .ok (.iload_n 0, 1) := by decide +kernel
theorem d3_1 : decode prog_161_method_2_code 1 = .ok (.bipush 65, 2) := by decide +kernel
theorem d3_3 : decode prog_161_method_2_code 3 = .ok (.if_icmp .lt 9, 3) := by decide +kernel
theorem d3_6 : decode prog_161_method_2_code 6 = .ok (.iload_n 0, 1) := by decide +kernel
theorem d3_7 : decode prog_161_method_2_code 7 = .ok (.bipush 90, 2) := by decide +kernel
theorem d3_9 : decode prog_161_method_2_code 9 = .ok (.if_icmp .le 15, 3) := by decide +kernel
theorem d3_12 : decode prog_161_method_2_code 12 = .ok (.iload_n 0, 1) := by decide +kernel
theorem d3_13 : decode prog_161_method_2_code 13 = .ok (.bipush 97, 2) := by decide +kernel
theorem d3_15 : decode prog_161_method_2_code 15 = .ok (.if_icmp .lt 13, 3) := by decide +kernel
theorem d3_18 : decode prog_161_method_2_code 18 = .ok (.iload_n 0, 1) := by decide +kernel
theorem d3_19 : decode prog_161_method_2_code 19 = .ok (.bipush 122, 2) := by decide +kernel
theorem d3_21 : decode prog_161_method_2_code 21 = .ok (.if_icmp .gt 7, 3) := by decide +kernel
theorem d3_24 : decode prog_161_method_2_code 24 = .ok (.iconst 1, 1) := by decide +kernel
theorem d3_25 : decode prog_161_method_2_code 25 = .ok (.goto 4, 3) := by decide +kernel
theorem d3_28 : decode prog_161_method_2_code 28 = .ok (.iconst 0, 1) := by decide +kernel
theorem d3_29 : decode prog_161_method_2_code 29 = .ok (.ireturn, 1) := by decide +kernel
theorem pn_com_example_interlock_interlock_schedule_Names : plainName "com/example/interlock/interlock/schedule/Names" = true := by first | (simp [plainName, overriddenIn]; done) | decide +kernel
theorem ef_rm1 (m : MethodId) (p1 : Int32) : entryFrame m #[(.int p1)] 1 = mkF m 0 #[.val (.int p1)] [] := by first | (simp [entryFrame, mkF, argsToLocals, Value.category]; done) | rfl
def Q_rm1 (Z : State) (p1 : Int32) (h0 : Heap) (n0 : Nat) (v : Option Value) (h : Heap) (L : List Loc) : Prop := v = some (.int (own_start p1)) ∧ Fr n0 L ∧ h = h0
set_option maxRecDepth 65536 in
set_option maxHeartbeats 40000000 in
theorem rm1 (l : Launch) (Z : State) (a0 : Array Value) (hw : ∀ d ∈ tables_1, d.before a0 Z = true) (ws : List Jvm.Cond) (p1 : Int32) (h0 : Heap) (n0 : Nat) (Z0 : n0 ≤ h0.size)  :
    MetFree l (⟨"com/example/interlock/interlock/schedule/Names", "isStart", "(C)Z"⟩ : MethodName) (head1 (Jvm.Cond.code (⟨"com/example/interlock/interlock/schedule/Names", "isStart", "(C)Z"⟩ : MethodName) prog_161_method_2_code 1 (some .boolean) :: ws) ({ frames := 0, cells := 0, slots := 0, locals := 0 } : Room)) (fun a U => a = #[(.int p1)] ∧ Z.Warmed39 U.vm ∧ U.heap = h0) (fun _ _ _ _ _ => True) (fun _ U o U' => ∃ v L, o = .returned v ∧ Q_rm1 Z p1 h0 n0 v U'.heap L ∧ FrameEnd U o U' L ({ frames := 0, cells := 0, slots := 0, locals := 0 } : Room).cells ({ frames := 0, cells := 0, slots := 0, locals := 0 } : Room).slots) := by
  refine MetFree.of_bodySF (plainFor_of_name pn_com_example_interlock_interlock_schedule_Names) hisR ?_
  intro p e s m args below meth c s₁ Bd hml0 hP hK
  obtain ⟨rfl, hZ, hh⟩ := hP
  have hx := Bd.exec
  have hby := Bd.bytes
  have hml : c.maxLocals = 1 := hml0
  have hown : s.vm.findClass "com/example/interlock/interlock/schedule/Names" = some m.cls := findClass_of_methodNamed Bd.named
  have hnm := (name_of_methodNamed Bd.named Bd.method).1
  have hret := Bd.returns
  have hlk : meth.locks = false := BodyLoose.notSynchronized Bd
  have X0 : Stand p l e ({ frames := 0, cells := 0, slots := 0, locals := 0 } : Room) s m #[(.int p1)] below meth c s₁ [] 0 0 := Stand.of_body Bd
  have e0 : s₁.heap = h0 := by rw [← hh, Bd.state]; rfl
  have N0 := Fr.nil n0
  refine Rch.body (Q := Q_rm1 Z p1 h0 n0) (U' := s₁.setTop (mkF m 0 #[.val (.int p1)] [])) (fun t k => castTop (ef_rm1 m p1) k) ?_
  refine Rch.go (U' := s₁.setTop (mkF m 1 #[.val (.int p1)] [(.int p1)])) (fun _ k => XS.iloadN X0.here hx rfl (hb hby d3_0) rfl  k) ?_
  refine Rch.go (U' := s₁.setTop (mkF m 3 #[.val (.int p1)] [(.int (65 : Int32)), (.int p1)])) (fun _ k => XS.bipush X0.here hx rfl (hb hby d3_1) k) ?_
  by_cases br1 : p1 < (65 : Int32)
  ·
    refine Rch.go (U' := s₁.setTop (mkF m 12 #[.val (.int p1)] [])) (fun _ k => XS.icmpYes X0.here hx rfl (pc0 := 3) (pc' := 12) rfl (hb hby d3_3) rfl (XT.ii_lt_t br1) (by decide) (by decide) k) ?_
    refine Rch.go (U' := s₁.setTop (mkF m 13 #[.val (.int p1)] [(.int p1)])) (fun _ k => XS.iloadN X0.here hx rfl (hb hby d3_12) rfl  k) ?_
    refine Rch.go (U' := s₁.setTop (mkF m 15 #[.val (.int p1)] [(.int (97 : Int32)), (.int p1)])) (fun _ k => XS.bipush X0.here hx rfl (hb hby d3_13) k) ?_
    by_cases br2 : p1 < (97 : Int32)
    ·
      refine Rch.go (U' := s₁.setTop (mkF m 28 #[.val (.int p1)] [])) (fun _ k => XS.icmpYes X0.here hx rfl (pc0 := 15) (pc' := 28) rfl (hb hby d3_15) rfl (XT.ii_lt_t br2) (by decide) (by decide) k) ?_
      refine Rch.go (U' := s₁.setTop (mkF m 29 #[.val (.int p1)] [(.int (0 : Int32))])) (fun _ k => XS.iconst X0.here hx rfl (hb hby d3_28) k) ?_
      refine Rch.fin X0 hlk (v := some (.int (nar .boolean (0 : Int32)))) (fun h => by rw [hret] at h; cases h) e0 (by decide) (by decide) (fun fs hr => retN X0 hx (t := .boolean) hret (by simp) (hb hby d3_29) hr) ?_
      exact ⟨by simp [own_start, br1, br2, nar_1, nar_0], N0, rfl⟩
    ·
      refine Rch.go (U' := s₁.setTop (mkF m 18 #[.val (.int p1)] [])) (fun _ k => XS.icmpNo X0.here hx rfl (hb hby d3_15) rfl (XT.ii_lt_f br2) k) ?_
      refine Rch.go (U' := s₁.setTop (mkF m 19 #[.val (.int p1)] [(.int p1)])) (fun _ k => XS.iloadN X0.here hx rfl (hb hby d3_18) rfl  k) ?_
      refine Rch.go (U' := s₁.setTop (mkF m 21 #[.val (.int p1)] [(.int (122 : Int32)), (.int p1)])) (fun _ k => XS.bipush X0.here hx rfl (hb hby d3_19) k) ?_
      by_cases br3 : (122 : Int32) < p1
      ·
        refine Rch.go (U' := s₁.setTop (mkF m 28 #[.val (.int p1)] [])) (fun _ k => XS.icmpYes X0.here hx rfl (pc0 := 21) (pc' := 28) rfl (hb hby d3_21) rfl (XT.ii_gt_t br3) (by decide) (by decide) k) ?_
        refine Rch.go (U' := s₁.setTop (mkF m 29 #[.val (.int p1)] [(.int (0 : Int32))])) (fun _ k => XS.iconst X0.here hx rfl (hb hby d3_28) k) ?_
        refine Rch.fin X0 hlk (v := some (.int (nar .boolean (0 : Int32)))) (fun h => by rw [hret] at h; cases h) e0 (by decide) (by decide) (fun fs hr => retN X0 hx (t := .boolean) hret (by simp) (hb hby d3_29) hr) ?_
        exact ⟨by simp [own_start, br1, br2, br3, nar_1, nar_0], N0, rfl⟩
      ·
        refine Rch.go (U' := s₁.setTop (mkF m 24 #[.val (.int p1)] [])) (fun _ k => XS.icmpNo X0.here hx rfl (hb hby d3_21) rfl (XT.ii_gt_f br3) k) ?_
        refine Rch.go (U' := s₁.setTop (mkF m 25 #[.val (.int p1)] [(.int (1 : Int32))])) (fun _ k => XS.iconst X0.here hx rfl (hb hby d3_24) k) ?_
        refine Rch.go (U' := s₁.setTop (mkF m 29 #[.val (.int p1)] [(.int (1 : Int32))])) (fun _ k => XS.goto X0.here hx rfl (pc0 := 25) (pc' := 29) rfl (hb hby d3_25) (by decide) (by decide) k) ?_
        refine Rch.fin X0 hlk (v := some (.int (nar .boolean (1 : Int32)))) (fun h => by rw [hret] at h; cases h) e0 (by decide) (by decide) (fun fs hr => retN X0 hx (t := .boolean) hret (by simp) (hb hby d3_29) hr) ?_
        exact ⟨by simp [own_start, br1, br2, br3, nar_1, nar_0], N0, rfl⟩
  ·
    refine Rch.go (U' := s₁.setTop (mkF m 6 #[.val (.int p1)] [])) (fun _ k => XS.icmpNo X0.here hx rfl (hb hby d3_3) rfl (XT.ii_lt_f br1) k) ?_
    refine Rch.go (U' := s₁.setTop (mkF m 7 #[.val (.int p1)] [(.int p1)])) (fun _ k => XS.iloadN X0.here hx rfl (hb hby d3_6) rfl  k) ?_
    refine Rch.go (U' := s₁.setTop (mkF m 9 #[.val (.int p1)] [(.int (90 : Int32)), (.int p1)])) (fun _ k => XS.bipush X0.here hx rfl (hb hby d3_7) k) ?_
    by_cases br4 : (90 : Int32) < p1
    ·
      refine Rch.go (U' := s₁.setTop (mkF m 12 #[.val (.int p1)] [])) (fun _ k => XS.icmpNo X0.here hx rfl (hb hby d3_9) rfl (XT.ii_le_f br4) k) ?_
      refine Rch.go (U' := s₁.setTop (mkF m 13 #[.val (.int p1)] [(.int p1)])) (fun _ k => XS.iloadN X0.here hx rfl (hb hby d3_12) rfl  k) ?_
      refine Rch.go (U' := s₁.setTop (mkF m 15 #[.val (.int p1)] [(.int (97 : Int32)), (.int p1)])) (fun _ k => XS.bipush X0.here hx rfl (hb hby d3_13) k) ?_
      by_cases br5 : p1 < (97 : Int32)
      ·
        refine Rch.go (U' := s₁.setTop (mkF m 28 #[.val (.int p1)] [])) (fun _ k => XS.icmpYes X0.here hx rfl (pc0 := 15) (pc' := 28) rfl (hb hby d3_15) rfl (XT.ii_lt_t br5) (by decide) (by decide) k) ?_
        refine Rch.go (U' := s₁.setTop (mkF m 29 #[.val (.int p1)] [(.int (0 : Int32))])) (fun _ k => XS.iconst X0.here hx rfl (hb hby d3_28) k) ?_
        refine Rch.fin X0 hlk (v := some (.int (nar .boolean (0 : Int32)))) (fun h => by rw [hret] at h; cases h) e0 (by decide) (by decide) (fun fs hr => retN X0 hx (t := .boolean) hret (by simp) (hb hby d3_29) hr) ?_
        exact ⟨by simp [own_start, br1, br4, br5, nar_1, nar_0], N0, rfl⟩
      ·
        refine Rch.go (U' := s₁.setTop (mkF m 18 #[.val (.int p1)] [])) (fun _ k => XS.icmpNo X0.here hx rfl (hb hby d3_15) rfl (XT.ii_lt_f br5) k) ?_
        refine Rch.go (U' := s₁.setTop (mkF m 19 #[.val (.int p1)] [(.int p1)])) (fun _ k => XS.iloadN X0.here hx rfl (hb hby d3_18) rfl  k) ?_
        refine Rch.go (U' := s₁.setTop (mkF m 21 #[.val (.int p1)] [(.int (122 : Int32)), (.int p1)])) (fun _ k => XS.bipush X0.here hx rfl (hb hby d3_19) k) ?_
        by_cases br6 : (122 : Int32) < p1
        ·
          refine Rch.go (U' := s₁.setTop (mkF m 28 #[.val (.int p1)] [])) (fun _ k => XS.icmpYes X0.here hx rfl (pc0 := 21) (pc' := 28) rfl (hb hby d3_21) rfl (XT.ii_gt_t br6) (by decide) (by decide) k) ?_
          refine Rch.go (U' := s₁.setTop (mkF m 29 #[.val (.int p1)] [(.int (0 : Int32))])) (fun _ k => XS.iconst X0.here hx rfl (hb hby d3_28) k) ?_
          refine Rch.fin X0 hlk (v := some (.int (nar .boolean (0 : Int32)))) (fun h => by rw [hret] at h; cases h) e0 (by decide) (by decide) (fun fs hr => retN X0 hx (t := .boolean) hret (by simp) (hb hby d3_29) hr) ?_
          exact ⟨by simp [own_start, br1, br4, br5, br6, nar_1, nar_0], N0, rfl⟩
        ·
          refine Rch.go (U' := s₁.setTop (mkF m 24 #[.val (.int p1)] [])) (fun _ k => XS.icmpNo X0.here hx rfl (hb hby d3_21) rfl (XT.ii_gt_f br6) k) ?_
          refine Rch.go (U' := s₁.setTop (mkF m 25 #[.val (.int p1)] [(.int (1 : Int32))])) (fun _ k => XS.iconst X0.here hx rfl (hb hby d3_24) k) ?_
          refine Rch.go (U' := s₁.setTop (mkF m 29 #[.val (.int p1)] [(.int (1 : Int32))])) (fun _ k => XS.goto X0.here hx rfl (pc0 := 25) (pc' := 29) rfl (hb hby d3_25) (by decide) (by decide) k) ?_
          refine Rch.fin X0 hlk (v := some (.int (nar .boolean (1 : Int32)))) (fun h => by rw [hret] at h; cases h) e0 (by decide) (by decide) (fun fs hr => retN X0 hx (t := .boolean) hret (by simp) (hb hby d3_29) hr) ?_
          exact ⟨by simp [own_start, br1, br4, br5, br6, nar_1, nar_0], N0, rfl⟩
    ·
      refine Rch.go (U' := s₁.setTop (mkF m 24 #[.val (.int p1)] [])) (fun _ k => XS.icmpYes X0.here hx rfl (pc0 := 9) (pc' := 24) rfl (hb hby d3_9) rfl (XT.ii_le_t br4) (by decide) (by decide) k) ?_
      refine Rch.go (U' := s₁.setTop (mkF m 25 #[.val (.int p1)] [(.int (1 : Int32))])) (fun _ k => XS.iconst X0.here hx rfl (hb hby d3_24) k) ?_
      refine Rch.go (U' := s₁.setTop (mkF m 29 #[.val (.int p1)] [(.int (1 : Int32))])) (fun _ k => XS.goto X0.here hx rfl (pc0 := 25) (pc' := 29) rfl (hb hby d3_25) (by decide) (by decide) k) ?_
      refine Rch.fin X0 hlk (v := some (.int (nar .boolean (1 : Int32)))) (fun h => by rw [hret] at h; cases h) e0 (by decide) (by decide) (fun fs hr => retN X0 hx (t := .boolean) hret (by simp) (hb hby d3_29) hr) ?_
      exact ⟨by simp [own_start, br1, br4, nar_1, nar_0], N0, rfl⟩
theorem pd_1 : parseMethodDescriptor "(C)Z" = some ⟨[.char], some .boolean⟩ := by decide +kernel
set_option maxRecDepth 65536 in
set_option maxHeartbeats 40000000 in
theorem cut17 {p : Program} {l : Launch} {e : Env} {s : State} {m : MethodId} {args : Array Value} {below : List Frame} {meth : Method} {c : Code} {T0 : State} {locs : List Loc} {Z : State} {a0 : Array Value} {h0 : Heap} {n0 : Nat}  (p1 : Int32) (p2 : Int32) (ch : Int32)
    (X0 : Stand p l e room_1 s m args below meth c T0 locs 0 0) (hx : p.tables.exec = Jvm.exec) (hZ : Z.Warmed39 s.vm) (hw : ∀ d ∈ tables_1, d.before a0 Z = true) (hby : c.code = code) (hml : c.maxLocals = 5) (hown : s.vm.findClass "com/example/interlock/interlock/schedule/NamesIsStartPinLaw" = some m.cls) (hret : meth.sig.returnType = some .boolean) (hlk : meth.locks = false) (e0 : T0.heap = h0) (N0 : Fr n0 locs) (Z0 : n0 ≤ h0.size) (hc0 : 0 ≤ ch.toInt) (hc1 : ch.toInt < 65536) :
    Rch p e below (Fin s below (fun v h L => v = some (.int 1) ∧ Fr n0 L) 0 0) (T0.setTop (mkF m 17 #[.val (.int p1), .val (.int p2), .val (.int ch), .unset, .unset] [])) := by
  refine Rch.go (U' := T0.setTop (mkF m 18 #[.val (.int p1), .val (.int p2), .val (.int ch), .unset, .unset] [(.int ch)])) (fun _ k => XS.iloadN X0.here hx rfl (hb hby at_17) rfl  k) ?_
  refine Rch.go (U' := T0.setTop (mkF m 20 #[.val (.int p1), .val (.int p2), .val (.int ch), .unset, .unset] [(.int (32 : Int32)), (.int ch)])) (fun _ k => XS.bipush X0.here hx rfl (hb hby at_18) k) ?_
  refine Rch.go (U' := T0.setTop (mkF m 21 #[.val (.int p1), .val (.int p2), .val (.int ch), .unset, .unset] [(.int (ch ||| (32 : Int32)))])) (fun _ k => XS.ior X0.here hx rfl (hb hby at_20) rfl k) ?_
  generalize hf : (ch ||| (32 : Int32)) = f
  refine Rch.go (U' := T0.setTop (mkF m 22 #[.val (.int p1), .val (.int p2), .val (.int ch), .val (.int f), .unset] [])) (fun _ k => XS.istoreN X0.here hx rfl (hb hby at_21) rfl (l' := #[.val (.int p1), .val (.int p2), .val (.int ch), .val (.int f), .unset]) rfl k) ?_
  refine Rch.go (U' := T0.setTop (mkF m 23 #[.val (.int p1), .val (.int p2), .val (.int ch), .val (.int f), .unset] [(.int f)])) (fun _ k => XS.iloadN X0.here hx rfl (hb hby at_22) rfl  k) ?_
  refine Rch.go (U' := T0.setTop (mkF m 25 #[.val (.int p1), .val (.int p2), .val (.int ch), .val (.int f), .unset] [(.int (97 : Int32)), (.int f)])) (fun _ k => XS.bipush X0.here hx rfl (hb hby at_23) k) ?_
  by_cases br7 : f < (97 : Int32)
  ·
    refine Rch.go (U' := T0.setTop (mkF m 38 #[.val (.int p1), .val (.int p2), .val (.int ch), .val (.int f), .unset] [])) (fun _ k => XS.icmpYes X0.here hx rfl (pc0 := 25) (pc' := 38) rfl (hb hby at_25) rfl (XT.ii_lt_t br7) (by decide) (by decide) k) ?_
    refine Rch.go (U' := T0.setTop (mkF m 39 #[.val (.int p1), .val (.int p2), .val (.int ch), .val (.int f), .unset] [(.int (0 : Int32))])) (fun _ k => XS.iconst X0.here hx rfl (hb hby at_38) k) ?_
    refine Rch.go (U' := T0.setTop (mkF m 41 #[.val (.int p1), .val (.int p2), .val (.int ch), .val (.int f), .val (.int (0 : Int32))] [])) (fun _ k => XS.istore X0.here hx rfl (hb hby at_39) rfl (l' := #[.val (.int p1), .val (.int p2), .val (.int ch), .val (.int f), .val (.int (0 : Int32))]) rfl k) ?_
    refine Rch.go (U' := T0.setTop (mkF m 42 #[.val (.int p1), .val (.int p2), .val (.int ch), .val (.int f), .val (.int (0 : Int32))] [(.int ch)])) (fun _ k => XS.iloadN X0.here hx rfl (hb hby at_41) rfl  k) ?_
    obtain ⟨_, _, ⟨T8, L8, k8, n8⟩, -, X8, ⟨Lc8, hQ8, l8, y8, z8⟩, st8⟩ := Jvm.LawKit.callS X0 hx (y := (⟨"com/example/interlock/interlock/schedule/Names", "isStart", "(C)Z"⟩ : MethodName)) hown (mvT hZ (wi hw 0 rfl)) (mvT hZ (wi hw 1 rfl)) (mvT hZ (wi hw 2 rfl)) (mvT hZ (wi hw 3 rfl)) (by decide) (backOf (W := 0) (rm1 l Z a0 hw [] ch h0 n0 Z0 ) hZ (wi hw 3 rfl) (wi hw 2 rfl) (by decide) (by decide)) (g := (mkF m 42 #[.val (.int p1), .val (.int p2), .val (.int ch), .val (.int f), .val (.int (0 : Int32))] [(.int ch)])) rfl (by rw [hml]; rfl) (argsL := [(.int ch)]) (rest := []) (lenOf pd_1 rfl) rfl (by show 2 * 0 + _ ≤ _; exact Nat.le_of_eq rfl) (hb hby at_42) (fun _ _ => ⟨rfl, e0, (by decide : 0 + 0 ≤ _), (by decide : 0 + 0 ≤ _)⟩)
    dsimp only [Pt.U, Pt.locs, Pt.cells, Pt.slots] at X8 l8 y8 z8 st8 hQ8
    subst l8 y8 z8
    obtain ⟨rfl, N8q, e8⟩ := hQ8
    have N8 := Fr.app N0 N8q
    refine Rch.go (U' := T8.setTop (mkF m 45 #[.val (.int p1), .val (.int p2), .val (.int ch), .val (.int f), .val (.int (0 : Int32))] [(.int (own_start ch))])) st8 ?_
    refine Rch.go (U' := T8.setTop (mkF m 47 #[.val (.int p1), .val (.int p2), .val (.int ch), .val (.int f), .val (.int (0 : Int32))] [(.int (0 : Int32)), (.int (own_start ch))])) (fun _ k => XS.iload X8.here hx rfl (hb hby at_45) rfl  k) ?_
    by_cases br9 : (own_start ch) = (0 : Int32)
    ·
      refine Rch.go (U' := T8.setTop (mkF m 50 #[.val (.int p1), .val (.int p2), .val (.int ch), .val (.int f), .val (.int (0 : Int32))] [])) (fun _ k => XS.icmpNo X8.here hx rfl (hb hby at_47) rfl (XT.ii_ne_f br9) k) ?_
      refine Rch.go (U' := T8.setTop (mkF m 51 #[.val (.int p1), .val (.int p2), .val (.int ch), .val (.int f), .val (.int (0 : Int32))] [(.int (1 : Int32))])) (fun _ k => XS.iconst X8.here hx rfl (hb hby at_50) k) ?_
      refine Rch.go (U' := T8.setTop (mkF m 55 #[.val (.int p1), .val (.int p2), .val (.int ch), .val (.int f), .val (.int (0 : Int32))] [(.int (1 : Int32))])) (fun _ k => XS.goto X8.here hx rfl (pc0 := 51) (pc' := 55) rfl (hb hby at_51) (by decide) (by decide) k) ?_
      refine Rch.fin X8 hlk (v := some (.int (nar .boolean (1 : Int32)))) (fun h => by rw [hret] at h; cases h) e8 (by decide) (by decide) (fun fs hr => retN X8 hx (t := .boolean) hret (by simp) (hb hby at_55) hr) ?_
      exact ⟨rfl, N8⟩
    ·
      refine Rch.go (U' := T8.setTop (mkF m 54 #[.val (.int p1), .val (.int p2), .val (.int ch), .val (.int f), .val (.int (0 : Int32))] [])) (fun _ k => XS.icmpYes X8.here hx rfl (pc0 := 47) (pc' := 54) rfl (hb hby at_47) rfl (XT.ii_ne_t br9) (by decide) (by decide) k) ?_
      refine Rch.go (U' := T8.setTop (mkF m 55 #[.val (.int p1), .val (.int p2), .val (.int ch), .val (.int f), .val (.int (0 : Int32))] [(.int (0 : Int32))])) (fun _ k => XS.iconst X8.here hx rfl (hb hby at_54) k) ?_
      refine Rch.fin X8 hlk (v := some (.int (nar .boolean (0 : Int32)))) (fun h => by rw [hret] at h; cases h) e8 (by decide) (by decide) (fun fs hr => retN X8 hx (t := .boolean) hret (by simp) (hb hby at_55) hr) ?_
      exfalso
      have q := own_law ch hc0 hc1
      subst hf
      first | (simp [own_exp, br7, br9] at q; done) | (simp [own_exp, br7, br9] at q; simp_all)
  ·
    refine Rch.go (U' := T0.setTop (mkF m 28 #[.val (.int p1), .val (.int p2), .val (.int ch), .val (.int f), .unset] [])) (fun _ k => XS.icmpNo X0.here hx rfl (hb hby at_25) rfl (XT.ii_lt_f br7) k) ?_
    refine Rch.go (U' := T0.setTop (mkF m 29 #[.val (.int p1), .val (.int p2), .val (.int ch), .val (.int f), .unset] [(.int f)])) (fun _ k => XS.iloadN X0.here hx rfl (hb hby at_28) rfl  k) ?_
    refine Rch.go (U' := T0.setTop (mkF m 31 #[.val (.int p1), .val (.int p2), .val (.int ch), .val (.int f), .unset] [(.int (122 : Int32)), (.int f)])) (fun _ k => XS.bipush X0.here hx rfl (hb hby at_29) k) ?_
    by_cases br10 : (122 : Int32) < f
    ·
      refine Rch.go (U' := T0.setTop (mkF m 38 #[.val (.int p1), .val (.int p2), .val (.int ch), .val (.int f), .unset] [])) (fun _ k => XS.icmpYes X0.here hx rfl (pc0 := 31) (pc' := 38) rfl (hb hby at_31) rfl (XT.ii_gt_t br10) (by decide) (by decide) k) ?_
      refine Rch.go (U' := T0.setTop (mkF m 39 #[.val (.int p1), .val (.int p2), .val (.int ch), .val (.int f), .unset] [(.int (0 : Int32))])) (fun _ k => XS.iconst X0.here hx rfl (hb hby at_38) k) ?_
      refine Rch.go (U' := T0.setTop (mkF m 41 #[.val (.int p1), .val (.int p2), .val (.int ch), .val (.int f), .val (.int (0 : Int32))] [])) (fun _ k => XS.istore X0.here hx rfl (hb hby at_39) rfl (l' := #[.val (.int p1), .val (.int p2), .val (.int ch), .val (.int f), .val (.int (0 : Int32))]) rfl k) ?_
      refine Rch.go (U' := T0.setTop (mkF m 42 #[.val (.int p1), .val (.int p2), .val (.int ch), .val (.int f), .val (.int (0 : Int32))] [(.int ch)])) (fun _ k => XS.iloadN X0.here hx rfl (hb hby at_41) rfl  k) ?_
      obtain ⟨_, _, ⟨T11, L11, k11, n11⟩, -, X11, ⟨Lc11, hQ11, l11, y11, z11⟩, st11⟩ := Jvm.LawKit.callS X0 hx (y := (⟨"com/example/interlock/interlock/schedule/Names", "isStart", "(C)Z"⟩ : MethodName)) hown (mvT hZ (wi hw 0 rfl)) (mvT hZ (wi hw 1 rfl)) (mvT hZ (wi hw 2 rfl)) (mvT hZ (wi hw 3 rfl)) (by decide) (backOf (W := 0) (rm1 l Z a0 hw [] ch h0 n0 Z0 ) hZ (wi hw 3 rfl) (wi hw 2 rfl) (by decide) (by decide)) (g := (mkF m 42 #[.val (.int p1), .val (.int p2), .val (.int ch), .val (.int f), .val (.int (0 : Int32))] [(.int ch)])) rfl (by rw [hml]; rfl) (argsL := [(.int ch)]) (rest := []) (lenOf pd_1 rfl) rfl (by show 2 * 0 + _ ≤ _; exact Nat.le_of_eq rfl) (hb hby at_42) (fun _ _ => ⟨rfl, e0, (by decide : 0 + 0 ≤ _), (by decide : 0 + 0 ≤ _)⟩)
      dsimp only [Pt.U, Pt.locs, Pt.cells, Pt.slots] at X11 l11 y11 z11 st11 hQ11
      subst l11 y11 z11
      obtain ⟨rfl, N11q, e11⟩ := hQ11
      have N11 := Fr.app N0 N11q
      refine Rch.go (U' := T11.setTop (mkF m 45 #[.val (.int p1), .val (.int p2), .val (.int ch), .val (.int f), .val (.int (0 : Int32))] [(.int (own_start ch))])) st11 ?_
      refine Rch.go (U' := T11.setTop (mkF m 47 #[.val (.int p1), .val (.int p2), .val (.int ch), .val (.int f), .val (.int (0 : Int32))] [(.int (0 : Int32)), (.int (own_start ch))])) (fun _ k => XS.iload X11.here hx rfl (hb hby at_45) rfl  k) ?_
      by_cases br12 : (own_start ch) = (0 : Int32)
      ·
        refine Rch.go (U' := T11.setTop (mkF m 50 #[.val (.int p1), .val (.int p2), .val (.int ch), .val (.int f), .val (.int (0 : Int32))] [])) (fun _ k => XS.icmpNo X11.here hx rfl (hb hby at_47) rfl (XT.ii_ne_f br12) k) ?_
        refine Rch.go (U' := T11.setTop (mkF m 51 #[.val (.int p1), .val (.int p2), .val (.int ch), .val (.int f), .val (.int (0 : Int32))] [(.int (1 : Int32))])) (fun _ k => XS.iconst X11.here hx rfl (hb hby at_50) k) ?_
        refine Rch.go (U' := T11.setTop (mkF m 55 #[.val (.int p1), .val (.int p2), .val (.int ch), .val (.int f), .val (.int (0 : Int32))] [(.int (1 : Int32))])) (fun _ k => XS.goto X11.here hx rfl (pc0 := 51) (pc' := 55) rfl (hb hby at_51) (by decide) (by decide) k) ?_
        refine Rch.fin X11 hlk (v := some (.int (nar .boolean (1 : Int32)))) (fun h => by rw [hret] at h; cases h) e11 (by decide) (by decide) (fun fs hr => retN X11 hx (t := .boolean) hret (by simp) (hb hby at_55) hr) ?_
        exact ⟨rfl, N11⟩
      ·
        refine Rch.go (U' := T11.setTop (mkF m 54 #[.val (.int p1), .val (.int p2), .val (.int ch), .val (.int f), .val (.int (0 : Int32))] [])) (fun _ k => XS.icmpYes X11.here hx rfl (pc0 := 47) (pc' := 54) rfl (hb hby at_47) rfl (XT.ii_ne_t br12) (by decide) (by decide) k) ?_
        refine Rch.go (U' := T11.setTop (mkF m 55 #[.val (.int p1), .val (.int p2), .val (.int ch), .val (.int f), .val (.int (0 : Int32))] [(.int (0 : Int32))])) (fun _ k => XS.iconst X11.here hx rfl (hb hby at_54) k) ?_
        refine Rch.fin X11 hlk (v := some (.int (nar .boolean (0 : Int32)))) (fun h => by rw [hret] at h; cases h) e11 (by decide) (by decide) (fun fs hr => retN X11 hx (t := .boolean) hret (by simp) (hb hby at_55) hr) ?_
        exfalso
        have q := own_law ch hc0 hc1
        subst hf
        first | (simp [own_exp, br7, br10, br12] at q; done) | (simp [own_exp, br7, br10, br12] at q; simp_all)
    ·
      refine Rch.go (U' := T0.setTop (mkF m 34 #[.val (.int p1), .val (.int p2), .val (.int ch), .val (.int f), .unset] [])) (fun _ k => XS.icmpNo X0.here hx rfl (hb hby at_31) rfl (XT.ii_gt_f br10) k) ?_
      refine Rch.go (U' := T0.setTop (mkF m 35 #[.val (.int p1), .val (.int p2), .val (.int ch), .val (.int f), .unset] [(.int (1 : Int32))])) (fun _ k => XS.iconst X0.here hx rfl (hb hby at_34) k) ?_
      refine Rch.go (U' := T0.setTop (mkF m 39 #[.val (.int p1), .val (.int p2), .val (.int ch), .val (.int f), .unset] [(.int (1 : Int32))])) (fun _ k => XS.goto X0.here hx rfl (pc0 := 35) (pc' := 39) rfl (hb hby at_35) (by decide) (by decide) k) ?_
      refine Rch.go (U' := T0.setTop (mkF m 41 #[.val (.int p1), .val (.int p2), .val (.int ch), .val (.int f), .val (.int (1 : Int32))] [])) (fun _ k => XS.istore X0.here hx rfl (hb hby at_39) rfl (l' := #[.val (.int p1), .val (.int p2), .val (.int ch), .val (.int f), .val (.int (1 : Int32))]) rfl k) ?_
      refine Rch.go (U' := T0.setTop (mkF m 42 #[.val (.int p1), .val (.int p2), .val (.int ch), .val (.int f), .val (.int (1 : Int32))] [(.int ch)])) (fun _ k => XS.iloadN X0.here hx rfl (hb hby at_41) rfl  k) ?_
      obtain ⟨_, _, ⟨T13, L13, k13, n13⟩, -, X13, ⟨Lc13, hQ13, l13, y13, z13⟩, st13⟩ := Jvm.LawKit.callS X0 hx (y := (⟨"com/example/interlock/interlock/schedule/Names", "isStart", "(C)Z"⟩ : MethodName)) hown (mvT hZ (wi hw 0 rfl)) (mvT hZ (wi hw 1 rfl)) (mvT hZ (wi hw 2 rfl)) (mvT hZ (wi hw 3 rfl)) (by decide) (backOf (W := 0) (rm1 l Z a0 hw [] ch h0 n0 Z0 ) hZ (wi hw 3 rfl) (wi hw 2 rfl) (by decide) (by decide)) (g := (mkF m 42 #[.val (.int p1), .val (.int p2), .val (.int ch), .val (.int f), .val (.int (1 : Int32))] [(.int ch)])) rfl (by rw [hml]; rfl) (argsL := [(.int ch)]) (rest := []) (lenOf pd_1 rfl) rfl (by show 2 * 0 + _ ≤ _; exact Nat.le_of_eq rfl) (hb hby at_42) (fun _ _ => ⟨rfl, e0, (by decide : 0 + 0 ≤ _), (by decide : 0 + 0 ≤ _)⟩)
      dsimp only [Pt.U, Pt.locs, Pt.cells, Pt.slots] at X13 l13 y13 z13 st13 hQ13
      subst l13 y13 z13
      obtain ⟨rfl, N13q, e13⟩ := hQ13
      have N13 := Fr.app N0 N13q
      refine Rch.go (U' := T13.setTop (mkF m 45 #[.val (.int p1), .val (.int p2), .val (.int ch), .val (.int f), .val (.int (1 : Int32))] [(.int (own_start ch))])) st13 ?_
      refine Rch.go (U' := T13.setTop (mkF m 47 #[.val (.int p1), .val (.int p2), .val (.int ch), .val (.int f), .val (.int (1 : Int32))] [(.int (1 : Int32)), (.int (own_start ch))])) (fun _ k => XS.iload X13.here hx rfl (hb hby at_45) rfl  k) ?_
      by_cases br14 : (own_start ch) = (1 : Int32)
      ·
        refine Rch.go (U' := T13.setTop (mkF m 50 #[.val (.int p1), .val (.int p2), .val (.int ch), .val (.int f), .val (.int (1 : Int32))] [])) (fun _ k => XS.icmpNo X13.here hx rfl (hb hby at_47) rfl (XT.ii_ne_f br14) k) ?_
        refine Rch.go (U' := T13.setTop (mkF m 51 #[.val (.int p1), .val (.int p2), .val (.int ch), .val (.int f), .val (.int (1 : Int32))] [(.int (1 : Int32))])) (fun _ k => XS.iconst X13.here hx rfl (hb hby at_50) k) ?_
        refine Rch.go (U' := T13.setTop (mkF m 55 #[.val (.int p1), .val (.int p2), .val (.int ch), .val (.int f), .val (.int (1 : Int32))] [(.int (1 : Int32))])) (fun _ k => XS.goto X13.here hx rfl (pc0 := 51) (pc' := 55) rfl (hb hby at_51) (by decide) (by decide) k) ?_
        refine Rch.fin X13 hlk (v := some (.int (nar .boolean (1 : Int32)))) (fun h => by rw [hret] at h; cases h) e13 (by decide) (by decide) (fun fs hr => retN X13 hx (t := .boolean) hret (by simp) (hb hby at_55) hr) ?_
        exact ⟨rfl, N13⟩
      ·
        refine Rch.go (U' := T13.setTop (mkF m 54 #[.val (.int p1), .val (.int p2), .val (.int ch), .val (.int f), .val (.int (1 : Int32))] [])) (fun _ k => XS.icmpYes X13.here hx rfl (pc0 := 47) (pc' := 54) rfl (hb hby at_47) rfl (XT.ii_ne_t br14) (by decide) (by decide) k) ?_
        refine Rch.go (U' := T13.setTop (mkF m 55 #[.val (.int p1), .val (.int p2), .val (.int ch), .val (.int f), .val (.int (1 : Int32))] [(.int (0 : Int32))])) (fun _ k => XS.iconst X13.here hx rfl (hb hby at_54) k) ?_
        refine Rch.fin X13 hlk (v := some (.int (nar .boolean (0 : Int32)))) (fun h => by rw [hret] at h; cases h) e13 (by decide) (by decide) (fun fs hr => retN X13 hx (t := .boolean) hret (by simp) (hb hby at_55) hr) ?_
        exfalso
        have q := own_law ch hc0 hc1
        subst hf
        first | (simp [own_exp, br7, br10, br14] at q; done) | (simp [own_exp, br7, br10, br14] at q; simp_all)
theorem pn_com_example_interlock_interlock_schedule_NamesIsStartPinLaw : plainName "com/example/interlock/interlock/schedule/NamesIsStartPinLaw" = true := by first | (simp [plainName, overriddenIn]; done) | decide +kernel
theorem ef_rm0 (m : MethodId) (p1 : Int32) (p2 : Int32) : entryFrame m #[(.int p1), (.int p2)] maxLocals = mkF m 0 #[.val (.int p1), .val (.int p2), .unset, .unset, .unset] [] := by first | (simp [entryFrame, mkF, argsToLocals, Value.category, maxLocals]; done) | rfl
def Q_rm0 (Z : State) (p1 : Int32) (p2 : Int32) (h0 : Heap) (n0 : Nat) (v : Option Value) (h : Heap) (L : List Loc) : Prop := v = some (.int 1) ∧ Fr n0 L
set_option maxRecDepth 65536 in
set_option maxHeartbeats 40000000 in
theorem rm0 (l : Launch) (Z : State) (a0 : Array Value) (hw : ∀ d ∈ tables_1, d.before a0 Z = true) (ws : List Jvm.Cond) (p1 : Int32) (p2 : Int32) (h0 : Heap) (n0 : Nat) (Z0 : n0 ≤ h0.size)  :
    MetFree l x (head1 (Jvm.Cond.code x code maxLocals ret :: ws) room_1) (fun a U => a = #[(.int p1), (.int p2)] ∧ Z.Warmed39 U.vm ∧ U.heap = h0) (fun _ _ _ _ _ => True) (fun _ U o U' => ∃ v L, o = .returned v ∧ Q_rm0 Z p1 p2 h0 n0 v U'.heap L ∧ FrameEnd U o U' L 0 0) := by
  refine MetFree.of_bodySF (plainFor_of_name pn_com_example_interlock_interlock_schedule_NamesIsStartPinLaw) hisR ?_
  intro p e s m args below meth c s₁ Bd hml0 hP hK
  obtain ⟨rfl, hZ, hh⟩ := hP
  have hx := Bd.exec
  have hby := Bd.bytes
  have hml : c.maxLocals = 5 := hml0
  have hown : s.vm.findClass "com/example/interlock/interlock/schedule/NamesIsStartPinLaw" = some m.cls := findClass_of_methodNamed Bd.named
  have hnm := (name_of_methodNamed Bd.named Bd.method).1
  have hret := Bd.returns
  have hlk : meth.locks = false := BodyLoose.notSynchronized Bd
  have X0 : Stand p l e room_1 s m #[(.int p1), (.int p2)] below meth c s₁ [] 0 0 := Stand.of_body Bd
  have e0 : s₁.heap = h0 := by rw [← hh, Bd.state]; rfl
  have N0 := Fr.nil n0
  refine Rch.body (Q := Q_rm0 Z p1 p2 h0 n0) (U' := s₁.setTop (mkF m 0 #[.val (.int p1), .val (.int p2), .unset, .unset, .unset] [])) (fun t k => castTop (ef_rm0 m p1 p2) k) ?_
  refine Rch.go (U' := s₁.setTop (mkF m 1 #[.val (.int p1), .val (.int p2), .unset, .unset, .unset] [(.int p2)])) (fun _ k => XS.iloadN X0.here hx rfl (hb hby at_0) rfl  k) ?_
  refine Rch.go (U' := s₁.setTop (mkF m 2 #[.val (.int p1), .val (.int p2), .unset, .unset, .unset] [(.int (1 : Int32)), (.int p2)])) (fun _ k => XS.iconst X0.here hx rfl (hb hby at_1) k) ?_
  refine Rch.go (U' := s₁.setTop (mkF m 3 #[.val (.int p1), .val (.int p2), .unset, .unset, .unset] [(.int (p2 &&& (1 : Int32)))])) (fun _ k => XS.iand X0.here hx rfl (hb hby at_2) rfl k) ?_
  by_cases br15 : (p2 &&& (1 : Int32)) = (0 : Int32)
  ·
    refine Rch.go (U' := s₁.setTop (mkF m 14 #[.val (.int p1), .val (.int p2), .unset, .unset, .unset] [])) (fun _ k => XS.ifYes X0.here hx rfl (pc0 := 3) (pc' := 14) rfl (hb hby at_3) rfl (XT.i0_eq_t br15) (by decide) (by decide) k) ?_
    refine Rch.go (U' := s₁.setTop (mkF m 15 #[.val (.int p1), .val (.int p2), .unset, .unset, .unset] [(.int p1)])) (fun _ k => XS.iloadN X0.here hx rfl (hb hby at_14) rfl  k) ?_
    refine Rch.go (U' := s₁.setTop (mkF m 16 #[.val (.int p1), .val (.int p2), .unset, .unset, .unset] [(.int (p1).toUInt32.toUInt16.toUInt32.toInt32)])) (fun _ k => XS.i2c X0.here hx rfl (hb hby at_15) rfl k) ?_
    refine Rch.go (U' := s₁.setTop (mkF m 17 #[.val (.int p1), .val (.int p2), .val (.int (p1).toUInt32.toUInt16.toUInt32.toInt32), .unset, .unset] [])) (fun _ k => XS.istoreN X0.here hx rfl (hb hby at_16) rfl (l' := #[.val (.int p1), .val (.int p2), .val (.int (p1).toUInt32.toUInt16.toUInt32.toInt32), .unset, .unset]) rfl k) ?_
    exact cut17 p1 p2 (p1).toUInt32.toUInt16.toUInt32.toInt32 X0 hx hZ hw hby hml hown hret hlk e0 N0 Z0 (c_i2c _).2.1 (c_i2c _).2.2
  ·
    refine Rch.go (U' := s₁.setTop (mkF m 6 #[.val (.int p1), .val (.int p2), .unset, .unset, .unset] [])) (fun _ k => XS.ifNo X0.here hx rfl (hb hby at_3) rfl (XT.i0_eq_f br15) k) ?_
    refine Rch.go (U' := s₁.setTop (mkF m 7 #[.val (.int p1), .val (.int p2), .unset, .unset, .unset] [(.int p1)])) (fun _ k => XS.iloadN X0.here hx rfl (hb hby at_6) rfl  k) ?_
    refine Rch.go (U' := s₁.setTop (mkF m 9 #[.val (.int p1), .val (.int p2), .unset, .unset, .unset] [(.int (127 : Int32)), (.int p1)])) (fun _ k => XS.bipush X0.here hx rfl (hb hby at_7) k) ?_
    refine Rch.go (U' := s₁.setTop (mkF m 10 #[.val (.int p1), .val (.int p2), .unset, .unset, .unset] [(.int (p1 &&& (127 : Int32)))])) (fun _ k => XS.iand X0.here hx rfl (hb hby at_9) rfl k) ?_
    refine Rch.go (U' := s₁.setTop (mkF m 11 #[.val (.int p1), .val (.int p2), .unset, .unset, .unset] [(.int ((p1 &&& (127 : Int32))).toUInt32.toUInt16.toUInt32.toInt32)])) (fun _ k => XS.i2c X0.here hx rfl (hb hby at_10) rfl k) ?_
    refine Rch.go (U' := s₁.setTop (mkF m 16 #[.val (.int p1), .val (.int p2), .unset, .unset, .unset] [(.int ((p1 &&& (127 : Int32))).toUInt32.toUInt16.toUInt32.toInt32)])) (fun _ k => XS.goto X0.here hx rfl (pc0 := 11) (pc' := 16) rfl (hb hby at_11) (by decide) (by decide) k) ?_
    refine Rch.go (U' := s₁.setTop (mkF m 17 #[.val (.int p1), .val (.int p2), .val (.int ((p1 &&& (127 : Int32))).toUInt32.toUInt16.toUInt32.toInt32), .unset, .unset] [])) (fun _ k => XS.istoreN X0.here hx rfl (hb hby at_16) rfl (l' := #[.val (.int p1), .val (.int p2), .val (.int ((p1 &&& (127 : Int32))).toUInt32.toUInt16.toUInt32.toInt32), .unset, .unset]) rfl k) ?_
    exact cut17 p1 p2 ((p1 &&& (127 : Int32))).toUInt32.toUInt16.toUInt32.toInt32 X0 hx hZ hw hby hml hown hret hlk e0 N0 Z0 (c_i2c _).2.1 (c_i2c _).2.2
set_option maxRecDepth 65536 in
set_option maxHeartbeats 40000000 in
theorem comes_1 {Post : Tables → Env → Array Value → State → Outcome → State → Prop} (hpost : ∀ tb e args s v u, (limb_1_1.after args s (.returned v) u = true ∧ limb_1_2.after args s (.returned v) u = true ∧ True) → FrameEnd s (.returned v) u (Jvm.fieldLocs frame_1_writes args s ++ Jvm.arrayLocs frame_1_arrays args s ++ Jvm.staticLocs frame_1_statics s) 0 0 → Post tb e args s (.returned v) u) :
    ArmFor flags0 classFile x code maxLocals ret World_1 tables_1 room_1 Calls_1 rest_1 Pre_1 Post := by
  intro l hfl _ _ p e ha hc hk s m args below hf hA hF happ hP
  obtain ⟨hcalls, hrest, hpre⟩ := hP
  obtain ⟨-, -, -, hnamed, -, -, -, hat⟩ := (Spec.applies_iff hf).mp happ
  obtain ⟨hg, hn⟩ := and_e (Cond.before_iff.mp (show (Jvm.Cond.and given_1 narrow_1).before args s = true from hpre))
  obtain ⟨hcount, hg0⟩ := and_e hg
  obtain ⟨ga0, hg1⟩ := and_e hg0
  obtain ⟨w0, w1, rfl⟩ : ∃ w0 w1 : Value, args = #[w0, w1] := by
    have hs : args.size = 2 := by simpa [Cond.value, given_1] using hcount
    obtain ⟨L⟩ := args
    match L, hs with
    | [w0, w1], _ => exact ⟨w0, w1, rfl⟩
  have hw := fun d (hd : d ∈ tables_1) => atoms_spec (ws := Jvm.Cond.code x code maxLocals ret :: tables_1) hat d (List.mem_cons_of_mem _ hd)
  obtain ⟨i0, ei0⟩ := is_v ga0
  obtain rfl : w0 = (.int i0) := Option.some.inj ei0
  obtain ⟨i1, ei1⟩ := is_v hg1
  obtain rfl : w1 = (.int i1) := Option.some.inj ei1
  obtain ⟨n, o, h1, h2, h3, _, L, rfl, ⟨rfl, N⟩, hq⟩ := rm0 l s _ hw tables_1 i0 i1 s.heap s.heap.size (Nat.le_refl _)  p e ha hc hk s m _ below hf ((Spec.applies_iff_loose hf).mp happ).1 ⟨rfl, State.Warmed39.refl s, rfl⟩ trivial
  refine ⟨n, _, h1, h2, h3, hpost _ _ _ _ _ _ ⟨Cond.after_iff.mpr rfl, Cond.after_iff.mpr (eq_i res_at (Term.int_eval (1)) rfl), trivial⟩ ⟨hq.1, hq.2.1, (hq.2.2.sift fun y hy => Or.inr (N y hy)).mono (by decide) (by decide)⟩⟩
theorem main_1_1 : Claimed_1_1 := comes_1 fun _ _ _ _ _ _ h hF => ⟨h.1, hF⟩
theorem main_1_2 : Claimed_1_2 := comes_1 fun _ _ _ _ _ _ h hF => ⟨h.2.1, hF⟩
end Jvm.Pilot.@@N@@
namespace Jvm.Pilot.@@N@@
open Jvm Jvm.ClassFile Sem Op Lib Jvm.Free Jvm.Stand Jvm.Pilot.@@N@@.Jvm.D
/-! MADE BY PROGRAM (witnessworld.py) out of the Statement's table words and the real class files: 9 classes; the members and pool entries that the words name. The judged class is class 1, her method 1. -/
namespace start1
open Jvm.ClassFile
def u (s : String) : CpInfo := .utf8 (stringToUtf16 s)
/-- a pool by its gaps: so many unusable entries, then the entry; so many at the end -/
def gap : Nat → List CpInfo → List CpInfo
  | 0, r => r
  | n + 1, r => .unusable :: gap n r
def poolList (es : List (Nat × CpInfo)) (last : Nat) : List CpInfo := es.foldr (fun e r => gap e.1 (e.2 :: r)) (gap last [])
def pool (es : List (Nat × CpInfo)) (last : Nat) : Array CpInfo := ⟨poolList es last⟩
def fileOf (pool : Array CpInfo) (this : Nat) (attrs : Array Attribute := #[]) (ms : Array MethodInfo := #[]) (fl : Nat := 33) (sup : Nat := 0) (ifs : Array Nat := #[]) (fds : Array FieldInfo := #[]) : ClassFile where
  minorVersion := 0
  majorVersion := 65
  constantPool := pool
  accessFlags := fl
  thisClass := this
  superClass := sup
  interfaces := ifs
  fields := fds
  methods := ms
  attributes := attrs
def plain (name : String) (sup : Option ClassId) : Class where
  name := name
  kind := .ordinary
  loader := none
  accessFlags := 33
  super := sup
  interfaces := #[]
  cf := none
  fields := #[]
  methods := #[]
  instanceTypes := #[]
  staticTypes := #[]
  resolved := #[]
  callSites := []
  init := .initialized
  statics := none
  mirror := none

def pool0 : Array CpInfo := pool [(5, u "<init>"), (0, u "()V"), (1, .class_ 10), (1, u "java/lang/Object")] 113

def k0m0 : Method := { name := "<init>", desc := "()V", sig := { parameters := [], returnType := none }, accessFlags := 1, code := none }
/-- java/lang/Object -/
def k0 : Class := { plain "java/lang/Object" none with
  accessFlags := 33
  interfaces := #[]
  cf := some (fileOf pool0 8 #[] #[{ accessFlags := 1, nameIndex := 5, descriptorIndex := 6, attributes := #[] }] 33 0 #[] #[])
  fields := #[]
  methods := #[k0m0]
  instanceTypes := #[]
  staticTypes := #[]
  resolved := Array.replicate 124 none
  statics := none }

def pool1 : Array CpInfo := pool [(2, .class_ 4), (1, u "java/lang/Object"), (0, u "<init>"), (0, u "()V"), (0, .methodref 8 9), (0, .class_ 10), (0, .nameAndType 11 12), (0, u "com/example/interlock/interlock/schedule/Names"), (0, u "isStart"), (0, u "(C)Z"), (0, .class_ 14), (0, u "com/example/interlock/interlock/schedule/NamesIsStartPinLaw"), (2, u "law"), (0, u "(II)Z")] 3

def k1m0 : Method := { name := "<init>", desc := "()V", sig := { parameters := [], returnType := none }, accessFlags := 2, code := none }
def k1c1 : Code := { maxStack := 2, maxLocals := 5, code := code, exceptionTable := #[], attributes := #[] }
def k1m1 : Method := { name := "law", desc := "(II)Z", sig := { parameters := [.int, .int], returnType := some .boolean }, accessFlags := 9, code := some k1c1 }
/-- com/example/interlock/interlock/schedule/NamesIsStartPinLaw -/
def k1 : Class := { plain "com/example/interlock/interlock/schedule/NamesIsStartPinLaw" (some 0) with
  accessFlags := 49
  interfaces := #[]
  cf := some (fileOf pool1 13 #[] #[{ accessFlags := 2, nameIndex := 5, descriptorIndex := 6, attributes := #[] }, { accessFlags := 9, nameIndex := 17, descriptorIndex := 18, attributes := #[] }] 49 2 #[] #[])
  fields := #[]
  methods := #[k1m0, k1m1]
  instanceTypes := #[]
  staticTypes := #[]
  resolved := Array.replicate 22 none
  statics := none }

def pool2 : Array CpInfo := pool [(2, .class_ 4), (1, u "java/lang/Object"), (0, u "<init>"), (0, u "()V"), (1, .class_ 10), (1, u "com/example/interlock/interlock/schedule/Names"), (0, u "isStart"), (0, u "(C)Z")] 49

def k2m0 : Method := { name := "<init>", desc := "()V", sig := { parameters := [], returnType := none }, accessFlags := 2, code := none }
def k2c1 : Code := { maxStack := 2, maxLocals := 1, code := prog_161_method_2_code, exceptionTable := #[], attributes := #[] }
def k2m1 : Method := { name := "isStart", desc := "(C)Z", sig := { parameters := [.char], returnType := some .boolean }, accessFlags := 8, code := some k2c1 }
/-- com/example/interlock/interlock/schedule/Names -/
def k2 : Class := { plain "com/example/interlock/interlock/schedule/Names" (some 0) with
  accessFlags := 48
  interfaces := #[]
  cf := some (fileOf pool2 8 #[] #[{ accessFlags := 2, nameIndex := 5, descriptorIndex := 6, attributes := #[] }, { accessFlags := 8, nameIndex := 11, descriptorIndex := 12, attributes := #[] }] 48 2 #[] #[])
  fields := #[]
  methods := #[k2m0, k2m1]
  instanceTypes := #[]
  staticTypes := #[]
  resolved := Array.replicate 62 none
  statics := none }

def pool3 : Array CpInfo := pool [(1, u "java/lang/Cloneable"), (0, .class_ 1), (0, u "java/lang/Object"), (0, .class_ 3)] 3

/-- java/lang/Cloneable -/
def k3 : Class := { plain "java/lang/Cloneable" (some 0) with
  accessFlags := 1537
  interfaces := #[]
  cf := some (fileOf pool3 2 #[] #[] 1537 4 #[] #[])
  fields := #[]
  methods := #[]
  instanceTypes := #[]
  staticTypes := #[]
  resolved := Array.replicate 8 none
  statics := none }

def pool4 : Array CpInfo := pool [(1, u "java/io/Serializable"), (0, .class_ 1), (0, u "java/lang/Object"), (0, .class_ 3)] 3

/-- java/io/Serializable -/
def k4 : Class := { plain "java/io/Serializable" (some 0) with
  accessFlags := 1537
  interfaces := #[]
  cf := some (fileOf pool4 2 #[] #[] 1537 4 #[] #[])
  fields := #[]
  methods := #[]
  instanceTypes := #[]
  staticTypes := #[]
  resolved := Array.replicate 8 none
  statics := none }

/-- the primitive byte -/
def k5 : Class := { plain "byte" none with kind := .primitive 'B', accessFlags := 0x411 }
/-- [B -/
def k6 : Class := { plain "[B" (some 0) with kind := .array 5 .byte, interfaces := #[3, 4], accessFlags := 1041 }

/-- the primitive int -/
def k7 : Class := { plain "int" none with kind := .primitive 'I', accessFlags := 0x411 }
/-- [I -/
def k8 : Class := { plain "[I" (some 0) with kind := .array 7 .int, interfaces := #[3, 4], accessFlags := 1041 }

def heap : Heap := #[]
def classes : Array Class := #[k0, k1, k2, k3, k4, k5, k6, k7, k8]
def interned : List (Array UInt16 × Addr) := []
def slotsUsed : Nat := 0
def theMethod : MethodId := ⟨1, 1⟩
def args0 : Array Value := #[.int 5, .int 7]
def aboutOver (below : List Frame) : State where
  vm := { classes := classes, interned := interned.toArray }
  heap := heap
  slotsUsed := slotsUsed
  threads := #[{ frames := .invoking theMethod args0 :: below }]
def below0 : List Frame := [.native { method := ⟨0, 0⟩, args := #[] }]
def about1 : State := aboutOver below0
def p0 : Program := .bare "" "" ""
def e0 : Env := launch0.env 0 0 0
theorem w_frames : about1.frames = Frame.invoking theMethod args0 :: below0 := rfl
set_option maxRecDepth 65536 in
theorem w_args : argsFit about1.vm theMethod args0 = true := by decide +kernel
set_option maxRecDepth 65536 in
theorem w_heap : heapFits about1 = true := by decide +kernel
set_option maxRecDepth 65536 in
theorem w_runnable : about1.curStatus? = some .runnable := by decide +kernel
set_option maxRecDepth 65536 in
theorem w_alone : about1.alone = true := by decide +kernel
set_option maxRecDepth 65536 in
theorem w_named : about1.methodNamed? x = some theMethod := by decide +kernel
set_option maxRecDepth 65536 in
theorem w_hears : about1.hears theMethod below0 = true := by decide +kernel
set_option maxRecDepth 65536 in
theorem w_ripe : about1.ripe theMethod args0 below0 = true := by decide +kernel
theorem w_running : about1.status = .running := rfl
set_option maxRecDepth 65536 in
theorem w_room : about1.hasRoom e0.platform room_1 = true :=
  launch0.hasRoom_least _ room_1 (by decide +kernel) (by decide +kernel) (by decide +kernel) (by decide +kernel) (by decide +kernel) (by decide +kernel)
theorem allAtoms_all (ts : List Jvm.Cond) (a : Array Jvm.Value) (st : Jvm.State) : (allAtoms ts).before a st = ts.all (fun c => c.before a st) := by
  induction ts with
  | nil => rfl
  | cons c t ih =>
    show (Jvm.Cond.and c (allAtoms t)).before a st = _
    rw [Jvm.Cond.before_and, ih, List.all_cons]
def words1 : List Jvm.Cond := Jvm.Cond.code x code maxLocals ret :: tables_1
/-- a 'code' word, met by the world's own term for the bytes: nothing is compared byte by byte -/
theorem code_word {y : MethodName} {bytes : ByteArray} {mx : Nat} {rt : Option FieldType} {a : Array Value} {s : State} {m : MethodId} {meth : Method} {c : Code} (h1 : s.methodNamed? y = some m) (h2 : s.vm.method? m = some meth) (h3 : meth.code = some c) (h4 : c.code = bytes)
    (h5 : (c.maxLocals == mx && c.exceptionTable.isEmpty && decide (c.maxStack ≤ mostOperands) && decide (meth.sig.returnType = rt) && !meth.locks && decide (parseMethodDescriptor y.desc = some meth.sig)) = true) : (Jvm.Cond.code y bytes mx rt).before a s = true := by
  simp only [Bool.and_eq_true, beq_iff_eq, Bool.not_eq_true', decide_eq_true_eq] at h5
  obtain ⟨⟨⟨⟨⟨g1, g2⟩, g3⟩, g4⟩, g5⟩, g6⟩ := h5
  simp [Cond.before, Cond.holds, Cond.value, h1, h2, h3, h4, g1, g2, g3, g4, g5, g6]
def isCode : Jvm.Cond → Bool
  | .code _ _ _ _ => true
  | _ => false
theorem all_split {L : List Jvm.Cond} {P : Jvm.Cond → Bool} (h1 : L.all (fun c => isCode c || P c) = true) (h2 : ∀ c ∈ L.filter isCode, P c = true) : L.all P = true := by
  refine List.all_eq_true.mpr fun c hc => ?_
  have h := List.all_eq_true.mp h1 c hc
  rcases Bool.eq_false_or_eq_true (isCode c) with hi | hi
  · exact h2 c (List.mem_filter.mpr ⟨hc, hi⟩)
  · simpa [hi] using h
set_option maxRecDepth 65536 in
theorem w_c0 : (Jvm.Cond.code x code maxLocals ret).before args0 about1 = true := code_word (m := ⟨1, 1⟩) (meth := k1m1) (c := k1c1) (by decide +kernel) rfl rfl rfl (by decide +kernel)
set_option maxRecDepth 65536 in
theorem w_c1 : (Jvm.Cond.code ({ cls := "com/example/interlock/interlock/schedule/Names", name := "isStart", desc := "(C)Z" } : Jvm.MethodName) prog_161_method_2_code (1 : Nat) (Option.some Jvm.ClassFile.FieldType.boolean)).before args0 about1 = true := code_word (m := ⟨2, 1⟩) (meth := k2m1) (c := k2c1) (by decide +kernel) rfl rfl rfl (by decide +kernel)
def codes1 : List Jvm.Cond := [Jvm.Cond.code x code maxLocals ret, Jvm.Cond.code ({ cls := "com/example/interlock/interlock/schedule/Names", name := "isStart", desc := "(C)Z" } : Jvm.MethodName) prog_161_method_2_code (1 : Nat) (Option.some Jvm.ClassFile.FieldType.boolean)]
set_option maxRecDepth 65536 in
theorem codes_eq : words1.filter isCode = codes1 := rfl
theorem w_codes : ∀ c ∈ words1.filter isCode, c.before args0 about1 = true := by
  rw [codes_eq]
  intro c hc
  simp only [codes1, List.mem_cons, List.not_mem_nil, or_false] at hc
  rcases hc with rfl | rfl
  · exact w_c0
  · exact w_c1
set_option maxRecDepth 65536 in
theorem w_t1 : words1.all (fun c => isCode c || c.before args0 about1) = true := by decide +kernel
theorem w_tables : (allAtoms (Jvm.Cond.code x code maxLocals ret :: tables_1)).before args0 about1 = true := by
  rw [allAtoms_all]
  show words1.all (fun c => c.before args0 about1) = true
  refine all_split ?_ w_codes
  rw [w_t1]
set_option maxRecDepth 65536 in
theorem w_case : (Jvm.Cond.and given_1 narrow_1).before args0 about1 = true := by decide +kernel
theorem w_applies : (headSpec (Jvm.Cond.code x code maxLocals ret :: tables_1) room_1).applies x e0.platform about1 = true :=
  (Spec.applies_iff w_frames).mpr ⟨w_running, w_runnable, w_alone, w_named, w_hears, w_ripe, w_room, w_tables⟩
theorem atStart : AtStart classFile x code maxLocals ret World_1 tables_1 room_1 Calls_1 rest_1 Pre_1 launch0 p0 e0 about1 theMethod args0 below0 :=
  ⟨lists_1, trivial, launch0.admits_env _ _ _, launch0.least_env, fairChoices_fair.cas, fairChoices_fair.clock, w_frames, w_args, w_heap, w_applies, trivial, trivial, w_case⟩
end start1
theorem witness_1 : WitnessClaimed_1 := ⟨start1.p0, start1.e0, start1.about1, start1.theMethod, start1.args0, start1.below0, start1.atStart⟩
end Jvm.Pilot.@@N@@
