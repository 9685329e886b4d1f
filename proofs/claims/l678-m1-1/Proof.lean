import JvmDerived
import JvmDerived.Pilot.@@N@@Statement
import JvmDerived.Pilot.@@N@@Code
set_option linter.unusedVariables false
set_option linter.unusedSimpArgs false
namespace Jvm.RoadKit
open Sem ClassFile Op Lib Jvm.Stand Jvm.Free Jvm.LawKit
section New
variable {p : Program} {l : Launch} {e : Env} {R : Room} {s : State} {m : MethodId} {args : Array Value} {below : List Frame} {meth : Method} {c : Code} {T : State} {locs : List Loc} {cells slots : Nat}
theorem retI (X : Stand p l e R s m args below meth c T locs cells slots) (hx : p.tables.exec = Jvm.exec) {pc : Nat} {Ls : Array Slot} {z : Int32} {rest : List Value} (hret : meth.sig.returnType = some .int) (hd : decode c.code pc = .ok (.ireturn, 1)) {fs : List Frame}
    (hl : ∀ (f : JFrame) (acts : List Action), f.method = m → f.locked = none → f.entered = [] → (doReturn e (T.setTop f) acts (some (.int z))).1 = T.setFrames fs) : Steps p.tables e below (T.setTop (mkF m pc Ls (.int z :: rest))) (T.setFrames fs) := by
  have hm' : T.vm.method? m = some meth := X.method'
  have hn : narrow .int (.int z) = .int z := rfl
  show Steps p.tables e below (T.setTop { method := m, pc := pc, locals := Ls, stack := _ :: rest, locked := none }) _
  jvm_step X.here [X.here.top, hx, hd, hm', hret, hn]
  first | (intro acts; rw [hl _ acts rfl rfl rfl]) | rw [hl _ _ rfl rfl rfl]
  exact Steps.refl _
/-- a run from U comes to a state of which K holds -/
def Rch (p : Program) (e : Env) (below : List Frame) (K : State → Prop) (U : State) : Prop := ∃ s₂, Steps p.tables e below U s₂ ∧ K s₂
theorem Rch.go {K : State → Prop} {U U' : State} (h : ∀ t, Steps p.tables e below U' t → Steps p.tables e below U t) (k : Rch p e below K U') : Rch p e below K U := by
  obtain ⟨s₂, a, b⟩ := k; exact ⟨s₂, h _ a, b⟩
theorem Rch.to {K : State → Prop} {U U' : State} (h : Steps p.tables e below U U') (k : Rch p e below K U') : Rch p e below K U := by
  obtain ⟨s₂, a, b⟩ := k; exact ⟨s₂, h.trans a, b⟩
theorem Rch.then {K K' : State → Prop} {U : State} (h : Rch p e below K U) (f : ∀ V, K V → Rch p e below K' V) : Rch p e below K' U := by
  obtain ⟨s₂, a, b⟩ := h; exact Rch.to a (f _ b)
/-- the body is left: what it returned and what it leaves -/
def Fin (s : State) (below : List Frame) (Q : Option Value → Heap → List Loc → Prop) (k n : Nat) (s₂ : State) : Prop :=
  ∃ o, s₂.status = .running ∧ Ended s₂ below o ∧ ∃ v L, o = .returned v ∧ Q v s₂.heap L ∧ FrameEnd s o s₂ L k n
theorem Rch.fin {Q : Option Value → Heap → List Loc → Prop} {k n : Nat} {U : State} {h : Heap} (X : Stand p l e R s m args below meth c T locs cells slots) (hlk : meth.locks = false) {v : Option Value} (hv : meth.sig.returnType = none → v = none) (eT : T.heap = h) (hc : cells ≤ k) (hn : slots ≤ n)
    (st : ∀ fs, (∀ (f : JFrame) (acts : List Action), f.method = m → f.locked = none → f.entered = [] → (doReturn e (T.setTop f) acts v).1 = T.setFrames fs) → Steps p.tables e below U (T.setFrames fs)) (hQ : Q v h locs) : Rch p e below (Fin s below Q k n) U := by
  obtain ⟨fs, hr, hrun, hended, hW, hsame⟩ := X.leave hv hlk
  refine ⟨_, st fs hr, _, hrun, hended, v, locs, rfl, ?_, ⟨_, rfl⟩, hW, hsame.mono hc hn⟩
  show Q v T.heap locs
  rw [eT]; exact hQ
theorem Rch.body {Q : Option Value → Heap → List Loc → Prop} {k n : Nat} {U U' : State} (h : ∀ t, Steps p.tables e below U' t → Steps p.tables e below U t) (H : Rch p e below (Fin s below Q k n) U') :
    ∃ s₂ o, Steps p.tables e below U s₂ ∧ s₂.status = .running ∧ Ended s₂ below o ∧ (∃ v L, o = .returned v ∧ Q v s₂.heap L ∧ FrameEnd s o s₂ L k n) := by
  obtain ⟨s₂, a, o, b, c, d⟩ := H; exact ⟨s₂, o, h _ a, b, c, d⟩
/-- the same, said with the wide end (a String constant may have been interned) -/
def FinW (s : State) (below : List Frame) (Q : Option Value → Heap → List Loc → Prop) (k n : Nat) (s₂ : State) : Prop :=
  ∃ o, s₂.status = .running ∧ Ended s₂ below o ∧ ∃ v L, o = .returned v ∧ Q v s₂.heap L ∧ ReturnedEndW s o s₂ L k n
theorem Rch.finW {Q : Option Value → Heap → List Loc → Prop} {k n : Nat} {U : State} {h : Heap} {vm₁ : Vm} {n1 : Nat} (X : Stand p l e R (s.setVm vm₁) m args below meth c T locs cells slots) (hlk : meth.locks = false) {v : Option Value} (hv : meth.sig.returnType = none → v = none) (eT : T.heap = h) (hc : cells ≤ k) (hn : slots ≤ n)
    (hS : s.Since vm₁ n1) (hk : n1 ≤ h.size) (st : ∀ fs, (∀ (f : JFrame) (acts : List Action), f.method = m → f.locked = none → f.entered = [] → (doReturn e (T.setTop f) acts v).1 = T.setFrames fs) → Steps p.tables e below U (T.setFrames fs)) (hQ : Q v h locs) : Rch p e below (FinW s below Q k n) U := by
  obtain ⟨fs, hr, hrun, hended, hE⟩ := X.leaveW hS (by rw [eT]; exact hk) hv hlk
  refine ⟨_, st fs hr, _, hrun, hended, v, locs, rfl, ?_, hE.1, hE.2.1, hE.2.2.1, hE.2.2.2.mono hc hn⟩
  show Q v T.heap locs
  rw [eT]; exact hQ
theorem Rch.bodyW {Q : Option Value → Heap → List Loc → Prop} {k n : Nat} {U U' : State} (h : ∀ t, Steps p.tables e below U' t → Steps p.tables e below U t) (H : Rch p e below (FinW s below Q k n) U') :
    ∃ s₂ o, Steps p.tables e below U s₂ ∧ s₂.status = .running ∧ Ended s₂ below o ∧ (∃ v L, o = .returned v ∧ Q v s₂.heap L ∧ ReturnedEndW s o s₂ L k n) := by
  obtain ⟨s₂, a, o, b, c, d⟩ := H; exact ⟨s₂, o, h _ a, b, c, d⟩
theorem nar_1 : nar .boolean 1 = 1 := rfl
theorem nar_0 : nar .boolean 0 = 0 := rfl
end New
end Jvm.RoadKit
namespace Jvm.Pilot.@@N@@
open Jvm Jvm.ClassFile Sem Op Lib Jvm.Free Jvm.Stand Jvm.LawKit Jvm.RoadKit Bundle Jvm.Pilot.@@N@@.Jvm.D
theorem wi {Z : State} {a0 : Array Value} (hw : ∀ d ∈ tables_1, d.before a0 Z = true) (i : Nat) {d : Jvm.Cond} (h : tables_1[i]? = some d) : d.before a0 Z = true := hw d (List.mem_of_getElem? h)
def own_t36 (p1 : Int32) : Int32 := if p1 = 95 then 1 else if p1 = 45 then 1 else if p1 = 46 then 1 else if p1 = 58 then 1 else if p1 = 47 then 1 else 0
def own_t24 (p1 : Int32) : Int32 := if p1 < 48 then own_t36 p1 else if 57 < p1 then own_t36 p1 else 1
def own_t12 (p1 : Int32) : Int32 := if p1 < 97 then own_t24 p1 else if 122 < p1 then own_t24 p1 else 1
/-- what isTagCharacter answers -/
def own_tag (p1 : Int32) : Int32 := if p1 < 65 then own_t12 p1 else if 90 < p1 then own_t12 p1 else 1
/-- what expected answers -/
def own_exp (p1 : Int32) : Int32 := if p1 < 64 then (if ((((576425567931334656 : Int64)).toUInt64 >>> (p1 &&& 0x3f).toInt64.toUInt64).toInt64 &&& (1 : Int64)) = (0 : Int64) then 0 else 1) else if p1 < 128 then (if ((((576460745995190270 : Int64)).toUInt64 >>> ((p1 - (64 : Int32)) &&& 0x3f).toInt64.toUInt64).toInt64 &&& (1 : Int64)) = (0 : Int64) then 0 else 1) else 0
theorem own_at (c : Int32) (n : Nat) (h : c.toInt = n) : c = Int32.ofInt n := by rw [← h]; exact (Int32.ofInt_toInt c).symm
theorem own_small : ∀ n : Fin 128, own_tag (Int32.ofInt n.val) = own_exp (Int32.ofInt n.val) := by decide +kernel
theorem own_law (c : Int32) (h0 : 0 ≤ c.toInt) (h1 : c.toInt < 65536) : own_tag c = own_exp c := by
  by_cases h : c.toInt < 128
  · obtain ⟨n, hn⟩ : ∃ n : Nat, c.toInt = n := ⟨c.toInt.toNat, by omega⟩
    have := own_small ⟨n, by omega⟩
    rw [own_at c n hn]; exact this
  · have lt (k : Int32) (hk : k.toInt < 128) : ¬ c < k := by rw [Int32.lt_iff_toInt_lt]; omega
    have gt (k : Int32) (hk : k.toInt < 128) : k < c := by rw [Int32.lt_iff_toInt_lt]; omega
    have ne (k : Int32) (hk : k.toInt < 128) : ¬ c = k := fun e => by rw [e] at h; exact h hk
    have e128 : ¬ c < 128 := by rw [Int32.lt_iff_toInt_lt]; show ¬ c.toInt < 128; exact h
    simp only [own_tag, own_t12, own_t24, own_t36, own_exp, lt 65 (by decide), gt 90 (by decide), lt 97 (by decide), gt 122 (by decide), lt 48 (by decide), gt 57 (by decide), ne 95 (by decide), ne 45 (by decide), ne 46 (by decide), ne 58 (by decide), ne 47 (by decide), lt 64 (by decide), e128, ↓reduceIte]
theorem d3_0 : decode prog_13_method_9_code 0 = .ok (.iload_n 0, 1) := by decide +kernel
theorem d3_1 : decode prog_13_method_9_code 1 = .ok (.bipush 65, 2) := by decide +kernel
theorem d3_3 : decode prog_13_method_9_code 3 = .ok (.if_icmp .lt 9, 3) := by decide +kernel
theorem d3_6 : decode prog_13_method_9_code 6 = .ok (.iload_n 0, 1) := by decide +kernel
theorem d3_7 : decode prog_13_method_9_code 7 = .ok (.bipush 90, 2) := by decide +kernel
theorem d3_9 : decode prog_13_method_9_code 9 = .ok (.if_icmp .le 57, 3) := by decide +kernel
theorem d3_12 : decode prog_13_method_9_code 12 = .ok (.iload_n 0, 1) := by decide +kernel
theorem d3_13 : decode prog_13_method_9_code 13 = .ok (.bipush 97, 2) := by decide +kernel
theorem d3_15 : decode prog_13_method_9_code 15 = .ok (.if_icmp .lt 9, 3) := by decide +kernel
theorem d3_18 : decode prog_13_method_9_code 18 = .ok (.iload_n 0, 1) := by decide +kernel
theorem d3_19 : decode prog_13_method_9_code 19 = .ok (.bipush 122, 2) := by decide +kernel
theorem d3_21 : decode prog_13_method_9_code 21 = .ok (.if_icmp .le 45, 3) := by decide +kernel
theorem d3_24 : decode prog_13_method_9_code 24 = .ok (.iload_n 0, 1) := by decide +kernel
theorem d3_25 : decode prog_13_method_9_code 25 = .ok (.bipush 48, 2) := by decide +kernel
theorem d3_27 : decode prog_13_method_9_code 27 = .ok (.if_icmp .lt 9, 3) := by decide +kernel
theorem d3_30 : decode prog_13_method_9_code 30 = .ok (.iload_n 0, 1) := by decide +kernel
theorem d3_31 : decode prog_13_method_9_code 31 = .ok (.bipush 57, 2) := by decide +kernel
theorem d3_33 : decode prog_13_method_9_code 33 = .ok (.if_icmp .le 33, 3) := by decide +kernel
theorem d3_36 : decode prog_13_method_9_code 36 = .ok (.iload_n 0, 1) := by decide +kernel
theorem d3_37 : decode prog_13_method_9_code 37 = .ok (.bipush 95, 2) := by decide +kernel
theorem d3_39 : decode prog_13_method_9_code 39 = .ok (.if_icmp .eq 27, 3) := by decide +kernel
theorem d3_42 : decode prog_13_method_9_code 42 = .ok (.iload_n 0, 1) := by decide +kernel
theorem d3_43 : decode prog_13_method_9_code 43 = .ok (.bipush 45, 2) := by decide +kernel
theorem d3_45 : decode prog_13_method_9_code 45 = .ok (.if_icmp .eq 21, 3) := by decide +kernel
theorem d3_48 : decode prog_13_method_9_code 48 = .ok (.iload_n 0, 1) := by decide +kernel
theorem d3_49 : decode prog_13_method_9_code 49 = .ok (.bipush 46, 2) := by decide +kernel
theorem d3_51 : decode prog_13_method_9_code 51 = .ok (.if_icmp .eq 15, 3) := by decide +kernel
theorem d3_54 : decode prog_13_method_9_code 54 = .ok (.iload_n 0, 1) := by decide +kernel
theorem d3_55 : decode prog_13_method_9_code 55 = .ok (.bipush 58, 2) := by decide +kernel
theorem d3_57 : decode prog_13_method_9_code 57 = .ok (.if_icmp .eq 9, 3) := by decide +kernel
theorem d3_60 : decode prog_13_method_9_code 60 = .ok (.iload_n 0, 1) := by decide +kernel
theorem d3_61 : decode prog_13_method_9_code 61 = .ok (.bipush 47, 2) := by decide +kernel
theorem d3_63 : decode prog_13_method_9_code 63 = .ok (.if_icmp .ne 7, 3) := by decide +kernel
theorem d3_66 : decode prog_13_method_9_code 66 = .ok (.iconst 1, 1) := by decide +kernel
theorem d3_67 : decode prog_13_method_9_code 67 = .ok (.goto 4, 3) := by decide +kernel
theorem d3_70 : decode prog_13_method_9_code 70 = .ok (.iconst 0, 1) := by decide +kernel
theorem d3_71 : decode prog_13_method_9_code 71 = .ok (.ireturn, 1) := by decide +kernel
set_option maxRecDepth 65536 in
set_option maxHeartbeats 40000000 in
theorem cut36 {p : Program} {l : Launch} {e : Env} {s : State} {m : MethodId} {args : Array Value} {below : List Frame} {meth : Method} {c : Code} {T0 : State} {locs : List Loc} {Z : State} {a0 : Array Value} {h0 : Heap} {n0 : Nat} {Q : Option Value → Heap → List Loc → Prop} (p1 : Int32)
    (X0 : Stand p l e ({ frames := 0, cells := 0, slots := 0, locals := 0 } : Room) s m args below meth c T0 locs 0 0) (hx : p.tables.exec = Jvm.exec) (hZ : Z.Warmed39 s.vm) (hw : ∀ d ∈ tables_1, d.before a0 Z = true) (hby : c.code = prog_13_method_9_code) (hml : c.maxLocals = 1) (hown : s.vm.findClass "com/example/cellmark/cellmark/security/Label" = some m.cls) (hret : meth.sig.returnType = some .boolean) (hlk : meth.locks = false) (e0 : T0.heap = h0) (N0 : Fr n0 locs) (Z0 : n0 ≤ h0.size) (hQ : Q (some (.int (own_t36 p1))) h0 locs) :
    Rch p e below (Fin s below Q 0 0) (T0.setTop (mkF m 36 #[.val (.int p1)] [])) := by
  refine Rch.go (U' := T0.setTop (mkF m 37 #[.val (.int p1)] [(.int p1)])) (fun _ k => XS.iloadN X0.here hx rfl (hb hby d3_36) rfl  k) ?_
  refine Rch.go (U' := T0.setTop (mkF m 39 #[.val (.int p1)] [(.int (95 : Int32)), (.int p1)])) (fun _ k => XS.bipush X0.here hx rfl (hb hby d3_37) k) ?_
  by_cases br1 : p1 = (95 : Int32)
  ·
    refine Rch.go (U' := T0.setTop (mkF m 66 #[.val (.int p1)] [])) (fun _ k => XS.icmpYes X0.here hx rfl (pc0 := 39) (pc' := 66) rfl (hb hby d3_39) rfl (XT.ii_eq_t br1) (by decide) (by decide) k) ?_
    refine Rch.go (U' := T0.setTop (mkF m 67 #[.val (.int p1)] [(.int (1 : Int32))])) (fun _ k => XS.iconst X0.here hx rfl (hb hby d3_66) k) ?_
    refine Rch.go (U' := T0.setTop (mkF m 71 #[.val (.int p1)] [(.int (1 : Int32))])) (fun _ k => XS.goto X0.here hx rfl (pc0 := 67) (pc' := 71) rfl (hb hby d3_67) (by decide) (by decide) k) ?_
    refine Rch.fin X0 hlk (v := some (.int (nar .boolean (1 : Int32)))) (fun h => by rw [hret] at h; cases h) e0 (by decide) (by decide) (fun fs hr => retN X0 hx (t := .boolean) hret (by simp) (hb hby d3_71) hr) ?_
    simpa [own_t36, br1, nar_1, nar_0] using hQ
  ·
    refine Rch.go (U' := T0.setTop (mkF m 42 #[.val (.int p1)] [])) (fun _ k => XS.icmpNo X0.here hx rfl (hb hby d3_39) rfl (XT.ii_eq_f br1) k) ?_
    refine Rch.go (U' := T0.setTop (mkF m 43 #[.val (.int p1)] [(.int p1)])) (fun _ k => XS.iloadN X0.here hx rfl (hb hby d3_42) rfl  k) ?_
    refine Rch.go (U' := T0.setTop (mkF m 45 #[.val (.int p1)] [(.int (45 : Int32)), (.int p1)])) (fun _ k => XS.bipush X0.here hx rfl (hb hby d3_43) k) ?_
    by_cases br2 : p1 = (45 : Int32)
    ·
      refine Rch.go (U' := T0.setTop (mkF m 66 #[.val (.int p1)] [])) (fun _ k => XS.icmpYes X0.here hx rfl (pc0 := 45) (pc' := 66) rfl (hb hby d3_45) rfl (XT.ii_eq_t br2) (by decide) (by decide) k) ?_
      refine Rch.go (U' := T0.setTop (mkF m 67 #[.val (.int p1)] [(.int (1 : Int32))])) (fun _ k => XS.iconst X0.here hx rfl (hb hby d3_66) k) ?_
      refine Rch.go (U' := T0.setTop (mkF m 71 #[.val (.int p1)] [(.int (1 : Int32))])) (fun _ k => XS.goto X0.here hx rfl (pc0 := 67) (pc' := 71) rfl (hb hby d3_67) (by decide) (by decide) k) ?_
      refine Rch.fin X0 hlk (v := some (.int (nar .boolean (1 : Int32)))) (fun h => by rw [hret] at h; cases h) e0 (by decide) (by decide) (fun fs hr => retN X0 hx (t := .boolean) hret (by simp) (hb hby d3_71) hr) ?_
      simpa [own_t36, br1, br2, nar_1, nar_0] using hQ
    ·
      refine Rch.go (U' := T0.setTop (mkF m 48 #[.val (.int p1)] [])) (fun _ k => XS.icmpNo X0.here hx rfl (hb hby d3_45) rfl (XT.ii_eq_f br2) k) ?_
      refine Rch.go (U' := T0.setTop (mkF m 49 #[.val (.int p1)] [(.int p1)])) (fun _ k => XS.iloadN X0.here hx rfl (hb hby d3_48) rfl  k) ?_
      refine Rch.go (U' := T0.setTop (mkF m 51 #[.val (.int p1)] [(.int (46 : Int32)), (.int p1)])) (fun _ k => XS.bipush X0.here hx rfl (hb hby d3_49) k) ?_
      by_cases br3 : p1 = (46 : Int32)
      ·
        refine Rch.go (U' := T0.setTop (mkF m 66 #[.val (.int p1)] [])) (fun _ k => XS.icmpYes X0.here hx rfl (pc0 := 51) (pc' := 66) rfl (hb hby d3_51) rfl (XT.ii_eq_t br3) (by decide) (by decide) k) ?_
        refine Rch.go (U' := T0.setTop (mkF m 67 #[.val (.int p1)] [(.int (1 : Int32))])) (fun _ k => XS.iconst X0.here hx rfl (hb hby d3_66) k) ?_
        refine Rch.go (U' := T0.setTop (mkF m 71 #[.val (.int p1)] [(.int (1 : Int32))])) (fun _ k => XS.goto X0.here hx rfl (pc0 := 67) (pc' := 71) rfl (hb hby d3_67) (by decide) (by decide) k) ?_
        refine Rch.fin X0 hlk (v := some (.int (nar .boolean (1 : Int32)))) (fun h => by rw [hret] at h; cases h) e0 (by decide) (by decide) (fun fs hr => retN X0 hx (t := .boolean) hret (by simp) (hb hby d3_71) hr) ?_
        simpa [own_t36, br1, br2, br3, nar_1, nar_0] using hQ
      ·
        refine Rch.go (U' := T0.setTop (mkF m 54 #[.val (.int p1)] [])) (fun _ k => XS.icmpNo X0.here hx rfl (hb hby d3_51) rfl (XT.ii_eq_f br3) k) ?_
        refine Rch.go (U' := T0.setTop (mkF m 55 #[.val (.int p1)] [(.int p1)])) (fun _ k => XS.iloadN X0.here hx rfl (hb hby d3_54) rfl  k) ?_
        refine Rch.go (U' := T0.setTop (mkF m 57 #[.val (.int p1)] [(.int (58 : Int32)), (.int p1)])) (fun _ k => XS.bipush X0.here hx rfl (hb hby d3_55) k) ?_
        by_cases br4 : p1 = (58 : Int32)
        ·
          refine Rch.go (U' := T0.setTop (mkF m 66 #[.val (.int p1)] [])) (fun _ k => XS.icmpYes X0.here hx rfl (pc0 := 57) (pc' := 66) rfl (hb hby d3_57) rfl (XT.ii_eq_t br4) (by decide) (by decide) k) ?_
          refine Rch.go (U' := T0.setTop (mkF m 67 #[.val (.int p1)] [(.int (1 : Int32))])) (fun _ k => XS.iconst X0.here hx rfl (hb hby d3_66) k) ?_
          refine Rch.go (U' := T0.setTop (mkF m 71 #[.val (.int p1)] [(.int (1 : Int32))])) (fun _ k => XS.goto X0.here hx rfl (pc0 := 67) (pc' := 71) rfl (hb hby d3_67) (by decide) (by decide) k) ?_
          refine Rch.fin X0 hlk (v := some (.int (nar .boolean (1 : Int32)))) (fun h => by rw [hret] at h; cases h) e0 (by decide) (by decide) (fun fs hr => retN X0 hx (t := .boolean) hret (by simp) (hb hby d3_71) hr) ?_
          simpa [own_t36, br1, br2, br3, br4, nar_1, nar_0] using hQ
        ·
          refine Rch.go (U' := T0.setTop (mkF m 60 #[.val (.int p1)] [])) (fun _ k => XS.icmpNo X0.here hx rfl (hb hby d3_57) rfl (XT.ii_eq_f br4) k) ?_
          refine Rch.go (U' := T0.setTop (mkF m 61 #[.val (.int p1)] [(.int p1)])) (fun _ k => XS.iloadN X0.here hx rfl (hb hby d3_60) rfl  k) ?_
          refine Rch.go (U' := T0.setTop (mkF m 63 #[.val (.int p1)] [(.int (47 : Int32)), (.int p1)])) (fun _ k => XS.bipush X0.here hx rfl (hb hby d3_61) k) ?_
          by_cases br5 : p1 = (47 : Int32)
          ·
            refine Rch.go (U' := T0.setTop (mkF m 66 #[.val (.int p1)] [])) (fun _ k => XS.icmpNo X0.here hx rfl (hb hby d3_63) rfl (XT.ii_ne_f br5) k) ?_
            refine Rch.go (U' := T0.setTop (mkF m 67 #[.val (.int p1)] [(.int (1 : Int32))])) (fun _ k => XS.iconst X0.here hx rfl (hb hby d3_66) k) ?_
            refine Rch.go (U' := T0.setTop (mkF m 71 #[.val (.int p1)] [(.int (1 : Int32))])) (fun _ k => XS.goto X0.here hx rfl (pc0 := 67) (pc' := 71) rfl (hb hby d3_67) (by decide) (by decide) k) ?_
            refine Rch.fin X0 hlk (v := some (.int (nar .boolean (1 : Int32)))) (fun h => by rw [hret] at h; cases h) e0 (by decide) (by decide) (fun fs hr => retN X0 hx (t := .boolean) hret (by simp) (hb hby d3_71) hr) ?_
            simpa [own_t36, br1, br2, br3, br4, br5, nar_1, nar_0] using hQ
          ·
            refine Rch.go (U' := T0.setTop (mkF m 70 #[.val (.int p1)] [])) (fun _ k => XS.icmpYes X0.here hx rfl (pc0 := 63) (pc' := 70) rfl (hb hby d3_63) rfl (XT.ii_ne_t br5) (by decide) (by decide) k) ?_
            refine Rch.go (U' := T0.setTop (mkF m 71 #[.val (.int p1)] [(.int (0 : Int32))])) (fun _ k => XS.iconst X0.here hx rfl (hb hby d3_70) k) ?_
            refine Rch.fin X0 hlk (v := some (.int (nar .boolean (0 : Int32)))) (fun h => by rw [hret] at h; cases h) e0 (by decide) (by decide) (fun fs hr => retN X0 hx (t := .boolean) hret (by simp) (hb hby d3_71) hr) ?_
            simpa [own_t36, br1, br2, br3, br4, br5, nar_1, nar_0] using hQ
set_option maxRecDepth 65536 in
set_option maxHeartbeats 40000000 in
theorem cut24 {p : Program} {l : Launch} {e : Env} {s : State} {m : MethodId} {args : Array Value} {below : List Frame} {meth : Method} {c : Code} {T0 : State} {locs : List Loc} {Z : State} {a0 : Array Value} {h0 : Heap} {n0 : Nat} {Q : Option Value → Heap → List Loc → Prop} (p1 : Int32)
    (X0 : Stand p l e ({ frames := 0, cells := 0, slots := 0, locals := 0 } : Room) s m args below meth c T0 locs 0 0) (hx : p.tables.exec = Jvm.exec) (hZ : Z.Warmed39 s.vm) (hw : ∀ d ∈ tables_1, d.before a0 Z = true) (hby : c.code = prog_13_method_9_code) (hml : c.maxLocals = 1) (hown : s.vm.findClass "com/example/cellmark/cellmark/security/Label" = some m.cls) (hret : meth.sig.returnType = some .boolean) (hlk : meth.locks = false) (e0 : T0.heap = h0) (N0 : Fr n0 locs) (Z0 : n0 ≤ h0.size) (hQ : Q (some (.int (own_t24 p1))) h0 locs) :
    Rch p e below (Fin s below Q 0 0) (T0.setTop (mkF m 24 #[.val (.int p1)] [])) := by
  refine Rch.go (U' := T0.setTop (mkF m 25 #[.val (.int p1)] [(.int p1)])) (fun _ k => XS.iloadN X0.here hx rfl (hb hby d3_24) rfl  k) ?_
  refine Rch.go (U' := T0.setTop (mkF m 27 #[.val (.int p1)] [(.int (48 : Int32)), (.int p1)])) (fun _ k => XS.bipush X0.here hx rfl (hb hby d3_25) k) ?_
  by_cases br6 : p1 < (48 : Int32)
  ·
    refine Rch.go (U' := T0.setTop (mkF m 36 #[.val (.int p1)] [])) (fun _ k => XS.icmpYes X0.here hx rfl (pc0 := 27) (pc' := 36) rfl (hb hby d3_27) rfl (XT.ii_lt_t br6) (by decide) (by decide) k) ?_
    exact cut36 p1 X0 hx hZ hw hby hml hown hret hlk e0 N0 Z0 (by simpa only [own_t24, br6, ↓reduceIte] using hQ)
  ·
    refine Rch.go (U' := T0.setTop (mkF m 30 #[.val (.int p1)] [])) (fun _ k => XS.icmpNo X0.here hx rfl (hb hby d3_27) rfl (XT.ii_lt_f br6) k) ?_
    refine Rch.go (U' := T0.setTop (mkF m 31 #[.val (.int p1)] [(.int p1)])) (fun _ k => XS.iloadN X0.here hx rfl (hb hby d3_30) rfl  k) ?_
    refine Rch.go (U' := T0.setTop (mkF m 33 #[.val (.int p1)] [(.int (57 : Int32)), (.int p1)])) (fun _ k => XS.bipush X0.here hx rfl (hb hby d3_31) k) ?_
    by_cases br7 : (57 : Int32) < p1
    ·
      refine Rch.go (U' := T0.setTop (mkF m 36 #[.val (.int p1)] [])) (fun _ k => XS.icmpNo X0.here hx rfl (hb hby d3_33) rfl (XT.ii_le_f br7) k) ?_
      exact cut36 p1 X0 hx hZ hw hby hml hown hret hlk e0 N0 Z0 (by simpa only [own_t24, br6, br7, ↓reduceIte] using hQ)
    ·
      refine Rch.go (U' := T0.setTop (mkF m 66 #[.val (.int p1)] [])) (fun _ k => XS.icmpYes X0.here hx rfl (pc0 := 33) (pc' := 66) rfl (hb hby d3_33) rfl (XT.ii_le_t br7) (by decide) (by decide) k) ?_
      refine Rch.go (U' := T0.setTop (mkF m 67 #[.val (.int p1)] [(.int (1 : Int32))])) (fun _ k => XS.iconst X0.here hx rfl (hb hby d3_66) k) ?_
      refine Rch.go (U' := T0.setTop (mkF m 71 #[.val (.int p1)] [(.int (1 : Int32))])) (fun _ k => XS.goto X0.here hx rfl (pc0 := 67) (pc' := 71) rfl (hb hby d3_67) (by decide) (by decide) k) ?_
      refine Rch.fin X0 hlk (v := some (.int (nar .boolean (1 : Int32)))) (fun h => by rw [hret] at h; cases h) e0 (by decide) (by decide) (fun fs hr => retN X0 hx (t := .boolean) hret (by simp) (hb hby d3_71) hr) ?_
      simpa [own_t24, br6, br7, nar_1, nar_0] using hQ
set_option maxRecDepth 65536 in
set_option maxHeartbeats 40000000 in
theorem cut12 {p : Program} {l : Launch} {e : Env} {s : State} {m : MethodId} {args : Array Value} {below : List Frame} {meth : Method} {c : Code} {T0 : State} {locs : List Loc} {Z : State} {a0 : Array Value} {h0 : Heap} {n0 : Nat} {Q : Option Value → Heap → List Loc → Prop} (p1 : Int32)
    (X0 : Stand p l e ({ frames := 0, cells := 0, slots := 0, locals := 0 } : Room) s m args below meth c T0 locs 0 0) (hx : p.tables.exec = Jvm.exec) (hZ : Z.Warmed39 s.vm) (hw : ∀ d ∈ tables_1, d.before a0 Z = true) (hby : c.code = prog_13_method_9_code) (hml : c.maxLocals = 1) (hown : s.vm.findClass "com/example/cellmark/cellmark/security/Label" = some m.cls) (hret : meth.sig.returnType = some .boolean) (hlk : meth.locks = false) (e0 : T0.heap = h0) (N0 : Fr n0 locs) (Z0 : n0 ≤ h0.size) (hQ : Q (some (.int (own_t12 p1))) h0 locs) :
    Rch p e below (Fin s below Q 0 0) (T0.setTop (mkF m 12 #[.val (.int p1)] [])) := by
  refine Rch.go (U' := T0.setTop (mkF m 13 #[.val (.int p1)] [(.int p1)])) (fun _ k => XS.iloadN X0.here hx rfl (hb hby d3_12) rfl  k) ?_
  refine Rch.go (U' := T0.setTop (mkF m 15 #[.val (.int p1)] [(.int (97 : Int32)), (.int p1)])) (fun _ k => XS.bipush X0.here hx rfl (hb hby d3_13) k) ?_
  by_cases br8 : p1 < (97 : Int32)
  ·
    refine Rch.go (U' := T0.setTop (mkF m 24 #[.val (.int p1)] [])) (fun _ k => XS.icmpYes X0.here hx rfl (pc0 := 15) (pc' := 24) rfl (hb hby d3_15) rfl (XT.ii_lt_t br8) (by decide) (by decide) k) ?_
    exact cut24 p1 X0 hx hZ hw hby hml hown hret hlk e0 N0 Z0 (by simpa only [own_t12, br8, ↓reduceIte] using hQ)
  ·
    refine Rch.go (U' := T0.setTop (mkF m 18 #[.val (.int p1)] [])) (fun _ k => XS.icmpNo X0.here hx rfl (hb hby d3_15) rfl (XT.ii_lt_f br8) k) ?_
    refine Rch.go (U' := T0.setTop (mkF m 19 #[.val (.int p1)] [(.int p1)])) (fun _ k => XS.iloadN X0.here hx rfl (hb hby d3_18) rfl  k) ?_
    refine Rch.go (U' := T0.setTop (mkF m 21 #[.val (.int p1)] [(.int (122 : Int32)), (.int p1)])) (fun _ k => XS.bipush X0.here hx rfl (hb hby d3_19) k) ?_
    by_cases br9 : (122 : Int32) < p1
    ·
      refine Rch.go (U' := T0.setTop (mkF m 24 #[.val (.int p1)] [])) (fun _ k => XS.icmpNo X0.here hx rfl (hb hby d3_21) rfl (XT.ii_le_f br9) k) ?_
      exact cut24 p1 X0 hx hZ hw hby hml hown hret hlk e0 N0 Z0 (by simpa only [own_t12, br8, br9, ↓reduceIte] using hQ)
    ·
      refine Rch.go (U' := T0.setTop (mkF m 66 #[.val (.int p1)] [])) (fun _ k => XS.icmpYes X0.here hx rfl (pc0 := 21) (pc' := 66) rfl (hb hby d3_21) rfl (XT.ii_le_t br9) (by decide) (by decide) k) ?_
      refine Rch.go (U' := T0.setTop (mkF m 67 #[.val (.int p1)] [(.int (1 : Int32))])) (fun _ k => XS.iconst X0.here hx rfl (hb hby d3_66) k) ?_
      refine Rch.go (U' := T0.setTop (mkF m 71 #[.val (.int p1)] [(.int (1 : Int32))])) (fun _ k => XS.goto X0.here hx rfl (pc0 := 67) (pc' := 71) rfl (hb hby d3_67) (by decide) (by decide) k) ?_
      refine Rch.fin X0 hlk (v := some (.int (nar .boolean (1 : Int32)))) (fun h => by rw [hret] at h; cases h) e0 (by decide) (by decide) (fun fs hr => retN X0 hx (t := .boolean) hret (by simp) (hb hby d3_71) hr) ?_
      simpa [own_t12, br8, br9, nar_1, nar_0] using hQ
theorem pn_com_example_cellmark_cellmark_security_Label : plainName "com/example/cellmark/cellmark/security/Label" = true := by first | (simp [plainName, overriddenIn]; done) | decide +kernel
theorem ef_rm1 (m : MethodId) (p1 : Int32) : entryFrame m #[(.int p1)] 1 = mkF m 0 #[.val (.int p1)] [] := by first | (simp [entryFrame, mkF, argsToLocals, Value.category]; done) | rfl
def Q_rm1 (Z : State) (p1 : Int32) (h0 : Heap) (n0 : Nat) (v : Option Value) (h : Heap) (L : List Loc) : Prop := v = some (.int (own_tag p1)) ∧ Fr n0 L ∧ h = h0
set_option maxRecDepth 65536 in
set_option maxHeartbeats 40000000 in
theorem rm1 (l : Launch) (Z : State) (a0 : Array Value) (hw : ∀ d ∈ tables_1, d.before a0 Z = true) (ws : List Jvm.Cond) (p1 : Int32) (h0 : Heap) (n0 : Nat) (Z0 : n0 ≤ h0.size)  :
    MetFree l (⟨"com/example/cellmark/cellmark/security/Label", "isTagCharacter", "(C)Z"⟩ : MethodName) (head1 (Jvm.Cond.code (⟨"com/example/cellmark/cellmark/security/Label", "isTagCharacter", "(C)Z"⟩ : MethodName) prog_13_method_9_code 1 (some .boolean) :: ws) ({ frames := 0, cells := 0, slots := 0, locals := 0 } : Room)) (fun a U => a = #[(.int p1)] ∧ Z.Warmed39 U.vm ∧ U.heap = h0) (fun _ _ _ _ _ => True) (fun _ U o U' => ∃ v L, o = .returned v ∧ Q_rm1 Z p1 h0 n0 v U'.heap L ∧ FrameEnd U o U' L ({ frames := 0, cells := 0, slots := 0, locals := 0 } : Room).cells ({ frames := 0, cells := 0, slots := 0, locals := 0 } : Room).slots) := by
  refine MetFree.of_bodySF (plainFor_of_name pn_com_example_cellmark_cellmark_security_Label) hisR ?_
  intro p e s m args below meth c s₁ Bd hml0 hP hK
  obtain ⟨rfl, hZ, hh⟩ := hP
  have hx := Bd.exec
  have hby := Bd.bytes
  have hml : c.maxLocals = 1 := hml0
  have hown : s.vm.findClass "com/example/cellmark/cellmark/security/Label" = some m.cls := findClass_of_methodNamed Bd.named
  have hnm := (name_of_methodNamed Bd.named Bd.method).1
  have hret := Bd.returns
  have hlk : meth.locks = false := BodyLoose.notSynchronized Bd
  have X0 : Stand p l e ({ frames := 0, cells := 0, slots := 0, locals := 0 } : Room) s m #[(.int p1)] below meth c s₁ [] 0 0 := Stand.of_body Bd
  have e0 : s₁.heap = h0 := by rw [← hh, Bd.state]; rfl
  have N0 := Fr.nil n0
  refine Rch.body (Q := Q_rm1 Z p1 h0 n0) (U' := s₁.setTop (mkF m 0 #[.val (.int p1)] [])) (fun t k => castTop (ef_rm1 m p1) k) ?_
  refine Rch.go (U' := s₁.setTop (mkF m 1 #[.val (.int p1)] [(.int p1)])) (fun _ k => XS.iloadN X0.here hx rfl (hb hby d3_0) rfl  k) ?_
  refine Rch.go (U' := s₁.setTop (mkF m 3 #[.val (.int p1)] [(.int (65 : Int32)), (.int p1)])) (fun _ k => XS.bipush X0.here hx rfl (hb hby d3_1) k) ?_
  by_cases br10 : p1 < (65 : Int32)
  ·
    refine Rch.go (U' := s₁.setTop (mkF m 12 #[.val (.int p1)] [])) (fun _ k => XS.icmpYes X0.here hx rfl (pc0 := 3) (pc' := 12) rfl (hb hby d3_3) rfl (XT.ii_lt_t br10) (by decide) (by decide) k) ?_
    exact cut12 p1 X0 hx hZ hw hby hml hown hret hlk e0 N0 Z0 ⟨by simp only [own_tag, br10, ↓reduceIte], N0, rfl⟩
  ·
    refine Rch.go (U' := s₁.setTop (mkF m 6 #[.val (.int p1)] [])) (fun _ k => XS.icmpNo X0.here hx rfl (hb hby d3_3) rfl (XT.ii_lt_f br10) k) ?_
    refine Rch.go (U' := s₁.setTop (mkF m 7 #[.val (.int p1)] [(.int p1)])) (fun _ k => XS.iloadN X0.here hx rfl (hb hby d3_6) rfl  k) ?_
    refine Rch.go (U' := s₁.setTop (mkF m 9 #[.val (.int p1)] [(.int (90 : Int32)), (.int p1)])) (fun _ k => XS.bipush X0.here hx rfl (hb hby d3_7) k) ?_
    by_cases br11 : (90 : Int32) < p1
    ·
      refine Rch.go (U' := s₁.setTop (mkF m 12 #[.val (.int p1)] [])) (fun _ k => XS.icmpNo X0.here hx rfl (hb hby d3_9) rfl (XT.ii_le_f br11) k) ?_
      exact cut12 p1 X0 hx hZ hw hby hml hown hret hlk e0 N0 Z0 ⟨by simp only [own_tag, br10, br11, ↓reduceIte], N0, rfl⟩
    ·
      refine Rch.go (U' := s₁.setTop (mkF m 66 #[.val (.int p1)] [])) (fun _ k => XS.icmpYes X0.here hx rfl (pc0 := 9) (pc' := 66) rfl (hb hby d3_9) rfl (XT.ii_le_t br11) (by decide) (by decide) k) ?_
      refine Rch.go (U' := s₁.setTop (mkF m 67 #[.val (.int p1)] [(.int (1 : Int32))])) (fun _ k => XS.iconst X0.here hx rfl (hb hby d3_66) k) ?_
      refine Rch.go (U' := s₁.setTop (mkF m 71 #[.val (.int p1)] [(.int (1 : Int32))])) (fun _ k => XS.goto X0.here hx rfl (pc0 := 67) (pc' := 71) rfl (hb hby d3_67) (by decide) (by decide) k) ?_
      refine Rch.fin X0 hlk (v := some (.int (nar .boolean (1 : Int32)))) (fun h => by rw [hret] at h; cases h) e0 (by decide) (by decide) (fun fs hr => retN X0 hx (t := .boolean) hret (by simp) (hb hby d3_71) hr) ?_
      exact ⟨by simp only [own_tag, br10, br11, nar_1, nar_0, ↓reduceIte], N0, rfl⟩
theorem d7_0 : decode method_3_code 0 = .ok (.ldc2_w 18, 3) := by decide +kernel
theorem d7_3 : decode method_3_code 3 = .ok (.lstore_n 1, 1) := by decide +kernel
theorem d7_4 : decode method_3_code 4 = .ok (.ldc2_w 20, 3) := by decide +kernel
theorem d7_7 : decode method_3_code 7 = .ok (.lstore_n 3, 1) := by decide +kernel
theorem d7_8 : decode method_3_code 8 = .ok (.iload_n 0, 1) := by decide +kernel
theorem d7_9 : decode method_3_code 9 = .ok (.istore 5, 2) := by decide +kernel
theorem d7_11 : decode method_3_code 11 = .ok (.iload 5, 2) := by decide +kernel
theorem d7_13 : decode method_3_code 13 = .ok (.bipush 64, 2) := by decide +kernel
theorem d7_15 : decode method_3_code 15 = .ok (.if_icmp .ge 20, 3) := by decide +kernel
theorem d7_18 : decode method_3_code 18 = .ok (.lload_n 1, 1) := by decide +kernel
theorem d7_19 : decode method_3_code 19 = .ok (.iload 5, 2) := by decide +kernel
theorem d7_21 : decode method_3_code 21 = .ok (.lushr, 1) := by decide +kernel
theorem d7_22 : decode method_3_code 22 = .ok (.lconst 1, 1) := by decide +kernel
theorem d7_23 : decode method_3_code 23 = .ok (.land, 1) := by decide +kernel
theorem d7_24 : decode method_3_code 24 = .ok (.lconst 0, 1) := by decide +kernel
theorem d7_25 : decode method_3_code 25 = .ok (.lcmp, 1) := by decide +kernel
theorem d7_26 : decode method_3_code 26 = .ok (.ifCond .eq 7, 3) := by decide +kernel
theorem d7_29 : decode method_3_code 29 = .ok (.iconst 1, 1) := by decide +kernel
theorem d7_30 : decode method_3_code 30 = .ok (.goto 4, 3) := by decide +kernel
theorem d7_33 : decode method_3_code 33 = .ok (.iconst 0, 1) := by decide +kernel
theorem d7_34 : decode method_3_code 34 = .ok (.ireturn, 1) := by decide +kernel
theorem d7_35 : decode method_3_code 35 = .ok (.iload 5, 2) := by decide +kernel
theorem d7_37 : decode method_3_code 37 = .ok (.sipush 128, 3) := by decide +kernel
theorem d7_40 : decode method_3_code 40 = .ok (.if_icmp .ge 23, 3) := by decide +kernel
theorem d7_43 : decode method_3_code 43 = .ok (.lload_n 3, 1) := by decide +kernel
theorem d7_44 : decode method_3_code 44 = .ok (.iload 5, 2) := by decide +kernel
theorem d7_46 : decode method_3_code 46 = .ok (.bipush 64, 2) := by decide +kernel
theorem d7_48 : decode method_3_code 48 = .ok (.isub, 1) := by decide +kernel
theorem d7_49 : decode method_3_code 49 = .ok (.lushr, 1) := by decide +kernel
theorem d7_50 : decode method_3_code 50 = .ok (.lconst 1, 1) := by decide +kernel
theorem d7_51 : decode method_3_code 51 = .ok (.land, 1) := by decide +kernel
theorem d7_52 : decode method_3_code 52 = .ok (.lconst 0, 1) := by decide +kernel
theorem d7_53 : decode method_3_code 53 = .ok (.lcmp, 1) := by decide +kernel
theorem d7_54 : decode method_3_code 54 = .ok (.ifCond .eq 7, 3) := by decide +kernel
theorem d7_57 : decode method_3_code 57 = .ok (.iconst 1, 1) := by decide +kernel
theorem d7_58 : decode method_3_code 58 = .ok (.goto 4, 3) := by decide +kernel
theorem d7_61 : decode method_3_code 61 = .ok (.iconst 0, 1) := by decide +kernel
theorem d7_62 : decode method_3_code 62 = .ok (.ireturn, 1) := by decide +kernel
theorem d7_63 : decode method_3_code 63 = .ok (.iconst 0, 1) := by decide +kernel
theorem d7_64 : decode method_3_code 64 = .ok (.ireturn, 1) := by decide +kernel
theorem pn_com_example_cellmark_cellmark_security_LabelIsTagCharacterPinLaw : plainName "com/example/cellmark/cellmark/security/LabelIsTagCharacterPinLaw" = true := by first | (simp [plainName, overriddenIn]; done) | decide +kernel
theorem ef_rm2 (m : MethodId) (p1 : Int32) : entryFrame m #[(.int p1)] 6 = mkF m 0 #[.val (.int p1), .unset, .unset, .unset, .unset, .unset] [] := by first | (simp [entryFrame, mkF, argsToLocals, Value.category]; done) | rfl
def Q_rm2 (Z : State) (p1 : Int32) (h0 : Heap) (n0 : Nat) (v : Option Value) (h : Heap) (L : List Loc) : Prop := v = some (.int (own_exp p1)) ∧ Fr n0 L ∧ h = h0
set_option maxRecDepth 65536 in
set_option maxHeartbeats 40000000 in
theorem rm2 (l : Launch) (Z : State) (a0 : Array Value) (hw : ∀ d ∈ tables_1, d.before a0 Z = true) (ws : List Jvm.Cond) (p1 : Int32) (h0 : Heap) (n0 : Nat) (Z0 : n0 ≤ h0.size)  :
    MetFree l (⟨"com/example/cellmark/cellmark/security/LabelIsTagCharacterPinLaw", "expected", "(C)Z"⟩ : MethodName) (head1 (Jvm.Cond.code (⟨"com/example/cellmark/cellmark/security/LabelIsTagCharacterPinLaw", "expected", "(C)Z"⟩ : MethodName) method_3_code 6 (some .boolean) :: ws) ({ frames := 0, cells := 0, slots := 0, locals := 0 } : Room)) (fun a U => a = #[(.int p1)] ∧ Z.Warmed39 U.vm ∧ U.heap = h0) (fun _ _ _ _ _ => True) (fun _ U o U' => ∃ v L, o = .returned v ∧ Q_rm2 Z p1 h0 n0 v U'.heap L ∧ FrameEnd U o U' L ({ frames := 0, cells := 0, slots := 0, locals := 0 } : Room).cells ({ frames := 0, cells := 0, slots := 0, locals := 0 } : Room).slots) := by
  refine MetFree.of_bodySF (plainFor_of_name pn_com_example_cellmark_cellmark_security_LabelIsTagCharacterPinLaw) hisR ?_
  intro p e s m args below meth c s₁ Bd hml0 hP hK
  obtain ⟨rfl, hZ, hh⟩ := hP
  have hx := Bd.exec
  have hby := Bd.bytes
  have hml : c.maxLocals = 6 := hml0
  have hown : s.vm.findClass "com/example/cellmark/cellmark/security/LabelIsTagCharacterPinLaw" = some m.cls := findClass_of_methodNamed Bd.named
  have hnm := (name_of_methodNamed Bd.named Bd.method).1
  have hret := Bd.returns
  have hlk : meth.locks = false := BodyLoose.notSynchronized Bd
  have X0 : Stand p l e ({ frames := 0, cells := 0, slots := 0, locals := 0 } : Room) s m #[(.int p1)] below meth c s₁ [] 0 0 := Stand.of_body Bd
  have e0 : s₁.heap = h0 := by rw [← hh, Bd.state]; rfl
  have N0 := Fr.nil n0
  refine Rch.body (Q := Q_rm2 Z p1 h0 n0) (U' := s₁.setTop (mkF m 0 #[.val (.int p1), .unset, .unset, .unset, .unset, .unset] [])) (fun t k => castTop (ef_rm2 m p1) k) ?_
  refine Rch.go (U' := s₁.setTop (mkF m 3 #[.val (.int p1), .unset, .unset, .unset, .unset, .unset] [(.long (576425567931334656 : Int64))])) (fun _ k => X0.ldc2Long hx hown (mvT hZ (wi hw 8 rfl)) (g := (mkF m 0 #[.val (.int p1), .unset, .unset, .unset, .unset, .unset] [])) rfl (hb hby d7_0) _ k) ?_
  refine Rch.go (U' := s₁.setTop (mkF m 4 #[.val (.int p1), .val (.long (576425567931334656 : Int64)), .second, .unset, .unset, .unset] [])) (fun _ k => XS.lstoreN X0.here hx rfl (hb hby d7_3) rfl (l' := #[.val (.int p1), .val (.long (576425567931334656 : Int64)), .second, .unset, .unset, .unset]) rfl k) ?_
  refine Rch.go (U' := s₁.setTop (mkF m 7 #[.val (.int p1), .val (.long (576425567931334656 : Int64)), .second, .unset, .unset, .unset] [(.long (576460745995190270 : Int64))])) (fun _ k => X0.ldc2Long hx hown (mvT hZ (wi hw 9 rfl)) (g := (mkF m 4 #[.val (.int p1), .val (.long (576425567931334656 : Int64)), .second, .unset, .unset, .unset] [])) rfl (hb hby d7_4) _ k) ?_
  refine Rch.go (U' := s₁.setTop (mkF m 8 #[.val (.int p1), .val (.long (576425567931334656 : Int64)), .second, .val (.long (576460745995190270 : Int64)), .second, .unset] [])) (fun _ k => XS.lstoreN X0.here hx rfl (hb hby d7_7) rfl (l' := #[.val (.int p1), .val (.long (576425567931334656 : Int64)), .second, .val (.long (576460745995190270 : Int64)), .second, .unset]) rfl k) ?_
  refine Rch.go (U' := s₁.setTop (mkF m 9 #[.val (.int p1), .val (.long (576425567931334656 : Int64)), .second, .val (.long (576460745995190270 : Int64)), .second, .unset] [(.int p1)])) (fun _ k => XS.iloadN X0.here hx rfl (hb hby d7_8) rfl  k) ?_
  refine Rch.go (U' := s₁.setTop (mkF m 11 #[.val (.int p1), .val (.long (576425567931334656 : Int64)), .second, .val (.long (576460745995190270 : Int64)), .second, .val (.int p1)] [])) (fun _ k => XS.istore X0.here hx rfl (hb hby d7_9) rfl (l' := #[.val (.int p1), .val (.long (576425567931334656 : Int64)), .second, .val (.long (576460745995190270 : Int64)), .second, .val (.int p1)]) rfl k) ?_
  refine Rch.go (U' := s₁.setTop (mkF m 13 #[.val (.int p1), .val (.long (576425567931334656 : Int64)), .second, .val (.long (576460745995190270 : Int64)), .second, .val (.int p1)] [(.int p1)])) (fun _ k => XS.iload X0.here hx rfl (hb hby d7_11) rfl  k) ?_
  refine Rch.go (U' := s₁.setTop (mkF m 15 #[.val (.int p1), .val (.long (576425567931334656 : Int64)), .second, .val (.long (576460745995190270 : Int64)), .second, .val (.int p1)] [(.int (64 : Int32)), (.int p1)])) (fun _ k => XS.bipush X0.here hx rfl (hb hby d7_13) k) ?_
  by_cases br12 : p1 < (64 : Int32)
  ·
    refine Rch.go (U' := s₁.setTop (mkF m 18 #[.val (.int p1), .val (.long (576425567931334656 : Int64)), .second, .val (.long (576460745995190270 : Int64)), .second, .val (.int p1)] [])) (fun _ k => XS.icmpNo X0.here hx rfl (hb hby d7_15) rfl (XT.ii_ge_f br12) k) ?_
    refine Rch.go (U' := s₁.setTop (mkF m 19 #[.val (.int p1), .val (.long (576425567931334656 : Int64)), .second, .val (.long (576460745995190270 : Int64)), .second, .val (.int p1)] [(.long (576425567931334656 : Int64))])) (fun _ k => XS.lloadN X0.here hx rfl (hb hby d7_18) rfl  k) ?_
    refine Rch.go (U' := s₁.setTop (mkF m 21 #[.val (.int p1), .val (.long (576425567931334656 : Int64)), .second, .val (.long (576460745995190270 : Int64)), .second, .val (.int p1)] [(.int p1), (.long (576425567931334656 : Int64))])) (fun _ k => XS.iload X0.here hx rfl (hb hby d7_19) rfl  k) ?_
    refine Rch.go (U' := s₁.setTop (mkF m 22 #[.val (.int p1), .val (.long (576425567931334656 : Int64)), .second, .val (.long (576460745995190270 : Int64)), .second, .val (.int p1)] [(.long (((576425567931334656 : Int64)).toUInt64 >>> (p1 &&& 0x3f).toInt64.toUInt64).toInt64)])) (fun _ k => XS.lushr X0.here hx rfl (hb hby d7_21) rfl k) ?_
    refine Rch.go (U' := s₁.setTop (mkF m 23 #[.val (.int p1), .val (.long (576425567931334656 : Int64)), .second, .val (.long (576460745995190270 : Int64)), .second, .val (.int p1)] [(.long (1 : Int64)), (.long (((576425567931334656 : Int64)).toUInt64 >>> (p1 &&& 0x3f).toInt64.toUInt64).toInt64)])) (fun _ k => XS.lconst X0.here hx rfl (hb hby d7_22) k) ?_
    refine Rch.go (U' := s₁.setTop (mkF m 24 #[.val (.int p1), .val (.long (576425567931334656 : Int64)), .second, .val (.long (576460745995190270 : Int64)), .second, .val (.int p1)] [(.long ((((576425567931334656 : Int64)).toUInt64 >>> (p1 &&& 0x3f).toInt64.toUInt64).toInt64 &&& (1 : Int64)))])) (fun _ k => XS.land X0.here hx rfl (hb hby d7_23) rfl k) ?_
    refine Rch.go (U' := s₁.setTop (mkF m 25 #[.val (.int p1), .val (.long (576425567931334656 : Int64)), .second, .val (.long (576460745995190270 : Int64)), .second, .val (.int p1)] [(.long (0 : Int64)), (.long ((((576425567931334656 : Int64)).toUInt64 >>> (p1 &&& 0x3f).toInt64.toUInt64).toInt64 &&& (1 : Int64)))])) (fun _ k => XS.lconst X0.here hx rfl (hb hby d7_24) k) ?_
    refine Rch.go (U' := s₁.setTop (mkF m 26 #[.val (.int p1), .val (.long (576425567931334656 : Int64)), .second, .val (.long (576460745995190270 : Int64)), .second, .val (.int p1)] [(.int (XT.cmpL ((((576425567931334656 : Int64)).toUInt64 >>> (p1 &&& 0x3f).toInt64.toUInt64).toInt64 &&& (1 : Int64)) (0 : Int64)))])) (fun _ k => XT.lcmp X0.here hx rfl (hb hby d7_25) rfl k) ?_
    by_cases br13 : ((((576425567931334656 : Int64)).toUInt64 >>> (p1 &&& 0x3f).toInt64.toUInt64).toInt64 &&& (1 : Int64)) = (0 : Int64)
    ·
      refine Rch.go (U' := s₁.setTop (mkF m 33 #[.val (.int p1), .val (.long (576425567931334656 : Int64)), .second, .val (.long (576460745995190270 : Int64)), .second, .val (.int p1)] [])) (fun _ k => XS.ifYes X0.here hx rfl (pc0 := 26) (pc' := 33) rfl (hb hby d7_26) rfl (XT.ll_eq_t br13) (by decide) (by decide) k) ?_
      refine Rch.go (U' := s₁.setTop (mkF m 34 #[.val (.int p1), .val (.long (576425567931334656 : Int64)), .second, .val (.long (576460745995190270 : Int64)), .second, .val (.int p1)] [(.int (0 : Int32))])) (fun _ k => XS.iconst X0.here hx rfl (hb hby d7_33) k) ?_
      refine Rch.fin X0 hlk (v := some (.int (nar .boolean (0 : Int32)))) (fun h => by rw [hret] at h; cases h) e0 (by decide) (by decide) (fun fs hr => retN X0 hx (t := .boolean) hret (by simp) (hb hby d7_34) hr) ?_
      exact ⟨by simp only [own_exp, br12, br13, nar_1, nar_0, ↓reduceIte], N0, rfl⟩
    ·
      refine Rch.go (U' := s₁.setTop (mkF m 29 #[.val (.int p1), .val (.long (576425567931334656 : Int64)), .second, .val (.long (576460745995190270 : Int64)), .second, .val (.int p1)] [])) (fun _ k => XS.ifNo X0.here hx rfl (hb hby d7_26) rfl (XT.ll_eq_f br13) k) ?_
      refine Rch.go (U' := s₁.setTop (mkF m 30 #[.val (.int p1), .val (.long (576425567931334656 : Int64)), .second, .val (.long (576460745995190270 : Int64)), .second, .val (.int p1)] [(.int (1 : Int32))])) (fun _ k => XS.iconst X0.here hx rfl (hb hby d7_29) k) ?_
      refine Rch.go (U' := s₁.setTop (mkF m 34 #[.val (.int p1), .val (.long (576425567931334656 : Int64)), .second, .val (.long (576460745995190270 : Int64)), .second, .val (.int p1)] [(.int (1 : Int32))])) (fun _ k => XS.goto X0.here hx rfl (pc0 := 30) (pc' := 34) rfl (hb hby d7_30) (by decide) (by decide) k) ?_
      refine Rch.fin X0 hlk (v := some (.int (nar .boolean (1 : Int32)))) (fun h => by rw [hret] at h; cases h) e0 (by decide) (by decide) (fun fs hr => retN X0 hx (t := .boolean) hret (by simp) (hb hby d7_34) hr) ?_
      exact ⟨by simp only [own_exp, br12, br13, nar_1, nar_0, ↓reduceIte], N0, rfl⟩
  ·
    refine Rch.go (U' := s₁.setTop (mkF m 35 #[.val (.int p1), .val (.long (576425567931334656 : Int64)), .second, .val (.long (576460745995190270 : Int64)), .second, .val (.int p1)] [])) (fun _ k => XS.icmpYes X0.here hx rfl (pc0 := 15) (pc' := 35) rfl (hb hby d7_15) rfl (XT.ii_ge_t br12) (by decide) (by decide) k) ?_
    refine Rch.go (U' := s₁.setTop (mkF m 37 #[.val (.int p1), .val (.long (576425567931334656 : Int64)), .second, .val (.long (576460745995190270 : Int64)), .second, .val (.int p1)] [(.int p1)])) (fun _ k => XS.iload X0.here hx rfl (hb hby d7_35) rfl  k) ?_
    refine Rch.go (U' := s₁.setTop (mkF m 40 #[.val (.int p1), .val (.long (576425567931334656 : Int64)), .second, .val (.long (576460745995190270 : Int64)), .second, .val (.int p1)] [(.int (128 : Int32)), (.int p1)])) (fun _ k => XS.sipush X0.here hx rfl (hb hby d7_37) k) ?_
    by_cases br14 : p1 < (128 : Int32)
    ·
      refine Rch.go (U' := s₁.setTop (mkF m 43 #[.val (.int p1), .val (.long (576425567931334656 : Int64)), .second, .val (.long (576460745995190270 : Int64)), .second, .val (.int p1)] [])) (fun _ k => XS.icmpNo X0.here hx rfl (hb hby d7_40) rfl (XT.ii_ge_f br14) k) ?_
      refine Rch.go (U' := s₁.setTop (mkF m 44 #[.val (.int p1), .val (.long (576425567931334656 : Int64)), .second, .val (.long (576460745995190270 : Int64)), .second, .val (.int p1)] [(.long (576460745995190270 : Int64))])) (fun _ k => XS.lloadN X0.here hx rfl (hb hby d7_43) rfl  k) ?_
      refine Rch.go (U' := s₁.setTop (mkF m 46 #[.val (.int p1), .val (.long (576425567931334656 : Int64)), .second, .val (.long (576460745995190270 : Int64)), .second, .val (.int p1)] [(.int p1), (.long (576460745995190270 : Int64))])) (fun _ k => XS.iload X0.here hx rfl (hb hby d7_44) rfl  k) ?_
      refine Rch.go (U' := s₁.setTop (mkF m 48 #[.val (.int p1), .val (.long (576425567931334656 : Int64)), .second, .val (.long (576460745995190270 : Int64)), .second, .val (.int p1)] [(.int (64 : Int32)), (.int p1), (.long (576460745995190270 : Int64))])) (fun _ k => XS.bipush X0.here hx rfl (hb hby d7_46) k) ?_
      refine Rch.go (U' := s₁.setTop (mkF m 49 #[.val (.int p1), .val (.long (576425567931334656 : Int64)), .second, .val (.long (576460745995190270 : Int64)), .second, .val (.int p1)] [(.int (p1 - (64 : Int32))), (.long (576460745995190270 : Int64))])) (fun _ k => XS.isub X0.here hx rfl (hb hby d7_48) rfl k) ?_
      refine Rch.go (U' := s₁.setTop (mkF m 50 #[.val (.int p1), .val (.long (576425567931334656 : Int64)), .second, .val (.long (576460745995190270 : Int64)), .second, .val (.int p1)] [(.long (((576460745995190270 : Int64)).toUInt64 >>> ((p1 - (64 : Int32)) &&& 0x3f).toInt64.toUInt64).toInt64)])) (fun _ k => XS.lushr X0.here hx rfl (hb hby d7_49) rfl k) ?_
      refine Rch.go (U' := s₁.setTop (mkF m 51 #[.val (.int p1), .val (.long (576425567931334656 : Int64)), .second, .val (.long (576460745995190270 : Int64)), .second, .val (.int p1)] [(.long (1 : Int64)), (.long (((576460745995190270 : Int64)).toUInt64 >>> ((p1 - (64 : Int32)) &&& 0x3f).toInt64.toUInt64).toInt64)])) (fun _ k => XS.lconst X0.here hx rfl (hb hby d7_50) k) ?_
      refine Rch.go (U' := s₁.setTop (mkF m 52 #[.val (.int p1), .val (.long (576425567931334656 : Int64)), .second, .val (.long (576460745995190270 : Int64)), .second, .val (.int p1)] [(.long ((((576460745995190270 : Int64)).toUInt64 >>> ((p1 - (64 : Int32)) &&& 0x3f).toInt64.toUInt64).toInt64 &&& (1 : Int64)))])) (fun _ k => XS.land X0.here hx rfl (hb hby d7_51) rfl k) ?_
      refine Rch.go (U' := s₁.setTop (mkF m 53 #[.val (.int p1), .val (.long (576425567931334656 : Int64)), .second, .val (.long (576460745995190270 : Int64)), .second, .val (.int p1)] [(.long (0 : Int64)), (.long ((((576460745995190270 : Int64)).toUInt64 >>> ((p1 - (64 : Int32)) &&& 0x3f).toInt64.toUInt64).toInt64 &&& (1 : Int64)))])) (fun _ k => XS.lconst X0.here hx rfl (hb hby d7_52) k) ?_
      refine Rch.go (U' := s₁.setTop (mkF m 54 #[.val (.int p1), .val (.long (576425567931334656 : Int64)), .second, .val (.long (576460745995190270 : Int64)), .second, .val (.int p1)] [(.int (XT.cmpL ((((576460745995190270 : Int64)).toUInt64 >>> ((p1 - (64 : Int32)) &&& 0x3f).toInt64.toUInt64).toInt64 &&& (1 : Int64)) (0 : Int64)))])) (fun _ k => XT.lcmp X0.here hx rfl (hb hby d7_53) rfl k) ?_
      by_cases br15 : ((((576460745995190270 : Int64)).toUInt64 >>> ((p1 - (64 : Int32)) &&& 0x3f).toInt64.toUInt64).toInt64 &&& (1 : Int64)) = (0 : Int64)
      ·
        refine Rch.go (U' := s₁.setTop (mkF m 61 #[.val (.int p1), .val (.long (576425567931334656 : Int64)), .second, .val (.long (576460745995190270 : Int64)), .second, .val (.int p1)] [])) (fun _ k => XS.ifYes X0.here hx rfl (pc0 := 54) (pc' := 61) rfl (hb hby d7_54) rfl (XT.ll_eq_t br15) (by decide) (by decide) k) ?_
        refine Rch.go (U' := s₁.setTop (mkF m 62 #[.val (.int p1), .val (.long (576425567931334656 : Int64)), .second, .val (.long (576460745995190270 : Int64)), .second, .val (.int p1)] [(.int (0 : Int32))])) (fun _ k => XS.iconst X0.here hx rfl (hb hby d7_61) k) ?_
        refine Rch.fin X0 hlk (v := some (.int (nar .boolean (0 : Int32)))) (fun h => by rw [hret] at h; cases h) e0 (by decide) (by decide) (fun fs hr => retN X0 hx (t := .boolean) hret (by simp) (hb hby d7_62) hr) ?_
        exact ⟨by simp only [own_exp, br12, br14, br15, nar_1, nar_0, ↓reduceIte], N0, rfl⟩
      ·
        refine Rch.go (U' := s₁.setTop (mkF m 57 #[.val (.int p1), .val (.long (576425567931334656 : Int64)), .second, .val (.long (576460745995190270 : Int64)), .second, .val (.int p1)] [])) (fun _ k => XS.ifNo X0.here hx rfl (hb hby d7_54) rfl (XT.ll_eq_f br15) k) ?_
        refine Rch.go (U' := s₁.setTop (mkF m 58 #[.val (.int p1), .val (.long (576425567931334656 : Int64)), .second, .val (.long (576460745995190270 : Int64)), .second, .val (.int p1)] [(.int (1 : Int32))])) (fun _ k => XS.iconst X0.here hx rfl (hb hby d7_57) k) ?_
        refine Rch.go (U' := s₁.setTop (mkF m 62 #[.val (.int p1), .val (.long (576425567931334656 : Int64)), .second, .val (.long (576460745995190270 : Int64)), .second, .val (.int p1)] [(.int (1 : Int32))])) (fun _ k => XS.goto X0.here hx rfl (pc0 := 58) (pc' := 62) rfl (hb hby d7_58) (by decide) (by decide) k) ?_
        refine Rch.fin X0 hlk (v := some (.int (nar .boolean (1 : Int32)))) (fun h => by rw [hret] at h; cases h) e0 (by decide) (by decide) (fun fs hr => retN X0 hx (t := .boolean) hret (by simp) (hb hby d7_62) hr) ?_
        exact ⟨by simp only [own_exp, br12, br14, br15, nar_1, nar_0, ↓reduceIte], N0, rfl⟩
    ·
      refine Rch.go (U' := s₁.setTop (mkF m 63 #[.val (.int p1), .val (.long (576425567931334656 : Int64)), .second, .val (.long (576460745995190270 : Int64)), .second, .val (.int p1)] [])) (fun _ k => XS.icmpYes X0.here hx rfl (pc0 := 40) (pc' := 63) rfl (hb hby d7_40) rfl (XT.ii_ge_t br14) (by decide) (by decide) k) ?_
      refine Rch.go (U' := s₁.setTop (mkF m 64 #[.val (.int p1), .val (.long (576425567931334656 : Int64)), .second, .val (.long (576460745995190270 : Int64)), .second, .val (.int p1)] [(.int (0 : Int32))])) (fun _ k => XS.iconst X0.here hx rfl (hb hby d7_63) k) ?_
      refine Rch.fin X0 hlk (v := some (.int (nar .boolean (0 : Int32)))) (fun h => by rw [hret] at h; cases h) e0 (by decide) (by decide) (fun fs hr => retN X0 hx (t := .boolean) hret (by simp) (hb hby d7_64) hr) ?_
      exact ⟨by simp only [own_exp, br12, br14, nar_1, nar_0, ↓reduceIte], N0, rfl⟩
theorem pd_2 : parseMethodDescriptor "(C)Z" = some ⟨[.char], some .boolean⟩ := by decide +kernel
theorem ef_rm0 (m : MethodId) (p1 : Int32) : entryFrame m #[(.int p1)] maxLocals = mkF m 0 #[.val (.int p1), .unset] [] := by first | (simp [entryFrame, mkF, argsToLocals, Value.category, maxLocals]; done) | rfl
def Q_rm0 (Z : State) (p1 : Int32) (h0 : Heap) (n0 : Nat) (v : Option Value) (h : Heap) (L : List Loc) : Prop := v = some (.int 1) ∧ Fr n0 L
set_option maxRecDepth 65536 in
set_option maxHeartbeats 40000000 in
theorem rm0 (l : Launch) (Z : State) (a0 : Array Value) (hw : ∀ d ∈ tables_1, d.before a0 Z = true) (ws : List Jvm.Cond) (p1 : Int32) (h0 : Heap) (n0 : Nat) (Z0 : n0 ≤ h0.size)  :
    MetFree l x (head1 (Jvm.Cond.code x code maxLocals ret :: ws) room_1) (fun a U => a = #[(.int p1)] ∧ Z.Warmed39 U.vm ∧ U.heap = h0) (fun _ _ _ _ _ => True) (fun _ U o U' => ∃ v L, o = .returned v ∧ Q_rm0 Z p1 h0 n0 v U'.heap L ∧ FrameEnd U o U' L 0 0) := by
  refine MetFree.of_bodySF (plainFor_of_name pn_com_example_cellmark_cellmark_security_LabelIsTagCharacterPinLaw) hisR ?_
  intro p e s m args below meth c s₁ Bd hml0 hP hK
  obtain ⟨rfl, hZ, hh⟩ := hP
  have hx := Bd.exec
  have hby := Bd.bytes
  have hml : c.maxLocals = 2 := hml0
  have hown : s.vm.findClass "com/example/cellmark/cellmark/security/LabelIsTagCharacterPinLaw" = some m.cls := findClass_of_methodNamed Bd.named
  have hnm := (name_of_methodNamed Bd.named Bd.method).1
  have hret := Bd.returns
  have hlk : meth.locks = false := BodyLoose.notSynchronized Bd
  have X0 : Stand p l e room_1 s m #[(.int p1)] below meth c s₁ [] 0 0 := Stand.of_body Bd
  have e0 : s₁.heap = h0 := by rw [← hh, Bd.state]; rfl
  have N0 := Fr.nil n0
  refine Rch.body (Q := Q_rm0 Z p1 h0 n0) (U' := s₁.setTop (mkF m 0 #[.val (.int p1), .unset] [])) (fun t k => castTop (ef_rm0 m p1) k) ?_
  refine Rch.go (U' := s₁.setTop (mkF m 1 #[.val (.int p1), .unset] [(.int p1)])) (fun _ k => XS.iloadN X0.here hx rfl (hb hby at_0) rfl  k) ?_
  refine Rch.go (U' := s₁.setTop (mkF m 2 #[.val (.int p1), .unset] [(.int (p1).toUInt32.toUInt16.toUInt32.toInt32)])) (fun _ k => XS.i2c X0.here hx rfl (hb hby at_1) rfl k) ?_
  refine Rch.go (U' := s₁.setTop (mkF m 3 #[.val (.int p1), .val (.int (p1).toUInt32.toUInt16.toUInt32.toInt32)] [])) (fun _ k => XS.istoreN X0.here hx rfl (hb hby at_2) rfl (l' := #[.val (.int p1), .val (.int (p1).toUInt32.toUInt16.toUInt32.toInt32)]) rfl k) ?_
  refine Rch.go (U' := s₁.setTop (mkF m 4 #[.val (.int p1), .val (.int (p1).toUInt32.toUInt16.toUInt32.toInt32)] [(.int (p1).toUInt32.toUInt16.toUInt32.toInt32)])) (fun _ k => XS.iloadN X0.here hx rfl (hb hby at_3) rfl  k) ?_
  obtain ⟨_, _, ⟨T16, L16, k16, n16⟩, -, X16, ⟨Lc16, hQ16, l16, y16, z16⟩, st16⟩ := Jvm.LawKit.callS X0 hx (y := (⟨"com/example/cellmark/cellmark/security/Label", "isTagCharacter", "(C)Z"⟩ : MethodName)) hown (mvT hZ (wi hw 0 rfl)) (mvT hZ (wi hw 1 rfl)) (mvT hZ (wi hw 2 rfl)) (mvT hZ (wi hw 3 rfl)) (by decide) (backOf (W := 0) (rm1 l Z a0 hw [] (p1).toUInt32.toUInt16.toUInt32.toInt32 h0 n0 Z0 ) hZ (wi hw 3 rfl) (wi hw 2 rfl) (by decide) (by decide)) (g := (mkF m 4 #[.val (.int p1), .val (.int (p1).toUInt32.toUInt16.toUInt32.toInt32)] [(.int (p1).toUInt32.toUInt16.toUInt32.toInt32)])) rfl (by rw [hml]; rfl) (argsL := [(.int (p1).toUInt32.toUInt16.toUInt32.toInt32)]) (rest := []) (lenOf pd_2 rfl) rfl (by show 2 * 0 + _ ≤ _; exact Nat.le_of_eq rfl) (hb hby at_4) (fun _ _ => ⟨rfl, e0, (by decide : 0 + 0 ≤ _), (by decide : 0 + 0 ≤ _)⟩)
  dsimp only [Pt.U, Pt.locs, Pt.cells, Pt.slots] at X16 l16 y16 z16 st16 hQ16
  subst l16 y16 z16
  obtain ⟨rfl, N16q, e16⟩ := hQ16
  have N16 := Fr.app N0 N16q
  refine Rch.go (U' := T16.setTop (mkF m 7 #[.val (.int p1), .val (.int (p1).toUInt32.toUInt16.toUInt32.toInt32)] [(.int (own_tag (p1).toUInt32.toUInt16.toUInt32.toInt32))])) st16 ?_
  refine Rch.go (U' := T16.setTop (mkF m 8 #[.val (.int p1), .val (.int (p1).toUInt32.toUInt16.toUInt32.toInt32)] [(.int (p1).toUInt32.toUInt16.toUInt32.toInt32), (.int (own_tag (p1).toUInt32.toUInt16.toUInt32.toInt32))])) (fun _ k => XS.iloadN X16.here hx rfl (hb hby at_7) rfl  k) ?_
  obtain ⟨_, _, ⟨T17, L17, k17, n17⟩, -, X17, ⟨Lc17, hQ17, l17, y17, z17⟩, st17⟩ := Jvm.LawKit.callS X16 hx (y := (⟨"com/example/cellmark/cellmark/security/LabelIsTagCharacterPinLaw", "expected", "(C)Z"⟩ : MethodName)) hown (mvT hZ (wi hw 4 rfl)) (mvT hZ (wi hw 5 rfl)) (mvT hZ (wi hw 6 rfl)) (mvT hZ (wi hw 7 rfl)) (by decide) (backOf (W := 1) (rm2 l Z a0 hw [] (p1).toUInt32.toUInt16.toUInt32.toInt32 h0 n0 Z0 ) hZ (wi hw 7 rfl) (wi hw 6 rfl) (by decide) (by decide)) (g := (mkF m 8 #[.val (.int p1), .val (.int (p1).toUInt32.toUInt16.toUInt32.toInt32)] [(.int (p1).toUInt32.toUInt16.toUInt32.toInt32), (.int (own_tag (p1).toUInt32.toUInt16.toUInt32.toInt32))])) rfl (by rw [hml]; rfl) (argsL := [(.int (p1).toUInt32.toUInt16.toUInt32.toInt32)]) (rest := [(.int (own_tag (p1).toUInt32.toUInt16.toUInt32.toInt32))]) (lenOf pd_2 rfl) rfl (by show 2 * 0 + _ ≤ _; exact Nat.le_of_eq rfl) (hb hby at_8) (fun _ _ => ⟨rfl, e16, (by decide : 0 + 0 ≤ _), (by decide : 0 + 0 ≤ _)⟩)
  dsimp only [Pt.U, Pt.locs, Pt.cells, Pt.slots] at X17 l17 y17 z17 st17 hQ17
  subst l17 y17 z17
  obtain ⟨rfl, N17q, e17⟩ := hQ17
  have N17 := Fr.app N16 N17q
  refine Rch.go (U' := T17.setTop (mkF m 11 #[.val (.int p1), .val (.int (p1).toUInt32.toUInt16.toUInt32.toInt32)] [(.int (own_exp (p1).toUInt32.toUInt16.toUInt32.toInt32)), (.int (own_tag (p1).toUInt32.toUInt16.toUInt32.toInt32))])) st17 ?_
  have br18 : (own_tag (p1).toUInt32.toUInt16.toUInt32.toInt32) = (own_exp (p1).toUInt32.toUInt16.toUInt32.toInt32) := own_law _ (c_i2c _).2.1 (c_i2c _).2.2
  refine Rch.go (U' := T17.setTop (mkF m 14 #[.val (.int p1), .val (.int (p1).toUInt32.toUInt16.toUInt32.toInt32)] [])) (fun _ k => XS.icmpNo X17.here hx rfl (hb hby at_11) rfl (XT.ii_ne_f br18) k) ?_
  refine Rch.go (U' := T17.setTop (mkF m 15 #[.val (.int p1), .val (.int (p1).toUInt32.toUInt16.toUInt32.toInt32)] [(.int (1 : Int32))])) (fun _ k => XS.iconst X17.here hx rfl (hb hby at_14) k) ?_
  refine Rch.go (U' := T17.setTop (mkF m 19 #[.val (.int p1), .val (.int (p1).toUInt32.toUInt16.toUInt32.toInt32)] [(.int (1 : Int32))])) (fun _ k => XS.goto X17.here hx rfl (pc0 := 15) (pc' := 19) rfl (hb hby at_15) (by decide) (by decide) k) ?_
  refine Rch.fin X17 hlk (v := some (.int (nar .boolean (1 : Int32)))) (fun h => by rw [hret] at h; cases h) e17 (by decide) (by decide) (fun fs hr => retN X17 hx (t := .boolean) hret (by simp) (hb hby at_19) hr) ?_
  exact ⟨rfl, N17⟩
set_option maxRecDepth 65536 in
set_option maxHeartbeats 40000000 in
theorem comes_1 {Post : Tables → Env → Array Value → State → Outcome → State → Prop} (hpost : ∀ tb e args s v u, (limb_1_1.after args s (.returned v) u = true ∧ limb_1_2.after args s (.returned v) u = true ∧ True) → FrameEnd s (.returned v) u (Jvm.fieldLocs frame_1_writes args s ++ Jvm.arrayLocs frame_1_arrays args s ++ Jvm.staticLocs frame_1_statics s) 0 0 → Post tb e args s (.returned v) u) :
    ArmFor flags0 classFile x code maxLocals ret World_1 tables_1 room_1 Calls_1 rest_1 Pre_1 Post := by
  intro l hfl _ _ p e ha hc hk s m args below hf hA hF happ hP
  obtain ⟨hcalls, hrest, hpre⟩ := hP
  obtain ⟨-, -, -, hnamed, -, -, -, hat⟩ := (Spec.applies_iff hf).mp happ
  obtain ⟨hg, hn⟩ := and_e (Cond.before_iff.mp (show (Jvm.Cond.and given_1 narrow_1).before args s = true from hpre))
  obtain ⟨hcount, hg0⟩ := and_e hg
  obtain ⟨w0, rfl⟩ : ∃ w0 : Value, args = #[w0] := by
    have hs : args.size = 1 := by simpa [Cond.value, given_1] using hcount
    obtain ⟨L⟩ := args
    match L, hs with
    | [w0], _ => exact ⟨w0, rfl⟩
  have hw := fun d (hd : d ∈ tables_1) => atoms_spec (ws := Jvm.Cond.code x code maxLocals ret :: tables_1) hat d (List.mem_cons_of_mem _ hd)
  obtain ⟨i0, ei0⟩ := is_v hg0
  obtain rfl : w0 = (.int i0) := Option.some.inj ei0
  obtain ⟨n, o, h1, h2, h3, _, L, rfl, ⟨rfl, N⟩, hq⟩ := rm0 l s _ hw tables_1 i0 s.heap s.heap.size (Nat.le_refl _)  p e ha hc hk s m _ below hf ((Spec.applies_iff_loose hf).mp happ).1 ⟨rfl, State.Warmed39.refl s, rfl⟩ trivial
  refine ⟨n, _, h1, h2, h3, hpost _ _ _ _ _ _ ⟨Cond.after_iff.mpr rfl, Cond.after_iff.mpr (eq_i res_at (Term.int_eval (1)) rfl), trivial⟩ ⟨hq.1, hq.2.1, (hq.2.2.sift fun y hy => Or.inr (N y hy)).mono (by decide) (by decide)⟩⟩
theorem main_1_1 : Claimed_1_1 := comes_1 fun _ _ _ _ _ _ h hF => ⟨h.1, hF⟩
theorem main_1_2 : Claimed_1_2 := comes_1 fun _ _ _ _ _ _ h hF => ⟨h.2.1, hF⟩
end Jvm.Pilot.@@N@@
namespace Jvm.Pilot.@@N@@
open Jvm Jvm.ClassFile Sem Op Lib Jvm.Free Jvm.Stand Jvm.Pilot.@@N@@.Jvm.D
/-! MADE BY PROGRAM (witnessworld.py) out of the Statement's table words and the real class files: 10 classes; the members and pool entries that the words name. The judged class is class 1, her method 1. -/
namespace start1
open Jvm.ClassFile
def u (s : String) : CpInfo := .utf8 (stringToUtf16 s)
/-- a pool by its gaps: so many unusable entries, then the entry; so many at the end -/
def gap : Nat → List CpInfo → List CpInfo
  | 0, r => r
  | n + 1, r => .unusable :: gap n r
def poolList (es : List (Nat × CpInfo)) (last : Nat) : List CpInfo := es.foldr (fun e r => gap e.1 (e.2 :: r)) (gap last [])
def pool (es : List (Nat × CpInfo)) (last : Nat) : Array CpInfo := ⟨poolList es last⟩
def fileOf (pool : Array CpInfo) (this : Nat) (attrs : Array Attribute := #[]) (ms : Array MethodInfo := #[]) (fl : Nat := 33) (sup : Nat := 0) (ifs : Array Nat := #[]) (fds : Array FieldInfo := #[]) : ClassFile where
  minorVersion := 0
  majorVersion := 65
  constantPool := pool
  accessFlags := fl
  thisClass := this
  superClass := sup
  interfaces := ifs
  fields := fds
  methods := ms
  attributes := attrs
def plain (name : String) (sup : Option ClassId) : Class where
  name := name
  kind := .ordinary
  loader := none
  accessFlags := 33
  super := sup
  interfaces := #[]
  cf := none
  fields := #[]
  methods := #[]
  instanceTypes := #[]
  staticTypes := #[]
  resolved := #[]
  callSites := []
  init := .initialized
  statics := none
  mirror := none

def pool0 : Array CpInfo := pool [(5, u "<init>"), (0, u "()V"), (1, .class_ 10), (1, u "java/lang/Object")] 113

def k0m0 : Method := { name := "<init>", desc := "()V", sig := { parameters := [], returnType := none }, accessFlags := 1, code := none }
/-- java/lang/Object -/
def k0 : Class := { plain "java/lang/Object" none with
  accessFlags := 33
  interfaces := #[]
  cf := some (fileOf pool0 8 #[] #[{ accessFlags := 1, nameIndex := 5, descriptorIndex := 6, attributes := #[] }] 33 0 #[] #[])
  fields := #[]
  methods := #[k0m0]
  instanceTypes := #[]
  staticTypes := #[]
  resolved := Array.replicate 124 none
  statics := none }

def pool1 : Array CpInfo := pool [(2, .class_ 4), (1, u "java/lang/Object"), (0, u "<init>"), (0, u "()V"), (0, .methodref 8 9), (0, .class_ 10), (0, .nameAndType 11 12), (0, u "com/example/cellmark/cellmark/security/Label"), (0, u "isTagCharacter"), (0, u "(C)Z"), (0, .methodref 14 15), (0, .class_ 16), (0, .nameAndType 17 12), (0, u "com/example/cellmark/cellmark/security/LabelIsTagCharacterPinLaw"), (0, u "expected"), (0, .long 576425567931334656), (1, .long 576460745995190270), (3, u "law"), (0, u "(I)Z")] 3

def k1m0 : Method := { name := "<init>", desc := "()V", sig := { parameters := [], returnType := none }, accessFlags := 1, code := none }
def k1c1 : Code := { maxStack := 2, maxLocals := 2, code := code, exceptionTable := #[], attributes := #[] }
def k1m1 : Method := { name := "law", desc := "(I)Z", sig := { parameters := [.int], returnType := some .boolean }, accessFlags := 9, code := some k1c1 }
def k1c2 : Code := { maxStack := 4, maxLocals := 6, code := method_3_code, exceptionTable := #[], attributes := #[] }
def k1m2 : Method := { name := "expected", desc := "(C)Z", sig := { parameters := [.char], returnType := some .boolean }, accessFlags := 10, code := some k1c2 }
/-- com/example/cellmark/cellmark/security/LabelIsTagCharacterPinLaw -/
def k1 : Class := { plain "com/example/cellmark/cellmark/security/LabelIsTagCharacterPinLaw" (some 0) with
  accessFlags := 49
  interfaces := #[]
  cf := some (fileOf pool1 14 #[] #[{ accessFlags := 1, nameIndex := 5, descriptorIndex := 6, attributes := #[] }, { accessFlags := 9, nameIndex := 24, descriptorIndex := 25, attributes := #[] }, { accessFlags := 10, nameIndex := 17, descriptorIndex := 12, attributes := #[] }] 49 2 #[] #[])
  fields := #[]
  methods := #[k1m0, k1m1, k1m2]
  instanceTypes := #[]
  staticTypes := #[]
  resolved := Array.replicate 29 none
  statics := none }

def pool2 : Array CpInfo := pool [(1, .class_ 2), (0, u "java/lang/Comparable"), (0, .class_ 4), (0, u "java/lang/Object")] 7

/-- java/lang/Comparable -/
def k2 : Class := { plain "java/lang/Comparable" (some 0) with
  accessFlags := 1537
  interfaces := #[]
  cf := some (fileOf pool2 1 #[] #[] 1537 3 #[] #[])
  fields := #[]
  methods := #[]
  instanceTypes := #[]
  staticTypes := #[]
  resolved := Array.replicate 12 none
  statics := none }

def pool3 : Array CpInfo := pool [(2, .class_ 4), (1, u "java/lang/Object"), (3, .class_ 10), (1, u "com/example/cellmark/cellmark/security/Label"), (0, u "expression"), (0, u "Ljava/lang/String;"), (2, u "tags"), (0, u "[Ljava/lang/String;"), (2, u "program"), (0, u "[I"), (15, u "EMPTY"), (0, u "Lcom/example/cellmark/cellmark/security/Label;"), (0, .class_ 39), (0, u "com/example/cellmark/cellmark/security/Label$Parser"), (52, .class_ 93), (0, u "java/lang/Comparable"), (0, u "TAG"), (0, u "I"), (2, u "ALL"), (1, u "ANY"), (11, u "isTagCharacter"), (0, u "(C)Z"), (10, .class_ 125), (0, u "com/example/cellmark/cellmark/security/Label$Group")] 17

def k3c0 : Code := { maxStack := 2, maxLocals := 1, code := prog_13_method_9_code, exceptionTable := #[], attributes := #[] }
def k3m0 : Method := { name := "isTagCharacter", desc := "(C)Z", sig := { parameters := [.char], returnType := some .boolean }, accessFlags := 8, code := some k3c0 }
/-- com/example/cellmark/cellmark/security/Label -/
def k3 : Class := { plain "com/example/cellmark/cellmark/security/Label" (some 0) with
  accessFlags := 49
  interfaces := #[2]
  cf := some (fileOf pool3 8 #[.nestMembers #[124, 38]] #[{ accessFlags := 8, nameIndex := 112, descriptorIndex := 113, attributes := #[] }] 49 2 #[92] #[{ accessFlags := 25, nameIndex := 36, descriptorIndex := 37, attributes := #[] }, { accessFlags := 26, nameIndex := 94, descriptorIndex := 95, attributes := #[] }, { accessFlags := 26, nameIndex := 98, descriptorIndex := 95, attributes := #[] }, { accessFlags := 26, nameIndex := 100, descriptorIndex := 95, attributes := #[] }, { accessFlags := 18, nameIndex := 11, descriptorIndex := 12, attributes := #[] }, { accessFlags := 18, nameIndex := 15, descriptorIndex := 16, attributes := #[] }, { accessFlags := 18, nameIndex := 19, descriptorIndex := 20, attributes := #[] }])
  fields := #[{ name := "EMPTY", type := (.object "com/example/cellmark/cellmark/security/Label"), accessFlags := 25, slot := 0, constantValue := 0 }, { name := "TAG", type := .int, accessFlags := 26, slot := 1, constantValue := 0 }, { name := "ALL", type := .int, accessFlags := 26, slot := 2, constantValue := 0 }, { name := "ANY", type := .int, accessFlags := 26, slot := 3, constantValue := 0 }, { name := "expression", type := (.object "java/lang/String"), accessFlags := 18, slot := 0, constantValue := 0 }, { name := "tags", type := (.array (.object "java/lang/String")), accessFlags := 18, slot := 1, constantValue := 0 }, { name := "program", type := (.array .int), accessFlags := 18, slot := 2, constantValue := 0 }]
  methods := #[k3m0]
  instanceTypes := #[(.object "java/lang/String"), (.array (.object "java/lang/String")), (.array .int)]
  staticTypes := #[(.object "com/example/cellmark/cellmark/security/Label"), .int, .int, .int]
  resolved := Array.replicate 143 none
  statics := none }

def pool4 : Array CpInfo := pool [(1, u "java/lang/Cloneable"), (0, .class_ 1), (0, u "java/lang/Object"), (0, .class_ 3)] 3

/-- java/lang/Cloneable -/
def k4 : Class := { plain "java/lang/Cloneable" (some 0) with
  accessFlags := 1537
  interfaces := #[]
  cf := some (fileOf pool4 2 #[] #[] 1537 4 #[] #[])
  fields := #[]
  methods := #[]
  instanceTypes := #[]
  staticTypes := #[]
  resolved := Array.replicate 8 none
  statics := none }

def pool5 : Array CpInfo := pool [(1, u "java/io/Serializable"), (0, .class_ 1), (0, u "java/lang/Object"), (0, .class_ 3)] 3

/-- java/io/Serializable -/
def k5 : Class := { plain "java/io/Serializable" (some 0) with
  accessFlags := 1537
  interfaces := #[]
  cf := some (fileOf pool5 2 #[] #[] 1537 4 #[] #[])
  fields := #[]
  methods := #[]
  instanceTypes := #[]
  staticTypes := #[]
  resolved := Array.replicate 8 none
  statics := none }

/-- the primitive byte -/
def k6 : Class := { plain "byte" none with kind := .primitive 'B', accessFlags := 0x411 }
/-- [B -/
def k7 : Class := { plain "[B" (some 0) with kind := .array 6 .byte, interfaces := #[4, 5], accessFlags := 1041 }

/-- the primitive int -/
def k8 : Class := { plain "int" none with kind := .primitive 'I', accessFlags := 0x411 }
/-- [I -/
def k9 : Class := { plain "[I" (some 0) with kind := .array 8 .int, interfaces := #[4, 5], accessFlags := 1041 }

def heap : Heap := #[]
def classes : Array Class := #[k0, k1, k2, k3, k4, k5, k6, k7, k8, k9]
def interned : List (Array UInt16 × Addr) := []
def slotsUsed : Nat := 0
def theMethod : MethodId := ⟨1, 1⟩
def args0 : Array Value := #[.int 65]
def aboutOver (below : List Frame) : State where
  vm := { classes := classes, interned := interned.toArray }
  heap := heap
  slotsUsed := slotsUsed
  threads := #[{ frames := .invoking theMethod args0 :: below }]
def below0 : List Frame := [.native { method := ⟨0, 0⟩, args := #[] }]
def about1 : State := aboutOver below0
def p0 : Program := .bare "" "" ""
def e0 : Env := launch0.env 0 0 0
theorem w_frames : about1.frames = Frame.invoking theMethod args0 :: below0 := rfl
set_option maxRecDepth 65536 in
theorem w_args : argsFit about1.vm theMethod args0 = true := by decide +kernel
set_option maxRecDepth 65536 in
theorem w_heap : heapFits about1 = true := by decide +kernel
set_option maxRecDepth 65536 in
theorem w_runnable : about1.curStatus? = some .runnable := by decide +kernel
set_option maxRecDepth 65536 in
theorem w_alone : about1.alone = true := by decide +kernel
set_option maxRecDepth 65536 in
theorem w_named : about1.methodNamed? x = some theMethod := by decide +kernel
set_option maxRecDepth 65536 in
theorem w_hears : about1.hears theMethod below0 = true := by decide +kernel
set_option maxRecDepth 65536 in
theorem w_ripe : about1.ripe theMethod args0 below0 = true := by decide +kernel
theorem w_running : about1.status = .running := rfl
set_option maxRecDepth 65536 in
theorem w_room : about1.hasRoom e0.platform room_1 = true :=
  launch0.hasRoom_least _ room_1 (by decide +kernel) (by decide +kernel) (by decide +kernel) (by decide +kernel) (by decide +kernel) (by decide +kernel)
theorem allAtoms_all (ts : List Jvm.Cond) (a : Array Jvm.Value) (st : Jvm.State) : (allAtoms ts).before a st = ts.all (fun c => c.before a st) := by
  induction ts with
  | nil => rfl
  | cons c t ih =>
    show (Jvm.Cond.and c (allAtoms t)).before a st = _
    rw [Jvm.Cond.before_and, ih, List.all_cons]
def words1 : List Jvm.Cond := Jvm.Cond.code x code maxLocals ret :: tables_1
/-- a 'code' word, met by the world's own term for the bytes: nothing is compared byte by byte -/
theorem code_word {y : MethodName} {bytes : ByteArray} {mx : Nat} {rt : Option FieldType} {a : Array Value} {s : State} {m : MethodId} {meth : Method} {c : Code} (h1 : s.methodNamed? y = some m) (h2 : s.vm.method? m = some meth) (h3 : meth.code = some c) (h4 : c.code = bytes)
    (h5 : (c.maxLocals == mx && c.exceptionTable.isEmpty && decide (c.maxStack ≤ mostOperands) && decide (meth.sig.returnType = rt) && !meth.locks && decide (parseMethodDescriptor y.desc = some meth.sig)) = true) : (Jvm.Cond.code y bytes mx rt).before a s = true := by
  simp only [Bool.and_eq_true, beq_iff_eq, Bool.not_eq_true', decide_eq_true_eq] at h5
  obtain ⟨⟨⟨⟨⟨g1, g2⟩, g3⟩, g4⟩, g5⟩, g6⟩ := h5
  simp [Cond.before, Cond.holds, Cond.value, h1, h2, h3, h4, g1, g2, g3, g4, g5, g6]
def isCode : Jvm.Cond → Bool
  | .code _ _ _ _ => true
  | _ => false
theorem all_split {L : List Jvm.Cond} {P : Jvm.Cond → Bool} (h1 : L.all (fun c => isCode c || P c) = true) (h2 : ∀ c ∈ L.filter isCode, P c = true) : L.all P = true := by
  refine List.all_eq_true.mpr fun c hc => ?_
  have h := List.all_eq_true.mp h1 c hc
  rcases Bool.eq_false_or_eq_true (isCode c) with hi | hi
  · exact h2 c (List.mem_filter.mpr ⟨hc, hi⟩)
  · simpa [hi] using h
set_option maxRecDepth 65536 in
theorem w_c0 : (Jvm.Cond.code x code maxLocals ret).before args0 about1 = true := code_word (m := ⟨1, 1⟩) (meth := k1m1) (c := k1c1) (by decide +kernel) rfl rfl rfl (by decide +kernel)
set_option maxRecDepth 65536 in
theorem w_c1 : (Jvm.Cond.code ({ cls := "com/example/cellmark/cellmark/security/Label", name := "isTagCharacter", desc := "(C)Z" } : Jvm.MethodName) prog_13_method_9_code (1 : Nat) (Option.some Jvm.ClassFile.FieldType.boolean)).before args0 about1 = true := code_word (m := ⟨3, 0⟩) (meth := k3m0) (c := k3c0) (by decide +kernel) rfl rfl rfl (by decide +kernel)
set_option maxRecDepth 65536 in
theorem w_c2 : (Jvm.Cond.code ({ cls := "com/example/cellmark/cellmark/security/LabelIsTagCharacterPinLaw", name := "expected", desc := "(C)Z" } : Jvm.MethodName) method_3_code (6 : Nat) (Option.some Jvm.ClassFile.FieldType.boolean)).before args0 about1 = true := code_word (m := ⟨1, 2⟩) (meth := k1m2) (c := k1c2) (by decide +kernel) rfl rfl rfl (by decide +kernel)
def codes1 : List Jvm.Cond := [Jvm.Cond.code x code maxLocals ret, Jvm.Cond.code ({ cls := "com/example/cellmark/cellmark/security/Label", name := "isTagCharacter", desc := "(C)Z" } : Jvm.MethodName) prog_13_method_9_code (1 : Nat) (Option.some Jvm.ClassFile.FieldType.boolean), Jvm.Cond.code ({ cls := "com/example/cellmark/cellmark/security/LabelIsTagCharacterPinLaw", name := "expected", desc := "(C)Z" } : Jvm.MethodName) method_3_code (6 : Nat) (Option.some Jvm.ClassFile.FieldType.boolean)]
set_option maxRecDepth 65536 in
theorem codes_eq : words1.filter isCode = codes1 := rfl
theorem w_codes : ∀ c ∈ words1.filter isCode, c.before args0 about1 = true := by
  rw [codes_eq]
  intro c hc
  simp only [codes1, List.mem_cons, List.not_mem_nil, or_false] at hc
  rcases hc with rfl | rfl | rfl
  · exact w_c0
  · exact w_c1
  · exact w_c2
set_option maxRecDepth 65536 in
theorem w_t1 : words1.all (fun c => isCode c || c.before args0 about1) = true := by decide +kernel
theorem w_tables : (allAtoms (Jvm.Cond.code x code maxLocals ret :: tables_1)).before args0 about1 = true := by
  rw [allAtoms_all]
  show words1.all (fun c => c.before args0 about1) = true
  refine all_split ?_ w_codes
  rw [w_t1]
set_option maxRecDepth 65536 in
theorem w_case : (Jvm.Cond.and given_1 narrow_1).before args0 about1 = true := by decide +kernel
theorem w_applies : (headSpec (Jvm.Cond.code x code maxLocals ret :: tables_1) room_1).applies x e0.platform about1 = true :=
  (Spec.applies_iff w_frames).mpr ⟨w_running, w_runnable, w_alone, w_named, w_hears, w_ripe, w_room, w_tables⟩
theorem atStart : AtStart classFile x code maxLocals ret World_1 tables_1 room_1 Calls_1 rest_1 Pre_1 launch0 p0 e0 about1 theMethod args0 below0 :=
  ⟨lists_1, trivial, launch0.admits_env _ _ _, launch0.least_env, fairChoices_fair.cas, fairChoices_fair.clock, w_frames, w_args, w_heap, w_applies, trivial, trivial, w_case⟩
end start1
theorem witness_1 : WitnessClaimed_1 := ⟨start1.p0, start1.e0, start1.about1, start1.theMethod, start1.args0, start1.below0, start1.atStart⟩
end Jvm.Pilot.@@N@@
