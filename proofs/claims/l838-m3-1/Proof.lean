import JvmDerived
import JvmDerived.Pilot.@@N@@Statement
import JvmDerived.Pilot.@@N@@Code
set_option linter.unusedVariables false
set_option linter.unusedSimpArgs false
namespace Jvm.RoadKit
open Sem ClassFile Op Lib Jvm.Stand Jvm.Free Jvm.LawKit
section New
variable {p : Program} {l : Launch} {e : Env} {R : Room} {s : State} {m : MethodId} {args : Array Value} {below : List Frame} {meth : Method} {c : Code} {T : State} {locs : List Loc} {cells slots : Nat}
theorem retI (X : Stand p l e R s m args below meth c T locs cells slots) (hx : p.tables.exec = Jvm.exec) {pc : Nat} {Ls : Array Slot} {z : Int32} {rest : List Value} (hret : meth.sig.returnType = some .int) (hd : decode c.code pc = .ok (.ireturn, 1)) {fs : List Frame}
    (hl : ∀ (f : JFrame) (acts : List Action), f.method = m → f.locked = none → f.entered = [] → (doReturn e (T.setTop f) acts (some (.int z))).1 = T.setFrames fs) : Steps p.tables e below (T.setTop (mkF m pc Ls (.int z :: rest))) (T.setFrames fs) := by
  have hm' : T.vm.method? m = some meth := X.method'
  have hn : narrow .int (.int z) = .int z := rfl
  show Steps p.tables e below (T.setTop { method := m, pc := pc, locals := Ls, stack := _ :: rest, locked := none }) _
  jvm_step X.here [X.here.top, hx, hd, hm', hret, hn]
  first | (intro acts; rw [hl _ acts rfl rfl rfl]) | rw [hl _ _ rfl rfl rfl]
  exact Steps.refl _
/-- a run from U comes to a state of which K holds -/
def Rch (p : Program) (e : Env) (below : List Frame) (K : State → Prop) (U : State) : Prop := ∃ s₂, Steps p.tables e below U s₂ ∧ K s₂
theorem Rch.go {K : State → Prop} {U U' : State} (h : ∀ t, Steps p.tables e below U' t → Steps p.tables e below U t) (k : Rch p e below K U') : Rch p e below K U := by
  obtain ⟨s₂, a, b⟩ := k; exact ⟨s₂, h _ a, b⟩
theorem Rch.to {K : State → Prop} {U U' : State} (h : Steps p.tables e below U U') (k : Rch p e below K U') : Rch p e below K U := by
  obtain ⟨s₂, a, b⟩ := k; exact ⟨s₂, h.trans a, b⟩
theorem Rch.then {K K' : State → Prop} {U : State} (h : Rch p e below K U) (f : ∀ V, K V → Rch p e below K' V) : Rch p e below K' U := by
  obtain ⟨s₂, a, b⟩ := h; exact Rch.to a (f _ b)
/-- the body is left: what it returned and what it leaves -/
def Fin (s : State) (below : List Frame) (Q : Option Value → Heap → List Loc → Prop) (k n : Nat) (s₂ : State) : Prop :=
  ∃ o, s₂.status = .running ∧ Ended s₂ below o ∧ ∃ v L, o = .returned v ∧ Q v s₂.heap L ∧ FrameEnd s o s₂ L k n
theorem Rch.fin {Q : Option Value → Heap → List Loc → Prop} {k n : Nat} {U : State} {h : Heap} (X : Stand p l e R s m args below meth c T locs cells slots) (hlk : meth.locks = false) {v : Option Value} (hv : meth.sig.returnType = none → v = none) (eT : T.heap = h) (hc : cells ≤ k) (hn : slots ≤ n)
    (st : ∀ fs, (∀ (f : JFrame) (acts : List Action), f.method = m → f.locked = none → f.entered = [] → (doReturn e (T.setTop f) acts v).1 = T.setFrames fs) → Steps p.tables e below U (T.setFrames fs)) (hQ : Q v h locs) : Rch p e below (Fin s below Q k n) U := by
  obtain ⟨fs, hr, hrun, hended, hW, hsame⟩ := X.leave hv hlk
  refine ⟨_, st fs hr, _, hrun, hended, v, locs, rfl, ?_, ⟨_, rfl⟩, hW, hsame.mono hc hn⟩
  show Q v T.heap locs
  rw [eT]; exact hQ
theorem Rch.body {Q : Option Value → Heap → List Loc → Prop} {k n : Nat} {U U' : State} (h : ∀ t, Steps p.tables e below U' t → Steps p.tables e below U t) (H : Rch p e below (Fin s below Q k n) U') :
    ∃ s₂ o, Steps p.tables e below U s₂ ∧ s₂.status = .running ∧ Ended s₂ below o ∧ (∃ v L, o = .returned v ∧ Q v s₂.heap L ∧ FrameEnd s o s₂ L k n) := by
  obtain ⟨s₂, a, o, b, c, d⟩ := H; exact ⟨s₂, o, h _ a, b, c, d⟩
/-- the same, said with the wide end (a String constant may have been interned) -/
def FinW (s : State) (below : List Frame) (Q : Option Value → Heap → List Loc → Prop) (k n : Nat) (s₂ : State) : Prop :=
  ∃ o, s₂.status = .running ∧ Ended s₂ below o ∧ ∃ v L, o = .returned v ∧ Q v s₂.heap L ∧ ReturnedEndW s o s₂ L k n
theorem Rch.finW {Q : Option Value → Heap → List Loc → Prop} {k n : Nat} {U : State} {h : Heap} {vm₁ : Vm} {n1 : Nat} (X : Stand p l e R (s.setVm vm₁) m args below meth c T locs cells slots) (hlk : meth.locks = false) {v : Option Value} (hv : meth.sig.returnType = none → v = none) (eT : T.heap = h) (hc : cells ≤ k) (hn : slots ≤ n)
    (hS : s.Since vm₁ n1) (hk : n1 ≤ h.size) (st : ∀ fs, (∀ (f : JFrame) (acts : List Action), f.method = m → f.locked = none → f.entered = [] → (doReturn e (T.setTop f) acts v).1 = T.setFrames fs) → Steps p.tables e below U (T.setFrames fs)) (hQ : Q v h locs) : Rch p e below (FinW s below Q k n) U := by
  obtain ⟨fs, hr, hrun, hended, hE⟩ := X.leaveW hS (by rw [eT]; exact hk) hv hlk
  refine ⟨_, st fs hr, _, hrun, hended, v, locs, rfl, ?_, hE.1, hE.2.1, hE.2.2.1, hE.2.2.2.mono hc hn⟩
  show Q v T.heap locs
  rw [eT]; exact hQ
theorem Rch.bodyW {Q : Option Value → Heap → List Loc → Prop} {k n : Nat} {U U' : State} (h : ∀ t, Steps p.tables e below U' t → Steps p.tables e below U t) (H : Rch p e below (FinW s below Q k n) U') :
    ∃ s₂ o, Steps p.tables e below U s₂ ∧ s₂.status = .running ∧ Ended s₂ below o ∧ (∃ v L, o = .returned v ∧ Q v s₂.heap L ∧ ReturnedEndW s o s₂ L k n) := by
  obtain ⟨s₂, a, o, b, c, d⟩ := H; exact ⟨s₂, o, h _ a, b, c, d⟩
theorem nar_1 : nar .boolean 1 = 1 := rfl
theorem nar_0 : nar .boolean 0 = 0 := rfl
end New
end Jvm.RoadKit
namespace Jvm.Pilot.@@N@@
open Jvm Jvm.ClassFile Sem Op Lib Jvm.Free Jvm.Stand Jvm.LawKit Jvm.RoadKit Bundle Jvm.Pilot.@@N@@.Jvm.D
theorem wi {Z : State} {a0 : Array Value} (hw : ∀ d ∈ tables_1, d.before a0 Z = true) (i : Nat) {d : Jvm.Cond} (h : tables_1[i]? = some d) : d.before a0 Z = true := hw d (List.mem_of_getElem? h)
/-- what isValidName answers of its bytes -/
def own_chk : List Int32 → Int32
  | [] => 1
  | b :: r => if 32 < b then (if b < 127 then own_chk r else 0) else 0
def own_pr (p1 : Int32) : Int32 := if (p1 &&& 255) < 33 then 0 else if 126 < (p1 &&& 255) then 0 else 1
theorem own_byte (x : Int32) : nar .byte x.toInt8.toInt32 = x.toInt8.toInt32 := by
  show x.toInt8.toInt32.toInt8.toInt32 = x.toInt8.toInt32
  simp
theorem own_pr_iff (b : Int32) (h0 : -128 ≤ b.toInt) (h1 : b.toInt < 128) : own_pr b = 0 ↔ ¬ (32 < b ∧ b < 127) := by
  have e : (b &&& 255).toInt = b.toInt % 256 := c_mask b 255 8 (by decide) (by decide)
  have l1 : (b &&& 255) < 33 ↔ (b &&& 255).toInt < 33 := Int32.lt_iff_toInt_lt
  have l2 : 126 < (b &&& 255) ↔ 126 < (b &&& 255).toInt := Int32.lt_iff_toInt_lt
  have l3 : 32 < b ↔ 32 < b.toInt := Int32.lt_iff_toInt_lt
  have l4 : b < 127 ↔ b.toInt < 127 := Int32.lt_iff_toInt_lt
  rw [l3, l4]; unfold own_pr
  by_cases a1 : (b &&& 255) < 33
  · rw [if_pos a1]; have := l1.mp a1; exact ⟨fun _ => by omega, fun _ => rfl⟩
  · have a1' : ¬ (b &&& 255).toInt < 33 := fun q => a1 (l1.mpr q)
    rw [if_neg a1]
    by_cases a2 : 126 < (b &&& 255)
    · rw [if_pos a2]; have := l2.mp a2; exact ⟨fun _ => by omega, fun _ => rfl⟩
    · have a2' : ¬ 126 < (b &&& 255).toInt := fun q => a2 (l2.mpr q)
      rw [if_neg a2]; exact ⟨fun q => absurd q (by decide), fun q => by omega⟩
theorem own_chk_y {b : Int32} {r : List Int32} (h : -128 ≤ b.toInt ∧ b.toInt < 128) (q : ¬ own_pr b = 0) : own_chk (b :: r) = own_chk r := by
  have z := Classical.not_not.mp (fun w => q ((own_pr_iff b h.1 h.2).mpr w))
  rw [own_chk, if_pos z.1, if_pos z.2]
theorem own_chk_n {b : Int32} {r : List Int32} (h : -128 ≤ b.toInt ∧ b.toInt < 128) (q : own_pr b = 0) : own_chk (b :: r) = 0 := by
  have z := (own_pr_iff b h.1 h.2).mp q
  rw [own_chk]
  by_cases w : 32 < b
  · rw [if_pos w, if_neg (fun y => z ⟨w, y⟩)]
  · rw [if_neg w]
theorem own_n5 (x : Int32) : (x &&& (2147483647 : Int32)) % 5 = 0 ∨ (x &&& (2147483647 : Int32)) % 5 = 1 ∨ (x &&& (2147483647 : Int32)) % 5 = 2 ∨ (x &&& (2147483647 : Int32)) % 5 = 3 ∨ (x &&& (2147483647 : Int32)) % 5 = 4 := by
  have e : (x &&& (2147483647 : Int32)).toInt = x.toInt % 2147483648 := c_mask x 2147483647 31 (by decide) (by decide)
  have e2 := (c_irem (x &&& (2147483647 : Int32)) 5 5 rfl).1 (by omega)
  have t (k : Int32) (h : ((x &&& (2147483647 : Int32)) % 5).toInt = k.toInt) : (x &&& (2147483647 : Int32)) % 5 = k := Int32.toInt_inj.mp h
  rcases (by omega : ((x &&& (2147483647 : Int32)) % 5).toInt = 0 ∨ ((x &&& (2147483647 : Int32)) % 5).toInt = 1 ∨ ((x &&& (2147483647 : Int32)) % 5).toInt = 2 ∨ ((x &&& (2147483647 : Int32)) % 5).toInt = 3 ∨ ((x &&& (2147483647 : Int32)) % 5).toInt = 4) with h | h | h | h | h
  · exact Or.inl (t 0 h)
  · exact Or.inr (Or.inl (t 1 h))
  · exact Or.inr (Or.inr (Or.inl (t 2 h)))
  · exact Or.inr (Or.inr (Or.inr (Or.inl (t 3 h))))
  · exact Or.inr (Or.inr (Or.inr (Or.inr (t 4 h))))
theorem d9_0 : decode method_2_code 0 = .ok (.iload_n 0, 1) := by decide +kernel
theorem d9_1 : decode method_2_code 1 = .ok (.sipush 255, 3) := by decide +kernel
theorem d9_4 : decode method_2_code 4 = .ok (.iand, 1) := by decide +kernel
theorem d9_5 : decode method_2_code 5 = .ok (.istore_n 1, 1) := by decide +kernel
theorem d9_6 : decode method_2_code 6 = .ok (.iload_n 1, 1) := by decide +kernel
theorem d9_7 : decode method_2_code 7 = .ok (.bipush 33, 2) := by decide +kernel
theorem d9_9 : decode method_2_code 9 = .ok (.if_icmp .lt 13, 3) := by decide +kernel
theorem d9_12 : decode method_2_code 12 = .ok (.iload_n 1, 1) := by decide +kernel
theorem d9_13 : decode method_2_code 13 = .ok (.bipush 126, 2) := by decide +kernel
theorem d9_15 : decode method_2_code 15 = .ok (.if_icmp .gt 7, 3) := by decide +kernel
theorem d9_18 : decode method_2_code 18 = .ok (.iconst 1, 1) := by decide +kernel
theorem d9_19 : decode method_2_code 19 = .ok (.goto 4, 3) := by decide +kernel
theorem d9_22 : decode method_2_code 22 = .ok (.iconst 0, 1) := by decide +kernel
theorem d9_23 : decode method_2_code 23 = .ok (.ireturn, 1) := by decide +kernel
theorem pn_com_example_slotwise_slotwise_commands_ClientCommandsIsValidNamePinLaw : plainName "com/example/slotwise/slotwise/commands/ClientCommandsIsValidNamePinLaw" = true := by first | (simp [plainName, overriddenIn]; done) | decide +kernel
theorem ef_rmP (m : MethodId) (p1 : Int32) : entryFrame m #[(.int p1)] 2 = mkF m 0 #[.val (.int p1), .unset] [] := by first | (simp [entryFrame, mkF, argsToLocals, Value.category]; done) | rfl
def Q_rmP (Z : State) (p1 : Int32) (h0 : Heap) (n0 : Nat) (v : Option Value) (h : Heap) (L : List Loc) : Prop := v = some (.int (own_pr p1)) ∧ Fr n0 L ∧ h = h0
set_option maxRecDepth 65536 in
set_option maxHeartbeats 40000000 in
theorem rmP (l : Launch) (Z : State) (a0 : Array Value) (hw : ∀ d ∈ tables_1, d.before a0 Z = true) (ws : List Jvm.Cond) (p1 : Int32) (h0 : Heap) (n0 : Nat) (Z0 : n0 ≤ h0.size)  :
    MetFree l (⟨"com/example/slotwise/slotwise/commands/ClientCommandsIsValidNamePinLaw", "printableNoSpace", "(B)Z"⟩ : MethodName) (head1 (Jvm.Cond.code (⟨"com/example/slotwise/slotwise/commands/ClientCommandsIsValidNamePinLaw", "printableNoSpace", "(B)Z"⟩ : MethodName) method_2_code 2 (some .boolean) :: ws) ({ frames := 0, cells := 0, slots := 0, locals := 0 } : Room)) (fun a U => a = #[(.int p1)] ∧ Z.Warmed39 U.vm ∧ U.heap = h0) (fun _ _ _ _ _ => True) (fun _ U o U' => ∃ v L, o = .returned v ∧ Q_rmP Z p1 h0 n0 v U'.heap L ∧ FrameEnd U o U' L ({ frames := 0, cells := 0, slots := 0, locals := 0 } : Room).cells ({ frames := 0, cells := 0, slots := 0, locals := 0 } : Room).slots) := by
  refine MetFree.of_bodySF (plainFor_of_name pn_com_example_slotwise_slotwise_commands_ClientCommandsIsValidNamePinLaw) hisR ?_
  intro p e s m args below meth c s₁ Bd hml0 hP hK
  obtain ⟨rfl, hZ, hh⟩ := hP
  have hx := Bd.exec
  have hby := Bd.bytes
  have hml : c.maxLocals = 2 := hml0
  have hown : s.vm.findClass "com/example/slotwise/slotwise/commands/ClientCommandsIsValidNamePinLaw" = some m.cls := findClass_of_methodNamed Bd.named
  have hnm := (name_of_methodNamed Bd.named Bd.method).1
  have hret := Bd.returns
  have hlk : meth.locks = false := BodyLoose.notSynchronized Bd
  have X0 : Stand p l e ({ frames := 0, cells := 0, slots := 0, locals := 0 } : Room) s m #[(.int p1)] below meth c s₁ [] 0 0 := Stand.of_body Bd
  have e0 : s₁.heap = h0 := by rw [← hh, Bd.state]; rfl
  have N0 := Fr.nil n0
  refine Rch.body (Q := Q_rmP Z p1 h0 n0) (U' := s₁.setTop (mkF m 0 #[.val (.int p1), .unset] [])) (fun t k => castTop (ef_rmP m p1) k) ?_
  refine Rch.go (U' := s₁.setTop (mkF m 1 #[.val (.int p1), .unset] [(.int p1)])) (fun _ k => XS.iloadN X0.here hx rfl (hb hby d9_0) rfl  k) ?_
  refine Rch.go (U' := s₁.setTop (mkF m 4 #[.val (.int p1), .unset] [(.int (255 : Int32)), (.int p1)])) (fun _ k => XS.sipush X0.here hx rfl (hb hby d9_1) k) ?_
  refine Rch.go (U' := s₁.setTop (mkF m 5 #[.val (.int p1), .unset] [(.int (p1 &&& (255 : Int32)))])) (fun _ k => XS.iand X0.here hx rfl (hb hby d9_4) rfl k) ?_
  refine Rch.go (U' := s₁.setTop (mkF m 6 #[.val (.int p1), .val (.int (p1 &&& (255 : Int32)))] [])) (fun _ k => XS.istoreN X0.here hx rfl (hb hby d9_5) rfl (l' := #[.val (.int p1), .val (.int (p1 &&& (255 : Int32)))]) rfl k) ?_
  refine Rch.go (U' := s₁.setTop (mkF m 7 #[.val (.int p1), .val (.int (p1 &&& (255 : Int32)))] [(.int (p1 &&& (255 : Int32)))])) (fun _ k => XS.iloadN X0.here hx rfl (hb hby d9_6) rfl  k) ?_
  refine Rch.go (U' := s₁.setTop (mkF m 9 #[.val (.int p1), .val (.int (p1 &&& (255 : Int32)))] [(.int (33 : Int32)), (.int (p1 &&& (255 : Int32)))])) (fun _ k => XS.bipush X0.here hx rfl (hb hby d9_7) k) ?_
  by_cases br1 : (p1 &&& (255 : Int32)) < (33 : Int32)
  ·
    refine Rch.go (U' := s₁.setTop (mkF m 22 #[.val (.int p1), .val (.int (p1 &&& (255 : Int32)))] [])) (fun _ k => XS.icmpYes X0.here hx rfl (pc0 := 9) (pc' := 22) rfl (hb hby d9_9) rfl (XT.ii_lt_t br1) (by decide) (by decide) k) ?_
    refine Rch.go (U' := s₁.setTop (mkF m 23 #[.val (.int p1), .val (.int (p1 &&& (255 : Int32)))] [(.int (0 : Int32))])) (fun _ k => XS.iconst X0.here hx rfl (hb hby d9_22) k) ?_
    refine Rch.fin X0 hlk (v := some (.int (nar .boolean (0 : Int32)))) (fun h => by rw [hret] at h; cases h) e0 (by decide) (by decide) (fun fs hr => retN X0 hx (t := .boolean) hret (by simp) (hb hby d9_23) hr) ?_
    exact ⟨by simp only [own_pr, br1, nar_1, nar_0, ↓reduceIte], N0, rfl⟩
  ·
    refine Rch.go (U' := s₁.setTop (mkF m 12 #[.val (.int p1), .val (.int (p1 &&& (255 : Int32)))] [])) (fun _ k => XS.icmpNo X0.here hx rfl (hb hby d9_9) rfl (XT.ii_lt_f br1) k) ?_
    refine Rch.go (U' := s₁.setTop (mkF m 13 #[.val (.int p1), .val (.int (p1 &&& (255 : Int32)))] [(.int (p1 &&& (255 : Int32)))])) (fun _ k => XS.iloadN X0.here hx rfl (hb hby d9_12) rfl  k) ?_
    refine Rch.go (U' := s₁.setTop (mkF m 15 #[.val (.int p1), .val (.int (p1 &&& (255 : Int32)))] [(.int (126 : Int32)), (.int (p1 &&& (255 : Int32)))])) (fun _ k => XS.bipush X0.here hx rfl (hb hby d9_13) k) ?_
    by_cases br2 : (126 : Int32) < (p1 &&& (255 : Int32))
    ·
      refine Rch.go (U' := s₁.setTop (mkF m 22 #[.val (.int p1), .val (.int (p1 &&& (255 : Int32)))] [])) (fun _ k => XS.icmpYes X0.here hx rfl (pc0 := 15) (pc' := 22) rfl (hb hby d9_15) rfl (XT.ii_gt_t br2) (by decide) (by decide) k) ?_
      refine Rch.go (U' := s₁.setTop (mkF m 23 #[.val (.int p1), .val (.int (p1 &&& (255 : Int32)))] [(.int (0 : Int32))])) (fun _ k => XS.iconst X0.here hx rfl (hb hby d9_22) k) ?_
      refine Rch.fin X0 hlk (v := some (.int (nar .boolean (0 : Int32)))) (fun h => by rw [hret] at h; cases h) e0 (by decide) (by decide) (fun fs hr => retN X0 hx (t := .boolean) hret (by simp) (hb hby d9_23) hr) ?_
      exact ⟨by simp only [own_pr, br1, br2, nar_1, nar_0, ↓reduceIte], N0, rfl⟩
    ·
      refine Rch.go (U' := s₁.setTop (mkF m 18 #[.val (.int p1), .val (.int (p1 &&& (255 : Int32)))] [])) (fun _ k => XS.icmpNo X0.here hx rfl (hb hby d9_15) rfl (XT.ii_gt_f br2) k) ?_
      refine Rch.go (U' := s₁.setTop (mkF m 19 #[.val (.int p1), .val (.int (p1 &&& (255 : Int32)))] [(.int (1 : Int32))])) (fun _ k => XS.iconst X0.here hx rfl (hb hby d9_18) k) ?_
      refine Rch.go (U' := s₁.setTop (mkF m 23 #[.val (.int p1), .val (.int (p1 &&& (255 : Int32)))] [(.int (1 : Int32))])) (fun _ k => XS.goto X0.here hx rfl (pc0 := 19) (pc' := 23) rfl (hb hby d9_19) (by decide) (by decide) k) ?_
      refine Rch.fin X0 hlk (v := some (.int (nar .boolean (1 : Int32)))) (fun h => by rw [hret] at h; cases h) e0 (by decide) (by decide) (fun fs hr => retN X0 hx (t := .boolean) hret (by simp) (hb hby d9_23) hr) ?_
      exact ⟨by simp only [own_pr, br1, br2, nar_1, nar_0, ↓reduceIte], N0, rfl⟩
theorem d5_0 : decode prog_11_method_6_code 0 = .ok (.aload_n 0, 1) := by decide +kernel
theorem d5_1 : decode prog_11_method_6_code 1 = .ok (.astore_n 1, 1) := by decide +kernel
theorem d5_2 : decode prog_11_method_6_code 2 = .ok (.aload_n 1, 1) := by decide +kernel
theorem d5_3 : decode prog_11_method_6_code 3 = .ok (.arraylength, 1) := by decide +kernel
theorem d5_4 : decode prog_11_method_6_code 4 = .ok (.istore_n 2, 1) := by decide +kernel
theorem d5_5 : decode prog_11_method_6_code 5 = .ok (.iconst 0, 1) := by decide +kernel
theorem d5_6 : decode prog_11_method_6_code 6 = .ok (.istore_n 3, 1) := by decide +kernel
theorem d5_7 : decode prog_11_method_6_code 7 = .ok (.iload_n 3, 1) := by decide +kernel
theorem d5_8 : decode prog_11_method_6_code 8 = .ok (.iload_n 2, 1) := by decide +kernel
theorem d5_9 : decode prog_11_method_6_code 9 = .ok (.if_icmp .ge 30, 3) := by decide +kernel
theorem d5_12 : decode prog_11_method_6_code 12 = .ok (.aload_n 1, 1) := by decide +kernel
theorem d5_13 : decode prog_11_method_6_code 13 = .ok (.iload_n 3, 1) := by decide +kernel
theorem d5_14 : decode prog_11_method_6_code 14 = .ok (.baload, 1) := by decide +kernel
theorem d5_15 : decode prog_11_method_6_code 15 = .ok (.istore 4, 2) := by decide +kernel
theorem d5_17 : decode prog_11_method_6_code 17 = .ok (.iload 4, 2) := by decide +kernel
theorem d5_19 : decode prog_11_method_6_code 19 = .ok (.bipush 32, 2) := by decide +kernel
theorem d5_21 : decode prog_11_method_6_code 21 = .ok (.if_icmp .le 10, 3) := by decide +kernel
theorem d5_24 : decode prog_11_method_6_code 24 = .ok (.iload 4, 2) := by decide +kernel
theorem d5_26 : decode prog_11_method_6_code 26 = .ok (.bipush 127, 2) := by decide +kernel
theorem d5_28 : decode prog_11_method_6_code 28 = .ok (.if_icmp .lt 5, 3) := by decide +kernel
theorem d5_31 : decode prog_11_method_6_code 31 = .ok (.iconst 0, 1) := by decide +kernel
theorem d5_32 : decode prog_11_method_6_code 32 = .ok (.ireturn, 1) := by decide +kernel
theorem d5_33 : decode prog_11_method_6_code 33 = .ok (.iinc 3 1, 3) := by decide +kernel
theorem d5_36 : decode prog_11_method_6_code 36 = .ok (.goto (-29), 3) := by decide +kernel
theorem d5_39 : decode prog_11_method_6_code 39 = .ok (.iconst 1, 1) := by decide +kernel
theorem d5_40 : decode prog_11_method_6_code 40 = .ok (.ireturn, 1) := by decide +kernel
theorem pn_com_example_slotwise_slotwise_commands_ClientCommands : plainName "com/example/slotwise/slotwise/commands/ClientCommands" = true := by first | (simp [plainName, overriddenIn]; done) | decide +kernel
theorem ef_rmV0 (m : MethodId) (a1 : Addr) : entryFrame m #[(.ref a1)] 5 = mkF m 0 #[.val (.ref a1), .unset, .unset, .unset, .unset] [] := by first | (simp [entryFrame, mkF, argsToLocals, Value.category]; done) | rfl
def Q_rmV0 (Z : State) (a1 : Addr) (ka : ClassId) (h0 : Heap) (n0 : Nat) (v : Option Value) (h : Heap) (L : List Loc) : Prop := v = some (.int (own_chk [])) ∧ Fr n0 L ∧ h = h0
set_option maxRecDepth 65536 in
set_option maxHeartbeats 40000000 in
theorem rmV0 (l : Launch) (Z : State) (a0 : Array Value) (hw : ∀ d ∈ tables_1, d.before a0 Z = true) (ws : List Jvm.Cond) (a1 : Addr) (ka : ClassId) (h0 : Heap) (n0 : Nat) (Z0 : n0 ≤ h0.size) (V_a1 : Arv Z h0 a1 ka .byte (0 : Int32) [] (.int (0 : Int32))) :
    MetFree l (⟨"com/example/slotwise/slotwise/commands/ClientCommands", "isValidName", "([B)Z"⟩ : MethodName) (head1 (Jvm.Cond.code (⟨"com/example/slotwise/slotwise/commands/ClientCommands", "isValidName", "([B)Z"⟩ : MethodName) prog_11_method_6_code 5 (some .boolean) :: ws) ({ frames := 0, cells := 0, slots := 0, locals := 0 } : Room)) (fun a U => a = #[(.ref a1)] ∧ Z.Warmed39 U.vm ∧ U.heap = h0) (fun _ _ _ _ _ => True) (fun _ U o U' => ∃ v L, o = .returned v ∧ Q_rmV0 Z a1 ka h0 n0 v U'.heap L ∧ FrameEnd U o U' L ({ frames := 0, cells := 0, slots := 0, locals := 0 } : Room).cells ({ frames := 0, cells := 0, slots := 0, locals := 0 } : Room).slots) := by
  refine MetFree.of_bodySF (plainFor_of_name pn_com_example_slotwise_slotwise_commands_ClientCommands) hisR ?_
  intro p e s m args below meth c s₁ Bd hml0 hP hK
  obtain ⟨rfl, hZ, hh⟩ := hP
  have hx := Bd.exec
  have hby := Bd.bytes
  have hml : c.maxLocals = 5 := hml0
  have hown : s.vm.findClass "com/example/slotwise/slotwise/commands/ClientCommands" = some m.cls := findClass_of_methodNamed Bd.named
  have hnm := (name_of_methodNamed Bd.named Bd.method).1
  have hret := Bd.returns
  have hlk : meth.locks = false := BodyLoose.notSynchronized Bd
  have X0 : Stand p l e ({ frames := 0, cells := 0, slots := 0, locals := 0 } : Room) s m #[(.ref a1)] below meth c s₁ [] 0 0 := Stand.of_body Bd
  have e0 : s₁.heap = h0 := by rw [← hh, Bd.state]; rfl
  have N0 := Fr.nil n0
  refine Rch.body (Q := Q_rmV0 Z a1 ka h0 n0) (U' := s₁.setTop (mkF m 0 #[.val (.ref a1), .unset, .unset, .unset, .unset] [])) (fun t k => castTop (ef_rmV0 m a1) k) ?_
  refine Rch.go (U' := s₁.setTop (mkF m 1 #[.val (.ref a1), .unset, .unset, .unset, .unset] [(.ref a1)])) (fun _ k => XS.aloadN X0.here hx rfl (hb hby d5_0) rfl rfl k) ?_
  refine Rch.go (U' := s₁.setTop (mkF m 2 #[.val (.ref a1), .val (.ref a1), .unset, .unset, .unset] [])) (fun _ k => XS.astoreN X0.here hx rfl (hb hby d5_1) rfl rfl (l' := #[.val (.ref a1), .val (.ref a1), .unset, .unset, .unset]) rfl k) ?_
  refine Rch.go (U' := s₁.setTop (mkF m 3 #[.val (.ref a1), .val (.ref a1), .unset, .unset, .unset] [(.ref a1)])) (fun _ k => XS.aloadN X0.here hx rfl (hb hby d5_2) rfl rfl k) ?_
  obtain ⟨c3, Ar3, -, S3, M3, -, -⟩ := id V_a1
  refine Rch.go (U' := s₁.setTop (mkF m 4 #[.val (.ref a1), .val (.ref a1), .unset, .unset, .unset] [(.int c3.slots.size.toInt32)])) (fun _ k => X0.arraylength hx (by rw [e0]; exact Ar3.1) (State.isArrayOf_alike hZ.alike Ar3.2.1) (g := (mkF m 3 #[.val (.ref a1), .val (.ref a1), .unset, .unset, .unset] [(.ref a1)])) rfl rfl (hb hby d5_3) _ k) ?_
  rw [len_of S3 M3]
  refine Rch.go (U' := s₁.setTop (mkF m 5 #[.val (.ref a1), .val (.ref a1), .val (.int (0 : Int32)), .unset, .unset] [])) (fun _ k => XS.istoreN X0.here hx rfl (hb hby d5_4) rfl (l' := #[.val (.ref a1), .val (.ref a1), .val (.int (0 : Int32)), .unset, .unset]) rfl k) ?_
  refine Rch.go (U' := s₁.setTop (mkF m 6 #[.val (.ref a1), .val (.ref a1), .val (.int (0 : Int32)), .unset, .unset] [(.int (0 : Int32))])) (fun _ k => XS.iconst X0.here hx rfl (hb hby d5_5) k) ?_
  refine Rch.go (U' := s₁.setTop (mkF m 7 #[.val (.ref a1), .val (.ref a1), .val (.int (0 : Int32)), .val (.int (0 : Int32)), .unset] [])) (fun _ k => XS.istoreN X0.here hx rfl (hb hby d5_6) rfl (l' := #[.val (.ref a1), .val (.ref a1), .val (.int (0 : Int32)), .val (.int (0 : Int32)), .unset]) rfl k) ?_
  refine Rch.go (U' := s₁.setTop (mkF m 8 #[.val (.ref a1), .val (.ref a1), .val (.int (0 : Int32)), .val (.int (0 : Int32)), .unset] [(.int (0 : Int32))])) (fun _ k => XS.iloadN X0.here hx rfl (hb hby d5_7) rfl  k) ?_
  refine Rch.go (U' := s₁.setTop (mkF m 9 #[.val (.ref a1), .val (.ref a1), .val (.int (0 : Int32)), .val (.int (0 : Int32)), .unset] [(.int (0 : Int32)), (.int (0 : Int32))])) (fun _ k => XS.iloadN X0.here hx rfl (hb hby d5_8) rfl  k) ?_
  have br4 : ¬ ((0 : Int32) < (0 : Int32)) := (by decide)
  refine Rch.go (U' := s₁.setTop (mkF m 39 #[.val (.ref a1), .val (.ref a1), .val (.int (0 : Int32)), .val (.int (0 : Int32)), .unset] [])) (fun _ k => XS.icmpYes X0.here hx rfl (pc0 := 9) (pc' := 39) rfl (hb hby d5_9) rfl (XT.ii_ge_t br4) (by decide) (by decide) k) ?_
  refine Rch.go (U' := s₁.setTop (mkF m 40 #[.val (.ref a1), .val (.ref a1), .val (.int (0 : Int32)), .val (.int (0 : Int32)), .unset] [(.int (1 : Int32))])) (fun _ k => XS.iconst X0.here hx rfl (hb hby d5_39) k) ?_
  refine Rch.fin X0 hlk (v := some (.int (nar .boolean (1 : Int32)))) (fun h => by rw [hret] at h; cases h) e0 (by decide) (by decide) (fun fs hr => retN X0 hx (t := .boolean) hret (by simp) (hb hby d5_40) hr) ?_
  exact ⟨by simp only [own_chk, nar_1, nar_0, ↓reduceIte], N0, rfl⟩
theorem ef_rmV1 (m : MethodId) (a1 : Addr) : entryFrame m #[(.ref a1)] 5 = mkF m 0 #[.val (.ref a1), .unset, .unset, .unset, .unset] [] := by first | (simp [entryFrame, mkF, argsToLocals, Value.category]; done) | rfl
def Q_rmV1 (Z : State) (a1 : Addr) (ka : ClassId) (b0 : Int32) (h0 : Heap) (n0 : Nat) (v : Option Value) (h : Heap) (L : List Loc) : Prop := v = some (.int (own_chk [b0])) ∧ Fr n0 L ∧ h = h0
set_option maxRecDepth 65536 in
set_option maxHeartbeats 40000000 in
theorem rmV1 (l : Launch) (Z : State) (a0 : Array Value) (hw : ∀ d ∈ tables_1, d.before a0 Z = true) (ws : List Jvm.Cond) (a1 : Addr) (ka : ClassId) (b0 : Int32) (h0 : Heap) (n0 : Nat) (Z0 : n0 ≤ h0.size) (V_a1 : Arv Z h0 a1 ka .byte (1 : Int32) [(.int b0)] (.int (0 : Int32))) :
    MetFree l (⟨"com/example/slotwise/slotwise/commands/ClientCommands", "isValidName", "([B)Z"⟩ : MethodName) (head1 (Jvm.Cond.code (⟨"com/example/slotwise/slotwise/commands/ClientCommands", "isValidName", "([B)Z"⟩ : MethodName) prog_11_method_6_code 5 (some .boolean) :: ws) ({ frames := 0, cells := 0, slots := 0, locals := 0 } : Room)) (fun a U => a = #[(.ref a1)] ∧ Z.Warmed39 U.vm ∧ U.heap = h0) (fun _ _ _ _ _ => True) (fun _ U o U' => ∃ v L, o = .returned v ∧ Q_rmV1 Z a1 ka b0 h0 n0 v U'.heap L ∧ FrameEnd U o U' L ({ frames := 0, cells := 0, slots := 0, locals := 0 } : Room).cells ({ frames := 0, cells := 0, slots := 0, locals := 0 } : Room).slots) := by
  refine MetFree.of_bodySF (plainFor_of_name pn_com_example_slotwise_slotwise_commands_ClientCommands) hisR ?_
  intro p e s m args below meth c s₁ Bd hml0 hP hK
  obtain ⟨rfl, hZ, hh⟩ := hP
  have hx := Bd.exec
  have hby := Bd.bytes
  have hml : c.maxLocals = 5 := hml0
  have hown : s.vm.findClass "com/example/slotwise/slotwise/commands/ClientCommands" = some m.cls := findClass_of_methodNamed Bd.named
  have hnm := (name_of_methodNamed Bd.named Bd.method).1
  have hret := Bd.returns
  have hlk : meth.locks = false := BodyLoose.notSynchronized Bd
  have X0 : Stand p l e ({ frames := 0, cells := 0, slots := 0, locals := 0 } : Room) s m #[(.ref a1)] below meth c s₁ [] 0 0 := Stand.of_body Bd
  have e0 : s₁.heap = h0 := by rw [← hh, Bd.state]; rfl
  have N0 := Fr.nil n0
  refine Rch.body (Q := Q_rmV1 Z a1 ka b0 h0 n0) (U' := s₁.setTop (mkF m 0 #[.val (.ref a1), .unset, .unset, .unset, .unset] [])) (fun t k => castTop (ef_rmV1 m a1) k) ?_
  refine Rch.go (U' := s₁.setTop (mkF m 1 #[.val (.ref a1), .unset, .unset, .unset, .unset] [(.ref a1)])) (fun _ k => XS.aloadN X0.here hx rfl (hb hby d5_0) rfl rfl k) ?_
  refine Rch.go (U' := s₁.setTop (mkF m 2 #[.val (.ref a1), .val (.ref a1), .unset, .unset, .unset] [])) (fun _ k => XS.astoreN X0.here hx rfl (hb hby d5_1) rfl rfl (l' := #[.val (.ref a1), .val (.ref a1), .unset, .unset, .unset]) rfl k) ?_
  refine Rch.go (U' := s₁.setTop (mkF m 3 #[.val (.ref a1), .val (.ref a1), .unset, .unset, .unset] [(.ref a1)])) (fun _ k => XS.aloadN X0.here hx rfl (hb hby d5_2) rfl rfl k) ?_
  obtain ⟨c5, Ar5, -, S5, M5, -, -⟩ := id V_a1
  refine Rch.go (U' := s₁.setTop (mkF m 4 #[.val (.ref a1), .val (.ref a1), .unset, .unset, .unset] [(.int c5.slots.size.toInt32)])) (fun _ k => X0.arraylength hx (by rw [e0]; exact Ar5.1) (State.isArrayOf_alike hZ.alike Ar5.2.1) (g := (mkF m 3 #[.val (.ref a1), .val (.ref a1), .unset, .unset, .unset] [(.ref a1)])) rfl rfl (hb hby d5_3) _ k) ?_
  rw [len_of S5 M5]
  refine Rch.go (U' := s₁.setTop (mkF m 5 #[.val (.ref a1), .val (.ref a1), .val (.int (1 : Int32)), .unset, .unset] [])) (fun _ k => XS.istoreN X0.here hx rfl (hb hby d5_4) rfl (l' := #[.val (.ref a1), .val (.ref a1), .val (.int (1 : Int32)), .unset, .unset]) rfl k) ?_
  refine Rch.go (U' := s₁.setTop (mkF m 6 #[.val (.ref a1), .val (.ref a1), .val (.int (1 : Int32)), .unset, .unset] [(.int (0 : Int32))])) (fun _ k => XS.iconst X0.here hx rfl (hb hby d5_5) k) ?_
  refine Rch.go (U' := s₁.setTop (mkF m 7 #[.val (.ref a1), .val (.ref a1), .val (.int (1 : Int32)), .val (.int (0 : Int32)), .unset] [])) (fun _ k => XS.istoreN X0.here hx rfl (hb hby d5_6) rfl (l' := #[.val (.ref a1), .val (.ref a1), .val (.int (1 : Int32)), .val (.int (0 : Int32)), .unset]) rfl k) ?_
  refine Rch.go (U' := s₁.setTop (mkF m 8 #[.val (.ref a1), .val (.ref a1), .val (.int (1 : Int32)), .val (.int (0 : Int32)), .unset] [(.int (0 : Int32))])) (fun _ k => XS.iloadN X0.here hx rfl (hb hby d5_7) rfl  k) ?_
  refine Rch.go (U' := s₁.setTop (mkF m 9 #[.val (.ref a1), .val (.ref a1), .val (.int (1 : Int32)), .val (.int (0 : Int32)), .unset] [(.int (1 : Int32)), (.int (0 : Int32))])) (fun _ k => XS.iloadN X0.here hx rfl (hb hby d5_8) rfl  k) ?_
  have br6 : (0 : Int32) < (1 : Int32) := (by decide)
  refine Rch.go (U' := s₁.setTop (mkF m 12 #[.val (.ref a1), .val (.ref a1), .val (.int (1 : Int32)), .val (.int (0 : Int32)), .unset] [])) (fun _ k => XS.icmpNo X0.here hx rfl (hb hby d5_9) rfl (XT.ii_ge_f br6) k) ?_
  refine Rch.go (U' := s₁.setTop (mkF m 13 #[.val (.ref a1), .val (.ref a1), .val (.int (1 : Int32)), .val (.int (0 : Int32)), .unset] [(.ref a1)])) (fun _ k => XS.aloadN X0.here hx rfl (hb hby d5_12) rfl rfl k) ?_
  refine Rch.go (U' := s₁.setTop (mkF m 14 #[.val (.ref a1), .val (.ref a1), .val (.int (1 : Int32)), .val (.int (0 : Int32)), .unset] [(.int (0 : Int32)), (.ref a1)])) (fun _ k => XS.iloadN X0.here hx rfl (hb hby d5_13) rfl  k) ?_
  obtain ⟨c7, Ar7, q7, S7, M7, Hs7, G7⟩ := id V_a1
  have i7 : ¬ ((0 : Int32) < 0 ∨ c7.slots.size ≤ ((0 : Int32)).toNatClampNeg) := inb_of S7 ⟨by decide, by decide⟩
  have a7 : c7.slots[((0 : Int32)).toNatClampNeg]? = some (.int b0) := Has.at Hs7 i7 rfl
  refine Rch.go (U' := s₁.setTop (mkF m 15 #[.val (.ref a1), .val (.ref a1), .val (.int (1 : Int32)), .val (.int (0 : Int32)), .unset] [(.int b0)])) (fun _ k => X0.baloadBytes hx (j := (0 : Int32)) (v := (.int b0)) (by rw [e0]; exact Ar7.1) (State.isArrayOf_alike hZ.alike Ar7.2.1) Ar7.2.2 i7 a7 (g := (mkF m 14 #[.val (.ref a1), .val (.ref a1), .val (.int (1 : Int32)), .val (.int (0 : Int32)), .unset] [(.int (0 : Int32)), (.ref a1)])) rfl rfl (hb hby d5_14) _ k) ?_
  refine Rch.go (U' := s₁.setTop (mkF m 17 #[.val (.ref a1), .val (.ref a1), .val (.int (1 : Int32)), .val (.int (0 : Int32)), .val (.int b0)] [])) (fun _ k => XS.istore X0.here hx rfl (hb hby d5_15) rfl (l' := #[.val (.ref a1), .val (.ref a1), .val (.int (1 : Int32)), .val (.int (0 : Int32)), .val (.int b0)]) rfl k) ?_
  refine Rch.go (U' := s₁.setTop (mkF m 19 #[.val (.ref a1), .val (.ref a1), .val (.int (1 : Int32)), .val (.int (0 : Int32)), .val (.int b0)] [(.int b0)])) (fun _ k => XS.iload X0.here hx rfl (hb hby d5_17) rfl  k) ?_
  refine Rch.go (U' := s₁.setTop (mkF m 21 #[.val (.ref a1), .val (.ref a1), .val (.int (1 : Int32)), .val (.int (0 : Int32)), .val (.int b0)] [(.int (32 : Int32)), (.int b0)])) (fun _ k => XS.bipush X0.here hx rfl (hb hby d5_19) k) ?_
  by_cases br8 : (32 : Int32) < b0
  ·
    refine Rch.go (U' := s₁.setTop (mkF m 24 #[.val (.ref a1), .val (.ref a1), .val (.int (1 : Int32)), .val (.int (0 : Int32)), .val (.int b0)] [])) (fun _ k => XS.icmpNo X0.here hx rfl (hb hby d5_21) rfl (XT.ii_le_f br8) k) ?_
    refine Rch.go (U' := s₁.setTop (mkF m 26 #[.val (.ref a1), .val (.ref a1), .val (.int (1 : Int32)), .val (.int (0 : Int32)), .val (.int b0)] [(.int b0)])) (fun _ k => XS.iload X0.here hx rfl (hb hby d5_24) rfl  k) ?_
    refine Rch.go (U' := s₁.setTop (mkF m 28 #[.val (.ref a1), .val (.ref a1), .val (.int (1 : Int32)), .val (.int (0 : Int32)), .val (.int b0)] [(.int (127 : Int32)), (.int b0)])) (fun _ k => XS.bipush X0.here hx rfl (hb hby d5_26) k) ?_
    by_cases br9 : b0 < (127 : Int32)
    ·
      refine Rch.go (U' := s₁.setTop (mkF m 33 #[.val (.ref a1), .val (.ref a1), .val (.int (1 : Int32)), .val (.int (0 : Int32)), .val (.int b0)] [])) (fun _ k => XS.icmpYes X0.here hx rfl (pc0 := 28) (pc' := 33) rfl (hb hby d5_28) rfl (XT.ii_lt_t br9) (by decide) (by decide) k) ?_
      refine Rch.go (U' := s₁.setTop (mkF m 36 #[.val (.ref a1), .val (.ref a1), .val (.int (1 : Int32)), .val (.int ((0 : Int32) + (1 : Int32))), .val (.int b0)] [])) (fun _ k => XS.iinc X0.here hx rfl (hb hby d5_33) rfl (l' := #[.val (.ref a1), .val (.ref a1), .val (.int (1 : Int32)), .val (.int ((0 : Int32) + (1 : Int32))), .val (.int b0)]) rfl k) ?_
      rw [(by decide : ((0 : Int32) + (1 : Int32)) = (1 : Int32))]
      refine Rch.go (U' := s₁.setTop (mkF m 7 #[.val (.ref a1), .val (.ref a1), .val (.int (1 : Int32)), .val (.int (1 : Int32)), .val (.int b0)] [])) (fun _ k => XS.goto X0.here hx rfl (pc0 := 36) (pc' := 7) rfl (hb hby d5_36) (by decide) (by decide) k) ?_
      refine Rch.go (U' := s₁.setTop (mkF m 8 #[.val (.ref a1), .val (.ref a1), .val (.int (1 : Int32)), .val (.int (1 : Int32)), .val (.int b0)] [(.int (1 : Int32))])) (fun _ k => XS.iloadN X0.here hx rfl (hb hby d5_7) rfl  k) ?_
      refine Rch.go (U' := s₁.setTop (mkF m 9 #[.val (.ref a1), .val (.ref a1), .val (.int (1 : Int32)), .val (.int (1 : Int32)), .val (.int b0)] [(.int (1 : Int32)), (.int (1 : Int32))])) (fun _ k => XS.iloadN X0.here hx rfl (hb hby d5_8) rfl  k) ?_
      have br10 : ¬ ((1 : Int32) < (1 : Int32)) := (by decide)
      refine Rch.go (U' := s₁.setTop (mkF m 39 #[.val (.ref a1), .val (.ref a1), .val (.int (1 : Int32)), .val (.int (1 : Int32)), .val (.int b0)] [])) (fun _ k => XS.icmpYes X0.here hx rfl (pc0 := 9) (pc' := 39) rfl (hb hby d5_9) rfl (XT.ii_ge_t br10) (by decide) (by decide) k) ?_
      refine Rch.go (U' := s₁.setTop (mkF m 40 #[.val (.ref a1), .val (.ref a1), .val (.int (1 : Int32)), .val (.int (1 : Int32)), .val (.int b0)] [(.int (1 : Int32))])) (fun _ k => XS.iconst X0.here hx rfl (hb hby d5_39) k) ?_
      refine Rch.fin X0 hlk (v := some (.int (nar .boolean (1 : Int32)))) (fun h => by rw [hret] at h; cases h) e0 (by decide) (by decide) (fun fs hr => retN X0 hx (t := .boolean) hret (by simp) (hb hby d5_40) hr) ?_
      exact ⟨by simp only [own_chk, br8, br9, nar_1, nar_0, ↓reduceIte], N0, rfl⟩
    ·
      refine Rch.go (U' := s₁.setTop (mkF m 31 #[.val (.ref a1), .val (.ref a1), .val (.int (1 : Int32)), .val (.int (0 : Int32)), .val (.int b0)] [])) (fun _ k => XS.icmpNo X0.here hx rfl (hb hby d5_28) rfl (XT.ii_lt_f br9) k) ?_
      refine Rch.go (U' := s₁.setTop (mkF m 32 #[.val (.ref a1), .val (.ref a1), .val (.int (1 : Int32)), .val (.int (0 : Int32)), .val (.int b0)] [(.int (0 : Int32))])) (fun _ k => XS.iconst X0.here hx rfl (hb hby d5_31) k) ?_
      refine Rch.fin X0 hlk (v := some (.int (nar .boolean (0 : Int32)))) (fun h => by rw [hret] at h; cases h) e0 (by decide) (by decide) (fun fs hr => retN X0 hx (t := .boolean) hret (by simp) (hb hby d5_32) hr) ?_
      exact ⟨by simp only [own_chk, br8, br9, nar_1, nar_0, ↓reduceIte], N0, rfl⟩
  ·
    refine Rch.go (U' := s₁.setTop (mkF m 31 #[.val (.ref a1), .val (.ref a1), .val (.int (1 : Int32)), .val (.int (0 : Int32)), .val (.int b0)] [])) (fun _ k => XS.icmpYes X0.here hx rfl (pc0 := 21) (pc' := 31) rfl (hb hby d5_21) rfl (XT.ii_le_t br8) (by decide) (by decide) k) ?_
    refine Rch.go (U' := s₁.setTop (mkF m 32 #[.val (.ref a1), .val (.ref a1), .val (.int (1 : Int32)), .val (.int (0 : Int32)), .val (.int b0)] [(.int (0 : Int32))])) (fun _ k => XS.iconst X0.here hx rfl (hb hby d5_31) k) ?_
    refine Rch.fin X0 hlk (v := some (.int (nar .boolean (0 : Int32)))) (fun h => by rw [hret] at h; cases h) e0 (by decide) (by decide) (fun fs hr => retN X0 hx (t := .boolean) hret (by simp) (hb hby d5_32) hr) ?_
    exact ⟨by simp only [own_chk, br8, nar_1, nar_0, ↓reduceIte], N0, rfl⟩
theorem ef_rmV2 (m : MethodId) (a1 : Addr) : entryFrame m #[(.ref a1)] 5 = mkF m 0 #[.val (.ref a1), .unset, .unset, .unset, .unset] [] := by first | (simp [entryFrame, mkF, argsToLocals, Value.category]; done) | rfl
def Q_rmV2 (Z : State) (a1 : Addr) (ka : ClassId) (b0 : Int32) (b1 : Int32) (h0 : Heap) (n0 : Nat) (v : Option Value) (h : Heap) (L : List Loc) : Prop := v = some (.int (own_chk [b0, b1])) ∧ Fr n0 L ∧ h = h0
set_option maxRecDepth 65536 in
set_option maxHeartbeats 40000000 in
theorem rmV2 (l : Launch) (Z : State) (a0 : Array Value) (hw : ∀ d ∈ tables_1, d.before a0 Z = true) (ws : List Jvm.Cond) (a1 : Addr) (ka : ClassId) (b0 : Int32) (b1 : Int32) (h0 : Heap) (n0 : Nat) (Z0 : n0 ≤ h0.size) (V_a1 : Arv Z h0 a1 ka .byte (2 : Int32) [(.int b0), (.int b1)] (.int (0 : Int32))) :
    MetFree l (⟨"com/example/slotwise/slotwise/commands/ClientCommands", "isValidName", "([B)Z"⟩ : MethodName) (head1 (Jvm.Cond.code (⟨"com/example/slotwise/slotwise/commands/ClientCommands", "isValidName", "([B)Z"⟩ : MethodName) prog_11_method_6_code 5 (some .boolean) :: ws) ({ frames := 0, cells := 0, slots := 0, locals := 0 } : Room)) (fun a U => a = #[(.ref a1)] ∧ Z.Warmed39 U.vm ∧ U.heap = h0) (fun _ _ _ _ _ => True) (fun _ U o U' => ∃ v L, o = .returned v ∧ Q_rmV2 Z a1 ka b0 b1 h0 n0 v U'.heap L ∧ FrameEnd U o U' L ({ frames := 0, cells := 0, slots := 0, locals := 0 } : Room).cells ({ frames := 0, cells := 0, slots := 0, locals := 0 } : Room).slots) := by
  refine MetFree.of_bodySF (plainFor_of_name pn_com_example_slotwise_slotwise_commands_ClientCommands) hisR ?_
  intro p e s m args below meth c s₁ Bd hml0 hP hK
  obtain ⟨rfl, hZ, hh⟩ := hP
  have hx := Bd.exec
  have hby := Bd.bytes
  have hml : c.maxLocals = 5 := hml0
  have hown : s.vm.findClass "com/example/slotwise/slotwise/commands/ClientCommands" = some m.cls := findClass_of_methodNamed Bd.named
  have hnm := (name_of_methodNamed Bd.named Bd.method).1
  have hret := Bd.returns
  have hlk : meth.locks = false := BodyLoose.notSynchronized Bd
  have X0 : Stand p l e ({ frames := 0, cells := 0, slots := 0, locals := 0 } : Room) s m #[(.ref a1)] below meth c s₁ [] 0 0 := Stand.of_body Bd
  have e0 : s₁.heap = h0 := by rw [← hh, Bd.state]; rfl
  have N0 := Fr.nil n0
  refine Rch.body (Q := Q_rmV2 Z a1 ka b0 b1 h0 n0) (U' := s₁.setTop (mkF m 0 #[.val (.ref a1), .unset, .unset, .unset, .unset] [])) (fun t k => castTop (ef_rmV2 m a1) k) ?_
  refine Rch.go (U' := s₁.setTop (mkF m 1 #[.val (.ref a1), .unset, .unset, .unset, .unset] [(.ref a1)])) (fun _ k => XS.aloadN X0.here hx rfl (hb hby d5_0) rfl rfl k) ?_
  refine Rch.go (U' := s₁.setTop (mkF m 2 #[.val (.ref a1), .val (.ref a1), .unset, .unset, .unset] [])) (fun _ k => XS.astoreN X0.here hx rfl (hb hby d5_1) rfl rfl (l' := #[.val (.ref a1), .val (.ref a1), .unset, .unset, .unset]) rfl k) ?_
  refine Rch.go (U' := s₁.setTop (mkF m 3 #[.val (.ref a1), .val (.ref a1), .unset, .unset, .unset] [(.ref a1)])) (fun _ k => XS.aloadN X0.here hx rfl (hb hby d5_2) rfl rfl k) ?_
  obtain ⟨c11, Ar11, -, S11, M11, -, -⟩ := id V_a1
  refine Rch.go (U' := s₁.setTop (mkF m 4 #[.val (.ref a1), .val (.ref a1), .unset, .unset, .unset] [(.int c11.slots.size.toInt32)])) (fun _ k => X0.arraylength hx (by rw [e0]; exact Ar11.1) (State.isArrayOf_alike hZ.alike Ar11.2.1) (g := (mkF m 3 #[.val (.ref a1), .val (.ref a1), .unset, .unset, .unset] [(.ref a1)])) rfl rfl (hb hby d5_3) _ k) ?_
  rw [len_of S11 M11]
  refine Rch.go (U' := s₁.setTop (mkF m 5 #[.val (.ref a1), .val (.ref a1), .val (.int (2 : Int32)), .unset, .unset] [])) (fun _ k => XS.istoreN X0.here hx rfl (hb hby d5_4) rfl (l' := #[.val (.ref a1), .val (.ref a1), .val (.int (2 : Int32)), .unset, .unset]) rfl k) ?_
  refine Rch.go (U' := s₁.setTop (mkF m 6 #[.val (.ref a1), .val (.ref a1), .val (.int (2 : Int32)), .unset, .unset] [(.int (0 : Int32))])) (fun _ k => XS.iconst X0.here hx rfl (hb hby d5_5) k) ?_
  refine Rch.go (U' := s₁.setTop (mkF m 7 #[.val (.ref a1), .val (.ref a1), .val (.int (2 : Int32)), .val (.int (0 : Int32)), .unset] [])) (fun _ k => XS.istoreN X0.here hx rfl (hb hby d5_6) rfl (l' := #[.val (.ref a1), .val (.ref a1), .val (.int (2 : Int32)), .val (.int (0 : Int32)), .unset]) rfl k) ?_
  refine Rch.go (U' := s₁.setTop (mkF m 8 #[.val (.ref a1), .val (.ref a1), .val (.int (2 : Int32)), .val (.int (0 : Int32)), .unset] [(.int (0 : Int32))])) (fun _ k => XS.iloadN X0.here hx rfl (hb hby d5_7) rfl  k) ?_
  refine Rch.go (U' := s₁.setTop (mkF m 9 #[.val (.ref a1), .val (.ref a1), .val (.int (2 : Int32)), .val (.int (0 : Int32)), .unset] [(.int (2 : Int32)), (.int (0 : Int32))])) (fun _ k => XS.iloadN X0.here hx rfl (hb hby d5_8) rfl  k) ?_
  have br12 : (0 : Int32) < (2 : Int32) := (by decide)
  refine Rch.go (U' := s₁.setTop (mkF m 12 #[.val (.ref a1), .val (.ref a1), .val (.int (2 : Int32)), .val (.int (0 : Int32)), .unset] [])) (fun _ k => XS.icmpNo X0.here hx rfl (hb hby d5_9) rfl (XT.ii_ge_f br12) k) ?_
  refine Rch.go (U' := s₁.setTop (mkF m 13 #[.val (.ref a1), .val (.ref a1), .val (.int (2 : Int32)), .val (.int (0 : Int32)), .unset] [(.ref a1)])) (fun _ k => XS.aloadN X0.here hx rfl (hb hby d5_12) rfl rfl k) ?_
  refine Rch.go (U' := s₁.setTop (mkF m 14 #[.val (.ref a1), .val (.ref a1), .val (.int (2 : Int32)), .val (.int (0 : Int32)), .unset] [(.int (0 : Int32)), (.ref a1)])) (fun _ k => XS.iloadN X0.here hx rfl (hb hby d5_13) rfl  k) ?_
  obtain ⟨c13, Ar13, q13, S13, M13, Hs13, G13⟩ := id V_a1
  have i13 : ¬ ((0 : Int32) < 0 ∨ c13.slots.size ≤ ((0 : Int32)).toNatClampNeg) := inb_of S13 ⟨by decide, by decide⟩
  have a13 : c13.slots[((0 : Int32)).toNatClampNeg]? = some (.int b0) := Has.at Hs13 i13 rfl
  refine Rch.go (U' := s₁.setTop (mkF m 15 #[.val (.ref a1), .val (.ref a1), .val (.int (2 : Int32)), .val (.int (0 : Int32)), .unset] [(.int b0)])) (fun _ k => X0.baloadBytes hx (j := (0 : Int32)) (v := (.int b0)) (by rw [e0]; exact Ar13.1) (State.isArrayOf_alike hZ.alike Ar13.2.1) Ar13.2.2 i13 a13 (g := (mkF m 14 #[.val (.ref a1), .val (.ref a1), .val (.int (2 : Int32)), .val (.int (0 : Int32)), .unset] [(.int (0 : Int32)), (.ref a1)])) rfl rfl (hb hby d5_14) _ k) ?_
  refine Rch.go (U' := s₁.setTop (mkF m 17 #[.val (.ref a1), .val (.ref a1), .val (.int (2 : Int32)), .val (.int (0 : Int32)), .val (.int b0)] [])) (fun _ k => XS.istore X0.here hx rfl (hb hby d5_15) rfl (l' := #[.val (.ref a1), .val (.ref a1), .val (.int (2 : Int32)), .val (.int (0 : Int32)), .val (.int b0)]) rfl k) ?_
  refine Rch.go (U' := s₁.setTop (mkF m 19 #[.val (.ref a1), .val (.ref a1), .val (.int (2 : Int32)), .val (.int (0 : Int32)), .val (.int b0)] [(.int b0)])) (fun _ k => XS.iload X0.here hx rfl (hb hby d5_17) rfl  k) ?_
  refine Rch.go (U' := s₁.setTop (mkF m 21 #[.val (.ref a1), .val (.ref a1), .val (.int (2 : Int32)), .val (.int (0 : Int32)), .val (.int b0)] [(.int (32 : Int32)), (.int b0)])) (fun _ k => XS.bipush X0.here hx rfl (hb hby d5_19) k) ?_
  by_cases br14 : (32 : Int32) < b0
  ·
    refine Rch.go (U' := s₁.setTop (mkF m 24 #[.val (.ref a1), .val (.ref a1), .val (.int (2 : Int32)), .val (.int (0 : Int32)), .val (.int b0)] [])) (fun _ k => XS.icmpNo X0.here hx rfl (hb hby d5_21) rfl (XT.ii_le_f br14) k) ?_
    refine Rch.go (U' := s₁.setTop (mkF m 26 #[.val (.ref a1), .val (.ref a1), .val (.int (2 : Int32)), .val (.int (0 : Int32)), .val (.int b0)] [(.int b0)])) (fun _ k => XS.iload X0.here hx rfl (hb hby d5_24) rfl  k) ?_
    refine Rch.go (U' := s₁.setTop (mkF m 28 #[.val (.ref a1), .val (.ref a1), .val (.int (2 : Int32)), .val (.int (0 : Int32)), .val (.int b0)] [(.int (127 : Int32)), (.int b0)])) (fun _ k => XS.bipush X0.here hx rfl (hb hby d5_26) k) ?_
    by_cases br15 : b0 < (127 : Int32)
    ·
      refine Rch.go (U' := s₁.setTop (mkF m 33 #[.val (.ref a1), .val (.ref a1), .val (.int (2 : Int32)), .val (.int (0 : Int32)), .val (.int b0)] [])) (fun _ k => XS.icmpYes X0.here hx rfl (pc0 := 28) (pc' := 33) rfl (hb hby d5_28) rfl (XT.ii_lt_t br15) (by decide) (by decide) k) ?_
      refine Rch.go (U' := s₁.setTop (mkF m 36 #[.val (.ref a1), .val (.ref a1), .val (.int (2 : Int32)), .val (.int ((0 : Int32) + (1 : Int32))), .val (.int b0)] [])) (fun _ k => XS.iinc X0.here hx rfl (hb hby d5_33) rfl (l' := #[.val (.ref a1), .val (.ref a1), .val (.int (2 : Int32)), .val (.int ((0 : Int32) + (1 : Int32))), .val (.int b0)]) rfl k) ?_
      rw [(by decide : ((0 : Int32) + (1 : Int32)) = (1 : Int32))]
      refine Rch.go (U' := s₁.setTop (mkF m 7 #[.val (.ref a1), .val (.ref a1), .val (.int (2 : Int32)), .val (.int (1 : Int32)), .val (.int b0)] [])) (fun _ k => XS.goto X0.here hx rfl (pc0 := 36) (pc' := 7) rfl (hb hby d5_36) (by decide) (by decide) k) ?_
      refine Rch.go (U' := s₁.setTop (mkF m 8 #[.val (.ref a1), .val (.ref a1), .val (.int (2 : Int32)), .val (.int (1 : Int32)), .val (.int b0)] [(.int (1 : Int32))])) (fun _ k => XS.iloadN X0.here hx rfl (hb hby d5_7) rfl  k) ?_
      refine Rch.go (U' := s₁.setTop (mkF m 9 #[.val (.ref a1), .val (.ref a1), .val (.int (2 : Int32)), .val (.int (1 : Int32)), .val (.int b0)] [(.int (2 : Int32)), (.int (1 : Int32))])) (fun _ k => XS.iloadN X0.here hx rfl (hb hby d5_8) rfl  k) ?_
      have br16 : (1 : Int32) < (2 : Int32) := (by decide)
      refine Rch.go (U' := s₁.setTop (mkF m 12 #[.val (.ref a1), .val (.ref a1), .val (.int (2 : Int32)), .val (.int (1 : Int32)), .val (.int b0)] [])) (fun _ k => XS.icmpNo X0.here hx rfl (hb hby d5_9) rfl (XT.ii_ge_f br16) k) ?_
      refine Rch.go (U' := s₁.setTop (mkF m 13 #[.val (.ref a1), .val (.ref a1), .val (.int (2 : Int32)), .val (.int (1 : Int32)), .val (.int b0)] [(.ref a1)])) (fun _ k => XS.aloadN X0.here hx rfl (hb hby d5_12) rfl rfl k) ?_
      refine Rch.go (U' := s₁.setTop (mkF m 14 #[.val (.ref a1), .val (.ref a1), .val (.int (2 : Int32)), .val (.int (1 : Int32)), .val (.int b0)] [(.int (1 : Int32)), (.ref a1)])) (fun _ k => XS.iloadN X0.here hx rfl (hb hby d5_13) rfl  k) ?_
      obtain ⟨c17, Ar17, q17, S17, M17, Hs17, G17⟩ := id V_a1
      have i17 : ¬ ((1 : Int32) < 0 ∨ c17.slots.size ≤ ((1 : Int32)).toNatClampNeg) := inb_of S17 ⟨by decide, by decide⟩
      have a17 : c17.slots[((1 : Int32)).toNatClampNeg]? = some (.int b1) := Has.at Hs17 i17 rfl
      refine Rch.go (U' := s₁.setTop (mkF m 15 #[.val (.ref a1), .val (.ref a1), .val (.int (2 : Int32)), .val (.int (1 : Int32)), .val (.int b0)] [(.int b1)])) (fun _ k => X0.baloadBytes hx (j := (1 : Int32)) (v := (.int b1)) (by rw [e0]; exact Ar17.1) (State.isArrayOf_alike hZ.alike Ar17.2.1) Ar17.2.2 i17 a17 (g := (mkF m 14 #[.val (.ref a1), .val (.ref a1), .val (.int (2 : Int32)), .val (.int (1 : Int32)), .val (.int b0)] [(.int (1 : Int32)), (.ref a1)])) rfl rfl (hb hby d5_14) _ k) ?_
      refine Rch.go (U' := s₁.setTop (mkF m 17 #[.val (.ref a1), .val (.ref a1), .val (.int (2 : Int32)), .val (.int (1 : Int32)), .val (.int b1)] [])) (fun _ k => XS.istore X0.here hx rfl (hb hby d5_15) rfl (l' := #[.val (.ref a1), .val (.ref a1), .val (.int (2 : Int32)), .val (.int (1 : Int32)), .val (.int b1)]) rfl k) ?_
      refine Rch.go (U' := s₁.setTop (mkF m 19 #[.val (.ref a1), .val (.ref a1), .val (.int (2 : Int32)), .val (.int (1 : Int32)), .val (.int b1)] [(.int b1)])) (fun _ k => XS.iload X0.here hx rfl (hb hby d5_17) rfl  k) ?_
      refine Rch.go (U' := s₁.setTop (mkF m 21 #[.val (.ref a1), .val (.ref a1), .val (.int (2 : Int32)), .val (.int (1 : Int32)), .val (.int b1)] [(.int (32 : Int32)), (.int b1)])) (fun _ k => XS.bipush X0.here hx rfl (hb hby d5_19) k) ?_
      by_cases br18 : (32 : Int32) < b1
      ·
        refine Rch.go (U' := s₁.setTop (mkF m 24 #[.val (.ref a1), .val (.ref a1), .val (.int (2 : Int32)), .val (.int (1 : Int32)), .val (.int b1)] [])) (fun _ k => XS.icmpNo X0.here hx rfl (hb hby d5_21) rfl (XT.ii_le_f br18) k) ?_
        refine Rch.go (U' := s₁.setTop (mkF m 26 #[.val (.ref a1), .val (.ref a1), .val (.int (2 : Int32)), .val (.int (1 : Int32)), .val (.int b1)] [(.int b1)])) (fun _ k => XS.iload X0.here hx rfl (hb hby d5_24) rfl  k) ?_
        refine Rch.go (U' := s₁.setTop (mkF m 28 #[.val (.ref a1), .val (.ref a1), .val (.int (2 : Int32)), .val (.int (1 : Int32)), .val (.int b1)] [(.int (127 : Int32)), (.int b1)])) (fun _ k => XS.bipush X0.here hx rfl (hb hby d5_26) k) ?_
        by_cases br19 : b1 < (127 : Int32)
        ·
          refine Rch.go (U' := s₁.setTop (mkF m 33 #[.val (.ref a1), .val (.ref a1), .val (.int (2 : Int32)), .val (.int (1 : Int32)), .val (.int b1)] [])) (fun _ k => XS.icmpYes X0.here hx rfl (pc0 := 28) (pc' := 33) rfl (hb hby d5_28) rfl (XT.ii_lt_t br19) (by decide) (by decide) k) ?_
          refine Rch.go (U' := s₁.setTop (mkF m 36 #[.val (.ref a1), .val (.ref a1), .val (.int (2 : Int32)), .val (.int ((1 : Int32) + (1 : Int32))), .val (.int b1)] [])) (fun _ k => XS.iinc X0.here hx rfl (hb hby d5_33) rfl (l' := #[.val (.ref a1), .val (.ref a1), .val (.int (2 : Int32)), .val (.int ((1 : Int32) + (1 : Int32))), .val (.int b1)]) rfl k) ?_
          rw [(by decide : ((1 : Int32) + (1 : Int32)) = (2 : Int32))]
          refine Rch.go (U' := s₁.setTop (mkF m 7 #[.val (.ref a1), .val (.ref a1), .val (.int (2 : Int32)), .val (.int (2 : Int32)), .val (.int b1)] [])) (fun _ k => XS.goto X0.here hx rfl (pc0 := 36) (pc' := 7) rfl (hb hby d5_36) (by decide) (by decide) k) ?_
          refine Rch.go (U' := s₁.setTop (mkF m 8 #[.val (.ref a1), .val (.ref a1), .val (.int (2 : Int32)), .val (.int (2 : Int32)), .val (.int b1)] [(.int (2 : Int32))])) (fun _ k => XS.iloadN X0.here hx rfl (hb hby d5_7) rfl  k) ?_
          refine Rch.go (U' := s₁.setTop (mkF m 9 #[.val (.ref a1), .val (.ref a1), .val (.int (2 : Int32)), .val (.int (2 : Int32)), .val (.int b1)] [(.int (2 : Int32)), (.int (2 : Int32))])) (fun _ k => XS.iloadN X0.here hx rfl (hb hby d5_8) rfl  k) ?_
          have br20 : ¬ ((2 : Int32) < (2 : Int32)) := (by decide)
          refine Rch.go (U' := s₁.setTop (mkF m 39 #[.val (.ref a1), .val (.ref a1), .val (.int (2 : Int32)), .val (.int (2 : Int32)), .val (.int b1)] [])) (fun _ k => XS.icmpYes X0.here hx rfl (pc0 := 9) (pc' := 39) rfl (hb hby d5_9) rfl (XT.ii_ge_t br20) (by decide) (by decide) k) ?_
          refine Rch.go (U' := s₁.setTop (mkF m 40 #[.val (.ref a1), .val (.ref a1), .val (.int (2 : Int32)), .val (.int (2 : Int32)), .val (.int b1)] [(.int (1 : Int32))])) (fun _ k => XS.iconst X0.here hx rfl (hb hby d5_39) k) ?_
          refine Rch.fin X0 hlk (v := some (.int (nar .boolean (1 : Int32)))) (fun h => by rw [hret] at h; cases h) e0 (by decide) (by decide) (fun fs hr => retN X0 hx (t := .boolean) hret (by simp) (hb hby d5_40) hr) ?_
          exact ⟨by simp only [own_chk, br14, br15, br18, br19, nar_1, nar_0, ↓reduceIte], N0, rfl⟩
        ·
          refine Rch.go (U' := s₁.setTop (mkF m 31 #[.val (.ref a1), .val (.ref a1), .val (.int (2 : Int32)), .val (.int (1 : Int32)), .val (.int b1)] [])) (fun _ k => XS.icmpNo X0.here hx rfl (hb hby d5_28) rfl (XT.ii_lt_f br19) k) ?_
          refine Rch.go (U' := s₁.setTop (mkF m 32 #[.val (.ref a1), .val (.ref a1), .val (.int (2 : Int32)), .val (.int (1 : Int32)), .val (.int b1)] [(.int (0 : Int32))])) (fun _ k => XS.iconst X0.here hx rfl (hb hby d5_31) k) ?_
          refine Rch.fin X0 hlk (v := some (.int (nar .boolean (0 : Int32)))) (fun h => by rw [hret] at h; cases h) e0 (by decide) (by decide) (fun fs hr => retN X0 hx (t := .boolean) hret (by simp) (hb hby d5_32) hr) ?_
          exact ⟨by simp only [own_chk, br14, br15, br18, br19, nar_1, nar_0, ↓reduceIte], N0, rfl⟩
      ·
        refine Rch.go (U' := s₁.setTop (mkF m 31 #[.val (.ref a1), .val (.ref a1), .val (.int (2 : Int32)), .val (.int (1 : Int32)), .val (.int b1)] [])) (fun _ k => XS.icmpYes X0.here hx rfl (pc0 := 21) (pc' := 31) rfl (hb hby d5_21) rfl (XT.ii_le_t br18) (by decide) (by decide) k) ?_
        refine Rch.go (U' := s₁.setTop (mkF m 32 #[.val (.ref a1), .val (.ref a1), .val (.int (2 : Int32)), .val (.int (1 : Int32)), .val (.int b1)] [(.int (0 : Int32))])) (fun _ k => XS.iconst X0.here hx rfl (hb hby d5_31) k) ?_
        refine Rch.fin X0 hlk (v := some (.int (nar .boolean (0 : Int32)))) (fun h => by rw [hret] at h; cases h) e0 (by decide) (by decide) (fun fs hr => retN X0 hx (t := .boolean) hret (by simp) (hb hby d5_32) hr) ?_
        exact ⟨by simp only [own_chk, br14, br15, br18, nar_1, nar_0, ↓reduceIte], N0, rfl⟩
    ·
      refine Rch.go (U' := s₁.setTop (mkF m 31 #[.val (.ref a1), .val (.ref a1), .val (.int (2 : Int32)), .val (.int (0 : Int32)), .val (.int b0)] [])) (fun _ k => XS.icmpNo X0.here hx rfl (hb hby d5_28) rfl (XT.ii_lt_f br15) k) ?_
      refine Rch.go (U' := s₁.setTop (mkF m 32 #[.val (.ref a1), .val (.ref a1), .val (.int (2 : Int32)), .val (.int (0 : Int32)), .val (.int b0)] [(.int (0 : Int32))])) (fun _ k => XS.iconst X0.here hx rfl (hb hby d5_31) k) ?_
      refine Rch.fin X0 hlk (v := some (.int (nar .boolean (0 : Int32)))) (fun h => by rw [hret] at h; cases h) e0 (by decide) (by decide) (fun fs hr => retN X0 hx (t := .boolean) hret (by simp) (hb hby d5_32) hr) ?_
      exact ⟨by simp only [own_chk, br14, br15, nar_1, nar_0, ↓reduceIte], N0, rfl⟩
  ·
    refine Rch.go (U' := s₁.setTop (mkF m 31 #[.val (.ref a1), .val (.ref a1), .val (.int (2 : Int32)), .val (.int (0 : Int32)), .val (.int b0)] [])) (fun _ k => XS.icmpYes X0.here hx rfl (pc0 := 21) (pc' := 31) rfl (hb hby d5_21) rfl (XT.ii_le_t br14) (by decide) (by decide) k) ?_
    refine Rch.go (U' := s₁.setTop (mkF m 32 #[.val (.ref a1), .val (.ref a1), .val (.int (2 : Int32)), .val (.int (0 : Int32)), .val (.int b0)] [(.int (0 : Int32))])) (fun _ k => XS.iconst X0.here hx rfl (hb hby d5_31) k) ?_
    refine Rch.fin X0 hlk (v := some (.int (nar .boolean (0 : Int32)))) (fun h => by rw [hret] at h; cases h) e0 (by decide) (by decide) (fun fs hr => retN X0 hx (t := .boolean) hret (by simp) (hb hby d5_32) hr) ?_
    exact ⟨by simp only [own_chk, br14, nar_1, nar_0, ↓reduceIte], N0, rfl⟩
theorem ef_rmV3 (m : MethodId) (a1 : Addr) : entryFrame m #[(.ref a1)] 5 = mkF m 0 #[.val (.ref a1), .unset, .unset, .unset, .unset] [] := by first | (simp [entryFrame, mkF, argsToLocals, Value.category]; done) | rfl
def Q_rmV3 (Z : State) (a1 : Addr) (ka : ClassId) (b0 : Int32) (b1 : Int32) (b2 : Int32) (h0 : Heap) (n0 : Nat) (v : Option Value) (h : Heap) (L : List Loc) : Prop := v = some (.int (own_chk [b0, b1, b2])) ∧ Fr n0 L ∧ h = h0
set_option maxRecDepth 65536 in
set_option maxHeartbeats 40000000 in
theorem rmV3 (l : Launch) (Z : State) (a0 : Array Value) (hw : ∀ d ∈ tables_1, d.before a0 Z = true) (ws : List Jvm.Cond) (a1 : Addr) (ka : ClassId) (b0 : Int32) (b1 : Int32) (b2 : Int32) (h0 : Heap) (n0 : Nat) (Z0 : n0 ≤ h0.size) (V_a1 : Arv Z h0 a1 ka .byte (3 : Int32) [(.int b0), (.int b1), (.int b2)] (.int (0 : Int32))) :
    MetFree l (⟨"com/example/slotwise/slotwise/commands/ClientCommands", "isValidName", "([B)Z"⟩ : MethodName) (head1 (Jvm.Cond.code (⟨"com/example/slotwise/slotwise/commands/ClientCommands", "isValidName", "([B)Z"⟩ : MethodName) prog_11_method_6_code 5 (some .boolean) :: ws) ({ frames := 0, cells := 0, slots := 0, locals := 0 } : Room)) (fun a U => a = #[(.ref a1)] ∧ Z.Warmed39 U.vm ∧ U.heap = h0) (fun _ _ _ _ _ => True) (fun _ U o U' => ∃ v L, o = .returned v ∧ Q_rmV3 Z a1 ka b0 b1 b2 h0 n0 v U'.heap L ∧ FrameEnd U o U' L ({ frames := 0, cells := 0, slots := 0, locals := 0 } : Room).cells ({ frames := 0, cells := 0, slots := 0, locals := 0 } : Room).slots) := by
  refine MetFree.of_bodySF (plainFor_of_name pn_com_example_slotwise_slotwise_commands_ClientCommands) hisR ?_
  intro p e s m args below meth c s₁ Bd hml0 hP hK
  obtain ⟨rfl, hZ, hh⟩ := hP
  have hx := Bd.exec
  have hby := Bd.bytes
  have hml : c.maxLocals = 5 := hml0
  have hown : s.vm.findClass "com/example/slotwise/slotwise/commands/ClientCommands" = some m.cls := findClass_of_methodNamed Bd.named
  have hnm := (name_of_methodNamed Bd.named Bd.method).1
  have hret := Bd.returns
  have hlk : meth.locks = false := BodyLoose.notSynchronized Bd
  have X0 : Stand p l e ({ frames := 0, cells := 0, slots := 0, locals := 0 } : Room) s m #[(.ref a1)] below meth c s₁ [] 0 0 := Stand.of_body Bd
  have e0 : s₁.heap = h0 := by rw [← hh, Bd.state]; rfl
  have N0 := Fr.nil n0
  refine Rch.body (Q := Q_rmV3 Z a1 ka b0 b1 b2 h0 n0) (U' := s₁.setTop (mkF m 0 #[.val (.ref a1), .unset, .unset, .unset, .unset] [])) (fun t k => castTop (ef_rmV3 m a1) k) ?_
  refine Rch.go (U' := s₁.setTop (mkF m 1 #[.val (.ref a1), .unset, .unset, .unset, .unset] [(.ref a1)])) (fun _ k => XS.aloadN X0.here hx rfl (hb hby d5_0) rfl rfl k) ?_
  refine Rch.go (U' := s₁.setTop (mkF m 2 #[.val (.ref a1), .val (.ref a1), .unset, .unset, .unset] [])) (fun _ k => XS.astoreN X0.here hx rfl (hb hby d5_1) rfl rfl (l' := #[.val (.ref a1), .val (.ref a1), .unset, .unset, .unset]) rfl k) ?_
  refine Rch.go (U' := s₁.setTop (mkF m 3 #[.val (.ref a1), .val (.ref a1), .unset, .unset, .unset] [(.ref a1)])) (fun _ k => XS.aloadN X0.here hx rfl (hb hby d5_2) rfl rfl k) ?_
  obtain ⟨c21, Ar21, -, S21, M21, -, -⟩ := id V_a1
  refine Rch.go (U' := s₁.setTop (mkF m 4 #[.val (.ref a1), .val (.ref a1), .unset, .unset, .unset] [(.int c21.slots.size.toInt32)])) (fun _ k => X0.arraylength hx (by rw [e0]; exact Ar21.1) (State.isArrayOf_alike hZ.alike Ar21.2.1) (g := (mkF m 3 #[.val (.ref a1), .val (.ref a1), .unset, .unset, .unset] [(.ref a1)])) rfl rfl (hb hby d5_3) _ k) ?_
  rw [len_of S21 M21]
  refine Rch.go (U' := s₁.setTop (mkF m 5 #[.val (.ref a1), .val (.ref a1), .val (.int (3 : Int32)), .unset, .unset] [])) (fun _ k => XS.istoreN X0.here hx rfl (hb hby d5_4) rfl (l' := #[.val (.ref a1), .val (.ref a1), .val (.int (3 : Int32)), .unset, .unset]) rfl k) ?_
  refine Rch.go (U' := s₁.setTop (mkF m 6 #[.val (.ref a1), .val (.ref a1), .val (.int (3 : Int32)), .unset, .unset] [(.int (0 : Int32))])) (fun _ k => XS.iconst X0.here hx rfl (hb hby d5_5) k) ?_
  refine Rch.go (U' := s₁.setTop (mkF m 7 #[.val (.ref a1), .val (.ref a1), .val (.int (3 : Int32)), .val (.int (0 : Int32)), .unset] [])) (fun _ k => XS.istoreN X0.here hx rfl (hb hby d5_6) rfl (l' := #[.val (.ref a1), .val (.ref a1), .val (.int (3 : Int32)), .val (.int (0 : Int32)), .unset]) rfl k) ?_
  refine Rch.go (U' := s₁.setTop (mkF m 8 #[.val (.ref a1), .val (.ref a1), .val (.int (3 : Int32)), .val (.int (0 : Int32)), .unset] [(.int (0 : Int32))])) (fun _ k => XS.iloadN X0.here hx rfl (hb hby d5_7) rfl  k) ?_
  refine Rch.go (U' := s₁.setTop (mkF m 9 #[.val (.ref a1), .val (.ref a1), .val (.int (3 : Int32)), .val (.int (0 : Int32)), .unset] [(.int (3 : Int32)), (.int (0 : Int32))])) (fun _ k => XS.iloadN X0.here hx rfl (hb hby d5_8) rfl  k) ?_
  have br22 : (0 : Int32) < (3 : Int32) := (by decide)
  refine Rch.go (U' := s₁.setTop (mkF m 12 #[.val (.ref a1), .val (.ref a1), .val (.int (3 : Int32)), .val (.int (0 : Int32)), .unset] [])) (fun _ k => XS.icmpNo X0.here hx rfl (hb hby d5_9) rfl (XT.ii_ge_f br22) k) ?_
  refine Rch.go (U' := s₁.setTop (mkF m 13 #[.val (.ref a1), .val (.ref a1), .val (.int (3 : Int32)), .val (.int (0 : Int32)), .unset] [(.ref a1)])) (fun _ k => XS.aloadN X0.here hx rfl (hb hby d5_12) rfl rfl k) ?_
  refine Rch.go (U' := s₁.setTop (mkF m 14 #[.val (.ref a1), .val (.ref a1), .val (.int (3 : Int32)), .val (.int (0 : Int32)), .unset] [(.int (0 : Int32)), (.ref a1)])) (fun _ k => XS.iloadN X0.here hx rfl (hb hby d5_13) rfl  k) ?_
  obtain ⟨c23, Ar23, q23, S23, M23, Hs23, G23⟩ := id V_a1
  have i23 : ¬ ((0 : Int32) < 0 ∨ c23.slots.size ≤ ((0 : Int32)).toNatClampNeg) := inb_of S23 ⟨by decide, by decide⟩
  have a23 : c23.slots[((0 : Int32)).toNatClampNeg]? = some (.int b0) := Has.at Hs23 i23 rfl
  refine Rch.go (U' := s₁.setTop (mkF m 15 #[.val (.ref a1), .val (.ref a1), .val (.int (3 : Int32)), .val (.int (0 : Int32)), .unset] [(.int b0)])) (fun _ k => X0.baloadBytes hx (j := (0 : Int32)) (v := (.int b0)) (by rw [e0]; exact Ar23.1) (State.isArrayOf_alike hZ.alike Ar23.2.1) Ar23.2.2 i23 a23 (g := (mkF m 14 #[.val (.ref a1), .val (.ref a1), .val (.int (3 : Int32)), .val (.int (0 : Int32)), .unset] [(.int (0 : Int32)), (.ref a1)])) rfl rfl (hb hby d5_14) _ k) ?_
  refine Rch.go (U' := s₁.setTop (mkF m 17 #[.val (.ref a1), .val (.ref a1), .val (.int (3 : Int32)), .val (.int (0 : Int32)), .val (.int b0)] [])) (fun _ k => XS.istore X0.here hx rfl (hb hby d5_15) rfl (l' := #[.val (.ref a1), .val (.ref a1), .val (.int (3 : Int32)), .val (.int (0 : Int32)), .val (.int b0)]) rfl k) ?_
  refine Rch.go (U' := s₁.setTop (mkF m 19 #[.val (.ref a1), .val (.ref a1), .val (.int (3 : Int32)), .val (.int (0 : Int32)), .val (.int b0)] [(.int b0)])) (fun _ k => XS.iload X0.here hx rfl (hb hby d5_17) rfl  k) ?_
  refine Rch.go (U' := s₁.setTop (mkF m 21 #[.val (.ref a1), .val (.ref a1), .val (.int (3 : Int32)), .val (.int (0 : Int32)), .val (.int b0)] [(.int (32 : Int32)), (.int b0)])) (fun _ k => XS.bipush X0.here hx rfl (hb hby d5_19) k) ?_
  by_cases br24 : (32 : Int32) < b0
  ·
    refine Rch.go (U' := s₁.setTop (mkF m 24 #[.val (.ref a1), .val (.ref a1), .val (.int (3 : Int32)), .val (.int (0 : Int32)), .val (.int b0)] [])) (fun _ k => XS.icmpNo X0.here hx rfl (hb hby d5_21) rfl (XT.ii_le_f br24) k) ?_
    refine Rch.go (U' := s₁.setTop (mkF m 26 #[.val (.ref a1), .val (.ref a1), .val (.int (3 : Int32)), .val (.int (0 : Int32)), .val (.int b0)] [(.int b0)])) (fun _ k => XS.iload X0.here hx rfl (hb hby d5_24) rfl  k) ?_
    refine Rch.go (U' := s₁.setTop (mkF m 28 #[.val (.ref a1), .val (.ref a1), .val (.int (3 : Int32)), .val (.int (0 : Int32)), .val (.int b0)] [(.int (127 : Int32)), (.int b0)])) (fun _ k => XS.bipush X0.here hx rfl (hb hby d5_26) k) ?_
    by_cases br25 : b0 < (127 : Int32)
    ·
      refine Rch.go (U' := s₁.setTop (mkF m 33 #[.val (.ref a1), .val (.ref a1), .val (.int (3 : Int32)), .val (.int (0 : Int32)), .val (.int b0)] [])) (fun _ k => XS.icmpYes X0.here hx rfl (pc0 := 28) (pc' := 33) rfl (hb hby d5_28) rfl (XT.ii_lt_t br25) (by decide) (by decide) k) ?_
      refine Rch.go (U' := s₁.setTop (mkF m 36 #[.val (.ref a1), .val (.ref a1), .val (.int (3 : Int32)), .val (.int ((0 : Int32) + (1 : Int32))), .val (.int b0)] [])) (fun _ k => XS.iinc X0.here hx rfl (hb hby d5_33) rfl (l' := #[.val (.ref a1), .val (.ref a1), .val (.int (3 : Int32)), .val (.int ((0 : Int32) + (1 : Int32))), .val (.int b0)]) rfl k) ?_
      rw [(by decide : ((0 : Int32) + (1 : Int32)) = (1 : Int32))]
      refine Rch.go (U' := s₁.setTop (mkF m 7 #[.val (.ref a1), .val (.ref a1), .val (.int (3 : Int32)), .val (.int (1 : Int32)), .val (.int b0)] [])) (fun _ k => XS.goto X0.here hx rfl (pc0 := 36) (pc' := 7) rfl (hb hby d5_36) (by decide) (by decide) k) ?_
      refine Rch.go (U' := s₁.setTop (mkF m 8 #[.val (.ref a1), .val (.ref a1), .val (.int (3 : Int32)), .val (.int (1 : Int32)), .val (.int b0)] [(.int (1 : Int32))])) (fun _ k => XS.iloadN X0.here hx rfl (hb hby d5_7) rfl  k) ?_
      refine Rch.go (U' := s₁.setTop (mkF m 9 #[.val (.ref a1), .val (.ref a1), .val (.int (3 : Int32)), .val (.int (1 : Int32)), .val (.int b0)] [(.int (3 : Int32)), (.int (1 : Int32))])) (fun _ k => XS.iloadN X0.here hx rfl (hb hby d5_8) rfl  k) ?_
      have br26 : (1 : Int32) < (3 : Int32) := (by decide)
      refine Rch.go (U' := s₁.setTop (mkF m 12 #[.val (.ref a1), .val (.ref a1), .val (.int (3 : Int32)), .val (.int (1 : Int32)), .val (.int b0)] [])) (fun _ k => XS.icmpNo X0.here hx rfl (hb hby d5_9) rfl (XT.ii_ge_f br26) k) ?_
      refine Rch.go (U' := s₁.setTop (mkF m 13 #[.val (.ref a1), .val (.ref a1), .val (.int (3 : Int32)), .val (.int (1 : Int32)), .val (.int b0)] [(.ref a1)])) (fun _ k => XS.aloadN X0.here hx rfl (hb hby d5_12) rfl rfl k) ?_
      refine Rch.go (U' := s₁.setTop (mkF m 14 #[.val (.ref a1), .val (.ref a1), .val (.int (3 : Int32)), .val (.int (1 : Int32)), .val (.int b0)] [(.int (1 : Int32)), (.ref a1)])) (fun _ k => XS.iloadN X0.here hx rfl (hb hby d5_13) rfl  k) ?_
      obtain ⟨c27, Ar27, q27, S27, M27, Hs27, G27⟩ := id V_a1
      have i27 : ¬ ((1 : Int32) < 0 ∨ c27.slots.size ≤ ((1 : Int32)).toNatClampNeg) := inb_of S27 ⟨by decide, by decide⟩
      have a27 : c27.slots[((1 : Int32)).toNatClampNeg]? = some (.int b1) := Has.at Hs27 i27 rfl
      refine Rch.go (U' := s₁.setTop (mkF m 15 #[.val (.ref a1), .val (.ref a1), .val (.int (3 : Int32)), .val (.int (1 : Int32)), .val (.int b0)] [(.int b1)])) (fun _ k => X0.baloadBytes hx (j := (1 : Int32)) (v := (.int b1)) (by rw [e0]; exact Ar27.1) (State.isArrayOf_alike hZ.alike Ar27.2.1) Ar27.2.2 i27 a27 (g := (mkF m 14 #[.val (.ref a1), .val (.ref a1), .val (.int (3 : Int32)), .val (.int (1 : Int32)), .val (.int b0)] [(.int (1 : Int32)), (.ref a1)])) rfl rfl (hb hby d5_14) _ k) ?_
      refine Rch.go (U' := s₁.setTop (mkF m 17 #[.val (.ref a1), .val (.ref a1), .val (.int (3 : Int32)), .val (.int (1 : Int32)), .val (.int b1)] [])) (fun _ k => XS.istore X0.here hx rfl (hb hby d5_15) rfl (l' := #[.val (.ref a1), .val (.ref a1), .val (.int (3 : Int32)), .val (.int (1 : Int32)), .val (.int b1)]) rfl k) ?_
      refine Rch.go (U' := s₁.setTop (mkF m 19 #[.val (.ref a1), .val (.ref a1), .val (.int (3 : Int32)), .val (.int (1 : Int32)), .val (.int b1)] [(.int b1)])) (fun _ k => XS.iload X0.here hx rfl (hb hby d5_17) rfl  k) ?_
      refine Rch.go (U' := s₁.setTop (mkF m 21 #[.val (.ref a1), .val (.ref a1), .val (.int (3 : Int32)), .val (.int (1 : Int32)), .val (.int b1)] [(.int (32 : Int32)), (.int b1)])) (fun _ k => XS.bipush X0.here hx rfl (hb hby d5_19) k) ?_
      by_cases br28 : (32 : Int32) < b1
      ·
        refine Rch.go (U' := s₁.setTop (mkF m 24 #[.val (.ref a1), .val (.ref a1), .val (.int (3 : Int32)), .val (.int (1 : Int32)), .val (.int b1)] [])) (fun _ k => XS.icmpNo X0.here hx rfl (hb hby d5_21) rfl (XT.ii_le_f br28) k) ?_
        refine Rch.go (U' := s₁.setTop (mkF m 26 #[.val (.ref a1), .val (.ref a1), .val (.int (3 : Int32)), .val (.int (1 : Int32)), .val (.int b1)] [(.int b1)])) (fun _ k => XS.iload X0.here hx rfl (hb hby d5_24) rfl  k) ?_
        refine Rch.go (U' := s₁.setTop (mkF m 28 #[.val (.ref a1), .val (.ref a1), .val (.int (3 : Int32)), .val (.int (1 : Int32)), .val (.int b1)] [(.int (127 : Int32)), (.int b1)])) (fun _ k => XS.bipush X0.here hx rfl (hb hby d5_26) k) ?_
        by_cases br29 : b1 < (127 : Int32)
        ·
          refine Rch.go (U' := s₁.setTop (mkF m 33 #[.val (.ref a1), .val (.ref a1), .val (.int (3 : Int32)), .val (.int (1 : Int32)), .val (.int b1)] [])) (fun _ k => XS.icmpYes X0.here hx rfl (pc0 := 28) (pc' := 33) rfl (hb hby d5_28) rfl (XT.ii_lt_t br29) (by decide) (by decide) k) ?_
          refine Rch.go (U' := s₁.setTop (mkF m 36 #[.val (.ref a1), .val (.ref a1), .val (.int (3 : Int32)), .val (.int ((1 : Int32) + (1 : Int32))), .val (.int b1)] [])) (fun _ k => XS.iinc X0.here hx rfl (hb hby d5_33) rfl (l' := #[.val (.ref a1), .val (.ref a1), .val (.int (3 : Int32)), .val (.int ((1 : Int32) + (1 : Int32))), .val (.int b1)]) rfl k) ?_
          rw [(by decide : ((1 : Int32) + (1 : Int32)) = (2 : Int32))]
          refine Rch.go (U' := s₁.setTop (mkF m 7 #[.val (.ref a1), .val (.ref a1), .val (.int (3 : Int32)), .val (.int (2 : Int32)), .val (.int b1)] [])) (fun _ k => XS.goto X0.here hx rfl (pc0 := 36) (pc' := 7) rfl (hb hby d5_36) (by decide) (by decide) k) ?_
          refine Rch.go (U' := s₁.setTop (mkF m 8 #[.val (.ref a1), .val (.ref a1), .val (.int (3 : Int32)), .val (.int (2 : Int32)), .val (.int b1)] [(.int (2 : Int32))])) (fun _ k => XS.iloadN X0.here hx rfl (hb hby d5_7) rfl  k) ?_
          refine Rch.go (U' := s₁.setTop (mkF m 9 #[.val (.ref a1), .val (.ref a1), .val (.int (3 : Int32)), .val (.int (2 : Int32)), .val (.int b1)] [(.int (3 : Int32)), (.int (2 : Int32))])) (fun _ k => XS.iloadN X0.here hx rfl (hb hby d5_8) rfl  k) ?_
          have br30 : (2 : Int32) < (3 : Int32) := (by decide)
          refine Rch.go (U' := s₁.setTop (mkF m 12 #[.val (.ref a1), .val (.ref a1), .val (.int (3 : Int32)), .val (.int (2 : Int32)), .val (.int b1)] [])) (fun _ k => XS.icmpNo X0.here hx rfl (hb hby d5_9) rfl (XT.ii_ge_f br30) k) ?_
          refine Rch.go (U' := s₁.setTop (mkF m 13 #[.val (.ref a1), .val (.ref a1), .val (.int (3 : Int32)), .val (.int (2 : Int32)), .val (.int b1)] [(.ref a1)])) (fun _ k => XS.aloadN X0.here hx rfl (hb hby d5_12) rfl rfl k) ?_
          refine Rch.go (U' := s₁.setTop (mkF m 14 #[.val (.ref a1), .val (.ref a1), .val (.int (3 : Int32)), .val (.int (2 : Int32)), .val (.int b1)] [(.int (2 : Int32)), (.ref a1)])) (fun _ k => XS.iloadN X0.here hx rfl (hb hby d5_13) rfl  k) ?_
          obtain ⟨c31, Ar31, q31, S31, M31, Hs31, G31⟩ := id V_a1
          have i31 : ¬ ((2 : Int32) < 0 ∨ c31.slots.size ≤ ((2 : Int32)).toNatClampNeg) := inb_of S31 ⟨by decide, by decide⟩
          have a31 : c31.slots[((2 : Int32)).toNatClampNeg]? = some (.int b2) := Has.at Hs31 i31 rfl
          refine Rch.go (U' := s₁.setTop (mkF m 15 #[.val (.ref a1), .val (.ref a1), .val (.int (3 : Int32)), .val (.int (2 : Int32)), .val (.int b1)] [(.int b2)])) (fun _ k => X0.baloadBytes hx (j := (2 : Int32)) (v := (.int b2)) (by rw [e0]; exact Ar31.1) (State.isArrayOf_alike hZ.alike Ar31.2.1) Ar31.2.2 i31 a31 (g := (mkF m 14 #[.val (.ref a1), .val (.ref a1), .val (.int (3 : Int32)), .val (.int (2 : Int32)), .val (.int b1)] [(.int (2 : Int32)), (.ref a1)])) rfl rfl (hb hby d5_14) _ k) ?_
          refine Rch.go (U' := s₁.setTop (mkF m 17 #[.val (.ref a1), .val (.ref a1), .val (.int (3 : Int32)), .val (.int (2 : Int32)), .val (.int b2)] [])) (fun _ k => XS.istore X0.here hx rfl (hb hby d5_15) rfl (l' := #[.val (.ref a1), .val (.ref a1), .val (.int (3 : Int32)), .val (.int (2 : Int32)), .val (.int b2)]) rfl k) ?_
          refine Rch.go (U' := s₁.setTop (mkF m 19 #[.val (.ref a1), .val (.ref a1), .val (.int (3 : Int32)), .val (.int (2 : Int32)), .val (.int b2)] [(.int b2)])) (fun _ k => XS.iload X0.here hx rfl (hb hby d5_17) rfl  k) ?_
          refine Rch.go (U' := s₁.setTop (mkF m 21 #[.val (.ref a1), .val (.ref a1), .val (.int (3 : Int32)), .val (.int (2 : Int32)), .val (.int b2)] [(.int (32 : Int32)), (.int b2)])) (fun _ k => XS.bipush X0.here hx rfl (hb hby d5_19) k) ?_
          by_cases br32 : (32 : Int32) < b2
          ·
            refine Rch.go (U' := s₁.setTop (mkF m 24 #[.val (.ref a1), .val (.ref a1), .val (.int (3 : Int32)), .val (.int (2 : Int32)), .val (.int b2)] [])) (fun _ k => XS.icmpNo X0.here hx rfl (hb hby d5_21) rfl (XT.ii_le_f br32) k) ?_
            refine Rch.go (U' := s₁.setTop (mkF m 26 #[.val (.ref a1), .val (.ref a1), .val (.int (3 : Int32)), .val (.int (2 : Int32)), .val (.int b2)] [(.int b2)])) (fun _ k => XS.iload X0.here hx rfl (hb hby d5_24) rfl  k) ?_
            refine Rch.go (U' := s₁.setTop (mkF m 28 #[.val (.ref a1), .val (.ref a1), .val (.int (3 : Int32)), .val (.int (2 : Int32)), .val (.int b2)] [(.int (127 : Int32)), (.int b2)])) (fun _ k => XS.bipush X0.here hx rfl (hb hby d5_26) k) ?_
            by_cases br33 : b2 < (127 : Int32)
            ·
              refine Rch.go (U' := s₁.setTop (mkF m 33 #[.val (.ref a1), .val (.ref a1), .val (.int (3 : Int32)), .val (.int (2 : Int32)), .val (.int b2)] [])) (fun _ k => XS.icmpYes X0.here hx rfl (pc0 := 28) (pc' := 33) rfl (hb hby d5_28) rfl (XT.ii_lt_t br33) (by decide) (by decide) k) ?_
              refine Rch.go (U' := s₁.setTop (mkF m 36 #[.val (.ref a1), .val (.ref a1), .val (.int (3 : Int32)), .val (.int ((2 : Int32) + (1 : Int32))), .val (.int b2)] [])) (fun _ k => XS.iinc X0.here hx rfl (hb hby d5_33) rfl (l' := #[.val (.ref a1), .val (.ref a1), .val (.int (3 : Int32)), .val (.int ((2 : Int32) + (1 : Int32))), .val (.int b2)]) rfl k) ?_
              rw [(by decide : ((2 : Int32) + (1 : Int32)) = (3 : Int32))]
              refine Rch.go (U' := s₁.setTop (mkF m 7 #[.val (.ref a1), .val (.ref a1), .val (.int (3 : Int32)), .val (.int (3 : Int32)), .val (.int b2)] [])) (fun _ k => XS.goto X0.here hx rfl (pc0 := 36) (pc' := 7) rfl (hb hby d5_36) (by decide) (by decide) k) ?_
              refine Rch.go (U' := s₁.setTop (mkF m 8 #[.val (.ref a1), .val (.ref a1), .val (.int (3 : Int32)), .val (.int (3 : Int32)), .val (.int b2)] [(.int (3 : Int32))])) (fun _ k => XS.iloadN X0.here hx rfl (hb hby d5_7) rfl  k) ?_
              refine Rch.go (U' := s₁.setTop (mkF m 9 #[.val (.ref a1), .val (.ref a1), .val (.int (3 : Int32)), .val (.int (3 : Int32)), .val (.int b2)] [(.int (3 : Int32)), (.int (3 : Int32))])) (fun _ k => XS.iloadN X0.here hx rfl (hb hby d5_8) rfl  k) ?_
              have br34 : ¬ ((3 : Int32) < (3 : Int32)) := (by decide)
              refine Rch.go (U' := s₁.setTop (mkF m 39 #[.val (.ref a1), .val (.ref a1), .val (.int (3 : Int32)), .val (.int (3 : Int32)), .val (.int b2)] [])) (fun _ k => XS.icmpYes X0.here hx rfl (pc0 := 9) (pc' := 39) rfl (hb hby d5_9) rfl (XT.ii_ge_t br34) (by decide) (by decide) k) ?_
              refine Rch.go (U' := s₁.setTop (mkF m 40 #[.val (.ref a1), .val (.ref a1), .val (.int (3 : Int32)), .val (.int (3 : Int32)), .val (.int b2)] [(.int (1 : Int32))])) (fun _ k => XS.iconst X0.here hx rfl (hb hby d5_39) k) ?_
              refine Rch.fin X0 hlk (v := some (.int (nar .boolean (1 : Int32)))) (fun h => by rw [hret] at h; cases h) e0 (by decide) (by decide) (fun fs hr => retN X0 hx (t := .boolean) hret (by simp) (hb hby d5_40) hr) ?_
              exact ⟨by simp only [own_chk, br24, br25, br28, br29, br32, br33, nar_1, nar_0, ↓reduceIte], N0, rfl⟩
            ·
              refine Rch.go (U' := s₁.setTop (mkF m 31 #[.val (.ref a1), .val (.ref a1), .val (.int (3 : Int32)), .val (.int (2 : Int32)), .val (.int b2)] [])) (fun _ k => XS.icmpNo X0.here hx rfl (hb hby d5_28) rfl (XT.ii_lt_f br33) k) ?_
              refine Rch.go (U' := s₁.setTop (mkF m 32 #[.val (.ref a1), .val (.ref a1), .val (.int (3 : Int32)), .val (.int (2 : Int32)), .val (.int b2)] [(.int (0 : Int32))])) (fun _ k => XS.iconst X0.here hx rfl (hb hby d5_31) k) ?_
              refine Rch.fin X0 hlk (v := some (.int (nar .boolean (0 : Int32)))) (fun h => by rw [hret] at h; cases h) e0 (by decide) (by decide) (fun fs hr => retN X0 hx (t := .boolean) hret (by simp) (hb hby d5_32) hr) ?_
              exact ⟨by simp only [own_chk, br24, br25, br28, br29, br32, br33, nar_1, nar_0, ↓reduceIte], N0, rfl⟩
          ·
            refine Rch.go (U' := s₁.setTop (mkF m 31 #[.val (.ref a1), .val (.ref a1), .val (.int (3 : Int32)), .val (.int (2 : Int32)), .val (.int b2)] [])) (fun _ k => XS.icmpYes X0.here hx rfl (pc0 := 21) (pc' := 31) rfl (hb hby d5_21) rfl (XT.ii_le_t br32) (by decide) (by decide) k) ?_
            refine Rch.go (U' := s₁.setTop (mkF m 32 #[.val (.ref a1), .val (.ref a1), .val (.int (3 : Int32)), .val (.int (2 : Int32)), .val (.int b2)] [(.int (0 : Int32))])) (fun _ k => XS.iconst X0.here hx rfl (hb hby d5_31) k) ?_
            refine Rch.fin X0 hlk (v := some (.int (nar .boolean (0 : Int32)))) (fun h => by rw [hret] at h; cases h) e0 (by decide) (by decide) (fun fs hr => retN X0 hx (t := .boolean) hret (by simp) (hb hby d5_32) hr) ?_
            exact ⟨by simp only [own_chk, br24, br25, br28, br29, br32, nar_1, nar_0, ↓reduceIte], N0, rfl⟩
        ·
          refine Rch.go (U' := s₁.setTop (mkF m 31 #[.val (.ref a1), .val (.ref a1), .val (.int (3 : Int32)), .val (.int (1 : Int32)), .val (.int b1)] [])) (fun _ k => XS.icmpNo X0.here hx rfl (hb hby d5_28) rfl (XT.ii_lt_f br29) k) ?_
          refine Rch.go (U' := s₁.setTop (mkF m 32 #[.val (.ref a1), .val (.ref a1), .val (.int (3 : Int32)), .val (.int (1 : Int32)), .val (.int b1)] [(.int (0 : Int32))])) (fun _ k => XS.iconst X0.here hx rfl (hb hby d5_31) k) ?_
          refine Rch.fin X0 hlk (v := some (.int (nar .boolean (0 : Int32)))) (fun h => by rw [hret] at h; cases h) e0 (by decide) (by decide) (fun fs hr => retN X0 hx (t := .boolean) hret (by simp) (hb hby d5_32) hr) ?_
          exact ⟨by simp only [own_chk, br24, br25, br28, br29, nar_1, nar_0, ↓reduceIte], N0, rfl⟩
      ·
        refine Rch.go (U' := s₁.setTop (mkF m 31 #[.val (.ref a1), .val (.ref a1), .val (.int (3 : Int32)), .val (.int (1 : Int32)), .val (.int b1)] [])) (fun _ k => XS.icmpYes X0.here hx rfl (pc0 := 21) (pc' := 31) rfl (hb hby d5_21) rfl (XT.ii_le_t br28) (by decide) (by decide) k) ?_
        refine Rch.go (U' := s₁.setTop (mkF m 32 #[.val (.ref a1), .val (.ref a1), .val (.int (3 : Int32)), .val (.int (1 : Int32)), .val (.int b1)] [(.int (0 : Int32))])) (fun _ k => XS.iconst X0.here hx rfl (hb hby d5_31) k) ?_
        refine Rch.fin X0 hlk (v := some (.int (nar .boolean (0 : Int32)))) (fun h => by rw [hret] at h; cases h) e0 (by decide) (by decide) (fun fs hr => retN X0 hx (t := .boolean) hret (by simp) (hb hby d5_32) hr) ?_
        exact ⟨by simp only [own_chk, br24, br25, br28, nar_1, nar_0, ↓reduceIte], N0, rfl⟩
    ·
      refine Rch.go (U' := s₁.setTop (mkF m 31 #[.val (.ref a1), .val (.ref a1), .val (.int (3 : Int32)), .val (.int (0 : Int32)), .val (.int b0)] [])) (fun _ k => XS.icmpNo X0.here hx rfl (hb hby d5_28) rfl (XT.ii_lt_f br25) k) ?_
      refine Rch.go (U' := s₁.setTop (mkF m 32 #[.val (.ref a1), .val (.ref a1), .val (.int (3 : Int32)), .val (.int (0 : Int32)), .val (.int b0)] [(.int (0 : Int32))])) (fun _ k => XS.iconst X0.here hx rfl (hb hby d5_31) k) ?_
      refine Rch.fin X0 hlk (v := some (.int (nar .boolean (0 : Int32)))) (fun h => by rw [hret] at h; cases h) e0 (by decide) (by decide) (fun fs hr => retN X0 hx (t := .boolean) hret (by simp) (hb hby d5_32) hr) ?_
      exact ⟨by simp only [own_chk, br24, br25, nar_1, nar_0, ↓reduceIte], N0, rfl⟩
  ·
    refine Rch.go (U' := s₁.setTop (mkF m 31 #[.val (.ref a1), .val (.ref a1), .val (.int (3 : Int32)), .val (.int (0 : Int32)), .val (.int b0)] [])) (fun _ k => XS.icmpYes X0.here hx rfl (pc0 := 21) (pc' := 31) rfl (hb hby d5_21) rfl (XT.ii_le_t br24) (by decide) (by decide) k) ?_
    refine Rch.go (U' := s₁.setTop (mkF m 32 #[.val (.ref a1), .val (.ref a1), .val (.int (3 : Int32)), .val (.int (0 : Int32)), .val (.int b0)] [(.int (0 : Int32))])) (fun _ k => XS.iconst X0.here hx rfl (hb hby d5_31) k) ?_
    refine Rch.fin X0 hlk (v := some (.int (nar .boolean (0 : Int32)))) (fun h => by rw [hret] at h; cases h) e0 (by decide) (by decide) (fun fs hr => retN X0 hx (t := .boolean) hret (by simp) (hb hby d5_32) hr) ?_
    exact ⟨by simp only [own_chk, br24, nar_1, nar_0, ↓reduceIte], N0, rfl⟩
theorem ef_rmV4 (m : MethodId) (a1 : Addr) : entryFrame m #[(.ref a1)] 5 = mkF m 0 #[.val (.ref a1), .unset, .unset, .unset, .unset] [] := by first | (simp [entryFrame, mkF, argsToLocals, Value.category]; done) | rfl
def Q_rmV4 (Z : State) (a1 : Addr) (ka : ClassId) (b0 : Int32) (b1 : Int32) (b2 : Int32) (b3 : Int32) (h0 : Heap) (n0 : Nat) (v : Option Value) (h : Heap) (L : List Loc) : Prop := v = some (.int (own_chk [b0, b1, b2, b3])) ∧ Fr n0 L ∧ h = h0
set_option maxRecDepth 65536 in
set_option maxHeartbeats 40000000 in
theorem rmV4 (l : Launch) (Z : State) (a0 : Array Value) (hw : ∀ d ∈ tables_1, d.before a0 Z = true) (ws : List Jvm.Cond) (a1 : Addr) (ka : ClassId) (b0 : Int32) (b1 : Int32) (b2 : Int32) (b3 : Int32) (h0 : Heap) (n0 : Nat) (Z0 : n0 ≤ h0.size) (V_a1 : Arv Z h0 a1 ka .byte (4 : Int32) [(.int b0), (.int b1), (.int b2), (.int b3)] (.int (0 : Int32))) :
    MetFree l (⟨"com/example/slotwise/slotwise/commands/ClientCommands", "isValidName", "([B)Z"⟩ : MethodName) (head1 (Jvm.Cond.code (⟨"com/example/slotwise/slotwise/commands/ClientCommands", "isValidName", "([B)Z"⟩ : MethodName) prog_11_method_6_code 5 (some .boolean) :: ws) ({ frames := 0, cells := 0, slots := 0, locals := 0 } : Room)) (fun a U => a = #[(.ref a1)] ∧ Z.Warmed39 U.vm ∧ U.heap = h0) (fun _ _ _ _ _ => True) (fun _ U o U' => ∃ v L, o = .returned v ∧ Q_rmV4 Z a1 ka b0 b1 b2 b3 h0 n0 v U'.heap L ∧ FrameEnd U o U' L ({ frames := 0, cells := 0, slots := 0, locals := 0 } : Room).cells ({ frames := 0, cells := 0, slots := 0, locals := 0 } : Room).slots) := by
  refine MetFree.of_bodySF (plainFor_of_name pn_com_example_slotwise_slotwise_commands_ClientCommands) hisR ?_
  intro p e s m args below meth c s₁ Bd hml0 hP hK
  obtain ⟨rfl, hZ, hh⟩ := hP
  have hx := Bd.exec
  have hby := Bd.bytes
  have hml : c.maxLocals = 5 := hml0
  have hown : s.vm.findClass "com/example/slotwise/slotwise/commands/ClientCommands" = some m.cls := findClass_of_methodNamed Bd.named
  have hnm := (name_of_methodNamed Bd.named Bd.method).1
  have hret := Bd.returns
  have hlk : meth.locks = false := BodyLoose.notSynchronized Bd
  have X0 : Stand p l e ({ frames := 0, cells := 0, slots := 0, locals := 0 } : Room) s m #[(.ref a1)] below meth c s₁ [] 0 0 := Stand.of_body Bd
  have e0 : s₁.heap = h0 := by rw [← hh, Bd.state]; rfl
  have N0 := Fr.nil n0
  refine Rch.body (Q := Q_rmV4 Z a1 ka b0 b1 b2 b3 h0 n0) (U' := s₁.setTop (mkF m 0 #[.val (.ref a1), .unset, .unset, .unset, .unset] [])) (fun t k => castTop (ef_rmV4 m a1) k) ?_
  refine Rch.go (U' := s₁.setTop (mkF m 1 #[.val (.ref a1), .unset, .unset, .unset, .unset] [(.ref a1)])) (fun _ k => XS.aloadN X0.here hx rfl (hb hby d5_0) rfl rfl k) ?_
  refine Rch.go (U' := s₁.setTop (mkF m 2 #[.val (.ref a1), .val (.ref a1), .unset, .unset, .unset] [])) (fun _ k => XS.astoreN X0.here hx rfl (hb hby d5_1) rfl rfl (l' := #[.val (.ref a1), .val (.ref a1), .unset, .unset, .unset]) rfl k) ?_
  refine Rch.go (U' := s₁.setTop (mkF m 3 #[.val (.ref a1), .val (.ref a1), .unset, .unset, .unset] [(.ref a1)])) (fun _ k => XS.aloadN X0.here hx rfl (hb hby d5_2) rfl rfl k) ?_
  obtain ⟨c35, Ar35, -, S35, M35, -, -⟩ := id V_a1
  refine Rch.go (U' := s₁.setTop (mkF m 4 #[.val (.ref a1), .val (.ref a1), .unset, .unset, .unset] [(.int c35.slots.size.toInt32)])) (fun _ k => X0.arraylength hx (by rw [e0]; exact Ar35.1) (State.isArrayOf_alike hZ.alike Ar35.2.1) (g := (mkF m 3 #[.val (.ref a1), .val (.ref a1), .unset, .unset, .unset] [(.ref a1)])) rfl rfl (hb hby d5_3) _ k) ?_
  rw [len_of S35 M35]
  refine Rch.go (U' := s₁.setTop (mkF m 5 #[.val (.ref a1), .val (.ref a1), .val (.int (4 : Int32)), .unset, .unset] [])) (fun _ k => XS.istoreN X0.here hx rfl (hb hby d5_4) rfl (l' := #[.val (.ref a1), .val (.ref a1), .val (.int (4 : Int32)), .unset, .unset]) rfl k) ?_
  refine Rch.go (U' := s₁.setTop (mkF m 6 #[.val (.ref a1), .val (.ref a1), .val (.int (4 : Int32)), .unset, .unset] [(.int (0 : Int32))])) (fun _ k => XS.iconst X0.here hx rfl (hb hby d5_5) k) ?_
  refine Rch.go (U' := s₁.setTop (mkF m 7 #[.val (.ref a1), .val (.ref a1), .val (.int (4 : Int32)), .val (.int (0 : Int32)), .unset] [])) (fun _ k => XS.istoreN X0.here hx rfl (hb hby d5_6) rfl (l' := #[.val (.ref a1), .val (.ref a1), .val (.int (4 : Int32)), .val (.int (0 : Int32)), .unset]) rfl k) ?_
  refine Rch.go (U' := s₁.setTop (mkF m 8 #[.val (.ref a1), .val (.ref a1), .val (.int (4 : Int32)), .val (.int (0 : Int32)), .unset] [(.int (0 : Int32))])) (fun _ k => XS.iloadN X0.here hx rfl (hb hby d5_7) rfl  k) ?_
  refine Rch.go (U' := s₁.setTop (mkF m 9 #[.val (.ref a1), .val (.ref a1), .val (.int (4 : Int32)), .val (.int (0 : Int32)), .unset] [(.int (4 : Int32)), (.int (0 : Int32))])) (fun _ k => XS.iloadN X0.here hx rfl (hb hby d5_8) rfl  k) ?_
  have br36 : (0 : Int32) < (4 : Int32) := (by decide)
  refine Rch.go (U' := s₁.setTop (mkF m 12 #[.val (.ref a1), .val (.ref a1), .val (.int (4 : Int32)), .val (.int (0 : Int32)), .unset] [])) (fun _ k => XS.icmpNo X0.here hx rfl (hb hby d5_9) rfl (XT.ii_ge_f br36) k) ?_
  refine Rch.go (U' := s₁.setTop (mkF m 13 #[.val (.ref a1), .val (.ref a1), .val (.int (4 : Int32)), .val (.int (0 : Int32)), .unset] [(.ref a1)])) (fun _ k => XS.aloadN X0.here hx rfl (hb hby d5_12) rfl rfl k) ?_
  refine Rch.go (U' := s₁.setTop (mkF m 14 #[.val (.ref a1), .val (.ref a1), .val (.int (4 : Int32)), .val (.int (0 : Int32)), .unset] [(.int (0 : Int32)), (.ref a1)])) (fun _ k => XS.iloadN X0.here hx rfl (hb hby d5_13) rfl  k) ?_
  obtain ⟨c37, Ar37, q37, S37, M37, Hs37, G37⟩ := id V_a1
  have i37 : ¬ ((0 : Int32) < 0 ∨ c37.slots.size ≤ ((0 : Int32)).toNatClampNeg) := inb_of S37 ⟨by decide, by decide⟩
  have a37 : c37.slots[((0 : Int32)).toNatClampNeg]? = some (.int b0) := Has.at Hs37 i37 rfl
  refine Rch.go (U' := s₁.setTop (mkF m 15 #[.val (.ref a1), .val (.ref a1), .val (.int (4 : Int32)), .val (.int (0 : Int32)), .unset] [(.int b0)])) (fun _ k => X0.baloadBytes hx (j := (0 : Int32)) (v := (.int b0)) (by rw [e0]; exact Ar37.1) (State.isArrayOf_alike hZ.alike Ar37.2.1) Ar37.2.2 i37 a37 (g := (mkF m 14 #[.val (.ref a1), .val (.ref a1), .val (.int (4 : Int32)), .val (.int (0 : Int32)), .unset] [(.int (0 : Int32)), (.ref a1)])) rfl rfl (hb hby d5_14) _ k) ?_
  refine Rch.go (U' := s₁.setTop (mkF m 17 #[.val (.ref a1), .val (.ref a1), .val (.int (4 : Int32)), .val (.int (0 : Int32)), .val (.int b0)] [])) (fun _ k => XS.istore X0.here hx rfl (hb hby d5_15) rfl (l' := #[.val (.ref a1), .val (.ref a1), .val (.int (4 : Int32)), .val (.int (0 : Int32)), .val (.int b0)]) rfl k) ?_
  refine Rch.go (U' := s₁.setTop (mkF m 19 #[.val (.ref a1), .val (.ref a1), .val (.int (4 : Int32)), .val (.int (0 : Int32)), .val (.int b0)] [(.int b0)])) (fun _ k => XS.iload X0.here hx rfl (hb hby d5_17) rfl  k) ?_
  refine Rch.go (U' := s₁.setTop (mkF m 21 #[.val (.ref a1), .val (.ref a1), .val (.int (4 : Int32)), .val (.int (0 : Int32)), .val (.int b0)] [(.int (32 : Int32)), (.int b0)])) (fun _ k => XS.bipush X0.here hx rfl (hb hby d5_19) k) ?_
  by_cases br38 : (32 : Int32) < b0
  ·
    refine Rch.go (U' := s₁.setTop (mkF m 24 #[.val (.ref a1), .val (.ref a1), .val (.int (4 : Int32)), .val (.int (0 : Int32)), .val (.int b0)] [])) (fun _ k => XS.icmpNo X0.here hx rfl (hb hby d5_21) rfl (XT.ii_le_f br38) k) ?_
    refine Rch.go (U' := s₁.setTop (mkF m 26 #[.val (.ref a1), .val (.ref a1), .val (.int (4 : Int32)), .val (.int (0 : Int32)), .val (.int b0)] [(.int b0)])) (fun _ k => XS.iload X0.here hx rfl (hb hby d5_24) rfl  k) ?_
    refine Rch.go (U' := s₁.setTop (mkF m 28 #[.val (.ref a1), .val (.ref a1), .val (.int (4 : Int32)), .val (.int (0 : Int32)), .val (.int b0)] [(.int (127 : Int32)), (.int b0)])) (fun _ k => XS.bipush X0.here hx rfl (hb hby d5_26) k) ?_
    by_cases br39 : b0 < (127 : Int32)
    ·
      refine Rch.go (U' := s₁.setTop (mkF m 33 #[.val (.ref a1), .val (.ref a1), .val (.int (4 : Int32)), .val (.int (0 : Int32)), .val (.int b0)] [])) (fun _ k => XS.icmpYes X0.here hx rfl (pc0 := 28) (pc' := 33) rfl (hb hby d5_28) rfl (XT.ii_lt_t br39) (by decide) (by decide) k) ?_
      refine Rch.go (U' := s₁.setTop (mkF m 36 #[.val (.ref a1), .val (.ref a1), .val (.int (4 : Int32)), .val (.int ((0 : Int32) + (1 : Int32))), .val (.int b0)] [])) (fun _ k => XS.iinc X0.here hx rfl (hb hby d5_33) rfl (l' := #[.val (.ref a1), .val (.ref a1), .val (.int (4 : Int32)), .val (.int ((0 : Int32) + (1 : Int32))), .val (.int b0)]) rfl k) ?_
      rw [(by decide : ((0 : Int32) + (1 : Int32)) = (1 : Int32))]
      refine Rch.go (U' := s₁.setTop (mkF m 7 #[.val (.ref a1), .val (.ref a1), .val (.int (4 : Int32)), .val (.int (1 : Int32)), .val (.int b0)] [])) (fun _ k => XS.goto X0.here hx rfl (pc0 := 36) (pc' := 7) rfl (hb hby d5_36) (by decide) (by decide) k) ?_
      refine Rch.go (U' := s₁.setTop (mkF m 8 #[.val (.ref a1), .val (.ref a1), .val (.int (4 : Int32)), .val (.int (1 : Int32)), .val (.int b0)] [(.int (1 : Int32))])) (fun _ k => XS.iloadN X0.here hx rfl (hb hby d5_7) rfl  k) ?_
      refine Rch.go (U' := s₁.setTop (mkF m 9 #[.val (.ref a1), .val (.ref a1), .val (.int (4 : Int32)), .val (.int (1 : Int32)), .val (.int b0)] [(.int (4 : Int32)), (.int (1 : Int32))])) (fun _ k => XS.iloadN X0.here hx rfl (hb hby d5_8) rfl  k) ?_
      have br40 : (1 : Int32) < (4 : Int32) := (by decide)
      refine Rch.go (U' := s₁.setTop (mkF m 12 #[.val (.ref a1), .val (.ref a1), .val (.int (4 : Int32)), .val (.int (1 : Int32)), .val (.int b0)] [])) (fun _ k => XS.icmpNo X0.here hx rfl (hb hby d5_9) rfl (XT.ii_ge_f br40) k) ?_
      refine Rch.go (U' := s₁.setTop (mkF m 13 #[.val (.ref a1), .val (.ref a1), .val (.int (4 : Int32)), .val (.int (1 : Int32)), .val (.int b0)] [(.ref a1)])) (fun _ k => XS.aloadN X0.here hx rfl (hb hby d5_12) rfl rfl k) ?_
      refine Rch.go (U' := s₁.setTop (mkF m 14 #[.val (.ref a1), .val (.ref a1), .val (.int (4 : Int32)), .val (.int (1 : Int32)), .val (.int b0)] [(.int (1 : Int32)), (.ref a1)])) (fun _ k => XS.iloadN X0.here hx rfl (hb hby d5_13) rfl  k) ?_
      obtain ⟨c41, Ar41, q41, S41, M41, Hs41, G41⟩ := id V_a1
      have i41 : ¬ ((1 : Int32) < 0 ∨ c41.slots.size ≤ ((1 : Int32)).toNatClampNeg) := inb_of S41 ⟨by decide, by decide⟩
      have a41 : c41.slots[((1 : Int32)).toNatClampNeg]? = some (.int b1) := Has.at Hs41 i41 rfl
      refine Rch.go (U' := s₁.setTop (mkF m 15 #[.val (.ref a1), .val (.ref a1), .val (.int (4 : Int32)), .val (.int (1 : Int32)), .val (.int b0)] [(.int b1)])) (fun _ k => X0.baloadBytes hx (j := (1 : Int32)) (v := (.int b1)) (by rw [e0]; exact Ar41.1) (State.isArrayOf_alike hZ.alike Ar41.2.1) Ar41.2.2 i41 a41 (g := (mkF m 14 #[.val (.ref a1), .val (.ref a1), .val (.int (4 : Int32)), .val (.int (1 : Int32)), .val (.int b0)] [(.int (1 : Int32)), (.ref a1)])) rfl rfl (hb hby d5_14) _ k) ?_
      refine Rch.go (U' := s₁.setTop (mkF m 17 #[.val (.ref a1), .val (.ref a1), .val (.int (4 : Int32)), .val (.int (1 : Int32)), .val (.int b1)] [])) (fun _ k => XS.istore X0.here hx rfl (hb hby d5_15) rfl (l' := #[.val (.ref a1), .val (.ref a1), .val (.int (4 : Int32)), .val (.int (1 : Int32)), .val (.int b1)]) rfl k) ?_
      refine Rch.go (U' := s₁.setTop (mkF m 19 #[.val (.ref a1), .val (.ref a1), .val (.int (4 : Int32)), .val (.int (1 : Int32)), .val (.int b1)] [(.int b1)])) (fun _ k => XS.iload X0.here hx rfl (hb hby d5_17) rfl  k) ?_
      refine Rch.go (U' := s₁.setTop (mkF m 21 #[.val (.ref a1), .val (.ref a1), .val (.int (4 : Int32)), .val (.int (1 : Int32)), .val (.int b1)] [(.int (32 : Int32)), (.int b1)])) (fun _ k => XS.bipush X0.here hx rfl (hb hby d5_19) k) ?_
      by_cases br42 : (32 : Int32) < b1
      ·
        refine Rch.go (U' := s₁.setTop (mkF m 24 #[.val (.ref a1), .val (.ref a1), .val (.int (4 : Int32)), .val (.int (1 : Int32)), .val (.int b1)] [])) (fun _ k => XS.icmpNo X0.here hx rfl (hb hby d5_21) rfl (XT.ii_le_f br42) k) ?_
        refine Rch.go (U' := s₁.setTop (mkF m 26 #[.val (.ref a1), .val (.ref a1), .val (.int (4 : Int32)), .val (.int (1 : Int32)), .val (.int b1)] [(.int b1)])) (fun _ k => XS.iload X0.here hx rfl (hb hby d5_24) rfl  k) ?_
        refine Rch.go (U' := s₁.setTop (mkF m 28 #[.val (.ref a1), .val (.ref a1), .val (.int (4 : Int32)), .val (.int (1 : Int32)), .val (.int b1)] [(.int (127 : Int32)), (.int b1)])) (fun _ k => XS.bipush X0.here hx rfl (hb hby d5_26) k) ?_
        by_cases br43 : b1 < (127 : Int32)
        ·
          refine Rch.go (U' := s₁.setTop (mkF m 33 #[.val (.ref a1), .val (.ref a1), .val (.int (4 : Int32)), .val (.int (1 : Int32)), .val (.int b1)] [])) (fun _ k => XS.icmpYes X0.here hx rfl (pc0 := 28) (pc' := 33) rfl (hb hby d5_28) rfl (XT.ii_lt_t br43) (by decide) (by decide) k) ?_
          refine Rch.go (U' := s₁.setTop (mkF m 36 #[.val (.ref a1), .val (.ref a1), .val (.int (4 : Int32)), .val (.int ((1 : Int32) + (1 : Int32))), .val (.int b1)] [])) (fun _ k => XS.iinc X0.here hx rfl (hb hby d5_33) rfl (l' := #[.val (.ref a1), .val (.ref a1), .val (.int (4 : Int32)), .val (.int ((1 : Int32) + (1 : Int32))), .val (.int b1)]) rfl k) ?_
          rw [(by decide : ((1 : Int32) + (1 : Int32)) = (2 : Int32))]
          refine Rch.go (U' := s₁.setTop (mkF m 7 #[.val (.ref a1), .val (.ref a1), .val (.int (4 : Int32)), .val (.int (2 : Int32)), .val (.int b1)] [])) (fun _ k => XS.goto X0.here hx rfl (pc0 := 36) (pc' := 7) rfl (hb hby d5_36) (by decide) (by decide) k) ?_
          refine Rch.go (U' := s₁.setTop (mkF m 8 #[.val (.ref a1), .val (.ref a1), .val (.int (4 : Int32)), .val (.int (2 : Int32)), .val (.int b1)] [(.int (2 : Int32))])) (fun _ k => XS.iloadN X0.here hx rfl (hb hby d5_7) rfl  k) ?_
          refine Rch.go (U' := s₁.setTop (mkF m 9 #[.val (.ref a1), .val (.ref a1), .val (.int (4 : Int32)), .val (.int (2 : Int32)), .val (.int b1)] [(.int (4 : Int32)), (.int (2 : Int32))])) (fun _ k => XS.iloadN X0.here hx rfl (hb hby d5_8) rfl  k) ?_
          have br44 : (2 : Int32) < (4 : Int32) := (by decide)
          refine Rch.go (U' := s₁.setTop (mkF m 12 #[.val (.ref a1), .val (.ref a1), .val (.int (4 : Int32)), .val (.int (2 : Int32)), .val (.int b1)] [])) (fun _ k => XS.icmpNo X0.here hx rfl (hb hby d5_9) rfl (XT.ii_ge_f br44) k) ?_
          refine Rch.go (U' := s₁.setTop (mkF m 13 #[.val (.ref a1), .val (.ref a1), .val (.int (4 : Int32)), .val (.int (2 : Int32)), .val (.int b1)] [(.ref a1)])) (fun _ k => XS.aloadN X0.here hx rfl (hb hby d5_12) rfl rfl k) ?_
          refine Rch.go (U' := s₁.setTop (mkF m 14 #[.val (.ref a1), .val (.ref a1), .val (.int (4 : Int32)), .val (.int (2 : Int32)), .val (.int b1)] [(.int (2 : Int32)), (.ref a1)])) (fun _ k => XS.iloadN X0.here hx rfl (hb hby d5_13) rfl  k) ?_
          obtain ⟨c45, Ar45, q45, S45, M45, Hs45, G45⟩ := id V_a1
          have i45 : ¬ ((2 : Int32) < 0 ∨ c45.slots.size ≤ ((2 : Int32)).toNatClampNeg) := inb_of S45 ⟨by decide, by decide⟩
          have a45 : c45.slots[((2 : Int32)).toNatClampNeg]? = some (.int b2) := Has.at Hs45 i45 rfl
          refine Rch.go (U' := s₁.setTop (mkF m 15 #[.val (.ref a1), .val (.ref a1), .val (.int (4 : Int32)), .val (.int (2 : Int32)), .val (.int b1)] [(.int b2)])) (fun _ k => X0.baloadBytes hx (j := (2 : Int32)) (v := (.int b2)) (by rw [e0]; exact Ar45.1) (State.isArrayOf_alike hZ.alike Ar45.2.1) Ar45.2.2 i45 a45 (g := (mkF m 14 #[.val (.ref a1), .val (.ref a1), .val (.int (4 : Int32)), .val (.int (2 : Int32)), .val (.int b1)] [(.int (2 : Int32)), (.ref a1)])) rfl rfl (hb hby d5_14) _ k) ?_
          refine Rch.go (U' := s₁.setTop (mkF m 17 #[.val (.ref a1), .val (.ref a1), .val (.int (4 : Int32)), .val (.int (2 : Int32)), .val (.int b2)] [])) (fun _ k => XS.istore X0.here hx rfl (hb hby d5_15) rfl (l' := #[.val (.ref a1), .val (.ref a1), .val (.int (4 : Int32)), .val (.int (2 : Int32)), .val (.int b2)]) rfl k) ?_
          refine Rch.go (U' := s₁.setTop (mkF m 19 #[.val (.ref a1), .val (.ref a1), .val (.int (4 : Int32)), .val (.int (2 : Int32)), .val (.int b2)] [(.int b2)])) (fun _ k => XS.iload X0.here hx rfl (hb hby d5_17) rfl  k) ?_
          refine Rch.go (U' := s₁.setTop (mkF m 21 #[.val (.ref a1), .val (.ref a1), .val (.int (4 : Int32)), .val (.int (2 : Int32)), .val (.int b2)] [(.int (32 : Int32)), (.int b2)])) (fun _ k => XS.bipush X0.here hx rfl (hb hby d5_19) k) ?_
          by_cases br46 : (32 : Int32) < b2
          ·
            refine Rch.go (U' := s₁.setTop (mkF m 24 #[.val (.ref a1), .val (.ref a1), .val (.int (4 : Int32)), .val (.int (2 : Int32)), .val (.int b2)] [])) (fun _ k => XS.icmpNo X0.here hx rfl (hb hby d5_21) rfl (XT.ii_le_f br46) k) ?_
            refine Rch.go (U' := s₁.setTop (mkF m 26 #[.val (.ref a1), .val (.ref a1), .val (.int (4 : Int32)), .val (.int (2 : Int32)), .val (.int b2)] [(.int b2)])) (fun _ k => XS.iload X0.here hx rfl (hb hby d5_24) rfl  k) ?_
            refine Rch.go (U' := s₁.setTop (mkF m 28 #[.val (.ref a1), .val (.ref a1), .val (.int (4 : Int32)), .val (.int (2 : Int32)), .val (.int b2)] [(.int (127 : Int32)), (.int b2)])) (fun _ k => XS.bipush X0.here hx rfl (hb hby d5_26) k) ?_
            by_cases br47 : b2 < (127 : Int32)
            ·
              refine Rch.go (U' := s₁.setTop (mkF m 33 #[.val (.ref a1), .val (.ref a1), .val (.int (4 : Int32)), .val (.int (2 : Int32)), .val (.int b2)] [])) (fun _ k => XS.icmpYes X0.here hx rfl (pc0 := 28) (pc' := 33) rfl (hb hby d5_28) rfl (XT.ii_lt_t br47) (by decide) (by decide) k) ?_
              refine Rch.go (U' := s₁.setTop (mkF m 36 #[.val (.ref a1), .val (.ref a1), .val (.int (4 : Int32)), .val (.int ((2 : Int32) + (1 : Int32))), .val (.int b2)] [])) (fun _ k => XS.iinc X0.here hx rfl (hb hby d5_33) rfl (l' := #[.val (.ref a1), .val (.ref a1), .val (.int (4 : Int32)), .val (.int ((2 : Int32) + (1 : Int32))), .val (.int b2)]) rfl k) ?_
              rw [(by decide : ((2 : Int32) + (1 : Int32)) = (3 : Int32))]
              refine Rch.go (U' := s₁.setTop (mkF m 7 #[.val (.ref a1), .val (.ref a1), .val (.int (4 : Int32)), .val (.int (3 : Int32)), .val (.int b2)] [])) (fun _ k => XS.goto X0.here hx rfl (pc0 := 36) (pc' := 7) rfl (hb hby d5_36) (by decide) (by decide) k) ?_
              refine Rch.go (U' := s₁.setTop (mkF m 8 #[.val (.ref a1), .val (.ref a1), .val (.int (4 : Int32)), .val (.int (3 : Int32)), .val (.int b2)] [(.int (3 : Int32))])) (fun _ k => XS.iloadN X0.here hx rfl (hb hby d5_7) rfl  k) ?_
              refine Rch.go (U' := s₁.setTop (mkF m 9 #[.val (.ref a1), .val (.ref a1), .val (.int (4 : Int32)), .val (.int (3 : Int32)), .val (.int b2)] [(.int (4 : Int32)), (.int (3 : Int32))])) (fun _ k => XS.iloadN X0.here hx rfl (hb hby d5_8) rfl  k) ?_
              have br48 : (3 : Int32) < (4 : Int32) := (by decide)
              refine Rch.go (U' := s₁.setTop (mkF m 12 #[.val (.ref a1), .val (.ref a1), .val (.int (4 : Int32)), .val (.int (3 : Int32)), .val (.int b2)] [])) (fun _ k => XS.icmpNo X0.here hx rfl (hb hby d5_9) rfl (XT.ii_ge_f br48) k) ?_
              refine Rch.go (U' := s₁.setTop (mkF m 13 #[.val (.ref a1), .val (.ref a1), .val (.int (4 : Int32)), .val (.int (3 : Int32)), .val (.int b2)] [(.ref a1)])) (fun _ k => XS.aloadN X0.here hx rfl (hb hby d5_12) rfl rfl k) ?_
              refine Rch.go (U' := s₁.setTop (mkF m 14 #[.val (.ref a1), .val (.ref a1), .val (.int (4 : Int32)), .val (.int (3 : Int32)), .val (.int b2)] [(.int (3 : Int32)), (.ref a1)])) (fun _ k => XS.iloadN X0.here hx rfl (hb hby d5_13) rfl  k) ?_
              obtain ⟨c49, Ar49, q49, S49, M49, Hs49, G49⟩ := id V_a1
              have i49 : ¬ ((3 : Int32) < 0 ∨ c49.slots.size ≤ ((3 : Int32)).toNatClampNeg) := inb_of S49 ⟨by decide, by decide⟩
              have a49 : c49.slots[((3 : Int32)).toNatClampNeg]? = some (.int b3) := Has.at Hs49 i49 rfl
              refine Rch.go (U' := s₁.setTop (mkF m 15 #[.val (.ref a1), .val (.ref a1), .val (.int (4 : Int32)), .val (.int (3 : Int32)), .val (.int b2)] [(.int b3)])) (fun _ k => X0.baloadBytes hx (j := (3 : Int32)) (v := (.int b3)) (by rw [e0]; exact Ar49.1) (State.isArrayOf_alike hZ.alike Ar49.2.1) Ar49.2.2 i49 a49 (g := (mkF m 14 #[.val (.ref a1), .val (.ref a1), .val (.int (4 : Int32)), .val (.int (3 : Int32)), .val (.int b2)] [(.int (3 : Int32)), (.ref a1)])) rfl rfl (hb hby d5_14) _ k) ?_
              refine Rch.go (U' := s₁.setTop (mkF m 17 #[.val (.ref a1), .val (.ref a1), .val (.int (4 : Int32)), .val (.int (3 : Int32)), .val (.int b3)] [])) (fun _ k => XS.istore X0.here hx rfl (hb hby d5_15) rfl (l' := #[.val (.ref a1), .val (.ref a1), .val (.int (4 : Int32)), .val (.int (3 : Int32)), .val (.int b3)]) rfl k) ?_
              refine Rch.go (U' := s₁.setTop (mkF m 19 #[.val (.ref a1), .val (.ref a1), .val (.int (4 : Int32)), .val (.int (3 : Int32)), .val (.int b3)] [(.int b3)])) (fun _ k => XS.iload X0.here hx rfl (hb hby d5_17) rfl  k) ?_
              refine Rch.go (U' := s₁.setTop (mkF m 21 #[.val (.ref a1), .val (.ref a1), .val (.int (4 : Int32)), .val (.int (3 : Int32)), .val (.int b3)] [(.int (32 : Int32)), (.int b3)])) (fun _ k => XS.bipush X0.here hx rfl (hb hby d5_19) k) ?_
              by_cases br50 : (32 : Int32) < b3
              ·
                refine Rch.go (U' := s₁.setTop (mkF m 24 #[.val (.ref a1), .val (.ref a1), .val (.int (4 : Int32)), .val (.int (3 : Int32)), .val (.int b3)] [])) (fun _ k => XS.icmpNo X0.here hx rfl (hb hby d5_21) rfl (XT.ii_le_f br50) k) ?_
                refine Rch.go (U' := s₁.setTop (mkF m 26 #[.val (.ref a1), .val (.ref a1), .val (.int (4 : Int32)), .val (.int (3 : Int32)), .val (.int b3)] [(.int b3)])) (fun _ k => XS.iload X0.here hx rfl (hb hby d5_24) rfl  k) ?_
                refine Rch.go (U' := s₁.setTop (mkF m 28 #[.val (.ref a1), .val (.ref a1), .val (.int (4 : Int32)), .val (.int (3 : Int32)), .val (.int b3)] [(.int (127 : Int32)), (.int b3)])) (fun _ k => XS.bipush X0.here hx rfl (hb hby d5_26) k) ?_
                by_cases br51 : b3 < (127 : Int32)
                ·
                  refine Rch.go (U' := s₁.setTop (mkF m 33 #[.val (.ref a1), .val (.ref a1), .val (.int (4 : Int32)), .val (.int (3 : Int32)), .val (.int b3)] [])) (fun _ k => XS.icmpYes X0.here hx rfl (pc0 := 28) (pc' := 33) rfl (hb hby d5_28) rfl (XT.ii_lt_t br51) (by decide) (by decide) k) ?_
                  refine Rch.go (U' := s₁.setTop (mkF m 36 #[.val (.ref a1), .val (.ref a1), .val (.int (4 : Int32)), .val (.int ((3 : Int32) + (1 : Int32))), .val (.int b3)] [])) (fun _ k => XS.iinc X0.here hx rfl (hb hby d5_33) rfl (l' := #[.val (.ref a1), .val (.ref a1), .val (.int (4 : Int32)), .val (.int ((3 : Int32) + (1 : Int32))), .val (.int b3)]) rfl k) ?_
                  rw [(by decide : ((3 : Int32) + (1 : Int32)) = (4 : Int32))]
                  refine Rch.go (U' := s₁.setTop (mkF m 7 #[.val (.ref a1), .val (.ref a1), .val (.int (4 : Int32)), .val (.int (4 : Int32)), .val (.int b3)] [])) (fun _ k => XS.goto X0.here hx rfl (pc0 := 36) (pc' := 7) rfl (hb hby d5_36) (by decide) (by decide) k) ?_
                  refine Rch.go (U' := s₁.setTop (mkF m 8 #[.val (.ref a1), .val (.ref a1), .val (.int (4 : Int32)), .val (.int (4 : Int32)), .val (.int b3)] [(.int (4 : Int32))])) (fun _ k => XS.iloadN X0.here hx rfl (hb hby d5_7) rfl  k) ?_
                  refine Rch.go (U' := s₁.setTop (mkF m 9 #[.val (.ref a1), .val (.ref a1), .val (.int (4 : Int32)), .val (.int (4 : Int32)), .val (.int b3)] [(.int (4 : Int32)), (.int (4 : Int32))])) (fun _ k => XS.iloadN X0.here hx rfl (hb hby d5_8) rfl  k) ?_
                  have br52 : ¬ ((4 : Int32) < (4 : Int32)) := (by decide)
                  refine Rch.go (U' := s₁.setTop (mkF m 39 #[.val (.ref a1), .val (.ref a1), .val (.int (4 : Int32)), .val (.int (4 : Int32)), .val (.int b3)] [])) (fun _ k => XS.icmpYes X0.here hx rfl (pc0 := 9) (pc' := 39) rfl (hb hby d5_9) rfl (XT.ii_ge_t br52) (by decide) (by decide) k) ?_
                  refine Rch.go (U' := s₁.setTop (mkF m 40 #[.val (.ref a1), .val (.ref a1), .val (.int (4 : Int32)), .val (.int (4 : Int32)), .val (.int b3)] [(.int (1 : Int32))])) (fun _ k => XS.iconst X0.here hx rfl (hb hby d5_39) k) ?_
                  refine Rch.fin X0 hlk (v := some (.int (nar .boolean (1 : Int32)))) (fun h => by rw [hret] at h; cases h) e0 (by decide) (by decide) (fun fs hr => retN X0 hx (t := .boolean) hret (by simp) (hb hby d5_40) hr) ?_
                  exact ⟨by simp only [own_chk, br38, br39, br42, br43, br46, br47, br50, br51, nar_1, nar_0, ↓reduceIte], N0, rfl⟩
                ·
                  refine Rch.go (U' := s₁.setTop (mkF m 31 #[.val (.ref a1), .val (.ref a1), .val (.int (4 : Int32)), .val (.int (3 : Int32)), .val (.int b3)] [])) (fun _ k => XS.icmpNo X0.here hx rfl (hb hby d5_28) rfl (XT.ii_lt_f br51) k) ?_
                  refine Rch.go (U' := s₁.setTop (mkF m 32 #[.val (.ref a1), .val (.ref a1), .val (.int (4 : Int32)), .val (.int (3 : Int32)), .val (.int b3)] [(.int (0 : Int32))])) (fun _ k => XS.iconst X0.here hx rfl (hb hby d5_31) k) ?_
                  refine Rch.fin X0 hlk (v := some (.int (nar .boolean (0 : Int32)))) (fun h => by rw [hret] at h; cases h) e0 (by decide) (by decide) (fun fs hr => retN X0 hx (t := .boolean) hret (by simp) (hb hby d5_32) hr) ?_
                  exact ⟨by simp only [own_chk, br38, br39, br42, br43, br46, br47, br50, br51, nar_1, nar_0, ↓reduceIte], N0, rfl⟩
              ·
                refine Rch.go (U' := s₁.setTop (mkF m 31 #[.val (.ref a1), .val (.ref a1), .val (.int (4 : Int32)), .val (.int (3 : Int32)), .val (.int b3)] [])) (fun _ k => XS.icmpYes X0.here hx rfl (pc0 := 21) (pc' := 31) rfl (hb hby d5_21) rfl (XT.ii_le_t br50) (by decide) (by decide) k) ?_
                refine Rch.go (U' := s₁.setTop (mkF m 32 #[.val (.ref a1), .val (.ref a1), .val (.int (4 : Int32)), .val (.int (3 : Int32)), .val (.int b3)] [(.int (0 : Int32))])) (fun _ k => XS.iconst X0.here hx rfl (hb hby d5_31) k) ?_
                refine Rch.fin X0 hlk (v := some (.int (nar .boolean (0 : Int32)))) (fun h => by rw [hret] at h; cases h) e0 (by decide) (by decide) (fun fs hr => retN X0 hx (t := .boolean) hret (by simp) (hb hby d5_32) hr) ?_
                exact ⟨by simp only [own_chk, br38, br39, br42, br43, br46, br47, br50, nar_1, nar_0, ↓reduceIte], N0, rfl⟩
            ·
              refine Rch.go (U' := s₁.setTop (mkF m 31 #[.val (.ref a1), .val (.ref a1), .val (.int (4 : Int32)), .val (.int (2 : Int32)), .val (.int b2)] [])) (fun _ k => XS.icmpNo X0.here hx rfl (hb hby d5_28) rfl (XT.ii_lt_f br47) k) ?_
              refine Rch.go (U' := s₁.setTop (mkF m 32 #[.val (.ref a1), .val (.ref a1), .val (.int (4 : Int32)), .val (.int (2 : Int32)), .val (.int b2)] [(.int (0 : Int32))])) (fun _ k => XS.iconst X0.here hx rfl (hb hby d5_31) k) ?_
              refine Rch.fin X0 hlk (v := some (.int (nar .boolean (0 : Int32)))) (fun h => by rw [hret] at h; cases h) e0 (by decide) (by decide) (fun fs hr => retN X0 hx (t := .boolean) hret (by simp) (hb hby d5_32) hr) ?_
              exact ⟨by simp only [own_chk, br38, br39, br42, br43, br46, br47, nar_1, nar_0, ↓reduceIte], N0, rfl⟩
          ·
            refine Rch.go (U' := s₁.setTop (mkF m 31 #[.val (.ref a1), .val (.ref a1), .val (.int (4 : Int32)), .val (.int (2 : Int32)), .val (.int b2)] [])) (fun _ k => XS.icmpYes X0.here hx rfl (pc0 := 21) (pc' := 31) rfl (hb hby d5_21) rfl (XT.ii_le_t br46) (by decide) (by decide) k) ?_
            refine Rch.go (U' := s₁.setTop (mkF m 32 #[.val (.ref a1), .val (.ref a1), .val (.int (4 : Int32)), .val (.int (2 : Int32)), .val (.int b2)] [(.int (0 : Int32))])) (fun _ k => XS.iconst X0.here hx rfl (hb hby d5_31) k) ?_
            refine Rch.fin X0 hlk (v := some (.int (nar .boolean (0 : Int32)))) (fun h => by rw [hret] at h; cases h) e0 (by decide) (by decide) (fun fs hr => retN X0 hx (t := .boolean) hret (by simp) (hb hby d5_32) hr) ?_
            exact ⟨by simp only [own_chk, br38, br39, br42, br43, br46, nar_1, nar_0, ↓reduceIte], N0, rfl⟩
        ·
          refine Rch.go (U' := s₁.setTop (mkF m 31 #[.val (.ref a1), .val (.ref a1), .val (.int (4 : Int32)), .val (.int (1 : Int32)), .val (.int b1)] [])) (fun _ k => XS.icmpNo X0.here hx rfl (hb hby d5_28) rfl (XT.ii_lt_f br43) k) ?_
          refine Rch.go (U' := s₁.setTop (mkF m 32 #[.val (.ref a1), .val (.ref a1), .val (.int (4 : Int32)), .val (.int (1 : Int32)), .val (.int b1)] [(.int (0 : Int32))])) (fun _ k => XS.iconst X0.here hx rfl (hb hby d5_31) k) ?_
          refine Rch.fin X0 hlk (v := some (.int (nar .boolean (0 : Int32)))) (fun h => by rw [hret] at h; cases h) e0 (by decide) (by decide) (fun fs hr => retN X0 hx (t := .boolean) hret (by simp) (hb hby d5_32) hr) ?_
          exact ⟨by simp only [own_chk, br38, br39, br42, br43, nar_1, nar_0, ↓reduceIte], N0, rfl⟩
      ·
        refine Rch.go (U' := s₁.setTop (mkF m 31 #[.val (.ref a1), .val (.ref a1), .val (.int (4 : Int32)), .val (.int (1 : Int32)), .val (.int b1)] [])) (fun _ k => XS.icmpYes X0.here hx rfl (pc0 := 21) (pc' := 31) rfl (hb hby d5_21) rfl (XT.ii_le_t br42) (by decide) (by decide) k) ?_
        refine Rch.go (U' := s₁.setTop (mkF m 32 #[.val (.ref a1), .val (.ref a1), .val (.int (4 : Int32)), .val (.int (1 : Int32)), .val (.int b1)] [(.int (0 : Int32))])) (fun _ k => XS.iconst X0.here hx rfl (hb hby d5_31) k) ?_
        refine Rch.fin X0 hlk (v := some (.int (nar .boolean (0 : Int32)))) (fun h => by rw [hret] at h; cases h) e0 (by decide) (by decide) (fun fs hr => retN X0 hx (t := .boolean) hret (by simp) (hb hby d5_32) hr) ?_
        exact ⟨by simp only [own_chk, br38, br39, br42, nar_1, nar_0, ↓reduceIte], N0, rfl⟩
    ·
      refine Rch.go (U' := s₁.setTop (mkF m 31 #[.val (.ref a1), .val (.ref a1), .val (.int (4 : Int32)), .val (.int (0 : Int32)), .val (.int b0)] [])) (fun _ k => XS.icmpNo X0.here hx rfl (hb hby d5_28) rfl (XT.ii_lt_f br39) k) ?_
      refine Rch.go (U' := s₁.setTop (mkF m 32 #[.val (.ref a1), .val (.ref a1), .val (.int (4 : Int32)), .val (.int (0 : Int32)), .val (.int b0)] [(.int (0 : Int32))])) (fun _ k => XS.iconst X0.here hx rfl (hb hby d5_31) k) ?_
      refine Rch.fin X0 hlk (v := some (.int (nar .boolean (0 : Int32)))) (fun h => by rw [hret] at h; cases h) e0 (by decide) (by decide) (fun fs hr => retN X0 hx (t := .boolean) hret (by simp) (hb hby d5_32) hr) ?_
      exact ⟨by simp only [own_chk, br38, br39, nar_1, nar_0, ↓reduceIte], N0, rfl⟩
  ·
    refine Rch.go (U' := s₁.setTop (mkF m 31 #[.val (.ref a1), .val (.ref a1), .val (.int (4 : Int32)), .val (.int (0 : Int32)), .val (.int b0)] [])) (fun _ k => XS.icmpYes X0.here hx rfl (pc0 := 21) (pc' := 31) rfl (hb hby d5_21) rfl (XT.ii_le_t br38) (by decide) (by decide) k) ?_
    refine Rch.go (U' := s₁.setTop (mkF m 32 #[.val (.ref a1), .val (.ref a1), .val (.int (4 : Int32)), .val (.int (0 : Int32)), .val (.int b0)] [(.int (0 : Int32))])) (fun _ k => XS.iconst X0.here hx rfl (hb hby d5_31) k) ?_
    refine Rch.fin X0 hlk (v := some (.int (nar .boolean (0 : Int32)))) (fun h => by rw [hret] at h; cases h) e0 (by decide) (by decide) (fun fs hr => retN X0 hx (t := .boolean) hret (by simp) (hb hby d5_32) hr) ?_
    exact ⟨by simp only [own_chk, br38, nar_1, nar_0, ↓reduceIte], N0, rfl⟩
theorem pd_2 : parseMethodDescriptor "(B)Z" = some ⟨[.byte], some .boolean⟩ := by decide +kernel
theorem pd_3 : parseMethodDescriptor "([B)Z" = some ⟨[(.array .byte)], some .boolean⟩ := by decide +kernel
set_option maxRecDepth 65536 in
set_option maxHeartbeats 40000000 in
theorem cut25_0 {p : Program} {l : Launch} {e : Env} {s : State} {m : MethodId} {args : Array Value} {below : List Frame} {meth : Method} {c : Code} {T0 : State} {locs : List Loc} {Z : State} {a0 : Array Value} {h0 : Heap} {n0 : Nat}  (p1 : Int32) (p2 : Int32) (p3 : Int32) (p4 : Int32) (p5 : Int32) (c0 : Int32) (c1 : Int32) (c2 : Int32) (c3 : Int32)
    (X0 : Stand p l e room_1 s m args below meth c T0 locs 0 0) (hx : p.tables.exec = Jvm.exec) (hZ : Z.Warmed39 s.vm) (hw : ∀ d ∈ tables_1, d.before a0 Z = true) (hby : c.code = code) (hml : c.maxLocals = 12) (hown : s.vm.findClass "com/example/slotwise/slotwise/commands/ClientCommandsIsValidNamePinLaw" = some m.cls) (hret : meth.sig.returnType = some .boolean) (hlk : meth.locks = false) (e0 : T0.heap = h0) (N0 : Fr n0 locs) (Z0 : n0 ≤ h0.size) (nc0 : nar .byte c0 = c0) (nc1 : nar .byte c1 = c1) (nc2 : nar .byte c2 = c2) (nc3 : nar .byte c3 = c3) (r0 : -128 ≤ c0.toInt ∧ c0.toInt < 128) (r1 : -128 ≤ c1.toInt ∧ c1.toInt < 128) (r2 : -128 ≤ c2.toInt ∧ c2.toInt < 128) (r3 : -128 ≤ c3.toInt ∧ c3.toInt < 128) :
    Rch p e below (Fin s below (fun v h L => v = some (.int 1) ∧ Fr n0 L) 16 128) (T0.setTop (mkF m 25 #[.val (.int p1), .val (.int p2), .val (.int p3), .val (.int p4), .val (.int p5), .val (.int (0 : Int32)), .val (.int c0), .val (.int c1), .val (.int c2), .val (.int c3), .unset, .unset] [])) := by
  refine Rch.go (U' := T0.setTop (mkF m 27 #[.val (.int p1), .val (.int p2), .val (.int p3), .val (.int p4), .val (.int p5), .val (.int (0 : Int32)), .val (.int c0), .val (.int c1), .val (.int c2), .val (.int c3), .unset, .unset] [(.int (0 : Int32))])) (fun _ k => XS.iload X0.here hx rfl (hb hby at_25) rfl  k) ?_
  have br53 : (0 : Int32) = (0 : Int32) := (by decide)
  refine Rch.go (U' := T0.setTop (mkF m 30 #[.val (.int p1), .val (.int p2), .val (.int p3), .val (.int p4), .val (.int p5), .val (.int (0 : Int32)), .val (.int c0), .val (.int c1), .val (.int c2), .val (.int c3), .unset, .unset] [])) (fun _ k => XS.ifNo X0.here hx rfl (hb hby at_27) rfl (XT.i0_ne_f br53) k) ?_
  refine Rch.go (U' := T0.setTop (mkF m 31 #[.val (.int p1), .val (.int p2), .val (.int p3), .val (.int p4), .val (.int p5), .val (.int (0 : Int32)), .val (.int c0), .val (.int c1), .val (.int c2), .val (.int c3), .unset, .unset] [(.int (0 : Int32))])) (fun _ k => XS.iconst X0.here hx rfl (hb hby at_30) k) ?_
  obtain ⟨T54, h54, k54, X54, e54, E54, A54, st54⟩ := newP X0 hx hZ (wi hw 1 rfl) e0 (g := (mkF m 31 #[.val (.int p1), .val (.int p2), .val (.int p3), .val (.int p4), .val (.int p5), .val (.int (0 : Int32)), .val (.int c0), .val (.int c1), .val (.int c2), .val (.int c3), .unset, .unset] [(.int (0 : Int32))])) rfl (hb hby at_31) rfl (by decide) (cap := 0) (by decide) (by decide) (by decide) (by decide)
  obtain ⟨b54, g54⟩ : ∃ z, z = h0.size := ⟨_, rfl⟩
  rw [← g54] at A54 st54
  have n0b54 : n0 ≤ b54 := Nat.le_trans Z0 (Nat.le_of_eq g54.symm)
  have z55 := Nat.le_trans Z0 E54.1
  have V54 : Arv Z h54 b54 k54 .byte (0 : Int32) [] (.int (0 : Int32)) := Arv.new A54 (by decide)
  refine Rch.go (U' := T54.setTop (mkF m 33 #[.val (.int p1), .val (.int p2), .val (.int p3), .val (.int p4), .val (.int p5), .val (.int (0 : Int32)), .val (.int c0), .val (.int c1), .val (.int c2), .val (.int c3), .unset, .unset] [(.ref b54)])) st54 ?_
  refine Rch.go (U' := T54.setTop (mkF m 35 #[.val (.int p1), .val (.int p2), .val (.int p3), .val (.int p4), .val (.int p5), .val (.int (0 : Int32)), .val (.int c0), .val (.int c1), .val (.int c2), .val (.int c3), .val (.ref b54), .unset] [])) (fun _ k => XS.astore X54.here hx rfl (hb hby at_33) rfl rfl (l' := #[.val (.int p1), .val (.int p2), .val (.int p3), .val (.int p4), .val (.int p5), .val (.int (0 : Int32)), .val (.int c0), .val (.int c1), .val (.int c2), .val (.int c3), .val (.ref b54), .unset]) rfl k) ?_
  refine Rch.go (U' := T54.setTop (mkF m 135 #[.val (.int p1), .val (.int p2), .val (.int p3), .val (.int p4), .val (.int p5), .val (.int (0 : Int32)), .val (.int c0), .val (.int c1), .val (.int c2), .val (.int c3), .val (.ref b54), .unset] [])) (fun _ k => XS.goto X54.here hx rfl (pc0 := 35) (pc' := 135) rfl (hb hby at_35) (by decide) (by decide) k) ?_
  refine Rch.go (U' := T54.setTop (mkF m 137 #[.val (.int p1), .val (.int p2), .val (.int p3), .val (.int p4), .val (.int p5), .val (.int (0 : Int32)), .val (.int c0), .val (.int c1), .val (.int c2), .val (.int c3), .val (.ref b54), .unset] [(.int (0 : Int32))])) (fun _ k => XS.iload X54.here hx rfl (hb hby at_135) rfl  k) ?_
  refine Rch.go (U' := T54.setTop (mkF m 138 #[.val (.int p1), .val (.int p2), .val (.int p3), .val (.int p4), .val (.int p5), .val (.int (0 : Int32)), .val (.int c0), .val (.int c1), .val (.int c2), .val (.int c3), .val (.ref b54), .unset] [(.int (1 : Int32)), (.int (0 : Int32))])) (fun _ k => XS.iconst X54.here hx rfl (hb hby at_137) k) ?_
  have br56 : (0 : Int32) < (1 : Int32) := (by decide)
  refine Rch.go (U' := T54.setTop (mkF m 149 #[.val (.int p1), .val (.int p2), .val (.int p3), .val (.int p4), .val (.int p5), .val (.int (0 : Int32)), .val (.int c0), .val (.int c1), .val (.int c2), .val (.int c3), .val (.ref b54), .unset] [])) (fun _ k => XS.icmpYes X54.here hx rfl (pc0 := 138) (pc' := 149) rfl (hb hby at_138) rfl (XT.ii_lt_t br56) (by decide) (by decide) k) ?_
  refine Rch.go (U' := T54.setTop (mkF m 151 #[.val (.int p1), .val (.int p2), .val (.int p3), .val (.int p4), .val (.int p5), .val (.int (0 : Int32)), .val (.int c0), .val (.int c1), .val (.int c2), .val (.int c3), .val (.ref b54), .unset] [(.int (0 : Int32))])) (fun _ k => XS.iload X54.here hx rfl (hb hby at_149) rfl  k) ?_
  refine Rch.go (U' := T54.setTop (mkF m 152 #[.val (.int p1), .val (.int p2), .val (.int p3), .val (.int p4), .val (.int p5), .val (.int (0 : Int32)), .val (.int c0), .val (.int c1), .val (.int c2), .val (.int c3), .val (.ref b54), .unset] [(.int (2 : Int32)), (.int (0 : Int32))])) (fun _ k => XS.iconst X54.here hx rfl (hb hby at_151) k) ?_
  have br57 : (0 : Int32) < (2 : Int32) := (by decide)
  refine Rch.go (U' := T54.setTop (mkF m 163 #[.val (.int p1), .val (.int p2), .val (.int p3), .val (.int p4), .val (.int p5), .val (.int (0 : Int32)), .val (.int c0), .val (.int c1), .val (.int c2), .val (.int c3), .val (.ref b54), .unset] [])) (fun _ k => XS.icmpYes X54.here hx rfl (pc0 := 152) (pc' := 163) rfl (hb hby at_152) rfl (XT.ii_lt_t br57) (by decide) (by decide) k) ?_
  refine Rch.go (U' := T54.setTop (mkF m 165 #[.val (.int p1), .val (.int p2), .val (.int p3), .val (.int p4), .val (.int p5), .val (.int (0 : Int32)), .val (.int c0), .val (.int c1), .val (.int c2), .val (.int c3), .val (.ref b54), .unset] [(.int (0 : Int32))])) (fun _ k => XS.iload X54.here hx rfl (hb hby at_163) rfl  k) ?_
  refine Rch.go (U' := T54.setTop (mkF m 166 #[.val (.int p1), .val (.int p2), .val (.int p3), .val (.int p4), .val (.int p5), .val (.int (0 : Int32)), .val (.int c0), .val (.int c1), .val (.int c2), .val (.int c3), .val (.ref b54), .unset] [(.int (3 : Int32)), (.int (0 : Int32))])) (fun _ k => XS.iconst X54.here hx rfl (hb hby at_165) k) ?_
  have br58 : (0 : Int32) < (3 : Int32) := (by decide)
  refine Rch.go (U' := T54.setTop (mkF m 177 #[.val (.int p1), .val (.int p2), .val (.int p3), .val (.int p4), .val (.int p5), .val (.int (0 : Int32)), .val (.int c0), .val (.int c1), .val (.int c2), .val (.int c3), .val (.ref b54), .unset] [])) (fun _ k => XS.icmpYes X54.here hx rfl (pc0 := 166) (pc' := 177) rfl (hb hby at_166) rfl (XT.ii_lt_t br58) (by decide) (by decide) k) ?_
  refine Rch.go (U' := T54.setTop (mkF m 179 #[.val (.int p1), .val (.int p2), .val (.int p3), .val (.int p4), .val (.int p5), .val (.int (0 : Int32)), .val (.int c0), .val (.int c1), .val (.int c2), .val (.int c3), .val (.ref b54), .unset] [(.int (0 : Int32))])) (fun _ k => XS.iload X54.here hx rfl (hb hby at_177) rfl  k) ?_
  refine Rch.go (U' := T54.setTop (mkF m 180 #[.val (.int p1), .val (.int p2), .val (.int p3), .val (.int p4), .val (.int p5), .val (.int (0 : Int32)), .val (.int c0), .val (.int c1), .val (.int c2), .val (.int c3), .val (.ref b54), .unset] [(.int (4 : Int32)), (.int (0 : Int32))])) (fun _ k => XS.iconst X54.here hx rfl (hb hby at_179) k) ?_
  have br59 : (0 : Int32) < (4 : Int32) := (by decide)
  refine Rch.go (U' := T54.setTop (mkF m 191 #[.val (.int p1), .val (.int p2), .val (.int p3), .val (.int p4), .val (.int p5), .val (.int (0 : Int32)), .val (.int c0), .val (.int c1), .val (.int c2), .val (.int c3), .val (.ref b54), .unset] [])) (fun _ k => XS.icmpYes X54.here hx rfl (pc0 := 180) (pc' := 191) rfl (hb hby at_180) rfl (XT.ii_lt_t br59) (by decide) (by decide) k) ?_
  refine Rch.go (U' := T54.setTop (mkF m 192 #[.val (.int p1), .val (.int p2), .val (.int p3), .val (.int p4), .val (.int p5), .val (.int (0 : Int32)), .val (.int c0), .val (.int c1), .val (.int c2), .val (.int c3), .val (.ref b54), .unset] [(.int (1 : Int32))])) (fun _ k => XS.iconst X54.here hx rfl (hb hby at_191) k) ?_
  refine Rch.go (U' := T54.setTop (mkF m 196 #[.val (.int p1), .val (.int p2), .val (.int p3), .val (.int p4), .val (.int p5), .val (.int (0 : Int32)), .val (.int c0), .val (.int c1), .val (.int c2), .val (.int c3), .val (.ref b54), .unset] [(.int (1 : Int32))])) (fun _ k => XS.goto X54.here hx rfl (pc0 := 192) (pc' := 196) rfl (hb hby at_192) (by decide) (by decide) k) ?_
  refine Rch.go (U' := T54.setTop (mkF m 198 #[.val (.int p1), .val (.int p2), .val (.int p3), .val (.int p4), .val (.int p5), .val (.int (0 : Int32)), .val (.int c0), .val (.int c1), .val (.int c2), .val (.int c3), .val (.ref b54), .val (.int (1 : Int32))] [])) (fun _ k => XS.istore X54.here hx rfl (hb hby at_196) rfl (l' := #[.val (.int p1), .val (.int p2), .val (.int p3), .val (.int p4), .val (.int p5), .val (.int (0 : Int32)), .val (.int c0), .val (.int c1), .val (.int c2), .val (.int c3), .val (.ref b54), .val (.int (1 : Int32))]) rfl k) ?_
  refine Rch.go (U' := T54.setTop (mkF m 200 #[.val (.int p1), .val (.int p2), .val (.int p3), .val (.int p4), .val (.int p5), .val (.int (0 : Int32)), .val (.int c0), .val (.int c1), .val (.int c2), .val (.int c3), .val (.ref b54), .val (.int (1 : Int32))] [(.ref b54)])) (fun _ k => XS.aload X54.here hx rfl (hb hby at_198) rfl rfl k) ?_
  obtain ⟨_, _, ⟨T60, L60, k60, n60⟩, -, X60, ⟨Lc60, hQ60, l60, y60, z60⟩, st60⟩ := Jvm.LawKit.callS X54 hx (y := (⟨"com/example/slotwise/slotwise/commands/ClientCommands", "isValidName", "([B)Z"⟩ : MethodName)) hown (mvT hZ (wi hw 2 rfl)) (mvT hZ (wi hw 3 rfl)) (mvT hZ (wi hw 4 rfl)) (mvT hZ (wi hw 5 rfl)) (by decide) (backOf (W := 0) (rmV0 l Z a0 hw [] b54 k54 h54 n0 z55 V54) hZ (wi hw 5 rfl) (wi hw 4 rfl) (by decide) (by decide)) (g := (mkF m 200 #[.val (.int p1), .val (.int p2), .val (.int p3), .val (.int p4), .val (.int p5), .val (.int (0 : Int32)), .val (.int c0), .val (.int c1), .val (.int c2), .val (.int c3), .val (.ref b54), .val (.int (1 : Int32))] [(.ref b54)])) rfl (by rw [hml]; rfl) (argsL := [(.ref b54)]) (rest := []) (lenOf pd_3 rfl) rfl (by show 2 * 0 + _ ≤ _; exact Nat.le_of_eq rfl) (hb hby at_200) (fun _ _ => ⟨rfl, e54, (by decide : 1 + 0 ≤ _), (by decide : 0 + 0 ≤ _)⟩)
  dsimp only [Pt.U, Pt.locs, Pt.cells, Pt.slots] at X60 l60 y60 z60 st60 hQ60
  subst l60 y60 z60
  obtain ⟨rfl, N60q, e60⟩ := hQ60
  have N60 := Fr.app N0 N60q
  refine Rch.go (U' := T60.setTop (mkF m 203 #[.val (.int p1), .val (.int p2), .val (.int p3), .val (.int p4), .val (.int p5), .val (.int (0 : Int32)), .val (.int c0), .val (.int c1), .val (.int c2), .val (.int c3), .val (.ref b54), .val (.int (1 : Int32))] [(.int (own_chk []))])) st60 ?_
  refine Rch.go (U' := T60.setTop (mkF m 205 #[.val (.int p1), .val (.int p2), .val (.int p3), .val (.int p4), .val (.int p5), .val (.int (0 : Int32)), .val (.int c0), .val (.int c1), .val (.int c2), .val (.int c3), .val (.ref b54), .val (.int (1 : Int32))] [(.int (1 : Int32)), (.int (own_chk []))])) (fun _ k => XS.iload X60.here hx rfl (hb hby at_203) rfl  k) ?_
  have br61 : (own_chk []) = (1 : Int32) := rfl
  refine Rch.go (U' := T60.setTop (mkF m 208 #[.val (.int p1), .val (.int p2), .val (.int p3), .val (.int p4), .val (.int p5), .val (.int (0 : Int32)), .val (.int c0), .val (.int c1), .val (.int c2), .val (.int c3), .val (.ref b54), .val (.int (1 : Int32))] [])) (fun _ k => XS.icmpNo X60.here hx rfl (hb hby at_205) rfl (XT.ii_ne_f br61) k) ?_
  refine Rch.go (U' := T60.setTop (mkF m 209 #[.val (.int p1), .val (.int p2), .val (.int p3), .val (.int p4), .val (.int p5), .val (.int (0 : Int32)), .val (.int c0), .val (.int c1), .val (.int c2), .val (.int c3), .val (.ref b54), .val (.int (1 : Int32))] [(.int (1 : Int32))])) (fun _ k => XS.iconst X60.here hx rfl (hb hby at_208) k) ?_
  refine Rch.go (U' := T60.setTop (mkF m 213 #[.val (.int p1), .val (.int p2), .val (.int p3), .val (.int p4), .val (.int p5), .val (.int (0 : Int32)), .val (.int c0), .val (.int c1), .val (.int c2), .val (.int c3), .val (.ref b54), .val (.int (1 : Int32))] [(.int (1 : Int32))])) (fun _ k => XS.goto X60.here hx rfl (pc0 := 209) (pc' := 213) rfl (hb hby at_209) (by decide) (by decide) k) ?_
  refine Rch.fin X60 hlk (v := some (.int (nar .boolean (1 : Int32)))) (fun h => by rw [hret] at h; cases h) e60 (by decide) (by decide) (fun fs hr => retN X60 hx (t := .boolean) hret (by simp) (hb hby at_213) hr) ?_
  exact ⟨rfl, N60⟩
set_option maxRecDepth 65536 in
set_option maxHeartbeats 40000000 in
theorem cut25_1 {p : Program} {l : Launch} {e : Env} {s : State} {m : MethodId} {args : Array Value} {below : List Frame} {meth : Method} {c : Code} {T0 : State} {locs : List Loc} {Z : State} {a0 : Array Value} {h0 : Heap} {n0 : Nat}  (p1 : Int32) (p2 : Int32) (p3 : Int32) (p4 : Int32) (p5 : Int32) (c0 : Int32) (c1 : Int32) (c2 : Int32) (c3 : Int32)
    (X0 : Stand p l e room_1 s m args below meth c T0 locs 0 0) (hx : p.tables.exec = Jvm.exec) (hZ : Z.Warmed39 s.vm) (hw : ∀ d ∈ tables_1, d.before a0 Z = true) (hby : c.code = code) (hml : c.maxLocals = 12) (hown : s.vm.findClass "com/example/slotwise/slotwise/commands/ClientCommandsIsValidNamePinLaw" = some m.cls) (hret : meth.sig.returnType = some .boolean) (hlk : meth.locks = false) (e0 : T0.heap = h0) (N0 : Fr n0 locs) (Z0 : n0 ≤ h0.size) (nc0 : nar .byte c0 = c0) (nc1 : nar .byte c1 = c1) (nc2 : nar .byte c2 = c2) (nc3 : nar .byte c3 = c3) (r0 : -128 ≤ c0.toInt ∧ c0.toInt < 128) (r1 : -128 ≤ c1.toInt ∧ c1.toInt < 128) (r2 : -128 ≤ c2.toInt ∧ c2.toInt < 128) (r3 : -128 ≤ c3.toInt ∧ c3.toInt < 128) :
    Rch p e below (Fin s below (fun v h L => v = some (.int 1) ∧ Fr n0 L) 16 128) (T0.setTop (mkF m 25 #[.val (.int p1), .val (.int p2), .val (.int p3), .val (.int p4), .val (.int p5), .val (.int (1 : Int32)), .val (.int c0), .val (.int c1), .val (.int c2), .val (.int c3), .unset, .unset] [])) := by
  refine Rch.go (U' := T0.setTop (mkF m 27 #[.val (.int p1), .val (.int p2), .val (.int p3), .val (.int p4), .val (.int p5), .val (.int (1 : Int32)), .val (.int c0), .val (.int c1), .val (.int c2), .val (.int c3), .unset, .unset] [(.int (1 : Int32))])) (fun _ k => XS.iload X0.here hx rfl (hb hby at_25) rfl  k) ?_
  have br62 : ¬ ((1 : Int32) = (0 : Int32)) := (by decide)
  refine Rch.go (U' := T0.setTop (mkF m 38 #[.val (.int p1), .val (.int p2), .val (.int p3), .val (.int p4), .val (.int p5), .val (.int (1 : Int32)), .val (.int c0), .val (.int c1), .val (.int c2), .val (.int c3), .unset, .unset] [])) (fun _ k => XS.ifYes X0.here hx rfl (pc0 := 27) (pc' := 38) rfl (hb hby at_27) rfl (XT.i0_ne_t br62) (by decide) (by decide) k) ?_
  refine Rch.go (U' := T0.setTop (mkF m 40 #[.val (.int p1), .val (.int p2), .val (.int p3), .val (.int p4), .val (.int p5), .val (.int (1 : Int32)), .val (.int c0), .val (.int c1), .val (.int c2), .val (.int c3), .unset, .unset] [(.int (1 : Int32))])) (fun _ k => XS.iload X0.here hx rfl (hb hby at_38) rfl  k) ?_
  refine Rch.go (U' := T0.setTop (mkF m 41 #[.val (.int p1), .val (.int p2), .val (.int p3), .val (.int p4), .val (.int p5), .val (.int (1 : Int32)), .val (.int c0), .val (.int c1), .val (.int c2), .val (.int c3), .unset, .unset] [(.int (1 : Int32)), (.int (1 : Int32))])) (fun _ k => XS.iconst X0.here hx rfl (hb hby at_40) k) ?_
  have br63 : (1 : Int32) = (1 : Int32) := (by decide)
  refine Rch.go (U' := T0.setTop (mkF m 44 #[.val (.int p1), .val (.int p2), .val (.int p3), .val (.int p4), .val (.int p5), .val (.int (1 : Int32)), .val (.int c0), .val (.int c1), .val (.int c2), .val (.int c3), .unset, .unset] [])) (fun _ k => XS.icmpNo X0.here hx rfl (hb hby at_41) rfl (XT.ii_ne_f br63) k) ?_
  refine Rch.go (U' := T0.setTop (mkF m 45 #[.val (.int p1), .val (.int p2), .val (.int p3), .val (.int p4), .val (.int p5), .val (.int (1 : Int32)), .val (.int c0), .val (.int c1), .val (.int c2), .val (.int c3), .unset, .unset] [(.int (1 : Int32))])) (fun _ k => XS.iconst X0.here hx rfl (hb hby at_44) k) ?_
  obtain ⟨T64, h64, k64, X64, e64, E64, A64, st64⟩ := newP X0 hx hZ (wi hw 1 rfl) e0 (g := (mkF m 45 #[.val (.int p1), .val (.int p2), .val (.int p3), .val (.int p4), .val (.int p5), .val (.int (1 : Int32)), .val (.int c0), .val (.int c1), .val (.int c2), .val (.int c3), .unset, .unset] [(.int (1 : Int32))])) rfl (hb hby at_45) rfl (by decide) (cap := 1) (by decide) (by decide) (by decide) (by decide)
  obtain ⟨b64, g64⟩ : ∃ z, z = h0.size := ⟨_, rfl⟩
  rw [← g64] at A64 st64
  have n0b64 : n0 ≤ b64 := Nat.le_trans Z0 (Nat.le_of_eq g64.symm)
  have z65 := Nat.le_trans Z0 E64.1
  have V64 : Arv Z h64 b64 k64 .byte (1 : Int32) [(.int (0 : Int32))] (.int (0 : Int32)) := (Arv.new A64 (by decide)).pad (pad_rep [] (.int (0 : Int32)) 1)
  refine Rch.go (U' := T64.setTop (mkF m 47 #[.val (.int p1), .val (.int p2), .val (.int p3), .val (.int p4), .val (.int p5), .val (.int (1 : Int32)), .val (.int c0), .val (.int c1), .val (.int c2), .val (.int c3), .unset, .unset] [(.ref b64)])) st64 ?_
  refine Rch.go (U' := T64.setTop (mkF m 48 #[.val (.int p1), .val (.int p2), .val (.int p3), .val (.int p4), .val (.int p5), .val (.int (1 : Int32)), .val (.int c0), .val (.int c1), .val (.int c2), .val (.int c3), .unset, .unset] [(.ref b64), (.ref b64)])) (fun _ k => XS.dup X64.here hx rfl (hb hby at_47) rfl rfl k) ?_
  refine Rch.go (U' := T64.setTop (mkF m 49 #[.val (.int p1), .val (.int p2), .val (.int p3), .val (.int p4), .val (.int p5), .val (.int (1 : Int32)), .val (.int c0), .val (.int c1), .val (.int c2), .val (.int c3), .unset, .unset] [(.int (0 : Int32)), (.ref b64), (.ref b64)])) (fun _ k => XS.iconst X64.here hx rfl (hb hby at_48) k) ?_
  refine Rch.go (U' := T64.setTop (mkF m 51 #[.val (.int p1), .val (.int p2), .val (.int p3), .val (.int p4), .val (.int p5), .val (.int (1 : Int32)), .val (.int c0), .val (.int c1), .val (.int c2), .val (.int c3), .unset, .unset] [(.int c0), (.int (0 : Int32)), (.ref b64), (.ref b64)])) (fun _ k => XS.iload X64.here hx rfl (hb hby at_49) rfl  k) ?_
  obtain ⟨c66, Ar66, q66, S66, M66, Hs66, G66⟩ := id V64
  have i66 : ¬ ((0 : Int32) < 0 ∨ c66.slots.size ≤ ((0 : Int32)).toNatClampNeg) := inb_of S66 ⟨by decide, by decide⟩
  obtain ⟨T66, h66, X66, e66, W66, st66⟩ := stB X64 hx hZ e64 Ar66 (j := (0 : Int32)) i66 (g := (mkF m 51 #[.val (.int p1), .val (.int p2), .val (.int p3), .val (.int p4), .val (.int p5), .val (.int (1 : Int32)), .val (.int c0), .val (.int c1), .val (.int c2), .val (.int c3), .unset, .unset] [(.int c0), (.int (0 : Int32)), (.ref b64), (.ref b64)])) rfl rfl (hb hby at_51)
  have V66 : Arv Z h66 b64 k64 .byte (1 : Int32) [(.int (nar .byte c0))] (.int (0 : Int32)) := Arv.set Ar66 q66 S66 M66 Hs66 G66 (fits_nar_byte _) W66 0 rfl (Nat.le_of_ble_eq_true rfl)
  rw [nc0] at V66
  have N66 := Fr.snoc X66 N0 n0b64
  have z67 := Nat.le_trans z65 (Keep.of_wr W66).1
  refine Rch.go (U' := T66.setTop (mkF m 52 #[.val (.int p1), .val (.int p2), .val (.int p3), .val (.int p4), .val (.int p5), .val (.int (1 : Int32)), .val (.int c0), .val (.int c1), .val (.int c2), .val (.int c3), .unset, .unset] [(.ref b64)])) st66 ?_
  refine Rch.go (U' := T66.setTop (mkF m 54 #[.val (.int p1), .val (.int p2), .val (.int p3), .val (.int p4), .val (.int p5), .val (.int (1 : Int32)), .val (.int c0), .val (.int c1), .val (.int c2), .val (.int c3), .val (.ref b64), .unset] [])) (fun _ k => XS.astore X66.here hx rfl (hb hby at_52) rfl rfl (l' := #[.val (.int p1), .val (.int p2), .val (.int p3), .val (.int p4), .val (.int p5), .val (.int (1 : Int32)), .val (.int c0), .val (.int c1), .val (.int c2), .val (.int c3), .val (.ref b64), .unset]) rfl k) ?_
  refine Rch.go (U' := T66.setTop (mkF m 135 #[.val (.int p1), .val (.int p2), .val (.int p3), .val (.int p4), .val (.int p5), .val (.int (1 : Int32)), .val (.int c0), .val (.int c1), .val (.int c2), .val (.int c3), .val (.ref b64), .unset] [])) (fun _ k => XS.goto X66.here hx rfl (pc0 := 54) (pc' := 135) rfl (hb hby at_54) (by decide) (by decide) k) ?_
  refine Rch.go (U' := T66.setTop (mkF m 137 #[.val (.int p1), .val (.int p2), .val (.int p3), .val (.int p4), .val (.int p5), .val (.int (1 : Int32)), .val (.int c0), .val (.int c1), .val (.int c2), .val (.int c3), .val (.ref b64), .unset] [(.int (1 : Int32))])) (fun _ k => XS.iload X66.here hx rfl (hb hby at_135) rfl  k) ?_
  refine Rch.go (U' := T66.setTop (mkF m 138 #[.val (.int p1), .val (.int p2), .val (.int p3), .val (.int p4), .val (.int p5), .val (.int (1 : Int32)), .val (.int c0), .val (.int c1), .val (.int c2), .val (.int c3), .val (.ref b64), .unset] [(.int (1 : Int32)), (.int (1 : Int32))])) (fun _ k => XS.iconst X66.here hx rfl (hb hby at_137) k) ?_
  have br68 : ¬ ((1 : Int32) < (1 : Int32)) := (by decide)
  refine Rch.go (U' := T66.setTop (mkF m 141 #[.val (.int p1), .val (.int p2), .val (.int p3), .val (.int p4), .val (.int p5), .val (.int (1 : Int32)), .val (.int c0), .val (.int c1), .val (.int c2), .val (.int c3), .val (.ref b64), .unset] [])) (fun _ k => XS.icmpNo X66.here hx rfl (hb hby at_138) rfl (XT.ii_lt_f br68) k) ?_
  refine Rch.go (U' := T66.setTop (mkF m 143 #[.val (.int p1), .val (.int p2), .val (.int p3), .val (.int p4), .val (.int p5), .val (.int (1 : Int32)), .val (.int c0), .val (.int c1), .val (.int c2), .val (.int c3), .val (.ref b64), .unset] [(.int c0)])) (fun _ k => XS.iload X66.here hx rfl (hb hby at_141) rfl  k) ?_
  obtain ⟨_, _, ⟨T69, L69, k69, n69⟩, -, X69, ⟨Lc69, hQ69, l69, y69, z69⟩, st69⟩ := Jvm.LawKit.callS X66 hx (y := (⟨"com/example/slotwise/slotwise/commands/ClientCommandsIsValidNamePinLaw", "printableNoSpace", "(B)Z"⟩ : MethodName)) hown (mvT hZ (wi hw 6 rfl)) (mvT hZ (wi hw 7 rfl)) (mvT hZ (wi hw 8 rfl)) (mvT hZ (wi hw 9 rfl)) (by decide) (backOf (W := 0) (rmP l Z a0 hw [] c0 h66 n0 z67 ) hZ (wi hw 9 rfl) (wi hw 8 rfl) (by decide) (by decide)) (g := (mkF m 143 #[.val (.int p1), .val (.int p2), .val (.int p3), .val (.int p4), .val (.int p5), .val (.int (1 : Int32)), .val (.int c0), .val (.int c1), .val (.int c2), .val (.int c3), .val (.ref b64), .unset] [(.int c0)])) rfl (by rw [hml]; rfl) (argsL := [(.int c0)]) (rest := []) (lenOf pd_2 rfl) rfl (by show 2 * 0 + _ ≤ _; exact Nat.le_of_eq rfl) (hb hby at_143) (fun _ _ => ⟨rfl, e66, (by decide : 1 + 0 ≤ _), (by decide : 1 + 0 ≤ _)⟩)
  dsimp only [Pt.U, Pt.locs, Pt.cells, Pt.slots] at X69 l69 y69 z69 st69 hQ69
  subst l69 y69 z69
  obtain ⟨rfl, N69q, e69⟩ := hQ69
  have N69 := Fr.app N66 N69q
  refine Rch.go (U' := T69.setTop (mkF m 146 #[.val (.int p1), .val (.int p2), .val (.int p3), .val (.int p4), .val (.int p5), .val (.int (1 : Int32)), .val (.int c0), .val (.int c1), .val (.int c2), .val (.int c3), .val (.ref b64), .unset] [(.int (own_pr c0))])) st69 ?_
  by_cases br70 : (own_pr c0) = (0 : Int32)
  ·
    refine Rch.go (U' := T69.setTop (mkF m 195 #[.val (.int p1), .val (.int p2), .val (.int p3), .val (.int p4), .val (.int p5), .val (.int (1 : Int32)), .val (.int c0), .val (.int c1), .val (.int c2), .val (.int c3), .val (.ref b64), .unset] [])) (fun _ k => XS.ifYes X69.here hx rfl (pc0 := 146) (pc' := 195) rfl (hb hby at_146) rfl (XT.i0_eq_t br70) (by decide) (by decide) k) ?_
    refine Rch.go (U' := T69.setTop (mkF m 196 #[.val (.int p1), .val (.int p2), .val (.int p3), .val (.int p4), .val (.int p5), .val (.int (1 : Int32)), .val (.int c0), .val (.int c1), .val (.int c2), .val (.int c3), .val (.ref b64), .unset] [(.int (0 : Int32))])) (fun _ k => XS.iconst X69.here hx rfl (hb hby at_195) k) ?_
    refine Rch.go (U' := T69.setTop (mkF m 198 #[.val (.int p1), .val (.int p2), .val (.int p3), .val (.int p4), .val (.int p5), .val (.int (1 : Int32)), .val (.int c0), .val (.int c1), .val (.int c2), .val (.int c3), .val (.ref b64), .val (.int (0 : Int32))] [])) (fun _ k => XS.istore X69.here hx rfl (hb hby at_196) rfl (l' := #[.val (.int p1), .val (.int p2), .val (.int p3), .val (.int p4), .val (.int p5), .val (.int (1 : Int32)), .val (.int c0), .val (.int c1), .val (.int c2), .val (.int c3), .val (.ref b64), .val (.int (0 : Int32))]) rfl k) ?_
    refine Rch.go (U' := T69.setTop (mkF m 200 #[.val (.int p1), .val (.int p2), .val (.int p3), .val (.int p4), .val (.int p5), .val (.int (1 : Int32)), .val (.int c0), .val (.int c1), .val (.int c2), .val (.int c3), .val (.ref b64), .val (.int (0 : Int32))] [(.ref b64)])) (fun _ k => XS.aload X69.here hx rfl (hb hby at_198) rfl rfl k) ?_
    obtain ⟨_, _, ⟨T71, L71, k71, n71⟩, -, X71, ⟨Lc71, hQ71, l71, y71, z71⟩, st71⟩ := Jvm.LawKit.callS X69 hx (y := (⟨"com/example/slotwise/slotwise/commands/ClientCommands", "isValidName", "([B)Z"⟩ : MethodName)) hown (mvT hZ (wi hw 2 rfl)) (mvT hZ (wi hw 3 rfl)) (mvT hZ (wi hw 4 rfl)) (mvT hZ (wi hw 5 rfl)) (by decide) (backOf (W := 0) (rmV1 l Z a0 hw [] b64 k64 c0 h66 n0 z67 V66) hZ (wi hw 5 rfl) (wi hw 4 rfl) (by decide) (by decide)) (g := (mkF m 200 #[.val (.int p1), .val (.int p2), .val (.int p3), .val (.int p4), .val (.int p5), .val (.int (1 : Int32)), .val (.int c0), .val (.int c1), .val (.int c2), .val (.int c3), .val (.ref b64), .val (.int (0 : Int32))] [(.ref b64)])) rfl (by rw [hml]; rfl) (argsL := [(.ref b64)]) (rest := []) (lenOf pd_3 rfl) rfl (by show 2 * 0 + _ ≤ _; exact Nat.le_of_eq rfl) (hb hby at_200) (fun _ _ => ⟨rfl, e69, (by decide : 1 + 0 ≤ _), (by decide : 1 + 0 ≤ _)⟩)
    dsimp only [Pt.U, Pt.locs, Pt.cells, Pt.slots] at X71 l71 y71 z71 st71 hQ71
    subst l71 y71 z71
    obtain ⟨rfl, N71q, e71⟩ := hQ71
    have N71 := Fr.app N69 N71q
    refine Rch.go (U' := T71.setTop (mkF m 203 #[.val (.int p1), .val (.int p2), .val (.int p3), .val (.int p4), .val (.int p5), .val (.int (1 : Int32)), .val (.int c0), .val (.int c1), .val (.int c2), .val (.int c3), .val (.ref b64), .val (.int (0 : Int32))] [(.int (own_chk [c0]))])) st71 ?_
    refine Rch.go (U' := T71.setTop (mkF m 205 #[.val (.int p1), .val (.int p2), .val (.int p3), .val (.int p4), .val (.int p5), .val (.int (1 : Int32)), .val (.int c0), .val (.int c1), .val (.int c2), .val (.int c3), .val (.ref b64), .val (.int (0 : Int32))] [(.int (0 : Int32)), (.int (own_chk [c0]))])) (fun _ k => XS.iload X71.here hx rfl (hb hby at_203) rfl  k) ?_
    have br72 : (own_chk [c0]) = (0 : Int32) := (own_chk_n r0 br70)
    refine Rch.go (U' := T71.setTop (mkF m 208 #[.val (.int p1), .val (.int p2), .val (.int p3), .val (.int p4), .val (.int p5), .val (.int (1 : Int32)), .val (.int c0), .val (.int c1), .val (.int c2), .val (.int c3), .val (.ref b64), .val (.int (0 : Int32))] [])) (fun _ k => XS.icmpNo X71.here hx rfl (hb hby at_205) rfl (XT.ii_ne_f br72) k) ?_
    refine Rch.go (U' := T71.setTop (mkF m 209 #[.val (.int p1), .val (.int p2), .val (.int p3), .val (.int p4), .val (.int p5), .val (.int (1 : Int32)), .val (.int c0), .val (.int c1), .val (.int c2), .val (.int c3), .val (.ref b64), .val (.int (0 : Int32))] [(.int (1 : Int32))])) (fun _ k => XS.iconst X71.here hx rfl (hb hby at_208) k) ?_
    refine Rch.go (U' := T71.setTop (mkF m 213 #[.val (.int p1), .val (.int p2), .val (.int p3), .val (.int p4), .val (.int p5), .val (.int (1 : Int32)), .val (.int c0), .val (.int c1), .val (.int c2), .val (.int c3), .val (.ref b64), .val (.int (0 : Int32))] [(.int (1 : Int32))])) (fun _ k => XS.goto X71.here hx rfl (pc0 := 209) (pc' := 213) rfl (hb hby at_209) (by decide) (by decide) k) ?_
    refine Rch.fin X71 hlk (v := some (.int (nar .boolean (1 : Int32)))) (fun h => by rw [hret] at h; cases h) e71 (by decide) (by decide) (fun fs hr => retN X71 hx (t := .boolean) hret (by simp) (hb hby at_213) hr) ?_
    exact ⟨rfl, N71⟩
  ·
    refine Rch.go (U' := T69.setTop (mkF m 149 #[.val (.int p1), .val (.int p2), .val (.int p3), .val (.int p4), .val (.int p5), .val (.int (1 : Int32)), .val (.int c0), .val (.int c1), .val (.int c2), .val (.int c3), .val (.ref b64), .unset] [])) (fun _ k => XS.ifNo X69.here hx rfl (hb hby at_146) rfl (XT.i0_eq_f br70) k) ?_
    refine Rch.go (U' := T69.setTop (mkF m 151 #[.val (.int p1), .val (.int p2), .val (.int p3), .val (.int p4), .val (.int p5), .val (.int (1 : Int32)), .val (.int c0), .val (.int c1), .val (.int c2), .val (.int c3), .val (.ref b64), .unset] [(.int (1 : Int32))])) (fun _ k => XS.iload X69.here hx rfl (hb hby at_149) rfl  k) ?_
    refine Rch.go (U' := T69.setTop (mkF m 152 #[.val (.int p1), .val (.int p2), .val (.int p3), .val (.int p4), .val (.int p5), .val (.int (1 : Int32)), .val (.int c0), .val (.int c1), .val (.int c2), .val (.int c3), .val (.ref b64), .unset] [(.int (2 : Int32)), (.int (1 : Int32))])) (fun _ k => XS.iconst X69.here hx rfl (hb hby at_151) k) ?_
    have br73 : (1 : Int32) < (2 : Int32) := (by decide)
    refine Rch.go (U' := T69.setTop (mkF m 163 #[.val (.int p1), .val (.int p2), .val (.int p3), .val (.int p4), .val (.int p5), .val (.int (1 : Int32)), .val (.int c0), .val (.int c1), .val (.int c2), .val (.int c3), .val (.ref b64), .unset] [])) (fun _ k => XS.icmpYes X69.here hx rfl (pc0 := 152) (pc' := 163) rfl (hb hby at_152) rfl (XT.ii_lt_t br73) (by decide) (by decide) k) ?_
    refine Rch.go (U' := T69.setTop (mkF m 165 #[.val (.int p1), .val (.int p2), .val (.int p3), .val (.int p4), .val (.int p5), .val (.int (1 : Int32)), .val (.int c0), .val (.int c1), .val (.int c2), .val (.int c3), .val (.ref b64), .unset] [(.int (1 : Int32))])) (fun _ k => XS.iload X69.here hx rfl (hb hby at_163) rfl  k) ?_
    refine Rch.go (U' := T69.setTop (mkF m 166 #[.val (.int p1), .val (.int p2), .val (.int p3), .val (.int p4), .val (.int p5), .val (.int (1 : Int32)), .val (.int c0), .val (.int c1), .val (.int c2), .val (.int c3), .val (.ref b64), .unset] [(.int (3 : Int32)), (.int (1 : Int32))])) (fun _ k => XS.iconst X69.here hx rfl (hb hby at_165) k) ?_
    have br74 : (1 : Int32) < (3 : Int32) := (by decide)
    refine Rch.go (U' := T69.setTop (mkF m 177 #[.val (.int p1), .val (.int p2), .val (.int p3), .val (.int p4), .val (.int p5), .val (.int (1 : Int32)), .val (.int c0), .val (.int c1), .val (.int c2), .val (.int c3), .val (.ref b64), .unset] [])) (fun _ k => XS.icmpYes X69.here hx rfl (pc0 := 166) (pc' := 177) rfl (hb hby at_166) rfl (XT.ii_lt_t br74) (by decide) (by decide) k) ?_
    refine Rch.go (U' := T69.setTop (mkF m 179 #[.val (.int p1), .val (.int p2), .val (.int p3), .val (.int p4), .val (.int p5), .val (.int (1 : Int32)), .val (.int c0), .val (.int c1), .val (.int c2), .val (.int c3), .val (.ref b64), .unset] [(.int (1 : Int32))])) (fun _ k => XS.iload X69.here hx rfl (hb hby at_177) rfl  k) ?_
    refine Rch.go (U' := T69.setTop (mkF m 180 #[.val (.int p1), .val (.int p2), .val (.int p3), .val (.int p4), .val (.int p5), .val (.int (1 : Int32)), .val (.int c0), .val (.int c1), .val (.int c2), .val (.int c3), .val (.ref b64), .unset] [(.int (4 : Int32)), (.int (1 : Int32))])) (fun _ k => XS.iconst X69.here hx rfl (hb hby at_179) k) ?_
    have br75 : (1 : Int32) < (4 : Int32) := (by decide)
    refine Rch.go (U' := T69.setTop (mkF m 191 #[.val (.int p1), .val (.int p2), .val (.int p3), .val (.int p4), .val (.int p5), .val (.int (1 : Int32)), .val (.int c0), .val (.int c1), .val (.int c2), .val (.int c3), .val (.ref b64), .unset] [])) (fun _ k => XS.icmpYes X69.here hx rfl (pc0 := 180) (pc' := 191) rfl (hb hby at_180) rfl (XT.ii_lt_t br75) (by decide) (by decide) k) ?_
    refine Rch.go (U' := T69.setTop (mkF m 192 #[.val (.int p1), .val (.int p2), .val (.int p3), .val (.int p4), .val (.int p5), .val (.int (1 : Int32)), .val (.int c0), .val (.int c1), .val (.int c2), .val (.int c3), .val (.ref b64), .unset] [(.int (1 : Int32))])) (fun _ k => XS.iconst X69.here hx rfl (hb hby at_191) k) ?_
    refine Rch.go (U' := T69.setTop (mkF m 196 #[.val (.int p1), .val (.int p2), .val (.int p3), .val (.int p4), .val (.int p5), .val (.int (1 : Int32)), .val (.int c0), .val (.int c1), .val (.int c2), .val (.int c3), .val (.ref b64), .unset] [(.int (1 : Int32))])) (fun _ k => XS.goto X69.here hx rfl (pc0 := 192) (pc' := 196) rfl (hb hby at_192) (by decide) (by decide) k) ?_
    refine Rch.go (U' := T69.setTop (mkF m 198 #[.val (.int p1), .val (.int p2), .val (.int p3), .val (.int p4), .val (.int p5), .val (.int (1 : Int32)), .val (.int c0), .val (.int c1), .val (.int c2), .val (.int c3), .val (.ref b64), .val (.int (1 : Int32))] [])) (fun _ k => XS.istore X69.here hx rfl (hb hby at_196) rfl (l' := #[.val (.int p1), .val (.int p2), .val (.int p3), .val (.int p4), .val (.int p5), .val (.int (1 : Int32)), .val (.int c0), .val (.int c1), .val (.int c2), .val (.int c3), .val (.ref b64), .val (.int (1 : Int32))]) rfl k) ?_
    refine Rch.go (U' := T69.setTop (mkF m 200 #[.val (.int p1), .val (.int p2), .val (.int p3), .val (.int p4), .val (.int p5), .val (.int (1 : Int32)), .val (.int c0), .val (.int c1), .val (.int c2), .val (.int c3), .val (.ref b64), .val (.int (1 : Int32))] [(.ref b64)])) (fun _ k => XS.aload X69.here hx rfl (hb hby at_198) rfl rfl k) ?_
    obtain ⟨_, _, ⟨T76, L76, k76, n76⟩, -, X76, ⟨Lc76, hQ76, l76, y76, z76⟩, st76⟩ := Jvm.LawKit.callS X69 hx (y := (⟨"com/example/slotwise/slotwise/commands/ClientCommands", "isValidName", "([B)Z"⟩ : MethodName)) hown (mvT hZ (wi hw 2 rfl)) (mvT hZ (wi hw 3 rfl)) (mvT hZ (wi hw 4 rfl)) (mvT hZ (wi hw 5 rfl)) (by decide) (backOf (W := 0) (rmV1 l Z a0 hw [] b64 k64 c0 h66 n0 z67 V66) hZ (wi hw 5 rfl) (wi hw 4 rfl) (by decide) (by decide)) (g := (mkF m 200 #[.val (.int p1), .val (.int p2), .val (.int p3), .val (.int p4), .val (.int p5), .val (.int (1 : Int32)), .val (.int c0), .val (.int c1), .val (.int c2), .val (.int c3), .val (.ref b64), .val (.int (1 : Int32))] [(.ref b64)])) rfl (by rw [hml]; rfl) (argsL := [(.ref b64)]) (rest := []) (lenOf pd_3 rfl) rfl (by show 2 * 0 + _ ≤ _; exact Nat.le_of_eq rfl) (hb hby at_200) (fun _ _ => ⟨rfl, e69, (by decide : 1 + 0 ≤ _), (by decide : 1 + 0 ≤ _)⟩)
    dsimp only [Pt.U, Pt.locs, Pt.cells, Pt.slots] at X76 l76 y76 z76 st76 hQ76
    subst l76 y76 z76
    obtain ⟨rfl, N76q, e76⟩ := hQ76
    have N76 := Fr.app N69 N76q
    refine Rch.go (U' := T76.setTop (mkF m 203 #[.val (.int p1), .val (.int p2), .val (.int p3), .val (.int p4), .val (.int p5), .val (.int (1 : Int32)), .val (.int c0), .val (.int c1), .val (.int c2), .val (.int c3), .val (.ref b64), .val (.int (1 : Int32))] [(.int (own_chk [c0]))])) st76 ?_
    refine Rch.go (U' := T76.setTop (mkF m 205 #[.val (.int p1), .val (.int p2), .val (.int p3), .val (.int p4), .val (.int p5), .val (.int (1 : Int32)), .val (.int c0), .val (.int c1), .val (.int c2), .val (.int c3), .val (.ref b64), .val (.int (1 : Int32))] [(.int (1 : Int32)), (.int (own_chk [c0]))])) (fun _ k => XS.iload X76.here hx rfl (hb hby at_203) rfl  k) ?_
    have br77 : (own_chk [c0]) = (1 : Int32) := ((own_chk_y r0 br70).trans rfl)
    refine Rch.go (U' := T76.setTop (mkF m 208 #[.val (.int p1), .val (.int p2), .val (.int p3), .val (.int p4), .val (.int p5), .val (.int (1 : Int32)), .val (.int c0), .val (.int c1), .val (.int c2), .val (.int c3), .val (.ref b64), .val (.int (1 : Int32))] [])) (fun _ k => XS.icmpNo X76.here hx rfl (hb hby at_205) rfl (XT.ii_ne_f br77) k) ?_
    refine Rch.go (U' := T76.setTop (mkF m 209 #[.val (.int p1), .val (.int p2), .val (.int p3), .val (.int p4), .val (.int p5), .val (.int (1 : Int32)), .val (.int c0), .val (.int c1), .val (.int c2), .val (.int c3), .val (.ref b64), .val (.int (1 : Int32))] [(.int (1 : Int32))])) (fun _ k => XS.iconst X76.here hx rfl (hb hby at_208) k) ?_
    refine Rch.go (U' := T76.setTop (mkF m 213 #[.val (.int p1), .val (.int p2), .val (.int p3), .val (.int p4), .val (.int p5), .val (.int (1 : Int32)), .val (.int c0), .val (.int c1), .val (.int c2), .val (.int c3), .val (.ref b64), .val (.int (1 : Int32))] [(.int (1 : Int32))])) (fun _ k => XS.goto X76.here hx rfl (pc0 := 209) (pc' := 213) rfl (hb hby at_209) (by decide) (by decide) k) ?_
    refine Rch.fin X76 hlk (v := some (.int (nar .boolean (1 : Int32)))) (fun h => by rw [hret] at h; cases h) e76 (by decide) (by decide) (fun fs hr => retN X76 hx (t := .boolean) hret (by simp) (hb hby at_213) hr) ?_
    exact ⟨rfl, N76⟩
set_option maxRecDepth 65536 in
set_option maxHeartbeats 40000000 in
theorem cut25_2 {p : Program} {l : Launch} {e : Env} {s : State} {m : MethodId} {args : Array Value} {below : List Frame} {meth : Method} {c : Code} {T0 : State} {locs : List Loc} {Z : State} {a0 : Array Value} {h0 : Heap} {n0 : Nat}  (p1 : Int32) (p2 : Int32) (p3 : Int32) (p4 : Int32) (p5 : Int32) (c0 : Int32) (c1 : Int32) (c2 : Int32) (c3 : Int32)
    (X0 : Stand p l e room_1 s m args below meth c T0 locs 0 0) (hx : p.tables.exec = Jvm.exec) (hZ : Z.Warmed39 s.vm) (hw : ∀ d ∈ tables_1, d.before a0 Z = true) (hby : c.code = code) (hml : c.maxLocals = 12) (hown : s.vm.findClass "com/example/slotwise/slotwise/commands/ClientCommandsIsValidNamePinLaw" = some m.cls) (hret : meth.sig.returnType = some .boolean) (hlk : meth.locks = false) (e0 : T0.heap = h0) (N0 : Fr n0 locs) (Z0 : n0 ≤ h0.size) (nc0 : nar .byte c0 = c0) (nc1 : nar .byte c1 = c1) (nc2 : nar .byte c2 = c2) (nc3 : nar .byte c3 = c3) (r0 : -128 ≤ c0.toInt ∧ c0.toInt < 128) (r1 : -128 ≤ c1.toInt ∧ c1.toInt < 128) (r2 : -128 ≤ c2.toInt ∧ c2.toInt < 128) (r3 : -128 ≤ c3.toInt ∧ c3.toInt < 128) :
    Rch p e below (Fin s below (fun v h L => v = some (.int 1) ∧ Fr n0 L) 16 128) (T0.setTop (mkF m 25 #[.val (.int p1), .val (.int p2), .val (.int p3), .val (.int p4), .val (.int p5), .val (.int (2 : Int32)), .val (.int c0), .val (.int c1), .val (.int c2), .val (.int c3), .unset, .unset] [])) := by
  refine Rch.go (U' := T0.setTop (mkF m 27 #[.val (.int p1), .val (.int p2), .val (.int p3), .val (.int p4), .val (.int p5), .val (.int (2 : Int32)), .val (.int c0), .val (.int c1), .val (.int c2), .val (.int c3), .unset, .unset] [(.int (2 : Int32))])) (fun _ k => XS.iload X0.here hx rfl (hb hby at_25) rfl  k) ?_
  have br78 : ¬ ((2 : Int32) = (0 : Int32)) := (by decide)
  refine Rch.go (U' := T0.setTop (mkF m 38 #[.val (.int p1), .val (.int p2), .val (.int p3), .val (.int p4), .val (.int p5), .val (.int (2 : Int32)), .val (.int c0), .val (.int c1), .val (.int c2), .val (.int c3), .unset, .unset] [])) (fun _ k => XS.ifYes X0.here hx rfl (pc0 := 27) (pc' := 38) rfl (hb hby at_27) rfl (XT.i0_ne_t br78) (by decide) (by decide) k) ?_
  refine Rch.go (U' := T0.setTop (mkF m 40 #[.val (.int p1), .val (.int p2), .val (.int p3), .val (.int p4), .val (.int p5), .val (.int (2 : Int32)), .val (.int c0), .val (.int c1), .val (.int c2), .val (.int c3), .unset, .unset] [(.int (2 : Int32))])) (fun _ k => XS.iload X0.here hx rfl (hb hby at_38) rfl  k) ?_
  refine Rch.go (U' := T0.setTop (mkF m 41 #[.val (.int p1), .val (.int p2), .val (.int p3), .val (.int p4), .val (.int p5), .val (.int (2 : Int32)), .val (.int c0), .val (.int c1), .val (.int c2), .val (.int c3), .unset, .unset] [(.int (1 : Int32)), (.int (2 : Int32))])) (fun _ k => XS.iconst X0.here hx rfl (hb hby at_40) k) ?_
  have br79 : ¬ ((2 : Int32) = (1 : Int32)) := (by decide)
  refine Rch.go (U' := T0.setTop (mkF m 57 #[.val (.int p1), .val (.int p2), .val (.int p3), .val (.int p4), .val (.int p5), .val (.int (2 : Int32)), .val (.int c0), .val (.int c1), .val (.int c2), .val (.int c3), .unset, .unset] [])) (fun _ k => XS.icmpYes X0.here hx rfl (pc0 := 41) (pc' := 57) rfl (hb hby at_41) rfl (XT.ii_ne_t br79) (by decide) (by decide) k) ?_
  refine Rch.go (U' := T0.setTop (mkF m 59 #[.val (.int p1), .val (.int p2), .val (.int p3), .val (.int p4), .val (.int p5), .val (.int (2 : Int32)), .val (.int c0), .val (.int c1), .val (.int c2), .val (.int c3), .unset, .unset] [(.int (2 : Int32))])) (fun _ k => XS.iload X0.here hx rfl (hb hby at_57) rfl  k) ?_
  refine Rch.go (U' := T0.setTop (mkF m 60 #[.val (.int p1), .val (.int p2), .val (.int p3), .val (.int p4), .val (.int p5), .val (.int (2 : Int32)), .val (.int c0), .val (.int c1), .val (.int c2), .val (.int c3), .unset, .unset] [(.int (2 : Int32)), (.int (2 : Int32))])) (fun _ k => XS.iconst X0.here hx rfl (hb hby at_59) k) ?_
  have br80 : (2 : Int32) = (2 : Int32) := (by decide)
  refine Rch.go (U' := T0.setTop (mkF m 63 #[.val (.int p1), .val (.int p2), .val (.int p3), .val (.int p4), .val (.int p5), .val (.int (2 : Int32)), .val (.int c0), .val (.int c1), .val (.int c2), .val (.int c3), .unset, .unset] [])) (fun _ k => XS.icmpNo X0.here hx rfl (hb hby at_60) rfl (XT.ii_ne_f br80) k) ?_
  refine Rch.go (U' := T0.setTop (mkF m 64 #[.val (.int p1), .val (.int p2), .val (.int p3), .val (.int p4), .val (.int p5), .val (.int (2 : Int32)), .val (.int c0), .val (.int c1), .val (.int c2), .val (.int c3), .unset, .unset] [(.int (2 : Int32))])) (fun _ k => XS.iconst X0.here hx rfl (hb hby at_63) k) ?_
  obtain ⟨T81, h81, k81, X81, e81, E81, A81, st81⟩ := newP X0 hx hZ (wi hw 1 rfl) e0 (g := (mkF m 64 #[.val (.int p1), .val (.int p2), .val (.int p3), .val (.int p4), .val (.int p5), .val (.int (2 : Int32)), .val (.int c0), .val (.int c1), .val (.int c2), .val (.int c3), .unset, .unset] [(.int (2 : Int32))])) rfl (hb hby at_64) rfl (by decide) (cap := 2) (by decide) (by decide) (by decide) (by decide)
  obtain ⟨b81, g81⟩ : ∃ z, z = h0.size := ⟨_, rfl⟩
  rw [← g81] at A81 st81
  have n0b81 : n0 ≤ b81 := Nat.le_trans Z0 (Nat.le_of_eq g81.symm)
  have z82 := Nat.le_trans Z0 E81.1
  have V81 : Arv Z h81 b81 k81 .byte (2 : Int32) [(.int (0 : Int32)), (.int (0 : Int32))] (.int (0 : Int32)) := (Arv.new A81 (by decide)).pad (pad_rep [] (.int (0 : Int32)) 2)
  refine Rch.go (U' := T81.setTop (mkF m 66 #[.val (.int p1), .val (.int p2), .val (.int p3), .val (.int p4), .val (.int p5), .val (.int (2 : Int32)), .val (.int c0), .val (.int c1), .val (.int c2), .val (.int c3), .unset, .unset] [(.ref b81)])) st81 ?_
  refine Rch.go (U' := T81.setTop (mkF m 67 #[.val (.int p1), .val (.int p2), .val (.int p3), .val (.int p4), .val (.int p5), .val (.int (2 : Int32)), .val (.int c0), .val (.int c1), .val (.int c2), .val (.int c3), .unset, .unset] [(.ref b81), (.ref b81)])) (fun _ k => XS.dup X81.here hx rfl (hb hby at_66) rfl rfl k) ?_
  refine Rch.go (U' := T81.setTop (mkF m 68 #[.val (.int p1), .val (.int p2), .val (.int p3), .val (.int p4), .val (.int p5), .val (.int (2 : Int32)), .val (.int c0), .val (.int c1), .val (.int c2), .val (.int c3), .unset, .unset] [(.int (0 : Int32)), (.ref b81), (.ref b81)])) (fun _ k => XS.iconst X81.here hx rfl (hb hby at_67) k) ?_
  refine Rch.go (U' := T81.setTop (mkF m 70 #[.val (.int p1), .val (.int p2), .val (.int p3), .val (.int p4), .val (.int p5), .val (.int (2 : Int32)), .val (.int c0), .val (.int c1), .val (.int c2), .val (.int c3), .unset, .unset] [(.int c0), (.int (0 : Int32)), (.ref b81), (.ref b81)])) (fun _ k => XS.iload X81.here hx rfl (hb hby at_68) rfl  k) ?_
  obtain ⟨c83, Ar83, q83, S83, M83, Hs83, G83⟩ := id V81
  have i83 : ¬ ((0 : Int32) < 0 ∨ c83.slots.size ≤ ((0 : Int32)).toNatClampNeg) := inb_of S83 ⟨by decide, by decide⟩
  obtain ⟨T83, h83, X83, e83, W83, st83⟩ := stB X81 hx hZ e81 Ar83 (j := (0 : Int32)) i83 (g := (mkF m 70 #[.val (.int p1), .val (.int p2), .val (.int p3), .val (.int p4), .val (.int p5), .val (.int (2 : Int32)), .val (.int c0), .val (.int c1), .val (.int c2), .val (.int c3), .unset, .unset] [(.int c0), (.int (0 : Int32)), (.ref b81), (.ref b81)])) rfl rfl (hb hby at_70)
  have V83 : Arv Z h83 b81 k81 .byte (2 : Int32) [(.int (nar .byte c0)), (.int (0 : Int32))] (.int (0 : Int32)) := Arv.set Ar83 q83 S83 M83 Hs83 G83 (fits_nar_byte _) W83 0 rfl (Nat.le_of_ble_eq_true rfl)
  rw [nc0] at V83
  have N83 := Fr.snoc X83 N0 n0b81
  have z84 := Nat.le_trans z82 (Keep.of_wr W83).1
  refine Rch.go (U' := T83.setTop (mkF m 71 #[.val (.int p1), .val (.int p2), .val (.int p3), .val (.int p4), .val (.int p5), .val (.int (2 : Int32)), .val (.int c0), .val (.int c1), .val (.int c2), .val (.int c3), .unset, .unset] [(.ref b81)])) st83 ?_
  refine Rch.go (U' := T83.setTop (mkF m 72 #[.val (.int p1), .val (.int p2), .val (.int p3), .val (.int p4), .val (.int p5), .val (.int (2 : Int32)), .val (.int c0), .val (.int c1), .val (.int c2), .val (.int c3), .unset, .unset] [(.ref b81), (.ref b81)])) (fun _ k => XS.dup X83.here hx rfl (hb hby at_71) rfl rfl k) ?_
  refine Rch.go (U' := T83.setTop (mkF m 73 #[.val (.int p1), .val (.int p2), .val (.int p3), .val (.int p4), .val (.int p5), .val (.int (2 : Int32)), .val (.int c0), .val (.int c1), .val (.int c2), .val (.int c3), .unset, .unset] [(.int (1 : Int32)), (.ref b81), (.ref b81)])) (fun _ k => XS.iconst X83.here hx rfl (hb hby at_72) k) ?_
  refine Rch.go (U' := T83.setTop (mkF m 75 #[.val (.int p1), .val (.int p2), .val (.int p3), .val (.int p4), .val (.int p5), .val (.int (2 : Int32)), .val (.int c0), .val (.int c1), .val (.int c2), .val (.int c3), .unset, .unset] [(.int c1), (.int (1 : Int32)), (.ref b81), (.ref b81)])) (fun _ k => XS.iload X83.here hx rfl (hb hby at_73) rfl  k) ?_
  obtain ⟨c85, Ar85, q85, S85, M85, Hs85, G85⟩ := id V83
  have i85 : ¬ ((1 : Int32) < 0 ∨ c85.slots.size ≤ ((1 : Int32)).toNatClampNeg) := inb_of S85 ⟨by decide, by decide⟩
  obtain ⟨T85, h85, X85, e85, W85, st85⟩ := stB X83 hx hZ e83 Ar85 (j := (1 : Int32)) i85 (g := (mkF m 75 #[.val (.int p1), .val (.int p2), .val (.int p3), .val (.int p4), .val (.int p5), .val (.int (2 : Int32)), .val (.int c0), .val (.int c1), .val (.int c2), .val (.int c3), .unset, .unset] [(.int c1), (.int (1 : Int32)), (.ref b81), (.ref b81)])) rfl rfl (hb hby at_75)
  have V85 : Arv Z h85 b81 k81 .byte (2 : Int32) [(.int c0), (.int (nar .byte c1))] (.int (0 : Int32)) := Arv.set Ar85 q85 S85 M85 Hs85 G85 (fits_nar_byte _) W85 1 rfl (Nat.le_of_ble_eq_true rfl)
  rw [nc1] at V85
  have N85 := Fr.snoc X85 N83 n0b81
  have z86 := Nat.le_trans z84 (Keep.of_wr W85).1
  refine Rch.go (U' := T85.setTop (mkF m 76 #[.val (.int p1), .val (.int p2), .val (.int p3), .val (.int p4), .val (.int p5), .val (.int (2 : Int32)), .val (.int c0), .val (.int c1), .val (.int c2), .val (.int c3), .unset, .unset] [(.ref b81)])) st85 ?_
  refine Rch.go (U' := T85.setTop (mkF m 78 #[.val (.int p1), .val (.int p2), .val (.int p3), .val (.int p4), .val (.int p5), .val (.int (2 : Int32)), .val (.int c0), .val (.int c1), .val (.int c2), .val (.int c3), .val (.ref b81), .unset] [])) (fun _ k => XS.astore X85.here hx rfl (hb hby at_76) rfl rfl (l' := #[.val (.int p1), .val (.int p2), .val (.int p3), .val (.int p4), .val (.int p5), .val (.int (2 : Int32)), .val (.int c0), .val (.int c1), .val (.int c2), .val (.int c3), .val (.ref b81), .unset]) rfl k) ?_
  refine Rch.go (U' := T85.setTop (mkF m 135 #[.val (.int p1), .val (.int p2), .val (.int p3), .val (.int p4), .val (.int p5), .val (.int (2 : Int32)), .val (.int c0), .val (.int c1), .val (.int c2), .val (.int c3), .val (.ref b81), .unset] [])) (fun _ k => XS.goto X85.here hx rfl (pc0 := 78) (pc' := 135) rfl (hb hby at_78) (by decide) (by decide) k) ?_
  refine Rch.go (U' := T85.setTop (mkF m 137 #[.val (.int p1), .val (.int p2), .val (.int p3), .val (.int p4), .val (.int p5), .val (.int (2 : Int32)), .val (.int c0), .val (.int c1), .val (.int c2), .val (.int c3), .val (.ref b81), .unset] [(.int (2 : Int32))])) (fun _ k => XS.iload X85.here hx rfl (hb hby at_135) rfl  k) ?_
  refine Rch.go (U' := T85.setTop (mkF m 138 #[.val (.int p1), .val (.int p2), .val (.int p3), .val (.int p4), .val (.int p5), .val (.int (2 : Int32)), .val (.int c0), .val (.int c1), .val (.int c2), .val (.int c3), .val (.ref b81), .unset] [(.int (1 : Int32)), (.int (2 : Int32))])) (fun _ k => XS.iconst X85.here hx rfl (hb hby at_137) k) ?_
  have br87 : ¬ ((2 : Int32) < (1 : Int32)) := (by decide)
  refine Rch.go (U' := T85.setTop (mkF m 141 #[.val (.int p1), .val (.int p2), .val (.int p3), .val (.int p4), .val (.int p5), .val (.int (2 : Int32)), .val (.int c0), .val (.int c1), .val (.int c2), .val (.int c3), .val (.ref b81), .unset] [])) (fun _ k => XS.icmpNo X85.here hx rfl (hb hby at_138) rfl (XT.ii_lt_f br87) k) ?_
  refine Rch.go (U' := T85.setTop (mkF m 143 #[.val (.int p1), .val (.int p2), .val (.int p3), .val (.int p4), .val (.int p5), .val (.int (2 : Int32)), .val (.int c0), .val (.int c1), .val (.int c2), .val (.int c3), .val (.ref b81), .unset] [(.int c0)])) (fun _ k => XS.iload X85.here hx rfl (hb hby at_141) rfl  k) ?_
  obtain ⟨_, _, ⟨T88, L88, k88, n88⟩, -, X88, ⟨Lc88, hQ88, l88, y88, z88⟩, st88⟩ := Jvm.LawKit.callS X85 hx (y := (⟨"com/example/slotwise/slotwise/commands/ClientCommandsIsValidNamePinLaw", "printableNoSpace", "(B)Z"⟩ : MethodName)) hown (mvT hZ (wi hw 6 rfl)) (mvT hZ (wi hw 7 rfl)) (mvT hZ (wi hw 8 rfl)) (mvT hZ (wi hw 9 rfl)) (by decide) (backOf (W := 0) (rmP l Z a0 hw [] c0 h85 n0 z86 ) hZ (wi hw 9 rfl) (wi hw 8 rfl) (by decide) (by decide)) (g := (mkF m 143 #[.val (.int p1), .val (.int p2), .val (.int p3), .val (.int p4), .val (.int p5), .val (.int (2 : Int32)), .val (.int c0), .val (.int c1), .val (.int c2), .val (.int c3), .val (.ref b81), .unset] [(.int c0)])) rfl (by rw [hml]; rfl) (argsL := [(.int c0)]) (rest := []) (lenOf pd_2 rfl) rfl (by show 2 * 0 + _ ≤ _; exact Nat.le_of_eq rfl) (hb hby at_143) (fun _ _ => ⟨rfl, e85, (by decide : 1 + 0 ≤ _), (by decide : 2 + 0 ≤ _)⟩)
  dsimp only [Pt.U, Pt.locs, Pt.cells, Pt.slots] at X88 l88 y88 z88 st88 hQ88
  subst l88 y88 z88
  obtain ⟨rfl, N88q, e88⟩ := hQ88
  have N88 := Fr.app N85 N88q
  refine Rch.go (U' := T88.setTop (mkF m 146 #[.val (.int p1), .val (.int p2), .val (.int p3), .val (.int p4), .val (.int p5), .val (.int (2 : Int32)), .val (.int c0), .val (.int c1), .val (.int c2), .val (.int c3), .val (.ref b81), .unset] [(.int (own_pr c0))])) st88 ?_
  by_cases br89 : (own_pr c0) = (0 : Int32)
  ·
    refine Rch.go (U' := T88.setTop (mkF m 195 #[.val (.int p1), .val (.int p2), .val (.int p3), .val (.int p4), .val (.int p5), .val (.int (2 : Int32)), .val (.int c0), .val (.int c1), .val (.int c2), .val (.int c3), .val (.ref b81), .unset] [])) (fun _ k => XS.ifYes X88.here hx rfl (pc0 := 146) (pc' := 195) rfl (hb hby at_146) rfl (XT.i0_eq_t br89) (by decide) (by decide) k) ?_
    refine Rch.go (U' := T88.setTop (mkF m 196 #[.val (.int p1), .val (.int p2), .val (.int p3), .val (.int p4), .val (.int p5), .val (.int (2 : Int32)), .val (.int c0), .val (.int c1), .val (.int c2), .val (.int c3), .val (.ref b81), .unset] [(.int (0 : Int32))])) (fun _ k => XS.iconst X88.here hx rfl (hb hby at_195) k) ?_
    refine Rch.go (U' := T88.setTop (mkF m 198 #[.val (.int p1), .val (.int p2), .val (.int p3), .val (.int p4), .val (.int p5), .val (.int (2 : Int32)), .val (.int c0), .val (.int c1), .val (.int c2), .val (.int c3), .val (.ref b81), .val (.int (0 : Int32))] [])) (fun _ k => XS.istore X88.here hx rfl (hb hby at_196) rfl (l' := #[.val (.int p1), .val (.int p2), .val (.int p3), .val (.int p4), .val (.int p5), .val (.int (2 : Int32)), .val (.int c0), .val (.int c1), .val (.int c2), .val (.int c3), .val (.ref b81), .val (.int (0 : Int32))]) rfl k) ?_
    refine Rch.go (U' := T88.setTop (mkF m 200 #[.val (.int p1), .val (.int p2), .val (.int p3), .val (.int p4), .val (.int p5), .val (.int (2 : Int32)), .val (.int c0), .val (.int c1), .val (.int c2), .val (.int c3), .val (.ref b81), .val (.int (0 : Int32))] [(.ref b81)])) (fun _ k => XS.aload X88.here hx rfl (hb hby at_198) rfl rfl k) ?_
    obtain ⟨_, _, ⟨T90, L90, k90, n90⟩, -, X90, ⟨Lc90, hQ90, l90, y90, z90⟩, st90⟩ := Jvm.LawKit.callS X88 hx (y := (⟨"com/example/slotwise/slotwise/commands/ClientCommands", "isValidName", "([B)Z"⟩ : MethodName)) hown (mvT hZ (wi hw 2 rfl)) (mvT hZ (wi hw 3 rfl)) (mvT hZ (wi hw 4 rfl)) (mvT hZ (wi hw 5 rfl)) (by decide) (backOf (W := 0) (rmV2 l Z a0 hw [] b81 k81 c0 c1 h85 n0 z86 V85) hZ (wi hw 5 rfl) (wi hw 4 rfl) (by decide) (by decide)) (g := (mkF m 200 #[.val (.int p1), .val (.int p2), .val (.int p3), .val (.int p4), .val (.int p5), .val (.int (2 : Int32)), .val (.int c0), .val (.int c1), .val (.int c2), .val (.int c3), .val (.ref b81), .val (.int (0 : Int32))] [(.ref b81)])) rfl (by rw [hml]; rfl) (argsL := [(.ref b81)]) (rest := []) (lenOf pd_3 rfl) rfl (by show 2 * 0 + _ ≤ _; exact Nat.le_of_eq rfl) (hb hby at_200) (fun _ _ => ⟨rfl, e88, (by decide : 1 + 0 ≤ _), (by decide : 2 + 0 ≤ _)⟩)
    dsimp only [Pt.U, Pt.locs, Pt.cells, Pt.slots] at X90 l90 y90 z90 st90 hQ90
    subst l90 y90 z90
    obtain ⟨rfl, N90q, e90⟩ := hQ90
    have N90 := Fr.app N88 N90q
    refine Rch.go (U' := T90.setTop (mkF m 203 #[.val (.int p1), .val (.int p2), .val (.int p3), .val (.int p4), .val (.int p5), .val (.int (2 : Int32)), .val (.int c0), .val (.int c1), .val (.int c2), .val (.int c3), .val (.ref b81), .val (.int (0 : Int32))] [(.int (own_chk [c0, c1]))])) st90 ?_
    refine Rch.go (U' := T90.setTop (mkF m 205 #[.val (.int p1), .val (.int p2), .val (.int p3), .val (.int p4), .val (.int p5), .val (.int (2 : Int32)), .val (.int c0), .val (.int c1), .val (.int c2), .val (.int c3), .val (.ref b81), .val (.int (0 : Int32))] [(.int (0 : Int32)), (.int (own_chk [c0, c1]))])) (fun _ k => XS.iload X90.here hx rfl (hb hby at_203) rfl  k) ?_
    have br91 : (own_chk [c0, c1]) = (0 : Int32) := (own_chk_n r0 br89)
    refine Rch.go (U' := T90.setTop (mkF m 208 #[.val (.int p1), .val (.int p2), .val (.int p3), .val (.int p4), .val (.int p5), .val (.int (2 : Int32)), .val (.int c0), .val (.int c1), .val (.int c2), .val (.int c3), .val (.ref b81), .val (.int (0 : Int32))] [])) (fun _ k => XS.icmpNo X90.here hx rfl (hb hby at_205) rfl (XT.ii_ne_f br91) k) ?_
    refine Rch.go (U' := T90.setTop (mkF m 209 #[.val (.int p1), .val (.int p2), .val (.int p3), .val (.int p4), .val (.int p5), .val (.int (2 : Int32)), .val (.int c0), .val (.int c1), .val (.int c2), .val (.int c3), .val (.ref b81), .val (.int (0 : Int32))] [(.int (1 : Int32))])) (fun _ k => XS.iconst X90.here hx rfl (hb hby at_208) k) ?_
    refine Rch.go (U' := T90.setTop (mkF m 213 #[.val (.int p1), .val (.int p2), .val (.int p3), .val (.int p4), .val (.int p5), .val (.int (2 : Int32)), .val (.int c0), .val (.int c1), .val (.int c2), .val (.int c3), .val (.ref b81), .val (.int (0 : Int32))] [(.int (1 : Int32))])) (fun _ k => XS.goto X90.here hx rfl (pc0 := 209) (pc' := 213) rfl (hb hby at_209) (by decide) (by decide) k) ?_
    refine Rch.fin X90 hlk (v := some (.int (nar .boolean (1 : Int32)))) (fun h => by rw [hret] at h; cases h) e90 (by decide) (by decide) (fun fs hr => retN X90 hx (t := .boolean) hret (by simp) (hb hby at_213) hr) ?_
    exact ⟨rfl, N90⟩
  ·
    refine Rch.go (U' := T88.setTop (mkF m 149 #[.val (.int p1), .val (.int p2), .val (.int p3), .val (.int p4), .val (.int p5), .val (.int (2 : Int32)), .val (.int c0), .val (.int c1), .val (.int c2), .val (.int c3), .val (.ref b81), .unset] [])) (fun _ k => XS.ifNo X88.here hx rfl (hb hby at_146) rfl (XT.i0_eq_f br89) k) ?_
    refine Rch.go (U' := T88.setTop (mkF m 151 #[.val (.int p1), .val (.int p2), .val (.int p3), .val (.int p4), .val (.int p5), .val (.int (2 : Int32)), .val (.int c0), .val (.int c1), .val (.int c2), .val (.int c3), .val (.ref b81), .unset] [(.int (2 : Int32))])) (fun _ k => XS.iload X88.here hx rfl (hb hby at_149) rfl  k) ?_
    refine Rch.go (U' := T88.setTop (mkF m 152 #[.val (.int p1), .val (.int p2), .val (.int p3), .val (.int p4), .val (.int p5), .val (.int (2 : Int32)), .val (.int c0), .val (.int c1), .val (.int c2), .val (.int c3), .val (.ref b81), .unset] [(.int (2 : Int32)), (.int (2 : Int32))])) (fun _ k => XS.iconst X88.here hx rfl (hb hby at_151) k) ?_
    have br92 : ¬ ((2 : Int32) < (2 : Int32)) := (by decide)
    refine Rch.go (U' := T88.setTop (mkF m 155 #[.val (.int p1), .val (.int p2), .val (.int p3), .val (.int p4), .val (.int p5), .val (.int (2 : Int32)), .val (.int c0), .val (.int c1), .val (.int c2), .val (.int c3), .val (.ref b81), .unset] [])) (fun _ k => XS.icmpNo X88.here hx rfl (hb hby at_152) rfl (XT.ii_lt_f br92) k) ?_
    refine Rch.go (U' := T88.setTop (mkF m 157 #[.val (.int p1), .val (.int p2), .val (.int p3), .val (.int p4), .val (.int p5), .val (.int (2 : Int32)), .val (.int c0), .val (.int c1), .val (.int c2), .val (.int c3), .val (.ref b81), .unset] [(.int c1)])) (fun _ k => XS.iload X88.here hx rfl (hb hby at_155) rfl  k) ?_
    obtain ⟨_, _, ⟨T93, L93, k93, n93⟩, -, X93, ⟨Lc93, hQ93, l93, y93, z93⟩, st93⟩ := Jvm.LawKit.callS X88 hx (y := (⟨"com/example/slotwise/slotwise/commands/ClientCommandsIsValidNamePinLaw", "printableNoSpace", "(B)Z"⟩ : MethodName)) hown (mvT hZ (wi hw 6 rfl)) (mvT hZ (wi hw 7 rfl)) (mvT hZ (wi hw 8 rfl)) (mvT hZ (wi hw 9 rfl)) (by decide) (backOf (W := 0) (rmP l Z a0 hw [] c1 h85 n0 z86 ) hZ (wi hw 9 rfl) (wi hw 8 rfl) (by decide) (by decide)) (g := (mkF m 157 #[.val (.int p1), .val (.int p2), .val (.int p3), .val (.int p4), .val (.int p5), .val (.int (2 : Int32)), .val (.int c0), .val (.int c1), .val (.int c2), .val (.int c3), .val (.ref b81), .unset] [(.int c1)])) rfl (by rw [hml]; rfl) (argsL := [(.int c1)]) (rest := []) (lenOf pd_2 rfl) rfl (by show 2 * 0 + _ ≤ _; exact Nat.le_of_eq rfl) (hb hby at_157) (fun _ _ => ⟨rfl, e88, (by decide : 1 + 0 ≤ _), (by decide : 2 + 0 ≤ _)⟩)
    dsimp only [Pt.U, Pt.locs, Pt.cells, Pt.slots] at X93 l93 y93 z93 st93 hQ93
    subst l93 y93 z93
    obtain ⟨rfl, N93q, e93⟩ := hQ93
    have N93 := Fr.app N88 N93q
    refine Rch.go (U' := T93.setTop (mkF m 160 #[.val (.int p1), .val (.int p2), .val (.int p3), .val (.int p4), .val (.int p5), .val (.int (2 : Int32)), .val (.int c0), .val (.int c1), .val (.int c2), .val (.int c3), .val (.ref b81), .unset] [(.int (own_pr c1))])) st93 ?_
    by_cases br94 : (own_pr c1) = (0 : Int32)
    ·
      refine Rch.go (U' := T93.setTop (mkF m 195 #[.val (.int p1), .val (.int p2), .val (.int p3), .val (.int p4), .val (.int p5), .val (.int (2 : Int32)), .val (.int c0), .val (.int c1), .val (.int c2), .val (.int c3), .val (.ref b81), .unset] [])) (fun _ k => XS.ifYes X93.here hx rfl (pc0 := 160) (pc' := 195) rfl (hb hby at_160) rfl (XT.i0_eq_t br94) (by decide) (by decide) k) ?_
      refine Rch.go (U' := T93.setTop (mkF m 196 #[.val (.int p1), .val (.int p2), .val (.int p3), .val (.int p4), .val (.int p5), .val (.int (2 : Int32)), .val (.int c0), .val (.int c1), .val (.int c2), .val (.int c3), .val (.ref b81), .unset] [(.int (0 : Int32))])) (fun _ k => XS.iconst X93.here hx rfl (hb hby at_195) k) ?_
      refine Rch.go (U' := T93.setTop (mkF m 198 #[.val (.int p1), .val (.int p2), .val (.int p3), .val (.int p4), .val (.int p5), .val (.int (2 : Int32)), .val (.int c0), .val (.int c1), .val (.int c2), .val (.int c3), .val (.ref b81), .val (.int (0 : Int32))] [])) (fun _ k => XS.istore X93.here hx rfl (hb hby at_196) rfl (l' := #[.val (.int p1), .val (.int p2), .val (.int p3), .val (.int p4), .val (.int p5), .val (.int (2 : Int32)), .val (.int c0), .val (.int c1), .val (.int c2), .val (.int c3), .val (.ref b81), .val (.int (0 : Int32))]) rfl k) ?_
      refine Rch.go (U' := T93.setTop (mkF m 200 #[.val (.int p1), .val (.int p2), .val (.int p3), .val (.int p4), .val (.int p5), .val (.int (2 : Int32)), .val (.int c0), .val (.int c1), .val (.int c2), .val (.int c3), .val (.ref b81), .val (.int (0 : Int32))] [(.ref b81)])) (fun _ k => XS.aload X93.here hx rfl (hb hby at_198) rfl rfl k) ?_
      obtain ⟨_, _, ⟨T95, L95, k95, n95⟩, -, X95, ⟨Lc95, hQ95, l95, y95, z95⟩, st95⟩ := Jvm.LawKit.callS X93 hx (y := (⟨"com/example/slotwise/slotwise/commands/ClientCommands", "isValidName", "([B)Z"⟩ : MethodName)) hown (mvT hZ (wi hw 2 rfl)) (mvT hZ (wi hw 3 rfl)) (mvT hZ (wi hw 4 rfl)) (mvT hZ (wi hw 5 rfl)) (by decide) (backOf (W := 0) (rmV2 l Z a0 hw [] b81 k81 c0 c1 h85 n0 z86 V85) hZ (wi hw 5 rfl) (wi hw 4 rfl) (by decide) (by decide)) (g := (mkF m 200 #[.val (.int p1), .val (.int p2), .val (.int p3), .val (.int p4), .val (.int p5), .val (.int (2 : Int32)), .val (.int c0), .val (.int c1), .val (.int c2), .val (.int c3), .val (.ref b81), .val (.int (0 : Int32))] [(.ref b81)])) rfl (by rw [hml]; rfl) (argsL := [(.ref b81)]) (rest := []) (lenOf pd_3 rfl) rfl (by show 2 * 0 + _ ≤ _; exact Nat.le_of_eq rfl) (hb hby at_200) (fun _ _ => ⟨rfl, e93, (by decide : 1 + 0 ≤ _), (by decide : 2 + 0 ≤ _)⟩)
      dsimp only [Pt.U, Pt.locs, Pt.cells, Pt.slots] at X95 l95 y95 z95 st95 hQ95
      subst l95 y95 z95
      obtain ⟨rfl, N95q, e95⟩ := hQ95
      have N95 := Fr.app N93 N95q
      refine Rch.go (U' := T95.setTop (mkF m 203 #[.val (.int p1), .val (.int p2), .val (.int p3), .val (.int p4), .val (.int p5), .val (.int (2 : Int32)), .val (.int c0), .val (.int c1), .val (.int c2), .val (.int c3), .val (.ref b81), .val (.int (0 : Int32))] [(.int (own_chk [c0, c1]))])) st95 ?_
      refine Rch.go (U' := T95.setTop (mkF m 205 #[.val (.int p1), .val (.int p2), .val (.int p3), .val (.int p4), .val (.int p5), .val (.int (2 : Int32)), .val (.int c0), .val (.int c1), .val (.int c2), .val (.int c3), .val (.ref b81), .val (.int (0 : Int32))] [(.int (0 : Int32)), (.int (own_chk [c0, c1]))])) (fun _ k => XS.iload X95.here hx rfl (hb hby at_203) rfl  k) ?_
      have br96 : (own_chk [c0, c1]) = (0 : Int32) := ((own_chk_y r0 br89).trans (own_chk_n r1 br94))
      refine Rch.go (U' := T95.setTop (mkF m 208 #[.val (.int p1), .val (.int p2), .val (.int p3), .val (.int p4), .val (.int p5), .val (.int (2 : Int32)), .val (.int c0), .val (.int c1), .val (.int c2), .val (.int c3), .val (.ref b81), .val (.int (0 : Int32))] [])) (fun _ k => XS.icmpNo X95.here hx rfl (hb hby at_205) rfl (XT.ii_ne_f br96) k) ?_
      refine Rch.go (U' := T95.setTop (mkF m 209 #[.val (.int p1), .val (.int p2), .val (.int p3), .val (.int p4), .val (.int p5), .val (.int (2 : Int32)), .val (.int c0), .val (.int c1), .val (.int c2), .val (.int c3), .val (.ref b81), .val (.int (0 : Int32))] [(.int (1 : Int32))])) (fun _ k => XS.iconst X95.here hx rfl (hb hby at_208) k) ?_
      refine Rch.go (U' := T95.setTop (mkF m 213 #[.val (.int p1), .val (.int p2), .val (.int p3), .val (.int p4), .val (.int p5), .val (.int (2 : Int32)), .val (.int c0), .val (.int c1), .val (.int c2), .val (.int c3), .val (.ref b81), .val (.int (0 : Int32))] [(.int (1 : Int32))])) (fun _ k => XS.goto X95.here hx rfl (pc0 := 209) (pc' := 213) rfl (hb hby at_209) (by decide) (by decide) k) ?_
      refine Rch.fin X95 hlk (v := some (.int (nar .boolean (1 : Int32)))) (fun h => by rw [hret] at h; cases h) e95 (by decide) (by decide) (fun fs hr => retN X95 hx (t := .boolean) hret (by simp) (hb hby at_213) hr) ?_
      exact ⟨rfl, N95⟩
    ·
      refine Rch.go (U' := T93.setTop (mkF m 163 #[.val (.int p1), .val (.int p2), .val (.int p3), .val (.int p4), .val (.int p5), .val (.int (2 : Int32)), .val (.int c0), .val (.int c1), .val (.int c2), .val (.int c3), .val (.ref b81), .unset] [])) (fun _ k => XS.ifNo X93.here hx rfl (hb hby at_160) rfl (XT.i0_eq_f br94) k) ?_
      refine Rch.go (U' := T93.setTop (mkF m 165 #[.val (.int p1), .val (.int p2), .val (.int p3), .val (.int p4), .val (.int p5), .val (.int (2 : Int32)), .val (.int c0), .val (.int c1), .val (.int c2), .val (.int c3), .val (.ref b81), .unset] [(.int (2 : Int32))])) (fun _ k => XS.iload X93.here hx rfl (hb hby at_163) rfl  k) ?_
      refine Rch.go (U' := T93.setTop (mkF m 166 #[.val (.int p1), .val (.int p2), .val (.int p3), .val (.int p4), .val (.int p5), .val (.int (2 : Int32)), .val (.int c0), .val (.int c1), .val (.int c2), .val (.int c3), .val (.ref b81), .unset] [(.int (3 : Int32)), (.int (2 : Int32))])) (fun _ k => XS.iconst X93.here hx rfl (hb hby at_165) k) ?_
      have br97 : (2 : Int32) < (3 : Int32) := (by decide)
      refine Rch.go (U' := T93.setTop (mkF m 177 #[.val (.int p1), .val (.int p2), .val (.int p3), .val (.int p4), .val (.int p5), .val (.int (2 : Int32)), .val (.int c0), .val (.int c1), .val (.int c2), .val (.int c3), .val (.ref b81), .unset] [])) (fun _ k => XS.icmpYes X93.here hx rfl (pc0 := 166) (pc' := 177) rfl (hb hby at_166) rfl (XT.ii_lt_t br97) (by decide) (by decide) k) ?_
      refine Rch.go (U' := T93.setTop (mkF m 179 #[.val (.int p1), .val (.int p2), .val (.int p3), .val (.int p4), .val (.int p5), .val (.int (2 : Int32)), .val (.int c0), .val (.int c1), .val (.int c2), .val (.int c3), .val (.ref b81), .unset] [(.int (2 : Int32))])) (fun _ k => XS.iload X93.here hx rfl (hb hby at_177) rfl  k) ?_
      refine Rch.go (U' := T93.setTop (mkF m 180 #[.val (.int p1), .val (.int p2), .val (.int p3), .val (.int p4), .val (.int p5), .val (.int (2 : Int32)), .val (.int c0), .val (.int c1), .val (.int c2), .val (.int c3), .val (.ref b81), .unset] [(.int (4 : Int32)), (.int (2 : Int32))])) (fun _ k => XS.iconst X93.here hx rfl (hb hby at_179) k) ?_
      have br98 : (2 : Int32) < (4 : Int32) := (by decide)
      refine Rch.go (U' := T93.setTop (mkF m 191 #[.val (.int p1), .val (.int p2), .val (.int p3), .val (.int p4), .val (.int p5), .val (.int (2 : Int32)), .val (.int c0), .val (.int c1), .val (.int c2), .val (.int c3), .val (.ref b81), .unset] [])) (fun _ k => XS.icmpYes X93.here hx rfl (pc0 := 180) (pc' := 191) rfl (hb hby at_180) rfl (XT.ii_lt_t br98) (by decide) (by decide) k) ?_
      refine Rch.go (U' := T93.setTop (mkF m 192 #[.val (.int p1), .val (.int p2), .val (.int p3), .val (.int p4), .val (.int p5), .val (.int (2 : Int32)), .val (.int c0), .val (.int c1), .val (.int c2), .val (.int c3), .val (.ref b81), .unset] [(.int (1 : Int32))])) (fun _ k => XS.iconst X93.here hx rfl (hb hby at_191) k) ?_
      refine Rch.go (U' := T93.setTop (mkF m 196 #[.val (.int p1), .val (.int p2), .val (.int p3), .val (.int p4), .val (.int p5), .val (.int (2 : Int32)), .val (.int c0), .val (.int c1), .val (.int c2), .val (.int c3), .val (.ref b81), .unset] [(.int (1 : Int32))])) (fun _ k => XS.goto X93.here hx rfl (pc0 := 192) (pc' := 196) rfl (hb hby at_192) (by decide) (by decide) k) ?_
      refine Rch.go (U' := T93.setTop (mkF m 198 #[.val (.int p1), .val (.int p2), .val (.int p3), .val (.int p4), .val (.int p5), .val (.int (2 : Int32)), .val (.int c0), .val (.int c1), .val (.int c2), .val (.int c3), .val (.ref b81), .val (.int (1 : Int32))] [])) (fun _ k => XS.istore X93.here hx rfl (hb hby at_196) rfl (l' := #[.val (.int p1), .val (.int p2), .val (.int p3), .val (.int p4), .val (.int p5), .val (.int (2 : Int32)), .val (.int c0), .val (.int c1), .val (.int c2), .val (.int c3), .val (.ref b81), .val (.int (1 : Int32))]) rfl k) ?_
      refine Rch.go (U' := T93.setTop (mkF m 200 #[.val (.int p1), .val (.int p2), .val (.int p3), .val (.int p4), .val (.int p5), .val (.int (2 : Int32)), .val (.int c0), .val (.int c1), .val (.int c2), .val (.int c3), .val (.ref b81), .val (.int (1 : Int32))] [(.ref b81)])) (fun _ k => XS.aload X93.here hx rfl (hb hby at_198) rfl rfl k) ?_
      obtain ⟨_, _, ⟨T99, L99, k99, n99⟩, -, X99, ⟨Lc99, hQ99, l99, y99, z99⟩, st99⟩ := Jvm.LawKit.callS X93 hx (y := (⟨"com/example/slotwise/slotwise/commands/ClientCommands", "isValidName", "([B)Z"⟩ : MethodName)) hown (mvT hZ (wi hw 2 rfl)) (mvT hZ (wi hw 3 rfl)) (mvT hZ (wi hw 4 rfl)) (mvT hZ (wi hw 5 rfl)) (by decide) (backOf (W := 0) (rmV2 l Z a0 hw [] b81 k81 c0 c1 h85 n0 z86 V85) hZ (wi hw 5 rfl) (wi hw 4 rfl) (by decide) (by decide)) (g := (mkF m 200 #[.val (.int p1), .val (.int p2), .val (.int p3), .val (.int p4), .val (.int p5), .val (.int (2 : Int32)), .val (.int c0), .val (.int c1), .val (.int c2), .val (.int c3), .val (.ref b81), .val (.int (1 : Int32))] [(.ref b81)])) rfl (by rw [hml]; rfl) (argsL := [(.ref b81)]) (rest := []) (lenOf pd_3 rfl) rfl (by show 2 * 0 + _ ≤ _; exact Nat.le_of_eq rfl) (hb hby at_200) (fun _ _ => ⟨rfl, e93, (by decide : 1 + 0 ≤ _), (by decide : 2 + 0 ≤ _)⟩)
      dsimp only [Pt.U, Pt.locs, Pt.cells, Pt.slots] at X99 l99 y99 z99 st99 hQ99
      subst l99 y99 z99
      obtain ⟨rfl, N99q, e99⟩ := hQ99
      have N99 := Fr.app N93 N99q
      refine Rch.go (U' := T99.setTop (mkF m 203 #[.val (.int p1), .val (.int p2), .val (.int p3), .val (.int p4), .val (.int p5), .val (.int (2 : Int32)), .val (.int c0), .val (.int c1), .val (.int c2), .val (.int c3), .val (.ref b81), .val (.int (1 : Int32))] [(.int (own_chk [c0, c1]))])) st99 ?_
      refine Rch.go (U' := T99.setTop (mkF m 205 #[.val (.int p1), .val (.int p2), .val (.int p3), .val (.int p4), .val (.int p5), .val (.int (2 : Int32)), .val (.int c0), .val (.int c1), .val (.int c2), .val (.int c3), .val (.ref b81), .val (.int (1 : Int32))] [(.int (1 : Int32)), (.int (own_chk [c0, c1]))])) (fun _ k => XS.iload X99.here hx rfl (hb hby at_203) rfl  k) ?_
      have br100 : (own_chk [c0, c1]) = (1 : Int32) := ((own_chk_y r0 br89).trans ((own_chk_y r1 br94).trans rfl))
      refine Rch.go (U' := T99.setTop (mkF m 208 #[.val (.int p1), .val (.int p2), .val (.int p3), .val (.int p4), .val (.int p5), .val (.int (2 : Int32)), .val (.int c0), .val (.int c1), .val (.int c2), .val (.int c3), .val (.ref b81), .val (.int (1 : Int32))] [])) (fun _ k => XS.icmpNo X99.here hx rfl (hb hby at_205) rfl (XT.ii_ne_f br100) k) ?_
      refine Rch.go (U' := T99.setTop (mkF m 209 #[.val (.int p1), .val (.int p2), .val (.int p3), .val (.int p4), .val (.int p5), .val (.int (2 : Int32)), .val (.int c0), .val (.int c1), .val (.int c2), .val (.int c3), .val (.ref b81), .val (.int (1 : Int32))] [(.int (1 : Int32))])) (fun _ k => XS.iconst X99.here hx rfl (hb hby at_208) k) ?_
      refine Rch.go (U' := T99.setTop (mkF m 213 #[.val (.int p1), .val (.int p2), .val (.int p3), .val (.int p4), .val (.int p5), .val (.int (2 : Int32)), .val (.int c0), .val (.int c1), .val (.int c2), .val (.int c3), .val (.ref b81), .val (.int (1 : Int32))] [(.int (1 : Int32))])) (fun _ k => XS.goto X99.here hx rfl (pc0 := 209) (pc' := 213) rfl (hb hby at_209) (by decide) (by decide) k) ?_
      refine Rch.fin X99 hlk (v := some (.int (nar .boolean (1 : Int32)))) (fun h => by rw [hret] at h; cases h) e99 (by decide) (by decide) (fun fs hr => retN X99 hx (t := .boolean) hret (by simp) (hb hby at_213) hr) ?_
      exact ⟨rfl, N99⟩
set_option maxRecDepth 65536 in
set_option maxHeartbeats 40000000 in
theorem cut25_3 {p : Program} {l : Launch} {e : Env} {s : State} {m : MethodId} {args : Array Value} {below : List Frame} {meth : Method} {c : Code} {T0 : State} {locs : List Loc} {Z : State} {a0 : Array Value} {h0 : Heap} {n0 : Nat}  (p1 : Int32) (p2 : Int32) (p3 : Int32) (p4 : Int32) (p5 : Int32) (c0 : Int32) (c1 : Int32) (c2 : Int32) (c3 : Int32)
    (X0 : Stand p l e room_1 s m args below meth c T0 locs 0 0) (hx : p.tables.exec = Jvm.exec) (hZ : Z.Warmed39 s.vm) (hw : ∀ d ∈ tables_1, d.before a0 Z = true) (hby : c.code = code) (hml : c.maxLocals = 12) (hown : s.vm.findClass "com/example/slotwise/slotwise/commands/ClientCommandsIsValidNamePinLaw" = some m.cls) (hret : meth.sig.returnType = some .boolean) (hlk : meth.locks = false) (e0 : T0.heap = h0) (N0 : Fr n0 locs) (Z0 : n0 ≤ h0.size) (nc0 : nar .byte c0 = c0) (nc1 : nar .byte c1 = c1) (nc2 : nar .byte c2 = c2) (nc3 : nar .byte c3 = c3) (r0 : -128 ≤ c0.toInt ∧ c0.toInt < 128) (r1 : -128 ≤ c1.toInt ∧ c1.toInt < 128) (r2 : -128 ≤ c2.toInt ∧ c2.toInt < 128) (r3 : -128 ≤ c3.toInt ∧ c3.toInt < 128) :
    Rch p e below (Fin s below (fun v h L => v = some (.int 1) ∧ Fr n0 L) 16 128) (T0.setTop (mkF m 25 #[.val (.int p1), .val (.int p2), .val (.int p3), .val (.int p4), .val (.int p5), .val (.int (3 : Int32)), .val (.int c0), .val (.int c1), .val (.int c2), .val (.int c3), .unset, .unset] [])) := by
  refine Rch.go (U' := T0.setTop (mkF m 27 #[.val (.int p1), .val (.int p2), .val (.int p3), .val (.int p4), .val (.int p5), .val (.int (3 : Int32)), .val (.int c0), .val (.int c1), .val (.int c2), .val (.int c3), .unset, .unset] [(.int (3 : Int32))])) (fun _ k => XS.iload X0.here hx rfl (hb hby at_25) rfl  k) ?_
  have br101 : ¬ ((3 : Int32) = (0 : Int32)) := (by decide)
  refine Rch.go (U' := T0.setTop (mkF m 38 #[.val (.int p1), .val (.int p2), .val (.int p3), .val (.int p4), .val (.int p5), .val (.int (3 : Int32)), .val (.int c0), .val (.int c1), .val (.int c2), .val (.int c3), .unset, .unset] [])) (fun _ k => XS.ifYes X0.here hx rfl (pc0 := 27) (pc' := 38) rfl (hb hby at_27) rfl (XT.i0_ne_t br101) (by decide) (by decide) k) ?_
  refine Rch.go (U' := T0.setTop (mkF m 40 #[.val (.int p1), .val (.int p2), .val (.int p3), .val (.int p4), .val (.int p5), .val (.int (3 : Int32)), .val (.int c0), .val (.int c1), .val (.int c2), .val (.int c3), .unset, .unset] [(.int (3 : Int32))])) (fun _ k => XS.iload X0.here hx rfl (hb hby at_38) rfl  k) ?_
  refine Rch.go (U' := T0.setTop (mkF m 41 #[.val (.int p1), .val (.int p2), .val (.int p3), .val (.int p4), .val (.int p5), .val (.int (3 : Int32)), .val (.int c0), .val (.int c1), .val (.int c2), .val (.int c3), .unset, .unset] [(.int (1 : Int32)), (.int (3 : Int32))])) (fun _ k => XS.iconst X0.here hx rfl (hb hby at_40) k) ?_
  have br102 : ¬ ((3 : Int32) = (1 : Int32)) := (by decide)
  refine Rch.go (U' := T0.setTop (mkF m 57 #[.val (.int p1), .val (.int p2), .val (.int p3), .val (.int p4), .val (.int p5), .val (.int (3 : Int32)), .val (.int c0), .val (.int c1), .val (.int c2), .val (.int c3), .unset, .unset] [])) (fun _ k => XS.icmpYes X0.here hx rfl (pc0 := 41) (pc' := 57) rfl (hb hby at_41) rfl (XT.ii_ne_t br102) (by decide) (by decide) k) ?_
  refine Rch.go (U' := T0.setTop (mkF m 59 #[.val (.int p1), .val (.int p2), .val (.int p3), .val (.int p4), .val (.int p5), .val (.int (3 : Int32)), .val (.int c0), .val (.int c1), .val (.int c2), .val (.int c3), .unset, .unset] [(.int (3 : Int32))])) (fun _ k => XS.iload X0.here hx rfl (hb hby at_57) rfl  k) ?_
  refine Rch.go (U' := T0.setTop (mkF m 60 #[.val (.int p1), .val (.int p2), .val (.int p3), .val (.int p4), .val (.int p5), .val (.int (3 : Int32)), .val (.int c0), .val (.int c1), .val (.int c2), .val (.int c3), .unset, .unset] [(.int (2 : Int32)), (.int (3 : Int32))])) (fun _ k => XS.iconst X0.here hx rfl (hb hby at_59) k) ?_
  have br103 : ¬ ((3 : Int32) = (2 : Int32)) := (by decide)
  refine Rch.go (U' := T0.setTop (mkF m 81 #[.val (.int p1), .val (.int p2), .val (.int p3), .val (.int p4), .val (.int p5), .val (.int (3 : Int32)), .val (.int c0), .val (.int c1), .val (.int c2), .val (.int c3), .unset, .unset] [])) (fun _ k => XS.icmpYes X0.here hx rfl (pc0 := 60) (pc' := 81) rfl (hb hby at_60) rfl (XT.ii_ne_t br103) (by decide) (by decide) k) ?_
  refine Rch.go (U' := T0.setTop (mkF m 83 #[.val (.int p1), .val (.int p2), .val (.int p3), .val (.int p4), .val (.int p5), .val (.int (3 : Int32)), .val (.int c0), .val (.int c1), .val (.int c2), .val (.int c3), .unset, .unset] [(.int (3 : Int32))])) (fun _ k => XS.iload X0.here hx rfl (hb hby at_81) rfl  k) ?_
  refine Rch.go (U' := T0.setTop (mkF m 84 #[.val (.int p1), .val (.int p2), .val (.int p3), .val (.int p4), .val (.int p5), .val (.int (3 : Int32)), .val (.int c0), .val (.int c1), .val (.int c2), .val (.int c3), .unset, .unset] [(.int (3 : Int32)), (.int (3 : Int32))])) (fun _ k => XS.iconst X0.here hx rfl (hb hby at_83) k) ?_
  have br104 : (3 : Int32) = (3 : Int32) := (by decide)
  refine Rch.go (U' := T0.setTop (mkF m 87 #[.val (.int p1), .val (.int p2), .val (.int p3), .val (.int p4), .val (.int p5), .val (.int (3 : Int32)), .val (.int c0), .val (.int c1), .val (.int c2), .val (.int c3), .unset, .unset] [])) (fun _ k => XS.icmpNo X0.here hx rfl (hb hby at_84) rfl (XT.ii_ne_f br104) k) ?_
  refine Rch.go (U' := T0.setTop (mkF m 88 #[.val (.int p1), .val (.int p2), .val (.int p3), .val (.int p4), .val (.int p5), .val (.int (3 : Int32)), .val (.int c0), .val (.int c1), .val (.int c2), .val (.int c3), .unset, .unset] [(.int (3 : Int32))])) (fun _ k => XS.iconst X0.here hx rfl (hb hby at_87) k) ?_
  obtain ⟨T105, h105, k105, X105, e105, E105, A105, st105⟩ := newP X0 hx hZ (wi hw 1 rfl) e0 (g := (mkF m 88 #[.val (.int p1), .val (.int p2), .val (.int p3), .val (.int p4), .val (.int p5), .val (.int (3 : Int32)), .val (.int c0), .val (.int c1), .val (.int c2), .val (.int c3), .unset, .unset] [(.int (3 : Int32))])) rfl (hb hby at_88) rfl (by decide) (cap := 3) (by decide) (by decide) (by decide) (by decide)
  obtain ⟨b105, g105⟩ : ∃ z, z = h0.size := ⟨_, rfl⟩
  rw [← g105] at A105 st105
  have n0b105 : n0 ≤ b105 := Nat.le_trans Z0 (Nat.le_of_eq g105.symm)
  have z106 := Nat.le_trans Z0 E105.1
  have V105 : Arv Z h105 b105 k105 .byte (3 : Int32) [(.int (0 : Int32)), (.int (0 : Int32)), (.int (0 : Int32))] (.int (0 : Int32)) := (Arv.new A105 (by decide)).pad (pad_rep [] (.int (0 : Int32)) 3)
  refine Rch.go (U' := T105.setTop (mkF m 90 #[.val (.int p1), .val (.int p2), .val (.int p3), .val (.int p4), .val (.int p5), .val (.int (3 : Int32)), .val (.int c0), .val (.int c1), .val (.int c2), .val (.int c3), .unset, .unset] [(.ref b105)])) st105 ?_
  refine Rch.go (U' := T105.setTop (mkF m 91 #[.val (.int p1), .val (.int p2), .val (.int p3), .val (.int p4), .val (.int p5), .val (.int (3 : Int32)), .val (.int c0), .val (.int c1), .val (.int c2), .val (.int c3), .unset, .unset] [(.ref b105), (.ref b105)])) (fun _ k => XS.dup X105.here hx rfl (hb hby at_90) rfl rfl k) ?_
  refine Rch.go (U' := T105.setTop (mkF m 92 #[.val (.int p1), .val (.int p2), .val (.int p3), .val (.int p4), .val (.int p5), .val (.int (3 : Int32)), .val (.int c0), .val (.int c1), .val (.int c2), .val (.int c3), .unset, .unset] [(.int (0 : Int32)), (.ref b105), (.ref b105)])) (fun _ k => XS.iconst X105.here hx rfl (hb hby at_91) k) ?_
  refine Rch.go (U' := T105.setTop (mkF m 94 #[.val (.int p1), .val (.int p2), .val (.int p3), .val (.int p4), .val (.int p5), .val (.int (3 : Int32)), .val (.int c0), .val (.int c1), .val (.int c2), .val (.int c3), .unset, .unset] [(.int c0), (.int (0 : Int32)), (.ref b105), (.ref b105)])) (fun _ k => XS.iload X105.here hx rfl (hb hby at_92) rfl  k) ?_
  obtain ⟨c107, Ar107, q107, S107, M107, Hs107, G107⟩ := id V105
  have i107 : ¬ ((0 : Int32) < 0 ∨ c107.slots.size ≤ ((0 : Int32)).toNatClampNeg) := inb_of S107 ⟨by decide, by decide⟩
  obtain ⟨T107, h107, X107, e107, W107, st107⟩ := stB X105 hx hZ e105 Ar107 (j := (0 : Int32)) i107 (g := (mkF m 94 #[.val (.int p1), .val (.int p2), .val (.int p3), .val (.int p4), .val (.int p5), .val (.int (3 : Int32)), .val (.int c0), .val (.int c1), .val (.int c2), .val (.int c3), .unset, .unset] [(.int c0), (.int (0 : Int32)), (.ref b105), (.ref b105)])) rfl rfl (hb hby at_94)
  have V107 : Arv Z h107 b105 k105 .byte (3 : Int32) [(.int (nar .byte c0)), (.int (0 : Int32)), (.int (0 : Int32))] (.int (0 : Int32)) := Arv.set Ar107 q107 S107 M107 Hs107 G107 (fits_nar_byte _) W107 0 rfl (Nat.le_of_ble_eq_true rfl)
  rw [nc0] at V107
  have N107 := Fr.snoc X107 N0 n0b105
  have z108 := Nat.le_trans z106 (Keep.of_wr W107).1
  refine Rch.go (U' := T107.setTop (mkF m 95 #[.val (.int p1), .val (.int p2), .val (.int p3), .val (.int p4), .val (.int p5), .val (.int (3 : Int32)), .val (.int c0), .val (.int c1), .val (.int c2), .val (.int c3), .unset, .unset] [(.ref b105)])) st107 ?_
  refine Rch.go (U' := T107.setTop (mkF m 96 #[.val (.int p1), .val (.int p2), .val (.int p3), .val (.int p4), .val (.int p5), .val (.int (3 : Int32)), .val (.int c0), .val (.int c1), .val (.int c2), .val (.int c3), .unset, .unset] [(.ref b105), (.ref b105)])) (fun _ k => XS.dup X107.here hx rfl (hb hby at_95) rfl rfl k) ?_
  refine Rch.go (U' := T107.setTop (mkF m 97 #[.val (.int p1), .val (.int p2), .val (.int p3), .val (.int p4), .val (.int p5), .val (.int (3 : Int32)), .val (.int c0), .val (.int c1), .val (.int c2), .val (.int c3), .unset, .unset] [(.int (1 : Int32)), (.ref b105), (.ref b105)])) (fun _ k => XS.iconst X107.here hx rfl (hb hby at_96) k) ?_
  refine Rch.go (U' := T107.setTop (mkF m 99 #[.val (.int p1), .val (.int p2), .val (.int p3), .val (.int p4), .val (.int p5), .val (.int (3 : Int32)), .val (.int c0), .val (.int c1), .val (.int c2), .val (.int c3), .unset, .unset] [(.int c1), (.int (1 : Int32)), (.ref b105), (.ref b105)])) (fun _ k => XS.iload X107.here hx rfl (hb hby at_97) rfl  k) ?_
  obtain ⟨c109, Ar109, q109, S109, M109, Hs109, G109⟩ := id V107
  have i109 : ¬ ((1 : Int32) < 0 ∨ c109.slots.size ≤ ((1 : Int32)).toNatClampNeg) := inb_of S109 ⟨by decide, by decide⟩
  obtain ⟨T109, h109, X109, e109, W109, st109⟩ := stB X107 hx hZ e107 Ar109 (j := (1 : Int32)) i109 (g := (mkF m 99 #[.val (.int p1), .val (.int p2), .val (.int p3), .val (.int p4), .val (.int p5), .val (.int (3 : Int32)), .val (.int c0), .val (.int c1), .val (.int c2), .val (.int c3), .unset, .unset] [(.int c1), (.int (1 : Int32)), (.ref b105), (.ref b105)])) rfl rfl (hb hby at_99)
  have V109 : Arv Z h109 b105 k105 .byte (3 : Int32) [(.int c0), (.int (nar .byte c1)), (.int (0 : Int32))] (.int (0 : Int32)) := Arv.set Ar109 q109 S109 M109 Hs109 G109 (fits_nar_byte _) W109 1 rfl (Nat.le_of_ble_eq_true rfl)
  rw [nc1] at V109
  have N109 := Fr.snoc X109 N107 n0b105
  have z110 := Nat.le_trans z108 (Keep.of_wr W109).1
  refine Rch.go (U' := T109.setTop (mkF m 100 #[.val (.int p1), .val (.int p2), .val (.int p3), .val (.int p4), .val (.int p5), .val (.int (3 : Int32)), .val (.int c0), .val (.int c1), .val (.int c2), .val (.int c3), .unset, .unset] [(.ref b105)])) st109 ?_
  refine Rch.go (U' := T109.setTop (mkF m 101 #[.val (.int p1), .val (.int p2), .val (.int p3), .val (.int p4), .val (.int p5), .val (.int (3 : Int32)), .val (.int c0), .val (.int c1), .val (.int c2), .val (.int c3), .unset, .unset] [(.ref b105), (.ref b105)])) (fun _ k => XS.dup X109.here hx rfl (hb hby at_100) rfl rfl k) ?_
  refine Rch.go (U' := T109.setTop (mkF m 102 #[.val (.int p1), .val (.int p2), .val (.int p3), .val (.int p4), .val (.int p5), .val (.int (3 : Int32)), .val (.int c0), .val (.int c1), .val (.int c2), .val (.int c3), .unset, .unset] [(.int (2 : Int32)), (.ref b105), (.ref b105)])) (fun _ k => XS.iconst X109.here hx rfl (hb hby at_101) k) ?_
  refine Rch.go (U' := T109.setTop (mkF m 104 #[.val (.int p1), .val (.int p2), .val (.int p3), .val (.int p4), .val (.int p5), .val (.int (3 : Int32)), .val (.int c0), .val (.int c1), .val (.int c2), .val (.int c3), .unset, .unset] [(.int c2), (.int (2 : Int32)), (.ref b105), (.ref b105)])) (fun _ k => XS.iload X109.here hx rfl (hb hby at_102) rfl  k) ?_
  obtain ⟨c111, Ar111, q111, S111, M111, Hs111, G111⟩ := id V109
  have i111 : ¬ ((2 : Int32) < 0 ∨ c111.slots.size ≤ ((2 : Int32)).toNatClampNeg) := inb_of S111 ⟨by decide, by decide⟩
  obtain ⟨T111, h111, X111, e111, W111, st111⟩ := stB X109 hx hZ e109 Ar111 (j := (2 : Int32)) i111 (g := (mkF m 104 #[.val (.int p1), .val (.int p2), .val (.int p3), .val (.int p4), .val (.int p5), .val (.int (3 : Int32)), .val (.int c0), .val (.int c1), .val (.int c2), .val (.int c3), .unset, .unset] [(.int c2), (.int (2 : Int32)), (.ref b105), (.ref b105)])) rfl rfl (hb hby at_104)
  have V111 : Arv Z h111 b105 k105 .byte (3 : Int32) [(.int c0), (.int c1), (.int (nar .byte c2))] (.int (0 : Int32)) := Arv.set Ar111 q111 S111 M111 Hs111 G111 (fits_nar_byte _) W111 2 rfl (Nat.le_of_ble_eq_true rfl)
  rw [nc2] at V111
  have N111 := Fr.snoc X111 N109 n0b105
  have z112 := Nat.le_trans z110 (Keep.of_wr W111).1
  refine Rch.go (U' := T111.setTop (mkF m 105 #[.val (.int p1), .val (.int p2), .val (.int p3), .val (.int p4), .val (.int p5), .val (.int (3 : Int32)), .val (.int c0), .val (.int c1), .val (.int c2), .val (.int c3), .unset, .unset] [(.ref b105)])) st111 ?_
  refine Rch.go (U' := T111.setTop (mkF m 107 #[.val (.int p1), .val (.int p2), .val (.int p3), .val (.int p4), .val (.int p5), .val (.int (3 : Int32)), .val (.int c0), .val (.int c1), .val (.int c2), .val (.int c3), .val (.ref b105), .unset] [])) (fun _ k => XS.astore X111.here hx rfl (hb hby at_105) rfl rfl (l' := #[.val (.int p1), .val (.int p2), .val (.int p3), .val (.int p4), .val (.int p5), .val (.int (3 : Int32)), .val (.int c0), .val (.int c1), .val (.int c2), .val (.int c3), .val (.ref b105), .unset]) rfl k) ?_
  refine Rch.go (U' := T111.setTop (mkF m 135 #[.val (.int p1), .val (.int p2), .val (.int p3), .val (.int p4), .val (.int p5), .val (.int (3 : Int32)), .val (.int c0), .val (.int c1), .val (.int c2), .val (.int c3), .val (.ref b105), .unset] [])) (fun _ k => XS.goto X111.here hx rfl (pc0 := 107) (pc' := 135) rfl (hb hby at_107) (by decide) (by decide) k) ?_
  refine Rch.go (U' := T111.setTop (mkF m 137 #[.val (.int p1), .val (.int p2), .val (.int p3), .val (.int p4), .val (.int p5), .val (.int (3 : Int32)), .val (.int c0), .val (.int c1), .val (.int c2), .val (.int c3), .val (.ref b105), .unset] [(.int (3 : Int32))])) (fun _ k => XS.iload X111.here hx rfl (hb hby at_135) rfl  k) ?_
  refine Rch.go (U' := T111.setTop (mkF m 138 #[.val (.int p1), .val (.int p2), .val (.int p3), .val (.int p4), .val (.int p5), .val (.int (3 : Int32)), .val (.int c0), .val (.int c1), .val (.int c2), .val (.int c3), .val (.ref b105), .unset] [(.int (1 : Int32)), (.int (3 : Int32))])) (fun _ k => XS.iconst X111.here hx rfl (hb hby at_137) k) ?_
  have br113 : ¬ ((3 : Int32) < (1 : Int32)) := (by decide)
  refine Rch.go (U' := T111.setTop (mkF m 141 #[.val (.int p1), .val (.int p2), .val (.int p3), .val (.int p4), .val (.int p5), .val (.int (3 : Int32)), .val (.int c0), .val (.int c1), .val (.int c2), .val (.int c3), .val (.ref b105), .unset] [])) (fun _ k => XS.icmpNo X111.here hx rfl (hb hby at_138) rfl (XT.ii_lt_f br113) k) ?_
  refine Rch.go (U' := T111.setTop (mkF m 143 #[.val (.int p1), .val (.int p2), .val (.int p3), .val (.int p4), .val (.int p5), .val (.int (3 : Int32)), .val (.int c0), .val (.int c1), .val (.int c2), .val (.int c3), .val (.ref b105), .unset] [(.int c0)])) (fun _ k => XS.iload X111.here hx rfl (hb hby at_141) rfl  k) ?_
  obtain ⟨_, _, ⟨T114, L114, k114, n114⟩, -, X114, ⟨Lc114, hQ114, l114, y114, z114⟩, st114⟩ := Jvm.LawKit.callS X111 hx (y := (⟨"com/example/slotwise/slotwise/commands/ClientCommandsIsValidNamePinLaw", "printableNoSpace", "(B)Z"⟩ : MethodName)) hown (mvT hZ (wi hw 6 rfl)) (mvT hZ (wi hw 7 rfl)) (mvT hZ (wi hw 8 rfl)) (mvT hZ (wi hw 9 rfl)) (by decide) (backOf (W := 0) (rmP l Z a0 hw [] c0 h111 n0 z112 ) hZ (wi hw 9 rfl) (wi hw 8 rfl) (by decide) (by decide)) (g := (mkF m 143 #[.val (.int p1), .val (.int p2), .val (.int p3), .val (.int p4), .val (.int p5), .val (.int (3 : Int32)), .val (.int c0), .val (.int c1), .val (.int c2), .val (.int c3), .val (.ref b105), .unset] [(.int c0)])) rfl (by rw [hml]; rfl) (argsL := [(.int c0)]) (rest := []) (lenOf pd_2 rfl) rfl (by show 2 * 0 + _ ≤ _; exact Nat.le_of_eq rfl) (hb hby at_143) (fun _ _ => ⟨rfl, e111, (by decide : 1 + 0 ≤ _), (by decide : 3 + 0 ≤ _)⟩)
  dsimp only [Pt.U, Pt.locs, Pt.cells, Pt.slots] at X114 l114 y114 z114 st114 hQ114
  subst l114 y114 z114
  obtain ⟨rfl, N114q, e114⟩ := hQ114
  have N114 := Fr.app N111 N114q
  refine Rch.go (U' := T114.setTop (mkF m 146 #[.val (.int p1), .val (.int p2), .val (.int p3), .val (.int p4), .val (.int p5), .val (.int (3 : Int32)), .val (.int c0), .val (.int c1), .val (.int c2), .val (.int c3), .val (.ref b105), .unset] [(.int (own_pr c0))])) st114 ?_
  by_cases br115 : (own_pr c0) = (0 : Int32)
  ·
    refine Rch.go (U' := T114.setTop (mkF m 195 #[.val (.int p1), .val (.int p2), .val (.int p3), .val (.int p4), .val (.int p5), .val (.int (3 : Int32)), .val (.int c0), .val (.int c1), .val (.int c2), .val (.int c3), .val (.ref b105), .unset] [])) (fun _ k => XS.ifYes X114.here hx rfl (pc0 := 146) (pc' := 195) rfl (hb hby at_146) rfl (XT.i0_eq_t br115) (by decide) (by decide) k) ?_
    refine Rch.go (U' := T114.setTop (mkF m 196 #[.val (.int p1), .val (.int p2), .val (.int p3), .val (.int p4), .val (.int p5), .val (.int (3 : Int32)), .val (.int c0), .val (.int c1), .val (.int c2), .val (.int c3), .val (.ref b105), .unset] [(.int (0 : Int32))])) (fun _ k => XS.iconst X114.here hx rfl (hb hby at_195) k) ?_
    refine Rch.go (U' := T114.setTop (mkF m 198 #[.val (.int p1), .val (.int p2), .val (.int p3), .val (.int p4), .val (.int p5), .val (.int (3 : Int32)), .val (.int c0), .val (.int c1), .val (.int c2), .val (.int c3), .val (.ref b105), .val (.int (0 : Int32))] [])) (fun _ k => XS.istore X114.here hx rfl (hb hby at_196) rfl (l' := #[.val (.int p1), .val (.int p2), .val (.int p3), .val (.int p4), .val (.int p5), .val (.int (3 : Int32)), .val (.int c0), .val (.int c1), .val (.int c2), .val (.int c3), .val (.ref b105), .val (.int (0 : Int32))]) rfl k) ?_
    refine Rch.go (U' := T114.setTop (mkF m 200 #[.val (.int p1), .val (.int p2), .val (.int p3), .val (.int p4), .val (.int p5), .val (.int (3 : Int32)), .val (.int c0), .val (.int c1), .val (.int c2), .val (.int c3), .val (.ref b105), .val (.int (0 : Int32))] [(.ref b105)])) (fun _ k => XS.aload X114.here hx rfl (hb hby at_198) rfl rfl k) ?_
    obtain ⟨_, _, ⟨T116, L116, k116, n116⟩, -, X116, ⟨Lc116, hQ116, l116, y116, z116⟩, st116⟩ := Jvm.LawKit.callS X114 hx (y := (⟨"com/example/slotwise/slotwise/commands/ClientCommands", "isValidName", "([B)Z"⟩ : MethodName)) hown (mvT hZ (wi hw 2 rfl)) (mvT hZ (wi hw 3 rfl)) (mvT hZ (wi hw 4 rfl)) (mvT hZ (wi hw 5 rfl)) (by decide) (backOf (W := 0) (rmV3 l Z a0 hw [] b105 k105 c0 c1 c2 h111 n0 z112 V111) hZ (wi hw 5 rfl) (wi hw 4 rfl) (by decide) (by decide)) (g := (mkF m 200 #[.val (.int p1), .val (.int p2), .val (.int p3), .val (.int p4), .val (.int p5), .val (.int (3 : Int32)), .val (.int c0), .val (.int c1), .val (.int c2), .val (.int c3), .val (.ref b105), .val (.int (0 : Int32))] [(.ref b105)])) rfl (by rw [hml]; rfl) (argsL := [(.ref b105)]) (rest := []) (lenOf pd_3 rfl) rfl (by show 2 * 0 + _ ≤ _; exact Nat.le_of_eq rfl) (hb hby at_200) (fun _ _ => ⟨rfl, e114, (by decide : 1 + 0 ≤ _), (by decide : 3 + 0 ≤ _)⟩)
    dsimp only [Pt.U, Pt.locs, Pt.cells, Pt.slots] at X116 l116 y116 z116 st116 hQ116
    subst l116 y116 z116
    obtain ⟨rfl, N116q, e116⟩ := hQ116
    have N116 := Fr.app N114 N116q
    refine Rch.go (U' := T116.setTop (mkF m 203 #[.val (.int p1), .val (.int p2), .val (.int p3), .val (.int p4), .val (.int p5), .val (.int (3 : Int32)), .val (.int c0), .val (.int c1), .val (.int c2), .val (.int c3), .val (.ref b105), .val (.int (0 : Int32))] [(.int (own_chk [c0, c1, c2]))])) st116 ?_
    refine Rch.go (U' := T116.setTop (mkF m 205 #[.val (.int p1), .val (.int p2), .val (.int p3), .val (.int p4), .val (.int p5), .val (.int (3 : Int32)), .val (.int c0), .val (.int c1), .val (.int c2), .val (.int c3), .val (.ref b105), .val (.int (0 : Int32))] [(.int (0 : Int32)), (.int (own_chk [c0, c1, c2]))])) (fun _ k => XS.iload X116.here hx rfl (hb hby at_203) rfl  k) ?_
    have br117 : (own_chk [c0, c1, c2]) = (0 : Int32) := (own_chk_n r0 br115)
    refine Rch.go (U' := T116.setTop (mkF m 208 #[.val (.int p1), .val (.int p2), .val (.int p3), .val (.int p4), .val (.int p5), .val (.int (3 : Int32)), .val (.int c0), .val (.int c1), .val (.int c2), .val (.int c3), .val (.ref b105), .val (.int (0 : Int32))] [])) (fun _ k => XS.icmpNo X116.here hx rfl (hb hby at_205) rfl (XT.ii_ne_f br117) k) ?_
    refine Rch.go (U' := T116.setTop (mkF m 209 #[.val (.int p1), .val (.int p2), .val (.int p3), .val (.int p4), .val (.int p5), .val (.int (3 : Int32)), .val (.int c0), .val (.int c1), .val (.int c2), .val (.int c3), .val (.ref b105), .val (.int (0 : Int32))] [(.int (1 : Int32))])) (fun _ k => XS.iconst X116.here hx rfl (hb hby at_208) k) ?_
    refine Rch.go (U' := T116.setTop (mkF m 213 #[.val (.int p1), .val (.int p2), .val (.int p3), .val (.int p4), .val (.int p5), .val (.int (3 : Int32)), .val (.int c0), .val (.int c1), .val (.int c2), .val (.int c3), .val (.ref b105), .val (.int (0 : Int32))] [(.int (1 : Int32))])) (fun _ k => XS.goto X116.here hx rfl (pc0 := 209) (pc' := 213) rfl (hb hby at_209) (by decide) (by decide) k) ?_
    refine Rch.fin X116 hlk (v := some (.int (nar .boolean (1 : Int32)))) (fun h => by rw [hret] at h; cases h) e116 (by decide) (by decide) (fun fs hr => retN X116 hx (t := .boolean) hret (by simp) (hb hby at_213) hr) ?_
    exact ⟨rfl, N116⟩
  ·
    refine Rch.go (U' := T114.setTop (mkF m 149 #[.val (.int p1), .val (.int p2), .val (.int p3), .val (.int p4), .val (.int p5), .val (.int (3 : Int32)), .val (.int c0), .val (.int c1), .val (.int c2), .val (.int c3), .val (.ref b105), .unset] [])) (fun _ k => XS.ifNo X114.here hx rfl (hb hby at_146) rfl (XT.i0_eq_f br115) k) ?_
    refine Rch.go (U' := T114.setTop (mkF m 151 #[.val (.int p1), .val (.int p2), .val (.int p3), .val (.int p4), .val (.int p5), .val (.int (3 : Int32)), .val (.int c0), .val (.int c1), .val (.int c2), .val (.int c3), .val (.ref b105), .unset] [(.int (3 : Int32))])) (fun _ k => XS.iload X114.here hx rfl (hb hby at_149) rfl  k) ?_
    refine Rch.go (U' := T114.setTop (mkF m 152 #[.val (.int p1), .val (.int p2), .val (.int p3), .val (.int p4), .val (.int p5), .val (.int (3 : Int32)), .val (.int c0), .val (.int c1), .val (.int c2), .val (.int c3), .val (.ref b105), .unset] [(.int (2 : Int32)), (.int (3 : Int32))])) (fun _ k => XS.iconst X114.here hx rfl (hb hby at_151) k) ?_
    have br118 : ¬ ((3 : Int32) < (2 : Int32)) := (by decide)
    refine Rch.go (U' := T114.setTop (mkF m 155 #[.val (.int p1), .val (.int p2), .val (.int p3), .val (.int p4), .val (.int p5), .val (.int (3 : Int32)), .val (.int c0), .val (.int c1), .val (.int c2), .val (.int c3), .val (.ref b105), .unset] [])) (fun _ k => XS.icmpNo X114.here hx rfl (hb hby at_152) rfl (XT.ii_lt_f br118) k) ?_
    refine Rch.go (U' := T114.setTop (mkF m 157 #[.val (.int p1), .val (.int p2), .val (.int p3), .val (.int p4), .val (.int p5), .val (.int (3 : Int32)), .val (.int c0), .val (.int c1), .val (.int c2), .val (.int c3), .val (.ref b105), .unset] [(.int c1)])) (fun _ k => XS.iload X114.here hx rfl (hb hby at_155) rfl  k) ?_
    obtain ⟨_, _, ⟨T119, L119, k119, n119⟩, -, X119, ⟨Lc119, hQ119, l119, y119, z119⟩, st119⟩ := Jvm.LawKit.callS X114 hx (y := (⟨"com/example/slotwise/slotwise/commands/ClientCommandsIsValidNamePinLaw", "printableNoSpace", "(B)Z"⟩ : MethodName)) hown (mvT hZ (wi hw 6 rfl)) (mvT hZ (wi hw 7 rfl)) (mvT hZ (wi hw 8 rfl)) (mvT hZ (wi hw 9 rfl)) (by decide) (backOf (W := 0) (rmP l Z a0 hw [] c1 h111 n0 z112 ) hZ (wi hw 9 rfl) (wi hw 8 rfl) (by decide) (by decide)) (g := (mkF m 157 #[.val (.int p1), .val (.int p2), .val (.int p3), .val (.int p4), .val (.int p5), .val (.int (3 : Int32)), .val (.int c0), .val (.int c1), .val (.int c2), .val (.int c3), .val (.ref b105), .unset] [(.int c1)])) rfl (by rw [hml]; rfl) (argsL := [(.int c1)]) (rest := []) (lenOf pd_2 rfl) rfl (by show 2 * 0 + _ ≤ _; exact Nat.le_of_eq rfl) (hb hby at_157) (fun _ _ => ⟨rfl, e114, (by decide : 1 + 0 ≤ _), (by decide : 3 + 0 ≤ _)⟩)
    dsimp only [Pt.U, Pt.locs, Pt.cells, Pt.slots] at X119 l119 y119 z119 st119 hQ119
    subst l119 y119 z119
    obtain ⟨rfl, N119q, e119⟩ := hQ119
    have N119 := Fr.app N114 N119q
    refine Rch.go (U' := T119.setTop (mkF m 160 #[.val (.int p1), .val (.int p2), .val (.int p3), .val (.int p4), .val (.int p5), .val (.int (3 : Int32)), .val (.int c0), .val (.int c1), .val (.int c2), .val (.int c3), .val (.ref b105), .unset] [(.int (own_pr c1))])) st119 ?_
    by_cases br120 : (own_pr c1) = (0 : Int32)
    ·
      refine Rch.go (U' := T119.setTop (mkF m 195 #[.val (.int p1), .val (.int p2), .val (.int p3), .val (.int p4), .val (.int p5), .val (.int (3 : Int32)), .val (.int c0), .val (.int c1), .val (.int c2), .val (.int c3), .val (.ref b105), .unset] [])) (fun _ k => XS.ifYes X119.here hx rfl (pc0 := 160) (pc' := 195) rfl (hb hby at_160) rfl (XT.i0_eq_t br120) (by decide) (by decide) k) ?_
      refine Rch.go (U' := T119.setTop (mkF m 196 #[.val (.int p1), .val (.int p2), .val (.int p3), .val (.int p4), .val (.int p5), .val (.int (3 : Int32)), .val (.int c0), .val (.int c1), .val (.int c2), .val (.int c3), .val (.ref b105), .unset] [(.int (0 : Int32))])) (fun _ k => XS.iconst X119.here hx rfl (hb hby at_195) k) ?_
      refine Rch.go (U' := T119.setTop (mkF m 198 #[.val (.int p1), .val (.int p2), .val (.int p3), .val (.int p4), .val (.int p5), .val (.int (3 : Int32)), .val (.int c0), .val (.int c1), .val (.int c2), .val (.int c3), .val (.ref b105), .val (.int (0 : Int32))] [])) (fun _ k => XS.istore X119.here hx rfl (hb hby at_196) rfl (l' := #[.val (.int p1), .val (.int p2), .val (.int p3), .val (.int p4), .val (.int p5), .val (.int (3 : Int32)), .val (.int c0), .val (.int c1), .val (.int c2), .val (.int c3), .val (.ref b105), .val (.int (0 : Int32))]) rfl k) ?_
      refine Rch.go (U' := T119.setTop (mkF m 200 #[.val (.int p1), .val (.int p2), .val (.int p3), .val (.int p4), .val (.int p5), .val (.int (3 : Int32)), .val (.int c0), .val (.int c1), .val (.int c2), .val (.int c3), .val (.ref b105), .val (.int (0 : Int32))] [(.ref b105)])) (fun _ k => XS.aload X119.here hx rfl (hb hby at_198) rfl rfl k) ?_
      obtain ⟨_, _, ⟨T121, L121, k121, n121⟩, -, X121, ⟨Lc121, hQ121, l121, y121, z121⟩, st121⟩ := Jvm.LawKit.callS X119 hx (y := (⟨"com/example/slotwise/slotwise/commands/ClientCommands", "isValidName", "([B)Z"⟩ : MethodName)) hown (mvT hZ (wi hw 2 rfl)) (mvT hZ (wi hw 3 rfl)) (mvT hZ (wi hw 4 rfl)) (mvT hZ (wi hw 5 rfl)) (by decide) (backOf (W := 0) (rmV3 l Z a0 hw [] b105 k105 c0 c1 c2 h111 n0 z112 V111) hZ (wi hw 5 rfl) (wi hw 4 rfl) (by decide) (by decide)) (g := (mkF m 200 #[.val (.int p1), .val (.int p2), .val (.int p3), .val (.int p4), .val (.int p5), .val (.int (3 : Int32)), .val (.int c0), .val (.int c1), .val (.int c2), .val (.int c3), .val (.ref b105), .val (.int (0 : Int32))] [(.ref b105)])) rfl (by rw [hml]; rfl) (argsL := [(.ref b105)]) (rest := []) (lenOf pd_3 rfl) rfl (by show 2 * 0 + _ ≤ _; exact Nat.le_of_eq rfl) (hb hby at_200) (fun _ _ => ⟨rfl, e119, (by decide : 1 + 0 ≤ _), (by decide : 3 + 0 ≤ _)⟩)
      dsimp only [Pt.U, Pt.locs, Pt.cells, Pt.slots] at X121 l121 y121 z121 st121 hQ121
      subst l121 y121 z121
      obtain ⟨rfl, N121q, e121⟩ := hQ121
      have N121 := Fr.app N119 N121q
      refine Rch.go (U' := T121.setTop (mkF m 203 #[.val (.int p1), .val (.int p2), .val (.int p3), .val (.int p4), .val (.int p5), .val (.int (3 : Int32)), .val (.int c0), .val (.int c1), .val (.int c2), .val (.int c3), .val (.ref b105), .val (.int (0 : Int32))] [(.int (own_chk [c0, c1, c2]))])) st121 ?_
      refine Rch.go (U' := T121.setTop (mkF m 205 #[.val (.int p1), .val (.int p2), .val (.int p3), .val (.int p4), .val (.int p5), .val (.int (3 : Int32)), .val (.int c0), .val (.int c1), .val (.int c2), .val (.int c3), .val (.ref b105), .val (.int (0 : Int32))] [(.int (0 : Int32)), (.int (own_chk [c0, c1, c2]))])) (fun _ k => XS.iload X121.here hx rfl (hb hby at_203) rfl  k) ?_
      have br122 : (own_chk [c0, c1, c2]) = (0 : Int32) := ((own_chk_y r0 br115).trans (own_chk_n r1 br120))
      refine Rch.go (U' := T121.setTop (mkF m 208 #[.val (.int p1), .val (.int p2), .val (.int p3), .val (.int p4), .val (.int p5), .val (.int (3 : Int32)), .val (.int c0), .val (.int c1), .val (.int c2), .val (.int c3), .val (.ref b105), .val (.int (0 : Int32))] [])) (fun _ k => XS.icmpNo X121.here hx rfl (hb hby at_205) rfl (XT.ii_ne_f br122) k) ?_
      refine Rch.go (U' := T121.setTop (mkF m 209 #[.val (.int p1), .val (.int p2), .val (.int p3), .val (.int p4), .val (.int p5), .val (.int (3 : Int32)), .val (.int c0), .val (.int c1), .val (.int c2), .val (.int c3), .val (.ref b105), .val (.int (0 : Int32))] [(.int (1 : Int32))])) (fun _ k => XS.iconst X121.here hx rfl (hb hby at_208) k) ?_
      refine Rch.go (U' := T121.setTop (mkF m 213 #[.val (.int p1), .val (.int p2), .val (.int p3), .val (.int p4), .val (.int p5), .val (.int (3 : Int32)), .val (.int c0), .val (.int c1), .val (.int c2), .val (.int c3), .val (.ref b105), .val (.int (0 : Int32))] [(.int (1 : Int32))])) (fun _ k => XS.goto X121.here hx rfl (pc0 := 209) (pc' := 213) rfl (hb hby at_209) (by decide) (by decide) k) ?_
      refine Rch.fin X121 hlk (v := some (.int (nar .boolean (1 : Int32)))) (fun h => by rw [hret] at h; cases h) e121 (by decide) (by decide) (fun fs hr => retN X121 hx (t := .boolean) hret (by simp) (hb hby at_213) hr) ?_
      exact ⟨rfl, N121⟩
    ·
      refine Rch.go (U' := T119.setTop (mkF m 163 #[.val (.int p1), .val (.int p2), .val (.int p3), .val (.int p4), .val (.int p5), .val (.int (3 : Int32)), .val (.int c0), .val (.int c1), .val (.int c2), .val (.int c3), .val (.ref b105), .unset] [])) (fun _ k => XS.ifNo X119.here hx rfl (hb hby at_160) rfl (XT.i0_eq_f br120) k) ?_
      refine Rch.go (U' := T119.setTop (mkF m 165 #[.val (.int p1), .val (.int p2), .val (.int p3), .val (.int p4), .val (.int p5), .val (.int (3 : Int32)), .val (.int c0), .val (.int c1), .val (.int c2), .val (.int c3), .val (.ref b105), .unset] [(.int (3 : Int32))])) (fun _ k => XS.iload X119.here hx rfl (hb hby at_163) rfl  k) ?_
      refine Rch.go (U' := T119.setTop (mkF m 166 #[.val (.int p1), .val (.int p2), .val (.int p3), .val (.int p4), .val (.int p5), .val (.int (3 : Int32)), .val (.int c0), .val (.int c1), .val (.int c2), .val (.int c3), .val (.ref b105), .unset] [(.int (3 : Int32)), (.int (3 : Int32))])) (fun _ k => XS.iconst X119.here hx rfl (hb hby at_165) k) ?_
      have br123 : ¬ ((3 : Int32) < (3 : Int32)) := (by decide)
      refine Rch.go (U' := T119.setTop (mkF m 169 #[.val (.int p1), .val (.int p2), .val (.int p3), .val (.int p4), .val (.int p5), .val (.int (3 : Int32)), .val (.int c0), .val (.int c1), .val (.int c2), .val (.int c3), .val (.ref b105), .unset] [])) (fun _ k => XS.icmpNo X119.here hx rfl (hb hby at_166) rfl (XT.ii_lt_f br123) k) ?_
      refine Rch.go (U' := T119.setTop (mkF m 171 #[.val (.int p1), .val (.int p2), .val (.int p3), .val (.int p4), .val (.int p5), .val (.int (3 : Int32)), .val (.int c0), .val (.int c1), .val (.int c2), .val (.int c3), .val (.ref b105), .unset] [(.int c2)])) (fun _ k => XS.iload X119.here hx rfl (hb hby at_169) rfl  k) ?_
      obtain ⟨_, _, ⟨T124, L124, k124, n124⟩, -, X124, ⟨Lc124, hQ124, l124, y124, z124⟩, st124⟩ := Jvm.LawKit.callS X119 hx (y := (⟨"com/example/slotwise/slotwise/commands/ClientCommandsIsValidNamePinLaw", "printableNoSpace", "(B)Z"⟩ : MethodName)) hown (mvT hZ (wi hw 6 rfl)) (mvT hZ (wi hw 7 rfl)) (mvT hZ (wi hw 8 rfl)) (mvT hZ (wi hw 9 rfl)) (by decide) (backOf (W := 0) (rmP l Z a0 hw [] c2 h111 n0 z112 ) hZ (wi hw 9 rfl) (wi hw 8 rfl) (by decide) (by decide)) (g := (mkF m 171 #[.val (.int p1), .val (.int p2), .val (.int p3), .val (.int p4), .val (.int p5), .val (.int (3 : Int32)), .val (.int c0), .val (.int c1), .val (.int c2), .val (.int c3), .val (.ref b105), .unset] [(.int c2)])) rfl (by rw [hml]; rfl) (argsL := [(.int c2)]) (rest := []) (lenOf pd_2 rfl) rfl (by show 2 * 0 + _ ≤ _; exact Nat.le_of_eq rfl) (hb hby at_171) (fun _ _ => ⟨rfl, e119, (by decide : 1 + 0 ≤ _), (by decide : 3 + 0 ≤ _)⟩)
      dsimp only [Pt.U, Pt.locs, Pt.cells, Pt.slots] at X124 l124 y124 z124 st124 hQ124
      subst l124 y124 z124
      obtain ⟨rfl, N124q, e124⟩ := hQ124
      have N124 := Fr.app N119 N124q
      refine Rch.go (U' := T124.setTop (mkF m 174 #[.val (.int p1), .val (.int p2), .val (.int p3), .val (.int p4), .val (.int p5), .val (.int (3 : Int32)), .val (.int c0), .val (.int c1), .val (.int c2), .val (.int c3), .val (.ref b105), .unset] [(.int (own_pr c2))])) st124 ?_
      by_cases br125 : (own_pr c2) = (0 : Int32)
      ·
        refine Rch.go (U' := T124.setTop (mkF m 195 #[.val (.int p1), .val (.int p2), .val (.int p3), .val (.int p4), .val (.int p5), .val (.int (3 : Int32)), .val (.int c0), .val (.int c1), .val (.int c2), .val (.int c3), .val (.ref b105), .unset] [])) (fun _ k => XS.ifYes X124.here hx rfl (pc0 := 174) (pc' := 195) rfl (hb hby at_174) rfl (XT.i0_eq_t br125) (by decide) (by decide) k) ?_
        refine Rch.go (U' := T124.setTop (mkF m 196 #[.val (.int p1), .val (.int p2), .val (.int p3), .val (.int p4), .val (.int p5), .val (.int (3 : Int32)), .val (.int c0), .val (.int c1), .val (.int c2), .val (.int c3), .val (.ref b105), .unset] [(.int (0 : Int32))])) (fun _ k => XS.iconst X124.here hx rfl (hb hby at_195) k) ?_
        refine Rch.go (U' := T124.setTop (mkF m 198 #[.val (.int p1), .val (.int p2), .val (.int p3), .val (.int p4), .val (.int p5), .val (.int (3 : Int32)), .val (.int c0), .val (.int c1), .val (.int c2), .val (.int c3), .val (.ref b105), .val (.int (0 : Int32))] [])) (fun _ k => XS.istore X124.here hx rfl (hb hby at_196) rfl (l' := #[.val (.int p1), .val (.int p2), .val (.int p3), .val (.int p4), .val (.int p5), .val (.int (3 : Int32)), .val (.int c0), .val (.int c1), .val (.int c2), .val (.int c3), .val (.ref b105), .val (.int (0 : Int32))]) rfl k) ?_
        refine Rch.go (U' := T124.setTop (mkF m 200 #[.val (.int p1), .val (.int p2), .val (.int p3), .val (.int p4), .val (.int p5), .val (.int (3 : Int32)), .val (.int c0), .val (.int c1), .val (.int c2), .val (.int c3), .val (.ref b105), .val (.int (0 : Int32))] [(.ref b105)])) (fun _ k => XS.aload X124.here hx rfl (hb hby at_198) rfl rfl k) ?_
        obtain ⟨_, _, ⟨T126, L126, k126, n126⟩, -, X126, ⟨Lc126, hQ126, l126, y126, z126⟩, st126⟩ := Jvm.LawKit.callS X124 hx (y := (⟨"com/example/slotwise/slotwise/commands/ClientCommands", "isValidName", "([B)Z"⟩ : MethodName)) hown (mvT hZ (wi hw 2 rfl)) (mvT hZ (wi hw 3 rfl)) (mvT hZ (wi hw 4 rfl)) (mvT hZ (wi hw 5 rfl)) (by decide) (backOf (W := 0) (rmV3 l Z a0 hw [] b105 k105 c0 c1 c2 h111 n0 z112 V111) hZ (wi hw 5 rfl) (wi hw 4 rfl) (by decide) (by decide)) (g := (mkF m 200 #[.val (.int p1), .val (.int p2), .val (.int p3), .val (.int p4), .val (.int p5), .val (.int (3 : Int32)), .val (.int c0), .val (.int c1), .val (.int c2), .val (.int c3), .val (.ref b105), .val (.int (0 : Int32))] [(.ref b105)])) rfl (by rw [hml]; rfl) (argsL := [(.ref b105)]) (rest := []) (lenOf pd_3 rfl) rfl (by show 2 * 0 + _ ≤ _; exact Nat.le_of_eq rfl) (hb hby at_200) (fun _ _ => ⟨rfl, e124, (by decide : 1 + 0 ≤ _), (by decide : 3 + 0 ≤ _)⟩)
        dsimp only [Pt.U, Pt.locs, Pt.cells, Pt.slots] at X126 l126 y126 z126 st126 hQ126
        subst l126 y126 z126
        obtain ⟨rfl, N126q, e126⟩ := hQ126
        have N126 := Fr.app N124 N126q
        refine Rch.go (U' := T126.setTop (mkF m 203 #[.val (.int p1), .val (.int p2), .val (.int p3), .val (.int p4), .val (.int p5), .val (.int (3 : Int32)), .val (.int c0), .val (.int c1), .val (.int c2), .val (.int c3), .val (.ref b105), .val (.int (0 : Int32))] [(.int (own_chk [c0, c1, c2]))])) st126 ?_
        refine Rch.go (U' := T126.setTop (mkF m 205 #[.val (.int p1), .val (.int p2), .val (.int p3), .val (.int p4), .val (.int p5), .val (.int (3 : Int32)), .val (.int c0), .val (.int c1), .val (.int c2), .val (.int c3), .val (.ref b105), .val (.int (0 : Int32))] [(.int (0 : Int32)), (.int (own_chk [c0, c1, c2]))])) (fun _ k => XS.iload X126.here hx rfl (hb hby at_203) rfl  k) ?_
        have br127 : (own_chk [c0, c1, c2]) = (0 : Int32) := ((own_chk_y r0 br115).trans ((own_chk_y r1 br120).trans (own_chk_n r2 br125)))
        refine Rch.go (U' := T126.setTop (mkF m 208 #[.val (.int p1), .val (.int p2), .val (.int p3), .val (.int p4), .val (.int p5), .val (.int (3 : Int32)), .val (.int c0), .val (.int c1), .val (.int c2), .val (.int c3), .val (.ref b105), .val (.int (0 : Int32))] [])) (fun _ k => XS.icmpNo X126.here hx rfl (hb hby at_205) rfl (XT.ii_ne_f br127) k) ?_
        refine Rch.go (U' := T126.setTop (mkF m 209 #[.val (.int p1), .val (.int p2), .val (.int p3), .val (.int p4), .val (.int p5), .val (.int (3 : Int32)), .val (.int c0), .val (.int c1), .val (.int c2), .val (.int c3), .val (.ref b105), .val (.int (0 : Int32))] [(.int (1 : Int32))])) (fun _ k => XS.iconst X126.here hx rfl (hb hby at_208) k) ?_
        refine Rch.go (U' := T126.setTop (mkF m 213 #[.val (.int p1), .val (.int p2), .val (.int p3), .val (.int p4), .val (.int p5), .val (.int (3 : Int32)), .val (.int c0), .val (.int c1), .val (.int c2), .val (.int c3), .val (.ref b105), .val (.int (0 : Int32))] [(.int (1 : Int32))])) (fun _ k => XS.goto X126.here hx rfl (pc0 := 209) (pc' := 213) rfl (hb hby at_209) (by decide) (by decide) k) ?_
        refine Rch.fin X126 hlk (v := some (.int (nar .boolean (1 : Int32)))) (fun h => by rw [hret] at h; cases h) e126 (by decide) (by decide) (fun fs hr => retN X126 hx (t := .boolean) hret (by simp) (hb hby at_213) hr) ?_
        exact ⟨rfl, N126⟩
      ·
        refine Rch.go (U' := T124.setTop (mkF m 177 #[.val (.int p1), .val (.int p2), .val (.int p3), .val (.int p4), .val (.int p5), .val (.int (3 : Int32)), .val (.int c0), .val (.int c1), .val (.int c2), .val (.int c3), .val (.ref b105), .unset] [])) (fun _ k => XS.ifNo X124.here hx rfl (hb hby at_174) rfl (XT.i0_eq_f br125) k) ?_
        refine Rch.go (U' := T124.setTop (mkF m 179 #[.val (.int p1), .val (.int p2), .val (.int p3), .val (.int p4), .val (.int p5), .val (.int (3 : Int32)), .val (.int c0), .val (.int c1), .val (.int c2), .val (.int c3), .val (.ref b105), .unset] [(.int (3 : Int32))])) (fun _ k => XS.iload X124.here hx rfl (hb hby at_177) rfl  k) ?_
        refine Rch.go (U' := T124.setTop (mkF m 180 #[.val (.int p1), .val (.int p2), .val (.int p3), .val (.int p4), .val (.int p5), .val (.int (3 : Int32)), .val (.int c0), .val (.int c1), .val (.int c2), .val (.int c3), .val (.ref b105), .unset] [(.int (4 : Int32)), (.int (3 : Int32))])) (fun _ k => XS.iconst X124.here hx rfl (hb hby at_179) k) ?_
        have br128 : (3 : Int32) < (4 : Int32) := (by decide)
        refine Rch.go (U' := T124.setTop (mkF m 191 #[.val (.int p1), .val (.int p2), .val (.int p3), .val (.int p4), .val (.int p5), .val (.int (3 : Int32)), .val (.int c0), .val (.int c1), .val (.int c2), .val (.int c3), .val (.ref b105), .unset] [])) (fun _ k => XS.icmpYes X124.here hx rfl (pc0 := 180) (pc' := 191) rfl (hb hby at_180) rfl (XT.ii_lt_t br128) (by decide) (by decide) k) ?_
        refine Rch.go (U' := T124.setTop (mkF m 192 #[.val (.int p1), .val (.int p2), .val (.int p3), .val (.int p4), .val (.int p5), .val (.int (3 : Int32)), .val (.int c0), .val (.int c1), .val (.int c2), .val (.int c3), .val (.ref b105), .unset] [(.int (1 : Int32))])) (fun _ k => XS.iconst X124.here hx rfl (hb hby at_191) k) ?_
        refine Rch.go (U' := T124.setTop (mkF m 196 #[.val (.int p1), .val (.int p2), .val (.int p3), .val (.int p4), .val (.int p5), .val (.int (3 : Int32)), .val (.int c0), .val (.int c1), .val (.int c2), .val (.int c3), .val (.ref b105), .unset] [(.int (1 : Int32))])) (fun _ k => XS.goto X124.here hx rfl (pc0 := 192) (pc' := 196) rfl (hb hby at_192) (by decide) (by decide) k) ?_
        refine Rch.go (U' := T124.setTop (mkF m 198 #[.val (.int p1), .val (.int p2), .val (.int p3), .val (.int p4), .val (.int p5), .val (.int (3 : Int32)), .val (.int c0), .val (.int c1), .val (.int c2), .val (.int c3), .val (.ref b105), .val (.int (1 : Int32))] [])) (fun _ k => XS.istore X124.here hx rfl (hb hby at_196) rfl (l' := #[.val (.int p1), .val (.int p2), .val (.int p3), .val (.int p4), .val (.int p5), .val (.int (3 : Int32)), .val (.int c0), .val (.int c1), .val (.int c2), .val (.int c3), .val (.ref b105), .val (.int (1 : Int32))]) rfl k) ?_
        refine Rch.go (U' := T124.setTop (mkF m 200 #[.val (.int p1), .val (.int p2), .val (.int p3), .val (.int p4), .val (.int p5), .val (.int (3 : Int32)), .val (.int c0), .val (.int c1), .val (.int c2), .val (.int c3), .val (.ref b105), .val (.int (1 : Int32))] [(.ref b105)])) (fun _ k => XS.aload X124.here hx rfl (hb hby at_198) rfl rfl k) ?_
        obtain ⟨_, _, ⟨T129, L129, k129, n129⟩, -, X129, ⟨Lc129, hQ129, l129, y129, z129⟩, st129⟩ := Jvm.LawKit.callS X124 hx (y := (⟨"com/example/slotwise/slotwise/commands/ClientCommands", "isValidName", "([B)Z"⟩ : MethodName)) hown (mvT hZ (wi hw 2 rfl)) (mvT hZ (wi hw 3 rfl)) (mvT hZ (wi hw 4 rfl)) (mvT hZ (wi hw 5 rfl)) (by decide) (backOf (W := 0) (rmV3 l Z a0 hw [] b105 k105 c0 c1 c2 h111 n0 z112 V111) hZ (wi hw 5 rfl) (wi hw 4 rfl) (by decide) (by decide)) (g := (mkF m 200 #[.val (.int p1), .val (.int p2), .val (.int p3), .val (.int p4), .val (.int p5), .val (.int (3 : Int32)), .val (.int c0), .val (.int c1), .val (.int c2), .val (.int c3), .val (.ref b105), .val (.int (1 : Int32))] [(.ref b105)])) rfl (by rw [hml]; rfl) (argsL := [(.ref b105)]) (rest := []) (lenOf pd_3 rfl) rfl (by show 2 * 0 + _ ≤ _; exact Nat.le_of_eq rfl) (hb hby at_200) (fun _ _ => ⟨rfl, e124, (by decide : 1 + 0 ≤ _), (by decide : 3 + 0 ≤ _)⟩)
        dsimp only [Pt.U, Pt.locs, Pt.cells, Pt.slots] at X129 l129 y129 z129 st129 hQ129
        subst l129 y129 z129
        obtain ⟨rfl, N129q, e129⟩ := hQ129
        have N129 := Fr.app N124 N129q
        refine Rch.go (U' := T129.setTop (mkF m 203 #[.val (.int p1), .val (.int p2), .val (.int p3), .val (.int p4), .val (.int p5), .val (.int (3 : Int32)), .val (.int c0), .val (.int c1), .val (.int c2), .val (.int c3), .val (.ref b105), .val (.int (1 : Int32))] [(.int (own_chk [c0, c1, c2]))])) st129 ?_
        refine Rch.go (U' := T129.setTop (mkF m 205 #[.val (.int p1), .val (.int p2), .val (.int p3), .val (.int p4), .val (.int p5), .val (.int (3 : Int32)), .val (.int c0), .val (.int c1), .val (.int c2), .val (.int c3), .val (.ref b105), .val (.int (1 : Int32))] [(.int (1 : Int32)), (.int (own_chk [c0, c1, c2]))])) (fun _ k => XS.iload X129.here hx rfl (hb hby at_203) rfl  k) ?_
        have br130 : (own_chk [c0, c1, c2]) = (1 : Int32) := ((own_chk_y r0 br115).trans ((own_chk_y r1 br120).trans ((own_chk_y r2 br125).trans rfl)))
        refine Rch.go (U' := T129.setTop (mkF m 208 #[.val (.int p1), .val (.int p2), .val (.int p3), .val (.int p4), .val (.int p5), .val (.int (3 : Int32)), .val (.int c0), .val (.int c1), .val (.int c2), .val (.int c3), .val (.ref b105), .val (.int (1 : Int32))] [])) (fun _ k => XS.icmpNo X129.here hx rfl (hb hby at_205) rfl (XT.ii_ne_f br130) k) ?_
        refine Rch.go (U' := T129.setTop (mkF m 209 #[.val (.int p1), .val (.int p2), .val (.int p3), .val (.int p4), .val (.int p5), .val (.int (3 : Int32)), .val (.int c0), .val (.int c1), .val (.int c2), .val (.int c3), .val (.ref b105), .val (.int (1 : Int32))] [(.int (1 : Int32))])) (fun _ k => XS.iconst X129.here hx rfl (hb hby at_208) k) ?_
        refine Rch.go (U' := T129.setTop (mkF m 213 #[.val (.int p1), .val (.int p2), .val (.int p3), .val (.int p4), .val (.int p5), .val (.int (3 : Int32)), .val (.int c0), .val (.int c1), .val (.int c2), .val (.int c3), .val (.ref b105), .val (.int (1 : Int32))] [(.int (1 : Int32))])) (fun _ k => XS.goto X129.here hx rfl (pc0 := 209) (pc' := 213) rfl (hb hby at_209) (by decide) (by decide) k) ?_
        refine Rch.fin X129 hlk (v := some (.int (nar .boolean (1 : Int32)))) (fun h => by rw [hret] at h; cases h) e129 (by decide) (by decide) (fun fs hr => retN X129 hx (t := .boolean) hret (by simp) (hb hby at_213) hr) ?_
        exact ⟨rfl, N129⟩
set_option maxRecDepth 65536 in
set_option maxHeartbeats 40000000 in
theorem cut25_4 {p : Program} {l : Launch} {e : Env} {s : State} {m : MethodId} {args : Array Value} {below : List Frame} {meth : Method} {c : Code} {T0 : State} {locs : List Loc} {Z : State} {a0 : Array Value} {h0 : Heap} {n0 : Nat}  (p1 : Int32) (p2 : Int32) (p3 : Int32) (p4 : Int32) (p5 : Int32) (c0 : Int32) (c1 : Int32) (c2 : Int32) (c3 : Int32)
    (X0 : Stand p l e room_1 s m args below meth c T0 locs 0 0) (hx : p.tables.exec = Jvm.exec) (hZ : Z.Warmed39 s.vm) (hw : ∀ d ∈ tables_1, d.before a0 Z = true) (hby : c.code = code) (hml : c.maxLocals = 12) (hown : s.vm.findClass "com/example/slotwise/slotwise/commands/ClientCommandsIsValidNamePinLaw" = some m.cls) (hret : meth.sig.returnType = some .boolean) (hlk : meth.locks = false) (e0 : T0.heap = h0) (N0 : Fr n0 locs) (Z0 : n0 ≤ h0.size) (nc0 : nar .byte c0 = c0) (nc1 : nar .byte c1 = c1) (nc2 : nar .byte c2 = c2) (nc3 : nar .byte c3 = c3) (r0 : -128 ≤ c0.toInt ∧ c0.toInt < 128) (r1 : -128 ≤ c1.toInt ∧ c1.toInt < 128) (r2 : -128 ≤ c2.toInt ∧ c2.toInt < 128) (r3 : -128 ≤ c3.toInt ∧ c3.toInt < 128) :
    Rch p e below (Fin s below (fun v h L => v = some (.int 1) ∧ Fr n0 L) 16 128) (T0.setTop (mkF m 25 #[.val (.int p1), .val (.int p2), .val (.int p3), .val (.int p4), .val (.int p5), .val (.int (4 : Int32)), .val (.int c0), .val (.int c1), .val (.int c2), .val (.int c3), .unset, .unset] [])) := by
  refine Rch.go (U' := T0.setTop (mkF m 27 #[.val (.int p1), .val (.int p2), .val (.int p3), .val (.int p4), .val (.int p5), .val (.int (4 : Int32)), .val (.int c0), .val (.int c1), .val (.int c2), .val (.int c3), .unset, .unset] [(.int (4 : Int32))])) (fun _ k => XS.iload X0.here hx rfl (hb hby at_25) rfl  k) ?_
  have br131 : ¬ ((4 : Int32) = (0 : Int32)) := (by decide)
  refine Rch.go (U' := T0.setTop (mkF m 38 #[.val (.int p1), .val (.int p2), .val (.int p3), .val (.int p4), .val (.int p5), .val (.int (4 : Int32)), .val (.int c0), .val (.int c1), .val (.int c2), .val (.int c3), .unset, .unset] [])) (fun _ k => XS.ifYes X0.here hx rfl (pc0 := 27) (pc' := 38) rfl (hb hby at_27) rfl (XT.i0_ne_t br131) (by decide) (by decide) k) ?_
  refine Rch.go (U' := T0.setTop (mkF m 40 #[.val (.int p1), .val (.int p2), .val (.int p3), .val (.int p4), .val (.int p5), .val (.int (4 : Int32)), .val (.int c0), .val (.int c1), .val (.int c2), .val (.int c3), .unset, .unset] [(.int (4 : Int32))])) (fun _ k => XS.iload X0.here hx rfl (hb hby at_38) rfl  k) ?_
  refine Rch.go (U' := T0.setTop (mkF m 41 #[.val (.int p1), .val (.int p2), .val (.int p3), .val (.int p4), .val (.int p5), .val (.int (4 : Int32)), .val (.int c0), .val (.int c1), .val (.int c2), .val (.int c3), .unset, .unset] [(.int (1 : Int32)), (.int (4 : Int32))])) (fun _ k => XS.iconst X0.here hx rfl (hb hby at_40) k) ?_
  have br132 : ¬ ((4 : Int32) = (1 : Int32)) := (by decide)
  refine Rch.go (U' := T0.setTop (mkF m 57 #[.val (.int p1), .val (.int p2), .val (.int p3), .val (.int p4), .val (.int p5), .val (.int (4 : Int32)), .val (.int c0), .val (.int c1), .val (.int c2), .val (.int c3), .unset, .unset] [])) (fun _ k => XS.icmpYes X0.here hx rfl (pc0 := 41) (pc' := 57) rfl (hb hby at_41) rfl (XT.ii_ne_t br132) (by decide) (by decide) k) ?_
  refine Rch.go (U' := T0.setTop (mkF m 59 #[.val (.int p1), .val (.int p2), .val (.int p3), .val (.int p4), .val (.int p5), .val (.int (4 : Int32)), .val (.int c0), .val (.int c1), .val (.int c2), .val (.int c3), .unset, .unset] [(.int (4 : Int32))])) (fun _ k => XS.iload X0.here hx rfl (hb hby at_57) rfl  k) ?_
  refine Rch.go (U' := T0.setTop (mkF m 60 #[.val (.int p1), .val (.int p2), .val (.int p3), .val (.int p4), .val (.int p5), .val (.int (4 : Int32)), .val (.int c0), .val (.int c1), .val (.int c2), .val (.int c3), .unset, .unset] [(.int (2 : Int32)), (.int (4 : Int32))])) (fun _ k => XS.iconst X0.here hx rfl (hb hby at_59) k) ?_
  have br133 : ¬ ((4 : Int32) = (2 : Int32)) := (by decide)
  refine Rch.go (U' := T0.setTop (mkF m 81 #[.val (.int p1), .val (.int p2), .val (.int p3), .val (.int p4), .val (.int p5), .val (.int (4 : Int32)), .val (.int c0), .val (.int c1), .val (.int c2), .val (.int c3), .unset, .unset] [])) (fun _ k => XS.icmpYes X0.here hx rfl (pc0 := 60) (pc' := 81) rfl (hb hby at_60) rfl (XT.ii_ne_t br133) (by decide) (by decide) k) ?_
  refine Rch.go (U' := T0.setTop (mkF m 83 #[.val (.int p1), .val (.int p2), .val (.int p3), .val (.int p4), .val (.int p5), .val (.int (4 : Int32)), .val (.int c0), .val (.int c1), .val (.int c2), .val (.int c3), .unset, .unset] [(.int (4 : Int32))])) (fun _ k => XS.iload X0.here hx rfl (hb hby at_81) rfl  k) ?_
  refine Rch.go (U' := T0.setTop (mkF m 84 #[.val (.int p1), .val (.int p2), .val (.int p3), .val (.int p4), .val (.int p5), .val (.int (4 : Int32)), .val (.int c0), .val (.int c1), .val (.int c2), .val (.int c3), .unset, .unset] [(.int (3 : Int32)), (.int (4 : Int32))])) (fun _ k => XS.iconst X0.here hx rfl (hb hby at_83) k) ?_
  have br134 : ¬ ((4 : Int32) = (3 : Int32)) := (by decide)
  refine Rch.go (U' := T0.setTop (mkF m 110 #[.val (.int p1), .val (.int p2), .val (.int p3), .val (.int p4), .val (.int p5), .val (.int (4 : Int32)), .val (.int c0), .val (.int c1), .val (.int c2), .val (.int c3), .unset, .unset] [])) (fun _ k => XS.icmpYes X0.here hx rfl (pc0 := 84) (pc' := 110) rfl (hb hby at_84) rfl (XT.ii_ne_t br134) (by decide) (by decide) k) ?_
  refine Rch.go (U' := T0.setTop (mkF m 111 #[.val (.int p1), .val (.int p2), .val (.int p3), .val (.int p4), .val (.int p5), .val (.int (4 : Int32)), .val (.int c0), .val (.int c1), .val (.int c2), .val (.int c3), .unset, .unset] [(.int (4 : Int32))])) (fun _ k => XS.iconst X0.here hx rfl (hb hby at_110) k) ?_
  obtain ⟨T135, h135, k135, X135, e135, E135, A135, st135⟩ := newP X0 hx hZ (wi hw 1 rfl) e0 (g := (mkF m 111 #[.val (.int p1), .val (.int p2), .val (.int p3), .val (.int p4), .val (.int p5), .val (.int (4 : Int32)), .val (.int c0), .val (.int c1), .val (.int c2), .val (.int c3), .unset, .unset] [(.int (4 : Int32))])) rfl (hb hby at_111) rfl (by decide) (cap := 4) (by decide) (by decide) (by decide) (by decide)
  obtain ⟨b135, g135⟩ : ∃ z, z = h0.size := ⟨_, rfl⟩
  rw [← g135] at A135 st135
  have n0b135 : n0 ≤ b135 := Nat.le_trans Z0 (Nat.le_of_eq g135.symm)
  have z136 := Nat.le_trans Z0 E135.1
  have V135 : Arv Z h135 b135 k135 .byte (4 : Int32) [(.int (0 : Int32)), (.int (0 : Int32)), (.int (0 : Int32)), (.int (0 : Int32))] (.int (0 : Int32)) := (Arv.new A135 (by decide)).pad (pad_rep [] (.int (0 : Int32)) 4)
  refine Rch.go (U' := T135.setTop (mkF m 113 #[.val (.int p1), .val (.int p2), .val (.int p3), .val (.int p4), .val (.int p5), .val (.int (4 : Int32)), .val (.int c0), .val (.int c1), .val (.int c2), .val (.int c3), .unset, .unset] [(.ref b135)])) st135 ?_
  refine Rch.go (U' := T135.setTop (mkF m 114 #[.val (.int p1), .val (.int p2), .val (.int p3), .val (.int p4), .val (.int p5), .val (.int (4 : Int32)), .val (.int c0), .val (.int c1), .val (.int c2), .val (.int c3), .unset, .unset] [(.ref b135), (.ref b135)])) (fun _ k => XS.dup X135.here hx rfl (hb hby at_113) rfl rfl k) ?_
  refine Rch.go (U' := T135.setTop (mkF m 115 #[.val (.int p1), .val (.int p2), .val (.int p3), .val (.int p4), .val (.int p5), .val (.int (4 : Int32)), .val (.int c0), .val (.int c1), .val (.int c2), .val (.int c3), .unset, .unset] [(.int (0 : Int32)), (.ref b135), (.ref b135)])) (fun _ k => XS.iconst X135.here hx rfl (hb hby at_114) k) ?_
  refine Rch.go (U' := T135.setTop (mkF m 117 #[.val (.int p1), .val (.int p2), .val (.int p3), .val (.int p4), .val (.int p5), .val (.int (4 : Int32)), .val (.int c0), .val (.int c1), .val (.int c2), .val (.int c3), .unset, .unset] [(.int c0), (.int (0 : Int32)), (.ref b135), (.ref b135)])) (fun _ k => XS.iload X135.here hx rfl (hb hby at_115) rfl  k) ?_
  obtain ⟨c137, Ar137, q137, S137, M137, Hs137, G137⟩ := id V135
  have i137 : ¬ ((0 : Int32) < 0 ∨ c137.slots.size ≤ ((0 : Int32)).toNatClampNeg) := inb_of S137 ⟨by decide, by decide⟩
  obtain ⟨T137, h137, X137, e137, W137, st137⟩ := stB X135 hx hZ e135 Ar137 (j := (0 : Int32)) i137 (g := (mkF m 117 #[.val (.int p1), .val (.int p2), .val (.int p3), .val (.int p4), .val (.int p5), .val (.int (4 : Int32)), .val (.int c0), .val (.int c1), .val (.int c2), .val (.int c3), .unset, .unset] [(.int c0), (.int (0 : Int32)), (.ref b135), (.ref b135)])) rfl rfl (hb hby at_117)
  have V137 : Arv Z h137 b135 k135 .byte (4 : Int32) [(.int (nar .byte c0)), (.int (0 : Int32)), (.int (0 : Int32)), (.int (0 : Int32))] (.int (0 : Int32)) := Arv.set Ar137 q137 S137 M137 Hs137 G137 (fits_nar_byte _) W137 0 rfl (Nat.le_of_ble_eq_true rfl)
  rw [nc0] at V137
  have N137 := Fr.snoc X137 N0 n0b135
  have z138 := Nat.le_trans z136 (Keep.of_wr W137).1
  refine Rch.go (U' := T137.setTop (mkF m 118 #[.val (.int p1), .val (.int p2), .val (.int p3), .val (.int p4), .val (.int p5), .val (.int (4 : Int32)), .val (.int c0), .val (.int c1), .val (.int c2), .val (.int c3), .unset, .unset] [(.ref b135)])) st137 ?_
  refine Rch.go (U' := T137.setTop (mkF m 119 #[.val (.int p1), .val (.int p2), .val (.int p3), .val (.int p4), .val (.int p5), .val (.int (4 : Int32)), .val (.int c0), .val (.int c1), .val (.int c2), .val (.int c3), .unset, .unset] [(.ref b135), (.ref b135)])) (fun _ k => XS.dup X137.here hx rfl (hb hby at_118) rfl rfl k) ?_
  refine Rch.go (U' := T137.setTop (mkF m 120 #[.val (.int p1), .val (.int p2), .val (.int p3), .val (.int p4), .val (.int p5), .val (.int (4 : Int32)), .val (.int c0), .val (.int c1), .val (.int c2), .val (.int c3), .unset, .unset] [(.int (1 : Int32)), (.ref b135), (.ref b135)])) (fun _ k => XS.iconst X137.here hx rfl (hb hby at_119) k) ?_
  refine Rch.go (U' := T137.setTop (mkF m 122 #[.val (.int p1), .val (.int p2), .val (.int p3), .val (.int p4), .val (.int p5), .val (.int (4 : Int32)), .val (.int c0), .val (.int c1), .val (.int c2), .val (.int c3), .unset, .unset] [(.int c1), (.int (1 : Int32)), (.ref b135), (.ref b135)])) (fun _ k => XS.iload X137.here hx rfl (hb hby at_120) rfl  k) ?_
  obtain ⟨c139, Ar139, q139, S139, M139, Hs139, G139⟩ := id V137
  have i139 : ¬ ((1 : Int32) < 0 ∨ c139.slots.size ≤ ((1 : Int32)).toNatClampNeg) := inb_of S139 ⟨by decide, by decide⟩
  obtain ⟨T139, h139, X139, e139, W139, st139⟩ := stB X137 hx hZ e137 Ar139 (j := (1 : Int32)) i139 (g := (mkF m 122 #[.val (.int p1), .val (.int p2), .val (.int p3), .val (.int p4), .val (.int p5), .val (.int (4 : Int32)), .val (.int c0), .val (.int c1), .val (.int c2), .val (.int c3), .unset, .unset] [(.int c1), (.int (1 : Int32)), (.ref b135), (.ref b135)])) rfl rfl (hb hby at_122)
  have V139 : Arv Z h139 b135 k135 .byte (4 : Int32) [(.int c0), (.int (nar .byte c1)), (.int (0 : Int32)), (.int (0 : Int32))] (.int (0 : Int32)) := Arv.set Ar139 q139 S139 M139 Hs139 G139 (fits_nar_byte _) W139 1 rfl (Nat.le_of_ble_eq_true rfl)
  rw [nc1] at V139
  have N139 := Fr.snoc X139 N137 n0b135
  have z140 := Nat.le_trans z138 (Keep.of_wr W139).1
  refine Rch.go (U' := T139.setTop (mkF m 123 #[.val (.int p1), .val (.int p2), .val (.int p3), .val (.int p4), .val (.int p5), .val (.int (4 : Int32)), .val (.int c0), .val (.int c1), .val (.int c2), .val (.int c3), .unset, .unset] [(.ref b135)])) st139 ?_
  refine Rch.go (U' := T139.setTop (mkF m 124 #[.val (.int p1), .val (.int p2), .val (.int p3), .val (.int p4), .val (.int p5), .val (.int (4 : Int32)), .val (.int c0), .val (.int c1), .val (.int c2), .val (.int c3), .unset, .unset] [(.ref b135), (.ref b135)])) (fun _ k => XS.dup X139.here hx rfl (hb hby at_123) rfl rfl k) ?_
  refine Rch.go (U' := T139.setTop (mkF m 125 #[.val (.int p1), .val (.int p2), .val (.int p3), .val (.int p4), .val (.int p5), .val (.int (4 : Int32)), .val (.int c0), .val (.int c1), .val (.int c2), .val (.int c3), .unset, .unset] [(.int (2 : Int32)), (.ref b135), (.ref b135)])) (fun _ k => XS.iconst X139.here hx rfl (hb hby at_124) k) ?_
  refine Rch.go (U' := T139.setTop (mkF m 127 #[.val (.int p1), .val (.int p2), .val (.int p3), .val (.int p4), .val (.int p5), .val (.int (4 : Int32)), .val (.int c0), .val (.int c1), .val (.int c2), .val (.int c3), .unset, .unset] [(.int c2), (.int (2 : Int32)), (.ref b135), (.ref b135)])) (fun _ k => XS.iload X139.here hx rfl (hb hby at_125) rfl  k) ?_
  obtain ⟨c141, Ar141, q141, S141, M141, Hs141, G141⟩ := id V139
  have i141 : ¬ ((2 : Int32) < 0 ∨ c141.slots.size ≤ ((2 : Int32)).toNatClampNeg) := inb_of S141 ⟨by decide, by decide⟩
  obtain ⟨T141, h141, X141, e141, W141, st141⟩ := stB X139 hx hZ e139 Ar141 (j := (2 : Int32)) i141 (g := (mkF m 127 #[.val (.int p1), .val (.int p2), .val (.int p3), .val (.int p4), .val (.int p5), .val (.int (4 : Int32)), .val (.int c0), .val (.int c1), .val (.int c2), .val (.int c3), .unset, .unset] [(.int c2), (.int (2 : Int32)), (.ref b135), (.ref b135)])) rfl rfl (hb hby at_127)
  have V141 : Arv Z h141 b135 k135 .byte (4 : Int32) [(.int c0), (.int c1), (.int (nar .byte c2)), (.int (0 : Int32))] (.int (0 : Int32)) := Arv.set Ar141 q141 S141 M141 Hs141 G141 (fits_nar_byte _) W141 2 rfl (Nat.le_of_ble_eq_true rfl)
  rw [nc2] at V141
  have N141 := Fr.snoc X141 N139 n0b135
  have z142 := Nat.le_trans z140 (Keep.of_wr W141).1
  refine Rch.go (U' := T141.setTop (mkF m 128 #[.val (.int p1), .val (.int p2), .val (.int p3), .val (.int p4), .val (.int p5), .val (.int (4 : Int32)), .val (.int c0), .val (.int c1), .val (.int c2), .val (.int c3), .unset, .unset] [(.ref b135)])) st141 ?_
  refine Rch.go (U' := T141.setTop (mkF m 129 #[.val (.int p1), .val (.int p2), .val (.int p3), .val (.int p4), .val (.int p5), .val (.int (4 : Int32)), .val (.int c0), .val (.int c1), .val (.int c2), .val (.int c3), .unset, .unset] [(.ref b135), (.ref b135)])) (fun _ k => XS.dup X141.here hx rfl (hb hby at_128) rfl rfl k) ?_
  refine Rch.go (U' := T141.setTop (mkF m 130 #[.val (.int p1), .val (.int p2), .val (.int p3), .val (.int p4), .val (.int p5), .val (.int (4 : Int32)), .val (.int c0), .val (.int c1), .val (.int c2), .val (.int c3), .unset, .unset] [(.int (3 : Int32)), (.ref b135), (.ref b135)])) (fun _ k => XS.iconst X141.here hx rfl (hb hby at_129) k) ?_
  refine Rch.go (U' := T141.setTop (mkF m 132 #[.val (.int p1), .val (.int p2), .val (.int p3), .val (.int p4), .val (.int p5), .val (.int (4 : Int32)), .val (.int c0), .val (.int c1), .val (.int c2), .val (.int c3), .unset, .unset] [(.int c3), (.int (3 : Int32)), (.ref b135), (.ref b135)])) (fun _ k => XS.iload X141.here hx rfl (hb hby at_130) rfl  k) ?_
  obtain ⟨c143, Ar143, q143, S143, M143, Hs143, G143⟩ := id V141
  have i143 : ¬ ((3 : Int32) < 0 ∨ c143.slots.size ≤ ((3 : Int32)).toNatClampNeg) := inb_of S143 ⟨by decide, by decide⟩
  obtain ⟨T143, h143, X143, e143, W143, st143⟩ := stB X141 hx hZ e141 Ar143 (j := (3 : Int32)) i143 (g := (mkF m 132 #[.val (.int p1), .val (.int p2), .val (.int p3), .val (.int p4), .val (.int p5), .val (.int (4 : Int32)), .val (.int c0), .val (.int c1), .val (.int c2), .val (.int c3), .unset, .unset] [(.int c3), (.int (3 : Int32)), (.ref b135), (.ref b135)])) rfl rfl (hb hby at_132)
  have V143 : Arv Z h143 b135 k135 .byte (4 : Int32) [(.int c0), (.int c1), (.int c2), (.int (nar .byte c3))] (.int (0 : Int32)) := Arv.set Ar143 q143 S143 M143 Hs143 G143 (fits_nar_byte _) W143 3 rfl (Nat.le_of_ble_eq_true rfl)
  rw [nc3] at V143
  have N143 := Fr.snoc X143 N141 n0b135
  have z144 := Nat.le_trans z142 (Keep.of_wr W143).1
  refine Rch.go (U' := T143.setTop (mkF m 133 #[.val (.int p1), .val (.int p2), .val (.int p3), .val (.int p4), .val (.int p5), .val (.int (4 : Int32)), .val (.int c0), .val (.int c1), .val (.int c2), .val (.int c3), .unset, .unset] [(.ref b135)])) st143 ?_
  refine Rch.go (U' := T143.setTop (mkF m 135 #[.val (.int p1), .val (.int p2), .val (.int p3), .val (.int p4), .val (.int p5), .val (.int (4 : Int32)), .val (.int c0), .val (.int c1), .val (.int c2), .val (.int c3), .val (.ref b135), .unset] [])) (fun _ k => XS.astore X143.here hx rfl (hb hby at_133) rfl rfl (l' := #[.val (.int p1), .val (.int p2), .val (.int p3), .val (.int p4), .val (.int p5), .val (.int (4 : Int32)), .val (.int c0), .val (.int c1), .val (.int c2), .val (.int c3), .val (.ref b135), .unset]) rfl k) ?_
  refine Rch.go (U' := T143.setTop (mkF m 137 #[.val (.int p1), .val (.int p2), .val (.int p3), .val (.int p4), .val (.int p5), .val (.int (4 : Int32)), .val (.int c0), .val (.int c1), .val (.int c2), .val (.int c3), .val (.ref b135), .unset] [(.int (4 : Int32))])) (fun _ k => XS.iload X143.here hx rfl (hb hby at_135) rfl  k) ?_
  refine Rch.go (U' := T143.setTop (mkF m 138 #[.val (.int p1), .val (.int p2), .val (.int p3), .val (.int p4), .val (.int p5), .val (.int (4 : Int32)), .val (.int c0), .val (.int c1), .val (.int c2), .val (.int c3), .val (.ref b135), .unset] [(.int (1 : Int32)), (.int (4 : Int32))])) (fun _ k => XS.iconst X143.here hx rfl (hb hby at_137) k) ?_
  have br145 : ¬ ((4 : Int32) < (1 : Int32)) := (by decide)
  refine Rch.go (U' := T143.setTop (mkF m 141 #[.val (.int p1), .val (.int p2), .val (.int p3), .val (.int p4), .val (.int p5), .val (.int (4 : Int32)), .val (.int c0), .val (.int c1), .val (.int c2), .val (.int c3), .val (.ref b135), .unset] [])) (fun _ k => XS.icmpNo X143.here hx rfl (hb hby at_138) rfl (XT.ii_lt_f br145) k) ?_
  refine Rch.go (U' := T143.setTop (mkF m 143 #[.val (.int p1), .val (.int p2), .val (.int p3), .val (.int p4), .val (.int p5), .val (.int (4 : Int32)), .val (.int c0), .val (.int c1), .val (.int c2), .val (.int c3), .val (.ref b135), .unset] [(.int c0)])) (fun _ k => XS.iload X143.here hx rfl (hb hby at_141) rfl  k) ?_
  obtain ⟨_, _, ⟨T146, L146, k146, n146⟩, -, X146, ⟨Lc146, hQ146, l146, y146, z146⟩, st146⟩ := Jvm.LawKit.callS X143 hx (y := (⟨"com/example/slotwise/slotwise/commands/ClientCommandsIsValidNamePinLaw", "printableNoSpace", "(B)Z"⟩ : MethodName)) hown (mvT hZ (wi hw 6 rfl)) (mvT hZ (wi hw 7 rfl)) (mvT hZ (wi hw 8 rfl)) (mvT hZ (wi hw 9 rfl)) (by decide) (backOf (W := 0) (rmP l Z a0 hw [] c0 h143 n0 z144 ) hZ (wi hw 9 rfl) (wi hw 8 rfl) (by decide) (by decide)) (g := (mkF m 143 #[.val (.int p1), .val (.int p2), .val (.int p3), .val (.int p4), .val (.int p5), .val (.int (4 : Int32)), .val (.int c0), .val (.int c1), .val (.int c2), .val (.int c3), .val (.ref b135), .unset] [(.int c0)])) rfl (by rw [hml]; rfl) (argsL := [(.int c0)]) (rest := []) (lenOf pd_2 rfl) rfl (by show 2 * 0 + _ ≤ _; exact Nat.le_of_eq rfl) (hb hby at_143) (fun _ _ => ⟨rfl, e143, (by decide : 1 + 0 ≤ _), (by decide : 4 + 0 ≤ _)⟩)
  dsimp only [Pt.U, Pt.locs, Pt.cells, Pt.slots] at X146 l146 y146 z146 st146 hQ146
  subst l146 y146 z146
  obtain ⟨rfl, N146q, e146⟩ := hQ146
  have N146 := Fr.app N143 N146q
  refine Rch.go (U' := T146.setTop (mkF m 146 #[.val (.int p1), .val (.int p2), .val (.int p3), .val (.int p4), .val (.int p5), .val (.int (4 : Int32)), .val (.int c0), .val (.int c1), .val (.int c2), .val (.int c3), .val (.ref b135), .unset] [(.int (own_pr c0))])) st146 ?_
  by_cases br147 : (own_pr c0) = (0 : Int32)
  ·
    refine Rch.go (U' := T146.setTop (mkF m 195 #[.val (.int p1), .val (.int p2), .val (.int p3), .val (.int p4), .val (.int p5), .val (.int (4 : Int32)), .val (.int c0), .val (.int c1), .val (.int c2), .val (.int c3), .val (.ref b135), .unset] [])) (fun _ k => XS.ifYes X146.here hx rfl (pc0 := 146) (pc' := 195) rfl (hb hby at_146) rfl (XT.i0_eq_t br147) (by decide) (by decide) k) ?_
    refine Rch.go (U' := T146.setTop (mkF m 196 #[.val (.int p1), .val (.int p2), .val (.int p3), .val (.int p4), .val (.int p5), .val (.int (4 : Int32)), .val (.int c0), .val (.int c1), .val (.int c2), .val (.int c3), .val (.ref b135), .unset] [(.int (0 : Int32))])) (fun _ k => XS.iconst X146.here hx rfl (hb hby at_195) k) ?_
    refine Rch.go (U' := T146.setTop (mkF m 198 #[.val (.int p1), .val (.int p2), .val (.int p3), .val (.int p4), .val (.int p5), .val (.int (4 : Int32)), .val (.int c0), .val (.int c1), .val (.int c2), .val (.int c3), .val (.ref b135), .val (.int (0 : Int32))] [])) (fun _ k => XS.istore X146.here hx rfl (hb hby at_196) rfl (l' := #[.val (.int p1), .val (.int p2), .val (.int p3), .val (.int p4), .val (.int p5), .val (.int (4 : Int32)), .val (.int c0), .val (.int c1), .val (.int c2), .val (.int c3), .val (.ref b135), .val (.int (0 : Int32))]) rfl k) ?_
    refine Rch.go (U' := T146.setTop (mkF m 200 #[.val (.int p1), .val (.int p2), .val (.int p3), .val (.int p4), .val (.int p5), .val (.int (4 : Int32)), .val (.int c0), .val (.int c1), .val (.int c2), .val (.int c3), .val (.ref b135), .val (.int (0 : Int32))] [(.ref b135)])) (fun _ k => XS.aload X146.here hx rfl (hb hby at_198) rfl rfl k) ?_
    obtain ⟨_, _, ⟨T148, L148, k148, n148⟩, -, X148, ⟨Lc148, hQ148, l148, y148, z148⟩, st148⟩ := Jvm.LawKit.callS X146 hx (y := (⟨"com/example/slotwise/slotwise/commands/ClientCommands", "isValidName", "([B)Z"⟩ : MethodName)) hown (mvT hZ (wi hw 2 rfl)) (mvT hZ (wi hw 3 rfl)) (mvT hZ (wi hw 4 rfl)) (mvT hZ (wi hw 5 rfl)) (by decide) (backOf (W := 0) (rmV4 l Z a0 hw [] b135 k135 c0 c1 c2 c3 h143 n0 z144 V143) hZ (wi hw 5 rfl) (wi hw 4 rfl) (by decide) (by decide)) (g := (mkF m 200 #[.val (.int p1), .val (.int p2), .val (.int p3), .val (.int p4), .val (.int p5), .val (.int (4 : Int32)), .val (.int c0), .val (.int c1), .val (.int c2), .val (.int c3), .val (.ref b135), .val (.int (0 : Int32))] [(.ref b135)])) rfl (by rw [hml]; rfl) (argsL := [(.ref b135)]) (rest := []) (lenOf pd_3 rfl) rfl (by show 2 * 0 + _ ≤ _; exact Nat.le_of_eq rfl) (hb hby at_200) (fun _ _ => ⟨rfl, e146, (by decide : 1 + 0 ≤ _), (by decide : 4 + 0 ≤ _)⟩)
    dsimp only [Pt.U, Pt.locs, Pt.cells, Pt.slots] at X148 l148 y148 z148 st148 hQ148
    subst l148 y148 z148
    obtain ⟨rfl, N148q, e148⟩ := hQ148
    have N148 := Fr.app N146 N148q
    refine Rch.go (U' := T148.setTop (mkF m 203 #[.val (.int p1), .val (.int p2), .val (.int p3), .val (.int p4), .val (.int p5), .val (.int (4 : Int32)), .val (.int c0), .val (.int c1), .val (.int c2), .val (.int c3), .val (.ref b135), .val (.int (0 : Int32))] [(.int (own_chk [c0, c1, c2, c3]))])) st148 ?_
    refine Rch.go (U' := T148.setTop (mkF m 205 #[.val (.int p1), .val (.int p2), .val (.int p3), .val (.int p4), .val (.int p5), .val (.int (4 : Int32)), .val (.int c0), .val (.int c1), .val (.int c2), .val (.int c3), .val (.ref b135), .val (.int (0 : Int32))] [(.int (0 : Int32)), (.int (own_chk [c0, c1, c2, c3]))])) (fun _ k => XS.iload X148.here hx rfl (hb hby at_203) rfl  k) ?_
    have br149 : (own_chk [c0, c1, c2, c3]) = (0 : Int32) := (own_chk_n r0 br147)
    refine Rch.go (U' := T148.setTop (mkF m 208 #[.val (.int p1), .val (.int p2), .val (.int p3), .val (.int p4), .val (.int p5), .val (.int (4 : Int32)), .val (.int c0), .val (.int c1), .val (.int c2), .val (.int c3), .val (.ref b135), .val (.int (0 : Int32))] [])) (fun _ k => XS.icmpNo X148.here hx rfl (hb hby at_205) rfl (XT.ii_ne_f br149) k) ?_
    refine Rch.go (U' := T148.setTop (mkF m 209 #[.val (.int p1), .val (.int p2), .val (.int p3), .val (.int p4), .val (.int p5), .val (.int (4 : Int32)), .val (.int c0), .val (.int c1), .val (.int c2), .val (.int c3), .val (.ref b135), .val (.int (0 : Int32))] [(.int (1 : Int32))])) (fun _ k => XS.iconst X148.here hx rfl (hb hby at_208) k) ?_
    refine Rch.go (U' := T148.setTop (mkF m 213 #[.val (.int p1), .val (.int p2), .val (.int p3), .val (.int p4), .val (.int p5), .val (.int (4 : Int32)), .val (.int c0), .val (.int c1), .val (.int c2), .val (.int c3), .val (.ref b135), .val (.int (0 : Int32))] [(.int (1 : Int32))])) (fun _ k => XS.goto X148.here hx rfl (pc0 := 209) (pc' := 213) rfl (hb hby at_209) (by decide) (by decide) k) ?_
    refine Rch.fin X148 hlk (v := some (.int (nar .boolean (1 : Int32)))) (fun h => by rw [hret] at h; cases h) e148 (by decide) (by decide) (fun fs hr => retN X148 hx (t := .boolean) hret (by simp) (hb hby at_213) hr) ?_
    exact ⟨rfl, N148⟩
  ·
    refine Rch.go (U' := T146.setTop (mkF m 149 #[.val (.int p1), .val (.int p2), .val (.int p3), .val (.int p4), .val (.int p5), .val (.int (4 : Int32)), .val (.int c0), .val (.int c1), .val (.int c2), .val (.int c3), .val (.ref b135), .unset] [])) (fun _ k => XS.ifNo X146.here hx rfl (hb hby at_146) rfl (XT.i0_eq_f br147) k) ?_
    refine Rch.go (U' := T146.setTop (mkF m 151 #[.val (.int p1), .val (.int p2), .val (.int p3), .val (.int p4), .val (.int p5), .val (.int (4 : Int32)), .val (.int c0), .val (.int c1), .val (.int c2), .val (.int c3), .val (.ref b135), .unset] [(.int (4 : Int32))])) (fun _ k => XS.iload X146.here hx rfl (hb hby at_149) rfl  k) ?_
    refine Rch.go (U' := T146.setTop (mkF m 152 #[.val (.int p1), .val (.int p2), .val (.int p3), .val (.int p4), .val (.int p5), .val (.int (4 : Int32)), .val (.int c0), .val (.int c1), .val (.int c2), .val (.int c3), .val (.ref b135), .unset] [(.int (2 : Int32)), (.int (4 : Int32))])) (fun _ k => XS.iconst X146.here hx rfl (hb hby at_151) k) ?_
    have br150 : ¬ ((4 : Int32) < (2 : Int32)) := (by decide)
    refine Rch.go (U' := T146.setTop (mkF m 155 #[.val (.int p1), .val (.int p2), .val (.int p3), .val (.int p4), .val (.int p5), .val (.int (4 : Int32)), .val (.int c0), .val (.int c1), .val (.int c2), .val (.int c3), .val (.ref b135), .unset] [])) (fun _ k => XS.icmpNo X146.here hx rfl (hb hby at_152) rfl (XT.ii_lt_f br150) k) ?_
    refine Rch.go (U' := T146.setTop (mkF m 157 #[.val (.int p1), .val (.int p2), .val (.int p3), .val (.int p4), .val (.int p5), .val (.int (4 : Int32)), .val (.int c0), .val (.int c1), .val (.int c2), .val (.int c3), .val (.ref b135), .unset] [(.int c1)])) (fun _ k => XS.iload X146.here hx rfl (hb hby at_155) rfl  k) ?_
    obtain ⟨_, _, ⟨T151, L151, k151, n151⟩, -, X151, ⟨Lc151, hQ151, l151, y151, z151⟩, st151⟩ := Jvm.LawKit.callS X146 hx (y := (⟨"com/example/slotwise/slotwise/commands/ClientCommandsIsValidNamePinLaw", "printableNoSpace", "(B)Z"⟩ : MethodName)) hown (mvT hZ (wi hw 6 rfl)) (mvT hZ (wi hw 7 rfl)) (mvT hZ (wi hw 8 rfl)) (mvT hZ (wi hw 9 rfl)) (by decide) (backOf (W := 0) (rmP l Z a0 hw [] c1 h143 n0 z144 ) hZ (wi hw 9 rfl) (wi hw 8 rfl) (by decide) (by decide)) (g := (mkF m 157 #[.val (.int p1), .val (.int p2), .val (.int p3), .val (.int p4), .val (.int p5), .val (.int (4 : Int32)), .val (.int c0), .val (.int c1), .val (.int c2), .val (.int c3), .val (.ref b135), .unset] [(.int c1)])) rfl (by rw [hml]; rfl) (argsL := [(.int c1)]) (rest := []) (lenOf pd_2 rfl) rfl (by show 2 * 0 + _ ≤ _; exact Nat.le_of_eq rfl) (hb hby at_157) (fun _ _ => ⟨rfl, e146, (by decide : 1 + 0 ≤ _), (by decide : 4 + 0 ≤ _)⟩)
    dsimp only [Pt.U, Pt.locs, Pt.cells, Pt.slots] at X151 l151 y151 z151 st151 hQ151
    subst l151 y151 z151
    obtain ⟨rfl, N151q, e151⟩ := hQ151
    have N151 := Fr.app N146 N151q
    refine Rch.go (U' := T151.setTop (mkF m 160 #[.val (.int p1), .val (.int p2), .val (.int p3), .val (.int p4), .val (.int p5), .val (.int (4 : Int32)), .val (.int c0), .val (.int c1), .val (.int c2), .val (.int c3), .val (.ref b135), .unset] [(.int (own_pr c1))])) st151 ?_
    by_cases br152 : (own_pr c1) = (0 : Int32)
    ·
      refine Rch.go (U' := T151.setTop (mkF m 195 #[.val (.int p1), .val (.int p2), .val (.int p3), .val (.int p4), .val (.int p5), .val (.int (4 : Int32)), .val (.int c0), .val (.int c1), .val (.int c2), .val (.int c3), .val (.ref b135), .unset] [])) (fun _ k => XS.ifYes X151.here hx rfl (pc0 := 160) (pc' := 195) rfl (hb hby at_160) rfl (XT.i0_eq_t br152) (by decide) (by decide) k) ?_
      refine Rch.go (U' := T151.setTop (mkF m 196 #[.val (.int p1), .val (.int p2), .val (.int p3), .val (.int p4), .val (.int p5), .val (.int (4 : Int32)), .val (.int c0), .val (.int c1), .val (.int c2), .val (.int c3), .val (.ref b135), .unset] [(.int (0 : Int32))])) (fun _ k => XS.iconst X151.here hx rfl (hb hby at_195) k) ?_
      refine Rch.go (U' := T151.setTop (mkF m 198 #[.val (.int p1), .val (.int p2), .val (.int p3), .val (.int p4), .val (.int p5), .val (.int (4 : Int32)), .val (.int c0), .val (.int c1), .val (.int c2), .val (.int c3), .val (.ref b135), .val (.int (0 : Int32))] [])) (fun _ k => XS.istore X151.here hx rfl (hb hby at_196) rfl (l' := #[.val (.int p1), .val (.int p2), .val (.int p3), .val (.int p4), .val (.int p5), .val (.int (4 : Int32)), .val (.int c0), .val (.int c1), .val (.int c2), .val (.int c3), .val (.ref b135), .val (.int (0 : Int32))]) rfl k) ?_
      refine Rch.go (U' := T151.setTop (mkF m 200 #[.val (.int p1), .val (.int p2), .val (.int p3), .val (.int p4), .val (.int p5), .val (.int (4 : Int32)), .val (.int c0), .val (.int c1), .val (.int c2), .val (.int c3), .val (.ref b135), .val (.int (0 : Int32))] [(.ref b135)])) (fun _ k => XS.aload X151.here hx rfl (hb hby at_198) rfl rfl k) ?_
      obtain ⟨_, _, ⟨T153, L153, k153, n153⟩, -, X153, ⟨Lc153, hQ153, l153, y153, z153⟩, st153⟩ := Jvm.LawKit.callS X151 hx (y := (⟨"com/example/slotwise/slotwise/commands/ClientCommands", "isValidName", "([B)Z"⟩ : MethodName)) hown (mvT hZ (wi hw 2 rfl)) (mvT hZ (wi hw 3 rfl)) (mvT hZ (wi hw 4 rfl)) (mvT hZ (wi hw 5 rfl)) (by decide) (backOf (W := 0) (rmV4 l Z a0 hw [] b135 k135 c0 c1 c2 c3 h143 n0 z144 V143) hZ (wi hw 5 rfl) (wi hw 4 rfl) (by decide) (by decide)) (g := (mkF m 200 #[.val (.int p1), .val (.int p2), .val (.int p3), .val (.int p4), .val (.int p5), .val (.int (4 : Int32)), .val (.int c0), .val (.int c1), .val (.int c2), .val (.int c3), .val (.ref b135), .val (.int (0 : Int32))] [(.ref b135)])) rfl (by rw [hml]; rfl) (argsL := [(.ref b135)]) (rest := []) (lenOf pd_3 rfl) rfl (by show 2 * 0 + _ ≤ _; exact Nat.le_of_eq rfl) (hb hby at_200) (fun _ _ => ⟨rfl, e151, (by decide : 1 + 0 ≤ _), (by decide : 4 + 0 ≤ _)⟩)
      dsimp only [Pt.U, Pt.locs, Pt.cells, Pt.slots] at X153 l153 y153 z153 st153 hQ153
      subst l153 y153 z153
      obtain ⟨rfl, N153q, e153⟩ := hQ153
      have N153 := Fr.app N151 N153q
      refine Rch.go (U' := T153.setTop (mkF m 203 #[.val (.int p1), .val (.int p2), .val (.int p3), .val (.int p4), .val (.int p5), .val (.int (4 : Int32)), .val (.int c0), .val (.int c1), .val (.int c2), .val (.int c3), .val (.ref b135), .val (.int (0 : Int32))] [(.int (own_chk [c0, c1, c2, c3]))])) st153 ?_
      refine Rch.go (U' := T153.setTop (mkF m 205 #[.val (.int p1), .val (.int p2), .val (.int p3), .val (.int p4), .val (.int p5), .val (.int (4 : Int32)), .val (.int c0), .val (.int c1), .val (.int c2), .val (.int c3), .val (.ref b135), .val (.int (0 : Int32))] [(.int (0 : Int32)), (.int (own_chk [c0, c1, c2, c3]))])) (fun _ k => XS.iload X153.here hx rfl (hb hby at_203) rfl  k) ?_
      have br154 : (own_chk [c0, c1, c2, c3]) = (0 : Int32) := ((own_chk_y r0 br147).trans (own_chk_n r1 br152))
      refine Rch.go (U' := T153.setTop (mkF m 208 #[.val (.int p1), .val (.int p2), .val (.int p3), .val (.int p4), .val (.int p5), .val (.int (4 : Int32)), .val (.int c0), .val (.int c1), .val (.int c2), .val (.int c3), .val (.ref b135), .val (.int (0 : Int32))] [])) (fun _ k => XS.icmpNo X153.here hx rfl (hb hby at_205) rfl (XT.ii_ne_f br154) k) ?_
      refine Rch.go (U' := T153.setTop (mkF m 209 #[.val (.int p1), .val (.int p2), .val (.int p3), .val (.int p4), .val (.int p5), .val (.int (4 : Int32)), .val (.int c0), .val (.int c1), .val (.int c2), .val (.int c3), .val (.ref b135), .val (.int (0 : Int32))] [(.int (1 : Int32))])) (fun _ k => XS.iconst X153.here hx rfl (hb hby at_208) k) ?_
      refine Rch.go (U' := T153.setTop (mkF m 213 #[.val (.int p1), .val (.int p2), .val (.int p3), .val (.int p4), .val (.int p5), .val (.int (4 : Int32)), .val (.int c0), .val (.int c1), .val (.int c2), .val (.int c3), .val (.ref b135), .val (.int (0 : Int32))] [(.int (1 : Int32))])) (fun _ k => XS.goto X153.here hx rfl (pc0 := 209) (pc' := 213) rfl (hb hby at_209) (by decide) (by decide) k) ?_
      refine Rch.fin X153 hlk (v := some (.int (nar .boolean (1 : Int32)))) (fun h => by rw [hret] at h; cases h) e153 (by decide) (by decide) (fun fs hr => retN X153 hx (t := .boolean) hret (by simp) (hb hby at_213) hr) ?_
      exact ⟨rfl, N153⟩
    ·
      refine Rch.go (U' := T151.setTop (mkF m 163 #[.val (.int p1), .val (.int p2), .val (.int p3), .val (.int p4), .val (.int p5), .val (.int (4 : Int32)), .val (.int c0), .val (.int c1), .val (.int c2), .val (.int c3), .val (.ref b135), .unset] [])) (fun _ k => XS.ifNo X151.here hx rfl (hb hby at_160) rfl (XT.i0_eq_f br152) k) ?_
      refine Rch.go (U' := T151.setTop (mkF m 165 #[.val (.int p1), .val (.int p2), .val (.int p3), .val (.int p4), .val (.int p5), .val (.int (4 : Int32)), .val (.int c0), .val (.int c1), .val (.int c2), .val (.int c3), .val (.ref b135), .unset] [(.int (4 : Int32))])) (fun _ k => XS.iload X151.here hx rfl (hb hby at_163) rfl  k) ?_
      refine Rch.go (U' := T151.setTop (mkF m 166 #[.val (.int p1), .val (.int p2), .val (.int p3), .val (.int p4), .val (.int p5), .val (.int (4 : Int32)), .val (.int c0), .val (.int c1), .val (.int c2), .val (.int c3), .val (.ref b135), .unset] [(.int (3 : Int32)), (.int (4 : Int32))])) (fun _ k => XS.iconst X151.here hx rfl (hb hby at_165) k) ?_
      have br155 : ¬ ((4 : Int32) < (3 : Int32)) := (by decide)
      refine Rch.go (U' := T151.setTop (mkF m 169 #[.val (.int p1), .val (.int p2), .val (.int p3), .val (.int p4), .val (.int p5), .val (.int (4 : Int32)), .val (.int c0), .val (.int c1), .val (.int c2), .val (.int c3), .val (.ref b135), .unset] [])) (fun _ k => XS.icmpNo X151.here hx rfl (hb hby at_166) rfl (XT.ii_lt_f br155) k) ?_
      refine Rch.go (U' := T151.setTop (mkF m 171 #[.val (.int p1), .val (.int p2), .val (.int p3), .val (.int p4), .val (.int p5), .val (.int (4 : Int32)), .val (.int c0), .val (.int c1), .val (.int c2), .val (.int c3), .val (.ref b135), .unset] [(.int c2)])) (fun _ k => XS.iload X151.here hx rfl (hb hby at_169) rfl  k) ?_
      obtain ⟨_, _, ⟨T156, L156, k156, n156⟩, -, X156, ⟨Lc156, hQ156, l156, y156, z156⟩, st156⟩ := Jvm.LawKit.callS X151 hx (y := (⟨"com/example/slotwise/slotwise/commands/ClientCommandsIsValidNamePinLaw", "printableNoSpace", "(B)Z"⟩ : MethodName)) hown (mvT hZ (wi hw 6 rfl)) (mvT hZ (wi hw 7 rfl)) (mvT hZ (wi hw 8 rfl)) (mvT hZ (wi hw 9 rfl)) (by decide) (backOf (W := 0) (rmP l Z a0 hw [] c2 h143 n0 z144 ) hZ (wi hw 9 rfl) (wi hw 8 rfl) (by decide) (by decide)) (g := (mkF m 171 #[.val (.int p1), .val (.int p2), .val (.int p3), .val (.int p4), .val (.int p5), .val (.int (4 : Int32)), .val (.int c0), .val (.int c1), .val (.int c2), .val (.int c3), .val (.ref b135), .unset] [(.int c2)])) rfl (by rw [hml]; rfl) (argsL := [(.int c2)]) (rest := []) (lenOf pd_2 rfl) rfl (by show 2 * 0 + _ ≤ _; exact Nat.le_of_eq rfl) (hb hby at_171) (fun _ _ => ⟨rfl, e151, (by decide : 1 + 0 ≤ _), (by decide : 4 + 0 ≤ _)⟩)
      dsimp only [Pt.U, Pt.locs, Pt.cells, Pt.slots] at X156 l156 y156 z156 st156 hQ156
      subst l156 y156 z156
      obtain ⟨rfl, N156q, e156⟩ := hQ156
      have N156 := Fr.app N151 N156q
      refine Rch.go (U' := T156.setTop (mkF m 174 #[.val (.int p1), .val (.int p2), .val (.int p3), .val (.int p4), .val (.int p5), .val (.int (4 : Int32)), .val (.int c0), .val (.int c1), .val (.int c2), .val (.int c3), .val (.ref b135), .unset] [(.int (own_pr c2))])) st156 ?_
      by_cases br157 : (own_pr c2) = (0 : Int32)
      ·
        refine Rch.go (U' := T156.setTop (mkF m 195 #[.val (.int p1), .val (.int p2), .val (.int p3), .val (.int p4), .val (.int p5), .val (.int (4 : Int32)), .val (.int c0), .val (.int c1), .val (.int c2), .val (.int c3), .val (.ref b135), .unset] [])) (fun _ k => XS.ifYes X156.here hx rfl (pc0 := 174) (pc' := 195) rfl (hb hby at_174) rfl (XT.i0_eq_t br157) (by decide) (by decide) k) ?_
        refine Rch.go (U' := T156.setTop (mkF m 196 #[.val (.int p1), .val (.int p2), .val (.int p3), .val (.int p4), .val (.int p5), .val (.int (4 : Int32)), .val (.int c0), .val (.int c1), .val (.int c2), .val (.int c3), .val (.ref b135), .unset] [(.int (0 : Int32))])) (fun _ k => XS.iconst X156.here hx rfl (hb hby at_195) k) ?_
        refine Rch.go (U' := T156.setTop (mkF m 198 #[.val (.int p1), .val (.int p2), .val (.int p3), .val (.int p4), .val (.int p5), .val (.int (4 : Int32)), .val (.int c0), .val (.int c1), .val (.int c2), .val (.int c3), .val (.ref b135), .val (.int (0 : Int32))] [])) (fun _ k => XS.istore X156.here hx rfl (hb hby at_196) rfl (l' := #[.val (.int p1), .val (.int p2), .val (.int p3), .val (.int p4), .val (.int p5), .val (.int (4 : Int32)), .val (.int c0), .val (.int c1), .val (.int c2), .val (.int c3), .val (.ref b135), .val (.int (0 : Int32))]) rfl k) ?_
        refine Rch.go (U' := T156.setTop (mkF m 200 #[.val (.int p1), .val (.int p2), .val (.int p3), .val (.int p4), .val (.int p5), .val (.int (4 : Int32)), .val (.int c0), .val (.int c1), .val (.int c2), .val (.int c3), .val (.ref b135), .val (.int (0 : Int32))] [(.ref b135)])) (fun _ k => XS.aload X156.here hx rfl (hb hby at_198) rfl rfl k) ?_
        obtain ⟨_, _, ⟨T158, L158, k158, n158⟩, -, X158, ⟨Lc158, hQ158, l158, y158, z158⟩, st158⟩ := Jvm.LawKit.callS X156 hx (y := (⟨"com/example/slotwise/slotwise/commands/ClientCommands", "isValidName", "([B)Z"⟩ : MethodName)) hown (mvT hZ (wi hw 2 rfl)) (mvT hZ (wi hw 3 rfl)) (mvT hZ (wi hw 4 rfl)) (mvT hZ (wi hw 5 rfl)) (by decide) (backOf (W := 0) (rmV4 l Z a0 hw [] b135 k135 c0 c1 c2 c3 h143 n0 z144 V143) hZ (wi hw 5 rfl) (wi hw 4 rfl) (by decide) (by decide)) (g := (mkF m 200 #[.val (.int p1), .val (.int p2), .val (.int p3), .val (.int p4), .val (.int p5), .val (.int (4 : Int32)), .val (.int c0), .val (.int c1), .val (.int c2), .val (.int c3), .val (.ref b135), .val (.int (0 : Int32))] [(.ref b135)])) rfl (by rw [hml]; rfl) (argsL := [(.ref b135)]) (rest := []) (lenOf pd_3 rfl) rfl (by show 2 * 0 + _ ≤ _; exact Nat.le_of_eq rfl) (hb hby at_200) (fun _ _ => ⟨rfl, e156, (by decide : 1 + 0 ≤ _), (by decide : 4 + 0 ≤ _)⟩)
        dsimp only [Pt.U, Pt.locs, Pt.cells, Pt.slots] at X158 l158 y158 z158 st158 hQ158
        subst l158 y158 z158
        obtain ⟨rfl, N158q, e158⟩ := hQ158
        have N158 := Fr.app N156 N158q
        refine Rch.go (U' := T158.setTop (mkF m 203 #[.val (.int p1), .val (.int p2), .val (.int p3), .val (.int p4), .val (.int p5), .val (.int (4 : Int32)), .val (.int c0), .val (.int c1), .val (.int c2), .val (.int c3), .val (.ref b135), .val (.int (0 : Int32))] [(.int (own_chk [c0, c1, c2, c3]))])) st158 ?_
        refine Rch.go (U' := T158.setTop (mkF m 205 #[.val (.int p1), .val (.int p2), .val (.int p3), .val (.int p4), .val (.int p5), .val (.int (4 : Int32)), .val (.int c0), .val (.int c1), .val (.int c2), .val (.int c3), .val (.ref b135), .val (.int (0 : Int32))] [(.int (0 : Int32)), (.int (own_chk [c0, c1, c2, c3]))])) (fun _ k => XS.iload X158.here hx rfl (hb hby at_203) rfl  k) ?_
        have br159 : (own_chk [c0, c1, c2, c3]) = (0 : Int32) := ((own_chk_y r0 br147).trans ((own_chk_y r1 br152).trans (own_chk_n r2 br157)))
        refine Rch.go (U' := T158.setTop (mkF m 208 #[.val (.int p1), .val (.int p2), .val (.int p3), .val (.int p4), .val (.int p5), .val (.int (4 : Int32)), .val (.int c0), .val (.int c1), .val (.int c2), .val (.int c3), .val (.ref b135), .val (.int (0 : Int32))] [])) (fun _ k => XS.icmpNo X158.here hx rfl (hb hby at_205) rfl (XT.ii_ne_f br159) k) ?_
        refine Rch.go (U' := T158.setTop (mkF m 209 #[.val (.int p1), .val (.int p2), .val (.int p3), .val (.int p4), .val (.int p5), .val (.int (4 : Int32)), .val (.int c0), .val (.int c1), .val (.int c2), .val (.int c3), .val (.ref b135), .val (.int (0 : Int32))] [(.int (1 : Int32))])) (fun _ k => XS.iconst X158.here hx rfl (hb hby at_208) k) ?_
        refine Rch.go (U' := T158.setTop (mkF m 213 #[.val (.int p1), .val (.int p2), .val (.int p3), .val (.int p4), .val (.int p5), .val (.int (4 : Int32)), .val (.int c0), .val (.int c1), .val (.int c2), .val (.int c3), .val (.ref b135), .val (.int (0 : Int32))] [(.int (1 : Int32))])) (fun _ k => XS.goto X158.here hx rfl (pc0 := 209) (pc' := 213) rfl (hb hby at_209) (by decide) (by decide) k) ?_
        refine Rch.fin X158 hlk (v := some (.int (nar .boolean (1 : Int32)))) (fun h => by rw [hret] at h; cases h) e158 (by decide) (by decide) (fun fs hr => retN X158 hx (t := .boolean) hret (by simp) (hb hby at_213) hr) ?_
        exact ⟨rfl, N158⟩
      ·
        refine Rch.go (U' := T156.setTop (mkF m 177 #[.val (.int p1), .val (.int p2), .val (.int p3), .val (.int p4), .val (.int p5), .val (.int (4 : Int32)), .val (.int c0), .val (.int c1), .val (.int c2), .val (.int c3), .val (.ref b135), .unset] [])) (fun _ k => XS.ifNo X156.here hx rfl (hb hby at_174) rfl (XT.i0_eq_f br157) k) ?_
        refine Rch.go (U' := T156.setTop (mkF m 179 #[.val (.int p1), .val (.int p2), .val (.int p3), .val (.int p4), .val (.int p5), .val (.int (4 : Int32)), .val (.int c0), .val (.int c1), .val (.int c2), .val (.int c3), .val (.ref b135), .unset] [(.int (4 : Int32))])) (fun _ k => XS.iload X156.here hx rfl (hb hby at_177) rfl  k) ?_
        refine Rch.go (U' := T156.setTop (mkF m 180 #[.val (.int p1), .val (.int p2), .val (.int p3), .val (.int p4), .val (.int p5), .val (.int (4 : Int32)), .val (.int c0), .val (.int c1), .val (.int c2), .val (.int c3), .val (.ref b135), .unset] [(.int (4 : Int32)), (.int (4 : Int32))])) (fun _ k => XS.iconst X156.here hx rfl (hb hby at_179) k) ?_
        have br160 : ¬ ((4 : Int32) < (4 : Int32)) := (by decide)
        refine Rch.go (U' := T156.setTop (mkF m 183 #[.val (.int p1), .val (.int p2), .val (.int p3), .val (.int p4), .val (.int p5), .val (.int (4 : Int32)), .val (.int c0), .val (.int c1), .val (.int c2), .val (.int c3), .val (.ref b135), .unset] [])) (fun _ k => XS.icmpNo X156.here hx rfl (hb hby at_180) rfl (XT.ii_lt_f br160) k) ?_
        refine Rch.go (U' := T156.setTop (mkF m 185 #[.val (.int p1), .val (.int p2), .val (.int p3), .val (.int p4), .val (.int p5), .val (.int (4 : Int32)), .val (.int c0), .val (.int c1), .val (.int c2), .val (.int c3), .val (.ref b135), .unset] [(.int c3)])) (fun _ k => XS.iload X156.here hx rfl (hb hby at_183) rfl  k) ?_
        obtain ⟨_, _, ⟨T161, L161, k161, n161⟩, -, X161, ⟨Lc161, hQ161, l161, y161, z161⟩, st161⟩ := Jvm.LawKit.callS X156 hx (y := (⟨"com/example/slotwise/slotwise/commands/ClientCommandsIsValidNamePinLaw", "printableNoSpace", "(B)Z"⟩ : MethodName)) hown (mvT hZ (wi hw 6 rfl)) (mvT hZ (wi hw 7 rfl)) (mvT hZ (wi hw 8 rfl)) (mvT hZ (wi hw 9 rfl)) (by decide) (backOf (W := 0) (rmP l Z a0 hw [] c3 h143 n0 z144 ) hZ (wi hw 9 rfl) (wi hw 8 rfl) (by decide) (by decide)) (g := (mkF m 185 #[.val (.int p1), .val (.int p2), .val (.int p3), .val (.int p4), .val (.int p5), .val (.int (4 : Int32)), .val (.int c0), .val (.int c1), .val (.int c2), .val (.int c3), .val (.ref b135), .unset] [(.int c3)])) rfl (by rw [hml]; rfl) (argsL := [(.int c3)]) (rest := []) (lenOf pd_2 rfl) rfl (by show 2 * 0 + _ ≤ _; exact Nat.le_of_eq rfl) (hb hby at_185) (fun _ _ => ⟨rfl, e156, (by decide : 1 + 0 ≤ _), (by decide : 4 + 0 ≤ _)⟩)
        dsimp only [Pt.U, Pt.locs, Pt.cells, Pt.slots] at X161 l161 y161 z161 st161 hQ161
        subst l161 y161 z161
        obtain ⟨rfl, N161q, e161⟩ := hQ161
        have N161 := Fr.app N156 N161q
        refine Rch.go (U' := T161.setTop (mkF m 188 #[.val (.int p1), .val (.int p2), .val (.int p3), .val (.int p4), .val (.int p5), .val (.int (4 : Int32)), .val (.int c0), .val (.int c1), .val (.int c2), .val (.int c3), .val (.ref b135), .unset] [(.int (own_pr c3))])) st161 ?_
        by_cases br162 : (own_pr c3) = (0 : Int32)
        ·
          refine Rch.go (U' := T161.setTop (mkF m 195 #[.val (.int p1), .val (.int p2), .val (.int p3), .val (.int p4), .val (.int p5), .val (.int (4 : Int32)), .val (.int c0), .val (.int c1), .val (.int c2), .val (.int c3), .val (.ref b135), .unset] [])) (fun _ k => XS.ifYes X161.here hx rfl (pc0 := 188) (pc' := 195) rfl (hb hby at_188) rfl (XT.i0_eq_t br162) (by decide) (by decide) k) ?_
          refine Rch.go (U' := T161.setTop (mkF m 196 #[.val (.int p1), .val (.int p2), .val (.int p3), .val (.int p4), .val (.int p5), .val (.int (4 : Int32)), .val (.int c0), .val (.int c1), .val (.int c2), .val (.int c3), .val (.ref b135), .unset] [(.int (0 : Int32))])) (fun _ k => XS.iconst X161.here hx rfl (hb hby at_195) k) ?_
          refine Rch.go (U' := T161.setTop (mkF m 198 #[.val (.int p1), .val (.int p2), .val (.int p3), .val (.int p4), .val (.int p5), .val (.int (4 : Int32)), .val (.int c0), .val (.int c1), .val (.int c2), .val (.int c3), .val (.ref b135), .val (.int (0 : Int32))] [])) (fun _ k => XS.istore X161.here hx rfl (hb hby at_196) rfl (l' := #[.val (.int p1), .val (.int p2), .val (.int p3), .val (.int p4), .val (.int p5), .val (.int (4 : Int32)), .val (.int c0), .val (.int c1), .val (.int c2), .val (.int c3), .val (.ref b135), .val (.int (0 : Int32))]) rfl k) ?_
          refine Rch.go (U' := T161.setTop (mkF m 200 #[.val (.int p1), .val (.int p2), .val (.int p3), .val (.int p4), .val (.int p5), .val (.int (4 : Int32)), .val (.int c0), .val (.int c1), .val (.int c2), .val (.int c3), .val (.ref b135), .val (.int (0 : Int32))] [(.ref b135)])) (fun _ k => XS.aload X161.here hx rfl (hb hby at_198) rfl rfl k) ?_
          obtain ⟨_, _, ⟨T163, L163, k163, n163⟩, -, X163, ⟨Lc163, hQ163, l163, y163, z163⟩, st163⟩ := Jvm.LawKit.callS X161 hx (y := (⟨"com/example/slotwise/slotwise/commands/ClientCommands", "isValidName", "([B)Z"⟩ : MethodName)) hown (mvT hZ (wi hw 2 rfl)) (mvT hZ (wi hw 3 rfl)) (mvT hZ (wi hw 4 rfl)) (mvT hZ (wi hw 5 rfl)) (by decide) (backOf (W := 0) (rmV4 l Z a0 hw [] b135 k135 c0 c1 c2 c3 h143 n0 z144 V143) hZ (wi hw 5 rfl) (wi hw 4 rfl) (by decide) (by decide)) (g := (mkF m 200 #[.val (.int p1), .val (.int p2), .val (.int p3), .val (.int p4), .val (.int p5), .val (.int (4 : Int32)), .val (.int c0), .val (.int c1), .val (.int c2), .val (.int c3), .val (.ref b135), .val (.int (0 : Int32))] [(.ref b135)])) rfl (by rw [hml]; rfl) (argsL := [(.ref b135)]) (rest := []) (lenOf pd_3 rfl) rfl (by show 2 * 0 + _ ≤ _; exact Nat.le_of_eq rfl) (hb hby at_200) (fun _ _ => ⟨rfl, e161, (by decide : 1 + 0 ≤ _), (by decide : 4 + 0 ≤ _)⟩)
          dsimp only [Pt.U, Pt.locs, Pt.cells, Pt.slots] at X163 l163 y163 z163 st163 hQ163
          subst l163 y163 z163
          obtain ⟨rfl, N163q, e163⟩ := hQ163
          have N163 := Fr.app N161 N163q
          refine Rch.go (U' := T163.setTop (mkF m 203 #[.val (.int p1), .val (.int p2), .val (.int p3), .val (.int p4), .val (.int p5), .val (.int (4 : Int32)), .val (.int c0), .val (.int c1), .val (.int c2), .val (.int c3), .val (.ref b135), .val (.int (0 : Int32))] [(.int (own_chk [c0, c1, c2, c3]))])) st163 ?_
          refine Rch.go (U' := T163.setTop (mkF m 205 #[.val (.int p1), .val (.int p2), .val (.int p3), .val (.int p4), .val (.int p5), .val (.int (4 : Int32)), .val (.int c0), .val (.int c1), .val (.int c2), .val (.int c3), .val (.ref b135), .val (.int (0 : Int32))] [(.int (0 : Int32)), (.int (own_chk [c0, c1, c2, c3]))])) (fun _ k => XS.iload X163.here hx rfl (hb hby at_203) rfl  k) ?_
          have br164 : (own_chk [c0, c1, c2, c3]) = (0 : Int32) := ((own_chk_y r0 br147).trans ((own_chk_y r1 br152).trans ((own_chk_y r2 br157).trans (own_chk_n r3 br162))))
          refine Rch.go (U' := T163.setTop (mkF m 208 #[.val (.int p1), .val (.int p2), .val (.int p3), .val (.int p4), .val (.int p5), .val (.int (4 : Int32)), .val (.int c0), .val (.int c1), .val (.int c2), .val (.int c3), .val (.ref b135), .val (.int (0 : Int32))] [])) (fun _ k => XS.icmpNo X163.here hx rfl (hb hby at_205) rfl (XT.ii_ne_f br164) k) ?_
          refine Rch.go (U' := T163.setTop (mkF m 209 #[.val (.int p1), .val (.int p2), .val (.int p3), .val (.int p4), .val (.int p5), .val (.int (4 : Int32)), .val (.int c0), .val (.int c1), .val (.int c2), .val (.int c3), .val (.ref b135), .val (.int (0 : Int32))] [(.int (1 : Int32))])) (fun _ k => XS.iconst X163.here hx rfl (hb hby at_208) k) ?_
          refine Rch.go (U' := T163.setTop (mkF m 213 #[.val (.int p1), .val (.int p2), .val (.int p3), .val (.int p4), .val (.int p5), .val (.int (4 : Int32)), .val (.int c0), .val (.int c1), .val (.int c2), .val (.int c3), .val (.ref b135), .val (.int (0 : Int32))] [(.int (1 : Int32))])) (fun _ k => XS.goto X163.here hx rfl (pc0 := 209) (pc' := 213) rfl (hb hby at_209) (by decide) (by decide) k) ?_
          refine Rch.fin X163 hlk (v := some (.int (nar .boolean (1 : Int32)))) (fun h => by rw [hret] at h; cases h) e163 (by decide) (by decide) (fun fs hr => retN X163 hx (t := .boolean) hret (by simp) (hb hby at_213) hr) ?_
          exact ⟨rfl, N163⟩
        ·
          refine Rch.go (U' := T161.setTop (mkF m 191 #[.val (.int p1), .val (.int p2), .val (.int p3), .val (.int p4), .val (.int p5), .val (.int (4 : Int32)), .val (.int c0), .val (.int c1), .val (.int c2), .val (.int c3), .val (.ref b135), .unset] [])) (fun _ k => XS.ifNo X161.here hx rfl (hb hby at_188) rfl (XT.i0_eq_f br162) k) ?_
          refine Rch.go (U' := T161.setTop (mkF m 192 #[.val (.int p1), .val (.int p2), .val (.int p3), .val (.int p4), .val (.int p5), .val (.int (4 : Int32)), .val (.int c0), .val (.int c1), .val (.int c2), .val (.int c3), .val (.ref b135), .unset] [(.int (1 : Int32))])) (fun _ k => XS.iconst X161.here hx rfl (hb hby at_191) k) ?_
          refine Rch.go (U' := T161.setTop (mkF m 196 #[.val (.int p1), .val (.int p2), .val (.int p3), .val (.int p4), .val (.int p5), .val (.int (4 : Int32)), .val (.int c0), .val (.int c1), .val (.int c2), .val (.int c3), .val (.ref b135), .unset] [(.int (1 : Int32))])) (fun _ k => XS.goto X161.here hx rfl (pc0 := 192) (pc' := 196) rfl (hb hby at_192) (by decide) (by decide) k) ?_
          refine Rch.go (U' := T161.setTop (mkF m 198 #[.val (.int p1), .val (.int p2), .val (.int p3), .val (.int p4), .val (.int p5), .val (.int (4 : Int32)), .val (.int c0), .val (.int c1), .val (.int c2), .val (.int c3), .val (.ref b135), .val (.int (1 : Int32))] [])) (fun _ k => XS.istore X161.here hx rfl (hb hby at_196) rfl (l' := #[.val (.int p1), .val (.int p2), .val (.int p3), .val (.int p4), .val (.int p5), .val (.int (4 : Int32)), .val (.int c0), .val (.int c1), .val (.int c2), .val (.int c3), .val (.ref b135), .val (.int (1 : Int32))]) rfl k) ?_
          refine Rch.go (U' := T161.setTop (mkF m 200 #[.val (.int p1), .val (.int p2), .val (.int p3), .val (.int p4), .val (.int p5), .val (.int (4 : Int32)), .val (.int c0), .val (.int c1), .val (.int c2), .val (.int c3), .val (.ref b135), .val (.int (1 : Int32))] [(.ref b135)])) (fun _ k => XS.aload X161.here hx rfl (hb hby at_198) rfl rfl k) ?_
          obtain ⟨_, _, ⟨T165, L165, k165, n165⟩, -, X165, ⟨Lc165, hQ165, l165, y165, z165⟩, st165⟩ := Jvm.LawKit.callS X161 hx (y := (⟨"com/example/slotwise/slotwise/commands/ClientCommands", "isValidName", "([B)Z"⟩ : MethodName)) hown (mvT hZ (wi hw 2 rfl)) (mvT hZ (wi hw 3 rfl)) (mvT hZ (wi hw 4 rfl)) (mvT hZ (wi hw 5 rfl)) (by decide) (backOf (W := 0) (rmV4 l Z a0 hw [] b135 k135 c0 c1 c2 c3 h143 n0 z144 V143) hZ (wi hw 5 rfl) (wi hw 4 rfl) (by decide) (by decide)) (g := (mkF m 200 #[.val (.int p1), .val (.int p2), .val (.int p3), .val (.int p4), .val (.int p5), .val (.int (4 : Int32)), .val (.int c0), .val (.int c1), .val (.int c2), .val (.int c3), .val (.ref b135), .val (.int (1 : Int32))] [(.ref b135)])) rfl (by rw [hml]; rfl) (argsL := [(.ref b135)]) (rest := []) (lenOf pd_3 rfl) rfl (by show 2 * 0 + _ ≤ _; exact Nat.le_of_eq rfl) (hb hby at_200) (fun _ _ => ⟨rfl, e161, (by decide : 1 + 0 ≤ _), (by decide : 4 + 0 ≤ _)⟩)
          dsimp only [Pt.U, Pt.locs, Pt.cells, Pt.slots] at X165 l165 y165 z165 st165 hQ165
          subst l165 y165 z165
          obtain ⟨rfl, N165q, e165⟩ := hQ165
          have N165 := Fr.app N161 N165q
          refine Rch.go (U' := T165.setTop (mkF m 203 #[.val (.int p1), .val (.int p2), .val (.int p3), .val (.int p4), .val (.int p5), .val (.int (4 : Int32)), .val (.int c0), .val (.int c1), .val (.int c2), .val (.int c3), .val (.ref b135), .val (.int (1 : Int32))] [(.int (own_chk [c0, c1, c2, c3]))])) st165 ?_
          refine Rch.go (U' := T165.setTop (mkF m 205 #[.val (.int p1), .val (.int p2), .val (.int p3), .val (.int p4), .val (.int p5), .val (.int (4 : Int32)), .val (.int c0), .val (.int c1), .val (.int c2), .val (.int c3), .val (.ref b135), .val (.int (1 : Int32))] [(.int (1 : Int32)), (.int (own_chk [c0, c1, c2, c3]))])) (fun _ k => XS.iload X165.here hx rfl (hb hby at_203) rfl  k) ?_
          have br166 : (own_chk [c0, c1, c2, c3]) = (1 : Int32) := ((own_chk_y r0 br147).trans ((own_chk_y r1 br152).trans ((own_chk_y r2 br157).trans ((own_chk_y r3 br162).trans rfl))))
          refine Rch.go (U' := T165.setTop (mkF m 208 #[.val (.int p1), .val (.int p2), .val (.int p3), .val (.int p4), .val (.int p5), .val (.int (4 : Int32)), .val (.int c0), .val (.int c1), .val (.int c2), .val (.int c3), .val (.ref b135), .val (.int (1 : Int32))] [])) (fun _ k => XS.icmpNo X165.here hx rfl (hb hby at_205) rfl (XT.ii_ne_f br166) k) ?_
          refine Rch.go (U' := T165.setTop (mkF m 209 #[.val (.int p1), .val (.int p2), .val (.int p3), .val (.int p4), .val (.int p5), .val (.int (4 : Int32)), .val (.int c0), .val (.int c1), .val (.int c2), .val (.int c3), .val (.ref b135), .val (.int (1 : Int32))] [(.int (1 : Int32))])) (fun _ k => XS.iconst X165.here hx rfl (hb hby at_208) k) ?_
          refine Rch.go (U' := T165.setTop (mkF m 213 #[.val (.int p1), .val (.int p2), .val (.int p3), .val (.int p4), .val (.int p5), .val (.int (4 : Int32)), .val (.int c0), .val (.int c1), .val (.int c2), .val (.int c3), .val (.ref b135), .val (.int (1 : Int32))] [(.int (1 : Int32))])) (fun _ k => XS.goto X165.here hx rfl (pc0 := 209) (pc' := 213) rfl (hb hby at_209) (by decide) (by decide) k) ?_
          refine Rch.fin X165 hlk (v := some (.int (nar .boolean (1 : Int32)))) (fun h => by rw [hret] at h; cases h) e165 (by decide) (by decide) (fun fs hr => retN X165 hx (t := .boolean) hret (by simp) (hb hby at_213) hr) ?_
          exact ⟨rfl, N165⟩
theorem ef_rm0 (m : MethodId) (p1 : Int32) (p2 : Int32) (p3 : Int32) (p4 : Int32) (p5 : Int32) : entryFrame m #[(.int p1), (.int p2), (.int p3), (.int p4), (.int p5)] maxLocals = mkF m 0 #[.val (.int p1), .val (.int p2), .val (.int p3), .val (.int p4), .val (.int p5), .unset, .unset, .unset, .unset, .unset, .unset, .unset] [] := by first | (simp [entryFrame, mkF, argsToLocals, Value.category, maxLocals]; done) | rfl
def Q_rm0 (Z : State) (p1 : Int32) (p2 : Int32) (p3 : Int32) (p4 : Int32) (p5 : Int32) (h0 : Heap) (n0 : Nat) (v : Option Value) (h : Heap) (L : List Loc) : Prop := v = some (.int 1) ∧ Fr n0 L
set_option maxRecDepth 65536 in
set_option maxHeartbeats 40000000 in
theorem rm0 (l : Launch) (Z : State) (a0 : Array Value) (hw : ∀ d ∈ tables_1, d.before a0 Z = true) (ws : List Jvm.Cond) (p1 : Int32) (p2 : Int32) (p3 : Int32) (p4 : Int32) (p5 : Int32) (h0 : Heap) (n0 : Nat) (Z0 : n0 ≤ h0.size)  :
    MetFree l x (head1 (Jvm.Cond.code x code maxLocals ret :: ws) room_1) (fun a U => a = #[(.int p1), (.int p2), (.int p3), (.int p4), (.int p5)] ∧ Z.Warmed39 U.vm ∧ U.heap = h0) (fun _ _ _ _ _ => True) (fun _ U o U' => ∃ v L, o = .returned v ∧ Q_rm0 Z p1 p2 p3 p4 p5 h0 n0 v U'.heap L ∧ FrameEnd U o U' L 16 128) := by
  refine MetFree.of_bodySF (plainFor_of_name pn_com_example_slotwise_slotwise_commands_ClientCommandsIsValidNamePinLaw) hisR ?_
  intro p e s m args below meth c s₁ Bd hml0 hP hK
  obtain ⟨rfl, hZ, hh⟩ := hP
  have hx := Bd.exec
  have hby := Bd.bytes
  have hml : c.maxLocals = 12 := hml0
  have hown : s.vm.findClass "com/example/slotwise/slotwise/commands/ClientCommandsIsValidNamePinLaw" = some m.cls := findClass_of_methodNamed Bd.named
  have hnm := (name_of_methodNamed Bd.named Bd.method).1
  have hret := Bd.returns
  have hlk : meth.locks = false := BodyLoose.notSynchronized Bd
  have X0 : Stand p l e room_1 s m #[(.int p1), (.int p2), (.int p3), (.int p4), (.int p5)] below meth c s₁ [] 0 0 := Stand.of_body Bd
  have e0 : s₁.heap = h0 := by rw [← hh, Bd.state]; rfl
  have N0 := Fr.nil n0
  refine Rch.body (Q := Q_rm0 Z p1 p2 p3 p4 p5 h0 n0) (U' := s₁.setTop (mkF m 0 #[.val (.int p1), .val (.int p2), .val (.int p3), .val (.int p4), .val (.int p5), .unset, .unset, .unset, .unset, .unset, .unset, .unset] [])) (fun t k => castTop (ef_rm0 m p1 p2 p3 p4 p5) k) ?_
  refine Rch.go (U' := s₁.setTop (mkF m 1 #[.val (.int p1), .val (.int p2), .val (.int p3), .val (.int p4), .val (.int p5), .unset, .unset, .unset, .unset, .unset, .unset, .unset] [(.int p1)])) (fun _ k => XS.iloadN X0.here hx rfl (hb hby at_0) rfl  k) ?_
  refine Rch.go (U' := s₁.setTop (mkF m 3 #[.val (.int p1), .val (.int p2), .val (.int p3), .val (.int p4), .val (.int p5), .unset, .unset, .unset, .unset, .unset, .unset, .unset] [(.int (2147483647 : Int32)), (.int p1)])) (fun _ k => X0.ldcInt hx hown (mvT hZ (wi hw 0 rfl)) (g := (mkF m 1 #[.val (.int p1), .val (.int p2), .val (.int p3), .val (.int p4), .val (.int p5), .unset, .unset, .unset, .unset, .unset, .unset, .unset] [(.int p1)])) rfl (hb hby at_1) _ k) ?_
  refine Rch.go (U' := s₁.setTop (mkF m 4 #[.val (.int p1), .val (.int p2), .val (.int p3), .val (.int p4), .val (.int p5), .unset, .unset, .unset, .unset, .unset, .unset, .unset] [(.int (p1 &&& (2147483647 : Int32)))])) (fun _ k => XS.iand X0.here hx rfl (hb hby at_3) rfl k) ?_
  refine Rch.go (U' := s₁.setTop (mkF m 5 #[.val (.int p1), .val (.int p2), .val (.int p3), .val (.int p4), .val (.int p5), .unset, .unset, .unset, .unset, .unset, .unset, .unset] [(.int (5 : Int32)), (.int (p1 &&& (2147483647 : Int32)))])) (fun _ k => XS.iconst X0.here hx rfl (hb hby at_4) k) ?_
  refine Rch.go (U' := s₁.setTop (mkF m 6 #[.val (.int p1), .val (.int p2), .val (.int p3), .val (.int p4), .val (.int p5), .unset, .unset, .unset, .unset, .unset, .unset, .unset] [(.int ((p1 &&& (2147483647 : Int32)) % (5 : Int32)))])) (fun _ k => iremM X0 hx rfl (hb hby at_5) rfl (by decide) k) ?_
  generalize hnn : ((p1 &&& (2147483647 : Int32)) % (5 : Int32)) = nn
  refine Rch.go (U' := s₁.setTop (mkF m 8 #[.val (.int p1), .val (.int p2), .val (.int p3), .val (.int p4), .val (.int p5), .val (.int nn), .unset, .unset, .unset, .unset, .unset, .unset] [])) (fun _ k => XS.istore X0.here hx rfl (hb hby at_6) rfl (l' := #[.val (.int p1), .val (.int p2), .val (.int p3), .val (.int p4), .val (.int p5), .val (.int nn), .unset, .unset, .unset, .unset, .unset, .unset]) rfl k) ?_
  refine Rch.go (U' := s₁.setTop (mkF m 9 #[.val (.int p1), .val (.int p2), .val (.int p3), .val (.int p4), .val (.int p5), .val (.int nn), .unset, .unset, .unset, .unset, .unset, .unset] [(.int p2)])) (fun _ k => XS.iloadN X0.here hx rfl (hb hby at_8) rfl  k) ?_
  refine Rch.go (U' := s₁.setTop (mkF m 10 #[.val (.int p1), .val (.int p2), .val (.int p3), .val (.int p4), .val (.int p5), .val (.int nn), .unset, .unset, .unset, .unset, .unset, .unset] [(.int (p2).toInt8.toInt32)])) (fun _ k => XS.i2b X0.here hx rfl (hb hby at_9) rfl k) ?_
  generalize hc0 : (p2).toInt8.toInt32 = c0
  refine Rch.go (U' := s₁.setTop (mkF m 12 #[.val (.int p1), .val (.int p2), .val (.int p3), .val (.int p4), .val (.int p5), .val (.int nn), .val (.int c0), .unset, .unset, .unset, .unset, .unset] [])) (fun _ k => XS.istore X0.here hx rfl (hb hby at_10) rfl (l' := #[.val (.int p1), .val (.int p2), .val (.int p3), .val (.int p4), .val (.int p5), .val (.int nn), .val (.int c0), .unset, .unset, .unset, .unset, .unset]) rfl k) ?_
  refine Rch.go (U' := s₁.setTop (mkF m 13 #[.val (.int p1), .val (.int p2), .val (.int p3), .val (.int p4), .val (.int p5), .val (.int nn), .val (.int c0), .unset, .unset, .unset, .unset, .unset] [(.int p3)])) (fun _ k => XS.iloadN X0.here hx rfl (hb hby at_12) rfl  k) ?_
  refine Rch.go (U' := s₁.setTop (mkF m 14 #[.val (.int p1), .val (.int p2), .val (.int p3), .val (.int p4), .val (.int p5), .val (.int nn), .val (.int c0), .unset, .unset, .unset, .unset, .unset] [(.int (p3).toInt8.toInt32)])) (fun _ k => XS.i2b X0.here hx rfl (hb hby at_13) rfl k) ?_
  generalize hc1 : (p3).toInt8.toInt32 = c1
  refine Rch.go (U' := s₁.setTop (mkF m 16 #[.val (.int p1), .val (.int p2), .val (.int p3), .val (.int p4), .val (.int p5), .val (.int nn), .val (.int c0), .val (.int c1), .unset, .unset, .unset, .unset] [])) (fun _ k => XS.istore X0.here hx rfl (hb hby at_14) rfl (l' := #[.val (.int p1), .val (.int p2), .val (.int p3), .val (.int p4), .val (.int p5), .val (.int nn), .val (.int c0), .val (.int c1), .unset, .unset, .unset, .unset]) rfl k) ?_
  refine Rch.go (U' := s₁.setTop (mkF m 17 #[.val (.int p1), .val (.int p2), .val (.int p3), .val (.int p4), .val (.int p5), .val (.int nn), .val (.int c0), .val (.int c1), .unset, .unset, .unset, .unset] [(.int p4)])) (fun _ k => XS.iloadN X0.here hx rfl (hb hby at_16) rfl  k) ?_
  refine Rch.go (U' := s₁.setTop (mkF m 18 #[.val (.int p1), .val (.int p2), .val (.int p3), .val (.int p4), .val (.int p5), .val (.int nn), .val (.int c0), .val (.int c1), .unset, .unset, .unset, .unset] [(.int (p4).toInt8.toInt32)])) (fun _ k => XS.i2b X0.here hx rfl (hb hby at_17) rfl k) ?_
  generalize hc2 : (p4).toInt8.toInt32 = c2
  refine Rch.go (U' := s₁.setTop (mkF m 20 #[.val (.int p1), .val (.int p2), .val (.int p3), .val (.int p4), .val (.int p5), .val (.int nn), .val (.int c0), .val (.int c1), .val (.int c2), .unset, .unset, .unset] [])) (fun _ k => XS.istore X0.here hx rfl (hb hby at_18) rfl (l' := #[.val (.int p1), .val (.int p2), .val (.int p3), .val (.int p4), .val (.int p5), .val (.int nn), .val (.int c0), .val (.int c1), .val (.int c2), .unset, .unset, .unset]) rfl k) ?_
  refine Rch.go (U' := s₁.setTop (mkF m 22 #[.val (.int p1), .val (.int p2), .val (.int p3), .val (.int p4), .val (.int p5), .val (.int nn), .val (.int c0), .val (.int c1), .val (.int c2), .unset, .unset, .unset] [(.int p5)])) (fun _ k => XS.iload X0.here hx rfl (hb hby at_20) rfl  k) ?_
  refine Rch.go (U' := s₁.setTop (mkF m 23 #[.val (.int p1), .val (.int p2), .val (.int p3), .val (.int p4), .val (.int p5), .val (.int nn), .val (.int c0), .val (.int c1), .val (.int c2), .unset, .unset, .unset] [(.int (p5).toInt8.toInt32)])) (fun _ k => XS.i2b X0.here hx rfl (hb hby at_22) rfl k) ?_
  generalize hc3 : (p5).toInt8.toInt32 = c3
  refine Rch.go (U' := s₁.setTop (mkF m 25 #[.val (.int p1), .val (.int p2), .val (.int p3), .val (.int p4), .val (.int p5), .val (.int nn), .val (.int c0), .val (.int c1), .val (.int c2), .val (.int c3), .unset, .unset] [])) (fun _ k => XS.istore X0.here hx rfl (hb hby at_23) rfl (l' := #[.val (.int p1), .val (.int p2), .val (.int p3), .val (.int p4), .val (.int p5), .val (.int nn), .val (.int c0), .val (.int c1), .val (.int c2), .val (.int c3), .unset, .unset]) rfl k) ?_
  rcases own_n5 p1 with q | q | q | q | q <;> rw [hnn] at q <;> subst q
  · exact cut25_0 p1 p2 p3 p4 p5 c0 c1 c2 c3 X0 hx hZ hw hby hml hown hret hlk e0 N0 Z0 (hc0 ▸ own_byte p2) (hc1 ▸ own_byte p3) (hc2 ▸ own_byte p4) (hc3 ▸ own_byte p5) (hc0 ▸ (c_i2b p2).2) (hc1 ▸ (c_i2b p3).2) (hc2 ▸ (c_i2b p4).2) (hc3 ▸ (c_i2b p5).2)
  · exact cut25_1 p1 p2 p3 p4 p5 c0 c1 c2 c3 X0 hx hZ hw hby hml hown hret hlk e0 N0 Z0 (hc0 ▸ own_byte p2) (hc1 ▸ own_byte p3) (hc2 ▸ own_byte p4) (hc3 ▸ own_byte p5) (hc0 ▸ (c_i2b p2).2) (hc1 ▸ (c_i2b p3).2) (hc2 ▸ (c_i2b p4).2) (hc3 ▸ (c_i2b p5).2)
  · exact cut25_2 p1 p2 p3 p4 p5 c0 c1 c2 c3 X0 hx hZ hw hby hml hown hret hlk e0 N0 Z0 (hc0 ▸ own_byte p2) (hc1 ▸ own_byte p3) (hc2 ▸ own_byte p4) (hc3 ▸ own_byte p5) (hc0 ▸ (c_i2b p2).2) (hc1 ▸ (c_i2b p3).2) (hc2 ▸ (c_i2b p4).2) (hc3 ▸ (c_i2b p5).2)
  · exact cut25_3 p1 p2 p3 p4 p5 c0 c1 c2 c3 X0 hx hZ hw hby hml hown hret hlk e0 N0 Z0 (hc0 ▸ own_byte p2) (hc1 ▸ own_byte p3) (hc2 ▸ own_byte p4) (hc3 ▸ own_byte p5) (hc0 ▸ (c_i2b p2).2) (hc1 ▸ (c_i2b p3).2) (hc2 ▸ (c_i2b p4).2) (hc3 ▸ (c_i2b p5).2)
  · exact cut25_4 p1 p2 p3 p4 p5 c0 c1 c2 c3 X0 hx hZ hw hby hml hown hret hlk e0 N0 Z0 (hc0 ▸ own_byte p2) (hc1 ▸ own_byte p3) (hc2 ▸ own_byte p4) (hc3 ▸ own_byte p5) (hc0 ▸ (c_i2b p2).2) (hc1 ▸ (c_i2b p3).2) (hc2 ▸ (c_i2b p4).2) (hc3 ▸ (c_i2b p5).2)
set_option maxRecDepth 65536 in
set_option maxHeartbeats 40000000 in
theorem comes_1 {Post : Tables → Env → Array Value → State → Outcome → State → Prop} (hpost : ∀ tb e args s v u, (limb_1_1.after args s (.returned v) u = true ∧ limb_1_2.after args s (.returned v) u = true ∧ True) → FrameEnd s (.returned v) u (Jvm.fieldLocs frame_1_writes args s ++ Jvm.arrayLocs frame_1_arrays args s ++ Jvm.staticLocs frame_1_statics s) 16 128 → Post tb e args s (.returned v) u) :
    ArmFor flags0 classFile x code maxLocals ret World_1 tables_1 room_1 Calls_1 rest_1 Pre_1 Post := by
  intro l hfl _ _ p e ha hc hk s m args below hf hA hF happ hP
  obtain ⟨hcalls, hrest, hpre⟩ := hP
  obtain ⟨-, -, -, hnamed, -, -, -, hat⟩ := (Spec.applies_iff hf).mp happ
  obtain ⟨hg, hn⟩ := and_e (Cond.before_iff.mp (show (Jvm.Cond.and given_1 narrow_1).before args s = true from hpre))
  obtain ⟨hcount, hg0⟩ := and_e hg
  obtain ⟨ga0, hg1⟩ := and_e hg0
  obtain ⟨ga1, hg2⟩ := and_e hg1
  obtain ⟨ga2, hg3⟩ := and_e hg2
  obtain ⟨ga3, hg4⟩ := and_e hg3
  obtain ⟨w0, w1, w2, w3, w4, rfl⟩ : ∃ w0 w1 w2 w3 w4 : Value, args = #[w0, w1, w2, w3, w4] := by
    have hs : args.size = 5 := by simpa [Cond.value, given_1] using hcount
    obtain ⟨L⟩ := args
    match L, hs with
    | [w0, w1, w2, w3, w4], _ => exact ⟨w0, w1, w2, w3, w4, rfl⟩
  have hw := fun d (hd : d ∈ tables_1) => atoms_spec (ws := Jvm.Cond.code x code maxLocals ret :: tables_1) hat d (List.mem_cons_of_mem _ hd)
  obtain ⟨i0, ei0⟩ := is_v ga0
  obtain rfl : w0 = (.int i0) := Option.some.inj ei0
  obtain ⟨i1, ei1⟩ := is_v ga1
  obtain rfl : w1 = (.int i1) := Option.some.inj ei1
  obtain ⟨i2, ei2⟩ := is_v ga2
  obtain rfl : w2 = (.int i2) := Option.some.inj ei2
  obtain ⟨i3, ei3⟩ := is_v ga3
  obtain rfl : w3 = (.int i3) := Option.some.inj ei3
  obtain ⟨i4, ei4⟩ := is_v hg4
  obtain rfl : w4 = (.int i4) := Option.some.inj ei4
  obtain ⟨n, o, h1, h2, h3, _, L, rfl, ⟨rfl, N⟩, hq⟩ := rm0 l s _ hw tables_1 i0 i1 i2 i3 i4 s.heap s.heap.size (Nat.le_refl _)  p e ha hc hk s m _ below hf ((Spec.applies_iff_loose hf).mp happ).1 ⟨rfl, State.Warmed39.refl s, rfl⟩ trivial
  refine ⟨n, _, h1, h2, h3, hpost _ _ _ _ _ _ ⟨Cond.after_iff.mpr rfl, Cond.after_iff.mpr (eq_i res_at (Term.int_eval (1)) rfl), trivial⟩ ⟨hq.1, hq.2.1, (hq.2.2.sift fun y hy => Or.inr (N y hy)).mono (by decide) (by decide)⟩⟩
theorem main_1_1 : Claimed_1_1 := comes_1 fun _ _ _ _ _ _ h hF => ⟨h.1, hF⟩
theorem main_1_2 : Claimed_1_2 := comes_1 fun _ _ _ _ _ _ h hF => ⟨h.2.1, hF⟩
end Jvm.Pilot.@@N@@
namespace Jvm.Pilot.@@N@@
open Jvm Jvm.ClassFile Sem Op Lib Jvm.Free Jvm.Stand Jvm.Pilot.@@N@@.Jvm.D
/-! MADE BY PROGRAM (witnessworld.py) out of the Statement's table words and the real class files: 9 classes; the members and pool entries that the words name. The judged class is class 1, her method 2. -/
namespace start1
open Jvm.ClassFile
def u (s : String) : CpInfo := .utf8 (stringToUtf16 s)
/-- a pool by its gaps: so many unusable entries, then the entry; so many at the end -/
def gap : Nat → List CpInfo → List CpInfo
  | 0, r => r
  | n + 1, r => .unusable :: gap n r
def poolList (es : List (Nat × CpInfo)) (last : Nat) : List CpInfo := es.foldr (fun e r => gap e.1 (e.2 :: r)) (gap last [])
def pool (es : List (Nat × CpInfo)) (last : Nat) : Array CpInfo := ⟨poolList es last⟩
def fileOf (pool : Array CpInfo) (this : Nat) (attrs : Array Attribute := #[]) (ms : Array MethodInfo := #[]) (fl : Nat := 33) (sup : Nat := 0) (ifs : Array Nat := #[]) (fds : Array FieldInfo := #[]) : ClassFile where
  minorVersion := 0
  majorVersion := 65
  constantPool := pool
  accessFlags := fl
  thisClass := this
  superClass := sup
  interfaces := ifs
  fields := fds
  methods := ms
  attributes := attrs
def plain (name : String) (sup : Option ClassId) : Class where
  name := name
  kind := .ordinary
  loader := none
  accessFlags := 33
  super := sup
  interfaces := #[]
  cf := none
  fields := #[]
  methods := #[]
  instanceTypes := #[]
  staticTypes := #[]
  resolved := #[]
  callSites := []
  init := .initialized
  statics := none
  mirror := none

def pool0 : Array CpInfo := pool [(5, u "<init>"), (0, u "()V"), (1, .class_ 10), (1, u "java/lang/Object")] 113

def k0m0 : Method := { name := "<init>", desc := "()V", sig := { parameters := [], returnType := none }, accessFlags := 1, code := none }
/-- java/lang/Object -/
def k0 : Class := { plain "java/lang/Object" none with
  accessFlags := 33
  interfaces := #[]
  cf := some (fileOf pool0 8 #[] #[{ accessFlags := 1, nameIndex := 5, descriptorIndex := 6, attributes := #[] }] 33 0 #[] #[])
  fields := #[]
  methods := #[k0m0]
  instanceTypes := #[]
  staticTypes := #[]
  resolved := Array.replicate 124 none
  statics := none }

def pool1 : Array CpInfo := pool [(2, .class_ 4), (1, u "java/lang/Object"), (0, u "<init>"), (0, u "()V"), (0, .integer 2147483647), (0, .methodref 9 10), (0, .class_ 11), (0, .nameAndType 12 13), (0, u "com/example/slotwise/slotwise/commands/ClientCommandsIsValidNamePinLaw"), (0, u "printableNoSpace"), (0, u "(B)Z"), (0, .methodref 15 16), (0, .class_ 17), (0, .nameAndType 18 19), (0, u "com/example/slotwise/slotwise/commands/ClientCommands"), (0, u "isValidName"), (0, u "([B)Z"), (3, u "law"), (0, u "(IIIII)Z")] 4

def k1m0 : Method := { name := "<init>", desc := "()V", sig := { parameters := [], returnType := none }, accessFlags := 2, code := none }
def k1c1 : Code := { maxStack := 2, maxLocals := 2, code := method_2_code, exceptionTable := #[], attributes := #[] }
def k1m1 : Method := { name := "printableNoSpace", desc := "(B)Z", sig := { parameters := [.byte], returnType := some .boolean }, accessFlags := 10, code := some k1c1 }
def k1c2 : Code := { maxStack := 4, maxLocals := 12, code := code, exceptionTable := #[], attributes := #[] }
def k1m2 : Method := { name := "law", desc := "(IIIII)Z", sig := { parameters := [.int, .int, .int, .int, .int], returnType := some .boolean }, accessFlags := 9, code := some k1c2 }
/-- com/example/slotwise/slotwise/commands/ClientCommandsIsValidNamePinLaw -/
def k1 : Class := { plain "com/example/slotwise/slotwise/commands/ClientCommandsIsValidNamePinLaw" (some 0) with
  accessFlags := 49
  interfaces := #[]
  cf := some (fileOf pool1 9 #[] #[{ accessFlags := 2, nameIndex := 5, descriptorIndex := 6, attributes := #[] }, { accessFlags := 10, nameIndex := 12, descriptorIndex := 13, attributes := #[] }, { accessFlags := 9, nameIndex := 23, descriptorIndex := 24, attributes := #[] }] 49 2 #[] #[])
  fields := #[]
  methods := #[k1m0, k1m1, k1m2]
  instanceTypes := #[]
  staticTypes := #[]
  resolved := Array.replicate 29 none
  statics := none }

def pool2 : Array CpInfo := pool [(2, .class_ 4), (1, u "java/lang/Object"), (0, u "<init>"), (0, u "()V"), (4, .class_ 13), (1, u "com/example/slotwise/slotwise/commands/ClientCommands"), (0, u "sessions"), (0, u "Ljava/util/Map;"), (5, u "lastId"), (0, u "Ljava/util/concurrent/atomic/AtomicLong;"), (10, u "subcommands"), (0, u "Lcom/example/slotwise/slotwise/service/CommandSet;"), (100, u "isValidName"), (0, u "([B)Z"), (2, u "INVALID_NAME"), (0, u "Lcom/example/slotwise/slotwise/protocol/Reply;"), (150, u "NOT_ONE_WORD"), (0, u "Ljava/lang/String;")] 79

def k2m0 : Method := { name := "<init>", desc := "()V", sig := { parameters := [], returnType := none }, accessFlags := 0, code := none }
def k2c1 : Code := { maxStack := 2, maxLocals := 5, code := prog_11_method_6_code, exceptionTable := #[], attributes := #[] }
def k2m1 : Method := { name := "isValidName", desc := "([B)Z", sig := { parameters := [(.array .byte)], returnType := some .boolean }, accessFlags := 8, code := some k2c1 }
/-- com/example/slotwise/slotwise/commands/ClientCommands -/
def k2 : Class := { plain "com/example/slotwise/slotwise/commands/ClientCommands" (some 0) with
  accessFlags := 48
  interfaces := #[]
  cf := some (fileOf pool2 11 #[] #[{ accessFlags := 0, nameIndex := 5, descriptorIndex := 6, attributes := #[] }, { accessFlags := 8, nameIndex := 135, descriptorIndex := 136, attributes := #[] }] 48 2 #[] #[{ accessFlags := 26, nameIndex := 291, descriptorIndex := 292, attributes := #[] }, { accessFlags := 24, nameIndex := 139, descriptorIndex := 140, attributes := #[] }, { accessFlags := 18, nameIndex := 14, descriptorIndex := 15, attributes := #[] }, { accessFlags := 18, nameIndex := 21, descriptorIndex := 22, attributes := #[] }, { accessFlags := 18, nameIndex := 33, descriptorIndex := 34, attributes := #[] }])
  fields := #[{ name := "NOT_ONE_WORD", type := (.object "java/lang/String"), accessFlags := 26, slot := 0, constantValue := 0 }, { name := "INVALID_NAME", type := (.object "com/example/slotwise/slotwise/protocol/Reply"), accessFlags := 24, slot := 1, constantValue := 0 }, { name := "sessions", type := (.object "java/util/Map"), accessFlags := 18, slot := 0, constantValue := 0 }, { name := "lastId", type := (.object "java/util/concurrent/atomic/AtomicLong"), accessFlags := 18, slot := 1, constantValue := 0 }, { name := "subcommands", type := (.object "com/example/slotwise/slotwise/service/CommandSet"), accessFlags := 18, slot := 2, constantValue := 0 }]
  methods := #[k2m0, k2m1]
  instanceTypes := #[(.object "java/util/Map"), (.object "java/util/concurrent/atomic/AtomicLong"), (.object "com/example/slotwise/slotwise/service/CommandSet")]
  staticTypes := #[(.object "java/lang/String"), (.object "com/example/slotwise/slotwise/protocol/Reply")]
  resolved := Array.replicate 372 none
  statics := none }

def pool3 : Array CpInfo := pool [(1, u "java/lang/Cloneable"), (0, .class_ 1), (0, u "java/lang/Object"), (0, .class_ 3)] 3

/-- java/lang/Cloneable -/
def k3 : Class := { plain "java/lang/Cloneable" (some 0) with
  accessFlags := 1537
  interfaces := #[]
  cf := some (fileOf pool3 2 #[] #[] 1537 4 #[] #[])
  fields := #[]
  methods := #[]
  instanceTypes := #[]
  staticTypes := #[]
  resolved := Array.replicate 8 none
  statics := none }

def pool4 : Array CpInfo := pool [(1, u "java/io/Serializable"), (0, .class_ 1), (0, u "java/lang/Object"), (0, .class_ 3)] 3

/-- java/io/Serializable -/
def k4 : Class := { plain "java/io/Serializable" (some 0) with
  accessFlags := 1537
  interfaces := #[]
  cf := some (fileOf pool4 2 #[] #[] 1537 4 #[] #[])
  fields := #[]
  methods := #[]
  instanceTypes := #[]
  staticTypes := #[]
  resolved := Array.replicate 8 none
  statics := none }

/-- the primitive byte -/
def k5 : Class := { plain "byte" none with kind := .primitive 'B', accessFlags := 0x411 }
/-- [B -/
def k6 : Class := { plain "[B" (some 0) with kind := .array 5 .byte, interfaces := #[3, 4], accessFlags := 1041 }

/-- the primitive int -/
def k7 : Class := { plain "int" none with kind := .primitive 'I', accessFlags := 0x411 }
/-- [I -/
def k8 : Class := { plain "[I" (some 0) with kind := .array 7 .int, interfaces := #[3, 4], accessFlags := 1041 }

def heap : Heap := #[]
def classes : Array Class := #[k0, k1, k2, k3, k4, k5, k6, k7, k8]
def interned : List (Array UInt16 × Addr) := []
def slotsUsed : Nat := 0
def theMethod : MethodId := ⟨1, 2⟩
def args0 : Array Value := #[.int 3, .int 65, .int 2, .int 3, .int 4]
def aboutOver (below : List Frame) : State where
  vm := { classes := classes, interned := interned.toArray }
  heap := heap
  slotsUsed := slotsUsed
  threads := #[{ frames := .invoking theMethod args0 :: below }]
def below0 : List Frame := [.native { method := ⟨0, 0⟩, args := #[] }]
def about1 : State := aboutOver below0
def p0 : Program := .bare "" "" ""
def e0 : Env := launch0.env 0 0 0
theorem w_frames : about1.frames = Frame.invoking theMethod args0 :: below0 := rfl
set_option maxRecDepth 65536 in
theorem w_args : argsFit about1.vm theMethod args0 = true := by decide +kernel
set_option maxRecDepth 65536 in
theorem w_heap : heapFits about1 = true := by decide +kernel
set_option maxRecDepth 65536 in
theorem w_runnable : about1.curStatus? = some .runnable := by decide +kernel
set_option maxRecDepth 65536 in
theorem w_alone : about1.alone = true := by decide +kernel
set_option maxRecDepth 65536 in
theorem w_named : about1.methodNamed? x = some theMethod := by decide +kernel
set_option maxRecDepth 65536 in
theorem w_hears : about1.hears theMethod below0 = true := by decide +kernel
set_option maxRecDepth 65536 in
theorem w_ripe : about1.ripe theMethod args0 below0 = true := by decide +kernel
theorem w_running : about1.status = .running := rfl
set_option maxRecDepth 65536 in
theorem w_room : about1.hasRoom e0.platform room_1 = true :=
  launch0.hasRoom_least _ room_1 (by decide +kernel) (by decide +kernel) (by decide +kernel) (by decide +kernel) (by decide +kernel) (by decide +kernel)
theorem allAtoms_all (ts : List Jvm.Cond) (a : Array Jvm.Value) (st : Jvm.State) : (allAtoms ts).before a st = ts.all (fun c => c.before a st) := by
  induction ts with
  | nil => rfl
  | cons c t ih =>
    show (Jvm.Cond.and c (allAtoms t)).before a st = _
    rw [Jvm.Cond.before_and, ih, List.all_cons]
def words1 : List Jvm.Cond := Jvm.Cond.code x code maxLocals ret :: tables_1
/-- a 'code' word, met by the world's own term for the bytes: nothing is compared byte by byte -/
theorem code_word {y : MethodName} {bytes : ByteArray} {mx : Nat} {rt : Option FieldType} {a : Array Value} {s : State} {m : MethodId} {meth : Method} {c : Code} (h1 : s.methodNamed? y = some m) (h2 : s.vm.method? m = some meth) (h3 : meth.code = some c) (h4 : c.code = bytes)
    (h5 : (c.maxLocals == mx && c.exceptionTable.isEmpty && decide (c.maxStack ≤ mostOperands) && decide (meth.sig.returnType = rt) && !meth.locks && decide (parseMethodDescriptor y.desc = some meth.sig)) = true) : (Jvm.Cond.code y bytes mx rt).before a s = true := by
  simp only [Bool.and_eq_true, beq_iff_eq, Bool.not_eq_true', decide_eq_true_eq] at h5
  obtain ⟨⟨⟨⟨⟨g1, g2⟩, g3⟩, g4⟩, g5⟩, g6⟩ := h5
  simp [Cond.before, Cond.holds, Cond.value, h1, h2, h3, h4, g1, g2, g3, g4, g5, g6]
def isCode : Jvm.Cond → Bool
  | .code _ _ _ _ => true
  | _ => false
theorem all_split {L : List Jvm.Cond} {P : Jvm.Cond → Bool} (h1 : L.all (fun c => isCode c || P c) = true) (h2 : ∀ c ∈ L.filter isCode, P c = true) : L.all P = true := by
  refine List.all_eq_true.mpr fun c hc => ?_
  have h := List.all_eq_true.mp h1 c hc
  rcases Bool.eq_false_or_eq_true (isCode c) with hi | hi
  · exact h2 c (List.mem_filter.mpr ⟨hc, hi⟩)
  · simpa [hi] using h
set_option maxRecDepth 65536 in
theorem w_c0 : (Jvm.Cond.code x code maxLocals ret).before args0 about1 = true := code_word (m := ⟨1, 2⟩) (meth := k1m2) (c := k1c2) (by decide +kernel) rfl rfl rfl (by decide +kernel)
set_option maxRecDepth 65536 in
theorem w_c1 : (Jvm.Cond.code ({ cls := "com/example/slotwise/slotwise/commands/ClientCommands", name := "isValidName", desc := "([B)Z" } : Jvm.MethodName) prog_11_method_6_code (5 : Nat) (Option.some Jvm.ClassFile.FieldType.boolean)).before args0 about1 = true := code_word (m := ⟨2, 1⟩) (meth := k2m1) (c := k2c1) (by decide +kernel) rfl rfl rfl (by decide +kernel)
set_option maxRecDepth 65536 in
theorem w_c2 : (Jvm.Cond.code ({ cls := "com/example/slotwise/slotwise/commands/ClientCommandsIsValidNamePinLaw", name := "printableNoSpace", desc := "(B)Z" } : Jvm.MethodName) method_2_code (2 : Nat) (Option.some Jvm.ClassFile.FieldType.boolean)).before args0 about1 = true := code_word (m := ⟨1, 1⟩) (meth := k1m1) (c := k1c1) (by decide +kernel) rfl rfl rfl (by decide +kernel)
def codes1 : List Jvm.Cond := [Jvm.Cond.code x code maxLocals ret, Jvm.Cond.code ({ cls := "com/example/slotwise/slotwise/commands/ClientCommands", name := "isValidName", desc := "([B)Z" } : Jvm.MethodName) prog_11_method_6_code (5 : Nat) (Option.some Jvm.ClassFile.FieldType.boolean), Jvm.Cond.code ({ cls := "com/example/slotwise/slotwise/commands/ClientCommandsIsValidNamePinLaw", name := "printableNoSpace", desc := "(B)Z" } : Jvm.MethodName) method_2_code (2 : Nat) (Option.some Jvm.ClassFile.FieldType.boolean)]
set_option maxRecDepth 65536 in
theorem codes_eq : words1.filter isCode = codes1 := rfl
theorem w_codes : ∀ c ∈ words1.filter isCode, c.before args0 about1 = true := by
  rw [codes_eq]
  intro c hc
  simp only [codes1, List.mem_cons, List.not_mem_nil, or_false] at hc
  rcases hc with rfl | rfl | rfl
  · exact w_c0
  · exact w_c1
  · exact w_c2
set_option maxRecDepth 65536 in
theorem w_t1 : words1.all (fun c => isCode c || c.before args0 about1) = true := by decide +kernel
theorem w_tables : (allAtoms (Jvm.Cond.code x code maxLocals ret :: tables_1)).before args0 about1 = true := by
  rw [allAtoms_all]
  show words1.all (fun c => c.before args0 about1) = true
  refine all_split ?_ w_codes
  rw [w_t1]
set_option maxRecDepth 65536 in
theorem w_case : (Jvm.Cond.and given_1 narrow_1).before args0 about1 = true := by decide +kernel
theorem w_applies : (headSpec (Jvm.Cond.code x code maxLocals ret :: tables_1) room_1).applies x e0.platform about1 = true :=
  (Spec.applies_iff w_frames).mpr ⟨w_running, w_runnable, w_alone, w_named, w_hears, w_ripe, w_room, w_tables⟩
theorem atStart : AtStart classFile x code maxLocals ret World_1 tables_1 room_1 Calls_1 rest_1 Pre_1 launch0 p0 e0 about1 theMethod args0 below0 :=
  ⟨lists_1, trivial, launch0.admits_env _ _ _, launch0.least_env, fairChoices_fair.cas, fairChoices_fair.clock, w_frames, w_args, w_heap, w_applies, trivial, trivial, w_case⟩
end start1
theorem witness_1 : WitnessClaimed_1 := ⟨start1.p0, start1.e0, start1.about1, start1.theMethod, start1.args0, start1.below0, start1.atStart⟩
end Jvm.Pilot.@@N@@
