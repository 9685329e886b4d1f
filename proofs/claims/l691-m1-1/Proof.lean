import JvmDerived
import JvmDerived.Pilot.@@N@@Statement
import JvmDerived.Pilot.@@N@@Code
set_option linter.unusedVariables false
set_option linter.unusedSimpArgs false
namespace Jvm.RoadKit
open Sem ClassFile Op Lib Jvm.Stand Jvm.Free Jvm.LawKit
section New
variable {p : Program} {l : Launch} {e : Env} {R : Room} {s : State} {m : MethodId} {args : Array Value} {below : List Frame} {meth : Method} {c : Code} {T : State} {locs : List Loc} {cells slots : Nat}
theorem retI (X : Stand p l e R s m args below meth c T locs cells slots) (hx : p.tables.exec = Jvm.exec) {pc : Nat} {Ls : Array Slot} {z : Int32} {rest : List Value} (hret : meth.sig.returnType = some .int) (hd : decode c.code pc = .ok (.ireturn, 1)) {fs : List Frame}
    (hl : ∀ (f : JFrame) (acts : List Action), f.method = m → f.locked = none → f.entered = [] → (doReturn e (T.setTop f) acts (some (.int z))).1 = T.setFrames fs) : Steps p.tables e below (T.setTop (mkF m pc Ls (.int z :: rest))) (T.setFrames fs) := by
  have hm' : T.vm.method? m = some meth := X.method'
  have hn : narrow .int (.int z) = .int z := rfl
  show Steps p.tables e below (T.setTop { method := m, pc := pc, locals := Ls, stack := _ :: rest, locked := none }) _
  jvm_step X.here [X.here.top, hx, hd, hm', hret, hn]
  first | (intro acts; rw [hl _ acts rfl rfl rfl]) | rw [hl _ _ rfl rfl rfl]
  exact Steps.refl _
/-- a run from U comes to a state of which K holds -/
def Rch (p : Program) (e : Env) (below : List Frame) (K : State → Prop) (U : State) : Prop := ∃ s₂, Steps p.tables e below U s₂ ∧ K s₂
theorem Rch.go {K : State → Prop} {U U' : State} (h : ∀ t, Steps p.tables e below U' t → Steps p.tables e below U t) (k : Rch p e below K U') : Rch p e below K U := by
  obtain ⟨s₂, a, b⟩ := k; exact ⟨s₂, h _ a, b⟩
theorem Rch.to {K : State → Prop} {U U' : State} (h : Steps p.tables e below U U') (k : Rch p e below K U') : Rch p e below K U := by
  obtain ⟨s₂, a, b⟩ := k; exact ⟨s₂, h.trans a, b⟩
theorem Rch.then {K K' : State → Prop} {U : State} (h : Rch p e below K U) (f : ∀ V, K V → Rch p e below K' V) : Rch p e below K' U := by
  obtain ⟨s₂, a, b⟩ := h; exact Rch.to a (f _ b)
/-- the body is left: what it returned and what it leaves -/
def Fin (s : State) (below : List Frame) (Q : Option Value → Heap → List Loc → Prop) (k n : Nat) (s₂ : State) : Prop :=
  ∃ o, s₂.status = .running ∧ Ended s₂ below o ∧ ∃ v L, o = .returned v ∧ Q v s₂.heap L ∧ FrameEnd s o s₂ L k n
theorem Rch.fin {Q : Option Value → Heap → List Loc → Prop} {k n : Nat} {U : State} {h : Heap} (X : Stand p l e R s m args below meth c T locs cells slots) (hlk : meth.locks = false) {v : Option Value} (hv : meth.sig.returnType = none → v = none) (eT : T.heap = h) (hc : cells ≤ k) (hn : slots ≤ n)
    (st : ∀ fs, (∀ (f : JFrame) (acts : List Action), f.method = m → f.locked = none → f.entered = [] → (doReturn e (T.setTop f) acts v).1 = T.setFrames fs) → Steps p.tables e below U (T.setFrames fs)) (hQ : Q v h locs) : Rch p e below (Fin s below Q k n) U := by
  obtain ⟨fs, hr, hrun, hended, hW, hsame⟩ := X.leave hv hlk
  refine ⟨_, st fs hr, _, hrun, hended, v, locs, rfl, ?_, ⟨_, rfl⟩, hW, hsame.mono hc hn⟩
  show Q v T.heap locs
  rw [eT]; exact hQ
theorem Rch.body {Q : Option Value → Heap → List Loc → Prop} {k n : Nat} {U U' : State} (h : ∀ t, Steps p.tables e below U' t → Steps p.tables e below U t) (H : Rch p e below (Fin s below Q k n) U') :
    ∃ s₂ o, Steps p.tables e below U s₂ ∧ s₂.status = .running ∧ Ended s₂ below o ∧ (∃ v L, o = .returned v ∧ Q v s₂.heap L ∧ FrameEnd s o s₂ L k n) := by
  obtain ⟨s₂, a, o, b, c, d⟩ := H; exact ⟨s₂, o, h _ a, b, c, d⟩
/-- the same, said with the wide end (a String constant may have been interned) -/
def FinW (s : State) (below : List Frame) (Q : Option Value → Heap → List Loc → Prop) (k n : Nat) (s₂ : State) : Prop :=
  ∃ o, s₂.status = .running ∧ Ended s₂ below o ∧ ∃ v L, o = .returned v ∧ Q v s₂.heap L ∧ ReturnedEndW s o s₂ L k n
theorem Rch.finW {Q : Option Value → Heap → List Loc → Prop} {k n : Nat} {U : State} {h : Heap} {vm₁ : Vm} {n1 : Nat} (X : Stand p l e R (s.setVm vm₁) m args below meth c T locs cells slots) (hlk : meth.locks = false) {v : Option Value} (hv : meth.sig.returnType = none → v = none) (eT : T.heap = h) (hc : cells ≤ k) (hn : slots ≤ n)
    (hS : s.Since vm₁ n1) (hk : n1 ≤ h.size) (st : ∀ fs, (∀ (f : JFrame) (acts : List Action), f.method = m → f.locked = none → f.entered = [] → (doReturn e (T.setTop f) acts v).1 = T.setFrames fs) → Steps p.tables e below U (T.setFrames fs)) (hQ : Q v h locs) : Rch p e below (FinW s below Q k n) U := by
  obtain ⟨fs, hr, hrun, hended, hE⟩ := X.leaveW hS (by rw [eT]; exact hk) hv hlk
  refine ⟨_, st fs hr, _, hrun, hended, v, locs, rfl, ?_, hE.1, hE.2.1, hE.2.2.1, hE.2.2.2.mono hc hn⟩
  show Q v T.heap locs
  rw [eT]; exact hQ
theorem Rch.bodyW {Q : Option Value → Heap → List Loc → Prop} {k n : Nat} {U U' : State} (h : ∀ t, Steps p.tables e below U' t → Steps p.tables e below U t) (H : Rch p e below (FinW s below Q k n) U') :
    ∃ s₂ o, Steps p.tables e below U s₂ ∧ s₂.status = .running ∧ Ended s₂ below o ∧ (∃ v L, o = .returned v ∧ Q v s₂.heap L ∧ ReturnedEndW s o s₂ L k n) := by
  obtain ⟨s₂, a, o, b, c, d⟩ := H; exact ⟨s₂, o, h _ a, b, c, d⟩
theorem nar_1 : nar .boolean 1 = 1 := rfl
theorem nar_0 : nar .boolean 0 = 0 := rfl
end New
end Jvm.RoadKit
namespace Jvm.Pilot.@@N@@
open Jvm Jvm.ClassFile Sem Op Lib Jvm.Free Jvm.Stand Jvm.LawKit Jvm.RoadKit Bundle Jvm.Pilot.@@N@@.Jvm.D
theorem wi {Z : State} {a0 : Array Value} (hw : ∀ d ∈ tables_1, d.before a0 Z = true) (i : Nat) {d : Jvm.Cond} (h : tables_1[i]? = some d) : d.before a0 Z = true := hw d (List.mem_of_getElem? h)
def own_not (x : Int32) : Int32 := if x = 0 then 1 else 0
theorem d5_0 : decode prog_10_method_1_code 0 = .ok (.aload_n 0, 1) := by decide +kernel
theorem d5_1 : decode prog_10_method_1_code 1 = .ok (.invokespecial 1, 3) := by decide +kernel
theorem d5_4 : decode prog_10_method_1_code 4 = .ok (.return_, 1) := by decide +kernel
theorem pd_1 : parseMethodDescriptor "()V" = some ⟨[], none⟩ := by decide +kernel
theorem pn_com_example_linkstride_linkstride_lookup_HttpRequests_Exchange : plainName "com/example/linkstride/linkstride/lookup/HttpRequests$Exchange" = true := by first | (simp [plainName, overriddenIn]; done) | decide +kernel
theorem ef_rmNew (m : MethodId) (a1 : Addr) : entryFrame m #[(.ref a1)] 1 = mkF m 0 #[.val (.ref a1)] [] := by first | (simp [entryFrame, mkF, argsToLocals, Value.category]; done) | rfl
def Q_rmNew (Z : State) (a1 : Addr) (cl : Int32) (h0 : Heap) (n0 : Nat) (v : Option Value) (h : Heap) (L : List Loc) : Prop := v = none ∧ Fr n0 L ∧ h = h0
set_option maxRecDepth 65536 in
set_option maxHeartbeats 40000000 in
theorem rmNew (l : Launch) (Z : State) (a0 : Array Value) (hw : ∀ d ∈ tables_1, d.before a0 Z = true) (ws : List Jvm.Cond) (a1 : Addr) (cl : Int32) (h0 : Heap) (n0 : Nat) (Z0 : n0 ≤ h0.size) (E_a1 : Exa Z h0 a1 "com/example/linkstride/linkstride/lookup/HttpRequests$Exchange") (F_a1_current : Fld Z h0 a1 "com/example/linkstride/linkstride/lookup/HttpRequests$Exchange" "current" "Ljava/net/Socket;" .null) (F_a1_closed : Fld Z h0 a1 "com/example/linkstride/linkstride/lookup/HttpRequests$Exchange" "closed" "Z" (.int cl)) :
    MetFree l (⟨"com/example/linkstride/linkstride/lookup/HttpRequests$Exchange", "<init>", "()V"⟩ : MethodName) (head1 (Jvm.Cond.code (⟨"com/example/linkstride/linkstride/lookup/HttpRequests$Exchange", "<init>", "()V"⟩ : MethodName) prog_10_method_1_code 1 none :: ws) ({ frames := 1, cells := 0, slots := 0, locals := 12 } : Room)) (fun a U => a = #[(.ref a1)] ∧ Z.Warmed39 U.vm ∧ U.heap = h0) (fun _ _ _ _ _ => True) (fun _ U o U' => ∃ v L, o = .returned v ∧ Q_rmNew Z a1 cl h0 n0 v U'.heap L ∧ FrameEnd U o U' L ({ frames := 1, cells := 0, slots := 0, locals := 12 } : Room).cells ({ frames := 1, cells := 0, slots := 0, locals := 12 } : Room).slots) := by
  refine MetFree.of_bodySF (plainFor_of_name pn_com_example_linkstride_linkstride_lookup_HttpRequests_Exchange) hisR ?_
  intro p e s m args below meth c s₁ Bd hml0 hP hK
  obtain ⟨rfl, hZ, hh⟩ := hP
  have hx := Bd.exec
  have hby := Bd.bytes
  have hml : c.maxLocals = 1 := hml0
  have hown : s.vm.findClass "com/example/linkstride/linkstride/lookup/HttpRequests$Exchange" = some m.cls := findClass_of_methodNamed Bd.named
  have hnm := (name_of_methodNamed Bd.named Bd.method).1
  have hret := Bd.returns
  have hlk : meth.locks = false := BodyLoose.notSynchronized Bd
  have X0 : Stand p l e ({ frames := 1, cells := 0, slots := 0, locals := 12 } : Room) s m #[(.ref a1)] below meth c s₁ [] 0 0 := Stand.of_body Bd
  have e0 : s₁.heap = h0 := by rw [← hh, Bd.state]; rfl
  have N0 := Fr.nil n0
  refine Rch.body (Q := Q_rmNew Z a1 cl h0 n0) (U' := s₁.setTop (mkF m 0 #[.val (.ref a1)] [])) (fun t k => castTop (ef_rmNew m a1) k) ?_
  refine Rch.go (U' := s₁.setTop (mkF m 1 #[.val (.ref a1)] [(.ref a1)])) (fun _ k => XS.aloadN X0.here hx rfl (hb hby d5_0) rfl rfl k) ?_
  obtain ⟨T1, X1, e1, st1⟩ := initO X0 hx hZ hown (wi hw 6 rfl) (wi hw 7 rfl) (wi hw 8 rfl) e0 (g := (mkF m 1 #[.val (.ref a1)] [(.ref a1)])) rfl (by rw [hml]; rfl) rfl (hb hby d5_1) (by decide) (W := 0) (by show 2 * 0 + _ ≤ _; exact Nat.le_of_eq rfl) (by decide)
  refine Rch.go (U' := T1.setTop (mkF m 4 #[.val (.ref a1)] [])) st1 ?_
  refine Rch.fin X1 hlk (v := none) (fun _ => rfl) e1 (by decide) (by decide) (fun fs hr => X1.returnOut hx hret (hb hby d5_4) hr) ?_
  exact ⟨rfl, N0, rfl⟩
theorem d18_0 : decode prog_10_method_2_code 0 = .ok (.aload_n 0, 1) := by decide +kernel
theorem d18_1 : decode prog_10_method_2_code 1 = .ok (.aload_n 1, 1) := by decide +kernel
theorem d18_2 : decode prog_10_method_2_code 2 = .ok (.putfield 7, 3) := by decide +kernel
theorem d18_5 : decode prog_10_method_2_code 5 = .ok (.aload_n 0, 1) := by decide +kernel
theorem d18_6 : decode prog_10_method_2_code 6 = .ok (.getfield 13, 3) := by decide +kernel
theorem d18_9 : decode prog_10_method_2_code 9 = .ok (.ifCond .eq 13, 3) := by decide +kernel
theorem d18_12 : decode prog_10_method_2_code 12 = .ok (.new 17, 3) := by decide +kernel
theorem d18_15 : decode prog_10_method_2_code 15 = .ok (.dup, 1) := by decide +kernel
theorem d18_16 : decode prog_10_method_2_code 16 = .ok (.ldc 19, 2) := by decide +kernel
theorem d18_18 : decode prog_10_method_2_code 18 = .ok (.invokespecial 21, 3) := by decide +kernel
theorem d18_21 : decode prog_10_method_2_code 21 = .ok (.athrow, 1) := by decide +kernel
theorem d18_22 : decode prog_10_method_2_code 22 = .ok (.return_, 1) := by decide +kernel
theorem ef_rmOpen (m : MethodId) (a1 : Addr) : entryFrame m #[(.ref a1), .null] 2 = mkF m 0 #[.val (.ref a1), .val .null] [] := by first | (simp [entryFrame, mkF, argsToLocals, Value.category]; done) | rfl
def Q_rmOpen (Z : State) (a1 : Addr) (cl : Int32) (h0 : Heap) (n0 : Nat) (v : Option Value) (h : Heap) (L : List Loc) : Prop := v = none ∧ Fr n0 L ∧ Keep h0 h [a1] ∧ Fld Z h a1 "com/example/linkstride/linkstride/lookup/HttpRequests$Exchange" "current" "Ljava/net/Socket;" .null ∧ Fld Z h a1 "com/example/linkstride/linkstride/lookup/HttpRequests$Exchange" "closed" "Z" (.int cl)
set_option maxRecDepth 65536 in
set_option maxHeartbeats 40000000 in
theorem rmOpen (l : Launch) (Z : State) (a0 : Array Value) (hw : ∀ d ∈ tables_1, d.before a0 Z = true) (ws : List Jvm.Cond) (a1 : Addr) (cl : Int32) (h0 : Heap) (n0 : Nat) (Z0 : n0 ≤ h0.size) (E_a1 : Exa Z h0 a1 "com/example/linkstride/linkstride/lookup/HttpRequests$Exchange") (F_a1_current : Fld Z h0 a1 "com/example/linkstride/linkstride/lookup/HttpRequests$Exchange" "current" "Ljava/net/Socket;" .null) (F_a1_closed : Fld Z h0 a1 "com/example/linkstride/linkstride/lookup/HttpRequests$Exchange" "closed" "Z" (.int cl)) (g_a1 : n0 ≤ a1) (hcl : cl = 0) :
    MetFree l (⟨"com/example/linkstride/linkstride/lookup/HttpRequests$Exchange", "open", "(Ljava/net/Socket;)V"⟩ : MethodName) (head1 (Jvm.Cond.code (⟨"com/example/linkstride/linkstride/lookup/HttpRequests$Exchange", "open", "(Ljava/net/Socket;)V"⟩ : MethodName) prog_10_method_2_code 2 none :: ws) ({ frames := 0, cells := 0, slots := 0, locals := 0 } : Room)) (fun a U => a = #[(.ref a1), .null] ∧ Z.Warmed39 U.vm ∧ U.heap = h0) (fun _ _ _ _ _ => True) (fun _ U o U' => ∃ v L, o = .returned v ∧ Q_rmOpen Z a1 cl h0 n0 v U'.heap L ∧ FrameEnd U o U' L ({ frames := 0, cells := 0, slots := 0, locals := 0 } : Room).cells ({ frames := 0, cells := 0, slots := 0, locals := 0 } : Room).slots) := by
  refine MetFree.of_bodySF (plainFor_of_name pn_com_example_linkstride_linkstride_lookup_HttpRequests_Exchange) hisR ?_
  intro p e s m args below meth c s₁ Bd hml0 hP hK
  obtain ⟨rfl, hZ, hh⟩ := hP
  have hx := Bd.exec
  have hby := Bd.bytes
  have hml : c.maxLocals = 2 := hml0
  have hown : s.vm.findClass "com/example/linkstride/linkstride/lookup/HttpRequests$Exchange" = some m.cls := findClass_of_methodNamed Bd.named
  have hnm := (name_of_methodNamed Bd.named Bd.method).1
  have hret := Bd.returns
  have hlk : meth.locks = false := BodyLoose.notSynchronized Bd
  have X0 : Stand p l e ({ frames := 0, cells := 0, slots := 0, locals := 0 } : Room) s m #[(.ref a1), .null] below meth c s₁ [] 0 0 := Stand.of_body Bd
  have e0 : s₁.heap = h0 := by rw [← hh, Bd.state]; rfl
  have N0 := Fr.nil n0
  have K0 := Keep.refl h0 [a1]
  refine Rch.body (Q := Q_rmOpen Z a1 cl h0 n0) (U' := s₁.setTop (mkF m 0 #[.val (.ref a1), .val .null] [])) (fun t k => castTop (ef_rmOpen m a1) k) ?_
  refine Rch.go (U' := s₁.setTop (mkF m 1 #[.val (.ref a1), .val .null] [(.ref a1)])) (fun _ k => XS.aloadN X0.here hx rfl (hb hby d18_0) rfl rfl k) ?_
  refine Rch.go (U' := s₁.setTop (mkF m 2 #[.val (.ref a1), .val .null] [.null, (.ref a1)])) (fun _ k => XS.aloadN X0.here hx rfl (hb hby d18_1) rfl rfl k) ?_
  obtain ⟨T2, h2, X2, e2, W2, st2⟩ := putF X0 hx hZ hown (host := "") (Or.inl (wi hw 19 rfl)) Via.refl e0 F_a1_current E_a1 (Or.inl (wi hw 20 rfl)) (wi hw 1 rfl) (ty := (.object "java/net/Socket")) (by decide) rfl rfl (g := (mkF m 2 #[.val (.ref a1), .val .null] [.null, (.ref a1)])) rfl rfl (hb hby d18_2)
  have F2 := F_a1_current.same W2
  have f3 := E_a1.wr W2
  have f4 := F_a1_closed.other W2 (Or.inr (slot_ne (Or.inl (wi hw 22 rfl)) (Or.inl (wi hw 20 rfl)) (by decide) (t := .boolean) (t' := (.object "java/net/Socket")) (by decide) (by decide)))
  have N2 := Fr.snoc X2 N0 g_a1
  have z5 := Nat.le_trans Z0 (Keep.of_wr W2).1
  have K6 := K0.wr W2 (Or.inl (List.mem_of_getElem? (i := 0) rfl))
  refine Rch.go (U' := T2.setTop (mkF m 5 #[.val (.ref a1), .val .null] [])) st2 ?_
  refine Rch.go (U' := T2.setTop (mkF m 6 #[.val (.ref a1), .val .null] [(.ref a1)])) (fun _ k => XS.aloadN X2.here hx rfl (hb hby d18_5) rfl rfl k) ?_
  obtain ⟨T7, X7, e7, st7⟩ := getF X2 hx hZ hown (host := "") (Or.inl (wi hw 21 rfl)) Via.refl e2 f4 (g := (mkF m 6 #[.val (.ref a1), .val .null] [(.ref a1)])) rfl rfl (hb hby d18_6)
  refine Rch.go (U' := T7.setTop (mkF m 9 #[.val (.ref a1), .val .null] [(.int cl)])) st7 ?_
  have br8 : cl = (0 : Int32) := hcl
  refine Rch.go (U' := T7.setTop (mkF m 22 #[.val (.ref a1), .val .null] [])) (fun _ k => XS.ifYes X7.here hx rfl (pc0 := 9) (pc' := 22) rfl (hb hby d18_9) rfl (XT.i0_eq_t br8) (by decide) (by decide) k) ?_
  refine Rch.fin X7 hlk (v := none) (fun _ => rfl) e7 (by decide) (by decide) (fun fs hr => X7.returnOut hx hret (hb hby d18_22) hr) ?_
  exact ⟨rfl, N2, K6, (by first | exact F2 | (simp only [br8, nar_1, nar_0, ↓reduceIte]; exact F2) | (simp [br8, nar_1, nar_0, ↓reduceIte]; exact F2)), (by first | exact f4 | (simp only [br8, nar_1, nar_0, ↓reduceIte]; exact f4) | (simp [br8, nar_1, nar_0, ↓reduceIte]; exact f4))⟩
theorem d27_0 : decode prog_10_method_3_code 0 = .ok (.aload_n 0, 1) := by decide +kernel
theorem d27_1 : decode prog_10_method_3_code 1 = .ok (.aconst_null, 1) := by decide +kernel
theorem d27_2 : decode prog_10_method_3_code 2 = .ok (.putfield 7, 3) := by decide +kernel
theorem d27_5 : decode prog_10_method_3_code 5 = .ok (.aload_n 0, 1) := by decide +kernel
theorem d27_6 : decode prog_10_method_3_code 6 = .ok (.getfield 13, 3) := by decide +kernel
theorem d27_9 : decode prog_10_method_3_code 9 = .ok (.ifCond .ne 7, 3) := by decide +kernel
theorem d27_12 : decode prog_10_method_3_code 12 = .ok (.iconst 1, 1) := by decide +kernel
theorem d27_13 : decode prog_10_method_3_code 13 = .ok (.goto 4, 3) := by decide +kernel
theorem d27_16 : decode prog_10_method_3_code 16 = .ok (.iconst 0, 1) := by decide +kernel
theorem d27_17 : decode prog_10_method_3_code 17 = .ok (.ireturn, 1) := by decide +kernel
theorem ef_rmRel (m : MethodId) (a1 : Addr) : entryFrame m #[(.ref a1)] 1 = mkF m 0 #[.val (.ref a1)] [] := by first | (simp [entryFrame, mkF, argsToLocals, Value.category]; done) | rfl
def Q_rmRel (Z : State) (a1 : Addr) (cl : Int32) (h0 : Heap) (n0 : Nat) (v : Option Value) (h : Heap) (L : List Loc) : Prop := v = some (.int (own_not cl)) ∧ Fr n0 L ∧ Keep h0 h [a1] ∧ Fld Z h a1 "com/example/linkstride/linkstride/lookup/HttpRequests$Exchange" "current" "Ljava/net/Socket;" .null ∧ Fld Z h a1 "com/example/linkstride/linkstride/lookup/HttpRequests$Exchange" "closed" "Z" (.int cl)
set_option maxRecDepth 65536 in
set_option maxHeartbeats 40000000 in
theorem rmRel (l : Launch) (Z : State) (a0 : Array Value) (hw : ∀ d ∈ tables_1, d.before a0 Z = true) (ws : List Jvm.Cond) (a1 : Addr) (cl : Int32) (h0 : Heap) (n0 : Nat) (Z0 : n0 ≤ h0.size) (E_a1 : Exa Z h0 a1 "com/example/linkstride/linkstride/lookup/HttpRequests$Exchange") (F_a1_current : Fld Z h0 a1 "com/example/linkstride/linkstride/lookup/HttpRequests$Exchange" "current" "Ljava/net/Socket;" .null) (F_a1_closed : Fld Z h0 a1 "com/example/linkstride/linkstride/lookup/HttpRequests$Exchange" "closed" "Z" (.int cl)) (g_a1 : n0 ≤ a1) :
    MetFree l (⟨"com/example/linkstride/linkstride/lookup/HttpRequests$Exchange", "release", "()Z"⟩ : MethodName) (head1 (Jvm.Cond.code (⟨"com/example/linkstride/linkstride/lookup/HttpRequests$Exchange", "release", "()Z"⟩ : MethodName) prog_10_method_3_code 1 (some .boolean) :: ws) ({ frames := 0, cells := 0, slots := 0, locals := 0 } : Room)) (fun a U => a = #[(.ref a1)] ∧ Z.Warmed39 U.vm ∧ U.heap = h0) (fun _ _ _ _ _ => True) (fun _ U o U' => ∃ v L, o = .returned v ∧ Q_rmRel Z a1 cl h0 n0 v U'.heap L ∧ FrameEnd U o U' L ({ frames := 0, cells := 0, slots := 0, locals := 0 } : Room).cells ({ frames := 0, cells := 0, slots := 0, locals := 0 } : Room).slots) := by
  refine MetFree.of_bodySF (plainFor_of_name pn_com_example_linkstride_linkstride_lookup_HttpRequests_Exchange) hisR ?_
  intro p e s m args below meth c s₁ Bd hml0 hP hK
  obtain ⟨rfl, hZ, hh⟩ := hP
  have hx := Bd.exec
  have hby := Bd.bytes
  have hml : c.maxLocals = 1 := hml0
  have hown : s.vm.findClass "com/example/linkstride/linkstride/lookup/HttpRequests$Exchange" = some m.cls := findClass_of_methodNamed Bd.named
  have hnm := (name_of_methodNamed Bd.named Bd.method).1
  have hret := Bd.returns
  have hlk : meth.locks = false := BodyLoose.notSynchronized Bd
  have X0 : Stand p l e ({ frames := 0, cells := 0, slots := 0, locals := 0 } : Room) s m #[(.ref a1)] below meth c s₁ [] 0 0 := Stand.of_body Bd
  have e0 : s₁.heap = h0 := by rw [← hh, Bd.state]; rfl
  have N0 := Fr.nil n0
  have K0 := Keep.refl h0 [a1]
  refine Rch.body (Q := Q_rmRel Z a1 cl h0 n0) (U' := s₁.setTop (mkF m 0 #[.val (.ref a1)] [])) (fun t k => castTop (ef_rmRel m a1) k) ?_
  refine Rch.go (U' := s₁.setTop (mkF m 1 #[.val (.ref a1)] [(.ref a1)])) (fun _ k => XS.aloadN X0.here hx rfl (hb hby d27_0) rfl rfl k) ?_
  refine Rch.go (U' := s₁.setTop (mkF m 2 #[.val (.ref a1)] [.null, (.ref a1)])) (fun _ k => XS.aconstNull X0.here hx rfl (hb hby d27_1) k) ?_
  obtain ⟨T9, h9, X9, e9, W9, st9⟩ := putF X0 hx hZ hown (host := "") (Or.inl (wi hw 19 rfl)) Via.refl e0 F_a1_current E_a1 (Or.inl (wi hw 20 rfl)) (wi hw 1 rfl) (ty := (.object "java/net/Socket")) (by decide) rfl rfl (g := (mkF m 2 #[.val (.ref a1)] [.null, (.ref a1)])) rfl rfl (hb hby d27_2)
  have F9 := F_a1_current.same W9
  have f10 := E_a1.wr W9
  have f11 := F_a1_closed.other W9 (Or.inr (slot_ne (Or.inl (wi hw 22 rfl)) (Or.inl (wi hw 20 rfl)) (by decide) (t := .boolean) (t' := (.object "java/net/Socket")) (by decide) (by decide)))
  have N9 := Fr.snoc X9 N0 g_a1
  have z12 := Nat.le_trans Z0 (Keep.of_wr W9).1
  have K13 := K0.wr W9 (Or.inl (List.mem_of_getElem? (i := 0) rfl))
  refine Rch.go (U' := T9.setTop (mkF m 5 #[.val (.ref a1)] [])) st9 ?_
  refine Rch.go (U' := T9.setTop (mkF m 6 #[.val (.ref a1)] [(.ref a1)])) (fun _ k => XS.aloadN X9.here hx rfl (hb hby d27_5) rfl rfl k) ?_
  obtain ⟨T14, X14, e14, st14⟩ := getF X9 hx hZ hown (host := "") (Or.inl (wi hw 21 rfl)) Via.refl e9 f11 (g := (mkF m 6 #[.val (.ref a1)] [(.ref a1)])) rfl rfl (hb hby d27_6)
  refine Rch.go (U' := T14.setTop (mkF m 9 #[.val (.ref a1)] [(.int cl)])) st14 ?_
  by_cases br15 : cl = (0 : Int32)
  ·
    refine Rch.go (U' := T14.setTop (mkF m 12 #[.val (.ref a1)] [])) (fun _ k => XS.ifNo X14.here hx rfl (hb hby d27_9) rfl (XT.i0_ne_f br15) k) ?_
    refine Rch.go (U' := T14.setTop (mkF m 13 #[.val (.ref a1)] [(.int (1 : Int32))])) (fun _ k => XS.iconst X14.here hx rfl (hb hby d27_12) k) ?_
    refine Rch.go (U' := T14.setTop (mkF m 17 #[.val (.ref a1)] [(.int (1 : Int32))])) (fun _ k => XS.goto X14.here hx rfl (pc0 := 13) (pc' := 17) rfl (hb hby d27_13) (by decide) (by decide) k) ?_
    refine Rch.fin X14 hlk (v := some (.int (nar .boolean (1 : Int32)))) (fun h => by rw [hret] at h; cases h) e14 (by decide) (by decide) (fun fs hr => retN X14 hx (t := .boolean) hret (by simp) (hb hby d27_17) hr) ?_
    exact ⟨(by first | rfl | (simp only [own_not, br15, nar_1, nar_0, ↓reduceIte]; done) | (simp [own_not, br15, nar_1, nar_0, ↓reduceIte]; done)), N9, K13, (by first | exact F9 | (simp only [own_not, br15, nar_1, nar_0, ↓reduceIte]; exact F9) | (simp [own_not, br15, nar_1, nar_0, ↓reduceIte]; exact F9)), (by first | exact f11 | (simp only [own_not, br15, nar_1, nar_0, ↓reduceIte]; exact f11) | (simp [own_not, br15, nar_1, nar_0, ↓reduceIte]; exact f11))⟩
  ·
    refine Rch.go (U' := T14.setTop (mkF m 16 #[.val (.ref a1)] [])) (fun _ k => XS.ifYes X14.here hx rfl (pc0 := 9) (pc' := 16) rfl (hb hby d27_9) rfl (XT.i0_ne_t br15) (by decide) (by decide) k) ?_
    refine Rch.go (U' := T14.setTop (mkF m 17 #[.val (.ref a1)] [(.int (0 : Int32))])) (fun _ k => XS.iconst X14.here hx rfl (hb hby d27_16) k) ?_
    refine Rch.fin X14 hlk (v := some (.int (nar .boolean (0 : Int32)))) (fun h => by rw [hret] at h; cases h) e14 (by decide) (by decide) (fun fs hr => retN X14 hx (t := .boolean) hret (by simp) (hb hby d27_17) hr) ?_
    exact ⟨(by first | rfl | (simp only [own_not, br15, nar_1, nar_0, ↓reduceIte]; done) | (simp [own_not, br15, nar_1, nar_0, ↓reduceIte]; done)), N9, K13, (by first | exact F9 | (simp only [own_not, br15, nar_1, nar_0, ↓reduceIte]; exact F9) | (simp [own_not, br15, nar_1, nar_0, ↓reduceIte]; exact F9)), (by first | exact f11 | (simp only [own_not, br15, nar_1, nar_0, ↓reduceIte]; exact f11) | (simp [own_not, br15, nar_1, nar_0, ↓reduceIte]; exact f11))⟩
theorem d32_0 : decode prog_10_method_4_code 0 = .ok (.aload_n 0, 1) := by decide +kernel
theorem d32_1 : decode prog_10_method_4_code 1 = .ok (.iconst 1, 1) := by decide +kernel
theorem d32_2 : decode prog_10_method_4_code 2 = .ok (.putfield 13, 3) := by decide +kernel
theorem d32_5 : decode prog_10_method_4_code 5 = .ok (.aload_n 0, 1) := by decide +kernel
theorem d32_6 : decode prog_10_method_4_code 6 = .ok (.getfield 7, 3) := by decide +kernel
theorem d32_9 : decode prog_10_method_4_code 9 = .ok (.astore_n 1, 1) := by decide +kernel
theorem d32_10 : decode prog_10_method_4_code 10 = .ok (.aload_n 1, 1) := by decide +kernel
theorem d32_11 : decode prog_10_method_4_code 11 = .ok (.ifnull 7, 3) := by decide +kernel
theorem d32_14 : decode prog_10_method_4_code 14 = .ok (.aload_n 1, 1) := by decide +kernel
theorem d32_15 : decode prog_10_method_4_code 15 = .ok (.invokestatic 24, 3) := by decide +kernel
theorem d32_18 : decode prog_10_method_4_code 18 = .ok (.return_, 1) := by decide +kernel
theorem ef_rmClose (m : MethodId) (a1 : Addr) : entryFrame m #[(.ref a1)] 2 = mkF m 0 #[.val (.ref a1), .unset] [] := by first | (simp [entryFrame, mkF, argsToLocals, Value.category]; done) | rfl
def Q_rmClose (Z : State) (a1 : Addr) (cl : Int32) (h0 : Heap) (n0 : Nat) (v : Option Value) (h : Heap) (L : List Loc) : Prop := v = none ∧ Fr n0 L ∧ Keep h0 h [a1] ∧ Fld Z h a1 "com/example/linkstride/linkstride/lookup/HttpRequests$Exchange" "current" "Ljava/net/Socket;" .null ∧ Fld Z h a1 "com/example/linkstride/linkstride/lookup/HttpRequests$Exchange" "closed" "Z" (.int (1 : Int32))
set_option maxRecDepth 65536 in
set_option maxHeartbeats 40000000 in
theorem rmClose (l : Launch) (Z : State) (a0 : Array Value) (hw : ∀ d ∈ tables_1, d.before a0 Z = true) (ws : List Jvm.Cond) (a1 : Addr) (cl : Int32) (h0 : Heap) (n0 : Nat) (Z0 : n0 ≤ h0.size) (E_a1 : Exa Z h0 a1 "com/example/linkstride/linkstride/lookup/HttpRequests$Exchange") (F_a1_current : Fld Z h0 a1 "com/example/linkstride/linkstride/lookup/HttpRequests$Exchange" "current" "Ljava/net/Socket;" .null) (F_a1_closed : Fld Z h0 a1 "com/example/linkstride/linkstride/lookup/HttpRequests$Exchange" "closed" "Z" (.int cl)) (g_a1 : n0 ≤ a1) :
    MetFree l (⟨"com/example/linkstride/linkstride/lookup/HttpRequests$Exchange", "close", "()V"⟩ : MethodName) (head1 (Jvm.Cond.code (⟨"com/example/linkstride/linkstride/lookup/HttpRequests$Exchange", "close", "()V"⟩ : MethodName) prog_10_method_4_code 2 none :: ws) ({ frames := 0, cells := 0, slots := 0, locals := 0 } : Room)) (fun a U => a = #[(.ref a1)] ∧ Z.Warmed39 U.vm ∧ U.heap = h0) (fun _ _ _ _ _ => True) (fun _ U o U' => ∃ v L, o = .returned v ∧ Q_rmClose Z a1 cl h0 n0 v U'.heap L ∧ FrameEnd U o U' L ({ frames := 0, cells := 0, slots := 0, locals := 0 } : Room).cells ({ frames := 0, cells := 0, slots := 0, locals := 0 } : Room).slots) := by
  refine MetFree.of_bodySF (plainFor_of_name pn_com_example_linkstride_linkstride_lookup_HttpRequests_Exchange) hisR ?_
  intro p e s m args below meth c s₁ Bd hml0 hP hK
  obtain ⟨rfl, hZ, hh⟩ := hP
  have hx := Bd.exec
  have hby := Bd.bytes
  have hml : c.maxLocals = 2 := hml0
  have hown : s.vm.findClass "com/example/linkstride/linkstride/lookup/HttpRequests$Exchange" = some m.cls := findClass_of_methodNamed Bd.named
  have hnm := (name_of_methodNamed Bd.named Bd.method).1
  have hret := Bd.returns
  have hlk : meth.locks = false := BodyLoose.notSynchronized Bd
  have X0 : Stand p l e ({ frames := 0, cells := 0, slots := 0, locals := 0 } : Room) s m #[(.ref a1)] below meth c s₁ [] 0 0 := Stand.of_body Bd
  have e0 : s₁.heap = h0 := by rw [← hh, Bd.state]; rfl
  have N0 := Fr.nil n0
  have K0 := Keep.refl h0 [a1]
  refine Rch.body (Q := Q_rmClose Z a1 cl h0 n0) (U' := s₁.setTop (mkF m 0 #[.val (.ref a1), .unset] [])) (fun t k => castTop (ef_rmClose m a1) k) ?_
  refine Rch.go (U' := s₁.setTop (mkF m 1 #[.val (.ref a1), .unset] [(.ref a1)])) (fun _ k => XS.aloadN X0.here hx rfl (hb hby d32_0) rfl rfl k) ?_
  refine Rch.go (U' := s₁.setTop (mkF m 2 #[.val (.ref a1), .unset] [(.int (1 : Int32)), (.ref a1)])) (fun _ k => XS.iconst X0.here hx rfl (hb hby d32_1) k) ?_
  obtain ⟨T16, h16, X16, e16, W16, st16⟩ := putFN X0 hx hZ hown (wi hw 21 rfl) Via.refl e0 F_a1_closed E_a1 (Or.inl (wi hw 22 rfl)) (wi hw 1 rfl) (ty := .boolean) (v' := (.int (1 : Int32))) (by decide) rfl rfl (g := (mkF m 2 #[.val (.ref a1), .unset] [(.int (1 : Int32)), (.ref a1)])) rfl rfl (hb hby d32_2)
  have F16 := F_a1_closed.same W16
  have f17 := E_a1.wr W16
  have f18 := F_a1_current.other W16 (Or.inr (slot_ne (Or.inl (wi hw 20 rfl)) (Or.inl (wi hw 22 rfl)) (by decide) (t := (.object "java/net/Socket")) (t' := .boolean) (by decide) (by decide)))
  have N16 := Fr.snoc X16 N0 g_a1
  have z19 := Nat.le_trans Z0 (Keep.of_wr W16).1
  have K20 := K0.wr W16 (Or.inl (List.mem_of_getElem? (i := 0) rfl))
  refine Rch.go (U' := T16.setTop (mkF m 5 #[.val (.ref a1), .unset] [])) st16 ?_
  refine Rch.go (U' := T16.setTop (mkF m 6 #[.val (.ref a1), .unset] [(.ref a1)])) (fun _ k => XS.aloadN X16.here hx rfl (hb hby d32_5) rfl rfl k) ?_
  obtain ⟨T21, X21, e21, st21⟩ := getF X16 hx hZ hown (host := "") (Or.inl (wi hw 19 rfl)) Via.refl e16 f18 (g := (mkF m 6 #[.val (.ref a1), .unset] [(.ref a1)])) rfl rfl (hb hby d32_6)
  refine Rch.go (U' := T21.setTop (mkF m 9 #[.val (.ref a1), .unset] [.null])) st21 ?_
  refine Rch.go (U' := T21.setTop (mkF m 10 #[.val (.ref a1), .val .null] [])) (fun _ k => XS.astoreN X21.here hx rfl (hb hby d32_9) rfl rfl (l' := #[.val (.ref a1), .val .null]) rfl k) ?_
  refine Rch.go (U' := T21.setTop (mkF m 11 #[.val (.ref a1), .val .null] [.null])) (fun _ k => XS.aloadN X21.here hx rfl (hb hby d32_10) rfl rfl k) ?_
  refine Rch.go (U' := T21.setTop (mkF m 18 #[.val (.ref a1), .val .null] [])) (fun _ k => XS.ifnullYes X21.here hx rfl (pc0 := 11) (pc' := 18) rfl (hb hby d32_11) rfl (by decide) (by decide) k) ?_
  refine Rch.fin X21 hlk (v := none) (fun _ => rfl) e21 (by decide) (by decide) (fun fs hr => X21.returnOut hx hret (hb hby d32_18) hr) ?_
  exact ⟨rfl, N16, K20, (by first | exact f18 | (simp only [nar_1, nar_0, ↓reduceIte]; exact f18) | (simp [nar_1, nar_0, ↓reduceIte]; exact f18)), (by first | exact F16 | (simp only [nar_1, nar_0, ↓reduceIte]; exact F16) | (simp [nar_1, nar_0, ↓reduceIte]; exact F16))⟩
theorem d13_0 : decode method_2_code 0 = .ok (.iload_n 1, 1) := by decide +kernel
theorem d13_1 : decode method_2_code 1 = .ok (.ifCond .ne 17, 3) := by decide +kernel
theorem d13_4 : decode method_2_code 4 = .ok (.aload_n 2, 1) := by decide +kernel
theorem d13_5 : decode method_2_code 5 = .ok (.iconst 0, 1) := by decide +kernel
theorem d13_6 : decode method_2_code 6 = .ok (.baload, 1) := by decide +kernel
theorem d13_7 : decode method_2_code 7 = .ok (.ifCond .ne 51, 3) := by decide +kernel
theorem d13_10 : decode method_2_code 10 = .ok (.aload_n 0, 1) := by decide +kernel
theorem d13_11 : decode method_2_code 11 = .ok (.aconst_null, 1) := by decide +kernel
theorem d13_12 : decode method_2_code 12 = .ok (.invokevirtual 7, 3) := by decide +kernel
theorem d13_15 : decode method_2_code 15 = .ok (.goto 43, 3) := by decide +kernel
theorem d13_18 : decode method_2_code 18 = .ok (.iload_n 1, 1) := by decide +kernel
theorem d13_19 : decode method_2_code 19 = .ok (.iconst 1, 1) := by decide +kernel
theorem d13_20 : decode method_2_code 20 = .ok (.if_icmp .ne 14, 3) := by decide +kernel
theorem d13_23 : decode method_2_code 23 = .ok (.aload_n 0, 1) := by decide +kernel
theorem d13_24 : decode method_2_code 24 = .ok (.invokevirtual 13, 3) := by decide +kernel
theorem d13_27 : decode method_2_code 27 = .ok (.aload_n 2, 1) := by decide +kernel
theorem d13_28 : decode method_2_code 28 = .ok (.iconst 0, 1) := by decide +kernel
theorem d13_29 : decode method_2_code 29 = .ok (.iconst 1, 1) := by decide +kernel
theorem d13_30 : decode method_2_code 30 = .ok (.bastore, 1) := by decide +kernel
theorem d13_31 : decode method_2_code 31 = .ok (.goto 27, 3) := by decide +kernel
theorem d13_34 : decode method_2_code 34 = .ok (.aload_n 0, 1) := by decide +kernel
theorem d13_35 : decode method_2_code 35 = .ok (.invokevirtual 16, 3) := by decide +kernel
theorem d13_38 : decode method_2_code 38 = .ok (.istore_n 3, 1) := by decide +kernel
theorem d13_39 : decode method_2_code 39 = .ok (.iload_n 3, 1) := by decide +kernel
theorem d13_40 : decode method_2_code 40 = .ok (.aload_n 2, 1) := by decide +kernel
theorem d13_41 : decode method_2_code 41 = .ok (.iconst 0, 1) := by decide +kernel
theorem d13_42 : decode method_2_code 42 = .ok (.baload, 1) := by decide +kernel
theorem d13_43 : decode method_2_code 43 = .ok (.ifCond .ne 7, 3) := by decide +kernel
theorem d13_46 : decode method_2_code 46 = .ok (.iconst 1, 1) := by decide +kernel
theorem d13_47 : decode method_2_code 47 = .ok (.goto 4, 3) := by decide +kernel
theorem d13_50 : decode method_2_code 50 = .ok (.iconst 0, 1) := by decide +kernel
theorem d13_51 : decode method_2_code 51 = .ok (.if_icmp .eq 7, 3) := by decide +kernel
theorem d13_54 : decode method_2_code 54 = .ok (.aload_n 2, 1) := by decide +kernel
theorem d13_55 : decode method_2_code 55 = .ok (.iconst 1, 1) := by decide +kernel
theorem d13_56 : decode method_2_code 56 = .ok (.iconst 0, 1) := by decide +kernel
theorem d13_57 : decode method_2_code 57 = .ok (.bastore, 1) := by decide +kernel
theorem d13_58 : decode method_2_code 58 = .ok (.return_, 1) := by decide +kernel
theorem pd_6 : parseMethodDescriptor "(Ljava/net/Socket;)V" = some ⟨[(.object "java/net/Socket")], none⟩ := by decide +kernel
theorem pd_7 : parseMethodDescriptor "()Z" = some ⟨[], some .boolean⟩ := by decide +kernel
theorem pn_com_example_linkstride_linkstride_lookup_ExchangeReleasePinLaw : plainName "com/example/linkstride/linkstride/lookup/ExchangeReleasePinLaw" = true := by first | (simp [plainName, overriddenIn]; done) | decide +kernel
theorem ef_rmStep (m : MethodId) (a1 : Addr) (p2 : Int32) (a2 : Addr) : entryFrame m #[(.ref a1), (.int p2), (.ref a2)] 4 = mkF m 0 #[.val (.ref a1), .val (.int p2), .val (.ref a2), .unset] [] := by first | (simp [entryFrame, mkF, argsToLocals, Value.category]; done) | rfl
def Q_rmStep (Z : State) (a1 : Addr) (p2 : Int32) (a2 : Addr) (k : ClassId) (cl : Int32) (h0 : Heap) (n0 : Nat) (v : Option Value) (h : Heap) (L : List Loc) : Prop := ∃ cl' : Int32, v = none ∧ Fr n0 L ∧ Keep h0 h [a1, a2] ∧ Fld Z h a1 "com/example/linkstride/linkstride/lookup/HttpRequests$Exchange" "current" "Ljava/net/Socket;" .null ∧ Fld Z h a1 "com/example/linkstride/linkstride/lookup/HttpRequests$Exchange" "closed" "Z" (.int cl') ∧ Arv Z h a2 k .boolean (2 : Int32) [(.int cl'), (.int (1 : Int32))] (.int (0 : Int32)) ∧ (cl' = 0 ∨ cl' = 1)
set_option maxRecDepth 65536 in
set_option maxHeartbeats 40000000 in
theorem rmStep (l : Launch) (Z : State) (a0 : Array Value) (hw : ∀ d ∈ tables_1, d.before a0 Z = true) (ws : List Jvm.Cond) (a1 : Addr) (p2 : Int32) (a2 : Addr) (k : ClassId) (cl : Int32) (h0 : Heap) (n0 : Nat) (Z0 : n0 ≤ h0.size) (E_a1 : Exa Z h0 a1 "com/example/linkstride/linkstride/lookup/HttpRequests$Exchange") (F_a1_current : Fld Z h0 a1 "com/example/linkstride/linkstride/lookup/HttpRequests$Exchange" "current" "Ljava/net/Socket;" .null) (F_a1_closed : Fld Z h0 a1 "com/example/linkstride/linkstride/lookup/HttpRequests$Exchange" "closed" "Z" (.int cl)) (V_a2 : Arv Z h0 a2 k .boolean (2 : Int32) [(.int cl), (.int (1 : Int32))] (.int (0 : Int32))) (g_a1 : n0 ≤ a1) (g_a2 : n0 ≤ a2) (hne : a1 ≠ a2) (hcl : cl = 0 ∨ cl = 1) :
    MetFree l (⟨"com/example/linkstride/linkstride/lookup/ExchangeReleasePinLaw", "step", "(Lcom/example/linkstride/linkstride/lookup/HttpRequests$Exchange;I[Z)V"⟩ : MethodName) (head1 (Jvm.Cond.code (⟨"com/example/linkstride/linkstride/lookup/ExchangeReleasePinLaw", "step", "(Lcom/example/linkstride/linkstride/lookup/HttpRequests$Exchange;I[Z)V"⟩ : MethodName) method_2_code 4 none :: ws) ({ frames := 1, cells := 0, slots := 0, locals := 13 } : Room)) (fun a U => a = #[(.ref a1), (.int p2), (.ref a2)] ∧ Z.Warmed39 U.vm ∧ U.heap = h0) (fun _ _ _ _ _ => True) (fun _ U o U' => ∃ v L, o = .returned v ∧ Q_rmStep Z a1 p2 a2 k cl h0 n0 v U'.heap L ∧ FrameEnd U o U' L ({ frames := 1, cells := 0, slots := 0, locals := 13 } : Room).cells ({ frames := 1, cells := 0, slots := 0, locals := 13 } : Room).slots) := by
  refine MetFree.of_bodySF (plainFor_of_name pn_com_example_linkstride_linkstride_lookup_ExchangeReleasePinLaw) hisR ?_
  intro p e s m args below meth c s₁ Bd hml0 hP hK
  obtain ⟨rfl, hZ, hh⟩ := hP
  have hx := Bd.exec
  have hby := Bd.bytes
  have hml : c.maxLocals = 4 := hml0
  have hown : s.vm.findClass "com/example/linkstride/linkstride/lookup/ExchangeReleasePinLaw" = some m.cls := findClass_of_methodNamed Bd.named
  have hnm := (name_of_methodNamed Bd.named Bd.method).1
  have hret := Bd.returns
  have hlk : meth.locks = false := BodyLoose.notSynchronized Bd
  have X0 : Stand p l e ({ frames := 1, cells := 0, slots := 0, locals := 13 } : Room) s m #[(.ref a1), (.int p2), (.ref a2)] below meth c s₁ [] 0 0 := Stand.of_body Bd
  have e0 : s₁.heap = h0 := by rw [← hh, Bd.state]; rfl
  have N0 := Fr.nil n0
  have K0 := Keep.refl h0 [a1, a2]
  refine Rch.body (Q := Q_rmStep Z a1 p2 a2 k cl h0 n0) (U' := s₁.setTop (mkF m 0 #[.val (.ref a1), .val (.int p2), .val (.ref a2), .unset] [])) (fun t k => castTop (ef_rmStep m a1 p2 a2) k) ?_
  refine Rch.go (U' := s₁.setTop (mkF m 1 #[.val (.ref a1), .val (.int p2), .val (.ref a2), .unset] [(.int p2)])) (fun _ k => XS.iloadN X0.here hx rfl (hb hby d13_0) rfl  k) ?_
  by_cases br22 : p2 = (0 : Int32)
  ·
    refine Rch.go (U' := s₁.setTop (mkF m 4 #[.val (.ref a1), .val (.int p2), .val (.ref a2), .unset] [])) (fun _ k => XS.ifNo X0.here hx rfl (hb hby d13_1) rfl (XT.i0_ne_f br22) k) ?_
    refine Rch.go (U' := s₁.setTop (mkF m 5 #[.val (.ref a1), .val (.int p2), .val (.ref a2), .unset] [(.ref a2)])) (fun _ k => XS.aloadN X0.here hx rfl (hb hby d13_4) rfl rfl k) ?_
    refine Rch.go (U' := s₁.setTop (mkF m 6 #[.val (.ref a1), .val (.int p2), .val (.ref a2), .unset] [(.int (0 : Int32)), (.ref a2)])) (fun _ k => XS.iconst X0.here hx rfl (hb hby d13_5) k) ?_
    obtain ⟨c23, Ar23, q23, S23, M23, Hs23, G23⟩ := id V_a2
    have i23 : ¬ ((0 : Int32) < 0 ∨ c23.slots.size ≤ ((0 : Int32)).toNatClampNeg) := inb_of S23 ⟨by decide, by decide⟩
    have a23 : c23.slots[((0 : Int32)).toNatClampNeg]? = some (.int cl) := Has.at Hs23 i23 rfl
    refine Rch.go (U' := s₁.setTop (mkF m 7 #[.val (.ref a1), .val (.int p2), .val (.ref a2), .unset] [(.int cl)])) (fun _ k => X0.baloadBooleans hx (j := (0 : Int32)) (v := (.int cl)) (by rw [e0]; exact Ar23.1) (State.isArrayOf_alike hZ.alike Ar23.2.1) Ar23.2.2 i23 a23 (g := (mkF m 6 #[.val (.ref a1), .val (.int p2), .val (.ref a2), .unset] [(.int (0 : Int32)), (.ref a2)])) rfl rfl (hb hby d13_6) _ k) ?_
    by_cases br24 : cl = (0 : Int32)
    ·
      refine Rch.go (U' := s₁.setTop (mkF m 10 #[.val (.ref a1), .val (.int p2), .val (.ref a2), .unset] [])) (fun _ k => XS.ifNo X0.here hx rfl (hb hby d13_7) rfl (XT.i0_ne_f br24) k) ?_
      refine Rch.go (U' := s₁.setTop (mkF m 11 #[.val (.ref a1), .val (.int p2), .val (.ref a2), .unset] [(.ref a1)])) (fun _ k => XS.aloadN X0.here hx rfl (hb hby d13_10) rfl rfl k) ?_
      refine Rch.go (U' := s₁.setTop (mkF m 12 #[.val (.ref a1), .val (.int p2), .val (.ref a2), .unset] [.null, (.ref a1)])) (fun _ k => XS.aconstNull X0.here hx rfl (hb hby d13_11) k) ?_
      obtain ⟨cq25, kq25, q25a, q25b, q25c⟩ := isOf hZ e0 E_a1
      obtain ⟨_, _, ⟨T25, L25, k25, n25⟩, -, X25, ⟨Lc25, hQ25, l25, y25, z25⟩, st25⟩ := X0.virtualBack hx (y := (⟨"com/example/linkstride/linkstride/lookup/HttpRequests$Exchange", "open", "(Ljava/net/Socket;)V"⟩ : MethodName)) (z := (⟨"com/example/linkstride/linkstride/lookup/HttpRequests$Exchange", "open", "(Ljava/net/Socket;)V"⟩ : MethodName)) hown (mvT hZ (wi hw 14 rfl)) (mvT hZ (wi hw 15 rfl)) (notFace_of_selects (args := #[]) (mvT hZ (wi hw 17 rfl))) (mvT hZ (wi hw 17 rfl)) (mvT hZ (wi hw 16 rfl)) (by decide) (backOf (W := 0) (rmOpen l Z a0 hw [] a1 cl h0 n0 Z0 E_a1 F_a1_current F_a1_closed g_a1 br24) hZ (wi hw 18 rfl) (wi hw 2 rfl) (by decide) (by decide)) q25a q25c (g := (mkF m 12 #[.val (.ref a1), .val (.int p2), .val (.ref a2), .unset] [.null, (.ref a1)])) rfl (by rw [hml]; rfl) (Steps.refl _) (argsL := [.null]) (rest := []) (lenOf pd_6 rfl) rfl (by show 2 * 0 + _ ≤ _; exact Nat.le_of_eq rfl) (hb hby d13_12) (fun _ _ => ⟨rfl, e0, (by decide : 0 + 0 ≤ _), (by decide : 0 + 0 ≤ _)⟩)
      dsimp only [Pt.U, Pt.locs, Pt.cells, Pt.slots] at X25 l25 y25 z25 st25 hQ25
      subst l25 y25 z25
      obtain ⟨rfl, N25q, K25q, F25_current, F25_closed⟩ := hQ25
      have N25 := Fr.app N0 N25q
      have z26 := Nat.le_trans Z0 K25q.1
      have f27 := E_a1.keep K25q
      have f28 := V_a2.keep K25q (ninS (Ne.symm hne) nin0)
      have K29 := K0.trans K25q (allS (Or.inl (List.mem_of_getElem? (i := 0) rfl)) all0)
      refine Rch.to (U' := T25.setTop (mkF m 15 #[.val (.ref a1), .val (.int p2), .val (.ref a2), .unset] [])) st25 ?_
      refine Rch.go (U' := T25.setTop (mkF m 58 #[.val (.ref a1), .val (.int p2), .val (.ref a2), .unset] [])) (fun _ k => XS.goto X25.here hx rfl (pc0 := 15) (pc' := 58) rfl (hb hby d13_15) (by decide) (by decide) k) ?_
      refine Rch.fin X25 hlk (v := none) (fun _ => rfl) rfl (by decide) (by decide) (fun fs hr => X25.returnOut hx hret (hb hby d13_58) hr) ?_
      exact ⟨cl, rfl, N25, K29, F25_current, F25_closed, f28, hcl⟩
    ·
      refine Rch.go (U' := s₁.setTop (mkF m 58 #[.val (.ref a1), .val (.int p2), .val (.ref a2), .unset] [])) (fun _ k => XS.ifYes X0.here hx rfl (pc0 := 7) (pc' := 58) rfl (hb hby d13_7) rfl (XT.i0_ne_t br24) (by decide) (by decide) k) ?_
      refine Rch.fin X0 hlk (v := none) (fun _ => rfl) e0 (by decide) (by decide) (fun fs hr => X0.returnOut hx hret (hb hby d13_58) hr) ?_
      exact ⟨cl, rfl, N0, K0, F_a1_current, F_a1_closed, V_a2, hcl⟩
  ·
    refine Rch.go (U' := s₁.setTop (mkF m 18 #[.val (.ref a1), .val (.int p2), .val (.ref a2), .unset] [])) (fun _ k => XS.ifYes X0.here hx rfl (pc0 := 1) (pc' := 18) rfl (hb hby d13_1) rfl (XT.i0_ne_t br22) (by decide) (by decide) k) ?_
    refine Rch.go (U' := s₁.setTop (mkF m 19 #[.val (.ref a1), .val (.int p2), .val (.ref a2), .unset] [(.int p2)])) (fun _ k => XS.iloadN X0.here hx rfl (hb hby d13_18) rfl  k) ?_
    refine Rch.go (U' := s₁.setTop (mkF m 20 #[.val (.ref a1), .val (.int p2), .val (.ref a2), .unset] [(.int (1 : Int32)), (.int p2)])) (fun _ k => XS.iconst X0.here hx rfl (hb hby d13_19) k) ?_
    by_cases br30 : p2 = (1 : Int32)
    ·
      refine Rch.go (U' := s₁.setTop (mkF m 23 #[.val (.ref a1), .val (.int p2), .val (.ref a2), .unset] [])) (fun _ k => XS.icmpNo X0.here hx rfl (hb hby d13_20) rfl (XT.ii_ne_f br30) k) ?_
      refine Rch.go (U' := s₁.setTop (mkF m 24 #[.val (.ref a1), .val (.int p2), .val (.ref a2), .unset] [(.ref a1)])) (fun _ k => XS.aloadN X0.here hx rfl (hb hby d13_23) rfl rfl k) ?_
      obtain ⟨cq31, kq31, q31a, q31b, q31c⟩ := isOf hZ e0 E_a1
      obtain ⟨_, _, ⟨T31, L31, k31, n31⟩, -, X31, ⟨Lc31, hQ31, l31, y31, z31⟩, st31⟩ := X0.virtualBack hx (y := (⟨"com/example/linkstride/linkstride/lookup/HttpRequests$Exchange", "close", "()V"⟩ : MethodName)) (z := (⟨"com/example/linkstride/linkstride/lookup/HttpRequests$Exchange", "close", "()V"⟩ : MethodName)) hown (mvT hZ (wi hw 28 rfl)) (mvT hZ (wi hw 29 rfl)) (notFace_of_selects (args := #[]) (mvT hZ (wi hw 31 rfl))) (mvT hZ (wi hw 31 rfl)) (mvT hZ (wi hw 30 rfl)) (by decide) (backOf (W := 0) (rmClose l Z a0 hw [] a1 cl h0 n0 Z0 E_a1 F_a1_current F_a1_closed g_a1) hZ (wi hw 32 rfl) (wi hw 2 rfl) (by decide) (by decide)) q31a q31c (g := (mkF m 24 #[.val (.ref a1), .val (.int p2), .val (.ref a2), .unset] [(.ref a1)])) rfl (by rw [hml]; rfl) (Steps.refl _) (argsL := []) (rest := []) (lenOf pd_1 rfl) rfl (by show 2 * 0 + _ ≤ _; exact Nat.le_of_eq rfl) (hb hby d13_24) (fun _ _ => ⟨rfl, e0, (by decide : 0 + 0 ≤ _), (by decide : 0 + 0 ≤ _)⟩)
      dsimp only [Pt.U, Pt.locs, Pt.cells, Pt.slots] at X31 l31 y31 z31 st31 hQ31
      subst l31 y31 z31
      obtain ⟨rfl, N31q, K31q, F31_current, F31_closed⟩ := hQ31
      have N31 := Fr.app N0 N31q
      have z32 := Nat.le_trans Z0 K31q.1
      have f33 := E_a1.keep K31q
      have f34 := V_a2.keep K31q (ninS (Ne.symm hne) nin0)
      have K35 := K0.trans K31q (allS (Or.inl (List.mem_of_getElem? (i := 0) rfl)) all0)
      refine Rch.to (U' := T31.setTop (mkF m 27 #[.val (.ref a1), .val (.int p2), .val (.ref a2), .unset] [])) st31 ?_
      refine Rch.go (U' := T31.setTop (mkF m 28 #[.val (.ref a1), .val (.int p2), .val (.ref a2), .unset] [(.ref a2)])) (fun _ k => XS.aloadN X31.here hx rfl (hb hby d13_27) rfl rfl k) ?_
      refine Rch.go (U' := T31.setTop (mkF m 29 #[.val (.ref a1), .val (.int p2), .val (.ref a2), .unset] [(.int (0 : Int32)), (.ref a2)])) (fun _ k => XS.iconst X31.here hx rfl (hb hby d13_28) k) ?_
      refine Rch.go (U' := T31.setTop (mkF m 30 #[.val (.ref a1), .val (.int p2), .val (.ref a2), .unset] [(.int (1 : Int32)), (.int (0 : Int32)), (.ref a2)])) (fun _ k => XS.iconst X31.here hx rfl (hb hby d13_29) k) ?_
      obtain ⟨c36, Ar36, q36, S36, M36, Hs36, G36⟩ := id f34
      have i36 : ¬ ((0 : Int32) < 0 ∨ c36.slots.size ≤ ((0 : Int32)).toNatClampNeg) := inb_of S36 ⟨by decide, by decide⟩
      obtain ⟨T36, h36, X36, e36, W36, st36⟩ := stZ X31 hx hZ rfl Ar36 (j := (0 : Int32)) i36 (g := (mkF m 30 #[.val (.ref a1), .val (.int p2), .val (.ref a2), .unset] [(.int (1 : Int32)), (.int (0 : Int32)), (.ref a2)])) rfl rfl (hb hby d13_30)
      have V36 : Arv Z h36 a2 k .boolean (2 : Int32) [(.int (1 : Int32)), (.int (1 : Int32))] (.int (0 : Int32)) := Arv.set Ar36 q36 S36 M36 Hs36 G36 (fits_nar_bool _) W36 0 rfl (Nat.le_of_ble_eq_true rfl)
      have f37 := f33.wr W36
      have f38 := F31_current.other W36 (Or.inl hne)
      have f39 := F31_closed.other W36 (Or.inl hne)
      have N36 := Fr.snoc X36 N31 g_a2
      have z40 := Nat.le_trans z32 (Keep.of_wr W36).1
      have K41 := K35.wr W36 (Or.inl (List.mem_of_getElem? (i := 1) rfl))
      refine Rch.go (U' := T36.setTop (mkF m 31 #[.val (.ref a1), .val (.int p2), .val (.ref a2), .unset] [])) st36 ?_
      refine Rch.go (U' := T36.setTop (mkF m 58 #[.val (.ref a1), .val (.int p2), .val (.ref a2), .unset] [])) (fun _ k => XS.goto X36.here hx rfl (pc0 := 31) (pc' := 58) rfl (hb hby d13_31) (by decide) (by decide) k) ?_
      refine Rch.fin X36 hlk (v := none) (fun _ => rfl) e36 (by decide) (by decide) (fun fs hr => X36.returnOut hx hret (hb hby d13_58) hr) ?_
      exact ⟨(1 : Int32), rfl, N36, K41, f38, f39, V36, Or.inr rfl⟩
    ·
      refine Rch.go (U' := s₁.setTop (mkF m 34 #[.val (.ref a1), .val (.int p2), .val (.ref a2), .unset] [])) (fun _ k => XS.icmpYes X0.here hx rfl (pc0 := 20) (pc' := 34) rfl (hb hby d13_20) rfl (XT.ii_ne_t br30) (by decide) (by decide) k) ?_
      refine Rch.go (U' := s₁.setTop (mkF m 35 #[.val (.ref a1), .val (.int p2), .val (.ref a2), .unset] [(.ref a1)])) (fun _ k => XS.aloadN X0.here hx rfl (hb hby d13_34) rfl rfl k) ?_
      obtain ⟨cq42, kq42, q42a, q42b, q42c⟩ := isOf hZ e0 E_a1
      obtain ⟨_, _, ⟨T42, L42, k42, n42⟩, -, X42, ⟨Lc42, hQ42, l42, y42, z42⟩, st42⟩ := X0.virtualBack hx (y := (⟨"com/example/linkstride/linkstride/lookup/HttpRequests$Exchange", "release", "()Z"⟩ : MethodName)) (z := (⟨"com/example/linkstride/linkstride/lookup/HttpRequests$Exchange", "release", "()Z"⟩ : MethodName)) hown (mvT hZ (wi hw 23 rfl)) (mvT hZ (wi hw 24 rfl)) (notFace_of_selects (args := #[]) (mvT hZ (wi hw 26 rfl))) (mvT hZ (wi hw 26 rfl)) (mvT hZ (wi hw 25 rfl)) (by decide) (backOf (W := 0) (rmRel l Z a0 hw [] a1 cl h0 n0 Z0 E_a1 F_a1_current F_a1_closed g_a1) hZ (wi hw 27 rfl) (wi hw 2 rfl) (by decide) (by decide)) q42a q42c (g := (mkF m 35 #[.val (.ref a1), .val (.int p2), .val (.ref a2), .unset] [(.ref a1)])) rfl (by rw [hml]; rfl) (Steps.refl _) (argsL := []) (rest := []) (lenOf pd_7 rfl) rfl (by show 2 * 0 + _ ≤ _; exact Nat.le_of_eq rfl) (hb hby d13_35) (fun _ _ => ⟨rfl, e0, (by decide : 0 + 0 ≤ _), (by decide : 0 + 0 ≤ _)⟩)
      dsimp only [Pt.U, Pt.locs, Pt.cells, Pt.slots] at X42 l42 y42 z42 st42 hQ42
      subst l42 y42 z42
      obtain ⟨rfl, N42q, K42q, F42_current, F42_closed⟩ := hQ42
      have N42 := Fr.app N0 N42q
      have z43 := Nat.le_trans Z0 K42q.1
      have f44 := E_a1.keep K42q
      have f45 := V_a2.keep K42q (ninS (Ne.symm hne) nin0)
      have K46 := K0.trans K42q (allS (Or.inl (List.mem_of_getElem? (i := 0) rfl)) all0)
      refine Rch.to (U' := T42.setTop (mkF m 38 #[.val (.ref a1), .val (.int p2), .val (.ref a2), .unset] [(.int (own_not cl))])) st42 ?_
      refine Rch.go (U' := T42.setTop (mkF m 39 #[.val (.ref a1), .val (.int p2), .val (.ref a2), .val (.int (own_not cl))] [])) (fun _ k => XS.istoreN X42.here hx rfl (hb hby d13_38) rfl (l' := #[.val (.ref a1), .val (.int p2), .val (.ref a2), .val (.int (own_not cl))]) rfl k) ?_
      refine Rch.go (U' := T42.setTop (mkF m 40 #[.val (.ref a1), .val (.int p2), .val (.ref a2), .val (.int (own_not cl))] [(.int (own_not cl))])) (fun _ k => XS.iloadN X42.here hx rfl (hb hby d13_39) rfl  k) ?_
      refine Rch.go (U' := T42.setTop (mkF m 41 #[.val (.ref a1), .val (.int p2), .val (.ref a2), .val (.int (own_not cl))] [(.ref a2), (.int (own_not cl))])) (fun _ k => XS.aloadN X42.here hx rfl (hb hby d13_40) rfl rfl k) ?_
      refine Rch.go (U' := T42.setTop (mkF m 42 #[.val (.ref a1), .val (.int p2), .val (.ref a2), .val (.int (own_not cl))] [(.int (0 : Int32)), (.ref a2), (.int (own_not cl))])) (fun _ k => XS.iconst X42.here hx rfl (hb hby d13_41) k) ?_
      obtain ⟨c47, Ar47, q47, S47, M47, Hs47, G47⟩ := id f45
      have i47 : ¬ ((0 : Int32) < 0 ∨ c47.slots.size ≤ ((0 : Int32)).toNatClampNeg) := inb_of S47 ⟨by decide, by decide⟩
      have a47 : c47.slots[((0 : Int32)).toNatClampNeg]? = some (.int cl) := Has.at Hs47 i47 rfl
      refine Rch.go (U' := T42.setTop (mkF m 43 #[.val (.ref a1), .val (.int p2), .val (.ref a2), .val (.int (own_not cl))] [(.int cl), (.int (own_not cl))])) (fun _ k => X42.baloadBooleans hx (j := (0 : Int32)) (v := (.int cl)) Ar47.1 (State.isArrayOf_alike hZ.alike Ar47.2.1) Ar47.2.2 i47 a47 (g := (mkF m 42 #[.val (.ref a1), .val (.int p2), .val (.ref a2), .val (.int (own_not cl))] [(.int (0 : Int32)), (.ref a2), (.int (own_not cl))])) rfl rfl (hb hby d13_42) _ k) ?_
      by_cases br48 : cl = (0 : Int32)
      ·
        refine Rch.go (U' := T42.setTop (mkF m 46 #[.val (.ref a1), .val (.int p2), .val (.ref a2), .val (.int (own_not cl))] [(.int (own_not cl))])) (fun _ k => XS.ifNo X42.here hx rfl (hb hby d13_43) rfl (XT.i0_ne_f br48) k) ?_
        refine Rch.go (U' := T42.setTop (mkF m 47 #[.val (.ref a1), .val (.int p2), .val (.ref a2), .val (.int (own_not cl))] [(.int (1 : Int32)), (.int (own_not cl))])) (fun _ k => XS.iconst X42.here hx rfl (hb hby d13_46) k) ?_
        refine Rch.go (U' := T42.setTop (mkF m 51 #[.val (.ref a1), .val (.int p2), .val (.ref a2), .val (.int (own_not cl))] [(.int (1 : Int32)), (.int (own_not cl))])) (fun _ k => XS.goto X42.here hx rfl (pc0 := 47) (pc' := 51) rfl (hb hby d13_47) (by decide) (by decide) k) ?_
        have br49 : (own_not cl) = (1 : Int32) := by simp only [own_not, br48, ↓reduceIte]
        refine Rch.go (U' := T42.setTop (mkF m 58 #[.val (.ref a1), .val (.int p2), .val (.ref a2), .val (.int (own_not cl))] [])) (fun _ k => XS.icmpYes X42.here hx rfl (pc0 := 51) (pc' := 58) rfl (hb hby d13_51) rfl (XT.ii_eq_t br49) (by decide) (by decide) k) ?_
        refine Rch.fin X42 hlk (v := none) (fun _ => rfl) rfl (by decide) (by decide) (fun fs hr => X42.returnOut hx hret (hb hby d13_58) hr) ?_
        exact ⟨cl, rfl, N42, K46, F42_current, F42_closed, f45, hcl⟩
      ·
        refine Rch.go (U' := T42.setTop (mkF m 50 #[.val (.ref a1), .val (.int p2), .val (.ref a2), .val (.int (own_not cl))] [(.int (own_not cl))])) (fun _ k => XS.ifYes X42.here hx rfl (pc0 := 43) (pc' := 50) rfl (hb hby d13_43) rfl (XT.i0_ne_t br48) (by decide) (by decide) k) ?_
        refine Rch.go (U' := T42.setTop (mkF m 51 #[.val (.ref a1), .val (.int p2), .val (.ref a2), .val (.int (own_not cl))] [(.int (0 : Int32)), (.int (own_not cl))])) (fun _ k => XS.iconst X42.here hx rfl (hb hby d13_50) k) ?_
        have br50 : (own_not cl) = (0 : Int32) := by simp only [own_not, br48, ↓reduceIte]
        refine Rch.go (U' := T42.setTop (mkF m 58 #[.val (.ref a1), .val (.int p2), .val (.ref a2), .val (.int (own_not cl))] [])) (fun _ k => XS.icmpYes X42.here hx rfl (pc0 := 51) (pc' := 58) rfl (hb hby d13_51) rfl (XT.ii_eq_t br50) (by decide) (by decide) k) ?_
        refine Rch.fin X42 hlk (v := none) (fun _ => rfl) rfl (by decide) (by decide) (fun fs hr => X42.returnOut hx hret (hb hby d13_58) hr) ?_
        exact ⟨cl, rfl, N42, K46, F42_current, F42_closed, f45, hcl⟩
theorem pd_8 : parseMethodDescriptor "(Lcom/example/linkstride/linkstride/lookup/HttpRequests$Exchange;I[Z)V" = some ⟨[(.object "com/example/linkstride/linkstride/lookup/HttpRequests$Exchange"), .int, (.array .boolean)], none⟩ := by decide +kernel
theorem ef_rm0 (m : MethodId) (p1 : Int32) : entryFrame m #[(.int p1)] maxLocals = mkF m 0 #[.val (.int p1), .unset, .unset, .unset] [] := by first | (simp [entryFrame, mkF, argsToLocals, Value.category, maxLocals]; done) | rfl
def Q_rm0 (Z : State) (p1 : Int32) (h0 : Heap) (n0 : Nat) (v : Option Value) (h : Heap) (L : List Loc) : Prop := v = some (.int 1) ∧ Fr n0 L
set_option maxRecDepth 65536 in
set_option maxHeartbeats 40000000 in
theorem rm0 (l : Launch) (Z : State) (a0 : Array Value) (hw : ∀ d ∈ tables_1, d.before a0 Z = true) (ws : List Jvm.Cond) (p1 : Int32) (h0 : Heap) (n0 : Nat) (Z0 : n0 ≤ h0.size)  :
    MetFree l x (head1 (Jvm.Cond.code x code maxLocals ret :: ws) room_1) (fun a U => a = #[(.int p1)] ∧ Z.Warmed39 U.vm ∧ U.heap = h0) (fun _ _ _ _ _ => True) (fun _ U o U' => ∃ v L, o = .returned v ∧ Q_rm0 Z p1 h0 n0 v U'.heap L ∧ FrameEnd U o U' L 16 128) := by
  refine MetFree.of_bodySF (plainFor_of_name pn_com_example_linkstride_linkstride_lookup_ExchangeReleasePinLaw) hisR ?_
  intro p e s m args below meth c s₁ Bd hml0 hP hK
  obtain ⟨rfl, hZ, hh⟩ := hP
  have hx := Bd.exec
  have hby := Bd.bytes
  have hml : c.maxLocals = 4 := hml0
  have hown : s.vm.findClass "com/example/linkstride/linkstride/lookup/ExchangeReleasePinLaw" = some m.cls := findClass_of_methodNamed Bd.named
  have hnm := (name_of_methodNamed Bd.named Bd.method).1
  have hret := Bd.returns
  have hlk : meth.locks = false := BodyLoose.notSynchronized Bd
  have X0 : Stand p l e room_1 s m #[(.int p1)] below meth c s₁ [] 0 0 := Stand.of_body Bd
  have e0 : s₁.heap = h0 := by rw [← hh, Bd.state]; rfl
  have N0 := Fr.nil n0
  refine Rch.body (Q := Q_rm0 Z p1 h0 n0) (U' := s₁.setTop (mkF m 0 #[.val (.int p1), .unset, .unset, .unset] [])) (fun t k => castTop (ef_rm0 m p1) k) ?_
  obtain ⟨T51, h51, X51, e51, E51, A51, D51, -, st51⟩ := newO X0 hx hZ hown (wi hw 0 rfl) (wi hw 1 rfl) (wi hw 2 rfl) e0 (g := (mkF m 0 #[.val (.int p1), .unset, .unset, .unset] [])) rfl (hb hby at_0) (by decide) (by decide)
  obtain ⟨b51, g51⟩ : ∃ z, z = h0.size := ⟨_, rfl⟩
  rw [← g51] at A51 D51 st51
  have n0b51 : n0 ≤ b51 := Nat.le_trans Z0 (Nat.le_of_eq g51.symm)
  have z52 := Nat.le_trans Z0 E51.1
  have F51_current : Fld Z h51 b51 "com/example/linkstride/linkstride/lookup/HttpRequests$Exchange" "current" "Ljava/net/Socket;" .null := D51 (Or.inl (wi hw 20 rfl)) (ty := (.object "java/net/Socket")) (by decide)
  have F51_closed : Fld Z h51 b51 "com/example/linkstride/linkstride/lookup/HttpRequests$Exchange" "closed" "Z" (.int (0 : Int32)) := D51 (Or.inl (wi hw 22 rfl)) (ty := .boolean) (by decide)
  refine Rch.go (U' := T51.setTop (mkF m 3 #[.val (.int p1), .unset, .unset, .unset] [(.ref b51)])) st51 ?_
  refine Rch.go (U' := T51.setTop (mkF m 4 #[.val (.int p1), .unset, .unset, .unset] [(.ref b51), (.ref b51)])) (fun _ k => XS.dup X51.here hx rfl (hb hby at_3) rfl rfl k) ?_
  obtain ⟨_, _, ⟨T53, L53, k53, n53⟩, -, X53, ⟨Lc53, hQ53, l53, y53, z53⟩, st53⟩ := X51.specialBack hx (y := (⟨"com/example/linkstride/linkstride/lookup/HttpRequests$Exchange", "<init>", "()V"⟩ : MethodName)) rfl hown (mvT hZ (wi hw 3 rfl)) (mvT hZ (wi hw 4 rfl)) (mvT hZ (wi hw 5 rfl)) (by decide) (backOf (W := 1) (rmNew l Z a0 hw [] b51 (0 : Int32) h51 n0 z52 A51 F51_current F51_closed) hZ (wi hw 5 rfl) (wi hw 2 rfl) (by decide) (by decide)) (g := (mkF m 4 #[.val (.int p1), .unset, .unset, .unset] [(.ref b51), (.ref b51)])) rfl (by rw [hml]; rfl) (Steps.refl _) (a := b51) (argsL := []) (rest := [(.ref b51)]) (lenOf pd_1 rfl) rfl (by show 2 * 0 + _ ≤ _; exact Nat.le_of_eq rfl) (hb hby at_4) (fun _ _ => ⟨rfl, e51, (by decide : 1 + 0 ≤ _), (by decide : 2 + 0 ≤ _)⟩)
  dsimp only [Pt.U, Pt.locs, Pt.cells, Pt.slots] at X53 l53 y53 z53 st53 hQ53
  subst l53 y53 z53
  obtain ⟨rfl, N53q, e53⟩ := hQ53
  have N53 := Fr.app N0 N53q
  refine Rch.to (U' := T53.setTop (mkF m 7 #[.val (.int p1), .unset, .unset, .unset] [(.ref b51)])) st53 ?_
  refine Rch.go (U' := T53.setTop (mkF m 8 #[.val (.int p1), .val (.ref b51), .unset, .unset] [])) (fun _ k => XS.astoreN X53.here hx rfl (hb hby at_7) rfl rfl (l' := #[.val (.int p1), .val (.ref b51), .unset, .unset]) rfl k) ?_
  refine Rch.go (U' := T53.setTop (mkF m 9 #[.val (.int p1), .val (.ref b51), .unset, .unset] [(.int (2 : Int32))])) (fun _ k => XS.iconst X53.here hx rfl (hb hby at_8) k) ?_
  obtain ⟨T54, h54, k54, X54, e54, E54, A54, st54⟩ := newP X53 hx hZ (wi hw 9 rfl) e53 (g := (mkF m 9 #[.val (.int p1), .val (.ref b51), .unset, .unset] [(.int (2 : Int32))])) rfl (hb hby at_9) rfl (by decide) (cap := 2) (by decide) (by decide) (by decide) (by decide)
  obtain ⟨b54, g54⟩ : ∃ z, z = h51.size := ⟨_, rfl⟩
  rw [← g54] at A54 st54
  have ne55 : b51 ≠ b54 := Nat.ne_of_lt (Nat.lt_of_lt_of_le A51.lt (Nat.le_of_eq g54.symm))
  have n0b54 : n0 ≤ b54 := Nat.le_trans z52 (Nat.le_of_eq g54.symm)
  have f56 := A51.ext E54
  have f57 := F51_current.ext E54
  have f58 := F51_closed.ext E54
  have z59 := Nat.le_trans z52 E54.1
  have V54 : Arv Z h54 b54 k54 .boolean (2 : Int32) [(.int (0 : Int32)), (.int (0 : Int32))] (.int (0 : Int32)) := (Arv.new A54 (by decide)).pad (pad_rep [] (.int (0 : Int32)) 2)
  refine Rch.go (U' := T54.setTop (mkF m 11 #[.val (.int p1), .val (.ref b51), .unset, .unset] [(.ref b54)])) st54 ?_
  refine Rch.go (U' := T54.setTop (mkF m 12 #[.val (.int p1), .val (.ref b51), .unset, .unset] [(.ref b54), (.ref b54)])) (fun _ k => XS.dup X54.here hx rfl (hb hby at_11) rfl rfl k) ?_
  refine Rch.go (U' := T54.setTop (mkF m 13 #[.val (.int p1), .val (.ref b51), .unset, .unset] [(.int (0 : Int32)), (.ref b54), (.ref b54)])) (fun _ k => XS.iconst X54.here hx rfl (hb hby at_12) k) ?_
  refine Rch.go (U' := T54.setTop (mkF m 14 #[.val (.int p1), .val (.ref b51), .unset, .unset] [(.int (0 : Int32)), (.int (0 : Int32)), (.ref b54), (.ref b54)])) (fun _ k => XS.iconst X54.here hx rfl (hb hby at_13) k) ?_
  obtain ⟨c60, Ar60, q60, S60, M60, Hs60, G60⟩ := id V54
  have i60 : ¬ ((0 : Int32) < 0 ∨ c60.slots.size ≤ ((0 : Int32)).toNatClampNeg) := inb_of S60 ⟨by decide, by decide⟩
  obtain ⟨T60, h60, X60, e60, W60, st60⟩ := stZ X54 hx hZ e54 Ar60 (j := (0 : Int32)) i60 (g := (mkF m 14 #[.val (.int p1), .val (.ref b51), .unset, .unset] [(.int (0 : Int32)), (.int (0 : Int32)), (.ref b54), (.ref b54)])) rfl rfl (hb hby at_14)
  have V60 : Arv Z h60 b54 k54 .boolean (2 : Int32) [(.int (0 : Int32)), (.int (0 : Int32))] (.int (0 : Int32)) := Arv.set Ar60 q60 S60 M60 Hs60 G60 (fits_nar_bool _) W60 0 rfl (Nat.le_of_ble_eq_true rfl)
  have f61 := f56.wr W60
  have f62 := f57.other W60 (Or.inl ne55)
  have f63 := f58.other W60 (Or.inl ne55)
  have N60 := Fr.snoc X60 N53 n0b54
  have z64 := Nat.le_trans z59 (Keep.of_wr W60).1
  refine Rch.go (U' := T60.setTop (mkF m 15 #[.val (.int p1), .val (.ref b51), .unset, .unset] [(.ref b54)])) st60 ?_
  refine Rch.go (U' := T60.setTop (mkF m 16 #[.val (.int p1), .val (.ref b51), .unset, .unset] [(.ref b54), (.ref b54)])) (fun _ k => XS.dup X60.here hx rfl (hb hby at_15) rfl rfl k) ?_
  refine Rch.go (U' := T60.setTop (mkF m 17 #[.val (.int p1), .val (.ref b51), .unset, .unset] [(.int (1 : Int32)), (.ref b54), (.ref b54)])) (fun _ k => XS.iconst X60.here hx rfl (hb hby at_16) k) ?_
  refine Rch.go (U' := T60.setTop (mkF m 18 #[.val (.int p1), .val (.ref b51), .unset, .unset] [(.int (1 : Int32)), (.int (1 : Int32)), (.ref b54), (.ref b54)])) (fun _ k => XS.iconst X60.here hx rfl (hb hby at_17) k) ?_
  obtain ⟨c65, Ar65, q65, S65, M65, Hs65, G65⟩ := id V60
  have i65 : ¬ ((1 : Int32) < 0 ∨ c65.slots.size ≤ ((1 : Int32)).toNatClampNeg) := inb_of S65 ⟨by decide, by decide⟩
  obtain ⟨T65, h65, X65, e65, W65, st65⟩ := stZ X60 hx hZ e60 Ar65 (j := (1 : Int32)) i65 (g := (mkF m 18 #[.val (.int p1), .val (.ref b51), .unset, .unset] [(.int (1 : Int32)), (.int (1 : Int32)), (.ref b54), (.ref b54)])) rfl rfl (hb hby at_18)
  have V65 : Arv Z h65 b54 k54 .boolean (2 : Int32) [(.int (0 : Int32)), (.int (1 : Int32))] (.int (0 : Int32)) := Arv.set Ar65 q65 S65 M65 Hs65 G65 (fits_nar_bool _) W65 1 rfl (Nat.le_of_ble_eq_true rfl)
  have f66 := f61.wr W65
  have f67 := f62.other W65 (Or.inl ne55)
  have f68 := f63.other W65 (Or.inl ne55)
  have N65 := Fr.snoc X65 N60 n0b54
  have z69 := Nat.le_trans z64 (Keep.of_wr W65).1
  refine Rch.go (U' := T65.setTop (mkF m 19 #[.val (.int p1), .val (.ref b51), .unset, .unset] [(.ref b54)])) st65 ?_
  refine Rch.go (U' := T65.setTop (mkF m 20 #[.val (.int p1), .val (.ref b51), .val (.ref b54), .unset] [])) (fun _ k => XS.astoreN X65.here hx rfl (hb hby at_19) rfl rfl (l' := #[.val (.int p1), .val (.ref b51), .val (.ref b54), .unset]) rfl k) ?_
  refine Rch.go (U' := T65.setTop (mkF m 21 #[.val (.int p1), .val (.ref b51), .val (.ref b54), .unset] [(.ref b51)])) (fun _ k => XS.aloadN X65.here hx rfl (hb hby at_20) rfl rfl k) ?_
  refine Rch.go (U' := T65.setTop (mkF m 22 #[.val (.int p1), .val (.ref b51), .val (.ref b54), .unset] [(.int p1), (.ref b51)])) (fun _ k => XS.iloadN X65.here hx rfl (hb hby at_21) rfl  k) ?_
  refine Rch.go (U' := T65.setTop (mkF m 23 #[.val (.int p1), .val (.ref b51), .val (.ref b54), .unset] [(.int (3 : Int32)), (.int p1), (.ref b51)])) (fun _ k => XS.iconst X65.here hx rfl (hb hby at_22) k) ?_
  refine Rch.go (U' := T65.setTop (mkF m 24 #[.val (.int p1), .val (.ref b51), .val (.ref b54), .unset] [(.int (p1 &&& (3 : Int32))), (.ref b51)])) (fun _ k => XS.iand X65.here hx rfl (hb hby at_23) rfl k) ?_
  refine Rch.go (U' := T65.setTop (mkF m 25 #[.val (.int p1), .val (.ref b51), .val (.ref b54), .unset] [(.ref b54), (.int (p1 &&& (3 : Int32))), (.ref b51)])) (fun _ k => XS.aloadN X65.here hx rfl (hb hby at_24) rfl rfl k) ?_
  obtain ⟨_, _, ⟨T70, L70, k70, n70⟩, -, X70, ⟨Lc70, hQ70, l70, y70, z70⟩, st70⟩ := Jvm.LawKit.callS X65 hx (y := (⟨"com/example/linkstride/linkstride/lookup/ExchangeReleasePinLaw", "step", "(Lcom/example/linkstride/linkstride/lookup/HttpRequests$Exchange;I[Z)V"⟩ : MethodName)) hown (mvT hZ (wi hw 10 rfl)) (mvT hZ (wi hw 11 rfl)) (mvT hZ (wi hw 12 rfl)) (mvT hZ (wi hw 13 rfl)) (by decide) (backOf (W := 0) (rmStep l Z a0 hw [] b51 (p1 &&& (3 : Int32)) b54 k54 (0 : Int32) h65 n0 z69 f66 f67 f68 V65 n0b51 n0b54 ne55 (Or.inl rfl)) hZ (wi hw 13 rfl) (wi hw 12 rfl) (by decide) (by decide)) (g := (mkF m 25 #[.val (.int p1), .val (.ref b51), .val (.ref b54), .unset] [(.ref b54), (.int (p1 &&& (3 : Int32))), (.ref b51)])) rfl (by rw [hml]; rfl) (argsL := [(.ref b51), (.int (p1 &&& (3 : Int32))), (.ref b54)]) (rest := []) (lenOf pd_8 rfl) rfl (by show 2 * 0 + _ ≤ _; exact Nat.le_of_eq rfl) (hb hby at_25) (fun _ _ => ⟨rfl, e65, (by decide : 2 + 0 ≤ _), (by decide : 4 + 0 ≤ _)⟩)
  dsimp only [Pt.U, Pt.locs, Pt.cells, Pt.slots] at X70 l70 y70 z70 st70 hQ70
  subst l70 y70 z70
  obtain ⟨cl70, rfl, N70q, K70q, F70_current, F70_closed, V70, hcl70⟩ := hQ70
  have N70 := Fr.app N65 N70q
  have z71 := Nat.le_trans z69 K70q.1
  have f72 := f66.keep K70q
  refine Rch.go (U' := T70.setTop (mkF m 28 #[.val (.int p1), .val (.ref b51), .val (.ref b54), .unset] [])) st70 ?_
  refine Rch.go (U' := T70.setTop (mkF m 29 #[.val (.int p1), .val (.ref b51), .val (.ref b54), .unset] [(.ref b51)])) (fun _ k => XS.aloadN X70.here hx rfl (hb hby at_28) rfl rfl k) ?_
  refine Rch.go (U' := T70.setTop (mkF m 30 #[.val (.int p1), .val (.ref b51), .val (.ref b54), .unset] [(.int p1), (.ref b51)])) (fun _ k => XS.iloadN X70.here hx rfl (hb hby at_29) rfl  k) ?_
  refine Rch.go (U' := T70.setTop (mkF m 31 #[.val (.int p1), .val (.ref b51), .val (.ref b54), .unset] [(.int (2 : Int32)), (.int p1), (.ref b51)])) (fun _ k => XS.iconst X70.here hx rfl (hb hby at_30) k) ?_
  refine Rch.go (U' := T70.setTop (mkF m 32 #[.val (.int p1), .val (.ref b51), .val (.ref b54), .unset] [(.int ((p1).toUInt32 >>> ((2 : Int32) &&& 31).toUInt32).toInt32), (.ref b51)])) (fun _ k => XS.iushr X70.here hx rfl (hb hby at_31) rfl k) ?_
  refine Rch.go (U' := T70.setTop (mkF m 33 #[.val (.int p1), .val (.ref b51), .val (.ref b54), .unset] [(.int (3 : Int32)), (.int ((p1).toUInt32 >>> ((2 : Int32) &&& 31).toUInt32).toInt32), (.ref b51)])) (fun _ k => XS.iconst X70.here hx rfl (hb hby at_32) k) ?_
  refine Rch.go (U' := T70.setTop (mkF m 34 #[.val (.int p1), .val (.ref b51), .val (.ref b54), .unset] [(.int (((p1).toUInt32 >>> ((2 : Int32) &&& 31).toUInt32).toInt32 &&& (3 : Int32))), (.ref b51)])) (fun _ k => XS.iand X70.here hx rfl (hb hby at_33) rfl k) ?_
  refine Rch.go (U' := T70.setTop (mkF m 35 #[.val (.int p1), .val (.ref b51), .val (.ref b54), .unset] [(.ref b54), (.int (((p1).toUInt32 >>> ((2 : Int32) &&& 31).toUInt32).toInt32 &&& (3 : Int32))), (.ref b51)])) (fun _ k => XS.aloadN X70.here hx rfl (hb hby at_34) rfl rfl k) ?_
  obtain ⟨_, _, ⟨T73, L73, k73, n73⟩, -, X73, ⟨Lc73, hQ73, l73, y73, z73⟩, st73⟩ := Jvm.LawKit.callS X70 hx (y := (⟨"com/example/linkstride/linkstride/lookup/ExchangeReleasePinLaw", "step", "(Lcom/example/linkstride/linkstride/lookup/HttpRequests$Exchange;I[Z)V"⟩ : MethodName)) hown (mvT hZ (wi hw 10 rfl)) (mvT hZ (wi hw 11 rfl)) (mvT hZ (wi hw 12 rfl)) (mvT hZ (wi hw 13 rfl)) (by decide) (backOf (W := 0) (rmStep l Z a0 hw [] b51 (((p1).toUInt32 >>> ((2 : Int32) &&& 31).toUInt32).toInt32 &&& (3 : Int32)) b54 k54 cl70 T70.heap n0 z71 f72 F70_current F70_closed V70 n0b51 n0b54 ne55 hcl70) hZ (wi hw 13 rfl) (wi hw 12 rfl) (by decide) (by decide)) (g := (mkF m 35 #[.val (.int p1), .val (.ref b51), .val (.ref b54), .unset] [(.ref b54), (.int (((p1).toUInt32 >>> ((2 : Int32) &&& 31).toUInt32).toInt32 &&& (3 : Int32))), (.ref b51)])) rfl (by rw [hml]; rfl) (argsL := [(.ref b51), (.int (((p1).toUInt32 >>> ((2 : Int32) &&& 31).toUInt32).toInt32 &&& (3 : Int32))), (.ref b54)]) (rest := []) (lenOf pd_8 rfl) rfl (by show 2 * 0 + _ ≤ _; exact Nat.le_of_eq rfl) (hb hby at_35) (fun _ _ => ⟨rfl, rfl, (by decide : 2 + 0 ≤ _), (by decide : 4 + 0 ≤ _)⟩)
  dsimp only [Pt.U, Pt.locs, Pt.cells, Pt.slots] at X73 l73 y73 z73 st73 hQ73
  subst l73 y73 z73
  obtain ⟨cl73, rfl, N73q, K73q, F73_current, F73_closed, V73, hcl73⟩ := hQ73
  have N73 := Fr.app N70 N73q
  have z74 := Nat.le_trans z71 K73q.1
  have f75 := f72.keep K73q
  refine Rch.go (U' := T73.setTop (mkF m 38 #[.val (.int p1), .val (.ref b51), .val (.ref b54), .unset] [])) st73 ?_
  refine Rch.go (U' := T73.setTop (mkF m 39 #[.val (.int p1), .val (.ref b51), .val (.ref b54), .unset] [(.ref b51)])) (fun _ k => XS.aloadN X73.here hx rfl (hb hby at_38) rfl rfl k) ?_
  refine Rch.go (U' := T73.setTop (mkF m 40 #[.val (.int p1), .val (.ref b51), .val (.ref b54), .unset] [(.int p1), (.ref b51)])) (fun _ k => XS.iloadN X73.here hx rfl (hb hby at_39) rfl  k) ?_
  refine Rch.go (U' := T73.setTop (mkF m 41 #[.val (.int p1), .val (.ref b51), .val (.ref b54), .unset] [(.int (4 : Int32)), (.int p1), (.ref b51)])) (fun _ k => XS.iconst X73.here hx rfl (hb hby at_40) k) ?_
  refine Rch.go (U' := T73.setTop (mkF m 42 #[.val (.int p1), .val (.ref b51), .val (.ref b54), .unset] [(.int ((p1).toUInt32 >>> ((4 : Int32) &&& 31).toUInt32).toInt32), (.ref b51)])) (fun _ k => XS.iushr X73.here hx rfl (hb hby at_41) rfl k) ?_
  refine Rch.go (U' := T73.setTop (mkF m 43 #[.val (.int p1), .val (.ref b51), .val (.ref b54), .unset] [(.int (3 : Int32)), (.int ((p1).toUInt32 >>> ((4 : Int32) &&& 31).toUInt32).toInt32), (.ref b51)])) (fun _ k => XS.iconst X73.here hx rfl (hb hby at_42) k) ?_
  refine Rch.go (U' := T73.setTop (mkF m 44 #[.val (.int p1), .val (.ref b51), .val (.ref b54), .unset] [(.int (((p1).toUInt32 >>> ((4 : Int32) &&& 31).toUInt32).toInt32 &&& (3 : Int32))), (.ref b51)])) (fun _ k => XS.iand X73.here hx rfl (hb hby at_43) rfl k) ?_
  refine Rch.go (U' := T73.setTop (mkF m 45 #[.val (.int p1), .val (.ref b51), .val (.ref b54), .unset] [(.ref b54), (.int (((p1).toUInt32 >>> ((4 : Int32) &&& 31).toUInt32).toInt32 &&& (3 : Int32))), (.ref b51)])) (fun _ k => XS.aloadN X73.here hx rfl (hb hby at_44) rfl rfl k) ?_
  obtain ⟨_, _, ⟨T76, L76, k76, n76⟩, -, X76, ⟨Lc76, hQ76, l76, y76, z76⟩, st76⟩ := Jvm.LawKit.callS X73 hx (y := (⟨"com/example/linkstride/linkstride/lookup/ExchangeReleasePinLaw", "step", "(Lcom/example/linkstride/linkstride/lookup/HttpRequests$Exchange;I[Z)V"⟩ : MethodName)) hown (mvT hZ (wi hw 10 rfl)) (mvT hZ (wi hw 11 rfl)) (mvT hZ (wi hw 12 rfl)) (mvT hZ (wi hw 13 rfl)) (by decide) (backOf (W := 0) (rmStep l Z a0 hw [] b51 (((p1).toUInt32 >>> ((4 : Int32) &&& 31).toUInt32).toInt32 &&& (3 : Int32)) b54 k54 cl73 T73.heap n0 z74 f75 F73_current F73_closed V73 n0b51 n0b54 ne55 hcl73) hZ (wi hw 13 rfl) (wi hw 12 rfl) (by decide) (by decide)) (g := (mkF m 45 #[.val (.int p1), .val (.ref b51), .val (.ref b54), .unset] [(.ref b54), (.int (((p1).toUInt32 >>> ((4 : Int32) &&& 31).toUInt32).toInt32 &&& (3 : Int32))), (.ref b51)])) rfl (by rw [hml]; rfl) (argsL := [(.ref b51), (.int (((p1).toUInt32 >>> ((4 : Int32) &&& 31).toUInt32).toInt32 &&& (3 : Int32))), (.ref b54)]) (rest := []) (lenOf pd_8 rfl) rfl (by show 2 * 0 + _ ≤ _; exact Nat.le_of_eq rfl) (hb hby at_45) (fun _ _ => ⟨rfl, rfl, (by decide : 2 + 0 ≤ _), (by decide : 4 + 0 ≤ _)⟩)
  dsimp only [Pt.U, Pt.locs, Pt.cells, Pt.slots] at X76 l76 y76 z76 st76 hQ76
  subst l76 y76 z76
  obtain ⟨cl76, rfl, N76q, K76q, F76_current, F76_closed, V76, hcl76⟩ := hQ76
  have N76 := Fr.app N73 N76q
  have z77 := Nat.le_trans z74 K76q.1
  have f78 := f75.keep K76q
  refine Rch.go (U' := T76.setTop (mkF m 48 #[.val (.int p1), .val (.ref b51), .val (.ref b54), .unset] [])) st76 ?_
  refine Rch.go (U' := T76.setTop (mkF m 49 #[.val (.int p1), .val (.ref b51), .val (.ref b54), .unset] [(.ref b51)])) (fun _ k => XS.aloadN X76.here hx rfl (hb hby at_48) rfl rfl k) ?_
  refine Rch.go (U' := T76.setTop (mkF m 50 #[.val (.int p1), .val (.ref b51), .val (.ref b54), .unset] [(.int p1), (.ref b51)])) (fun _ k => XS.iloadN X76.here hx rfl (hb hby at_49) rfl  k) ?_
  refine Rch.go (U' := T76.setTop (mkF m 52 #[.val (.int p1), .val (.ref b51), .val (.ref b54), .unset] [(.int (6 : Int32)), (.int p1), (.ref b51)])) (fun _ k => XS.bipush X76.here hx rfl (hb hby at_50) k) ?_
  refine Rch.go (U' := T76.setTop (mkF m 53 #[.val (.int p1), .val (.ref b51), .val (.ref b54), .unset] [(.int ((p1).toUInt32 >>> ((6 : Int32) &&& 31).toUInt32).toInt32), (.ref b51)])) (fun _ k => XS.iushr X76.here hx rfl (hb hby at_52) rfl k) ?_
  refine Rch.go (U' := T76.setTop (mkF m 54 #[.val (.int p1), .val (.ref b51), .val (.ref b54), .unset] [(.int (3 : Int32)), (.int ((p1).toUInt32 >>> ((6 : Int32) &&& 31).toUInt32).toInt32), (.ref b51)])) (fun _ k => XS.iconst X76.here hx rfl (hb hby at_53) k) ?_
  refine Rch.go (U' := T76.setTop (mkF m 55 #[.val (.int p1), .val (.ref b51), .val (.ref b54), .unset] [(.int (((p1).toUInt32 >>> ((6 : Int32) &&& 31).toUInt32).toInt32 &&& (3 : Int32))), (.ref b51)])) (fun _ k => XS.iand X76.here hx rfl (hb hby at_54) rfl k) ?_
  refine Rch.go (U' := T76.setTop (mkF m 56 #[.val (.int p1), .val (.ref b51), .val (.ref b54), .unset] [(.ref b54), (.int (((p1).toUInt32 >>> ((6 : Int32) &&& 31).toUInt32).toInt32 &&& (3 : Int32))), (.ref b51)])) (fun _ k => XS.aloadN X76.here hx rfl (hb hby at_55) rfl rfl k) ?_
  obtain ⟨_, _, ⟨T79, L79, k79, n79⟩, -, X79, ⟨Lc79, hQ79, l79, y79, z79⟩, st79⟩ := Jvm.LawKit.callS X76 hx (y := (⟨"com/example/linkstride/linkstride/lookup/ExchangeReleasePinLaw", "step", "(Lcom/example/linkstride/linkstride/lookup/HttpRequests$Exchange;I[Z)V"⟩ : MethodName)) hown (mvT hZ (wi hw 10 rfl)) (mvT hZ (wi hw 11 rfl)) (mvT hZ (wi hw 12 rfl)) (mvT hZ (wi hw 13 rfl)) (by decide) (backOf (W := 0) (rmStep l Z a0 hw [] b51 (((p1).toUInt32 >>> ((6 : Int32) &&& 31).toUInt32).toInt32 &&& (3 : Int32)) b54 k54 cl76 T76.heap n0 z77 f78 F76_current F76_closed V76 n0b51 n0b54 ne55 hcl76) hZ (wi hw 13 rfl) (wi hw 12 rfl) (by decide) (by decide)) (g := (mkF m 56 #[.val (.int p1), .val (.ref b51), .val (.ref b54), .unset] [(.ref b54), (.int (((p1).toUInt32 >>> ((6 : Int32) &&& 31).toUInt32).toInt32 &&& (3 : Int32))), (.ref b51)])) rfl (by rw [hml]; rfl) (argsL := [(.ref b51), (.int (((p1).toUInt32 >>> ((6 : Int32) &&& 31).toUInt32).toInt32 &&& (3 : Int32))), (.ref b54)]) (rest := []) (lenOf pd_8 rfl) rfl (by show 2 * 0 + _ ≤ _; exact Nat.le_of_eq rfl) (hb hby at_56) (fun _ _ => ⟨rfl, rfl, (by decide : 2 + 0 ≤ _), (by decide : 4 + 0 ≤ _)⟩)
  dsimp only [Pt.U, Pt.locs, Pt.cells, Pt.slots] at X79 l79 y79 z79 st79 hQ79
  subst l79 y79 z79
  obtain ⟨cl79, rfl, N79q, K79q, F79_current, F79_closed, V79, hcl79⟩ := hQ79
  have N79 := Fr.app N76 N79q
  have z80 := Nat.le_trans z77 K79q.1
  have f81 := f78.keep K79q
  refine Rch.go (U' := T79.setTop (mkF m 59 #[.val (.int p1), .val (.ref b51), .val (.ref b54), .unset] [])) st79 ?_
  refine Rch.go (U' := T79.setTop (mkF m 60 #[.val (.int p1), .val (.ref b51), .val (.ref b54), .unset] [(.ref b51)])) (fun _ k => XS.aloadN X79.here hx rfl (hb hby at_59) rfl rfl k) ?_
  obtain ⟨cq82, kq82, q82a, q82b, q82c⟩ := isOf hZ rfl f81
  obtain ⟨_, _, ⟨T82, L82, k82, n82⟩, -, X82, ⟨Lc82, hQ82, l82, y82, z82⟩, st82⟩ := X79.virtualBack hx (y := (⟨"com/example/linkstride/linkstride/lookup/HttpRequests$Exchange", "release", "()Z"⟩ : MethodName)) (z := (⟨"com/example/linkstride/linkstride/lookup/HttpRequests$Exchange", "release", "()Z"⟩ : MethodName)) hown (mvT hZ (wi hw 23 rfl)) (mvT hZ (wi hw 24 rfl)) (notFace_of_selects (args := #[]) (mvT hZ (wi hw 26 rfl))) (mvT hZ (wi hw 26 rfl)) (mvT hZ (wi hw 25 rfl)) (by decide) (backOf (W := 0) (rmRel l Z a0 hw [] b51 cl79 T79.heap n0 z80 f81 F79_current F79_closed n0b51) hZ (wi hw 27 rfl) (wi hw 2 rfl) (by decide) (by decide)) q82a q82c (g := (mkF m 60 #[.val (.int p1), .val (.ref b51), .val (.ref b54), .unset] [(.ref b51)])) rfl (by rw [hml]; rfl) (Steps.refl _) (argsL := []) (rest := []) (lenOf pd_7 rfl) rfl (by show 2 * 0 + _ ≤ _; exact Nat.le_of_eq rfl) (hb hby at_60) (fun _ _ => ⟨rfl, rfl, (by decide : 2 + 0 ≤ _), (by decide : 4 + 0 ≤ _)⟩)
  dsimp only [Pt.U, Pt.locs, Pt.cells, Pt.slots] at X82 l82 y82 z82 st82 hQ82
  subst l82 y82 z82
  obtain ⟨rfl, N82q, K82q, F82_current, F82_closed⟩ := hQ82
  have N82 := Fr.app N79 N82q
  have z83 := Nat.le_trans z80 K82q.1
  have f84 := f81.keep K82q
  have f85 := V79.keep K82q (ninS (Ne.symm ne55) nin0)
  refine Rch.to (U' := T82.setTop (mkF m 63 #[.val (.int p1), .val (.ref b51), .val (.ref b54), .unset] [(.int (own_not cl79))])) st82 ?_
  refine Rch.go (U' := T82.setTop (mkF m 64 #[.val (.int p1), .val (.ref b51), .val (.ref b54), .val (.int (own_not cl79))] [])) (fun _ k => XS.istoreN X82.here hx rfl (hb hby at_63) rfl (l' := #[.val (.int p1), .val (.ref b51), .val (.ref b54), .val (.int (own_not cl79))]) rfl k) ?_
  refine Rch.go (U' := T82.setTop (mkF m 65 #[.val (.int p1), .val (.ref b51), .val (.ref b54), .val (.int (own_not cl79))] [(.ref b54)])) (fun _ k => XS.aloadN X82.here hx rfl (hb hby at_64) rfl rfl k) ?_
  refine Rch.go (U' := T82.setTop (mkF m 66 #[.val (.int p1), .val (.ref b51), .val (.ref b54), .val (.int (own_not cl79))] [(.int (1 : Int32)), (.ref b54)])) (fun _ k => XS.iconst X82.here hx rfl (hb hby at_65) k) ?_
  obtain ⟨c86, Ar86, q86, S86, M86, Hs86, G86⟩ := id f85
  have i86 : ¬ ((1 : Int32) < 0 ∨ c86.slots.size ≤ ((1 : Int32)).toNatClampNeg) := inb_of S86 ⟨by decide, by decide⟩
  have a86 : c86.slots[((1 : Int32)).toNatClampNeg]? = some (.int (1 : Int32)) := Has.at Hs86 i86 rfl
  refine Rch.go (U' := T82.setTop (mkF m 67 #[.val (.int p1), .val (.ref b51), .val (.ref b54), .val (.int (own_not cl79))] [(.int (1 : Int32))])) (fun _ k => X82.baloadBooleans hx (j := (1 : Int32)) (v := (.int (1 : Int32))) Ar86.1 (State.isArrayOf_alike hZ.alike Ar86.2.1) Ar86.2.2 i86 a86 (g := (mkF m 66 #[.val (.int p1), .val (.ref b51), .val (.ref b54), .val (.int (own_not cl79))] [(.int (1 : Int32)), (.ref b54)])) rfl rfl (hb hby at_66) _ k) ?_
  have br87 : ¬ ((1 : Int32) = (0 : Int32)) := (by decide)
  refine Rch.go (U' := T82.setTop (mkF m 70 #[.val (.int p1), .val (.ref b51), .val (.ref b54), .val (.int (own_not cl79))] [])) (fun _ k => XS.ifNo X82.here hx rfl (hb hby at_67) rfl (XT.i0_eq_f br87) k) ?_
  refine Rch.go (U' := T82.setTop (mkF m 71 #[.val (.int p1), .val (.ref b51), .val (.ref b54), .val (.int (own_not cl79))] [(.int (own_not cl79))])) (fun _ k => XS.iloadN X82.here hx rfl (hb hby at_70) rfl  k) ?_
  refine Rch.go (U' := T82.setTop (mkF m 72 #[.val (.int p1), .val (.ref b51), .val (.ref b54), .val (.int (own_not cl79))] [(.ref b54), (.int (own_not cl79))])) (fun _ k => XS.aloadN X82.here hx rfl (hb hby at_71) rfl rfl k) ?_
  refine Rch.go (U' := T82.setTop (mkF m 73 #[.val (.int p1), .val (.ref b51), .val (.ref b54), .val (.int (own_not cl79))] [(.int (0 : Int32)), (.ref b54), (.int (own_not cl79))])) (fun _ k => XS.iconst X82.here hx rfl (hb hby at_72) k) ?_
  obtain ⟨c88, Ar88, q88, S88, M88, Hs88, G88⟩ := id f85
  have i88 : ¬ ((0 : Int32) < 0 ∨ c88.slots.size ≤ ((0 : Int32)).toNatClampNeg) := inb_of S88 ⟨by decide, by decide⟩
  have a88 : c88.slots[((0 : Int32)).toNatClampNeg]? = some (.int cl79) := Has.at Hs88 i88 rfl
  refine Rch.go (U' := T82.setTop (mkF m 74 #[.val (.int p1), .val (.ref b51), .val (.ref b54), .val (.int (own_not cl79))] [(.int cl79), (.int (own_not cl79))])) (fun _ k => X82.baloadBooleans hx (j := (0 : Int32)) (v := (.int cl79)) Ar88.1 (State.isArrayOf_alike hZ.alike Ar88.2.1) Ar88.2.2 i88 a88 (g := (mkF m 73 #[.val (.int p1), .val (.ref b51), .val (.ref b54), .val (.int (own_not cl79))] [(.int (0 : Int32)), (.ref b54), (.int (own_not cl79))])) rfl rfl (hb hby at_73) _ k) ?_
  by_cases br89 : cl79 = (0 : Int32)
  ·
    refine Rch.go (U' := T82.setTop (mkF m 77 #[.val (.int p1), .val (.ref b51), .val (.ref b54), .val (.int (own_not cl79))] [(.int (own_not cl79))])) (fun _ k => XS.ifNo X82.here hx rfl (hb hby at_74) rfl (XT.i0_ne_f br89) k) ?_
    refine Rch.go (U' := T82.setTop (mkF m 78 #[.val (.int p1), .val (.ref b51), .val (.ref b54), .val (.int (own_not cl79))] [(.int (1 : Int32)), (.int (own_not cl79))])) (fun _ k => XS.iconst X82.here hx rfl (hb hby at_77) k) ?_
    refine Rch.go (U' := T82.setTop (mkF m 82 #[.val (.int p1), .val (.ref b51), .val (.ref b54), .val (.int (own_not cl79))] [(.int (1 : Int32)), (.int (own_not cl79))])) (fun _ k => XS.goto X82.here hx rfl (pc0 := 78) (pc' := 82) rfl (hb hby at_78) (by decide) (by decide) k) ?_
    have br90 : (own_not cl79) = (1 : Int32) := by simp only [own_not, br89, ↓reduceIte]
    refine Rch.go (U' := T82.setTop (mkF m 85 #[.val (.int p1), .val (.ref b51), .val (.ref b54), .val (.int (own_not cl79))] [])) (fun _ k => XS.icmpNo X82.here hx rfl (hb hby at_82) rfl (XT.ii_ne_f br90) k) ?_
    refine Rch.go (U' := T82.setTop (mkF m 86 #[.val (.int p1), .val (.ref b51), .val (.ref b54), .val (.int (own_not cl79))] [(.int (1 : Int32))])) (fun _ k => XS.iconst X82.here hx rfl (hb hby at_85) k) ?_
    refine Rch.go (U' := T82.setTop (mkF m 90 #[.val (.int p1), .val (.ref b51), .val (.ref b54), .val (.int (own_not cl79))] [(.int (1 : Int32))])) (fun _ k => XS.goto X82.here hx rfl (pc0 := 86) (pc' := 90) rfl (hb hby at_86) (by decide) (by decide) k) ?_
    refine Rch.fin X82 hlk (v := some (.int (nar .boolean (1 : Int32)))) (fun h => by rw [hret] at h; cases h) rfl (by decide) (by decide) (fun fs hr => retN X82 hx (t := .boolean) hret (by simp) (hb hby at_90) hr) ?_
    exact ⟨rfl, N82⟩
  ·
    refine Rch.go (U' := T82.setTop (mkF m 81 #[.val (.int p1), .val (.ref b51), .val (.ref b54), .val (.int (own_not cl79))] [(.int (own_not cl79))])) (fun _ k => XS.ifYes X82.here hx rfl (pc0 := 74) (pc' := 81) rfl (hb hby at_74) rfl (XT.i0_ne_t br89) (by decide) (by decide) k) ?_
    refine Rch.go (U' := T82.setTop (mkF m 82 #[.val (.int p1), .val (.ref b51), .val (.ref b54), .val (.int (own_not cl79))] [(.int (0 : Int32)), (.int (own_not cl79))])) (fun _ k => XS.iconst X82.here hx rfl (hb hby at_81) k) ?_
    have br91 : (own_not cl79) = (0 : Int32) := by simp only [own_not, br89, ↓reduceIte]
    refine Rch.go (U' := T82.setTop (mkF m 85 #[.val (.int p1), .val (.ref b51), .val (.ref b54), .val (.int (own_not cl79))] [])) (fun _ k => XS.icmpNo X82.here hx rfl (hb hby at_82) rfl (XT.ii_ne_f br91) k) ?_
    refine Rch.go (U' := T82.setTop (mkF m 86 #[.val (.int p1), .val (.ref b51), .val (.ref b54), .val (.int (own_not cl79))] [(.int (1 : Int32))])) (fun _ k => XS.iconst X82.here hx rfl (hb hby at_85) k) ?_
    refine Rch.go (U' := T82.setTop (mkF m 90 #[.val (.int p1), .val (.ref b51), .val (.ref b54), .val (.int (own_not cl79))] [(.int (1 : Int32))])) (fun _ k => XS.goto X82.here hx rfl (pc0 := 86) (pc' := 90) rfl (hb hby at_86) (by decide) (by decide) k) ?_
    refine Rch.fin X82 hlk (v := some (.int (nar .boolean (1 : Int32)))) (fun h => by rw [hret] at h; cases h) rfl (by decide) (by decide) (fun fs hr => retN X82 hx (t := .boolean) hret (by simp) (hb hby at_90) hr) ?_
    exact ⟨rfl, N82⟩
set_option maxRecDepth 65536 in
set_option maxHeartbeats 40000000 in
theorem comes_1 {Post : Tables → Env → Array Value → State → Outcome → State → Prop} (hpost : ∀ tb e args s v u, (limb_1_1.after args s (.returned v) u = true ∧ limb_1_2.after args s (.returned v) u = true ∧ True) → FrameEnd s (.returned v) u (Jvm.fieldLocs frame_1_writes args s ++ Jvm.arrayLocs frame_1_arrays args s ++ Jvm.staticLocs frame_1_statics s) 16 128 → Post tb e args s (.returned v) u) :
    ArmFor flags0 classFile x code maxLocals ret World_1 tables_1 room_1 Calls_1 rest_1 Pre_1 Post := by
  intro l hfl _ _ p e ha hc hk s m args below hf hA hF happ hP
  obtain ⟨hcalls, hrest, hpre⟩ := hP
  obtain ⟨-, -, -, hnamed, -, -, -, hat⟩ := (Spec.applies_iff hf).mp happ
  obtain ⟨hg, hn⟩ := and_e (Cond.before_iff.mp (show (Jvm.Cond.and given_1 narrow_1).before args s = true from hpre))
  obtain ⟨hcount, hg0⟩ := and_e hg
  obtain ⟨w0, rfl⟩ : ∃ w0 : Value, args = #[w0] := by
    have hs : args.size = 1 := by simpa [Cond.value, given_1] using hcount
    obtain ⟨L⟩ := args
    match L, hs with
    | [w0], _ => exact ⟨w0, rfl⟩
  have hw := fun d (hd : d ∈ tables_1) => atoms_spec (ws := Jvm.Cond.code x code maxLocals ret :: tables_1) hat d (List.mem_cons_of_mem _ hd)
  obtain ⟨i0, ei0⟩ := is_v hg0
  obtain rfl : w0 = (.int i0) := Option.some.inj ei0
  obtain ⟨n, o, h1, h2, h3, _, L, rfl, ⟨rfl, N⟩, hq⟩ := rm0 l s _ hw tables_1 i0 s.heap s.heap.size (Nat.le_refl _)  p e ha hc hk s m _ below hf ((Spec.applies_iff_loose hf).mp happ).1 ⟨rfl, State.Warmed39.refl s, rfl⟩ trivial
  refine ⟨n, _, h1, h2, h3, hpost _ _ _ _ _ _ ⟨Cond.after_iff.mpr rfl, Cond.after_iff.mpr (eq_i res_at (Term.int_eval (1)) rfl), trivial⟩ ⟨hq.1, hq.2.1, (hq.2.2.sift fun y hy => Or.inr (N y hy)).mono (by decide) (by decide)⟩⟩
theorem main_1_1 : Claimed_1_1 := comes_1 fun _ _ _ _ _ _ h hF => ⟨h.1, hF⟩
theorem main_1_2 : Claimed_1_2 := comes_1 fun _ _ _ _ _ _ h hF => ⟨h.2.1, hF⟩
end Jvm.Pilot.@@N@@
namespace Jvm.Pilot.@@N@@
open Jvm Jvm.ClassFile Sem Op Lib Jvm.Free Jvm.Stand Jvm.Pilot.@@N@@.Jvm.D
/-! MADE BY PROGRAM (witnessworld.py) out of the Statement's table words and the real class files: 11 classes; the members and pool entries that the words name. The judged class is class 1, her method 2. -/
namespace start1
open Jvm.ClassFile
def u (s : String) : CpInfo := .utf8 (stringToUtf16 s)
/-- a pool by its gaps: so many unusable entries, then the entry; so many at the end -/
def gap : Nat → List CpInfo → List CpInfo
  | 0, r => r
  | n + 1, r => .unusable :: gap n r
def poolList (es : List (Nat × CpInfo)) (last : Nat) : List CpInfo := es.foldr (fun e r => gap e.1 (e.2 :: r)) (gap last [])
def pool (es : List (Nat × CpInfo)) (last : Nat) : Array CpInfo := ⟨poolList es last⟩
def fileOf (pool : Array CpInfo) (this : Nat) (attrs : Array Attribute := #[]) (ms : Array MethodInfo := #[]) (fl : Nat := 33) (sup : Nat := 0) (ifs : Array Nat := #[]) (fds : Array FieldInfo := #[]) : ClassFile where
  minorVersion := 0
  majorVersion := 65
  constantPool := pool
  accessFlags := fl
  thisClass := this
  superClass := sup
  interfaces := ifs
  fields := fds
  methods := ms
  attributes := attrs
def plain (name : String) (sup : Option ClassId) : Class where
  name := name
  kind := .ordinary
  loader := none
  accessFlags := 33
  super := sup
  interfaces := #[]
  cf := none
  fields := #[]
  methods := #[]
  instanceTypes := #[]
  staticTypes := #[]
  resolved := #[]
  callSites := []
  init := .initialized
  statics := none
  mirror := none

def pool0 : Array CpInfo := pool [(5, u "<init>"), (0, u "()V"), (1, .class_ 10), (1, u "java/lang/Object")] 113

def k0c0 : Code := { maxStack := 0, maxLocals := 1, code := object_method_1_code, exceptionTable := #[], attributes := #[] }
def k0m0 : Method := { name := "<init>", desc := "()V", sig := { parameters := [], returnType := none }, accessFlags := 1, code := some k0c0 }
/-- java/lang/Object -/
def k0 : Class := { plain "java/lang/Object" none with
  accessFlags := 33
  interfaces := #[]
  cf := some (fileOf pool0 8 #[] #[{ accessFlags := 1, nameIndex := 5, descriptorIndex := 6, attributes := #[] }] 33 0 #[] #[])
  fields := #[]
  methods := #[k0m0]
  instanceTypes := #[]
  staticTypes := #[]
  resolved := Array.replicate 124 none
  statics := none }

def pool1 : Array CpInfo := pool [(2, .class_ 4), (0, .nameAndType 5 6), (0, u "java/lang/Object"), (0, u "<init>"), (0, u "()V"), (0, .methodref 8 9), (0, .class_ 10), (0, .nameAndType 11 12), (0, u "com/example/linkstride/linkstride/lookup/HttpRequests$Exchange"), (0, u "open"), (0, u "(Ljava/net/Socket;)V"), (0, .methodref 8 14), (0, .nameAndType 15 6), (0, u "close"), (0, .methodref 8 17), (0, .nameAndType 18 19), (0, u "release"), (0, u "()Z"), (0, .methodref 8 3), (0, .methodref 22 23), (0, .class_ 24), (0, .nameAndType 25 26), (0, u "com/example/linkstride/linkstride/lookup/ExchangeReleasePinLaw"), (0, u "step"), (0, u "(Lcom/example/linkstride/linkstride/lookup/HttpRequests$Exchange;I[Z)V"), (8, u "law"), (0, u "(I)Z")] 6

def k1m0 : Method := { name := "<init>", desc := "()V", sig := { parameters := [], returnType := none }, accessFlags := 1, code := none }
def k1c1 : Code := { maxStack := 3, maxLocals := 4, code := method_2_code, exceptionTable := #[], attributes := #[] }
def k1m1 : Method := { name := "step", desc := "(Lcom/example/linkstride/linkstride/lookup/HttpRequests$Exchange;I[Z)V", sig := { parameters := [(.object "com/example/linkstride/linkstride/lookup/HttpRequests$Exchange"), .int, (.array .boolean)], returnType := none }, accessFlags := 10, code := some k1c1 }
def k1c2 : Code := { maxStack := 4, maxLocals := 4, code := code, exceptionTable := #[], attributes := #[] }
def k1m2 : Method := { name := "law", desc := "(I)Z", sig := { parameters := [.int], returnType := some .boolean }, accessFlags := 9, code := some k1c2 }
/-- com/example/linkstride/linkstride/lookup/ExchangeReleasePinLaw -/
def k1 : Class := { plain "com/example/linkstride/linkstride/lookup/ExchangeReleasePinLaw" (some 0) with
  accessFlags := 49
  interfaces := #[]
  cf := some (fileOf pool1 22 #[] #[{ accessFlags := 1, nameIndex := 5, descriptorIndex := 6, attributes := #[] }, { accessFlags := 10, nameIndex := 25, descriptorIndex := 26, attributes := #[] }, { accessFlags := 9, nameIndex := 35, descriptorIndex := 36, attributes := #[] }] 49 2 #[] #[])
  fields := #[]
  methods := #[k1m0, k1m1, k1m2]
  instanceTypes := #[]
  staticTypes := #[]
  resolved := Array.replicate 43 none
  statics := none }

def pool2 : Array CpInfo := pool [(1, .methodref 2 3), (0, .class_ 4), (0, .nameAndType 5 6), (0, u "java/lang/Object"), (0, u "<init>"), (0, u "()V"), (0, .fieldref 8 9), (0, .class_ 10), (0, .nameAndType 11 12), (0, u "com/example/linkstride/linkstride/lookup/HttpRequests$Exchange"), (0, u "current"), (0, u "Ljava/net/Socket;"), (0, .fieldref 8 14), (0, .nameAndType 15 16), (0, u "closed"), (0, u "Z"), (8, .class_ 27), (1, u "com/example/linkstride/linkstride/lookup/HttpRequests"), (1, u "(Ljava/net/Socket;)V"), (2, u "open"), (2, u "release"), (0, u "()Z"), (0, u "close")] 7

def k2c0 : Code := { maxStack := 1, maxLocals := 1, code := prog_10_method_1_code, exceptionTable := #[], attributes := #[] }
def k2m0 : Method := { name := "<init>", desc := "()V", sig := { parameters := [], returnType := none }, accessFlags := 0, code := some k2c0 }
def k2c1 : Code := { maxStack := 3, maxLocals := 2, code := prog_10_method_2_code, exceptionTable := #[], attributes := #[] }
def k2m1 : Method := { name := "open", desc := "(Ljava/net/Socket;)V", sig := { parameters := [(.object "java/net/Socket")], returnType := none }, accessFlags := 0, code := some k2c1 }
def k2c2 : Code := { maxStack := 2, maxLocals := 1, code := prog_10_method_3_code, exceptionTable := #[], attributes := #[] }
def k2m2 : Method := { name := "release", desc := "()Z", sig := { parameters := [], returnType := some .boolean }, accessFlags := 0, code := some k2c2 }
def k2c3 : Code := { maxStack := 2, maxLocals := 2, code := prog_10_method_4_code, exceptionTable := #[], attributes := #[] }
def k2m3 : Method := { name := "close", desc := "()V", sig := { parameters := [], returnType := none }, accessFlags := 0, code := some k2c3 }
/-- com/example/linkstride/linkstride/lookup/HttpRequests$Exchange -/
def k2 : Class := { plain "com/example/linkstride/linkstride/lookup/HttpRequests$Exchange" (some 0) with
  accessFlags := 48
  interfaces := #[]
  cf := some (fileOf pool2 8 #[.nestHost 25] #[{ accessFlags := 0, nameIndex := 5, descriptorIndex := 6, attributes := #[] }, { accessFlags := 0, nameIndex := 32, descriptorIndex := 29, attributes := #[] }, { accessFlags := 0, nameIndex := 35, descriptorIndex := 36, attributes := #[] }, { accessFlags := 0, nameIndex := 37, descriptorIndex := 6, attributes := #[] }] 48 2 #[] #[{ accessFlags := 66, nameIndex := 11, descriptorIndex := 12, attributes := #[] }, { accessFlags := 66, nameIndex := 15, descriptorIndex := 16, attributes := #[] }])
  fields := #[{ name := "current", type := (.object "java/net/Socket"), accessFlags := 66, slot := 0, constantValue := 0 }, { name := "closed", type := .boolean, accessFlags := 66, slot := 1, constantValue := 0 }]
  methods := #[k2m0, k2m1, k2m2, k2m3]
  instanceTypes := #[(.object "java/net/Socket"), .boolean]
  staticTypes := #[]
  resolved := Array.replicate 45 none
  statics := none }

def pool3 : Array CpInfo := pool [(1, u "java/lang/Cloneable"), (0, .class_ 1), (0, u "java/lang/Object"), (0, .class_ 3)] 3

/-- java/lang/Cloneable -/
def k3 : Class := { plain "java/lang/Cloneable" (some 0) with
  accessFlags := 1537
  interfaces := #[]
  cf := some (fileOf pool3 2 #[] #[] 1537 4 #[] #[])
  fields := #[]
  methods := #[]
  instanceTypes := #[]
  staticTypes := #[]
  resolved := Array.replicate 8 none
  statics := none }

def pool4 : Array CpInfo := pool [(1, u "java/io/Serializable"), (0, .class_ 1), (0, u "java/lang/Object"), (0, .class_ 3)] 3

/-- java/io/Serializable -/
def k4 : Class := { plain "java/io/Serializable" (some 0) with
  accessFlags := 1537
  interfaces := #[]
  cf := some (fileOf pool4 2 #[] #[] 1537 4 #[] #[])
  fields := #[]
  methods := #[]
  instanceTypes := #[]
  staticTypes := #[]
  resolved := Array.replicate 8 none
  statics := none }

/-- the primitive boolean -/
def k5 : Class := { plain "boolean" none with kind := .primitive 'Z', accessFlags := 0x411 }
/-- [Z -/
def k6 : Class := { plain "[Z" (some 0) with kind := .array 5 .boolean, interfaces := #[3, 4], accessFlags := 1041 }

/-- the primitive byte -/
def k7 : Class := { plain "byte" none with kind := .primitive 'B', accessFlags := 0x411 }
/-- [B -/
def k8 : Class := { plain "[B" (some 0) with kind := .array 7 .byte, interfaces := #[3, 4], accessFlags := 1041 }

/-- the primitive int -/
def k9 : Class := { plain "int" none with kind := .primitive 'I', accessFlags := 0x411 }
/-- [I -/
def k10 : Class := { plain "[I" (some 0) with kind := .array 9 .int, interfaces := #[3, 4], accessFlags := 1041 }

def heap : Heap := #[]
def classes : Array Class := #[k0, k1, k2, k3, k4, k5, k6, k7, k8, k9, k10]
def interned : List (Array UInt16 × Addr) := []
def slotsUsed : Nat := 0
def theMethod : MethodId := ⟨1, 2⟩
def args0 : Array Value := #[.int 5]
def aboutOver (below : List Frame) : State where
  vm := { classes := classes, interned := interned.toArray }
  heap := heap
  slotsUsed := slotsUsed
  threads := #[{ frames := .invoking theMethod args0 :: below }]
def below0 : List Frame := [.native { method := ⟨0, 0⟩, args := #[] }]
def about1 : State := aboutOver below0
def p0 : Program := .bare "" "" ""
def e0 : Env := launch0.env 0 0 0
theorem w_frames : about1.frames = Frame.invoking theMethod args0 :: below0 := rfl
set_option maxRecDepth 65536 in
theorem w_args : argsFit about1.vm theMethod args0 = true := by decide +kernel
set_option maxRecDepth 65536 in
theorem w_heap : heapFits about1 = true := by decide +kernel
set_option maxRecDepth 65536 in
theorem w_runnable : about1.curStatus? = some .runnable := by decide +kernel
set_option maxRecDepth 65536 in
theorem w_alone : about1.alone = true := by decide +kernel
set_option maxRecDepth 65536 in
theorem w_named : about1.methodNamed? x = some theMethod := by decide +kernel
set_option maxRecDepth 65536 in
theorem w_hears : about1.hears theMethod below0 = true := by decide +kernel
set_option maxRecDepth 65536 in
theorem w_ripe : about1.ripe theMethod args0 below0 = true := by decide +kernel
theorem w_running : about1.status = .running := rfl
set_option maxRecDepth 65536 in
theorem w_room : about1.hasRoom e0.platform room_1 = true :=
  launch0.hasRoom_least _ room_1 (by decide +kernel) (by decide +kernel) (by decide +kernel) (by decide +kernel) (by decide +kernel) (by decide +kernel)
theorem allAtoms_all (ts : List Jvm.Cond) (a : Array Jvm.Value) (st : Jvm.State) : (allAtoms ts).before a st = ts.all (fun c => c.before a st) := by
  induction ts with
  | nil => rfl
  | cons c t ih =>
    show (Jvm.Cond.and c (allAtoms t)).before a st = _
    rw [Jvm.Cond.before_and, ih, List.all_cons]
def words1 : List Jvm.Cond := Jvm.Cond.code x code maxLocals ret :: tables_1
/-- a 'code' word, met by the world's own term for the bytes: nothing is compared byte by byte -/
theorem code_word {y : MethodName} {bytes : ByteArray} {mx : Nat} {rt : Option FieldType} {a : Array Value} {s : State} {m : MethodId} {meth : Method} {c : Code} (h1 : s.methodNamed? y = some m) (h2 : s.vm.method? m = some meth) (h3 : meth.code = some c) (h4 : c.code = bytes)
    (h5 : (c.maxLocals == mx && c.exceptionTable.isEmpty && decide (c.maxStack ≤ mostOperands) && decide (meth.sig.returnType = rt) && !meth.locks && decide (parseMethodDescriptor y.desc = some meth.sig)) = true) : (Jvm.Cond.code y bytes mx rt).before a s = true := by
  simp only [Bool.and_eq_true, beq_iff_eq, Bool.not_eq_true', decide_eq_true_eq] at h5
  obtain ⟨⟨⟨⟨⟨g1, g2⟩, g3⟩, g4⟩, g5⟩, g6⟩ := h5
  simp [Cond.before, Cond.holds, Cond.value, h1, h2, h3, h4, g1, g2, g3, g4, g5, g6]
def isCode : Jvm.Cond → Bool
  | .code _ _ _ _ => true
  | _ => false
theorem all_split {L : List Jvm.Cond} {P : Jvm.Cond → Bool} (h1 : L.all (fun c => isCode c || P c) = true) (h2 : ∀ c ∈ L.filter isCode, P c = true) : L.all P = true := by
  refine List.all_eq_true.mpr fun c hc => ?_
  have h := List.all_eq_true.mp h1 c hc
  rcases Bool.eq_false_or_eq_true (isCode c) with hi | hi
  · exact h2 c (List.mem_filter.mpr ⟨hc, hi⟩)
  · simpa [hi] using h
set_option maxRecDepth 65536 in
theorem w_c0 : (Jvm.Cond.code x code maxLocals ret).before args0 about1 = true := code_word (m := ⟨1, 2⟩) (meth := k1m2) (c := k1c2) (by decide +kernel) rfl rfl rfl (by decide +kernel)
set_option maxRecDepth 65536 in
theorem w_c1 : (Jvm.Cond.code ({ cls := "com/example/linkstride/linkstride/lookup/HttpRequests$Exchange", name := "<init>", desc := "()V" } : Jvm.MethodName) prog_10_method_1_code (1 : Nat) (Option.none : Option Jvm.ClassFile.FieldType)).before args0 about1 = true := code_word (m := ⟨2, 0⟩) (meth := k2m0) (c := k2c0) (by decide +kernel) rfl rfl rfl (by decide +kernel)
set_option maxRecDepth 65536 in
theorem w_c2 : (Jvm.Cond.code ({ cls := "java/lang/Object", name := "<init>", desc := "()V" } : Jvm.MethodName) object_method_1_code (1 : Nat) (Option.none : Option Jvm.ClassFile.FieldType)).before args0 about1 = true := code_word (m := ⟨0, 0⟩) (meth := k0m0) (c := k0c0) (by decide +kernel) rfl rfl rfl (by decide +kernel)
set_option maxRecDepth 65536 in
theorem w_c3 : (Jvm.Cond.code ({ cls := "com/example/linkstride/linkstride/lookup/ExchangeReleasePinLaw", name := "step", desc := "(Lcom/example/linkstride/linkstride/lookup/HttpRequests$Exchange;I[Z)V" } : Jvm.MethodName) method_2_code (4 : Nat) (Option.none : Option Jvm.ClassFile.FieldType)).before args0 about1 = true := code_word (m := ⟨1, 1⟩) (meth := k1m1) (c := k1c1) (by decide +kernel) rfl rfl rfl (by decide +kernel)
set_option maxRecDepth 65536 in
theorem w_c4 : (Jvm.Cond.code ({ cls := "com/example/linkstride/linkstride/lookup/HttpRequests$Exchange", name := "open", desc := "(Ljava/net/Socket;)V" } : Jvm.MethodName) prog_10_method_2_code (2 : Nat) (Option.none : Option Jvm.ClassFile.FieldType)).before args0 about1 = true := code_word (m := ⟨2, 1⟩) (meth := k2m1) (c := k2c1) (by decide +kernel) rfl rfl rfl (by decide +kernel)
set_option maxRecDepth 65536 in
theorem w_c5 : (Jvm.Cond.code ({ cls := "com/example/linkstride/linkstride/lookup/HttpRequests$Exchange", name := "release", desc := "()Z" } : Jvm.MethodName) prog_10_method_3_code (1 : Nat) (Option.some Jvm.ClassFile.FieldType.boolean)).before args0 about1 = true := code_word (m := ⟨2, 2⟩) (meth := k2m2) (c := k2c2) (by decide +kernel) rfl rfl rfl (by decide +kernel)
set_option maxRecDepth 65536 in
theorem w_c6 : (Jvm.Cond.code ({ cls := "com/example/linkstride/linkstride/lookup/HttpRequests$Exchange", name := "close", desc := "()V" } : Jvm.MethodName) prog_10_method_4_code (2 : Nat) (Option.none : Option Jvm.ClassFile.FieldType)).before args0 about1 = true := code_word (m := ⟨2, 3⟩) (meth := k2m3) (c := k2c3) (by decide +kernel) rfl rfl rfl (by decide +kernel)
def codes1 : List Jvm.Cond := [Jvm.Cond.code x code maxLocals ret, Jvm.Cond.code ({ cls := "com/example/linkstride/linkstride/lookup/HttpRequests$Exchange", name := "<init>", desc := "()V" } : Jvm.MethodName) prog_10_method_1_code (1 : Nat) (Option.none : Option Jvm.ClassFile.FieldType), Jvm.Cond.code ({ cls := "java/lang/Object", name := "<init>", desc := "()V" } : Jvm.MethodName) object_method_1_code (1 : Nat) (Option.none : Option Jvm.ClassFile.FieldType), Jvm.Cond.code ({ cls := "com/example/linkstride/linkstride/lookup/ExchangeReleasePinLaw", name := "step", desc := "(Lcom/example/linkstride/linkstride/lookup/HttpRequests$Exchange;I[Z)V" } : Jvm.MethodName) method_2_code (4 : Nat) (Option.none : Option Jvm.ClassFile.FieldType), Jvm.Cond.code ({ cls := "com/example/linkstride/linkstride/lookup/HttpRequests$Exchange", name := "open", desc := "(Ljava/net/Socket;)V" } : Jvm.MethodName) prog_10_method_2_code (2 : Nat) (Option.none : Option Jvm.ClassFile.FieldType), Jvm.Cond.code ({ cls := "com/example/linkstride/linkstride/lookup/HttpRequests$Exchange", name := "release", desc := "()Z" } : Jvm.MethodName) prog_10_method_3_code (1 : Nat) (Option.some Jvm.ClassFile.FieldType.boolean), Jvm.Cond.code ({ cls := "com/example/linkstride/linkstride/lookup/HttpRequests$Exchange", name := "close", desc := "()V" } : Jvm.MethodName) prog_10_method_4_code (2 : Nat) (Option.none : Option Jvm.ClassFile.FieldType)]
set_option maxRecDepth 65536 in
theorem codes_eq : words1.filter isCode = codes1 := rfl
theorem w_codes : ∀ c ∈ words1.filter isCode, c.before args0 about1 = true := by
  rw [codes_eq]
  intro c hc
  simp only [codes1, List.mem_cons, List.not_mem_nil, or_false] at hc
  rcases hc with rfl | rfl | rfl | rfl | rfl | rfl | rfl
  · exact w_c0
  · exact w_c1
  · exact w_c2
  · exact w_c3
  · exact w_c4
  · exact w_c5
  · exact w_c6
set_option maxRecDepth 65536 in
theorem w_t1 : (words1.take 24).all (fun c => isCode c || c.before args0 about1) = true := by decide +kernel
set_option maxRecDepth 65536 in
theorem w_t2 : (words1.drop 24).all (fun c => isCode c || c.before args0 about1) = true := by decide +kernel
theorem w_tables : (allAtoms (Jvm.Cond.code x code maxLocals ret :: tables_1)).before args0 about1 = true := by
  rw [allAtoms_all]
  show words1.all (fun c => c.before args0 about1) = true
  refine all_split ?_ w_codes
  rw [← List.take_append_drop 24 words1, List.all_append, w_t1, w_t2]
  rfl
set_option maxRecDepth 65536 in
theorem w_case : (Jvm.Cond.and given_1 narrow_1).before args0 about1 = true := by decide +kernel
theorem w_applies : (headSpec (Jvm.Cond.code x code maxLocals ret :: tables_1) room_1).applies x e0.platform about1 = true :=
  (Spec.applies_iff w_frames).mpr ⟨w_running, w_runnable, w_alone, w_named, w_hears, w_ripe, w_room, w_tables⟩
theorem atStart : AtStart classFile x code maxLocals ret World_1 tables_1 room_1 Calls_1 rest_1 Pre_1 launch0 p0 e0 about1 theMethod args0 below0 :=
  ⟨lists_1, trivial, launch0.admits_env _ _ _, launch0.least_env, fairChoices_fair.cas, fairChoices_fair.clock, w_frames, w_args, w_heap, w_applies, trivial, trivial, w_case⟩
end start1
theorem witness_1 : WitnessClaimed_1 := ⟨start1.p0, start1.e0, start1.about1, start1.theMethod, start1.args0, start1.below0, start1.atStart⟩
end Jvm.Pilot.@@N@@
