import JvmDerived
import JvmDerived.Pilot.@@N@@Statement
import JvmDerived.Pilot.@@N@@Code
set_option linter.unusedVariables false
set_option linter.unusedSimpArgs false
namespace Jvm.RoadKit
open Sem ClassFile Op Lib Jvm.Stand Jvm.Free Jvm.LawKit
section New
variable {p : Program} {l : Launch} {e : Env} {R : Room} {s : State} {m : MethodId} {args : Array Value} {below : List Frame} {meth : Method} {c : Code} {T : State} {locs : List Loc} {cells slots : Nat}
theorem retI (X : Stand p l e R s m args below meth c T locs cells slots) (hx : p.tables.exec = Jvm.exec) {pc : Nat} {Ls : Array Slot} {z : Int32} {rest : List Value} (hret : meth.sig.returnType = some .int) (hd : decode c.code pc = .ok (.ireturn, 1)) {fs : List Frame}
    (hl : ∀ (f : JFrame) (acts : List Action), f.method = m → f.locked = none → f.entered = [] → (doReturn e (T.setTop f) acts (some (.int z))).1 = T.setFrames fs) : Steps p.tables e below (T.setTop (mkF m pc Ls (.int z :: rest))) (T.setFrames fs) := by
  have hm' : T.vm.method? m = some meth := X.method'
  have hn : narrow .int (.int z) = .int z := rfl
  show Steps p.tables e below (T.setTop { method := m, pc := pc, locals := Ls, stack := _ :: rest, locked := none }) _
  jvm_step X.here [X.here.top, hx, hd, hm', hret, hn]
  first | (intro acts; rw [hl _ acts rfl rfl rfl]) | rw [hl _ _ rfl rfl rfl]
  exact Steps.refl _
/-- a run from U comes to a state of which K holds -/
def Rch (p : Program) (e : Env) (below : List Frame) (K : State → Prop) (U : State) : Prop := ∃ s₂, Steps p.tables e below U s₂ ∧ K s₂
theorem Rch.go {K : State → Prop} {U U' : State} (h : ∀ t, Steps p.tables e below U' t → Steps p.tables e below U t) (k : Rch p e below K U') : Rch p e below K U := by
  obtain ⟨s₂, a, b⟩ := k; exact ⟨s₂, h _ a, b⟩
theorem Rch.to {K : State → Prop} {U U' : State} (h : Steps p.tables e below U U') (k : Rch p e below K U') : Rch p e below K U := by
  obtain ⟨s₂, a, b⟩ := k; exact ⟨s₂, h.trans a, b⟩
theorem Rch.then {K K' : State → Prop} {U : State} (h : Rch p e below K U) (f : ∀ V, K V → Rch p e below K' V) : Rch p e below K' U := by
  obtain ⟨s₂, a, b⟩ := h; exact Rch.to a (f _ b)
/-- the body is left: what it returned and what it leaves -/
def Fin (s : State) (below : List Frame) (Q : Option Value → Heap → List Loc → Prop) (k n : Nat) (s₂ : State) : Prop :=
  ∃ o, s₂.status = .running ∧ Ended s₂ below o ∧ ∃ v L, o = .returned v ∧ Q v s₂.heap L ∧ FrameEnd s o s₂ L k n
theorem Rch.fin {Q : Option Value → Heap → List Loc → Prop} {k n : Nat} {U : State} {h : Heap} (X : Stand p l e R s m args below meth c T locs cells slots) (hlk : meth.locks = false) {v : Option Value} (hv : meth.sig.returnType = none → v = none) (eT : T.heap = h) (hc : cells ≤ k) (hn : slots ≤ n)
    (st : ∀ fs, (∀ (f : JFrame) (acts : List Action), f.method = m → f.locked = none → f.entered = [] → (doReturn e (T.setTop f) acts v).1 = T.setFrames fs) → Steps p.tables e below U (T.setFrames fs)) (hQ : Q v h locs) : Rch p e below (Fin s below Q k n) U := by
  obtain ⟨fs, hr, hrun, hended, hW, hsame⟩ := X.leave hv hlk
  refine ⟨_, st fs hr, _, hrun, hended, v, locs, rfl, ?_, ⟨_, rfl⟩, hW, hsame.mono hc hn⟩
  show Q v T.heap locs
  rw [eT]; exact hQ
theorem Rch.body {Q : Option Value → Heap → List Loc → Prop} {k n : Nat} {U U' : State} (h : ∀ t, Steps p.tables e below U' t → Steps p.tables e below U t) (H : Rch p e below (Fin s below Q k n) U') :
    ∃ s₂ o, Steps p.tables e below U s₂ ∧ s₂.status = .running ∧ Ended s₂ below o ∧ (∃ v L, o = .returned v ∧ Q v s₂.heap L ∧ FrameEnd s o s₂ L k n) := by
  obtain ⟨s₂, a, o, b, c, d⟩ := H; exact ⟨s₂, o, h _ a, b, c, d⟩
/-- the same, said with the wide end (a String constant may have been interned) -/
def FinW (s : State) (below : List Frame) (Q : Option Value → Heap → List Loc → Prop) (k n : Nat) (s₂ : State) : Prop :=
  ∃ o, s₂.status = .running ∧ Ended s₂ below o ∧ ∃ v L, o = .returned v ∧ Q v s₂.heap L ∧ ReturnedEndW s o s₂ L k n
theorem Rch.finW {Q : Option Value → Heap → List Loc → Prop} {k n : Nat} {U : State} {h : Heap} {vm₁ : Vm} {n1 : Nat} (X : Stand p l e R (s.setVm vm₁) m args below meth c T locs cells slots) (hlk : meth.locks = false) {v : Option Value} (hv : meth.sig.returnType = none → v = none) (eT : T.heap = h) (hc : cells ≤ k) (hn : slots ≤ n)
    (hS : s.Since vm₁ n1) (hk : n1 ≤ h.size) (st : ∀ fs, (∀ (f : JFrame) (acts : List Action), f.method = m → f.locked = none → f.entered = [] → (doReturn e (T.setTop f) acts v).1 = T.setFrames fs) → Steps p.tables e below U (T.setFrames fs)) (hQ : Q v h locs) : Rch p e below (FinW s below Q k n) U := by
  obtain ⟨fs, hr, hrun, hended, hE⟩ := X.leaveW hS (by rw [eT]; exact hk) hv hlk
  refine ⟨_, st fs hr, _, hrun, hended, v, locs, rfl, ?_, hE.1, hE.2.1, hE.2.2.1, hE.2.2.2.mono hc hn⟩
  show Q v T.heap locs
  rw [eT]; exact hQ
theorem Rch.bodyW {Q : Option Value → Heap → List Loc → Prop} {k n : Nat} {U U' : State} (h : ∀ t, Steps p.tables e below U' t → Steps p.tables e below U t) (H : Rch p e below (FinW s below Q k n) U') :
    ∃ s₂ o, Steps p.tables e below U s₂ ∧ s₂.status = .running ∧ Ended s₂ below o ∧ (∃ v L, o = .returned v ∧ Q v s₂.heap L ∧ ReturnedEndW s o s₂ L k n) := by
  obtain ⟨s₂, a, o, b, c, d⟩ := H; exact ⟨s₂, o, h _ a, b, c, d⟩
theorem nar_1 : nar .boolean 1 = 1 := rfl
theorem nar_0 : nar .boolean 0 = 0 := rfl
end New
end Jvm.RoadKit
namespace Jvm.Pilot.@@N@@
open Jvm Jvm.ClassFile Sem Op Lib Jvm.Free Jvm.Stand Jvm.LawKit Jvm.RoadKit Bundle Jvm.Pilot.@@N@@.Jvm.D
theorem wi {Z : State} {a0 : Array Value} (hw : ∀ d ∈ tables_1, d.before a0 Z = true) (i : Nat) {d : Jvm.Cond} (h : tables_1[i]? = some d) : d.before a0 Z = true := hw d (List.mem_of_getElem? h)
theorem own_byte (x : Int32) : nar .byte x.toInt8.toInt32 = x.toInt8.toInt32 := by
  show x.toInt8.toInt32.toInt8.toInt32 = x.toInt8.toInt32
  simp
theorem own_n4 (p : Int32) : (p &&& (3 : Int32)) = 0 ∨ (p &&& (3 : Int32)) = 1 ∨ (p &&& (3 : Int32)) = 2 ∨ (p &&& (3 : Int32)) = 3 := by
  have e : (p &&& (3 : Int32)).toInt = p.toInt % 4 := c_mask p 3 2 (by decide) (by decide)
  have t (k : Int32) (h : (p &&& (3 : Int32)).toInt = k.toInt) : (p &&& (3 : Int32)) = k := Int32.toInt_inj.mp h
  rcases (by omega : (p &&& (3 : Int32)).toInt = 0 ∨ (p &&& (3 : Int32)).toInt = 1 ∨ (p &&& (3 : Int32)).toInt = 2 ∨ (p &&& (3 : Int32)).toInt = 3) with h | h | h | h
  · exact Or.inl (t 0 h)
  · exact Or.inr (Or.inl (t 1 h))
  · exact Or.inr (Or.inr (Or.inl (t 2 h)))
  · exact Or.inr (Or.inr (Or.inr (t 3 h)))
theorem d19_0 : decode jdk_31_method_11_code 0 = .ok (.aload_n 0, 1) := by decide +kernel
theorem d19_1 : decode jdk_31_method_11_code 1 = .ok (.ifnonnull 12, 3) := by decide +kernel
theorem d19_4 : decode jdk_31_method_11_code 4 = .ok (.new 84, 3) := by decide +kernel
theorem d19_7 : decode jdk_31_method_11_code 7 = .ok (.dup, 1) := by decide +kernel
theorem d19_8 : decode jdk_31_method_11_code 8 = .ok (.aload_n 1, 1) := by decide +kernel
theorem d19_9 : decode jdk_31_method_11_code 9 = .ok (.invokespecial 87, 3) := by decide +kernel
theorem d19_12 : decode jdk_31_method_11_code 12 = .ok (.athrow, 1) := by decide +kernel
theorem d19_13 : decode jdk_31_method_11_code 13 = .ok (.aload_n 0, 1) := by decide +kernel
theorem d19_14 : decode jdk_31_method_11_code 14 = .ok (.areturn, 1) := by decide +kernel
theorem pn_java_util_Objects : plainName "java/util/Objects" = true := by first | (simp [plainName, overriddenIn]; done) | decide +kernel
theorem ef_rmNN (m : MethodId) (a1 : Addr) (a2 : Addr) : entryFrame m #[(.ref a1), (.ref a2)] 2 = mkF m 0 #[.val (.ref a1), .val (.ref a2)] [] := by first | (simp [entryFrame, mkF, argsToLocals, Value.category]; done) | rfl
def Q_rmNN (Z : State) (a1 : Addr) (a2 : Addr) (h0 : Heap) (n0 : Nat) (v : Option Value) (h : Heap) (L : List Loc) : Prop := v = some (.ref a1) ∧ Fr n0 L ∧ h = h0
set_option maxRecDepth 65536 in
set_option maxHeartbeats 40000000 in
theorem rmNN (l : Launch) (Z : State) (a0 : Array Value) (hw : ∀ d ∈ tables_1, d.before a0 Z = true) (ws : List Jvm.Cond) (a1 : Addr) (a2 : Addr) (h0 : Heap) (n0 : Nat) (Z0 : n0 ≤ h0.size)  :
    MetFree l (⟨"java/util/Objects", "requireNonNull", "(Ljava/lang/Object;Ljava/lang/String;)Ljava/lang/Object;"⟩ : MethodName) (head1 (Jvm.Cond.code (⟨"java/util/Objects", "requireNonNull", "(Ljava/lang/Object;Ljava/lang/String;)Ljava/lang/Object;"⟩ : MethodName) jdk_31_method_11_code 2 (some (.object "java/lang/Object")) :: ws) ({ frames := 0, cells := 0, slots := 0, locals := 0 } : Room)) (fun a U => a = #[(.ref a1), (.ref a2)] ∧ Z.Warmed39 U.vm ∧ U.heap = h0) (fun _ _ _ _ _ => True) (fun _ U o U' => ∃ v L, o = .returned v ∧ Q_rmNN Z a1 a2 h0 n0 v U'.heap L ∧ FrameEnd U o U' L ({ frames := 0, cells := 0, slots := 0, locals := 0 } : Room).cells ({ frames := 0, cells := 0, slots := 0, locals := 0 } : Room).slots) := by
  refine MetFree.of_bodySF (plainFor_of_name pn_java_util_Objects) hisR ?_
  intro p e s m args below meth c s₁ Bd hml0 hP hK
  obtain ⟨rfl, hZ, hh⟩ := hP
  have hx := Bd.exec
  have hby := Bd.bytes
  have hml : c.maxLocals = 2 := hml0
  have hown : s.vm.findClass "java/util/Objects" = some m.cls := findClass_of_methodNamed Bd.named
  have hnm := (name_of_methodNamed Bd.named Bd.method).1
  have hret := Bd.returns
  have hlk : meth.locks = false := BodyLoose.notSynchronized Bd
  have X0 : Stand p l e ({ frames := 0, cells := 0, slots := 0, locals := 0 } : Room) s m #[(.ref a1), (.ref a2)] below meth c s₁ [] 0 0 := Stand.of_body Bd
  have e0 : s₁.heap = h0 := by rw [← hh, Bd.state]; rfl
  have N0 := Fr.nil n0
  refine Rch.body (Q := Q_rmNN Z a1 a2 h0 n0) (U' := s₁.setTop (mkF m 0 #[.val (.ref a1), .val (.ref a2)] [])) (fun t k => castTop (ef_rmNN m a1 a2) k) ?_
  refine Rch.go (U' := s₁.setTop (mkF m 1 #[.val (.ref a1), .val (.ref a2)] [(.ref a1)])) (fun _ k => XS.aloadN X0.here hx rfl (hb hby d19_0) rfl rfl k) ?_
  refine Rch.go (U' := s₁.setTop (mkF m 13 #[.val (.ref a1), .val (.ref a2)] [])) (fun _ k => XS.ifnonnullYes X0.here hx rfl (pc0 := 1) (pc' := 13) rfl (hb hby d19_1) rfl (by decide) (by decide) k) ?_
  refine Rch.go (U' := s₁.setTop (mkF m 14 #[.val (.ref a1), .val (.ref a2)] [(.ref a1)])) (fun _ k => XS.aloadN X0.here hx rfl (hb hby d19_13) rfl rfl k) ?_
  refine Rch.fin X0 hlk (v := some (.ref a1)) (fun h => by rw [hret] at h; cases h) e0 (by decide) (by decide) (fun fs hr => retOut X0 hx hret rfl (Or.inr (Or.inr (Or.inr (Or.inr ⟨rfl, rfl, rfl⟩)))) (hb hby d19_14) hr) ?_
  exact ⟨rfl, N0, rfl⟩
theorem d33_0 : decode prog_5_method_1_code 0 = .ok (.aload_n 0, 1) := by decide +kernel
theorem d33_1 : decode prog_5_method_1_code 1 = .ok (.invokespecial 1, 3) := by decide +kernel
theorem d33_4 : decode prog_5_method_1_code 4 = .ok (.aload_n 0, 1) := by decide +kernel
theorem d33_5 : decode prog_5_method_1_code 5 = .ok (.aload_n 1, 1) := by decide +kernel
theorem d33_6 : decode prog_5_method_1_code 6 = .ok (.putfield 7, 3) := by decide +kernel
theorem d33_9 : decode prog_5_method_1_code 9 = .ok (.return_, 1) := by decide +kernel
theorem pd_2 : parseMethodDescriptor "()V" = some ⟨[], none⟩ := by decide +kernel
theorem pn_com_example_cellmark_cellmark_model_ByteString : plainName "com/example/cellmark/cellmark/model/ByteString" = true := by first | (simp [plainName, overriddenIn]; done) | decide +kernel
theorem ef_rmNew (m : MethodId) (a1 : Addr) (a2 : Addr) : entryFrame m #[(.ref a1), (.ref a2)] 2 = mkF m 0 #[.val (.ref a1), .val (.ref a2)] [] := by first | (simp [entryFrame, mkF, argsToLocals, Value.category]; done) | rfl
def Q_rmNew (Z : State) (a1 : Addr) (a2 : Addr) (h0 : Heap) (n0 : Nat) (v : Option Value) (h : Heap) (L : List Loc) : Prop := v = none ∧ Fr n0 L ∧ Keep h0 h [a1] ∧ Fld Z h a1 "com/example/cellmark/cellmark/model/ByteString" "bytes" "[B" (.ref a2)
set_option maxRecDepth 65536 in
set_option maxHeartbeats 40000000 in
theorem rmNew (l : Launch) (Z : State) (a0 : Array Value) (hw : ∀ d ∈ tables_1, d.before a0 Z = true) (ws : List Jvm.Cond) (a1 : Addr) (a2 : Addr) (h0 : Heap) (n0 : Nat) (Z0 : n0 ≤ h0.size) (E_a1 : Exa Z h0 a1 "com/example/cellmark/cellmark/model/ByteString") (F_a1_bytes : Fld Z h0 a1 "com/example/cellmark/cellmark/model/ByteString" "bytes" "[B" .null) (g_a1 : n0 ≤ a1) :
    MetFree l (⟨"com/example/cellmark/cellmark/model/ByteString", "<init>", "([B)V"⟩ : MethodName) (head1 (Jvm.Cond.code (⟨"com/example/cellmark/cellmark/model/ByteString", "<init>", "([B)V"⟩ : MethodName) prog_5_method_1_code 2 none :: ws) ({ frames := 1, cells := 0, slots := 0, locals := 12 } : Room)) (fun a U => a = #[(.ref a1), (.ref a2)] ∧ Z.Warmed39 U.vm ∧ U.heap = h0) (fun _ _ _ _ _ => True) (fun _ U o U' => ∃ v L, o = .returned v ∧ Q_rmNew Z a1 a2 h0 n0 v U'.heap L ∧ FrameEnd U o U' L ({ frames := 1, cells := 0, slots := 0, locals := 12 } : Room).cells ({ frames := 1, cells := 0, slots := 0, locals := 12 } : Room).slots) := by
  refine MetFree.of_bodySF (plainFor_of_name pn_com_example_cellmark_cellmark_model_ByteString) hisR ?_
  intro p e s m args below meth c s₁ Bd hml0 hP hK
  obtain ⟨rfl, hZ, hh⟩ := hP
  have hx := Bd.exec
  have hby := Bd.bytes
  have hml : c.maxLocals = 2 := hml0
  have hown : s.vm.findClass "com/example/cellmark/cellmark/model/ByteString" = some m.cls := findClass_of_methodNamed Bd.named
  have hnm := (name_of_methodNamed Bd.named Bd.method).1
  have hret := Bd.returns
  have hlk : meth.locks = false := BodyLoose.notSynchronized Bd
  have X0 : Stand p l e ({ frames := 1, cells := 0, slots := 0, locals := 12 } : Room) s m #[(.ref a1), (.ref a2)] below meth c s₁ [] 0 0 := Stand.of_body Bd
  have e0 : s₁.heap = h0 := by rw [← hh, Bd.state]; rfl
  have N0 := Fr.nil n0
  have K0 := Keep.refl h0 [a1]
  refine Rch.body (Q := Q_rmNew Z a1 a2 h0 n0) (U' := s₁.setTop (mkF m 0 #[.val (.ref a1), .val (.ref a2)] [])) (fun t k => castTop (ef_rmNew m a1 a2) k) ?_
  refine Rch.go (U' := s₁.setTop (mkF m 1 #[.val (.ref a1), .val (.ref a2)] [(.ref a1)])) (fun _ k => XS.aloadN X0.here hx rfl (hb hby d33_0) rfl rfl k) ?_
  obtain ⟨T1, X1, e1, st1⟩ := initO X0 hx hZ hown (wi hw 34 rfl) (wi hw 35 rfl) (wi hw 36 rfl) e0 (g := (mkF m 1 #[.val (.ref a1), .val (.ref a2)] [(.ref a1)])) rfl (by rw [hml]; rfl) rfl (hb hby d33_1) (by decide) (W := 0) (by show 2 * 0 + _ ≤ _; exact Nat.le_of_eq rfl) (by decide)
  refine Rch.go (U' := T1.setTop (mkF m 4 #[.val (.ref a1), .val (.ref a2)] [])) st1 ?_
  refine Rch.go (U' := T1.setTop (mkF m 5 #[.val (.ref a1), .val (.ref a2)] [(.ref a1)])) (fun _ k => XS.aloadN X1.here hx rfl (hb hby d33_4) rfl rfl k) ?_
  refine Rch.go (U' := T1.setTop (mkF m 6 #[.val (.ref a1), .val (.ref a2)] [(.ref a2), (.ref a1)])) (fun _ k => XS.aloadN X1.here hx rfl (hb hby d33_5) rfl rfl k) ?_
  obtain ⟨T2, h2, X2, e2, W2, st2⟩ := putF X1 hx hZ hown (host := "") (Or.inl (wi hw 37 rfl)) Via.refl e1 F_a1_bytes E_a1 (Or.inr ⟨(wi hw 38 rfl), rfl, hnm⟩) (wi hw 21 rfl) (ty := (.array .byte)) (by decide) rfl rfl (g := (mkF m 6 #[.val (.ref a1), .val (.ref a2)] [(.ref a2), (.ref a1)])) rfl rfl (hb hby d33_6)
  have F2 := F_a1_bytes.same W2
  have f3 := E_a1.wr W2
  have N2 := Fr.snoc X2 N0 g_a1
  have z4 := Nat.le_trans Z0 (Keep.of_wr W2).1
  have K5 := K0.wr W2 (Or.inl (List.mem_of_getElem? (i := 0) rfl))
  refine Rch.go (U' := T2.setTop (mkF m 9 #[.val (.ref a1), .val (.ref a2)] [])) st2 ?_
  refine Rch.fin X2 hlk (v := none) (fun _ => rfl) e2 (by decide) (by decide) (fun fs hr => X2.returnOut hx hret (hb hby d33_9) hr) ?_
  exact ⟨rfl, N2, K5, (by first | exact F2 | (simp only [nar_1, nar_0, ↓reduceIte]; exact F2) | (simp [nar_1, nar_0, ↓reduceIte]; exact F2))⟩
theorem d3_0 : decode method_3_code 0 = .ok (.iload_n 0, 1) := by decide +kernel
theorem d3_1 : decode method_3_code 1 = .ok (.ifCond .ne 7, 3) := by decide +kernel
theorem d3_4 : decode method_3_code 4 = .ok (.iconst 0, 1) := by decide +kernel
theorem d3_5 : decode method_3_code 5 = .ok (.newarray .byte, 2) := by decide +kernel
theorem d3_7 : decode method_3_code 7 = .ok (.areturn, 1) := by decide +kernel
theorem d3_8 : decode method_3_code 8 = .ok (.iload_n 0, 1) := by decide +kernel
theorem d3_9 : decode method_3_code 9 = .ok (.iconst 1, 1) := by decide +kernel
theorem d3_10 : decode method_3_code 10 = .ok (.if_icmp .ne 11, 3) := by decide +kernel
theorem d3_13 : decode method_3_code 13 = .ok (.iconst 1, 1) := by decide +kernel
theorem d3_14 : decode method_3_code 14 = .ok (.newarray .byte, 2) := by decide +kernel
theorem d3_16 : decode method_3_code 16 = .ok (.dup, 1) := by decide +kernel
theorem d3_17 : decode method_3_code 17 = .ok (.iconst 0, 1) := by decide +kernel
theorem d3_18 : decode method_3_code 18 = .ok (.iload_n 1, 1) := by decide +kernel
theorem d3_19 : decode method_3_code 19 = .ok (.bastore, 1) := by decide +kernel
theorem d3_20 : decode method_3_code 20 = .ok (.areturn, 1) := by decide +kernel
theorem d3_21 : decode method_3_code 21 = .ok (.iload_n 0, 1) := by decide +kernel
theorem d3_22 : decode method_3_code 22 = .ok (.iconst 2, 1) := by decide +kernel
theorem d3_23 : decode method_3_code 23 = .ok (.if_icmp .ne 15, 3) := by decide +kernel
theorem d3_26 : decode method_3_code 26 = .ok (.iconst 2, 1) := by decide +kernel
theorem d3_27 : decode method_3_code 27 = .ok (.newarray .byte, 2) := by decide +kernel
theorem d3_29 : decode method_3_code 29 = .ok (.dup, 1) := by decide +kernel
theorem d3_30 : decode method_3_code 30 = .ok (.iconst 0, 1) := by decide +kernel
theorem d3_31 : decode method_3_code 31 = .ok (.iload_n 1, 1) := by decide +kernel
theorem d3_32 : decode method_3_code 32 = .ok (.bastore, 1) := by decide +kernel
theorem d3_33 : decode method_3_code 33 = .ok (.dup, 1) := by decide +kernel
theorem d3_34 : decode method_3_code 34 = .ok (.iconst 1, 1) := by decide +kernel
theorem d3_35 : decode method_3_code 35 = .ok (.iload_n 2, 1) := by decide +kernel
theorem d3_36 : decode method_3_code 36 = .ok (.bastore, 1) := by decide +kernel
theorem d3_37 : decode method_3_code 37 = .ok (.areturn, 1) := by decide +kernel
theorem d3_38 : decode method_3_code 38 = .ok (.iconst 3, 1) := by decide +kernel
theorem d3_39 : decode method_3_code 39 = .ok (.newarray .byte, 2) := by decide +kernel
theorem d3_41 : decode method_3_code 41 = .ok (.dup, 1) := by decide +kernel
theorem d3_42 : decode method_3_code 42 = .ok (.iconst 0, 1) := by decide +kernel
theorem d3_43 : decode method_3_code 43 = .ok (.iload_n 1, 1) := by decide +kernel
theorem d3_44 : decode method_3_code 44 = .ok (.bastore, 1) := by decide +kernel
theorem d3_45 : decode method_3_code 45 = .ok (.dup, 1) := by decide +kernel
theorem d3_46 : decode method_3_code 46 = .ok (.iconst 1, 1) := by decide +kernel
theorem d3_47 : decode method_3_code 47 = .ok (.iload_n 2, 1) := by decide +kernel
theorem d3_48 : decode method_3_code 48 = .ok (.bastore, 1) := by decide +kernel
theorem d3_49 : decode method_3_code 49 = .ok (.dup, 1) := by decide +kernel
theorem d3_50 : decode method_3_code 50 = .ok (.iconst 2, 1) := by decide +kernel
theorem d3_51 : decode method_3_code 51 = .ok (.iload_n 3, 1) := by decide +kernel
theorem d3_52 : decode method_3_code 52 = .ok (.bastore, 1) := by decide +kernel
theorem d3_53 : decode method_3_code 53 = .ok (.areturn, 1) := by decide +kernel
theorem pn_com_example_cellmark_cellmark_model_ByteStringCopyOfPinLaw : plainName "com/example/cellmark/cellmark/model/ByteStringCopyOfPinLaw" = true := by first | (simp [plainName, overriddenIn]; done) | decide +kernel
theorem ef_rmM0 (m : MethodId) (x0 : Int32) (x1 : Int32) (x2 : Int32) : entryFrame m #[(.int (0 : Int32)), (.int x0), (.int x1), (.int x2)] 4 = mkF m 0 #[.val (.int (0 : Int32)), .val (.int x0), .val (.int x1), .val (.int x2)] [] := by first | (simp [entryFrame, mkF, argsToLocals, Value.category]; done) | rfl
def Q_rmM0 (Z : State) (x0 : Int32) (x1 : Int32) (x2 : Int32) (h0 : Heap) (n0 : Nat) (v : Option Value) (h : Heap) (L : List Loc) : Prop := ∃ (b : Addr) (kb : ClassId), v = some (.ref b) ∧ Fr n0 L ∧ Keep h0 h [] ∧ n0 ≤ b ∧ h0.size ≤ b ∧ Exa Z h b "[B" ∧ Arv Z h b kb .byte (0 : Int32) [] (.int (0 : Int32))
set_option maxRecDepth 65536 in
set_option maxHeartbeats 40000000 in
theorem rmM0 (l : Launch) (Z : State) (a0 : Array Value) (hw : ∀ d ∈ tables_1, d.before a0 Z = true) (ws : List Jvm.Cond) (x0 : Int32) (x1 : Int32) (x2 : Int32) (h0 : Heap) (n0 : Nat) (Z0 : n0 ≤ h0.size) (hx0 : nar .byte x0 = x0) (hx1 : nar .byte x1 = x1) (hx2 : nar .byte x2 = x2) :
    MetFree l (⟨"com/example/cellmark/cellmark/model/ByteStringCopyOfPinLaw", "make", "(IBBB)[B"⟩ : MethodName) (head1 (Jvm.Cond.code (⟨"com/example/cellmark/cellmark/model/ByteStringCopyOfPinLaw", "make", "(IBBB)[B"⟩ : MethodName) method_3_code 4 (some (.array .byte)) :: ws) ({ frames := 0, cells := 1, slots := 0, locals := 0 } : Room)) (fun a U => a = #[(.int (0 : Int32)), (.int x0), (.int x1), (.int x2)] ∧ Z.Warmed39 U.vm ∧ U.heap = h0) (fun _ _ _ _ _ => True) (fun _ U o U' => ∃ v L, o = .returned v ∧ Q_rmM0 Z x0 x1 x2 h0 n0 v U'.heap L ∧ FrameEnd U o U' L ({ frames := 0, cells := 1, slots := 0, locals := 0 } : Room).cells ({ frames := 0, cells := 1, slots := 0, locals := 0 } : Room).slots) := by
  refine MetFree.of_bodySF (plainFor_of_name pn_com_example_cellmark_cellmark_model_ByteStringCopyOfPinLaw) hisR ?_
  intro p e s m args below meth c s₁ Bd hml0 hP hK
  obtain ⟨rfl, hZ, hh⟩ := hP
  have hx := Bd.exec
  have hby := Bd.bytes
  have hml : c.maxLocals = 4 := hml0
  have hown : s.vm.findClass "com/example/cellmark/cellmark/model/ByteStringCopyOfPinLaw" = some m.cls := findClass_of_methodNamed Bd.named
  have hnm := (name_of_methodNamed Bd.named Bd.method).1
  have hret := Bd.returns
  have hlk : meth.locks = false := BodyLoose.notSynchronized Bd
  have X0 : Stand p l e ({ frames := 0, cells := 1, slots := 0, locals := 0 } : Room) s m #[(.int (0 : Int32)), (.int x0), (.int x1), (.int x2)] below meth c s₁ [] 0 0 := Stand.of_body Bd
  have e0 : s₁.heap = h0 := by rw [← hh, Bd.state]; rfl
  have N0 := Fr.nil n0
  have K0 := Keep.refl h0 []
  refine Rch.body (Q := Q_rmM0 Z x0 x1 x2 h0 n0) (U' := s₁.setTop (mkF m 0 #[.val (.int (0 : Int32)), .val (.int x0), .val (.int x1), .val (.int x2)] [])) (fun t k => castTop (ef_rmM0 m x0 x1 x2) k) ?_
  refine Rch.go (U' := s₁.setTop (mkF m 1 #[.val (.int (0 : Int32)), .val (.int x0), .val (.int x1), .val (.int x2)] [(.int (0 : Int32))])) (fun _ k => XS.iloadN X0.here hx rfl (hb hby d3_0) rfl  k) ?_
  have br6 : (0 : Int32) = (0 : Int32) := (by decide)
  refine Rch.go (U' := s₁.setTop (mkF m 4 #[.val (.int (0 : Int32)), .val (.int x0), .val (.int x1), .val (.int x2)] [])) (fun _ k => XS.ifNo X0.here hx rfl (hb hby d3_1) rfl (XT.i0_ne_f br6) k) ?_
  refine Rch.go (U' := s₁.setTop (mkF m 5 #[.val (.int (0 : Int32)), .val (.int x0), .val (.int x1), .val (.int x2)] [(.int (0 : Int32))])) (fun _ k => XS.iconst X0.here hx rfl (hb hby d3_4) k) ?_
  obtain ⟨T7, h7, k7, X7, e7, E7, A7, Ex7, st7⟩ := newPE X0 hx hZ (wi hw 4 rfl) e0 (g := (mkF m 5 #[.val (.int (0 : Int32)), .val (.int x0), .val (.int x1), .val (.int x2)] [(.int (0 : Int32))])) rfl (hb hby d3_5) rfl (by decide) (cap := 0) (by decide) (by decide) (by decide) (by decide) (ad := "[B") (by decide)
  obtain ⟨b7, g7⟩ : ∃ z, z = h0.size := ⟨_, rfl⟩
  rw [← g7] at A7 Ex7 st7
  have n0b7 : n0 ≤ b7 := Nat.le_trans Z0 (Nat.le_of_eq g7.symm)
  have szb7 : h0.size ≤ b7 := Nat.le_trans K0.1 (Nat.le_of_eq g7.symm)
  have z8 := Nat.le_trans Z0 E7.1
  have K9 := K0.ext E7
  have V7 : Arv Z h7 b7 k7 .byte (0 : Int32) [] (.int (0 : Int32)) := Arv.new A7 (by decide)
  refine Rch.go (U' := T7.setTop (mkF m 7 #[.val (.int (0 : Int32)), .val (.int x0), .val (.int x1), .val (.int x2)] [(.ref b7)])) st7 ?_
  refine Rch.fin X7 hlk (v := some (.ref b7)) (fun h => by rw [hret] at h; cases h) e7 (by decide) (by decide) (fun fs hr => retOut X7 hx hret rfl (Or.inr (Or.inr (Or.inr (Or.inr ⟨rfl, rfl, rfl⟩)))) (hb hby d3_7) hr) ?_
  exact ⟨b7, k7, rfl, N0, K9, n0b7, szb7, Ex7, V7⟩
theorem d8_0 : decode prog_5_method_2_code 0 = .ok (.aload_n 0, 1) := by decide +kernel
theorem d8_1 : decode prog_5_method_2_code 1 = .ok (.ldc 13, 2) := by decide +kernel
theorem d8_3 : decode prog_5_method_2_code 3 = .ok (.invokestatic 14, 3) := by decide +kernel
theorem d8_6 : decode prog_5_method_2_code 6 = .ok (.pop, 1) := by decide +kernel
theorem d8_7 : decode prog_5_method_2_code 7 = .ok (.new 8, 3) := by decide +kernel
theorem d8_10 : decode prog_5_method_2_code 10 = .ok (.dup, 1) := by decide +kernel
theorem d8_11 : decode prog_5_method_2_code 11 = .ok (.aload_n 0, 1) := by decide +kernel
theorem d8_12 : decode prog_5_method_2_code 12 = .ok (.invokevirtual 20, 3) := by decide +kernel
theorem d8_15 : decode prog_5_method_2_code 15 = .ok (.checkcast 21, 3) := by decide +kernel
theorem d8_18 : decode prog_5_method_2_code 18 = .ok (.invokespecial 25, 3) := by decide +kernel
theorem d8_21 : decode prog_5_method_2_code 21 = .ok (.areturn, 1) := by decide +kernel
theorem pd_5 : parseMethodDescriptor "(Ljava/lang/Object;Ljava/lang/String;)Ljava/lang/Object;" = some ⟨[(.object "java/lang/Object"), (.object "java/lang/String")], some (.object "java/lang/Object")⟩ := by decide +kernel
theorem pd_6 : parseMethodDescriptor "()Ljava/lang/Object;" = some ⟨[], some (.object "java/lang/Object")⟩ := by decide +kernel
theorem pd_7 : parseMethodDescriptor "([B)V" = some ⟨[(.array .byte)], none⟩ := by decide +kernel
theorem ef_rmC0 (m : MethodId) (a1 : Addr) : entryFrame m #[(.ref a1)] 1 = mkF m 0 #[.val (.ref a1)] [] := by first | (simp [entryFrame, mkF, argsToLocals, Value.category]; done) | rfl
def Q_rmC0 (Z : State) (a1 : Addr) (k1 : ClassId) (h0 : Heap) (n0 : Nat) (v : Option Value) (h : Heap) (L : List Loc) : Prop := ∃ (b t : Addr), v = some (.ref b) ∧ Fr n0 L ∧ Keep h0 h [] ∧ n0 ≤ b ∧ n0 ≤ t ∧ h0.size ≤ b ∧ h0.size ≤ t ∧ Exa Z h b "com/example/cellmark/cellmark/model/ByteString" ∧ Fld Z h b "com/example/cellmark/cellmark/model/ByteString" "bytes" "[B" (.ref t) ∧ Exa Z h t "[B" ∧ Arv Z h t k1 .byte (0 : Int32) [] (.int (0 : Int32))
set_option maxRecDepth 65536 in
set_option maxHeartbeats 40000000 in
theorem rmC0 (l : Launch) (Z : State) (a0 : Array Value) (hw : ∀ d ∈ tables_1, d.before a0 Z = true) (ws : List Jvm.Cond) (a1 : Addr) (k1 : ClassId) (h0 : Heap) (n0 : Nat) (Z0 : n0 ≤ h0.size) (E_a1 : Exa Z h0 a1 "[B") (V_a1 : Arv Z h0 a1 k1 .byte (0 : Int32) [] (.int (0 : Int32))) :
    MetFree l (⟨"com/example/cellmark/cellmark/model/ByteString", "copyOf", "([B)Lcom/example/cellmark/cellmark/model/ByteString;"⟩ : MethodName) (head1 (Jvm.Cond.code (⟨"com/example/cellmark/cellmark/model/ByteString", "copyOf", "([B)Lcom/example/cellmark/cellmark/model/ByteString;"⟩ : MethodName) prog_5_method_2_code 1 (some (.object "com/example/cellmark/cellmark/model/ByteString")) :: ws) ({ frames := 2, cells := 4, slots := 25, locals := 26 } : Room)) (fun a U => a = #[(.ref a1)] ∧ Z.Warmed39 U.vm ∧ U.heap = h0) (fun _ _ _ _ _ => True) (fun _ U o U' => ∃ v L, o = .returned v ∧ Q_rmC0 Z a1 k1 h0 n0 v U'.heap L ∧ ReturnedEndW U o U' L ({ frames := 2, cells := 4, slots := 25, locals := 26 } : Room).cells ({ frames := 2, cells := 4, slots := 25, locals := 26 } : Room).slots) := by
  refine MetFree.of_bodySF (plainFor_of_name pn_com_example_cellmark_cellmark_model_ByteString) hisR ?_
  intro p e s m args below meth c s₁ Bd hml0 hP hK
  obtain ⟨rfl, hZ, hh⟩ := hP
  have hx := Bd.exec
  have hby := Bd.bytes
  have hml : c.maxLocals = 1 := hml0
  have hown : s.vm.findClass "com/example/cellmark/cellmark/model/ByteString" = some m.cls := findClass_of_methodNamed Bd.named
  have hnm := (name_of_methodNamed Bd.named Bd.method).1
  have hret := Bd.returns
  have hlk : meth.locks = false := BodyLoose.notSynchronized Bd
  have X0 : Stand p l e ({ frames := 2, cells := 4, slots := 25, locals := 26 } : Room) s m #[(.ref a1)] below meth c s₁ [] 0 0 := Stand.of_body Bd
  have e0 : s₁.heap = h0 := by rw [← hh, Bd.state]; rfl
  have N0 := Fr.nil n0
  have K0 := Keep.refl h0 []
  have hS0 : s.Since s.vm 0 := (State.WarmedH.refl s).since 0
  have hwS : ∀ d ∈ Bundle.stringAtoms, d.before a0 Z = true := fun d hd => hw d ((by decide +kernel : ∀ d ∈ Bundle.stringAtoms, d ∈ tables_1) d hd)
  have X0 : Stand p l e ({ frames := 2, cells := 4, slots := 25, locals := 26 } : Room) (s.setVm s.vm) m #[(.ref a1)] below meth c s₁ [] 0 0 := X0
  refine Rch.bodyW (Q := Q_rmC0 Z a1 k1 h0 n0) (U' := s₁.setTop (mkF m 0 #[.val (.ref a1)] [])) (fun t k => castTop (ef_rmC0 m a1) k) ?_
  refine Rch.go (U' := s₁.setTop (mkF m 1 #[.val (.ref a1)] [(.ref a1)])) (fun _ k => XS.aloadN X0.here hx rfl (hb hby d8_0) rfl rfl k) ?_
  obtain ⟨b10, T10, h10, k10, X10, e10, E10, hS10, hk10, hZ, hown, st10⟩ := ldcS X0 hx hZ hown (wi hw 9 rfl) hwS e0 hS0 (Nat.zero_le _) (g := (mkF m 1 #[.val (.ref a1)] [(.ref a1)])) rfl (hb hby d8_1) (n := 20) (by decide) (by decide) (by decide) (by decide)
  have f11 := V_a1.ext E10
  have f12 := E_a1.ext E10
  have z13 := Nat.le_trans Z0 E10.1
  have K14 := K0.ext E10
  refine Rch.go (U' := T10.setTop (mkF m 3 #[.val (.ref a1)] [(.ref b10), (.ref a1)])) st10 ?_
  obtain ⟨_, _, ⟨T15, L15, k15, n15⟩, -, X15, ⟨Lc15, hQ15, l15, y15, z15⟩, st15⟩ := Jvm.LawKit.callS X10 hx (y := (⟨"java/util/Objects", "requireNonNull", "(Ljava/lang/Object;Ljava/lang/String;)Ljava/lang/Object;"⟩ : MethodName)) hown (mvT hZ (wi hw 16 rfl)) (mvT hZ (wi hw 17 rfl)) (mvT hZ (wi hw 18 rfl)) (mvT hZ (wi hw 19 rfl)) (by decide) (backOf (W := 0) (rmNN l Z a0 hw [] a1 b10 h10 n0 z13 ) hZ (wi hw 19 rfl) (wi hw 18 rfl) (by decide) (by decide)) (g := (mkF m 3 #[.val (.ref a1)] [(.ref b10), (.ref a1)])) rfl (by rw [hml]; rfl) (argsL := [(.ref a1), (.ref b10)]) (rest := []) (lenOf pd_5 rfl) rfl (by show 2 * 0 + _ ≤ _; exact Nat.le_of_eq rfl) (hb hby d8_3) (fun _ _ => ⟨rfl, e10, (by decide : 2 + 0 ≤ _), (by decide : 24 + 0 ≤ _)⟩)
  dsimp only [Pt.U, Pt.locs, Pt.cells, Pt.slots] at X15 l15 y15 z15 st15 hQ15
  subst l15 y15 z15
  obtain ⟨rfl, N15q, e15⟩ := hQ15
  have N15 := Fr.app N0 N15q
  refine Rch.go (U' := T15.setTop (mkF m 6 #[.val (.ref a1)] [(.ref a1)])) st15 ?_
  refine Rch.go (U' := T15.setTop (mkF m 7 #[.val (.ref a1)] [])) (fun _ k => XS.pop X15.here hx rfl (hb hby d8_6) rfl rfl k) ?_
  obtain ⟨T16, h16, X16, e16, E16, A16, D16, -, st16⟩ := newO X15 hx hZ hown (wi hw 20 rfl) (wi hw 21 rfl) (wi hw 7 rfl) e15 (g := (mkF m 7 #[.val (.ref a1)] [])) rfl (hb hby d8_7) (by decide) (by decide)
  obtain ⟨b16, g16⟩ : ∃ z, z = h10.size := ⟨_, rfl⟩
  rw [← g16] at A16 D16 st16
  have ne17 : a1 ≠ b16 := Nat.ne_of_lt (Nat.lt_of_lt_of_le f11.lt (Nat.le_of_eq g16.symm))
  have n0b16 : n0 ≤ b16 := Nat.le_trans z13 (Nat.le_of_eq g16.symm)
  have szb16 : h0.size ≤ b16 := Nat.le_trans K14.1 (Nat.le_of_eq g16.symm)
  have f18 := f11.ext E16
  have f19 := f12.ext E16
  have z20 := Nat.le_trans z13 E16.1
  have hk21 := Nat.le_trans hk10 E16.1
  have K22 := K14.ext E16
  have F16_bytes : Fld Z h16 b16 "com/example/cellmark/cellmark/model/ByteString" "bytes" "[B" .null := D16 (Or.inr (wi hw 38 rfl)) (ty := (.array .byte)) (by decide)
  refine Rch.go (U' := T16.setTop (mkF m 10 #[.val (.ref a1)] [(.ref b16)])) st16 ?_
  refine Rch.go (U' := T16.setTop (mkF m 11 #[.val (.ref a1)] [(.ref b16), (.ref b16)])) (fun _ k => XS.dup X16.here hx rfl (hb hby d8_10) rfl rfl k) ?_
  refine Rch.go (U' := T16.setTop (mkF m 12 #[.val (.ref a1)] [(.ref a1), (.ref b16), (.ref b16)])) (fun _ k => XS.aloadN X16.here hx rfl (hb hby d8_11) rfl rfl k) ?_
  obtain ⟨T23, h23, X23, e23, E23, V23, Ex23, st23⟩ := cloneH X16 hx hZ hown (wi hw 22 rfl) (wi hw 23 rfl) (wi hw 27 rfl) (wi hw 25 rfl) (wi hw 26 rfl) (wi hw 28 rfl) e16 f18.arh f19 (g := (mkF m 12 #[.val (.ref a1)] [(.ref a1), (.ref b16), (.ref b16)])) rfl (by rw [hml]; rfl) rfl (hb hby d8_12) (by decide) (W := 2) (cap := 0) (by show 2 * 0 + _ ≤ _; exact Nat.le_of_eq rfl) (by decide) (by decide) (by decide) (by decide)
  obtain ⟨b23, g23⟩ : ∃ z, z = h16.size := ⟨_, rfl⟩
  rw [← g23] at V23 Ex23 st23
  have Vc23 : Arv Z h23 b23 k1 .byte (0 : Int32) [] (.int (0 : Int32)) := V23
  have ne24 : a1 ≠ b23 := Nat.ne_of_lt (Nat.lt_of_lt_of_le f18.lt (Nat.le_of_eq g23.symm))
  have ne25 : b16 ≠ b23 := Nat.ne_of_lt (Nat.lt_of_lt_of_le A16.lt (Nat.le_of_eq g23.symm))
  have n0b23 : n0 ≤ b23 := Nat.le_trans z20 (Nat.le_of_eq g23.symm)
  have szb23 : h0.size ≤ b23 := Nat.le_trans K22.1 (Nat.le_of_eq g23.symm)
  have f26 := f18.ext E23
  have f27 := f19.ext E23
  have f28 := A16.ext E23
  have f29 := F16_bytes.ext E23
  have z30 := Nat.le_trans z20 E23.1
  have hk31 := Nat.le_trans hk21 E23.1
  have K32 := K22.ext E23
  refine Rch.go (U' := T23.setTop (mkF m 15 #[.val (.ref a1)] [(.ref b23), (.ref b16), (.ref b16)])) st23 ?_
  obtain ⟨T33, X33, e33, st33⟩ := castY X23 hx hZ hown (wi hw 29 rfl) e23 (Ins.self Ex23) (g := (mkF m 15 #[.val (.ref a1)] [(.ref b23), (.ref b16), (.ref b16)])) rfl rfl (hb hby d8_15)
  refine Rch.go (U' := T33.setTop (mkF m 18 #[.val (.ref a1)] [(.ref b23), (.ref b16), (.ref b16)])) st33 ?_
  obtain ⟨_, _, ⟨T34, L34, k34, n34⟩, -, X34, ⟨Lc34, hQ34, l34, y34, z34⟩, st34⟩ := X33.specialBack hx (y := (⟨"com/example/cellmark/cellmark/model/ByteString", "<init>", "([B)V"⟩ : MethodName)) rfl hown (mvT hZ (wi hw 31 rfl)) (mvT hZ (wi hw 32 rfl)) (mvT hZ (wi hw 33 rfl)) (by decide) (backOf (W := 1) (rmNew l Z a0 hw [] b16 b23 h23 n0 z30 f28 f29 n0b16) hZ (wi hw 33 rfl) (wi hw 7 rfl) (by decide) (by decide)) (g := (mkF m 18 #[.val (.ref a1)] [(.ref b23), (.ref b16), (.ref b16)])) rfl (by rw [hml]; rfl) (Steps.refl _) (a := b16) (argsL := [(.ref b23)]) (rest := [(.ref b16)]) (lenOf pd_7 rfl) rfl (by show 2 * 0 + _ ≤ _; exact Nat.le_of_eq rfl) (hb hby d8_18) (fun _ _ => ⟨rfl, e33, (by decide : 4 + 0 ≤ _), (by decide : 25 + 0 ≤ _)⟩)
  dsimp only [Pt.U, Pt.locs, Pt.cells, Pt.slots] at X34 l34 y34 z34 st34 hQ34
  subst l34 y34 z34
  obtain ⟨rfl, N34q, K34q, F34_bytes⟩ := hQ34
  have N34 := Fr.app N15 N34q
  have z35 := Nat.le_trans z30 K34q.1
  have hk36 := Nat.le_trans hk31 K34q.1
  have f37 := f26.keep K34q (ninS ne17 nin0)
  have f38 := f27.keep K34q
  have f39 := f28.keep K34q
  have f40 := Ex23.keep K34q
  have f41 := Vc23.keep K34q (ninS (Ne.symm ne25) nin0)
  have K42 := K32.trans K34q (allS (Or.inr szb16) all0)
  refine Rch.to (U' := T34.setTop (mkF m 21 #[.val (.ref a1)] [(.ref b16)])) st34 ?_
  refine Rch.finW (s := s) X34 hlk (v := some (.ref b16)) (fun h => by rw [hret] at h; cases h) rfl (by decide) (by decide) hS10 hk36 (fun fs hr => retOut X34 hx hret rfl (Or.inr (Or.inr (Or.inr (Or.inr ⟨rfl, rfl, rfl⟩)))) (hb hby d8_21) hr) ?_
  exact ⟨b16, b23, rfl, N34, K42, n0b16, n0b23, szb16, szb23, f39, F34_bytes, f40, f41⟩
theorem d43_0 : decode prog_5_method_6_code 0 = .ok (.aload_n 0, 1) := by decide +kernel
theorem d43_1 : decode prog_5_method_6_code 1 = .ok (.getfield 7, 3) := by decide +kernel
theorem d43_4 : decode prog_5_method_6_code 4 = .ok (.invokevirtual 20, 3) := by decide +kernel
theorem d43_7 : decode prog_5_method_6_code 7 = .ok (.checkcast 21, 3) := by decide +kernel
theorem d43_10 : decode prog_5_method_6_code 10 = .ok (.areturn, 1) := by decide +kernel
theorem ef_rmT0 (m : MethodId) (a1 : Addr) : entryFrame m #[(.ref a1)] 1 = mkF m 0 #[.val (.ref a1)] [] := by first | (simp [entryFrame, mkF, argsToLocals, Value.category]; done) | rfl
def Q_rmT0 (Z : State) (a1 : Addr) (t : Addr) (k1 : ClassId) (h0 : Heap) (n0 : Nat) (v : Option Value) (h : Heap) (L : List Loc) : Prop := ∃ (b : Addr), v = some (.ref b) ∧ Fr n0 L ∧ Keep h0 h [] ∧ n0 ≤ b ∧ h0.size ≤ b ∧ Arv Z h b k1 .byte (0 : Int32) [] (.int (0 : Int32))
set_option maxRecDepth 65536 in
set_option maxHeartbeats 40000000 in
theorem rmT0 (l : Launch) (Z : State) (a0 : Array Value) (hw : ∀ d ∈ tables_1, d.before a0 Z = true) (ws : List Jvm.Cond) (a1 : Addr) (t : Addr) (k1 : ClassId) (h0 : Heap) (n0 : Nat) (Z0 : n0 ≤ h0.size) (F_a1 : Fld Z h0 a1 "com/example/cellmark/cellmark/model/ByteString" "bytes" "[B" (.ref t)) (E_a1 : Exa Z h0 a1 "com/example/cellmark/cellmark/model/ByteString") (E_t : Exa Z h0 t "[B") (V_t : Arv Z h0 t k1 .byte (0 : Int32) [] (.int (0 : Int32))) :
    MetFree l (⟨"com/example/cellmark/cellmark/model/ByteString", "toByteArray", "()[B"⟩ : MethodName) (head1 (Jvm.Cond.code (⟨"com/example/cellmark/cellmark/model/ByteString", "toByteArray", "()[B"⟩ : MethodName) prog_5_method_6_code 1 (some (.array .byte)) :: ws) ({ frames := 1, cells := 1, slots := 0, locals := 14 } : Room)) (fun a U => a = #[(.ref a1)] ∧ Z.Warmed39 U.vm ∧ U.heap = h0) (fun _ _ _ _ _ => True) (fun _ U o U' => ∃ v L, o = .returned v ∧ Q_rmT0 Z a1 t k1 h0 n0 v U'.heap L ∧ FrameEnd U o U' L ({ frames := 1, cells := 1, slots := 0, locals := 14 } : Room).cells ({ frames := 1, cells := 1, slots := 0, locals := 14 } : Room).slots) := by
  refine MetFree.of_bodySF (plainFor_of_name pn_com_example_cellmark_cellmark_model_ByteString) hisR ?_
  intro p e s m args below meth c s₁ Bd hml0 hP hK
  obtain ⟨rfl, hZ, hh⟩ := hP
  have hx := Bd.exec
  have hby := Bd.bytes
  have hml : c.maxLocals = 1 := hml0
  have hown : s.vm.findClass "com/example/cellmark/cellmark/model/ByteString" = some m.cls := findClass_of_methodNamed Bd.named
  have hnm := (name_of_methodNamed Bd.named Bd.method).1
  have hret := Bd.returns
  have hlk : meth.locks = false := BodyLoose.notSynchronized Bd
  have X0 : Stand p l e ({ frames := 1, cells := 1, slots := 0, locals := 14 } : Room) s m #[(.ref a1)] below meth c s₁ [] 0 0 := Stand.of_body Bd
  have e0 : s₁.heap = h0 := by rw [← hh, Bd.state]; rfl
  have N0 := Fr.nil n0
  have K0 := Keep.refl h0 []
  refine Rch.body (Q := Q_rmT0 Z a1 t k1 h0 n0) (U' := s₁.setTop (mkF m 0 #[.val (.ref a1)] [])) (fun t k => castTop (ef_rmT0 m a1) k) ?_
  refine Rch.go (U' := s₁.setTop (mkF m 1 #[.val (.ref a1)] [(.ref a1)])) (fun _ k => XS.aloadN X0.here hx rfl (hb hby d43_0) rfl rfl k) ?_
  obtain ⟨T43, X43, e43, st43⟩ := getF X0 hx hZ hown (host := "") (Or.inl (wi hw 37 rfl)) Via.refl e0 F_a1 (g := (mkF m 1 #[.val (.ref a1)] [(.ref a1)])) rfl rfl (hb hby d43_1)
  refine Rch.go (U' := T43.setTop (mkF m 4 #[.val (.ref a1)] [(.ref t)])) st43 ?_
  obtain ⟨T44, h44, X44, e44, E44, V44, Ex44, st44⟩ := cloneH X43 hx hZ hown (wi hw 22 rfl) (wi hw 23 rfl) (wi hw 27 rfl) (wi hw 25 rfl) (wi hw 26 rfl) (wi hw 28 rfl) e43 V_t.arh E_t (g := (mkF m 4 #[.val (.ref a1)] [(.ref t)])) rfl (by rw [hml]; rfl) rfl (hb hby d43_4) (by decide) (W := 0) (cap := 0) (by show 2 * 0 + _ ≤ _; exact Nat.le_of_eq rfl) (by decide) (by decide) (by decide) (by decide)
  obtain ⟨b44, g44⟩ : ∃ z, z = h0.size := ⟨_, rfl⟩
  rw [← g44] at V44 Ex44 st44
  have Vc44 : Arv Z h44 b44 k1 .byte (0 : Int32) [] (.int (0 : Int32)) := V44
  have ne45 : a1 ≠ b44 := Nat.ne_of_lt (Nat.lt_of_lt_of_le E_a1.lt (Nat.le_of_eq g44.symm))
  have ne46 : t ≠ b44 := Nat.ne_of_lt (Nat.lt_of_lt_of_le V_t.lt (Nat.le_of_eq g44.symm))
  have n0b44 : n0 ≤ b44 := Nat.le_trans Z0 (Nat.le_of_eq g44.symm)
  have szb44 : h0.size ≤ b44 := Nat.le_trans K0.1 (Nat.le_of_eq g44.symm)
  have f47 := E_a1.ext E44
  have f48 := F_a1.ext E44
  have f49 := V_t.ext E44
  have f50 := E_t.ext E44
  have z51 := Nat.le_trans Z0 E44.1
  have K52 := K0.ext E44
  refine Rch.go (U' := T44.setTop (mkF m 7 #[.val (.ref a1)] [(.ref b44)])) st44 ?_
  obtain ⟨T53, X53, e53, st53⟩ := castY X44 hx hZ hown (wi hw 29 rfl) e44 (Ins.self Ex44) (g := (mkF m 7 #[.val (.ref a1)] [(.ref b44)])) rfl rfl (hb hby d43_7)
  refine Rch.go (U' := T53.setTop (mkF m 10 #[.val (.ref a1)] [(.ref b44)])) st53 ?_
  refine Rch.fin X53 hlk (v := some (.ref b44)) (fun h => by rw [hret] at h; cases h) e53 (by decide) (by decide) (fun fs hr => retOut X53 hx hret rfl (Or.inr (Or.inr (Or.inr (Or.inr ⟨rfl, rfl, rfl⟩)))) (hb hby d43_10) hr) ?_
  exact ⟨b44, rfl, N0, K52, n0b44, szb44, Vc44⟩
theorem d48_0 : decode prog_5_method_5_code 0 = .ok (.aload_n 0, 1) := by decide +kernel
theorem d48_1 : decode prog_5_method_5_code 1 = .ok (.getfield 7, 3) := by decide +kernel
theorem d48_4 : decode prog_5_method_5_code 4 = .ok (.arraylength, 1) := by decide +kernel
theorem d48_5 : decode prog_5_method_5_code 5 = .ok (.ireturn, 1) := by decide +kernel
theorem ef_rmS0 (m : MethodId) (a1 : Addr) : entryFrame m #[(.ref a1)] 1 = mkF m 0 #[.val (.ref a1)] [] := by first | (simp [entryFrame, mkF, argsToLocals, Value.category]; done) | rfl
def Q_rmS0 (Z : State) (a1 : Addr) (t : Addr) (k1 : ClassId) (h0 : Heap) (n0 : Nat) (v : Option Value) (h : Heap) (L : List Loc) : Prop := v = some (.int (0 : Int32)) ∧ Fr n0 L ∧ h = h0
set_option maxRecDepth 65536 in
set_option maxHeartbeats 40000000 in
theorem rmS0 (l : Launch) (Z : State) (a0 : Array Value) (hw : ∀ d ∈ tables_1, d.before a0 Z = true) (ws : List Jvm.Cond) (a1 : Addr) (t : Addr) (k1 : ClassId) (h0 : Heap) (n0 : Nat) (Z0 : n0 ≤ h0.size) (F_a1 : Fld Z h0 a1 "com/example/cellmark/cellmark/model/ByteString" "bytes" "[B" (.ref t)) (E_a1 : Exa Z h0 a1 "com/example/cellmark/cellmark/model/ByteString") (E_t : Exa Z h0 t "[B") (V_t : Arv Z h0 t k1 .byte (0 : Int32) [] (.int (0 : Int32))) :
    MetFree l (⟨"com/example/cellmark/cellmark/model/ByteString", "size", "()I"⟩ : MethodName) (head1 (Jvm.Cond.code (⟨"com/example/cellmark/cellmark/model/ByteString", "size", "()I"⟩ : MethodName) prog_5_method_5_code 1 (some .int) :: ws) ({ frames := 0, cells := 0, slots := 0, locals := 0 } : Room)) (fun a U => a = #[(.ref a1)] ∧ Z.Warmed39 U.vm ∧ U.heap = h0) (fun _ _ _ _ _ => True) (fun _ U o U' => ∃ v L, o = .returned v ∧ Q_rmS0 Z a1 t k1 h0 n0 v U'.heap L ∧ FrameEnd U o U' L ({ frames := 0, cells := 0, slots := 0, locals := 0 } : Room).cells ({ frames := 0, cells := 0, slots := 0, locals := 0 } : Room).slots) := by
  refine MetFree.of_bodySF (plainFor_of_name pn_com_example_cellmark_cellmark_model_ByteString) hisR ?_
  intro p e s m args below meth c s₁ Bd hml0 hP hK
  obtain ⟨rfl, hZ, hh⟩ := hP
  have hx := Bd.exec
  have hby := Bd.bytes
  have hml : c.maxLocals = 1 := hml0
  have hown : s.vm.findClass "com/example/cellmark/cellmark/model/ByteString" = some m.cls := findClass_of_methodNamed Bd.named
  have hnm := (name_of_methodNamed Bd.named Bd.method).1
  have hret := Bd.returns
  have hlk : meth.locks = false := BodyLoose.notSynchronized Bd
  have X0 : Stand p l e ({ frames := 0, cells := 0, slots := 0, locals := 0 } : Room) s m #[(.ref a1)] below meth c s₁ [] 0 0 := Stand.of_body Bd
  have e0 : s₁.heap = h0 := by rw [← hh, Bd.state]; rfl
  have N0 := Fr.nil n0
  refine Rch.body (Q := Q_rmS0 Z a1 t k1 h0 n0) (U' := s₁.setTop (mkF m 0 #[.val (.ref a1)] [])) (fun t k => castTop (ef_rmS0 m a1) k) ?_
  refine Rch.go (U' := s₁.setTop (mkF m 1 #[.val (.ref a1)] [(.ref a1)])) (fun _ k => XS.aloadN X0.here hx rfl (hb hby d48_0) rfl rfl k) ?_
  obtain ⟨T54, X54, e54, st54⟩ := getF X0 hx hZ hown (host := "") (Or.inl (wi hw 37 rfl)) Via.refl e0 F_a1 (g := (mkF m 1 #[.val (.ref a1)] [(.ref a1)])) rfl rfl (hb hby d48_1)
  refine Rch.go (U' := T54.setTop (mkF m 4 #[.val (.ref a1)] [(.ref t)])) st54 ?_
  obtain ⟨c55, Ar55, -, S55, M55, -, -⟩ := id V_t
  refine Rch.go (U' := T54.setTop (mkF m 5 #[.val (.ref a1)] [(.int c55.slots.size.toInt32)])) (fun _ k => X54.arraylength hx (by rw [e54]; exact Ar55.1) (State.isArrayOf_alike hZ.alike Ar55.2.1) (g := (mkF m 4 #[.val (.ref a1)] [(.ref t)])) rfl rfl (hb hby d48_4) _ k) ?_
  rw [len_of S55 M55]
  refine Rch.fin X54 hlk (v := some (.int (0 : Int32))) (fun h => by rw [hret] at h; cases h) e54 (by decide) (by decide) (fun fs hr => retI X54 hx hret (hb hby d48_5) hr) ?_
  exact ⟨rfl, N0, rfl⟩
theorem pd_10 : parseMethodDescriptor "(IBBB)[B" = some ⟨[.int, .byte, .byte, .byte], some (.array .byte)⟩ := by decide +kernel
theorem pd_11 : parseMethodDescriptor "([B)Lcom/example/cellmark/cellmark/model/ByteString;" = some ⟨[(.array .byte)], some (.object "com/example/cellmark/cellmark/model/ByteString")⟩ := by decide +kernel
theorem pd_12 : parseMethodDescriptor "()[B" = some ⟨[], some (.array .byte)⟩ := by decide +kernel
theorem pd_13 : parseMethodDescriptor "()I" = some ⟨[], some .int⟩ := by decide +kernel
set_option maxRecDepth 65536 in
set_option maxHeartbeats 40000000 in
theorem cut17_0 {p : Program} {l : Launch} {e : Env} {s : State} {m : MethodId} {args : Array Value} {below : List Frame} {meth : Method} {c : Code} {T0 : State} {locs : List Loc} {Z : State} {a0 : Array Value} {h0 : Heap} {n0 : Nat}  (p1 : Int32) (p2 : Int32) (p3 : Int32) (p4 : Int32) (x0 : Int32) (x1 : Int32) (x2 : Int32)
    (X0 : Stand p l e room_1 s m args below meth c T0 locs 0 0) (hx : p.tables.exec = Jvm.exec) (hZ : Z.Warmed39 s.vm) (hw : ∀ d ∈ tables_1, d.before a0 Z = true) (hby : c.code = code) (hml : c.maxLocals = 11) (hown : s.vm.findClass "com/example/cellmark/cellmark/model/ByteStringCopyOfPinLaw" = some m.cls) (hret : meth.sig.returnType = some .boolean) (hlk : meth.locks = false) (e0 : T0.heap = h0) (N0 : Fr n0 locs) (Z0 : n0 ≤ h0.size) (hx0 : nar .byte x0 = x0) (hx1 : nar .byte x1 = x1) (hx2 : nar .byte x2 = x2) :
    Rch p e below (FinW s below (fun v h L => v = some (.int 1) ∧ Fr n0 L) 24 1152) (T0.setTop (mkF m 17 #[.val (.int p1), .val (.int p2), .val (.int p3), .val (.int p4), .val (.int (0 : Int32)), .val (.int x0), .val (.int x1), .val (.int x2), .unset, .unset, .unset] [])) := by
  refine Rch.go (U' := T0.setTop (mkF m 19 #[.val (.int p1), .val (.int p2), .val (.int p3), .val (.int p4), .val (.int (0 : Int32)), .val (.int x0), .val (.int x1), .val (.int x2), .unset, .unset, .unset] [(.int (0 : Int32))])) (fun _ k => XS.iload X0.here hx rfl (hb hby at_17) rfl  k) ?_
  refine Rch.go (U' := T0.setTop (mkF m 21 #[.val (.int p1), .val (.int p2), .val (.int p3), .val (.int p4), .val (.int (0 : Int32)), .val (.int x0), .val (.int x1), .val (.int x2), .unset, .unset, .unset] [(.int x0), (.int (0 : Int32))])) (fun _ k => XS.iload X0.here hx rfl (hb hby at_19) rfl  k) ?_
  refine Rch.go (U' := T0.setTop (mkF m 23 #[.val (.int p1), .val (.int p2), .val (.int p3), .val (.int p4), .val (.int (0 : Int32)), .val (.int x0), .val (.int x1), .val (.int x2), .unset, .unset, .unset] [(.int x1), (.int x0), (.int (0 : Int32))])) (fun _ k => XS.iload X0.here hx rfl (hb hby at_21) rfl  k) ?_
  refine Rch.go (U' := T0.setTop (mkF m 25 #[.val (.int p1), .val (.int p2), .val (.int p3), .val (.int p4), .val (.int (0 : Int32)), .val (.int x0), .val (.int x1), .val (.int x2), .unset, .unset, .unset] [(.int x2), (.int x1), (.int x0), (.int (0 : Int32))])) (fun _ k => XS.iload X0.here hx rfl (hb hby at_23) rfl  k) ?_
  obtain ⟨_, _, ⟨T56, L56, k56, n56⟩, -, X56, ⟨Lc56, hQ56, l56, y56, z56⟩, st56⟩ := Jvm.LawKit.callS X0 hx (y := (⟨"com/example/cellmark/cellmark/model/ByteStringCopyOfPinLaw", "make", "(IBBB)[B"⟩ : MethodName)) hown (mvT hZ (wi hw 0 rfl)) (mvT hZ (wi hw 1 rfl)) (mvT hZ (wi hw 2 rfl)) (mvT hZ (wi hw 3 rfl)) (by decide) (backOf (W := 0) (rmM0 l Z a0 hw [] x0 x1 x2 h0 n0 Z0 hx0 hx1 hx2) hZ (wi hw 3 rfl) (wi hw 2 rfl) (by decide) (by decide)) (g := (mkF m 25 #[.val (.int p1), .val (.int p2), .val (.int p3), .val (.int p4), .val (.int (0 : Int32)), .val (.int x0), .val (.int x1), .val (.int x2), .unset, .unset, .unset] [(.int x2), (.int x1), (.int x0), (.int (0 : Int32))])) rfl (by rw [hml]; rfl) (argsL := [(.int (0 : Int32)), (.int x0), (.int x1), (.int x2)]) (rest := []) (lenOf pd_10 rfl) rfl (by show 2 * 0 + _ ≤ _; exact Nat.le_of_eq rfl) (hb hby at_25) (fun _ _ => ⟨rfl, e0, (by decide : 0 + 1 ≤ _), (by decide : 0 + 0 ≤ _)⟩)
  dsimp only [Pt.U, Pt.locs, Pt.cells, Pt.slots] at X56 l56 y56 z56 st56 hQ56
  subst l56 y56 z56
  obtain ⟨b56, kb56, rfl, N56q, K56q, g56, s56, Ex56, V56⟩ := hQ56
  have N56 := Fr.app N0 N56q
  have z57 := Nat.le_trans Z0 K56q.1
  refine Rch.go (U' := T56.setTop (mkF m 28 #[.val (.int p1), .val (.int p2), .val (.int p3), .val (.int p4), .val (.int (0 : Int32)), .val (.int x0), .val (.int x1), .val (.int x2), .unset, .unset, .unset] [(.ref b56)])) st56 ?_
  refine Rch.go (U' := T56.setTop (mkF m 30 #[.val (.int p1), .val (.int p2), .val (.int p3), .val (.int p4), .val (.int (0 : Int32)), .val (.int x0), .val (.int x1), .val (.int x2), .val (.ref b56), .unset, .unset] [])) (fun _ k => XS.astore X56.here hx rfl (hb hby at_28) rfl rfl (l' := #[.val (.int p1), .val (.int p2), .val (.int p3), .val (.int p4), .val (.int (0 : Int32)), .val (.int x0), .val (.int x1), .val (.int x2), .val (.ref b56), .unset, .unset]) rfl k) ?_
  refine Rch.go (U' := T56.setTop (mkF m 32 #[.val (.int p1), .val (.int p2), .val (.int p3), .val (.int p4), .val (.int (0 : Int32)), .val (.int x0), .val (.int x1), .val (.int x2), .val (.ref b56), .unset, .unset] [(.ref b56)])) (fun _ k => XS.aload X56.here hx rfl (hb hby at_30) rfl rfl k) ?_
  obtain ⟨_, _, ⟨T58, L58, k58, n58⟩, -, X58, hS58, hgr58, ⟨Lc58, hQ58, l58, y58, z58⟩, st58⟩ := callSS X56 hx (y := (⟨"com/example/cellmark/cellmark/model/ByteString", "copyOf", "([B)Lcom/example/cellmark/cellmark/model/ByteString;"⟩ : MethodName)) hown (mvT hZ (wi hw 5 rfl)) (mvT hZ (wi hw 6 rfl)) (mvT hZ (wi hw 7 rfl)) (mvT hZ (wi hw 8 rfl)) (by decide) (backOfS (W := 0) (rmC0 l Z a0 hw [] b56 kb56 T56.heap n0 z57 Ex56 V56) hZ (wi hw 8 rfl) (wi hw 7 rfl) (by decide) (by decide)) (g := (mkF m 32 #[.val (.int p1), .val (.int p2), .val (.int p3), .val (.int p4), .val (.int (0 : Int32)), .val (.int x0), .val (.int x1), .val (.int x2), .val (.ref b56), .unset, .unset] [(.ref b56)])) rfl (by rw [hml]; rfl) (argsL := [(.ref b56)]) (rest := []) (lenOf pd_11 rfl) rfl (by show 2 * 0 + _ ≤ _; exact Nat.le_of_eq rfl) (hb hby at_32) (fun _ _ => ⟨rfl, rfl, (by decide : 1 + 4 ≤ _), (by decide : 0 + 25 ≤ _)⟩)
  dsimp only [Pt.U, Pt.locs, Pt.cells, Pt.slots] at X58 l58 y58 z58 st58 hQ58 hS58 hgr58
  subst l58 y58 z58
  have hZ : Z.Warmed39 (s.setVm T58.vm).vm := State.Warmed39.trans hZ hS58.1
  have hown : (s.setVm T58.vm).vm.findClass "com/example/cellmark/cellmark/model/ByteStringCopyOfPinLaw" = some m.cls := by rw [show (s.setVm T58.vm).vm = T58.vm from rfl, hS58.1.alike.findClass]; exact hown
  obtain ⟨b58, t58, rfl, N58q, K58q, gb58, gt58, sb58, sx58, Eb58, Fb58, Et58, V58⟩ := hQ58
  have N58 := Fr.app N56 N58q
  have z59 := Nat.le_trans z57 K58q.1
  have f60 := Ex56.keep K58q
  have f61 := V56.keep K58q nin0
  have ne62 : b56 ≠ b58 := Nat.ne_of_lt (Nat.lt_of_lt_of_le V56.lt sb58)
  have ne63 : b56 ≠ t58 := Nat.ne_of_lt (Nat.lt_of_lt_of_le V56.lt sx58)
  refine Rch.to (U' := T58.setTop (mkF m 35 #[.val (.int p1), .val (.int p2), .val (.int p3), .val (.int p4), .val (.int (0 : Int32)), .val (.int x0), .val (.int x1), .val (.int x2), .val (.ref b56), .unset, .unset] [(.ref b58)])) st58 ?_
  refine Rch.go (U' := T58.setTop (mkF m 37 #[.val (.int p1), .val (.int p2), .val (.int p3), .val (.int p4), .val (.int (0 : Int32)), .val (.int x0), .val (.int x1), .val (.int x2), .val (.ref b56), .val (.ref b58), .unset] [])) (fun _ k => XS.astore X58.here hx rfl (hb hby at_35) rfl rfl (l' := #[.val (.int p1), .val (.int p2), .val (.int p3), .val (.int p4), .val (.int (0 : Int32)), .val (.int x0), .val (.int x1), .val (.int x2), .val (.ref b56), .val (.ref b58), .unset]) rfl k) ?_
  refine Rch.go (U' := T58.setTop (mkF m 39 #[.val (.int p1), .val (.int p2), .val (.int p3), .val (.int p4), .val (.int (0 : Int32)), .val (.int x0), .val (.int x1), .val (.int x2), .val (.ref b56), .val (.ref b58), .unset] [(.int (0 : Int32))])) (fun _ k => XS.iload X58.here hx rfl (hb hby at_37) rfl  k) ?_
  have br64 : ¬ ((0 : Int32) < (0 : Int32)) := (by decide)
  refine Rch.go (U' := T58.setTop (mkF m 53 #[.val (.int p1), .val (.int p2), .val (.int p3), .val (.int p4), .val (.int (0 : Int32)), .val (.int x0), .val (.int x1), .val (.int x2), .val (.ref b56), .val (.ref b58), .unset] [])) (fun _ k => XS.ifYes X58.here hx rfl (pc0 := 39) (pc' := 53) rfl (hb hby at_39) rfl (XT.i0_le_t br64) (by decide) (by decide) k) ?_
  refine Rch.go (U' := T58.setTop (mkF m 55 #[.val (.int p1), .val (.int p2), .val (.int p3), .val (.int p4), .val (.int (0 : Int32)), .val (.int x0), .val (.int x1), .val (.int x2), .val (.ref b56), .val (.ref b58), .unset] [(.int (0 : Int32))])) (fun _ k => XS.iload X58.here hx rfl (hb hby at_53) rfl  k) ?_
  refine Rch.go (U' := T58.setTop (mkF m 56 #[.val (.int p1), .val (.int p2), .val (.int p3), .val (.int p4), .val (.int (0 : Int32)), .val (.int x0), .val (.int x1), .val (.int x2), .val (.ref b56), .val (.ref b58), .unset] [(.int (1 : Int32)), (.int (0 : Int32))])) (fun _ k => XS.iconst X58.here hx rfl (hb hby at_55) k) ?_
  have br65 : ¬ ((1 : Int32) < (0 : Int32)) := (by decide)
  refine Rch.go (U' := T58.setTop (mkF m 70 #[.val (.int p1), .val (.int p2), .val (.int p3), .val (.int p4), .val (.int (0 : Int32)), .val (.int x0), .val (.int x1), .val (.int x2), .val (.ref b56), .val (.ref b58), .unset] [])) (fun _ k => XS.icmpYes X58.here hx rfl (pc0 := 56) (pc' := 70) rfl (hb hby at_56) rfl (XT.ii_le_t br65) (by decide) (by decide) k) ?_
  refine Rch.go (U' := T58.setTop (mkF m 72 #[.val (.int p1), .val (.int p2), .val (.int p3), .val (.int p4), .val (.int (0 : Int32)), .val (.int x0), .val (.int x1), .val (.int x2), .val (.ref b56), .val (.ref b58), .unset] [(.int (0 : Int32))])) (fun _ k => XS.iload X58.here hx rfl (hb hby at_70) rfl  k) ?_
  refine Rch.go (U' := T58.setTop (mkF m 73 #[.val (.int p1), .val (.int p2), .val (.int p3), .val (.int p4), .val (.int (0 : Int32)), .val (.int x0), .val (.int x1), .val (.int x2), .val (.ref b56), .val (.ref b58), .unset] [(.int (2 : Int32)), (.int (0 : Int32))])) (fun _ k => XS.iconst X58.here hx rfl (hb hby at_72) k) ?_
  have br66 : ¬ ((2 : Int32) < (0 : Int32)) := (by decide)
  refine Rch.go (U' := T58.setTop (mkF m 87 #[.val (.int p1), .val (.int p2), .val (.int p3), .val (.int p4), .val (.int (0 : Int32)), .val (.int x0), .val (.int x1), .val (.int x2), .val (.ref b56), .val (.ref b58), .unset] [])) (fun _ k => XS.icmpYes X58.here hx rfl (pc0 := 73) (pc' := 87) rfl (hb hby at_73) rfl (XT.ii_le_t br66) (by decide) (by decide) k) ?_
  refine Rch.go (U' := T58.setTop (mkF m 89 #[.val (.int p1), .val (.int p2), .val (.int p3), .val (.int p4), .val (.int (0 : Int32)), .val (.int x0), .val (.int x1), .val (.int x2), .val (.ref b56), .val (.ref b58), .unset] [(.ref b58)])) (fun _ k => XS.aload X58.here hx rfl (hb hby at_87) rfl rfl k) ?_
  obtain ⟨cq67, kq67, q67a, q67b, q67c⟩ := isOf hZ rfl Eb58
  obtain ⟨_, _, ⟨T67, L67, k67, n67⟩, -, X67, ⟨Lc67, hQ67, l67, y67, z67⟩, st67⟩ := X58.virtualBack hx (y := (⟨"com/example/cellmark/cellmark/model/ByteString", "toByteArray", "()[B"⟩ : MethodName)) (z := (⟨"com/example/cellmark/cellmark/model/ByteString", "toByteArray", "()[B"⟩ : MethodName)) hown (mvT hZ (wi hw 39 rfl)) (mvT hZ (wi hw 40 rfl)) (notFace_of_selects (args := #[]) (mvT hZ (wi hw 42 rfl))) (mvT hZ (wi hw 42 rfl)) (mvT hZ (wi hw 41 rfl)) (by decide) (backOf (W := 0) (rmT0 l Z a0 hw [] b58 t58 kb56 T58.heap n0 z59 Fb58 Eb58 Et58 V58) hZ (wi hw 43 rfl) (wi hw 7 rfl) (by decide) (by decide)) q67a q67c (g := (mkF m 89 #[.val (.int p1), .val (.int p2), .val (.int p3), .val (.int p4), .val (.int (0 : Int32)), .val (.int x0), .val (.int x1), .val (.int x2), .val (.ref b56), .val (.ref b58), .unset] [(.ref b58)])) rfl (by rw [hml]; rfl) (Steps.refl _) (argsL := []) (rest := []) (lenOf pd_12 rfl) rfl (by show 2 * 0 + _ ≤ _; exact Nat.le_of_eq rfl) (hb hby at_89) (fun _ _ => ⟨rfl, rfl, (by decide : 5 + 1 ≤ _), (by decide : 25 + 0 ≤ _)⟩)
  dsimp only [Pt.U, Pt.locs, Pt.cells, Pt.slots] at X67 l67 y67 z67 st67 hQ67
  subst l67 y67 z67
  obtain ⟨b67, rfl, N67q, K67q, g67, s67, V67⟩ := hQ67
  have N67 := Fr.app N58 N67q
  have z68 := Nat.le_trans z59 K67q.1
  have hk69 := Nat.le_trans (Nat.le_refl T58.heap.size) K67q.1
  have f70 := f60.keep K67q
  have f71 := f61.keep K67q nin0
  have f72 := Eb58.keep K67q
  have f73 := Fb58.keep K67q nin0
  have f74 := Et58.keep K67q
  have f75 := V58.keep K67q nin0
  have ne76 : b56 ≠ b67 := Nat.ne_of_lt (Nat.lt_of_lt_of_le f61.lt s67)
  have ne77 : b58 ≠ b67 := Nat.ne_of_lt (Nat.lt_of_lt_of_le Fb58.lt s67)
  have ne78 : t58 ≠ b67 := Nat.ne_of_lt (Nat.lt_of_lt_of_le V58.lt s67)
  refine Rch.to (U' := T67.setTop (mkF m 92 #[.val (.int p1), .val (.int p2), .val (.int p3), .val (.int p4), .val (.int (0 : Int32)), .val (.int x0), .val (.int x1), .val (.int x2), .val (.ref b56), .val (.ref b58), .unset] [(.ref b67)])) st67 ?_
  refine Rch.go (U' := T67.setTop (mkF m 94 #[.val (.int p1), .val (.int p2), .val (.int p3), .val (.int p4), .val (.int (0 : Int32)), .val (.int x0), .val (.int x1), .val (.int x2), .val (.ref b56), .val (.ref b58), .val (.ref b67)] [])) (fun _ k => XS.astore X67.here hx rfl (hb hby at_92) rfl rfl (l' := #[.val (.int p1), .val (.int p2), .val (.int p3), .val (.int p4), .val (.int (0 : Int32)), .val (.int x0), .val (.int x1), .val (.int x2), .val (.ref b56), .val (.ref b58), .val (.ref b67)]) rfl k) ?_
  refine Rch.go (U' := T67.setTop (mkF m 96 #[.val (.int p1), .val (.int p2), .val (.int p3), .val (.int p4), .val (.int (0 : Int32)), .val (.int x0), .val (.int x1), .val (.int x2), .val (.ref b56), .val (.ref b58), .val (.ref b67)] [(.ref b58)])) (fun _ k => XS.aload X67.here hx rfl (hb hby at_94) rfl rfl k) ?_
  obtain ⟨cq79, kq79, q79a, q79b, q79c⟩ := isOf hZ rfl f72
  obtain ⟨_, _, ⟨T79, L79, k79, n79⟩, -, X79, ⟨Lc79, hQ79, l79, y79, z79⟩, st79⟩ := X67.virtualBack hx (y := (⟨"com/example/cellmark/cellmark/model/ByteString", "size", "()I"⟩ : MethodName)) (z := (⟨"com/example/cellmark/cellmark/model/ByteString", "size", "()I"⟩ : MethodName)) hown (mvT hZ (wi hw 44 rfl)) (mvT hZ (wi hw 45 rfl)) (notFace_of_selects (args := #[]) (mvT hZ (wi hw 47 rfl))) (mvT hZ (wi hw 47 rfl)) (mvT hZ (wi hw 46 rfl)) (by decide) (backOf (W := 0) (rmS0 l Z a0 hw [] b58 t58 kb56 T67.heap n0 z68 f73 f72 f74 f75) hZ (wi hw 48 rfl) (wi hw 7 rfl) (by decide) (by decide)) q79a q79c (g := (mkF m 96 #[.val (.int p1), .val (.int p2), .val (.int p3), .val (.int p4), .val (.int (0 : Int32)), .val (.int x0), .val (.int x1), .val (.int x2), .val (.ref b56), .val (.ref b58), .val (.ref b67)] [(.ref b58)])) rfl (by rw [hml]; rfl) (Steps.refl _) (argsL := []) (rest := []) (lenOf pd_13 rfl) rfl (by show 2 * 0 + _ ≤ _; exact Nat.le_of_eq rfl) (hb hby at_96) (fun _ _ => ⟨rfl, rfl, (by decide : 6 + 0 ≤ _), (by decide : 25 + 0 ≤ _)⟩)
  dsimp only [Pt.U, Pt.locs, Pt.cells, Pt.slots] at X79 l79 y79 z79 st79 hQ79
  subst l79 y79 z79
  obtain ⟨rfl, N79q, e79⟩ := hQ79
  have N79 := Fr.app N67 N79q
  refine Rch.to (U' := T79.setTop (mkF m 99 #[.val (.int p1), .val (.int p2), .val (.int p3), .val (.int p4), .val (.int (0 : Int32)), .val (.int x0), .val (.int x1), .val (.int x2), .val (.ref b56), .val (.ref b58), .val (.ref b67)] [(.int (0 : Int32))])) st79 ?_
  refine Rch.go (U' := T79.setTop (mkF m 101 #[.val (.int p1), .val (.int p2), .val (.int p3), .val (.int p4), .val (.int (0 : Int32)), .val (.int x0), .val (.int x1), .val (.int x2), .val (.ref b56), .val (.ref b58), .val (.ref b67)] [(.int (0 : Int32)), (.int (0 : Int32))])) (fun _ k => XS.iload X79.here hx rfl (hb hby at_99) rfl  k) ?_
  have br80 : (0 : Int32) = (0 : Int32) := (by decide)
  refine Rch.go (U' := T79.setTop (mkF m 106 #[.val (.int p1), .val (.int p2), .val (.int p3), .val (.int p4), .val (.int (0 : Int32)), .val (.int x0), .val (.int x1), .val (.int x2), .val (.ref b56), .val (.ref b58), .val (.ref b67)] [])) (fun _ k => XS.icmpYes X79.here hx rfl (pc0 := 101) (pc' := 106) rfl (hb hby at_101) rfl (XT.ii_eq_t br80) (by decide) (by decide) k) ?_
  refine Rch.go (U' := T79.setTop (mkF m 108 #[.val (.int p1), .val (.int p2), .val (.int p3), .val (.int p4), .val (.int (0 : Int32)), .val (.int x0), .val (.int x1), .val (.int x2), .val (.ref b56), .val (.ref b58), .val (.ref b67)] [(.ref b67)])) (fun _ k => XS.aload X79.here hx rfl (hb hby at_106) rfl rfl k) ?_
  obtain ⟨c81, Ar81, -, S81, M81, -, -⟩ := id V67
  refine Rch.go (U' := T79.setTop (mkF m 109 #[.val (.int p1), .val (.int p2), .val (.int p3), .val (.int p4), .val (.int (0 : Int32)), .val (.int x0), .val (.int x1), .val (.int x2), .val (.ref b56), .val (.ref b58), .val (.ref b67)] [(.int c81.slots.size.toInt32)])) (fun _ k => X79.arraylength hx (by rw [e79]; exact Ar81.1) (State.isArrayOf_alike hZ.alike Ar81.2.1) (g := (mkF m 108 #[.val (.int p1), .val (.int p2), .val (.int p3), .val (.int p4), .val (.int (0 : Int32)), .val (.int x0), .val (.int x1), .val (.int x2), .val (.ref b56), .val (.ref b58), .val (.ref b67)] [(.ref b67)])) rfl rfl (hb hby at_108) _ k) ?_
  rw [len_of S81 M81]
  refine Rch.go (U' := T79.setTop (mkF m 111 #[.val (.int p1), .val (.int p2), .val (.int p3), .val (.int p4), .val (.int (0 : Int32)), .val (.int x0), .val (.int x1), .val (.int x2), .val (.ref b56), .val (.ref b58), .val (.ref b67)] [(.int (0 : Int32)), (.int (0 : Int32))])) (fun _ k => XS.iload X79.here hx rfl (hb hby at_109) rfl  k) ?_
  have br82 : (0 : Int32) = (0 : Int32) := (by decide)
  refine Rch.go (U' := T79.setTop (mkF m 116 #[.val (.int p1), .val (.int p2), .val (.int p3), .val (.int p4), .val (.int (0 : Int32)), .val (.int x0), .val (.int x1), .val (.int x2), .val (.ref b56), .val (.ref b58), .val (.ref b67)] [])) (fun _ k => XS.icmpYes X79.here hx rfl (pc0 := 111) (pc' := 116) rfl (hb hby at_111) rfl (XT.ii_eq_t br82) (by decide) (by decide) k) ?_
  refine Rch.go (U' := T79.setTop (mkF m 118 #[.val (.int p1), .val (.int p2), .val (.int p3), .val (.int p4), .val (.int (0 : Int32)), .val (.int x0), .val (.int x1), .val (.int x2), .val (.ref b56), .val (.ref b58), .val (.ref b67)] [(.int (0 : Int32))])) (fun _ k => XS.iload X79.here hx rfl (hb hby at_116) rfl  k) ?_
  have br83 : ¬ ((0 : Int32) < (0 : Int32)) := (by decide)
  refine Rch.go (U' := T79.setTop (mkF m 132 #[.val (.int p1), .val (.int p2), .val (.int p3), .val (.int p4), .val (.int (0 : Int32)), .val (.int x0), .val (.int x1), .val (.int x2), .val (.ref b56), .val (.ref b58), .val (.ref b67)] [])) (fun _ k => XS.ifYes X79.here hx rfl (pc0 := 118) (pc' := 132) rfl (hb hby at_118) rfl (XT.i0_le_t br83) (by decide) (by decide) k) ?_
  refine Rch.go (U' := T79.setTop (mkF m 134 #[.val (.int p1), .val (.int p2), .val (.int p3), .val (.int p4), .val (.int (0 : Int32)), .val (.int x0), .val (.int x1), .val (.int x2), .val (.ref b56), .val (.ref b58), .val (.ref b67)] [(.int (0 : Int32))])) (fun _ k => XS.iload X79.here hx rfl (hb hby at_132) rfl  k) ?_
  refine Rch.go (U' := T79.setTop (mkF m 135 #[.val (.int p1), .val (.int p2), .val (.int p3), .val (.int p4), .val (.int (0 : Int32)), .val (.int x0), .val (.int x1), .val (.int x2), .val (.ref b56), .val (.ref b58), .val (.ref b67)] [(.int (1 : Int32)), (.int (0 : Int32))])) (fun _ k => XS.iconst X79.here hx rfl (hb hby at_134) k) ?_
  have br84 : ¬ ((1 : Int32) < (0 : Int32)) := (by decide)
  refine Rch.go (U' := T79.setTop (mkF m 149 #[.val (.int p1), .val (.int p2), .val (.int p3), .val (.int p4), .val (.int (0 : Int32)), .val (.int x0), .val (.int x1), .val (.int x2), .val (.ref b56), .val (.ref b58), .val (.ref b67)] [])) (fun _ k => XS.icmpYes X79.here hx rfl (pc0 := 135) (pc' := 149) rfl (hb hby at_135) rfl (XT.ii_le_t br84) (by decide) (by decide) k) ?_
  refine Rch.go (U' := T79.setTop (mkF m 151 #[.val (.int p1), .val (.int p2), .val (.int p3), .val (.int p4), .val (.int (0 : Int32)), .val (.int x0), .val (.int x1), .val (.int x2), .val (.ref b56), .val (.ref b58), .val (.ref b67)] [(.int (0 : Int32))])) (fun _ k => XS.iload X79.here hx rfl (hb hby at_149) rfl  k) ?_
  refine Rch.go (U' := T79.setTop (mkF m 152 #[.val (.int p1), .val (.int p2), .val (.int p3), .val (.int p4), .val (.int (0 : Int32)), .val (.int x0), .val (.int x1), .val (.int x2), .val (.ref b56), .val (.ref b58), .val (.ref b67)] [(.int (2 : Int32)), (.int (0 : Int32))])) (fun _ k => XS.iconst X79.here hx rfl (hb hby at_151) k) ?_
  have br85 : ¬ ((2 : Int32) < (0 : Int32)) := (by decide)
  refine Rch.go (U' := T79.setTop (mkF m 166 #[.val (.int p1), .val (.int p2), .val (.int p3), .val (.int p4), .val (.int (0 : Int32)), .val (.int x0), .val (.int x1), .val (.int x2), .val (.ref b56), .val (.ref b58), .val (.ref b67)] [])) (fun _ k => XS.icmpYes X79.here hx rfl (pc0 := 152) (pc' := 166) rfl (hb hby at_152) rfl (XT.ii_le_t br85) (by decide) (by decide) k) ?_
  refine Rch.go (U' := T79.setTop (mkF m 167 #[.val (.int p1), .val (.int p2), .val (.int p3), .val (.int p4), .val (.int (0 : Int32)), .val (.int x0), .val (.int x1), .val (.int x2), .val (.ref b56), .val (.ref b58), .val (.ref b67)] [(.int (1 : Int32))])) (fun _ k => XS.iconst X79.here hx rfl (hb hby at_166) k) ?_
  refine Rch.finW (s := s) X79 hlk (v := some (.int (nar .boolean (1 : Int32)))) (fun h => by rw [hret] at h; cases h) e79 (by decide) (by decide) hS58 hk69 (fun fs hr => retN X79 hx (t := .boolean) hret (by simp) (hb hby at_167) hr) ?_
  exact ⟨rfl, N79⟩
theorem ef_rmM1 (m : MethodId) (x0 : Int32) (x1 : Int32) (x2 : Int32) : entryFrame m #[(.int (1 : Int32)), (.int x0), (.int x1), (.int x2)] 4 = mkF m 0 #[.val (.int (1 : Int32)), .val (.int x0), .val (.int x1), .val (.int x2)] [] := by first | (simp [entryFrame, mkF, argsToLocals, Value.category]; done) | rfl
def Q_rmM1 (Z : State) (x0 : Int32) (x1 : Int32) (x2 : Int32) (h0 : Heap) (n0 : Nat) (v : Option Value) (h : Heap) (L : List Loc) : Prop := ∃ (b : Addr) (kb : ClassId), v = some (.ref b) ∧ Fr n0 L ∧ Keep h0 h [] ∧ n0 ≤ b ∧ h0.size ≤ b ∧ Exa Z h b "[B" ∧ Arv Z h b kb .byte (1 : Int32) [(.int x0)] (.int (0 : Int32))
set_option maxRecDepth 65536 in
set_option maxHeartbeats 40000000 in
theorem rmM1 (l : Launch) (Z : State) (a0 : Array Value) (hw : ∀ d ∈ tables_1, d.before a0 Z = true) (ws : List Jvm.Cond) (x0 : Int32) (x1 : Int32) (x2 : Int32) (h0 : Heap) (n0 : Nat) (Z0 : n0 ≤ h0.size) (hx0 : nar .byte x0 = x0) (hx1 : nar .byte x1 = x1) (hx2 : nar .byte x2 = x2) :
    MetFree l (⟨"com/example/cellmark/cellmark/model/ByteStringCopyOfPinLaw", "make", "(IBBB)[B"⟩ : MethodName) (head1 (Jvm.Cond.code (⟨"com/example/cellmark/cellmark/model/ByteStringCopyOfPinLaw", "make", "(IBBB)[B"⟩ : MethodName) method_3_code 4 (some (.array .byte)) :: ws) ({ frames := 0, cells := 1, slots := 1, locals := 0 } : Room)) (fun a U => a = #[(.int (1 : Int32)), (.int x0), (.int x1), (.int x2)] ∧ Z.Warmed39 U.vm ∧ U.heap = h0) (fun _ _ _ _ _ => True) (fun _ U o U' => ∃ v L, o = .returned v ∧ Q_rmM1 Z x0 x1 x2 h0 n0 v U'.heap L ∧ FrameEnd U o U' L ({ frames := 0, cells := 1, slots := 1, locals := 0 } : Room).cells ({ frames := 0, cells := 1, slots := 1, locals := 0 } : Room).slots) := by
  refine MetFree.of_bodySF (plainFor_of_name pn_com_example_cellmark_cellmark_model_ByteStringCopyOfPinLaw) hisR ?_
  intro p e s m args below meth c s₁ Bd hml0 hP hK
  obtain ⟨rfl, hZ, hh⟩ := hP
  have hx := Bd.exec
  have hby := Bd.bytes
  have hml : c.maxLocals = 4 := hml0
  have hown : s.vm.findClass "com/example/cellmark/cellmark/model/ByteStringCopyOfPinLaw" = some m.cls := findClass_of_methodNamed Bd.named
  have hnm := (name_of_methodNamed Bd.named Bd.method).1
  have hret := Bd.returns
  have hlk : meth.locks = false := BodyLoose.notSynchronized Bd
  have X0 : Stand p l e ({ frames := 0, cells := 1, slots := 1, locals := 0 } : Room) s m #[(.int (1 : Int32)), (.int x0), (.int x1), (.int x2)] below meth c s₁ [] 0 0 := Stand.of_body Bd
  have e0 : s₁.heap = h0 := by rw [← hh, Bd.state]; rfl
  have N0 := Fr.nil n0
  have K0 := Keep.refl h0 []
  refine Rch.body (Q := Q_rmM1 Z x0 x1 x2 h0 n0) (U' := s₁.setTop (mkF m 0 #[.val (.int (1 : Int32)), .val (.int x0), .val (.int x1), .val (.int x2)] [])) (fun t k => castTop (ef_rmM1 m x0 x1 x2) k) ?_
  refine Rch.go (U' := s₁.setTop (mkF m 1 #[.val (.int (1 : Int32)), .val (.int x0), .val (.int x1), .val (.int x2)] [(.int (1 : Int32))])) (fun _ k => XS.iloadN X0.here hx rfl (hb hby d3_0) rfl  k) ?_
  have br86 : ¬ ((1 : Int32) = (0 : Int32)) := (by decide)
  refine Rch.go (U' := s₁.setTop (mkF m 8 #[.val (.int (1 : Int32)), .val (.int x0), .val (.int x1), .val (.int x2)] [])) (fun _ k => XS.ifYes X0.here hx rfl (pc0 := 1) (pc' := 8) rfl (hb hby d3_1) rfl (XT.i0_ne_t br86) (by decide) (by decide) k) ?_
  refine Rch.go (U' := s₁.setTop (mkF m 9 #[.val (.int (1 : Int32)), .val (.int x0), .val (.int x1), .val (.int x2)] [(.int (1 : Int32))])) (fun _ k => XS.iloadN X0.here hx rfl (hb hby d3_8) rfl  k) ?_
  refine Rch.go (U' := s₁.setTop (mkF m 10 #[.val (.int (1 : Int32)), .val (.int x0), .val (.int x1), .val (.int x2)] [(.int (1 : Int32)), (.int (1 : Int32))])) (fun _ k => XS.iconst X0.here hx rfl (hb hby d3_9) k) ?_
  have br87 : (1 : Int32) = (1 : Int32) := (by decide)
  refine Rch.go (U' := s₁.setTop (mkF m 13 #[.val (.int (1 : Int32)), .val (.int x0), .val (.int x1), .val (.int x2)] [])) (fun _ k => XS.icmpNo X0.here hx rfl (hb hby d3_10) rfl (XT.ii_ne_f br87) k) ?_
  refine Rch.go (U' := s₁.setTop (mkF m 14 #[.val (.int (1 : Int32)), .val (.int x0), .val (.int x1), .val (.int x2)] [(.int (1 : Int32))])) (fun _ k => XS.iconst X0.here hx rfl (hb hby d3_13) k) ?_
  obtain ⟨T88, h88, k88, X88, e88, E88, A88, Ex88, st88⟩ := newPE X0 hx hZ (wi hw 4 rfl) e0 (g := (mkF m 14 #[.val (.int (1 : Int32)), .val (.int x0), .val (.int x1), .val (.int x2)] [(.int (1 : Int32))])) rfl (hb hby d3_14) rfl (by decide) (cap := 1) (by decide) (by decide) (by decide) (by decide) (ad := "[B") (by decide)
  obtain ⟨b88, g88⟩ : ∃ z, z = h0.size := ⟨_, rfl⟩
  rw [← g88] at A88 Ex88 st88
  have n0b88 : n0 ≤ b88 := Nat.le_trans Z0 (Nat.le_of_eq g88.symm)
  have szb88 : h0.size ≤ b88 := Nat.le_trans K0.1 (Nat.le_of_eq g88.symm)
  have z89 := Nat.le_trans Z0 E88.1
  have K90 := K0.ext E88
  have V88 : Arv Z h88 b88 k88 .byte (1 : Int32) [(.int (0 : Int32))] (.int (0 : Int32)) := (Arv.new A88 (by decide)).pad (pad_rep [] (.int (0 : Int32)) 1)
  refine Rch.go (U' := T88.setTop (mkF m 16 #[.val (.int (1 : Int32)), .val (.int x0), .val (.int x1), .val (.int x2)] [(.ref b88)])) st88 ?_
  refine Rch.go (U' := T88.setTop (mkF m 17 #[.val (.int (1 : Int32)), .val (.int x0), .val (.int x1), .val (.int x2)] [(.ref b88), (.ref b88)])) (fun _ k => XS.dup X88.here hx rfl (hb hby d3_16) rfl rfl k) ?_
  refine Rch.go (U' := T88.setTop (mkF m 18 #[.val (.int (1 : Int32)), .val (.int x0), .val (.int x1), .val (.int x2)] [(.int (0 : Int32)), (.ref b88), (.ref b88)])) (fun _ k => XS.iconst X88.here hx rfl (hb hby d3_17) k) ?_
  refine Rch.go (U' := T88.setTop (mkF m 19 #[.val (.int (1 : Int32)), .val (.int x0), .val (.int x1), .val (.int x2)] [(.int x0), (.int (0 : Int32)), (.ref b88), (.ref b88)])) (fun _ k => XS.iloadN X88.here hx rfl (hb hby d3_18) rfl  k) ?_
  obtain ⟨c91, Ar91, q91, S91, M91, Hs91, G91⟩ := id V88
  have i91 : ¬ ((0 : Int32) < 0 ∨ c91.slots.size ≤ ((0 : Int32)).toNatClampNeg) := inb_of S91 ⟨by decide, by decide⟩
  obtain ⟨T91, h91, X91, e91, W91, st91⟩ := stB X88 hx hZ e88 Ar91 (j := (0 : Int32)) i91 (g := (mkF m 19 #[.val (.int (1 : Int32)), .val (.int x0), .val (.int x1), .val (.int x2)] [(.int x0), (.int (0 : Int32)), (.ref b88), (.ref b88)])) rfl rfl (hb hby d3_19)
  have V91 : Arv Z h91 b88 k88 .byte (1 : Int32) [(.int (nar .byte x0))] (.int (0 : Int32)) := Arv.set Ar91 q91 S91 M91 Hs91 G91 (fits_nar_byte _) W91 0 rfl (Nat.le_of_ble_eq_true rfl)
  rw [hx0] at V91
  have f92 := Ex88.wr W91
  have N91 := Fr.snoc X91 N0 n0b88
  have z93 := Nat.le_trans z89 (Keep.of_wr W91).1
  have K94 := K90.wr W91 (Or.inr szb88)
  refine Rch.go (U' := T91.setTop (mkF m 20 #[.val (.int (1 : Int32)), .val (.int x0), .val (.int x1), .val (.int x2)] [(.ref b88)])) st91 ?_
  refine Rch.fin X91 hlk (v := some (.ref b88)) (fun h => by rw [hret] at h; cases h) e91 (by decide) (by decide) (fun fs hr => retOut X91 hx hret rfl (Or.inr (Or.inr (Or.inr (Or.inr ⟨rfl, rfl, rfl⟩)))) (hb hby d3_20) hr) ?_
  exact ⟨b88, k88, rfl, N91, K94, n0b88, szb88, f92, V91⟩
theorem ef_rmC1 (m : MethodId) (a1 : Addr) : entryFrame m #[(.ref a1)] 1 = mkF m 0 #[.val (.ref a1)] [] := by first | (simp [entryFrame, mkF, argsToLocals, Value.category]; done) | rfl
def Q_rmC1 (Z : State) (a1 : Addr) (k1 : ClassId) (x0 : Int32) (h0 : Heap) (n0 : Nat) (v : Option Value) (h : Heap) (L : List Loc) : Prop := ∃ (b t : Addr), v = some (.ref b) ∧ Fr n0 L ∧ Keep h0 h [] ∧ n0 ≤ b ∧ n0 ≤ t ∧ h0.size ≤ b ∧ h0.size ≤ t ∧ Exa Z h b "com/example/cellmark/cellmark/model/ByteString" ∧ Fld Z h b "com/example/cellmark/cellmark/model/ByteString" "bytes" "[B" (.ref t) ∧ Exa Z h t "[B" ∧ Arv Z h t k1 .byte (1 : Int32) [(.int x0)] (.int (0 : Int32))
set_option maxRecDepth 65536 in
set_option maxHeartbeats 40000000 in
theorem rmC1 (l : Launch) (Z : State) (a0 : Array Value) (hw : ∀ d ∈ tables_1, d.before a0 Z = true) (ws : List Jvm.Cond) (a1 : Addr) (k1 : ClassId) (x0 : Int32) (h0 : Heap) (n0 : Nat) (Z0 : n0 ≤ h0.size) (E_a1 : Exa Z h0 a1 "[B") (V_a1 : Arv Z h0 a1 k1 .byte (1 : Int32) [(.int x0)] (.int (0 : Int32))) :
    MetFree l (⟨"com/example/cellmark/cellmark/model/ByteString", "copyOf", "([B)Lcom/example/cellmark/cellmark/model/ByteString;"⟩ : MethodName) (head1 (Jvm.Cond.code (⟨"com/example/cellmark/cellmark/model/ByteString", "copyOf", "([B)Lcom/example/cellmark/cellmark/model/ByteString;"⟩ : MethodName) prog_5_method_2_code 1 (some (.object "com/example/cellmark/cellmark/model/ByteString")) :: ws) ({ frames := 2, cells := 4, slots := 26, locals := 26 } : Room)) (fun a U => a = #[(.ref a1)] ∧ Z.Warmed39 U.vm ∧ U.heap = h0) (fun _ _ _ _ _ => True) (fun _ U o U' => ∃ v L, o = .returned v ∧ Q_rmC1 Z a1 k1 x0 h0 n0 v U'.heap L ∧ ReturnedEndW U o U' L ({ frames := 2, cells := 4, slots := 26, locals := 26 } : Room).cells ({ frames := 2, cells := 4, slots := 26, locals := 26 } : Room).slots) := by
  refine MetFree.of_bodySF (plainFor_of_name pn_com_example_cellmark_cellmark_model_ByteString) hisR ?_
  intro p e s m args below meth c s₁ Bd hml0 hP hK
  obtain ⟨rfl, hZ, hh⟩ := hP
  have hx := Bd.exec
  have hby := Bd.bytes
  have hml : c.maxLocals = 1 := hml0
  have hown : s.vm.findClass "com/example/cellmark/cellmark/model/ByteString" = some m.cls := findClass_of_methodNamed Bd.named
  have hnm := (name_of_methodNamed Bd.named Bd.method).1
  have hret := Bd.returns
  have hlk : meth.locks = false := BodyLoose.notSynchronized Bd
  have X0 : Stand p l e ({ frames := 2, cells := 4, slots := 26, locals := 26 } : Room) s m #[(.ref a1)] below meth c s₁ [] 0 0 := Stand.of_body Bd
  have e0 : s₁.heap = h0 := by rw [← hh, Bd.state]; rfl
  have N0 := Fr.nil n0
  have K0 := Keep.refl h0 []
  have hS0 : s.Since s.vm 0 := (State.WarmedH.refl s).since 0
  have hwS : ∀ d ∈ Bundle.stringAtoms, d.before a0 Z = true := fun d hd => hw d ((by decide +kernel : ∀ d ∈ Bundle.stringAtoms, d ∈ tables_1) d hd)
  have X0 : Stand p l e ({ frames := 2, cells := 4, slots := 26, locals := 26 } : Room) (s.setVm s.vm) m #[(.ref a1)] below meth c s₁ [] 0 0 := X0
  refine Rch.bodyW (Q := Q_rmC1 Z a1 k1 x0 h0 n0) (U' := s₁.setTop (mkF m 0 #[.val (.ref a1)] [])) (fun t k => castTop (ef_rmC1 m a1) k) ?_
  refine Rch.go (U' := s₁.setTop (mkF m 1 #[.val (.ref a1)] [(.ref a1)])) (fun _ k => XS.aloadN X0.here hx rfl (hb hby d8_0) rfl rfl k) ?_
  obtain ⟨b95, T95, h95, k95, X95, e95, E95, hS95, hk95, hZ, hown, st95⟩ := ldcS X0 hx hZ hown (wi hw 9 rfl) hwS e0 hS0 (Nat.zero_le _) (g := (mkF m 1 #[.val (.ref a1)] [(.ref a1)])) rfl (hb hby d8_1) (n := 20) (by decide) (by decide) (by decide) (by decide)
  have f96 := V_a1.ext E95
  have f97 := E_a1.ext E95
  have z98 := Nat.le_trans Z0 E95.1
  have K99 := K0.ext E95
  refine Rch.go (U' := T95.setTop (mkF m 3 #[.val (.ref a1)] [(.ref b95), (.ref a1)])) st95 ?_
  obtain ⟨_, _, ⟨T100, L100, k100, n100⟩, -, X100, ⟨Lc100, hQ100, l100, y100, z100⟩, st100⟩ := Jvm.LawKit.callS X95 hx (y := (⟨"java/util/Objects", "requireNonNull", "(Ljava/lang/Object;Ljava/lang/String;)Ljava/lang/Object;"⟩ : MethodName)) hown (mvT hZ (wi hw 16 rfl)) (mvT hZ (wi hw 17 rfl)) (mvT hZ (wi hw 18 rfl)) (mvT hZ (wi hw 19 rfl)) (by decide) (backOf (W := 0) (rmNN l Z a0 hw [] a1 b95 h95 n0 z98 ) hZ (wi hw 19 rfl) (wi hw 18 rfl) (by decide) (by decide)) (g := (mkF m 3 #[.val (.ref a1)] [(.ref b95), (.ref a1)])) rfl (by rw [hml]; rfl) (argsL := [(.ref a1), (.ref b95)]) (rest := []) (lenOf pd_5 rfl) rfl (by show 2 * 0 + _ ≤ _; exact Nat.le_of_eq rfl) (hb hby d8_3) (fun _ _ => ⟨rfl, e95, (by decide : 2 + 0 ≤ _), (by decide : 24 + 0 ≤ _)⟩)
  dsimp only [Pt.U, Pt.locs, Pt.cells, Pt.slots] at X100 l100 y100 z100 st100 hQ100
  subst l100 y100 z100
  obtain ⟨rfl, N100q, e100⟩ := hQ100
  have N100 := Fr.app N0 N100q
  refine Rch.go (U' := T100.setTop (mkF m 6 #[.val (.ref a1)] [(.ref a1)])) st100 ?_
  refine Rch.go (U' := T100.setTop (mkF m 7 #[.val (.ref a1)] [])) (fun _ k => XS.pop X100.here hx rfl (hb hby d8_6) rfl rfl k) ?_
  obtain ⟨T101, h101, X101, e101, E101, A101, D101, -, st101⟩ := newO X100 hx hZ hown (wi hw 20 rfl) (wi hw 21 rfl) (wi hw 7 rfl) e100 (g := (mkF m 7 #[.val (.ref a1)] [])) rfl (hb hby d8_7) (by decide) (by decide)
  obtain ⟨b101, g101⟩ : ∃ z, z = h95.size := ⟨_, rfl⟩
  rw [← g101] at A101 D101 st101
  have ne102 : a1 ≠ b101 := Nat.ne_of_lt (Nat.lt_of_lt_of_le f96.lt (Nat.le_of_eq g101.symm))
  have n0b101 : n0 ≤ b101 := Nat.le_trans z98 (Nat.le_of_eq g101.symm)
  have szb101 : h0.size ≤ b101 := Nat.le_trans K99.1 (Nat.le_of_eq g101.symm)
  have f103 := f96.ext E101
  have f104 := f97.ext E101
  have z105 := Nat.le_trans z98 E101.1
  have hk106 := Nat.le_trans hk95 E101.1
  have K107 := K99.ext E101
  have F101_bytes : Fld Z h101 b101 "com/example/cellmark/cellmark/model/ByteString" "bytes" "[B" .null := D101 (Or.inr (wi hw 38 rfl)) (ty := (.array .byte)) (by decide)
  refine Rch.go (U' := T101.setTop (mkF m 10 #[.val (.ref a1)] [(.ref b101)])) st101 ?_
  refine Rch.go (U' := T101.setTop (mkF m 11 #[.val (.ref a1)] [(.ref b101), (.ref b101)])) (fun _ k => XS.dup X101.here hx rfl (hb hby d8_10) rfl rfl k) ?_
  refine Rch.go (U' := T101.setTop (mkF m 12 #[.val (.ref a1)] [(.ref a1), (.ref b101), (.ref b101)])) (fun _ k => XS.aloadN X101.here hx rfl (hb hby d8_11) rfl rfl k) ?_
  obtain ⟨T108, h108, X108, e108, E108, V108, Ex108, st108⟩ := cloneH X101 hx hZ hown (wi hw 22 rfl) (wi hw 23 rfl) (wi hw 27 rfl) (wi hw 25 rfl) (wi hw 26 rfl) (wi hw 28 rfl) e101 f103.arh f104 (g := (mkF m 12 #[.val (.ref a1)] [(.ref a1), (.ref b101), (.ref b101)])) rfl (by rw [hml]; rfl) rfl (hb hby d8_12) (by decide) (W := 2) (cap := 1) (by show 2 * 0 + _ ≤ _; exact Nat.le_of_eq rfl) (by decide) (by decide) (by decide) (by decide)
  obtain ⟨b108, g108⟩ : ∃ z, z = h101.size := ⟨_, rfl⟩
  rw [← g108] at V108 Ex108 st108
  have Vc108 : Arv Z h108 b108 k1 .byte (1 : Int32) [(.int x0)] (.int (0 : Int32)) := V108
  have ne109 : a1 ≠ b108 := Nat.ne_of_lt (Nat.lt_of_lt_of_le f103.lt (Nat.le_of_eq g108.symm))
  have ne110 : b101 ≠ b108 := Nat.ne_of_lt (Nat.lt_of_lt_of_le A101.lt (Nat.le_of_eq g108.symm))
  have n0b108 : n0 ≤ b108 := Nat.le_trans z105 (Nat.le_of_eq g108.symm)
  have szb108 : h0.size ≤ b108 := Nat.le_trans K107.1 (Nat.le_of_eq g108.symm)
  have f111 := f103.ext E108
  have f112 := f104.ext E108
  have f113 := A101.ext E108
  have f114 := F101_bytes.ext E108
  have z115 := Nat.le_trans z105 E108.1
  have hk116 := Nat.le_trans hk106 E108.1
  have K117 := K107.ext E108
  refine Rch.go (U' := T108.setTop (mkF m 15 #[.val (.ref a1)] [(.ref b108), (.ref b101), (.ref b101)])) st108 ?_
  obtain ⟨T118, X118, e118, st118⟩ := castY X108 hx hZ hown (wi hw 29 rfl) e108 (Ins.self Ex108) (g := (mkF m 15 #[.val (.ref a1)] [(.ref b108), (.ref b101), (.ref b101)])) rfl rfl (hb hby d8_15)
  refine Rch.go (U' := T118.setTop (mkF m 18 #[.val (.ref a1)] [(.ref b108), (.ref b101), (.ref b101)])) st118 ?_
  obtain ⟨_, _, ⟨T119, L119, k119, n119⟩, -, X119, ⟨Lc119, hQ119, l119, y119, z119⟩, st119⟩ := X118.specialBack hx (y := (⟨"com/example/cellmark/cellmark/model/ByteString", "<init>", "([B)V"⟩ : MethodName)) rfl hown (mvT hZ (wi hw 31 rfl)) (mvT hZ (wi hw 32 rfl)) (mvT hZ (wi hw 33 rfl)) (by decide) (backOf (W := 1) (rmNew l Z a0 hw [] b101 b108 h108 n0 z115 f113 f114 n0b101) hZ (wi hw 33 rfl) (wi hw 7 rfl) (by decide) (by decide)) (g := (mkF m 18 #[.val (.ref a1)] [(.ref b108), (.ref b101), (.ref b101)])) rfl (by rw [hml]; rfl) (Steps.refl _) (a := b101) (argsL := [(.ref b108)]) (rest := [(.ref b101)]) (lenOf pd_7 rfl) rfl (by show 2 * 0 + _ ≤ _; exact Nat.le_of_eq rfl) (hb hby d8_18) (fun _ _ => ⟨rfl, e118, (by decide : 4 + 0 ≤ _), (by decide : 26 + 0 ≤ _)⟩)
  dsimp only [Pt.U, Pt.locs, Pt.cells, Pt.slots] at X119 l119 y119 z119 st119 hQ119
  subst l119 y119 z119
  obtain ⟨rfl, N119q, K119q, F119_bytes⟩ := hQ119
  have N119 := Fr.app N100 N119q
  have z120 := Nat.le_trans z115 K119q.1
  have hk121 := Nat.le_trans hk116 K119q.1
  have f122 := f111.keep K119q (ninS ne102 nin0)
  have f123 := f112.keep K119q
  have f124 := f113.keep K119q
  have f125 := Ex108.keep K119q
  have f126 := Vc108.keep K119q (ninS (Ne.symm ne110) nin0)
  have K127 := K117.trans K119q (allS (Or.inr szb101) all0)
  refine Rch.to (U' := T119.setTop (mkF m 21 #[.val (.ref a1)] [(.ref b101)])) st119 ?_
  refine Rch.finW (s := s) X119 hlk (v := some (.ref b101)) (fun h => by rw [hret] at h; cases h) rfl (by decide) (by decide) hS95 hk121 (fun fs hr => retOut X119 hx hret rfl (Or.inr (Or.inr (Or.inr (Or.inr ⟨rfl, rfl, rfl⟩)))) (hb hby d8_21) hr) ?_
  exact ⟨b101, b108, rfl, N119, K127, n0b101, n0b108, szb101, szb108, f124, F119_bytes, f125, f126⟩
theorem ef_rmT1 (m : MethodId) (a1 : Addr) : entryFrame m #[(.ref a1)] 1 = mkF m 0 #[.val (.ref a1)] [] := by first | (simp [entryFrame, mkF, argsToLocals, Value.category]; done) | rfl
def Q_rmT1 (Z : State) (a1 : Addr) (t : Addr) (k1 : ClassId) (x0 : Int32) (h0 : Heap) (n0 : Nat) (v : Option Value) (h : Heap) (L : List Loc) : Prop := ∃ (b : Addr), v = some (.ref b) ∧ Fr n0 L ∧ Keep h0 h [] ∧ n0 ≤ b ∧ h0.size ≤ b ∧ Arv Z h b k1 .byte (1 : Int32) [(.int x0)] (.int (0 : Int32))
set_option maxRecDepth 65536 in
set_option maxHeartbeats 40000000 in
theorem rmT1 (l : Launch) (Z : State) (a0 : Array Value) (hw : ∀ d ∈ tables_1, d.before a0 Z = true) (ws : List Jvm.Cond) (a1 : Addr) (t : Addr) (k1 : ClassId) (x0 : Int32) (h0 : Heap) (n0 : Nat) (Z0 : n0 ≤ h0.size) (F_a1 : Fld Z h0 a1 "com/example/cellmark/cellmark/model/ByteString" "bytes" "[B" (.ref t)) (E_a1 : Exa Z h0 a1 "com/example/cellmark/cellmark/model/ByteString") (E_t : Exa Z h0 t "[B") (V_t : Arv Z h0 t k1 .byte (1 : Int32) [(.int x0)] (.int (0 : Int32))) :
    MetFree l (⟨"com/example/cellmark/cellmark/model/ByteString", "toByteArray", "()[B"⟩ : MethodName) (head1 (Jvm.Cond.code (⟨"com/example/cellmark/cellmark/model/ByteString", "toByteArray", "()[B"⟩ : MethodName) prog_5_method_6_code 1 (some (.array .byte)) :: ws) ({ frames := 1, cells := 1, slots := 1, locals := 14 } : Room)) (fun a U => a = #[(.ref a1)] ∧ Z.Warmed39 U.vm ∧ U.heap = h0) (fun _ _ _ _ _ => True) (fun _ U o U' => ∃ v L, o = .returned v ∧ Q_rmT1 Z a1 t k1 x0 h0 n0 v U'.heap L ∧ FrameEnd U o U' L ({ frames := 1, cells := 1, slots := 1, locals := 14 } : Room).cells ({ frames := 1, cells := 1, slots := 1, locals := 14 } : Room).slots) := by
  refine MetFree.of_bodySF (plainFor_of_name pn_com_example_cellmark_cellmark_model_ByteString) hisR ?_
  intro p e s m args below meth c s₁ Bd hml0 hP hK
  obtain ⟨rfl, hZ, hh⟩ := hP
  have hx := Bd.exec
  have hby := Bd.bytes
  have hml : c.maxLocals = 1 := hml0
  have hown : s.vm.findClass "com/example/cellmark/cellmark/model/ByteString" = some m.cls := findClass_of_methodNamed Bd.named
  have hnm := (name_of_methodNamed Bd.named Bd.method).1
  have hret := Bd.returns
  have hlk : meth.locks = false := BodyLoose.notSynchronized Bd
  have X0 : Stand p l e ({ frames := 1, cells := 1, slots := 1, locals := 14 } : Room) s m #[(.ref a1)] below meth c s₁ [] 0 0 := Stand.of_body Bd
  have e0 : s₁.heap = h0 := by rw [← hh, Bd.state]; rfl
  have N0 := Fr.nil n0
  have K0 := Keep.refl h0 []
  refine Rch.body (Q := Q_rmT1 Z a1 t k1 x0 h0 n0) (U' := s₁.setTop (mkF m 0 #[.val (.ref a1)] [])) (fun t k => castTop (ef_rmT1 m a1) k) ?_
  refine Rch.go (U' := s₁.setTop (mkF m 1 #[.val (.ref a1)] [(.ref a1)])) (fun _ k => XS.aloadN X0.here hx rfl (hb hby d43_0) rfl rfl k) ?_
  obtain ⟨T128, X128, e128, st128⟩ := getF X0 hx hZ hown (host := "") (Or.inl (wi hw 37 rfl)) Via.refl e0 F_a1 (g := (mkF m 1 #[.val (.ref a1)] [(.ref a1)])) rfl rfl (hb hby d43_1)
  refine Rch.go (U' := T128.setTop (mkF m 4 #[.val (.ref a1)] [(.ref t)])) st128 ?_
  obtain ⟨T129, h129, X129, e129, E129, V129, Ex129, st129⟩ := cloneH X128 hx hZ hown (wi hw 22 rfl) (wi hw 23 rfl) (wi hw 27 rfl) (wi hw 25 rfl) (wi hw 26 rfl) (wi hw 28 rfl) e128 V_t.arh E_t (g := (mkF m 4 #[.val (.ref a1)] [(.ref t)])) rfl (by rw [hml]; rfl) rfl (hb hby d43_4) (by decide) (W := 0) (cap := 1) (by show 2 * 0 + _ ≤ _; exact Nat.le_of_eq rfl) (by decide) (by decide) (by decide) (by decide)
  obtain ⟨b129, g129⟩ : ∃ z, z = h0.size := ⟨_, rfl⟩
  rw [← g129] at V129 Ex129 st129
  have Vc129 : Arv Z h129 b129 k1 .byte (1 : Int32) [(.int x0)] (.int (0 : Int32)) := V129
  have ne130 : a1 ≠ b129 := Nat.ne_of_lt (Nat.lt_of_lt_of_le E_a1.lt (Nat.le_of_eq g129.symm))
  have ne131 : t ≠ b129 := Nat.ne_of_lt (Nat.lt_of_lt_of_le V_t.lt (Nat.le_of_eq g129.symm))
  have n0b129 : n0 ≤ b129 := Nat.le_trans Z0 (Nat.le_of_eq g129.symm)
  have szb129 : h0.size ≤ b129 := Nat.le_trans K0.1 (Nat.le_of_eq g129.symm)
  have f132 := E_a1.ext E129
  have f133 := F_a1.ext E129
  have f134 := V_t.ext E129
  have f135 := E_t.ext E129
  have z136 := Nat.le_trans Z0 E129.1
  have K137 := K0.ext E129
  refine Rch.go (U' := T129.setTop (mkF m 7 #[.val (.ref a1)] [(.ref b129)])) st129 ?_
  obtain ⟨T138, X138, e138, st138⟩ := castY X129 hx hZ hown (wi hw 29 rfl) e129 (Ins.self Ex129) (g := (mkF m 7 #[.val (.ref a1)] [(.ref b129)])) rfl rfl (hb hby d43_7)
  refine Rch.go (U' := T138.setTop (mkF m 10 #[.val (.ref a1)] [(.ref b129)])) st138 ?_
  refine Rch.fin X138 hlk (v := some (.ref b129)) (fun h => by rw [hret] at h; cases h) e138 (by decide) (by decide) (fun fs hr => retOut X138 hx hret rfl (Or.inr (Or.inr (Or.inr (Or.inr ⟨rfl, rfl, rfl⟩)))) (hb hby d43_10) hr) ?_
  exact ⟨b129, rfl, N0, K137, n0b129, szb129, Vc129⟩
theorem ef_rmS1 (m : MethodId) (a1 : Addr) : entryFrame m #[(.ref a1)] 1 = mkF m 0 #[.val (.ref a1)] [] := by first | (simp [entryFrame, mkF, argsToLocals, Value.category]; done) | rfl
def Q_rmS1 (Z : State) (a1 : Addr) (t : Addr) (k1 : ClassId) (x0 : Int32) (h0 : Heap) (n0 : Nat) (v : Option Value) (h : Heap) (L : List Loc) : Prop := v = some (.int (1 : Int32)) ∧ Fr n0 L ∧ h = h0
set_option maxRecDepth 65536 in
set_option maxHeartbeats 40000000 in
theorem rmS1 (l : Launch) (Z : State) (a0 : Array Value) (hw : ∀ d ∈ tables_1, d.before a0 Z = true) (ws : List Jvm.Cond) (a1 : Addr) (t : Addr) (k1 : ClassId) (x0 : Int32) (h0 : Heap) (n0 : Nat) (Z0 : n0 ≤ h0.size) (F_a1 : Fld Z h0 a1 "com/example/cellmark/cellmark/model/ByteString" "bytes" "[B" (.ref t)) (E_a1 : Exa Z h0 a1 "com/example/cellmark/cellmark/model/ByteString") (E_t : Exa Z h0 t "[B") (V_t : Arv Z h0 t k1 .byte (1 : Int32) [(.int x0)] (.int (0 : Int32))) :
    MetFree l (⟨"com/example/cellmark/cellmark/model/ByteString", "size", "()I"⟩ : MethodName) (head1 (Jvm.Cond.code (⟨"com/example/cellmark/cellmark/model/ByteString", "size", "()I"⟩ : MethodName) prog_5_method_5_code 1 (some .int) :: ws) ({ frames := 0, cells := 0, slots := 0, locals := 0 } : Room)) (fun a U => a = #[(.ref a1)] ∧ Z.Warmed39 U.vm ∧ U.heap = h0) (fun _ _ _ _ _ => True) (fun _ U o U' => ∃ v L, o = .returned v ∧ Q_rmS1 Z a1 t k1 x0 h0 n0 v U'.heap L ∧ FrameEnd U o U' L ({ frames := 0, cells := 0, slots := 0, locals := 0 } : Room).cells ({ frames := 0, cells := 0, slots := 0, locals := 0 } : Room).slots) := by
  refine MetFree.of_bodySF (plainFor_of_name pn_com_example_cellmark_cellmark_model_ByteString) hisR ?_
  intro p e s m args below meth c s₁ Bd hml0 hP hK
  obtain ⟨rfl, hZ, hh⟩ := hP
  have hx := Bd.exec
  have hby := Bd.bytes
  have hml : c.maxLocals = 1 := hml0
  have hown : s.vm.findClass "com/example/cellmark/cellmark/model/ByteString" = some m.cls := findClass_of_methodNamed Bd.named
  have hnm := (name_of_methodNamed Bd.named Bd.method).1
  have hret := Bd.returns
  have hlk : meth.locks = false := BodyLoose.notSynchronized Bd
  have X0 : Stand p l e ({ frames := 0, cells := 0, slots := 0, locals := 0 } : Room) s m #[(.ref a1)] below meth c s₁ [] 0 0 := Stand.of_body Bd
  have e0 : s₁.heap = h0 := by rw [← hh, Bd.state]; rfl
  have N0 := Fr.nil n0
  refine Rch.body (Q := Q_rmS1 Z a1 t k1 x0 h0 n0) (U' := s₁.setTop (mkF m 0 #[.val (.ref a1)] [])) (fun t k => castTop (ef_rmS1 m a1) k) ?_
  refine Rch.go (U' := s₁.setTop (mkF m 1 #[.val (.ref a1)] [(.ref a1)])) (fun _ k => XS.aloadN X0.here hx rfl (hb hby d48_0) rfl rfl k) ?_
  obtain ⟨T139, X139, e139, st139⟩ := getF X0 hx hZ hown (host := "") (Or.inl (wi hw 37 rfl)) Via.refl e0 F_a1 (g := (mkF m 1 #[.val (.ref a1)] [(.ref a1)])) rfl rfl (hb hby d48_1)
  refine Rch.go (U' := T139.setTop (mkF m 4 #[.val (.ref a1)] [(.ref t)])) st139 ?_
  obtain ⟨c140, Ar140, -, S140, M140, -, -⟩ := id V_t
  refine Rch.go (U' := T139.setTop (mkF m 5 #[.val (.ref a1)] [(.int c140.slots.size.toInt32)])) (fun _ k => X139.arraylength hx (by rw [e139]; exact Ar140.1) (State.isArrayOf_alike hZ.alike Ar140.2.1) (g := (mkF m 4 #[.val (.ref a1)] [(.ref t)])) rfl rfl (hb hby d48_4) _ k) ?_
  rw [len_of S140 M140]
  refine Rch.fin X139 hlk (v := some (.int (1 : Int32))) (fun h => by rw [hret] at h; cases h) e139 (by decide) (by decide) (fun fs hr => retI X139 hx hret (hb hby d48_5) hr) ?_
  exact ⟨rfl, N0, rfl⟩
set_option maxRecDepth 65536 in
set_option maxHeartbeats 40000000 in
theorem cut17_1 {p : Program} {l : Launch} {e : Env} {s : State} {m : MethodId} {args : Array Value} {below : List Frame} {meth : Method} {c : Code} {T0 : State} {locs : List Loc} {Z : State} {a0 : Array Value} {h0 : Heap} {n0 : Nat}  (p1 : Int32) (p2 : Int32) (p3 : Int32) (p4 : Int32) (x0 : Int32) (x1 : Int32) (x2 : Int32)
    (X0 : Stand p l e room_1 s m args below meth c T0 locs 0 0) (hx : p.tables.exec = Jvm.exec) (hZ : Z.Warmed39 s.vm) (hw : ∀ d ∈ tables_1, d.before a0 Z = true) (hby : c.code = code) (hml : c.maxLocals = 11) (hown : s.vm.findClass "com/example/cellmark/cellmark/model/ByteStringCopyOfPinLaw" = some m.cls) (hret : meth.sig.returnType = some .boolean) (hlk : meth.locks = false) (e0 : T0.heap = h0) (N0 : Fr n0 locs) (Z0 : n0 ≤ h0.size) (hx0 : nar .byte x0 = x0) (hx1 : nar .byte x1 = x1) (hx2 : nar .byte x2 = x2) :
    Rch p e below (FinW s below (fun v h L => v = some (.int 1) ∧ Fr n0 L) 24 1152) (T0.setTop (mkF m 17 #[.val (.int p1), .val (.int p2), .val (.int p3), .val (.int p4), .val (.int (1 : Int32)), .val (.int x0), .val (.int x1), .val (.int x2), .unset, .unset, .unset] [])) := by
  refine Rch.go (U' := T0.setTop (mkF m 19 #[.val (.int p1), .val (.int p2), .val (.int p3), .val (.int p4), .val (.int (1 : Int32)), .val (.int x0), .val (.int x1), .val (.int x2), .unset, .unset, .unset] [(.int (1 : Int32))])) (fun _ k => XS.iload X0.here hx rfl (hb hby at_17) rfl  k) ?_
  refine Rch.go (U' := T0.setTop (mkF m 21 #[.val (.int p1), .val (.int p2), .val (.int p3), .val (.int p4), .val (.int (1 : Int32)), .val (.int x0), .val (.int x1), .val (.int x2), .unset, .unset, .unset] [(.int x0), (.int (1 : Int32))])) (fun _ k => XS.iload X0.here hx rfl (hb hby at_19) rfl  k) ?_
  refine Rch.go (U' := T0.setTop (mkF m 23 #[.val (.int p1), .val (.int p2), .val (.int p3), .val (.int p4), .val (.int (1 : Int32)), .val (.int x0), .val (.int x1), .val (.int x2), .unset, .unset, .unset] [(.int x1), (.int x0), (.int (1 : Int32))])) (fun _ k => XS.iload X0.here hx rfl (hb hby at_21) rfl  k) ?_
  refine Rch.go (U' := T0.setTop (mkF m 25 #[.val (.int p1), .val (.int p2), .val (.int p3), .val (.int p4), .val (.int (1 : Int32)), .val (.int x0), .val (.int x1), .val (.int x2), .unset, .unset, .unset] [(.int x2), (.int x1), (.int x0), (.int (1 : Int32))])) (fun _ k => XS.iload X0.here hx rfl (hb hby at_23) rfl  k) ?_
  obtain ⟨_, _, ⟨T141, L141, k141, n141⟩, -, X141, ⟨Lc141, hQ141, l141, y141, z141⟩, st141⟩ := Jvm.LawKit.callS X0 hx (y := (⟨"com/example/cellmark/cellmark/model/ByteStringCopyOfPinLaw", "make", "(IBBB)[B"⟩ : MethodName)) hown (mvT hZ (wi hw 0 rfl)) (mvT hZ (wi hw 1 rfl)) (mvT hZ (wi hw 2 rfl)) (mvT hZ (wi hw 3 rfl)) (by decide) (backOf (W := 0) (rmM1 l Z a0 hw [] x0 x1 x2 h0 n0 Z0 hx0 hx1 hx2) hZ (wi hw 3 rfl) (wi hw 2 rfl) (by decide) (by decide)) (g := (mkF m 25 #[.val (.int p1), .val (.int p2), .val (.int p3), .val (.int p4), .val (.int (1 : Int32)), .val (.int x0), .val (.int x1), .val (.int x2), .unset, .unset, .unset] [(.int x2), (.int x1), (.int x0), (.int (1 : Int32))])) rfl (by rw [hml]; rfl) (argsL := [(.int (1 : Int32)), (.int x0), (.int x1), (.int x2)]) (rest := []) (lenOf pd_10 rfl) rfl (by show 2 * 0 + _ ≤ _; exact Nat.le_of_eq rfl) (hb hby at_25) (fun _ _ => ⟨rfl, e0, (by decide : 0 + 1 ≤ _), (by decide : 0 + 1 ≤ _)⟩)
  dsimp only [Pt.U, Pt.locs, Pt.cells, Pt.slots] at X141 l141 y141 z141 st141 hQ141
  subst l141 y141 z141
  obtain ⟨b141, kb141, rfl, N141q, K141q, g141, s141, Ex141, V141⟩ := hQ141
  have N141 := Fr.app N0 N141q
  have z142 := Nat.le_trans Z0 K141q.1
  refine Rch.go (U' := T141.setTop (mkF m 28 #[.val (.int p1), .val (.int p2), .val (.int p3), .val (.int p4), .val (.int (1 : Int32)), .val (.int x0), .val (.int x1), .val (.int x2), .unset, .unset, .unset] [(.ref b141)])) st141 ?_
  refine Rch.go (U' := T141.setTop (mkF m 30 #[.val (.int p1), .val (.int p2), .val (.int p3), .val (.int p4), .val (.int (1 : Int32)), .val (.int x0), .val (.int x1), .val (.int x2), .val (.ref b141), .unset, .unset] [])) (fun _ k => XS.astore X141.here hx rfl (hb hby at_28) rfl rfl (l' := #[.val (.int p1), .val (.int p2), .val (.int p3), .val (.int p4), .val (.int (1 : Int32)), .val (.int x0), .val (.int x1), .val (.int x2), .val (.ref b141), .unset, .unset]) rfl k) ?_
  refine Rch.go (U' := T141.setTop (mkF m 32 #[.val (.int p1), .val (.int p2), .val (.int p3), .val (.int p4), .val (.int (1 : Int32)), .val (.int x0), .val (.int x1), .val (.int x2), .val (.ref b141), .unset, .unset] [(.ref b141)])) (fun _ k => XS.aload X141.here hx rfl (hb hby at_30) rfl rfl k) ?_
  obtain ⟨_, _, ⟨T143, L143, k143, n143⟩, -, X143, hS143, hgr143, ⟨Lc143, hQ143, l143, y143, z143⟩, st143⟩ := callSS X141 hx (y := (⟨"com/example/cellmark/cellmark/model/ByteString", "copyOf", "([B)Lcom/example/cellmark/cellmark/model/ByteString;"⟩ : MethodName)) hown (mvT hZ (wi hw 5 rfl)) (mvT hZ (wi hw 6 rfl)) (mvT hZ (wi hw 7 rfl)) (mvT hZ (wi hw 8 rfl)) (by decide) (backOfS (W := 0) (rmC1 l Z a0 hw [] b141 kb141 x0 T141.heap n0 z142 Ex141 V141) hZ (wi hw 8 rfl) (wi hw 7 rfl) (by decide) (by decide)) (g := (mkF m 32 #[.val (.int p1), .val (.int p2), .val (.int p3), .val (.int p4), .val (.int (1 : Int32)), .val (.int x0), .val (.int x1), .val (.int x2), .val (.ref b141), .unset, .unset] [(.ref b141)])) rfl (by rw [hml]; rfl) (argsL := [(.ref b141)]) (rest := []) (lenOf pd_11 rfl) rfl (by show 2 * 0 + _ ≤ _; exact Nat.le_of_eq rfl) (hb hby at_32) (fun _ _ => ⟨rfl, rfl, (by decide : 1 + 4 ≤ _), (by decide : 1 + 26 ≤ _)⟩)
  dsimp only [Pt.U, Pt.locs, Pt.cells, Pt.slots] at X143 l143 y143 z143 st143 hQ143 hS143 hgr143
  subst l143 y143 z143
  have hZ : Z.Warmed39 (s.setVm T143.vm).vm := State.Warmed39.trans hZ hS143.1
  have hown : (s.setVm T143.vm).vm.findClass "com/example/cellmark/cellmark/model/ByteStringCopyOfPinLaw" = some m.cls := by rw [show (s.setVm T143.vm).vm = T143.vm from rfl, hS143.1.alike.findClass]; exact hown
  obtain ⟨b143, t143, rfl, N143q, K143q, gb143, gt143, sb143, sx143, Eb143, Fb143, Et143, V143⟩ := hQ143
  have N143 := Fr.app N141 N143q
  have z144 := Nat.le_trans z142 K143q.1
  have f145 := Ex141.keep K143q
  have f146 := V141.keep K143q nin0
  have ne147 : b141 ≠ b143 := Nat.ne_of_lt (Nat.lt_of_lt_of_le V141.lt sb143)
  have ne148 : b141 ≠ t143 := Nat.ne_of_lt (Nat.lt_of_lt_of_le V141.lt sx143)
  refine Rch.to (U' := T143.setTop (mkF m 35 #[.val (.int p1), .val (.int p2), .val (.int p3), .val (.int p4), .val (.int (1 : Int32)), .val (.int x0), .val (.int x1), .val (.int x2), .val (.ref b141), .unset, .unset] [(.ref b143)])) st143 ?_
  refine Rch.go (U' := T143.setTop (mkF m 37 #[.val (.int p1), .val (.int p2), .val (.int p3), .val (.int p4), .val (.int (1 : Int32)), .val (.int x0), .val (.int x1), .val (.int x2), .val (.ref b141), .val (.ref b143), .unset] [])) (fun _ k => XS.astore X143.here hx rfl (hb hby at_35) rfl rfl (l' := #[.val (.int p1), .val (.int p2), .val (.int p3), .val (.int p4), .val (.int (1 : Int32)), .val (.int x0), .val (.int x1), .val (.int x2), .val (.ref b141), .val (.ref b143), .unset]) rfl k) ?_
  refine Rch.go (U' := T143.setTop (mkF m 39 #[.val (.int p1), .val (.int p2), .val (.int p3), .val (.int p4), .val (.int (1 : Int32)), .val (.int x0), .val (.int x1), .val (.int x2), .val (.ref b141), .val (.ref b143), .unset] [(.int (1 : Int32))])) (fun _ k => XS.iload X143.here hx rfl (hb hby at_37) rfl  k) ?_
  have br149 : (0 : Int32) < (1 : Int32) := (by decide)
  refine Rch.go (U' := T143.setTop (mkF m 42 #[.val (.int p1), .val (.int p2), .val (.int p3), .val (.int p4), .val (.int (1 : Int32)), .val (.int x0), .val (.int x1), .val (.int x2), .val (.ref b141), .val (.ref b143), .unset] [])) (fun _ k => XS.ifNo X143.here hx rfl (hb hby at_39) rfl (XT.i0_le_f br149) k) ?_
  refine Rch.go (U' := T143.setTop (mkF m 44 #[.val (.int p1), .val (.int p2), .val (.int p3), .val (.int p4), .val (.int (1 : Int32)), .val (.int x0), .val (.int x1), .val (.int x2), .val (.ref b141), .val (.ref b143), .unset] [(.ref b141)])) (fun _ k => XS.aload X143.here hx rfl (hb hby at_42) rfl rfl k) ?_
  refine Rch.go (U' := T143.setTop (mkF m 45 #[.val (.int p1), .val (.int p2), .val (.int p3), .val (.int p4), .val (.int (1 : Int32)), .val (.int x0), .val (.int x1), .val (.int x2), .val (.ref b141), .val (.ref b143), .unset] [(.int (0 : Int32)), (.ref b141)])) (fun _ k => XS.iconst X143.here hx rfl (hb hby at_44) k) ?_
  refine Rch.go (U' := T143.setTop (mkF m 47 #[.val (.int p1), .val (.int p2), .val (.int p3), .val (.int p4), .val (.int (1 : Int32)), .val (.int x0), .val (.int x1), .val (.int x2), .val (.ref b141), .val (.ref b143), .unset] [(.ref b141), (.int (0 : Int32)), (.ref b141)])) (fun _ k => XS.aload X143.here hx rfl (hb hby at_45) rfl rfl k) ?_
  refine Rch.go (U' := T143.setTop (mkF m 48 #[.val (.int p1), .val (.int p2), .val (.int p3), .val (.int p4), .val (.int (1 : Int32)), .val (.int x0), .val (.int x1), .val (.int x2), .val (.ref b141), .val (.ref b143), .unset] [(.int (0 : Int32)), (.ref b141), (.int (0 : Int32)), (.ref b141)])) (fun _ k => XS.iconst X143.here hx rfl (hb hby at_47) k) ?_
  obtain ⟨c150, Ar150, q150, S150, M150, Hs150, G150⟩ := id f146
  have i150 : ¬ ((0 : Int32) < 0 ∨ c150.slots.size ≤ ((0 : Int32)).toNatClampNeg) := inb_of S150 ⟨by decide, by decide⟩
  have a150 : c150.slots[((0 : Int32)).toNatClampNeg]? = some (.int x0) := Has.at Hs150 i150 rfl
  refine Rch.go (U' := T143.setTop (mkF m 49 #[.val (.int p1), .val (.int p2), .val (.int p3), .val (.int p4), .val (.int (1 : Int32)), .val (.int x0), .val (.int x1), .val (.int x2), .val (.ref b141), .val (.ref b143), .unset] [(.int x0), (.int (0 : Int32)), (.ref b141)])) (fun _ k => X143.baloadBytes hx (j := (0 : Int32)) (v := (.int x0)) Ar150.1 (State.isArrayOf_alike hZ.alike Ar150.2.1) Ar150.2.2 i150 a150 (g := (mkF m 48 #[.val (.int p1), .val (.int p2), .val (.int p3), .val (.int p4), .val (.int (1 : Int32)), .val (.int x0), .val (.int x1), .val (.int x2), .val (.ref b141), .val (.ref b143), .unset] [(.int (0 : Int32)), (.ref b141), (.int (0 : Int32)), (.ref b141)])) rfl rfl (hb hby at_48) _ k) ?_
  refine Rch.go (U' := T143.setTop (mkF m 50 #[.val (.int p1), .val (.int p2), .val (.int p3), .val (.int p4), .val (.int (1 : Int32)), .val (.int x0), .val (.int x1), .val (.int x2), .val (.ref b141), .val (.ref b143), .unset] [(.int (-1 : Int32)), (.int x0), (.int (0 : Int32)), (.ref b141)])) (fun _ k => XS.iconst X143.here hx rfl (hb hby at_49) k) ?_
  refine Rch.go (U' := T143.setTop (mkF m 51 #[.val (.int p1), .val (.int p2), .val (.int p3), .val (.int p4), .val (.int (1 : Int32)), .val (.int x0), .val (.int x1), .val (.int x2), .val (.ref b141), .val (.ref b143), .unset] [(.int (x0 ^^^ (-1 : Int32))), (.int (0 : Int32)), (.ref b141)])) (fun _ k => XS.ixor X143.here hx rfl (hb hby at_50) rfl k) ?_
  refine Rch.go (U' := T143.setTop (mkF m 52 #[.val (.int p1), .val (.int p2), .val (.int p3), .val (.int p4), .val (.int (1 : Int32)), .val (.int x0), .val (.int x1), .val (.int x2), .val (.ref b141), .val (.ref b143), .unset] [(.int ((x0 ^^^ (-1 : Int32))).toInt8.toInt32), (.int (0 : Int32)), (.ref b141)])) (fun _ k => XS.i2b X143.here hx rfl (hb hby at_51) rfl k) ?_
  obtain ⟨c151, Ar151, q151, S151, M151, Hs151, G151⟩ := id f146
  have i151 : ¬ ((0 : Int32) < 0 ∨ c151.slots.size ≤ ((0 : Int32)).toNatClampNeg) := inb_of S151 ⟨by decide, by decide⟩
  obtain ⟨T151, h151, X151, e151, W151, st151⟩ := stB X143 hx hZ rfl Ar151 (j := (0 : Int32)) i151 (g := (mkF m 52 #[.val (.int p1), .val (.int p2), .val (.int p3), .val (.int p4), .val (.int (1 : Int32)), .val (.int x0), .val (.int x1), .val (.int x2), .val (.ref b141), .val (.ref b143), .unset] [(.int ((x0 ^^^ (-1 : Int32))).toInt8.toInt32), (.int (0 : Int32)), (.ref b141)])) rfl rfl (hb hby at_52)
  have V151 : Arv Z h151 b141 kb141 .byte (1 : Int32) [(.int (nar .byte ((x0 ^^^ (-1 : Int32))).toInt8.toInt32))] (.int (0 : Int32)) := Arv.set Ar151 q151 S151 M151 Hs151 G151 (fits_nar_byte _) W151 0 rfl (Nat.le_of_ble_eq_true rfl)
  have f152 := f145.wr W151
  have f153 := Eb143.wr W151
  have f154 := Fb143.other W151 (Or.inl (Ne.symm ne147))
  have f155 := Et143.wr W151
  have f156 := V143.other W151 (Ne.symm ne148)
  have N151 := Fr.snoc X151 N143 g141
  have z157 := Nat.le_trans z144 (Keep.of_wr W151).1
  have hk158 := Nat.le_trans (Nat.le_refl T143.heap.size) (Keep.of_wr W151).1
  refine Rch.go (U' := T151.setTop (mkF m 53 #[.val (.int p1), .val (.int p2), .val (.int p3), .val (.int p4), .val (.int (1 : Int32)), .val (.int x0), .val (.int x1), .val (.int x2), .val (.ref b141), .val (.ref b143), .unset] [])) st151 ?_
  refine Rch.go (U' := T151.setTop (mkF m 55 #[.val (.int p1), .val (.int p2), .val (.int p3), .val (.int p4), .val (.int (1 : Int32)), .val (.int x0), .val (.int x1), .val (.int x2), .val (.ref b141), .val (.ref b143), .unset] [(.int (1 : Int32))])) (fun _ k => XS.iload X151.here hx rfl (hb hby at_53) rfl  k) ?_
  refine Rch.go (U' := T151.setTop (mkF m 56 #[.val (.int p1), .val (.int p2), .val (.int p3), .val (.int p4), .val (.int (1 : Int32)), .val (.int x0), .val (.int x1), .val (.int x2), .val (.ref b141), .val (.ref b143), .unset] [(.int (1 : Int32)), (.int (1 : Int32))])) (fun _ k => XS.iconst X151.here hx rfl (hb hby at_55) k) ?_
  have br159 : ¬ ((1 : Int32) < (1 : Int32)) := (by decide)
  refine Rch.go (U' := T151.setTop (mkF m 70 #[.val (.int p1), .val (.int p2), .val (.int p3), .val (.int p4), .val (.int (1 : Int32)), .val (.int x0), .val (.int x1), .val (.int x2), .val (.ref b141), .val (.ref b143), .unset] [])) (fun _ k => XS.icmpYes X151.here hx rfl (pc0 := 56) (pc' := 70) rfl (hb hby at_56) rfl (XT.ii_le_t br159) (by decide) (by decide) k) ?_
  refine Rch.go (U' := T151.setTop (mkF m 72 #[.val (.int p1), .val (.int p2), .val (.int p3), .val (.int p4), .val (.int (1 : Int32)), .val (.int x0), .val (.int x1), .val (.int x2), .val (.ref b141), .val (.ref b143), .unset] [(.int (1 : Int32))])) (fun _ k => XS.iload X151.here hx rfl (hb hby at_70) rfl  k) ?_
  refine Rch.go (U' := T151.setTop (mkF m 73 #[.val (.int p1), .val (.int p2), .val (.int p3), .val (.int p4), .val (.int (1 : Int32)), .val (.int x0), .val (.int x1), .val (.int x2), .val (.ref b141), .val (.ref b143), .unset] [(.int (2 : Int32)), (.int (1 : Int32))])) (fun _ k => XS.iconst X151.here hx rfl (hb hby at_72) k) ?_
  have br160 : ¬ ((2 : Int32) < (1 : Int32)) := (by decide)
  refine Rch.go (U' := T151.setTop (mkF m 87 #[.val (.int p1), .val (.int p2), .val (.int p3), .val (.int p4), .val (.int (1 : Int32)), .val (.int x0), .val (.int x1), .val (.int x2), .val (.ref b141), .val (.ref b143), .unset] [])) (fun _ k => XS.icmpYes X151.here hx rfl (pc0 := 73) (pc' := 87) rfl (hb hby at_73) rfl (XT.ii_le_t br160) (by decide) (by decide) k) ?_
  refine Rch.go (U' := T151.setTop (mkF m 89 #[.val (.int p1), .val (.int p2), .val (.int p3), .val (.int p4), .val (.int (1 : Int32)), .val (.int x0), .val (.int x1), .val (.int x2), .val (.ref b141), .val (.ref b143), .unset] [(.ref b143)])) (fun _ k => XS.aload X151.here hx rfl (hb hby at_87) rfl rfl k) ?_
  obtain ⟨cq161, kq161, q161a, q161b, q161c⟩ := isOf hZ e151 f153
  obtain ⟨_, _, ⟨T161, L161, k161, n161⟩, -, X161, ⟨Lc161, hQ161, l161, y161, z161⟩, st161⟩ := X151.virtualBack hx (y := (⟨"com/example/cellmark/cellmark/model/ByteString", "toByteArray", "()[B"⟩ : MethodName)) (z := (⟨"com/example/cellmark/cellmark/model/ByteString", "toByteArray", "()[B"⟩ : MethodName)) hown (mvT hZ (wi hw 39 rfl)) (mvT hZ (wi hw 40 rfl)) (notFace_of_selects (args := #[]) (mvT hZ (wi hw 42 rfl))) (mvT hZ (wi hw 42 rfl)) (mvT hZ (wi hw 41 rfl)) (by decide) (backOf (W := 0) (rmT1 l Z a0 hw [] b143 t143 kb141 x0 h151 n0 z157 f154 f153 f155 f156) hZ (wi hw 43 rfl) (wi hw 7 rfl) (by decide) (by decide)) q161a q161c (g := (mkF m 89 #[.val (.int p1), .val (.int p2), .val (.int p3), .val (.int p4), .val (.int (1 : Int32)), .val (.int x0), .val (.int x1), .val (.int x2), .val (.ref b141), .val (.ref b143), .unset] [(.ref b143)])) rfl (by rw [hml]; rfl) (Steps.refl _) (argsL := []) (rest := []) (lenOf pd_12 rfl) rfl (by show 2 * 0 + _ ≤ _; exact Nat.le_of_eq rfl) (hb hby at_89) (fun _ _ => ⟨rfl, e151, (by decide : 5 + 1 ≤ _), (by decide : 27 + 1 ≤ _)⟩)
  dsimp only [Pt.U, Pt.locs, Pt.cells, Pt.slots] at X161 l161 y161 z161 st161 hQ161
  subst l161 y161 z161
  obtain ⟨b161, rfl, N161q, K161q, g161, s161, V161⟩ := hQ161
  have N161 := Fr.app N151 N161q
  have z162 := Nat.le_trans z157 K161q.1
  have hk163 := Nat.le_trans hk158 K161q.1
  have f164 := f152.keep K161q
  have f165 := V151.keep K161q nin0
  have f166 := f153.keep K161q
  have f167 := f154.keep K161q nin0
  have f168 := f155.keep K161q
  have f169 := f156.keep K161q nin0
  have ne170 : b141 ≠ b161 := Nat.ne_of_lt (Nat.lt_of_lt_of_le V151.lt s161)
  have ne171 : b143 ≠ b161 := Nat.ne_of_lt (Nat.lt_of_lt_of_le f154.lt s161)
  have ne172 : t143 ≠ b161 := Nat.ne_of_lt (Nat.lt_of_lt_of_le f156.lt s161)
  refine Rch.to (U' := T161.setTop (mkF m 92 #[.val (.int p1), .val (.int p2), .val (.int p3), .val (.int p4), .val (.int (1 : Int32)), .val (.int x0), .val (.int x1), .val (.int x2), .val (.ref b141), .val (.ref b143), .unset] [(.ref b161)])) st161 ?_
  refine Rch.go (U' := T161.setTop (mkF m 94 #[.val (.int p1), .val (.int p2), .val (.int p3), .val (.int p4), .val (.int (1 : Int32)), .val (.int x0), .val (.int x1), .val (.int x2), .val (.ref b141), .val (.ref b143), .val (.ref b161)] [])) (fun _ k => XS.astore X161.here hx rfl (hb hby at_92) rfl rfl (l' := #[.val (.int p1), .val (.int p2), .val (.int p3), .val (.int p4), .val (.int (1 : Int32)), .val (.int x0), .val (.int x1), .val (.int x2), .val (.ref b141), .val (.ref b143), .val (.ref b161)]) rfl k) ?_
  refine Rch.go (U' := T161.setTop (mkF m 96 #[.val (.int p1), .val (.int p2), .val (.int p3), .val (.int p4), .val (.int (1 : Int32)), .val (.int x0), .val (.int x1), .val (.int x2), .val (.ref b141), .val (.ref b143), .val (.ref b161)] [(.ref b143)])) (fun _ k => XS.aload X161.here hx rfl (hb hby at_94) rfl rfl k) ?_
  obtain ⟨cq173, kq173, q173a, q173b, q173c⟩ := isOf hZ rfl f166
  obtain ⟨_, _, ⟨T173, L173, k173, n173⟩, -, X173, ⟨Lc173, hQ173, l173, y173, z173⟩, st173⟩ := X161.virtualBack hx (y := (⟨"com/example/cellmark/cellmark/model/ByteString", "size", "()I"⟩ : MethodName)) (z := (⟨"com/example/cellmark/cellmark/model/ByteString", "size", "()I"⟩ : MethodName)) hown (mvT hZ (wi hw 44 rfl)) (mvT hZ (wi hw 45 rfl)) (notFace_of_selects (args := #[]) (mvT hZ (wi hw 47 rfl))) (mvT hZ (wi hw 47 rfl)) (mvT hZ (wi hw 46 rfl)) (by decide) (backOf (W := 0) (rmS1 l Z a0 hw [] b143 t143 kb141 x0 T161.heap n0 z162 f167 f166 f168 f169) hZ (wi hw 48 rfl) (wi hw 7 rfl) (by decide) (by decide)) q173a q173c (g := (mkF m 96 #[.val (.int p1), .val (.int p2), .val (.int p3), .val (.int p4), .val (.int (1 : Int32)), .val (.int x0), .val (.int x1), .val (.int x2), .val (.ref b141), .val (.ref b143), .val (.ref b161)] [(.ref b143)])) rfl (by rw [hml]; rfl) (Steps.refl _) (argsL := []) (rest := []) (lenOf pd_13 rfl) rfl (by show 2 * 0 + _ ≤ _; exact Nat.le_of_eq rfl) (hb hby at_96) (fun _ _ => ⟨rfl, rfl, (by decide : 6 + 0 ≤ _), (by decide : 28 + 0 ≤ _)⟩)
  dsimp only [Pt.U, Pt.locs, Pt.cells, Pt.slots] at X173 l173 y173 z173 st173 hQ173
  subst l173 y173 z173
  obtain ⟨rfl, N173q, e173⟩ := hQ173
  have N173 := Fr.app N161 N173q
  refine Rch.to (U' := T173.setTop (mkF m 99 #[.val (.int p1), .val (.int p2), .val (.int p3), .val (.int p4), .val (.int (1 : Int32)), .val (.int x0), .val (.int x1), .val (.int x2), .val (.ref b141), .val (.ref b143), .val (.ref b161)] [(.int (1 : Int32))])) st173 ?_
  refine Rch.go (U' := T173.setTop (mkF m 101 #[.val (.int p1), .val (.int p2), .val (.int p3), .val (.int p4), .val (.int (1 : Int32)), .val (.int x0), .val (.int x1), .val (.int x2), .val (.ref b141), .val (.ref b143), .val (.ref b161)] [(.int (1 : Int32)), (.int (1 : Int32))])) (fun _ k => XS.iload X173.here hx rfl (hb hby at_99) rfl  k) ?_
  have br174 : (1 : Int32) = (1 : Int32) := (by decide)
  refine Rch.go (U' := T173.setTop (mkF m 106 #[.val (.int p1), .val (.int p2), .val (.int p3), .val (.int p4), .val (.int (1 : Int32)), .val (.int x0), .val (.int x1), .val (.int x2), .val (.ref b141), .val (.ref b143), .val (.ref b161)] [])) (fun _ k => XS.icmpYes X173.here hx rfl (pc0 := 101) (pc' := 106) rfl (hb hby at_101) rfl (XT.ii_eq_t br174) (by decide) (by decide) k) ?_
  refine Rch.go (U' := T173.setTop (mkF m 108 #[.val (.int p1), .val (.int p2), .val (.int p3), .val (.int p4), .val (.int (1 : Int32)), .val (.int x0), .val (.int x1), .val (.int x2), .val (.ref b141), .val (.ref b143), .val (.ref b161)] [(.ref b161)])) (fun _ k => XS.aload X173.here hx rfl (hb hby at_106) rfl rfl k) ?_
  obtain ⟨c175, Ar175, -, S175, M175, -, -⟩ := id V161
  refine Rch.go (U' := T173.setTop (mkF m 109 #[.val (.int p1), .val (.int p2), .val (.int p3), .val (.int p4), .val (.int (1 : Int32)), .val (.int x0), .val (.int x1), .val (.int x2), .val (.ref b141), .val (.ref b143), .val (.ref b161)] [(.int c175.slots.size.toInt32)])) (fun _ k => X173.arraylength hx (by rw [e173]; exact Ar175.1) (State.isArrayOf_alike hZ.alike Ar175.2.1) (g := (mkF m 108 #[.val (.int p1), .val (.int p2), .val (.int p3), .val (.int p4), .val (.int (1 : Int32)), .val (.int x0), .val (.int x1), .val (.int x2), .val (.ref b141), .val (.ref b143), .val (.ref b161)] [(.ref b161)])) rfl rfl (hb hby at_108) _ k) ?_
  rw [len_of S175 M175]
  refine Rch.go (U' := T173.setTop (mkF m 111 #[.val (.int p1), .val (.int p2), .val (.int p3), .val (.int p4), .val (.int (1 : Int32)), .val (.int x0), .val (.int x1), .val (.int x2), .val (.ref b141), .val (.ref b143), .val (.ref b161)] [(.int (1 : Int32)), (.int (1 : Int32))])) (fun _ k => XS.iload X173.here hx rfl (hb hby at_109) rfl  k) ?_
  have br176 : (1 : Int32) = (1 : Int32) := (by decide)
  refine Rch.go (U' := T173.setTop (mkF m 116 #[.val (.int p1), .val (.int p2), .val (.int p3), .val (.int p4), .val (.int (1 : Int32)), .val (.int x0), .val (.int x1), .val (.int x2), .val (.ref b141), .val (.ref b143), .val (.ref b161)] [])) (fun _ k => XS.icmpYes X173.here hx rfl (pc0 := 111) (pc' := 116) rfl (hb hby at_111) rfl (XT.ii_eq_t br176) (by decide) (by decide) k) ?_
  refine Rch.go (U' := T173.setTop (mkF m 118 #[.val (.int p1), .val (.int p2), .val (.int p3), .val (.int p4), .val (.int (1 : Int32)), .val (.int x0), .val (.int x1), .val (.int x2), .val (.ref b141), .val (.ref b143), .val (.ref b161)] [(.int (1 : Int32))])) (fun _ k => XS.iload X173.here hx rfl (hb hby at_116) rfl  k) ?_
  have br177 : (0 : Int32) < (1 : Int32) := (by decide)
  refine Rch.go (U' := T173.setTop (mkF m 121 #[.val (.int p1), .val (.int p2), .val (.int p3), .val (.int p4), .val (.int (1 : Int32)), .val (.int x0), .val (.int x1), .val (.int x2), .val (.ref b141), .val (.ref b143), .val (.ref b161)] [])) (fun _ k => XS.ifNo X173.here hx rfl (hb hby at_118) rfl (XT.i0_le_f br177) k) ?_
  refine Rch.go (U' := T173.setTop (mkF m 123 #[.val (.int p1), .val (.int p2), .val (.int p3), .val (.int p4), .val (.int (1 : Int32)), .val (.int x0), .val (.int x1), .val (.int x2), .val (.ref b141), .val (.ref b143), .val (.ref b161)] [(.ref b161)])) (fun _ k => XS.aload X173.here hx rfl (hb hby at_121) rfl rfl k) ?_
  refine Rch.go (U' := T173.setTop (mkF m 124 #[.val (.int p1), .val (.int p2), .val (.int p3), .val (.int p4), .val (.int (1 : Int32)), .val (.int x0), .val (.int x1), .val (.int x2), .val (.ref b141), .val (.ref b143), .val (.ref b161)] [(.int (0 : Int32)), (.ref b161)])) (fun _ k => XS.iconst X173.here hx rfl (hb hby at_123) k) ?_
  obtain ⟨c178, Ar178, q178, S178, M178, Hs178, G178⟩ := id V161
  have i178 : ¬ ((0 : Int32) < 0 ∨ c178.slots.size ≤ ((0 : Int32)).toNatClampNeg) := inb_of S178 ⟨by decide, by decide⟩
  have a178 : c178.slots[((0 : Int32)).toNatClampNeg]? = some (.int x0) := Has.at Hs178 i178 rfl
  refine Rch.go (U' := T173.setTop (mkF m 125 #[.val (.int p1), .val (.int p2), .val (.int p3), .val (.int p4), .val (.int (1 : Int32)), .val (.int x0), .val (.int x1), .val (.int x2), .val (.ref b141), .val (.ref b143), .val (.ref b161)] [(.int x0)])) (fun _ k => X173.baloadBytes hx (j := (0 : Int32)) (v := (.int x0)) (by rw [e173]; exact Ar178.1) (State.isArrayOf_alike hZ.alike Ar178.2.1) Ar178.2.2 i178 a178 (g := (mkF m 124 #[.val (.int p1), .val (.int p2), .val (.int p3), .val (.int p4), .val (.int (1 : Int32)), .val (.int x0), .val (.int x1), .val (.int x2), .val (.ref b141), .val (.ref b143), .val (.ref b161)] [(.int (0 : Int32)), (.ref b161)])) rfl rfl (hb hby at_124) _ k) ?_
  refine Rch.go (U' := T173.setTop (mkF m 127 #[.val (.int p1), .val (.int p2), .val (.int p3), .val (.int p4), .val (.int (1 : Int32)), .val (.int x0), .val (.int x1), .val (.int x2), .val (.ref b141), .val (.ref b143), .val (.ref b161)] [(.int x0), (.int x0)])) (fun _ k => XS.iload X173.here hx rfl (hb hby at_125) rfl  k) ?_
  have br179 : x0 = x0 := rfl
  refine Rch.go (U' := T173.setTop (mkF m 132 #[.val (.int p1), .val (.int p2), .val (.int p3), .val (.int p4), .val (.int (1 : Int32)), .val (.int x0), .val (.int x1), .val (.int x2), .val (.ref b141), .val (.ref b143), .val (.ref b161)] [])) (fun _ k => XS.icmpYes X173.here hx rfl (pc0 := 127) (pc' := 132) rfl (hb hby at_127) rfl (XT.ii_eq_t br179) (by decide) (by decide) k) ?_
  refine Rch.go (U' := T173.setTop (mkF m 134 #[.val (.int p1), .val (.int p2), .val (.int p3), .val (.int p4), .val (.int (1 : Int32)), .val (.int x0), .val (.int x1), .val (.int x2), .val (.ref b141), .val (.ref b143), .val (.ref b161)] [(.int (1 : Int32))])) (fun _ k => XS.iload X173.here hx rfl (hb hby at_132) rfl  k) ?_
  refine Rch.go (U' := T173.setTop (mkF m 135 #[.val (.int p1), .val (.int p2), .val (.int p3), .val (.int p4), .val (.int (1 : Int32)), .val (.int x0), .val (.int x1), .val (.int x2), .val (.ref b141), .val (.ref b143), .val (.ref b161)] [(.int (1 : Int32)), (.int (1 : Int32))])) (fun _ k => XS.iconst X173.here hx rfl (hb hby at_134) k) ?_
  have br180 : ¬ ((1 : Int32) < (1 : Int32)) := (by decide)
  refine Rch.go (U' := T173.setTop (mkF m 149 #[.val (.int p1), .val (.int p2), .val (.int p3), .val (.int p4), .val (.int (1 : Int32)), .val (.int x0), .val (.int x1), .val (.int x2), .val (.ref b141), .val (.ref b143), .val (.ref b161)] [])) (fun _ k => XS.icmpYes X173.here hx rfl (pc0 := 135) (pc' := 149) rfl (hb hby at_135) rfl (XT.ii_le_t br180) (by decide) (by decide) k) ?_
  refine Rch.go (U' := T173.setTop (mkF m 151 #[.val (.int p1), .val (.int p2), .val (.int p3), .val (.int p4), .val (.int (1 : Int32)), .val (.int x0), .val (.int x1), .val (.int x2), .val (.ref b141), .val (.ref b143), .val (.ref b161)] [(.int (1 : Int32))])) (fun _ k => XS.iload X173.here hx rfl (hb hby at_149) rfl  k) ?_
  refine Rch.go (U' := T173.setTop (mkF m 152 #[.val (.int p1), .val (.int p2), .val (.int p3), .val (.int p4), .val (.int (1 : Int32)), .val (.int x0), .val (.int x1), .val (.int x2), .val (.ref b141), .val (.ref b143), .val (.ref b161)] [(.int (2 : Int32)), (.int (1 : Int32))])) (fun _ k => XS.iconst X173.here hx rfl (hb hby at_151) k) ?_
  have br181 : ¬ ((2 : Int32) < (1 : Int32)) := (by decide)
  refine Rch.go (U' := T173.setTop (mkF m 166 #[.val (.int p1), .val (.int p2), .val (.int p3), .val (.int p4), .val (.int (1 : Int32)), .val (.int x0), .val (.int x1), .val (.int x2), .val (.ref b141), .val (.ref b143), .val (.ref b161)] [])) (fun _ k => XS.icmpYes X173.here hx rfl (pc0 := 152) (pc' := 166) rfl (hb hby at_152) rfl (XT.ii_le_t br181) (by decide) (by decide) k) ?_
  refine Rch.go (U' := T173.setTop (mkF m 167 #[.val (.int p1), .val (.int p2), .val (.int p3), .val (.int p4), .val (.int (1 : Int32)), .val (.int x0), .val (.int x1), .val (.int x2), .val (.ref b141), .val (.ref b143), .val (.ref b161)] [(.int (1 : Int32))])) (fun _ k => XS.iconst X173.here hx rfl (hb hby at_166) k) ?_
  refine Rch.finW (s := s) X173 hlk (v := some (.int (nar .boolean (1 : Int32)))) (fun h => by rw [hret] at h; cases h) e173 (by decide) (by decide) hS143 hk163 (fun fs hr => retN X173 hx (t := .boolean) hret (by simp) (hb hby at_167) hr) ?_
  exact ⟨rfl, N173⟩
theorem ef_rmM2 (m : MethodId) (x0 : Int32) (x1 : Int32) (x2 : Int32) : entryFrame m #[(.int (2 : Int32)), (.int x0), (.int x1), (.int x2)] 4 = mkF m 0 #[.val (.int (2 : Int32)), .val (.int x0), .val (.int x1), .val (.int x2)] [] := by first | (simp [entryFrame, mkF, argsToLocals, Value.category]; done) | rfl
def Q_rmM2 (Z : State) (x0 : Int32) (x1 : Int32) (x2 : Int32) (h0 : Heap) (n0 : Nat) (v : Option Value) (h : Heap) (L : List Loc) : Prop := ∃ (b : Addr) (kb : ClassId), v = some (.ref b) ∧ Fr n0 L ∧ Keep h0 h [] ∧ n0 ≤ b ∧ h0.size ≤ b ∧ Exa Z h b "[B" ∧ Arv Z h b kb .byte (2 : Int32) [(.int x0), (.int x1)] (.int (0 : Int32))
set_option maxRecDepth 65536 in
set_option maxHeartbeats 40000000 in
theorem rmM2 (l : Launch) (Z : State) (a0 : Array Value) (hw : ∀ d ∈ tables_1, d.before a0 Z = true) (ws : List Jvm.Cond) (x0 : Int32) (x1 : Int32) (x2 : Int32) (h0 : Heap) (n0 : Nat) (Z0 : n0 ≤ h0.size) (hx0 : nar .byte x0 = x0) (hx1 : nar .byte x1 = x1) (hx2 : nar .byte x2 = x2) :
    MetFree l (⟨"com/example/cellmark/cellmark/model/ByteStringCopyOfPinLaw", "make", "(IBBB)[B"⟩ : MethodName) (head1 (Jvm.Cond.code (⟨"com/example/cellmark/cellmark/model/ByteStringCopyOfPinLaw", "make", "(IBBB)[B"⟩ : MethodName) method_3_code 4 (some (.array .byte)) :: ws) ({ frames := 0, cells := 1, slots := 2, locals := 0 } : Room)) (fun a U => a = #[(.int (2 : Int32)), (.int x0), (.int x1), (.int x2)] ∧ Z.Warmed39 U.vm ∧ U.heap = h0) (fun _ _ _ _ _ => True) (fun _ U o U' => ∃ v L, o = .returned v ∧ Q_rmM2 Z x0 x1 x2 h0 n0 v U'.heap L ∧ FrameEnd U o U' L ({ frames := 0, cells := 1, slots := 2, locals := 0 } : Room).cells ({ frames := 0, cells := 1, slots := 2, locals := 0 } : Room).slots) := by
  refine MetFree.of_bodySF (plainFor_of_name pn_com_example_cellmark_cellmark_model_ByteStringCopyOfPinLaw) hisR ?_
  intro p e s m args below meth c s₁ Bd hml0 hP hK
  obtain ⟨rfl, hZ, hh⟩ := hP
  have hx := Bd.exec
  have hby := Bd.bytes
  have hml : c.maxLocals = 4 := hml0
  have hown : s.vm.findClass "com/example/cellmark/cellmark/model/ByteStringCopyOfPinLaw" = some m.cls := findClass_of_methodNamed Bd.named
  have hnm := (name_of_methodNamed Bd.named Bd.method).1
  have hret := Bd.returns
  have hlk : meth.locks = false := BodyLoose.notSynchronized Bd
  have X0 : Stand p l e ({ frames := 0, cells := 1, slots := 2, locals := 0 } : Room) s m #[(.int (2 : Int32)), (.int x0), (.int x1), (.int x2)] below meth c s₁ [] 0 0 := Stand.of_body Bd
  have e0 : s₁.heap = h0 := by rw [← hh, Bd.state]; rfl
  have N0 := Fr.nil n0
  have K0 := Keep.refl h0 []
  refine Rch.body (Q := Q_rmM2 Z x0 x1 x2 h0 n0) (U' := s₁.setTop (mkF m 0 #[.val (.int (2 : Int32)), .val (.int x0), .val (.int x1), .val (.int x2)] [])) (fun t k => castTop (ef_rmM2 m x0 x1 x2) k) ?_
  refine Rch.go (U' := s₁.setTop (mkF m 1 #[.val (.int (2 : Int32)), .val (.int x0), .val (.int x1), .val (.int x2)] [(.int (2 : Int32))])) (fun _ k => XS.iloadN X0.here hx rfl (hb hby d3_0) rfl  k) ?_
  have br182 : ¬ ((2 : Int32) = (0 : Int32)) := (by decide)
  refine Rch.go (U' := s₁.setTop (mkF m 8 #[.val (.int (2 : Int32)), .val (.int x0), .val (.int x1), .val (.int x2)] [])) (fun _ k => XS.ifYes X0.here hx rfl (pc0 := 1) (pc' := 8) rfl (hb hby d3_1) rfl (XT.i0_ne_t br182) (by decide) (by decide) k) ?_
  refine Rch.go (U' := s₁.setTop (mkF m 9 #[.val (.int (2 : Int32)), .val (.int x0), .val (.int x1), .val (.int x2)] [(.int (2 : Int32))])) (fun _ k => XS.iloadN X0.here hx rfl (hb hby d3_8) rfl  k) ?_
  refine Rch.go (U' := s₁.setTop (mkF m 10 #[.val (.int (2 : Int32)), .val (.int x0), .val (.int x1), .val (.int x2)] [(.int (1 : Int32)), (.int (2 : Int32))])) (fun _ k => XS.iconst X0.here hx rfl (hb hby d3_9) k) ?_
  have br183 : ¬ ((2 : Int32) = (1 : Int32)) := (by decide)
  refine Rch.go (U' := s₁.setTop (mkF m 21 #[.val (.int (2 : Int32)), .val (.int x0), .val (.int x1), .val (.int x2)] [])) (fun _ k => XS.icmpYes X0.here hx rfl (pc0 := 10) (pc' := 21) rfl (hb hby d3_10) rfl (XT.ii_ne_t br183) (by decide) (by decide) k) ?_
  refine Rch.go (U' := s₁.setTop (mkF m 22 #[.val (.int (2 : Int32)), .val (.int x0), .val (.int x1), .val (.int x2)] [(.int (2 : Int32))])) (fun _ k => XS.iloadN X0.here hx rfl (hb hby d3_21) rfl  k) ?_
  refine Rch.go (U' := s₁.setTop (mkF m 23 #[.val (.int (2 : Int32)), .val (.int x0), .val (.int x1), .val (.int x2)] [(.int (2 : Int32)), (.int (2 : Int32))])) (fun _ k => XS.iconst X0.here hx rfl (hb hby d3_22) k) ?_
  have br184 : (2 : Int32) = (2 : Int32) := (by decide)
  refine Rch.go (U' := s₁.setTop (mkF m 26 #[.val (.int (2 : Int32)), .val (.int x0), .val (.int x1), .val (.int x2)] [])) (fun _ k => XS.icmpNo X0.here hx rfl (hb hby d3_23) rfl (XT.ii_ne_f br184) k) ?_
  refine Rch.go (U' := s₁.setTop (mkF m 27 #[.val (.int (2 : Int32)), .val (.int x0), .val (.int x1), .val (.int x2)] [(.int (2 : Int32))])) (fun _ k => XS.iconst X0.here hx rfl (hb hby d3_26) k) ?_
  obtain ⟨T185, h185, k185, X185, e185, E185, A185, Ex185, st185⟩ := newPE X0 hx hZ (wi hw 4 rfl) e0 (g := (mkF m 27 #[.val (.int (2 : Int32)), .val (.int x0), .val (.int x1), .val (.int x2)] [(.int (2 : Int32))])) rfl (hb hby d3_27) rfl (by decide) (cap := 2) (by decide) (by decide) (by decide) (by decide) (ad := "[B") (by decide)
  obtain ⟨b185, g185⟩ : ∃ z, z = h0.size := ⟨_, rfl⟩
  rw [← g185] at A185 Ex185 st185
  have n0b185 : n0 ≤ b185 := Nat.le_trans Z0 (Nat.le_of_eq g185.symm)
  have szb185 : h0.size ≤ b185 := Nat.le_trans K0.1 (Nat.le_of_eq g185.symm)
  have z186 := Nat.le_trans Z0 E185.1
  have K187 := K0.ext E185
  have V185 : Arv Z h185 b185 k185 .byte (2 : Int32) [(.int (0 : Int32)), (.int (0 : Int32))] (.int (0 : Int32)) := (Arv.new A185 (by decide)).pad (pad_rep [] (.int (0 : Int32)) 2)
  refine Rch.go (U' := T185.setTop (mkF m 29 #[.val (.int (2 : Int32)), .val (.int x0), .val (.int x1), .val (.int x2)] [(.ref b185)])) st185 ?_
  refine Rch.go (U' := T185.setTop (mkF m 30 #[.val (.int (2 : Int32)), .val (.int x0), .val (.int x1), .val (.int x2)] [(.ref b185), (.ref b185)])) (fun _ k => XS.dup X185.here hx rfl (hb hby d3_29) rfl rfl k) ?_
  refine Rch.go (U' := T185.setTop (mkF m 31 #[.val (.int (2 : Int32)), .val (.int x0), .val (.int x1), .val (.int x2)] [(.int (0 : Int32)), (.ref b185), (.ref b185)])) (fun _ k => XS.iconst X185.here hx rfl (hb hby d3_30) k) ?_
  refine Rch.go (U' := T185.setTop (mkF m 32 #[.val (.int (2 : Int32)), .val (.int x0), .val (.int x1), .val (.int x2)] [(.int x0), (.int (0 : Int32)), (.ref b185), (.ref b185)])) (fun _ k => XS.iloadN X185.here hx rfl (hb hby d3_31) rfl  k) ?_
  obtain ⟨c188, Ar188, q188, S188, M188, Hs188, G188⟩ := id V185
  have i188 : ¬ ((0 : Int32) < 0 ∨ c188.slots.size ≤ ((0 : Int32)).toNatClampNeg) := inb_of S188 ⟨by decide, by decide⟩
  obtain ⟨T188, h188, X188, e188, W188, st188⟩ := stB X185 hx hZ e185 Ar188 (j := (0 : Int32)) i188 (g := (mkF m 32 #[.val (.int (2 : Int32)), .val (.int x0), .val (.int x1), .val (.int x2)] [(.int x0), (.int (0 : Int32)), (.ref b185), (.ref b185)])) rfl rfl (hb hby d3_32)
  have V188 : Arv Z h188 b185 k185 .byte (2 : Int32) [(.int (nar .byte x0)), (.int (0 : Int32))] (.int (0 : Int32)) := Arv.set Ar188 q188 S188 M188 Hs188 G188 (fits_nar_byte _) W188 0 rfl (Nat.le_of_ble_eq_true rfl)
  rw [hx0] at V188
  have f189 := Ex185.wr W188
  have N188 := Fr.snoc X188 N0 n0b185
  have z190 := Nat.le_trans z186 (Keep.of_wr W188).1
  have K191 := K187.wr W188 (Or.inr szb185)
  refine Rch.go (U' := T188.setTop (mkF m 33 #[.val (.int (2 : Int32)), .val (.int x0), .val (.int x1), .val (.int x2)] [(.ref b185)])) st188 ?_
  refine Rch.go (U' := T188.setTop (mkF m 34 #[.val (.int (2 : Int32)), .val (.int x0), .val (.int x1), .val (.int x2)] [(.ref b185), (.ref b185)])) (fun _ k => XS.dup X188.here hx rfl (hb hby d3_33) rfl rfl k) ?_
  refine Rch.go (U' := T188.setTop (mkF m 35 #[.val (.int (2 : Int32)), .val (.int x0), .val (.int x1), .val (.int x2)] [(.int (1 : Int32)), (.ref b185), (.ref b185)])) (fun _ k => XS.iconst X188.here hx rfl (hb hby d3_34) k) ?_
  refine Rch.go (U' := T188.setTop (mkF m 36 #[.val (.int (2 : Int32)), .val (.int x0), .val (.int x1), .val (.int x2)] [(.int x1), (.int (1 : Int32)), (.ref b185), (.ref b185)])) (fun _ k => XS.iloadN X188.here hx rfl (hb hby d3_35) rfl  k) ?_
  obtain ⟨c192, Ar192, q192, S192, M192, Hs192, G192⟩ := id V188
  have i192 : ¬ ((1 : Int32) < 0 ∨ c192.slots.size ≤ ((1 : Int32)).toNatClampNeg) := inb_of S192 ⟨by decide, by decide⟩
  obtain ⟨T192, h192, X192, e192, W192, st192⟩ := stB X188 hx hZ e188 Ar192 (j := (1 : Int32)) i192 (g := (mkF m 36 #[.val (.int (2 : Int32)), .val (.int x0), .val (.int x1), .val (.int x2)] [(.int x1), (.int (1 : Int32)), (.ref b185), (.ref b185)])) rfl rfl (hb hby d3_36)
  have V192 : Arv Z h192 b185 k185 .byte (2 : Int32) [(.int x0), (.int (nar .byte x1))] (.int (0 : Int32)) := Arv.set Ar192 q192 S192 M192 Hs192 G192 (fits_nar_byte _) W192 1 rfl (Nat.le_of_ble_eq_true rfl)
  rw [hx1] at V192
  have f193 := f189.wr W192
  have N192 := Fr.snoc X192 N188 n0b185
  have z194 := Nat.le_trans z190 (Keep.of_wr W192).1
  have K195 := K191.wr W192 (Or.inr szb185)
  refine Rch.go (U' := T192.setTop (mkF m 37 #[.val (.int (2 : Int32)), .val (.int x0), .val (.int x1), .val (.int x2)] [(.ref b185)])) st192 ?_
  refine Rch.fin X192 hlk (v := some (.ref b185)) (fun h => by rw [hret] at h; cases h) e192 (by decide) (by decide) (fun fs hr => retOut X192 hx hret rfl (Or.inr (Or.inr (Or.inr (Or.inr ⟨rfl, rfl, rfl⟩)))) (hb hby d3_37) hr) ?_
  exact ⟨b185, k185, rfl, N192, K195, n0b185, szb185, f193, V192⟩
theorem ef_rmC2 (m : MethodId) (a1 : Addr) : entryFrame m #[(.ref a1)] 1 = mkF m 0 #[.val (.ref a1)] [] := by first | (simp [entryFrame, mkF, argsToLocals, Value.category]; done) | rfl
def Q_rmC2 (Z : State) (a1 : Addr) (k1 : ClassId) (x0 : Int32) (x1 : Int32) (h0 : Heap) (n0 : Nat) (v : Option Value) (h : Heap) (L : List Loc) : Prop := ∃ (b t : Addr), v = some (.ref b) ∧ Fr n0 L ∧ Keep h0 h [] ∧ n0 ≤ b ∧ n0 ≤ t ∧ h0.size ≤ b ∧ h0.size ≤ t ∧ Exa Z h b "com/example/cellmark/cellmark/model/ByteString" ∧ Fld Z h b "com/example/cellmark/cellmark/model/ByteString" "bytes" "[B" (.ref t) ∧ Exa Z h t "[B" ∧ Arv Z h t k1 .byte (2 : Int32) [(.int x0), (.int x1)] (.int (0 : Int32))
set_option maxRecDepth 65536 in
set_option maxHeartbeats 40000000 in
theorem rmC2 (l : Launch) (Z : State) (a0 : Array Value) (hw : ∀ d ∈ tables_1, d.before a0 Z = true) (ws : List Jvm.Cond) (a1 : Addr) (k1 : ClassId) (x0 : Int32) (x1 : Int32) (h0 : Heap) (n0 : Nat) (Z0 : n0 ≤ h0.size) (E_a1 : Exa Z h0 a1 "[B") (V_a1 : Arv Z h0 a1 k1 .byte (2 : Int32) [(.int x0), (.int x1)] (.int (0 : Int32))) :
    MetFree l (⟨"com/example/cellmark/cellmark/model/ByteString", "copyOf", "([B)Lcom/example/cellmark/cellmark/model/ByteString;"⟩ : MethodName) (head1 (Jvm.Cond.code (⟨"com/example/cellmark/cellmark/model/ByteString", "copyOf", "([B)Lcom/example/cellmark/cellmark/model/ByteString;"⟩ : MethodName) prog_5_method_2_code 1 (some (.object "com/example/cellmark/cellmark/model/ByteString")) :: ws) ({ frames := 2, cells := 4, slots := 27, locals := 26 } : Room)) (fun a U => a = #[(.ref a1)] ∧ Z.Warmed39 U.vm ∧ U.heap = h0) (fun _ _ _ _ _ => True) (fun _ U o U' => ∃ v L, o = .returned v ∧ Q_rmC2 Z a1 k1 x0 x1 h0 n0 v U'.heap L ∧ ReturnedEndW U o U' L ({ frames := 2, cells := 4, slots := 27, locals := 26 } : Room).cells ({ frames := 2, cells := 4, slots := 27, locals := 26 } : Room).slots) := by
  refine MetFree.of_bodySF (plainFor_of_name pn_com_example_cellmark_cellmark_model_ByteString) hisR ?_
  intro p e s m args below meth c s₁ Bd hml0 hP hK
  obtain ⟨rfl, hZ, hh⟩ := hP
  have hx := Bd.exec
  have hby := Bd.bytes
  have hml : c.maxLocals = 1 := hml0
  have hown : s.vm.findClass "com/example/cellmark/cellmark/model/ByteString" = some m.cls := findClass_of_methodNamed Bd.named
  have hnm := (name_of_methodNamed Bd.named Bd.method).1
  have hret := Bd.returns
  have hlk : meth.locks = false := BodyLoose.notSynchronized Bd
  have X0 : Stand p l e ({ frames := 2, cells := 4, slots := 27, locals := 26 } : Room) s m #[(.ref a1)] below meth c s₁ [] 0 0 := Stand.of_body Bd
  have e0 : s₁.heap = h0 := by rw [← hh, Bd.state]; rfl
  have N0 := Fr.nil n0
  have K0 := Keep.refl h0 []
  have hS0 : s.Since s.vm 0 := (State.WarmedH.refl s).since 0
  have hwS : ∀ d ∈ Bundle.stringAtoms, d.before a0 Z = true := fun d hd => hw d ((by decide +kernel : ∀ d ∈ Bundle.stringAtoms, d ∈ tables_1) d hd)
  have X0 : Stand p l e ({ frames := 2, cells := 4, slots := 27, locals := 26 } : Room) (s.setVm s.vm) m #[(.ref a1)] below meth c s₁ [] 0 0 := X0
  refine Rch.bodyW (Q := Q_rmC2 Z a1 k1 x0 x1 h0 n0) (U' := s₁.setTop (mkF m 0 #[.val (.ref a1)] [])) (fun t k => castTop (ef_rmC2 m a1) k) ?_
  refine Rch.go (U' := s₁.setTop (mkF m 1 #[.val (.ref a1)] [(.ref a1)])) (fun _ k => XS.aloadN X0.here hx rfl (hb hby d8_0) rfl rfl k) ?_
  obtain ⟨b196, T196, h196, k196, X196, e196, E196, hS196, hk196, hZ, hown, st196⟩ := ldcS X0 hx hZ hown (wi hw 9 rfl) hwS e0 hS0 (Nat.zero_le _) (g := (mkF m 1 #[.val (.ref a1)] [(.ref a1)])) rfl (hb hby d8_1) (n := 20) (by decide) (by decide) (by decide) (by decide)
  have f197 := V_a1.ext E196
  have f198 := E_a1.ext E196
  have z199 := Nat.le_trans Z0 E196.1
  have K200 := K0.ext E196
  refine Rch.go (U' := T196.setTop (mkF m 3 #[.val (.ref a1)] [(.ref b196), (.ref a1)])) st196 ?_
  obtain ⟨_, _, ⟨T201, L201, k201, n201⟩, -, X201, ⟨Lc201, hQ201, l201, y201, z201⟩, st201⟩ := Jvm.LawKit.callS X196 hx (y := (⟨"java/util/Objects", "requireNonNull", "(Ljava/lang/Object;Ljava/lang/String;)Ljava/lang/Object;"⟩ : MethodName)) hown (mvT hZ (wi hw 16 rfl)) (mvT hZ (wi hw 17 rfl)) (mvT hZ (wi hw 18 rfl)) (mvT hZ (wi hw 19 rfl)) (by decide) (backOf (W := 0) (rmNN l Z a0 hw [] a1 b196 h196 n0 z199 ) hZ (wi hw 19 rfl) (wi hw 18 rfl) (by decide) (by decide)) (g := (mkF m 3 #[.val (.ref a1)] [(.ref b196), (.ref a1)])) rfl (by rw [hml]; rfl) (argsL := [(.ref a1), (.ref b196)]) (rest := []) (lenOf pd_5 rfl) rfl (by show 2 * 0 + _ ≤ _; exact Nat.le_of_eq rfl) (hb hby d8_3) (fun _ _ => ⟨rfl, e196, (by decide : 2 + 0 ≤ _), (by decide : 24 + 0 ≤ _)⟩)
  dsimp only [Pt.U, Pt.locs, Pt.cells, Pt.slots] at X201 l201 y201 z201 st201 hQ201
  subst l201 y201 z201
  obtain ⟨rfl, N201q, e201⟩ := hQ201
  have N201 := Fr.app N0 N201q
  refine Rch.go (U' := T201.setTop (mkF m 6 #[.val (.ref a1)] [(.ref a1)])) st201 ?_
  refine Rch.go (U' := T201.setTop (mkF m 7 #[.val (.ref a1)] [])) (fun _ k => XS.pop X201.here hx rfl (hb hby d8_6) rfl rfl k) ?_
  obtain ⟨T202, h202, X202, e202, E202, A202, D202, -, st202⟩ := newO X201 hx hZ hown (wi hw 20 rfl) (wi hw 21 rfl) (wi hw 7 rfl) e201 (g := (mkF m 7 #[.val (.ref a1)] [])) rfl (hb hby d8_7) (by decide) (by decide)
  obtain ⟨b202, g202⟩ : ∃ z, z = h196.size := ⟨_, rfl⟩
  rw [← g202] at A202 D202 st202
  have ne203 : a1 ≠ b202 := Nat.ne_of_lt (Nat.lt_of_lt_of_le f197.lt (Nat.le_of_eq g202.symm))
  have n0b202 : n0 ≤ b202 := Nat.le_trans z199 (Nat.le_of_eq g202.symm)
  have szb202 : h0.size ≤ b202 := Nat.le_trans K200.1 (Nat.le_of_eq g202.symm)
  have f204 := f197.ext E202
  have f205 := f198.ext E202
  have z206 := Nat.le_trans z199 E202.1
  have hk207 := Nat.le_trans hk196 E202.1
  have K208 := K200.ext E202
  have F202_bytes : Fld Z h202 b202 "com/example/cellmark/cellmark/model/ByteString" "bytes" "[B" .null := D202 (Or.inr (wi hw 38 rfl)) (ty := (.array .byte)) (by decide)
  refine Rch.go (U' := T202.setTop (mkF m 10 #[.val (.ref a1)] [(.ref b202)])) st202 ?_
  refine Rch.go (U' := T202.setTop (mkF m 11 #[.val (.ref a1)] [(.ref b202), (.ref b202)])) (fun _ k => XS.dup X202.here hx rfl (hb hby d8_10) rfl rfl k) ?_
  refine Rch.go (U' := T202.setTop (mkF m 12 #[.val (.ref a1)] [(.ref a1), (.ref b202), (.ref b202)])) (fun _ k => XS.aloadN X202.here hx rfl (hb hby d8_11) rfl rfl k) ?_
  obtain ⟨T209, h209, X209, e209, E209, V209, Ex209, st209⟩ := cloneH X202 hx hZ hown (wi hw 22 rfl) (wi hw 23 rfl) (wi hw 27 rfl) (wi hw 25 rfl) (wi hw 26 rfl) (wi hw 28 rfl) e202 f204.arh f205 (g := (mkF m 12 #[.val (.ref a1)] [(.ref a1), (.ref b202), (.ref b202)])) rfl (by rw [hml]; rfl) rfl (hb hby d8_12) (by decide) (W := 2) (cap := 2) (by show 2 * 0 + _ ≤ _; exact Nat.le_of_eq rfl) (by decide) (by decide) (by decide) (by decide)
  obtain ⟨b209, g209⟩ : ∃ z, z = h202.size := ⟨_, rfl⟩
  rw [← g209] at V209 Ex209 st209
  have Vc209 : Arv Z h209 b209 k1 .byte (2 : Int32) [(.int x0), (.int x1)] (.int (0 : Int32)) := V209
  have ne210 : a1 ≠ b209 := Nat.ne_of_lt (Nat.lt_of_lt_of_le f204.lt (Nat.le_of_eq g209.symm))
  have ne211 : b202 ≠ b209 := Nat.ne_of_lt (Nat.lt_of_lt_of_le A202.lt (Nat.le_of_eq g209.symm))
  have n0b209 : n0 ≤ b209 := Nat.le_trans z206 (Nat.le_of_eq g209.symm)
  have szb209 : h0.size ≤ b209 := Nat.le_trans K208.1 (Nat.le_of_eq g209.symm)
  have f212 := f204.ext E209
  have f213 := f205.ext E209
  have f214 := A202.ext E209
  have f215 := F202_bytes.ext E209
  have z216 := Nat.le_trans z206 E209.1
  have hk217 := Nat.le_trans hk207 E209.1
  have K218 := K208.ext E209
  refine Rch.go (U' := T209.setTop (mkF m 15 #[.val (.ref a1)] [(.ref b209), (.ref b202), (.ref b202)])) st209 ?_
  obtain ⟨T219, X219, e219, st219⟩ := castY X209 hx hZ hown (wi hw 29 rfl) e209 (Ins.self Ex209) (g := (mkF m 15 #[.val (.ref a1)] [(.ref b209), (.ref b202), (.ref b202)])) rfl rfl (hb hby d8_15)
  refine Rch.go (U' := T219.setTop (mkF m 18 #[.val (.ref a1)] [(.ref b209), (.ref b202), (.ref b202)])) st219 ?_
  obtain ⟨_, _, ⟨T220, L220, k220, n220⟩, -, X220, ⟨Lc220, hQ220, l220, y220, z220⟩, st220⟩ := X219.specialBack hx (y := (⟨"com/example/cellmark/cellmark/model/ByteString", "<init>", "([B)V"⟩ : MethodName)) rfl hown (mvT hZ (wi hw 31 rfl)) (mvT hZ (wi hw 32 rfl)) (mvT hZ (wi hw 33 rfl)) (by decide) (backOf (W := 1) (rmNew l Z a0 hw [] b202 b209 h209 n0 z216 f214 f215 n0b202) hZ (wi hw 33 rfl) (wi hw 7 rfl) (by decide) (by decide)) (g := (mkF m 18 #[.val (.ref a1)] [(.ref b209), (.ref b202), (.ref b202)])) rfl (by rw [hml]; rfl) (Steps.refl _) (a := b202) (argsL := [(.ref b209)]) (rest := [(.ref b202)]) (lenOf pd_7 rfl) rfl (by show 2 * 0 + _ ≤ _; exact Nat.le_of_eq rfl) (hb hby d8_18) (fun _ _ => ⟨rfl, e219, (by decide : 4 + 0 ≤ _), (by decide : 27 + 0 ≤ _)⟩)
  dsimp only [Pt.U, Pt.locs, Pt.cells, Pt.slots] at X220 l220 y220 z220 st220 hQ220
  subst l220 y220 z220
  obtain ⟨rfl, N220q, K220q, F220_bytes⟩ := hQ220
  have N220 := Fr.app N201 N220q
  have z221 := Nat.le_trans z216 K220q.1
  have hk222 := Nat.le_trans hk217 K220q.1
  have f223 := f212.keep K220q (ninS ne203 nin0)
  have f224 := f213.keep K220q
  have f225 := f214.keep K220q
  have f226 := Ex209.keep K220q
  have f227 := Vc209.keep K220q (ninS (Ne.symm ne211) nin0)
  have K228 := K218.trans K220q (allS (Or.inr szb202) all0)
  refine Rch.to (U' := T220.setTop (mkF m 21 #[.val (.ref a1)] [(.ref b202)])) st220 ?_
  refine Rch.finW (s := s) X220 hlk (v := some (.ref b202)) (fun h => by rw [hret] at h; cases h) rfl (by decide) (by decide) hS196 hk222 (fun fs hr => retOut X220 hx hret rfl (Or.inr (Or.inr (Or.inr (Or.inr ⟨rfl, rfl, rfl⟩)))) (hb hby d8_21) hr) ?_
  exact ⟨b202, b209, rfl, N220, K228, n0b202, n0b209, szb202, szb209, f225, F220_bytes, f226, f227⟩
theorem ef_rmT2 (m : MethodId) (a1 : Addr) : entryFrame m #[(.ref a1)] 1 = mkF m 0 #[.val (.ref a1)] [] := by first | (simp [entryFrame, mkF, argsToLocals, Value.category]; done) | rfl
def Q_rmT2 (Z : State) (a1 : Addr) (t : Addr) (k1 : ClassId) (x0 : Int32) (x1 : Int32) (h0 : Heap) (n0 : Nat) (v : Option Value) (h : Heap) (L : List Loc) : Prop := ∃ (b : Addr), v = some (.ref b) ∧ Fr n0 L ∧ Keep h0 h [] ∧ n0 ≤ b ∧ h0.size ≤ b ∧ Arv Z h b k1 .byte (2 : Int32) [(.int x0), (.int x1)] (.int (0 : Int32))
set_option maxRecDepth 65536 in
set_option maxHeartbeats 40000000 in
theorem rmT2 (l : Launch) (Z : State) (a0 : Array Value) (hw : ∀ d ∈ tables_1, d.before a0 Z = true) (ws : List Jvm.Cond) (a1 : Addr) (t : Addr) (k1 : ClassId) (x0 : Int32) (x1 : Int32) (h0 : Heap) (n0 : Nat) (Z0 : n0 ≤ h0.size) (F_a1 : Fld Z h0 a1 "com/example/cellmark/cellmark/model/ByteString" "bytes" "[B" (.ref t)) (E_a1 : Exa Z h0 a1 "com/example/cellmark/cellmark/model/ByteString") (E_t : Exa Z h0 t "[B") (V_t : Arv Z h0 t k1 .byte (2 : Int32) [(.int x0), (.int x1)] (.int (0 : Int32))) :
    MetFree l (⟨"com/example/cellmark/cellmark/model/ByteString", "toByteArray", "()[B"⟩ : MethodName) (head1 (Jvm.Cond.code (⟨"com/example/cellmark/cellmark/model/ByteString", "toByteArray", "()[B"⟩ : MethodName) prog_5_method_6_code 1 (some (.array .byte)) :: ws) ({ frames := 1, cells := 1, slots := 2, locals := 14 } : Room)) (fun a U => a = #[(.ref a1)] ∧ Z.Warmed39 U.vm ∧ U.heap = h0) (fun _ _ _ _ _ => True) (fun _ U o U' => ∃ v L, o = .returned v ∧ Q_rmT2 Z a1 t k1 x0 x1 h0 n0 v U'.heap L ∧ FrameEnd U o U' L ({ frames := 1, cells := 1, slots := 2, locals := 14 } : Room).cells ({ frames := 1, cells := 1, slots := 2, locals := 14 } : Room).slots) := by
  refine MetFree.of_bodySF (plainFor_of_name pn_com_example_cellmark_cellmark_model_ByteString) hisR ?_
  intro p e s m args below meth c s₁ Bd hml0 hP hK
  obtain ⟨rfl, hZ, hh⟩ := hP
  have hx := Bd.exec
  have hby := Bd.bytes
  have hml : c.maxLocals = 1 := hml0
  have hown : s.vm.findClass "com/example/cellmark/cellmark/model/ByteString" = some m.cls := findClass_of_methodNamed Bd.named
  have hnm := (name_of_methodNamed Bd.named Bd.method).1
  have hret := Bd.returns
  have hlk : meth.locks = false := BodyLoose.notSynchronized Bd
  have X0 : Stand p l e ({ frames := 1, cells := 1, slots := 2, locals := 14 } : Room) s m #[(.ref a1)] below meth c s₁ [] 0 0 := Stand.of_body Bd
  have e0 : s₁.heap = h0 := by rw [← hh, Bd.state]; rfl
  have N0 := Fr.nil n0
  have K0 := Keep.refl h0 []
  refine Rch.body (Q := Q_rmT2 Z a1 t k1 x0 x1 h0 n0) (U' := s₁.setTop (mkF m 0 #[.val (.ref a1)] [])) (fun t k => castTop (ef_rmT2 m a1) k) ?_
  refine Rch.go (U' := s₁.setTop (mkF m 1 #[.val (.ref a1)] [(.ref a1)])) (fun _ k => XS.aloadN X0.here hx rfl (hb hby d43_0) rfl rfl k) ?_
  obtain ⟨T229, X229, e229, st229⟩ := getF X0 hx hZ hown (host := "") (Or.inl (wi hw 37 rfl)) Via.refl e0 F_a1 (g := (mkF m 1 #[.val (.ref a1)] [(.ref a1)])) rfl rfl (hb hby d43_1)
  refine Rch.go (U' := T229.setTop (mkF m 4 #[.val (.ref a1)] [(.ref t)])) st229 ?_
  obtain ⟨T230, h230, X230, e230, E230, V230, Ex230, st230⟩ := cloneH X229 hx hZ hown (wi hw 22 rfl) (wi hw 23 rfl) (wi hw 27 rfl) (wi hw 25 rfl) (wi hw 26 rfl) (wi hw 28 rfl) e229 V_t.arh E_t (g := (mkF m 4 #[.val (.ref a1)] [(.ref t)])) rfl (by rw [hml]; rfl) rfl (hb hby d43_4) (by decide) (W := 0) (cap := 2) (by show 2 * 0 + _ ≤ _; exact Nat.le_of_eq rfl) (by decide) (by decide) (by decide) (by decide)
  obtain ⟨b230, g230⟩ : ∃ z, z = h0.size := ⟨_, rfl⟩
  rw [← g230] at V230 Ex230 st230
  have Vc230 : Arv Z h230 b230 k1 .byte (2 : Int32) [(.int x0), (.int x1)] (.int (0 : Int32)) := V230
  have ne231 : a1 ≠ b230 := Nat.ne_of_lt (Nat.lt_of_lt_of_le E_a1.lt (Nat.le_of_eq g230.symm))
  have ne232 : t ≠ b230 := Nat.ne_of_lt (Nat.lt_of_lt_of_le V_t.lt (Nat.le_of_eq g230.symm))
  have n0b230 : n0 ≤ b230 := Nat.le_trans Z0 (Nat.le_of_eq g230.symm)
  have szb230 : h0.size ≤ b230 := Nat.le_trans K0.1 (Nat.le_of_eq g230.symm)
  have f233 := E_a1.ext E230
  have f234 := F_a1.ext E230
  have f235 := V_t.ext E230
  have f236 := E_t.ext E230
  have z237 := Nat.le_trans Z0 E230.1
  have K238 := K0.ext E230
  refine Rch.go (U' := T230.setTop (mkF m 7 #[.val (.ref a1)] [(.ref b230)])) st230 ?_
  obtain ⟨T239, X239, e239, st239⟩ := castY X230 hx hZ hown (wi hw 29 rfl) e230 (Ins.self Ex230) (g := (mkF m 7 #[.val (.ref a1)] [(.ref b230)])) rfl rfl (hb hby d43_7)
  refine Rch.go (U' := T239.setTop (mkF m 10 #[.val (.ref a1)] [(.ref b230)])) st239 ?_
  refine Rch.fin X239 hlk (v := some (.ref b230)) (fun h => by rw [hret] at h; cases h) e239 (by decide) (by decide) (fun fs hr => retOut X239 hx hret rfl (Or.inr (Or.inr (Or.inr (Or.inr ⟨rfl, rfl, rfl⟩)))) (hb hby d43_10) hr) ?_
  exact ⟨b230, rfl, N0, K238, n0b230, szb230, Vc230⟩
theorem ef_rmS2 (m : MethodId) (a1 : Addr) : entryFrame m #[(.ref a1)] 1 = mkF m 0 #[.val (.ref a1)] [] := by first | (simp [entryFrame, mkF, argsToLocals, Value.category]; done) | rfl
def Q_rmS2 (Z : State) (a1 : Addr) (t : Addr) (k1 : ClassId) (x0 : Int32) (x1 : Int32) (h0 : Heap) (n0 : Nat) (v : Option Value) (h : Heap) (L : List Loc) : Prop := v = some (.int (2 : Int32)) ∧ Fr n0 L ∧ h = h0
set_option maxRecDepth 65536 in
set_option maxHeartbeats 40000000 in
theorem rmS2 (l : Launch) (Z : State) (a0 : Array Value) (hw : ∀ d ∈ tables_1, d.before a0 Z = true) (ws : List Jvm.Cond) (a1 : Addr) (t : Addr) (k1 : ClassId) (x0 : Int32) (x1 : Int32) (h0 : Heap) (n0 : Nat) (Z0 : n0 ≤ h0.size) (F_a1 : Fld Z h0 a1 "com/example/cellmark/cellmark/model/ByteString" "bytes" "[B" (.ref t)) (E_a1 : Exa Z h0 a1 "com/example/cellmark/cellmark/model/ByteString") (E_t : Exa Z h0 t "[B") (V_t : Arv Z h0 t k1 .byte (2 : Int32) [(.int x0), (.int x1)] (.int (0 : Int32))) :
    MetFree l (⟨"com/example/cellmark/cellmark/model/ByteString", "size", "()I"⟩ : MethodName) (head1 (Jvm.Cond.code (⟨"com/example/cellmark/cellmark/model/ByteString", "size", "()I"⟩ : MethodName) prog_5_method_5_code 1 (some .int) :: ws) ({ frames := 0, cells := 0, slots := 0, locals := 0 } : Room)) (fun a U => a = #[(.ref a1)] ∧ Z.Warmed39 U.vm ∧ U.heap = h0) (fun _ _ _ _ _ => True) (fun _ U o U' => ∃ v L, o = .returned v ∧ Q_rmS2 Z a1 t k1 x0 x1 h0 n0 v U'.heap L ∧ FrameEnd U o U' L ({ frames := 0, cells := 0, slots := 0, locals := 0 } : Room).cells ({ frames := 0, cells := 0, slots := 0, locals := 0 } : Room).slots) := by
  refine MetFree.of_bodySF (plainFor_of_name pn_com_example_cellmark_cellmark_model_ByteString) hisR ?_
  intro p e s m args below meth c s₁ Bd hml0 hP hK
  obtain ⟨rfl, hZ, hh⟩ := hP
  have hx := Bd.exec
  have hby := Bd.bytes
  have hml : c.maxLocals = 1 := hml0
  have hown : s.vm.findClass "com/example/cellmark/cellmark/model/ByteString" = some m.cls := findClass_of_methodNamed Bd.named
  have hnm := (name_of_methodNamed Bd.named Bd.method).1
  have hret := Bd.returns
  have hlk : meth.locks = false := BodyLoose.notSynchronized Bd
  have X0 : Stand p l e ({ frames := 0, cells := 0, slots := 0, locals := 0 } : Room) s m #[(.ref a1)] below meth c s₁ [] 0 0 := Stand.of_body Bd
  have e0 : s₁.heap = h0 := by rw [← hh, Bd.state]; rfl
  have N0 := Fr.nil n0
  refine Rch.body (Q := Q_rmS2 Z a1 t k1 x0 x1 h0 n0) (U' := s₁.setTop (mkF m 0 #[.val (.ref a1)] [])) (fun t k => castTop (ef_rmS2 m a1) k) ?_
  refine Rch.go (U' := s₁.setTop (mkF m 1 #[.val (.ref a1)] [(.ref a1)])) (fun _ k => XS.aloadN X0.here hx rfl (hb hby d48_0) rfl rfl k) ?_
  obtain ⟨T240, X240, e240, st240⟩ := getF X0 hx hZ hown (host := "") (Or.inl (wi hw 37 rfl)) Via.refl e0 F_a1 (g := (mkF m 1 #[.val (.ref a1)] [(.ref a1)])) rfl rfl (hb hby d48_1)
  refine Rch.go (U' := T240.setTop (mkF m 4 #[.val (.ref a1)] [(.ref t)])) st240 ?_
  obtain ⟨c241, Ar241, -, S241, M241, -, -⟩ := id V_t
  refine Rch.go (U' := T240.setTop (mkF m 5 #[.val (.ref a1)] [(.int c241.slots.size.toInt32)])) (fun _ k => X240.arraylength hx (by rw [e240]; exact Ar241.1) (State.isArrayOf_alike hZ.alike Ar241.2.1) (g := (mkF m 4 #[.val (.ref a1)] [(.ref t)])) rfl rfl (hb hby d48_4) _ k) ?_
  rw [len_of S241 M241]
  refine Rch.fin X240 hlk (v := some (.int (2 : Int32))) (fun h => by rw [hret] at h; cases h) e240 (by decide) (by decide) (fun fs hr => retI X240 hx hret (hb hby d48_5) hr) ?_
  exact ⟨rfl, N0, rfl⟩
set_option maxRecDepth 65536 in
set_option maxHeartbeats 40000000 in
theorem cut17_2 {p : Program} {l : Launch} {e : Env} {s : State} {m : MethodId} {args : Array Value} {below : List Frame} {meth : Method} {c : Code} {T0 : State} {locs : List Loc} {Z : State} {a0 : Array Value} {h0 : Heap} {n0 : Nat}  (p1 : Int32) (p2 : Int32) (p3 : Int32) (p4 : Int32) (x0 : Int32) (x1 : Int32) (x2 : Int32)
    (X0 : Stand p l e room_1 s m args below meth c T0 locs 0 0) (hx : p.tables.exec = Jvm.exec) (hZ : Z.Warmed39 s.vm) (hw : ∀ d ∈ tables_1, d.before a0 Z = true) (hby : c.code = code) (hml : c.maxLocals = 11) (hown : s.vm.findClass "com/example/cellmark/cellmark/model/ByteStringCopyOfPinLaw" = some m.cls) (hret : meth.sig.returnType = some .boolean) (hlk : meth.locks = false) (e0 : T0.heap = h0) (N0 : Fr n0 locs) (Z0 : n0 ≤ h0.size) (hx0 : nar .byte x0 = x0) (hx1 : nar .byte x1 = x1) (hx2 : nar .byte x2 = x2) :
    Rch p e below (FinW s below (fun v h L => v = some (.int 1) ∧ Fr n0 L) 24 1152) (T0.setTop (mkF m 17 #[.val (.int p1), .val (.int p2), .val (.int p3), .val (.int p4), .val (.int (2 : Int32)), .val (.int x0), .val (.int x1), .val (.int x2), .unset, .unset, .unset] [])) := by
  refine Rch.go (U' := T0.setTop (mkF m 19 #[.val (.int p1), .val (.int p2), .val (.int p3), .val (.int p4), .val (.int (2 : Int32)), .val (.int x0), .val (.int x1), .val (.int x2), .unset, .unset, .unset] [(.int (2 : Int32))])) (fun _ k => XS.iload X0.here hx rfl (hb hby at_17) rfl  k) ?_
  refine Rch.go (U' := T0.setTop (mkF m 21 #[.val (.int p1), .val (.int p2), .val (.int p3), .val (.int p4), .val (.int (2 : Int32)), .val (.int x0), .val (.int x1), .val (.int x2), .unset, .unset, .unset] [(.int x0), (.int (2 : Int32))])) (fun _ k => XS.iload X0.here hx rfl (hb hby at_19) rfl  k) ?_
  refine Rch.go (U' := T0.setTop (mkF m 23 #[.val (.int p1), .val (.int p2), .val (.int p3), .val (.int p4), .val (.int (2 : Int32)), .val (.int x0), .val (.int x1), .val (.int x2), .unset, .unset, .unset] [(.int x1), (.int x0), (.int (2 : Int32))])) (fun _ k => XS.iload X0.here hx rfl (hb hby at_21) rfl  k) ?_
  refine Rch.go (U' := T0.setTop (mkF m 25 #[.val (.int p1), .val (.int p2), .val (.int p3), .val (.int p4), .val (.int (2 : Int32)), .val (.int x0), .val (.int x1), .val (.int x2), .unset, .unset, .unset] [(.int x2), (.int x1), (.int x0), (.int (2 : Int32))])) (fun _ k => XS.iload X0.here hx rfl (hb hby at_23) rfl  k) ?_
  obtain ⟨_, _, ⟨T242, L242, k242, n242⟩, -, X242, ⟨Lc242, hQ242, l242, y242, z242⟩, st242⟩ := Jvm.LawKit.callS X0 hx (y := (⟨"com/example/cellmark/cellmark/model/ByteStringCopyOfPinLaw", "make", "(IBBB)[B"⟩ : MethodName)) hown (mvT hZ (wi hw 0 rfl)) (mvT hZ (wi hw 1 rfl)) (mvT hZ (wi hw 2 rfl)) (mvT hZ (wi hw 3 rfl)) (by decide) (backOf (W := 0) (rmM2 l Z a0 hw [] x0 x1 x2 h0 n0 Z0 hx0 hx1 hx2) hZ (wi hw 3 rfl) (wi hw 2 rfl) (by decide) (by decide)) (g := (mkF m 25 #[.val (.int p1), .val (.int p2), .val (.int p3), .val (.int p4), .val (.int (2 : Int32)), .val (.int x0), .val (.int x1), .val (.int x2), .unset, .unset, .unset] [(.int x2), (.int x1), (.int x0), (.int (2 : Int32))])) rfl (by rw [hml]; rfl) (argsL := [(.int (2 : Int32)), (.int x0), (.int x1), (.int x2)]) (rest := []) (lenOf pd_10 rfl) rfl (by show 2 * 0 + _ ≤ _; exact Nat.le_of_eq rfl) (hb hby at_25) (fun _ _ => ⟨rfl, e0, (by decide : 0 + 1 ≤ _), (by decide : 0 + 2 ≤ _)⟩)
  dsimp only [Pt.U, Pt.locs, Pt.cells, Pt.slots] at X242 l242 y242 z242 st242 hQ242
  subst l242 y242 z242
  obtain ⟨b242, kb242, rfl, N242q, K242q, g242, s242, Ex242, V242⟩ := hQ242
  have N242 := Fr.app N0 N242q
  have z243 := Nat.le_trans Z0 K242q.1
  refine Rch.go (U' := T242.setTop (mkF m 28 #[.val (.int p1), .val (.int p2), .val (.int p3), .val (.int p4), .val (.int (2 : Int32)), .val (.int x0), .val (.int x1), .val (.int x2), .unset, .unset, .unset] [(.ref b242)])) st242 ?_
  refine Rch.go (U' := T242.setTop (mkF m 30 #[.val (.int p1), .val (.int p2), .val (.int p3), .val (.int p4), .val (.int (2 : Int32)), .val (.int x0), .val (.int x1), .val (.int x2), .val (.ref b242), .unset, .unset] [])) (fun _ k => XS.astore X242.here hx rfl (hb hby at_28) rfl rfl (l' := #[.val (.int p1), .val (.int p2), .val (.int p3), .val (.int p4), .val (.int (2 : Int32)), .val (.int x0), .val (.int x1), .val (.int x2), .val (.ref b242), .unset, .unset]) rfl k) ?_
  refine Rch.go (U' := T242.setTop (mkF m 32 #[.val (.int p1), .val (.int p2), .val (.int p3), .val (.int p4), .val (.int (2 : Int32)), .val (.int x0), .val (.int x1), .val (.int x2), .val (.ref b242), .unset, .unset] [(.ref b242)])) (fun _ k => XS.aload X242.here hx rfl (hb hby at_30) rfl rfl k) ?_
  obtain ⟨_, _, ⟨T244, L244, k244, n244⟩, -, X244, hS244, hgr244, ⟨Lc244, hQ244, l244, y244, z244⟩, st244⟩ := callSS X242 hx (y := (⟨"com/example/cellmark/cellmark/model/ByteString", "copyOf", "([B)Lcom/example/cellmark/cellmark/model/ByteString;"⟩ : MethodName)) hown (mvT hZ (wi hw 5 rfl)) (mvT hZ (wi hw 6 rfl)) (mvT hZ (wi hw 7 rfl)) (mvT hZ (wi hw 8 rfl)) (by decide) (backOfS (W := 0) (rmC2 l Z a0 hw [] b242 kb242 x0 x1 T242.heap n0 z243 Ex242 V242) hZ (wi hw 8 rfl) (wi hw 7 rfl) (by decide) (by decide)) (g := (mkF m 32 #[.val (.int p1), .val (.int p2), .val (.int p3), .val (.int p4), .val (.int (2 : Int32)), .val (.int x0), .val (.int x1), .val (.int x2), .val (.ref b242), .unset, .unset] [(.ref b242)])) rfl (by rw [hml]; rfl) (argsL := [(.ref b242)]) (rest := []) (lenOf pd_11 rfl) rfl (by show 2 * 0 + _ ≤ _; exact Nat.le_of_eq rfl) (hb hby at_32) (fun _ _ => ⟨rfl, rfl, (by decide : 1 + 4 ≤ _), (by decide : 2 + 27 ≤ _)⟩)
  dsimp only [Pt.U, Pt.locs, Pt.cells, Pt.slots] at X244 l244 y244 z244 st244 hQ244 hS244 hgr244
  subst l244 y244 z244
  have hZ : Z.Warmed39 (s.setVm T244.vm).vm := State.Warmed39.trans hZ hS244.1
  have hown : (s.setVm T244.vm).vm.findClass "com/example/cellmark/cellmark/model/ByteStringCopyOfPinLaw" = some m.cls := by rw [show (s.setVm T244.vm).vm = T244.vm from rfl, hS244.1.alike.findClass]; exact hown
  obtain ⟨b244, t244, rfl, N244q, K244q, gb244, gt244, sb244, sx244, Eb244, Fb244, Et244, V244⟩ := hQ244
  have N244 := Fr.app N242 N244q
  have z245 := Nat.le_trans z243 K244q.1
  have f246 := Ex242.keep K244q
  have f247 := V242.keep K244q nin0
  have ne248 : b242 ≠ b244 := Nat.ne_of_lt (Nat.lt_of_lt_of_le V242.lt sb244)
  have ne249 : b242 ≠ t244 := Nat.ne_of_lt (Nat.lt_of_lt_of_le V242.lt sx244)
  refine Rch.to (U' := T244.setTop (mkF m 35 #[.val (.int p1), .val (.int p2), .val (.int p3), .val (.int p4), .val (.int (2 : Int32)), .val (.int x0), .val (.int x1), .val (.int x2), .val (.ref b242), .unset, .unset] [(.ref b244)])) st244 ?_
  refine Rch.go (U' := T244.setTop (mkF m 37 #[.val (.int p1), .val (.int p2), .val (.int p3), .val (.int p4), .val (.int (2 : Int32)), .val (.int x0), .val (.int x1), .val (.int x2), .val (.ref b242), .val (.ref b244), .unset] [])) (fun _ k => XS.astore X244.here hx rfl (hb hby at_35) rfl rfl (l' := #[.val (.int p1), .val (.int p2), .val (.int p3), .val (.int p4), .val (.int (2 : Int32)), .val (.int x0), .val (.int x1), .val (.int x2), .val (.ref b242), .val (.ref b244), .unset]) rfl k) ?_
  refine Rch.go (U' := T244.setTop (mkF m 39 #[.val (.int p1), .val (.int p2), .val (.int p3), .val (.int p4), .val (.int (2 : Int32)), .val (.int x0), .val (.int x1), .val (.int x2), .val (.ref b242), .val (.ref b244), .unset] [(.int (2 : Int32))])) (fun _ k => XS.iload X244.here hx rfl (hb hby at_37) rfl  k) ?_
  have br250 : (0 : Int32) < (2 : Int32) := (by decide)
  refine Rch.go (U' := T244.setTop (mkF m 42 #[.val (.int p1), .val (.int p2), .val (.int p3), .val (.int p4), .val (.int (2 : Int32)), .val (.int x0), .val (.int x1), .val (.int x2), .val (.ref b242), .val (.ref b244), .unset] [])) (fun _ k => XS.ifNo X244.here hx rfl (hb hby at_39) rfl (XT.i0_le_f br250) k) ?_
  refine Rch.go (U' := T244.setTop (mkF m 44 #[.val (.int p1), .val (.int p2), .val (.int p3), .val (.int p4), .val (.int (2 : Int32)), .val (.int x0), .val (.int x1), .val (.int x2), .val (.ref b242), .val (.ref b244), .unset] [(.ref b242)])) (fun _ k => XS.aload X244.here hx rfl (hb hby at_42) rfl rfl k) ?_
  refine Rch.go (U' := T244.setTop (mkF m 45 #[.val (.int p1), .val (.int p2), .val (.int p3), .val (.int p4), .val (.int (2 : Int32)), .val (.int x0), .val (.int x1), .val (.int x2), .val (.ref b242), .val (.ref b244), .unset] [(.int (0 : Int32)), (.ref b242)])) (fun _ k => XS.iconst X244.here hx rfl (hb hby at_44) k) ?_
  refine Rch.go (U' := T244.setTop (mkF m 47 #[.val (.int p1), .val (.int p2), .val (.int p3), .val (.int p4), .val (.int (2 : Int32)), .val (.int x0), .val (.int x1), .val (.int x2), .val (.ref b242), .val (.ref b244), .unset] [(.ref b242), (.int (0 : Int32)), (.ref b242)])) (fun _ k => XS.aload X244.here hx rfl (hb hby at_45) rfl rfl k) ?_
  refine Rch.go (U' := T244.setTop (mkF m 48 #[.val (.int p1), .val (.int p2), .val (.int p3), .val (.int p4), .val (.int (2 : Int32)), .val (.int x0), .val (.int x1), .val (.int x2), .val (.ref b242), .val (.ref b244), .unset] [(.int (0 : Int32)), (.ref b242), (.int (0 : Int32)), (.ref b242)])) (fun _ k => XS.iconst X244.here hx rfl (hb hby at_47) k) ?_
  obtain ⟨c251, Ar251, q251, S251, M251, Hs251, G251⟩ := id f247
  have i251 : ¬ ((0 : Int32) < 0 ∨ c251.slots.size ≤ ((0 : Int32)).toNatClampNeg) := inb_of S251 ⟨by decide, by decide⟩
  have a251 : c251.slots[((0 : Int32)).toNatClampNeg]? = some (.int x0) := Has.at Hs251 i251 rfl
  refine Rch.go (U' := T244.setTop (mkF m 49 #[.val (.int p1), .val (.int p2), .val (.int p3), .val (.int p4), .val (.int (2 : Int32)), .val (.int x0), .val (.int x1), .val (.int x2), .val (.ref b242), .val (.ref b244), .unset] [(.int x0), (.int (0 : Int32)), (.ref b242)])) (fun _ k => X244.baloadBytes hx (j := (0 : Int32)) (v := (.int x0)) Ar251.1 (State.isArrayOf_alike hZ.alike Ar251.2.1) Ar251.2.2 i251 a251 (g := (mkF m 48 #[.val (.int p1), .val (.int p2), .val (.int p3), .val (.int p4), .val (.int (2 : Int32)), .val (.int x0), .val (.int x1), .val (.int x2), .val (.ref b242), .val (.ref b244), .unset] [(.int (0 : Int32)), (.ref b242), (.int (0 : Int32)), (.ref b242)])) rfl rfl (hb hby at_48) _ k) ?_
  refine Rch.go (U' := T244.setTop (mkF m 50 #[.val (.int p1), .val (.int p2), .val (.int p3), .val (.int p4), .val (.int (2 : Int32)), .val (.int x0), .val (.int x1), .val (.int x2), .val (.ref b242), .val (.ref b244), .unset] [(.int (-1 : Int32)), (.int x0), (.int (0 : Int32)), (.ref b242)])) (fun _ k => XS.iconst X244.here hx rfl (hb hby at_49) k) ?_
  refine Rch.go (U' := T244.setTop (mkF m 51 #[.val (.int p1), .val (.int p2), .val (.int p3), .val (.int p4), .val (.int (2 : Int32)), .val (.int x0), .val (.int x1), .val (.int x2), .val (.ref b242), .val (.ref b244), .unset] [(.int (x0 ^^^ (-1 : Int32))), (.int (0 : Int32)), (.ref b242)])) (fun _ k => XS.ixor X244.here hx rfl (hb hby at_50) rfl k) ?_
  refine Rch.go (U' := T244.setTop (mkF m 52 #[.val (.int p1), .val (.int p2), .val (.int p3), .val (.int p4), .val (.int (2 : Int32)), .val (.int x0), .val (.int x1), .val (.int x2), .val (.ref b242), .val (.ref b244), .unset] [(.int ((x0 ^^^ (-1 : Int32))).toInt8.toInt32), (.int (0 : Int32)), (.ref b242)])) (fun _ k => XS.i2b X244.here hx rfl (hb hby at_51) rfl k) ?_
  obtain ⟨c252, Ar252, q252, S252, M252, Hs252, G252⟩ := id f247
  have i252 : ¬ ((0 : Int32) < 0 ∨ c252.slots.size ≤ ((0 : Int32)).toNatClampNeg) := inb_of S252 ⟨by decide, by decide⟩
  obtain ⟨T252, h252, X252, e252, W252, st252⟩ := stB X244 hx hZ rfl Ar252 (j := (0 : Int32)) i252 (g := (mkF m 52 #[.val (.int p1), .val (.int p2), .val (.int p3), .val (.int p4), .val (.int (2 : Int32)), .val (.int x0), .val (.int x1), .val (.int x2), .val (.ref b242), .val (.ref b244), .unset] [(.int ((x0 ^^^ (-1 : Int32))).toInt8.toInt32), (.int (0 : Int32)), (.ref b242)])) rfl rfl (hb hby at_52)
  have V252 : Arv Z h252 b242 kb242 .byte (2 : Int32) [(.int (nar .byte ((x0 ^^^ (-1 : Int32))).toInt8.toInt32)), (.int x1)] (.int (0 : Int32)) := Arv.set Ar252 q252 S252 M252 Hs252 G252 (fits_nar_byte _) W252 0 rfl (Nat.le_of_ble_eq_true rfl)
  have f253 := f246.wr W252
  have f254 := Eb244.wr W252
  have f255 := Fb244.other W252 (Or.inl (Ne.symm ne248))
  have f256 := Et244.wr W252
  have f257 := V244.other W252 (Ne.symm ne249)
  have N252 := Fr.snoc X252 N244 g242
  have z258 := Nat.le_trans z245 (Keep.of_wr W252).1
  have hk259 := Nat.le_trans (Nat.le_refl T244.heap.size) (Keep.of_wr W252).1
  refine Rch.go (U' := T252.setTop (mkF m 53 #[.val (.int p1), .val (.int p2), .val (.int p3), .val (.int p4), .val (.int (2 : Int32)), .val (.int x0), .val (.int x1), .val (.int x2), .val (.ref b242), .val (.ref b244), .unset] [])) st252 ?_
  refine Rch.go (U' := T252.setTop (mkF m 55 #[.val (.int p1), .val (.int p2), .val (.int p3), .val (.int p4), .val (.int (2 : Int32)), .val (.int x0), .val (.int x1), .val (.int x2), .val (.ref b242), .val (.ref b244), .unset] [(.int (2 : Int32))])) (fun _ k => XS.iload X252.here hx rfl (hb hby at_53) rfl  k) ?_
  refine Rch.go (U' := T252.setTop (mkF m 56 #[.val (.int p1), .val (.int p2), .val (.int p3), .val (.int p4), .val (.int (2 : Int32)), .val (.int x0), .val (.int x1), .val (.int x2), .val (.ref b242), .val (.ref b244), .unset] [(.int (1 : Int32)), (.int (2 : Int32))])) (fun _ k => XS.iconst X252.here hx rfl (hb hby at_55) k) ?_
  have br260 : (1 : Int32) < (2 : Int32) := (by decide)
  refine Rch.go (U' := T252.setTop (mkF m 59 #[.val (.int p1), .val (.int p2), .val (.int p3), .val (.int p4), .val (.int (2 : Int32)), .val (.int x0), .val (.int x1), .val (.int x2), .val (.ref b242), .val (.ref b244), .unset] [])) (fun _ k => XS.icmpNo X252.here hx rfl (hb hby at_56) rfl (XT.ii_le_f br260) k) ?_
  refine Rch.go (U' := T252.setTop (mkF m 61 #[.val (.int p1), .val (.int p2), .val (.int p3), .val (.int p4), .val (.int (2 : Int32)), .val (.int x0), .val (.int x1), .val (.int x2), .val (.ref b242), .val (.ref b244), .unset] [(.ref b242)])) (fun _ k => XS.aload X252.here hx rfl (hb hby at_59) rfl rfl k) ?_
  refine Rch.go (U' := T252.setTop (mkF m 62 #[.val (.int p1), .val (.int p2), .val (.int p3), .val (.int p4), .val (.int (2 : Int32)), .val (.int x0), .val (.int x1), .val (.int x2), .val (.ref b242), .val (.ref b244), .unset] [(.int (1 : Int32)), (.ref b242)])) (fun _ k => XS.iconst X252.here hx rfl (hb hby at_61) k) ?_
  refine Rch.go (U' := T252.setTop (mkF m 64 #[.val (.int p1), .val (.int p2), .val (.int p3), .val (.int p4), .val (.int (2 : Int32)), .val (.int x0), .val (.int x1), .val (.int x2), .val (.ref b242), .val (.ref b244), .unset] [(.ref b242), (.int (1 : Int32)), (.ref b242)])) (fun _ k => XS.aload X252.here hx rfl (hb hby at_62) rfl rfl k) ?_
  refine Rch.go (U' := T252.setTop (mkF m 65 #[.val (.int p1), .val (.int p2), .val (.int p3), .val (.int p4), .val (.int (2 : Int32)), .val (.int x0), .val (.int x1), .val (.int x2), .val (.ref b242), .val (.ref b244), .unset] [(.int (1 : Int32)), (.ref b242), (.int (1 : Int32)), (.ref b242)])) (fun _ k => XS.iconst X252.here hx rfl (hb hby at_64) k) ?_
  obtain ⟨c261, Ar261, q261, S261, M261, Hs261, G261⟩ := id V252
  have i261 : ¬ ((1 : Int32) < 0 ∨ c261.slots.size ≤ ((1 : Int32)).toNatClampNeg) := inb_of S261 ⟨by decide, by decide⟩
  have a261 : c261.slots[((1 : Int32)).toNatClampNeg]? = some (.int x1) := Has.at Hs261 i261 rfl
  refine Rch.go (U' := T252.setTop (mkF m 66 #[.val (.int p1), .val (.int p2), .val (.int p3), .val (.int p4), .val (.int (2 : Int32)), .val (.int x0), .val (.int x1), .val (.int x2), .val (.ref b242), .val (.ref b244), .unset] [(.int x1), (.int (1 : Int32)), (.ref b242)])) (fun _ k => X252.baloadBytes hx (j := (1 : Int32)) (v := (.int x1)) (by rw [e252]; exact Ar261.1) (State.isArrayOf_alike hZ.alike Ar261.2.1) Ar261.2.2 i261 a261 (g := (mkF m 65 #[.val (.int p1), .val (.int p2), .val (.int p3), .val (.int p4), .val (.int (2 : Int32)), .val (.int x0), .val (.int x1), .val (.int x2), .val (.ref b242), .val (.ref b244), .unset] [(.int (1 : Int32)), (.ref b242), (.int (1 : Int32)), (.ref b242)])) rfl rfl (hb hby at_65) _ k) ?_
  refine Rch.go (U' := T252.setTop (mkF m 67 #[.val (.int p1), .val (.int p2), .val (.int p3), .val (.int p4), .val (.int (2 : Int32)), .val (.int x0), .val (.int x1), .val (.int x2), .val (.ref b242), .val (.ref b244), .unset] [(.int (-1 : Int32)), (.int x1), (.int (1 : Int32)), (.ref b242)])) (fun _ k => XS.iconst X252.here hx rfl (hb hby at_66) k) ?_
  refine Rch.go (U' := T252.setTop (mkF m 68 #[.val (.int p1), .val (.int p2), .val (.int p3), .val (.int p4), .val (.int (2 : Int32)), .val (.int x0), .val (.int x1), .val (.int x2), .val (.ref b242), .val (.ref b244), .unset] [(.int (x1 ^^^ (-1 : Int32))), (.int (1 : Int32)), (.ref b242)])) (fun _ k => XS.ixor X252.here hx rfl (hb hby at_67) rfl k) ?_
  refine Rch.go (U' := T252.setTop (mkF m 69 #[.val (.int p1), .val (.int p2), .val (.int p3), .val (.int p4), .val (.int (2 : Int32)), .val (.int x0), .val (.int x1), .val (.int x2), .val (.ref b242), .val (.ref b244), .unset] [(.int ((x1 ^^^ (-1 : Int32))).toInt8.toInt32), (.int (1 : Int32)), (.ref b242)])) (fun _ k => XS.i2b X252.here hx rfl (hb hby at_68) rfl k) ?_
  obtain ⟨c262, Ar262, q262, S262, M262, Hs262, G262⟩ := id V252
  have i262 : ¬ ((1 : Int32) < 0 ∨ c262.slots.size ≤ ((1 : Int32)).toNatClampNeg) := inb_of S262 ⟨by decide, by decide⟩
  obtain ⟨T262, h262, X262, e262, W262, st262⟩ := stB X252 hx hZ e252 Ar262 (j := (1 : Int32)) i262 (g := (mkF m 69 #[.val (.int p1), .val (.int p2), .val (.int p3), .val (.int p4), .val (.int (2 : Int32)), .val (.int x0), .val (.int x1), .val (.int x2), .val (.ref b242), .val (.ref b244), .unset] [(.int ((x1 ^^^ (-1 : Int32))).toInt8.toInt32), (.int (1 : Int32)), (.ref b242)])) rfl rfl (hb hby at_69)
  have V262 : Arv Z h262 b242 kb242 .byte (2 : Int32) [(.int (nar .byte ((x0 ^^^ (-1 : Int32))).toInt8.toInt32)), (.int (nar .byte ((x1 ^^^ (-1 : Int32))).toInt8.toInt32))] (.int (0 : Int32)) := Arv.set Ar262 q262 S262 M262 Hs262 G262 (fits_nar_byte _) W262 1 rfl (Nat.le_of_ble_eq_true rfl)
  have f263 := f253.wr W262
  have f264 := f254.wr W262
  have f265 := f255.other W262 (Or.inl (Ne.symm ne248))
  have f266 := f256.wr W262
  have f267 := f257.other W262 (Ne.symm ne249)
  have N262 := Fr.snoc X262 N252 g242
  have z268 := Nat.le_trans z258 (Keep.of_wr W262).1
  have hk269 := Nat.le_trans hk259 (Keep.of_wr W262).1
  refine Rch.go (U' := T262.setTop (mkF m 70 #[.val (.int p1), .val (.int p2), .val (.int p3), .val (.int p4), .val (.int (2 : Int32)), .val (.int x0), .val (.int x1), .val (.int x2), .val (.ref b242), .val (.ref b244), .unset] [])) st262 ?_
  refine Rch.go (U' := T262.setTop (mkF m 72 #[.val (.int p1), .val (.int p2), .val (.int p3), .val (.int p4), .val (.int (2 : Int32)), .val (.int x0), .val (.int x1), .val (.int x2), .val (.ref b242), .val (.ref b244), .unset] [(.int (2 : Int32))])) (fun _ k => XS.iload X262.here hx rfl (hb hby at_70) rfl  k) ?_
  refine Rch.go (U' := T262.setTop (mkF m 73 #[.val (.int p1), .val (.int p2), .val (.int p3), .val (.int p4), .val (.int (2 : Int32)), .val (.int x0), .val (.int x1), .val (.int x2), .val (.ref b242), .val (.ref b244), .unset] [(.int (2 : Int32)), (.int (2 : Int32))])) (fun _ k => XS.iconst X262.here hx rfl (hb hby at_72) k) ?_
  have br270 : ¬ ((2 : Int32) < (2 : Int32)) := (by decide)
  refine Rch.go (U' := T262.setTop (mkF m 87 #[.val (.int p1), .val (.int p2), .val (.int p3), .val (.int p4), .val (.int (2 : Int32)), .val (.int x0), .val (.int x1), .val (.int x2), .val (.ref b242), .val (.ref b244), .unset] [])) (fun _ k => XS.icmpYes X262.here hx rfl (pc0 := 73) (pc' := 87) rfl (hb hby at_73) rfl (XT.ii_le_t br270) (by decide) (by decide) k) ?_
  refine Rch.go (U' := T262.setTop (mkF m 89 #[.val (.int p1), .val (.int p2), .val (.int p3), .val (.int p4), .val (.int (2 : Int32)), .val (.int x0), .val (.int x1), .val (.int x2), .val (.ref b242), .val (.ref b244), .unset] [(.ref b244)])) (fun _ k => XS.aload X262.here hx rfl (hb hby at_87) rfl rfl k) ?_
  obtain ⟨cq271, kq271, q271a, q271b, q271c⟩ := isOf hZ e262 f264
  obtain ⟨_, _, ⟨T271, L271, k271, n271⟩, -, X271, ⟨Lc271, hQ271, l271, y271, z271⟩, st271⟩ := X262.virtualBack hx (y := (⟨"com/example/cellmark/cellmark/model/ByteString", "toByteArray", "()[B"⟩ : MethodName)) (z := (⟨"com/example/cellmark/cellmark/model/ByteString", "toByteArray", "()[B"⟩ : MethodName)) hown (mvT hZ (wi hw 39 rfl)) (mvT hZ (wi hw 40 rfl)) (notFace_of_selects (args := #[]) (mvT hZ (wi hw 42 rfl))) (mvT hZ (wi hw 42 rfl)) (mvT hZ (wi hw 41 rfl)) (by decide) (backOf (W := 0) (rmT2 l Z a0 hw [] b244 t244 kb242 x0 x1 h262 n0 z268 f265 f264 f266 f267) hZ (wi hw 43 rfl) (wi hw 7 rfl) (by decide) (by decide)) q271a q271c (g := (mkF m 89 #[.val (.int p1), .val (.int p2), .val (.int p3), .val (.int p4), .val (.int (2 : Int32)), .val (.int x0), .val (.int x1), .val (.int x2), .val (.ref b242), .val (.ref b244), .unset] [(.ref b244)])) rfl (by rw [hml]; rfl) (Steps.refl _) (argsL := []) (rest := []) (lenOf pd_12 rfl) rfl (by show 2 * 0 + _ ≤ _; exact Nat.le_of_eq rfl) (hb hby at_89) (fun _ _ => ⟨rfl, e262, (by decide : 5 + 1 ≤ _), (by decide : 29 + 2 ≤ _)⟩)
  dsimp only [Pt.U, Pt.locs, Pt.cells, Pt.slots] at X271 l271 y271 z271 st271 hQ271
  subst l271 y271 z271
  obtain ⟨b271, rfl, N271q, K271q, g271, s271, V271⟩ := hQ271
  have N271 := Fr.app N262 N271q
  have z272 := Nat.le_trans z268 K271q.1
  have hk273 := Nat.le_trans hk269 K271q.1
  have f274 := f263.keep K271q
  have f275 := V262.keep K271q nin0
  have f276 := f264.keep K271q
  have f277 := f265.keep K271q nin0
  have f278 := f266.keep K271q
  have f279 := f267.keep K271q nin0
  have ne280 : b242 ≠ b271 := Nat.ne_of_lt (Nat.lt_of_lt_of_le V262.lt s271)
  have ne281 : b244 ≠ b271 := Nat.ne_of_lt (Nat.lt_of_lt_of_le f265.lt s271)
  have ne282 : t244 ≠ b271 := Nat.ne_of_lt (Nat.lt_of_lt_of_le f267.lt s271)
  refine Rch.to (U' := T271.setTop (mkF m 92 #[.val (.int p1), .val (.int p2), .val (.int p3), .val (.int p4), .val (.int (2 : Int32)), .val (.int x0), .val (.int x1), .val (.int x2), .val (.ref b242), .val (.ref b244), .unset] [(.ref b271)])) st271 ?_
  refine Rch.go (U' := T271.setTop (mkF m 94 #[.val (.int p1), .val (.int p2), .val (.int p3), .val (.int p4), .val (.int (2 : Int32)), .val (.int x0), .val (.int x1), .val (.int x2), .val (.ref b242), .val (.ref b244), .val (.ref b271)] [])) (fun _ k => XS.astore X271.here hx rfl (hb hby at_92) rfl rfl (l' := #[.val (.int p1), .val (.int p2), .val (.int p3), .val (.int p4), .val (.int (2 : Int32)), .val (.int x0), .val (.int x1), .val (.int x2), .val (.ref b242), .val (.ref b244), .val (.ref b271)]) rfl k) ?_
  refine Rch.go (U' := T271.setTop (mkF m 96 #[.val (.int p1), .val (.int p2), .val (.int p3), .val (.int p4), .val (.int (2 : Int32)), .val (.int x0), .val (.int x1), .val (.int x2), .val (.ref b242), .val (.ref b244), .val (.ref b271)] [(.ref b244)])) (fun _ k => XS.aload X271.here hx rfl (hb hby at_94) rfl rfl k) ?_
  obtain ⟨cq283, kq283, q283a, q283b, q283c⟩ := isOf hZ rfl f276
  obtain ⟨_, _, ⟨T283, L283, k283, n283⟩, -, X283, ⟨Lc283, hQ283, l283, y283, z283⟩, st283⟩ := X271.virtualBack hx (y := (⟨"com/example/cellmark/cellmark/model/ByteString", "size", "()I"⟩ : MethodName)) (z := (⟨"com/example/cellmark/cellmark/model/ByteString", "size", "()I"⟩ : MethodName)) hown (mvT hZ (wi hw 44 rfl)) (mvT hZ (wi hw 45 rfl)) (notFace_of_selects (args := #[]) (mvT hZ (wi hw 47 rfl))) (mvT hZ (wi hw 47 rfl)) (mvT hZ (wi hw 46 rfl)) (by decide) (backOf (W := 0) (rmS2 l Z a0 hw [] b244 t244 kb242 x0 x1 T271.heap n0 z272 f277 f276 f278 f279) hZ (wi hw 48 rfl) (wi hw 7 rfl) (by decide) (by decide)) q283a q283c (g := (mkF m 96 #[.val (.int p1), .val (.int p2), .val (.int p3), .val (.int p4), .val (.int (2 : Int32)), .val (.int x0), .val (.int x1), .val (.int x2), .val (.ref b242), .val (.ref b244), .val (.ref b271)] [(.ref b244)])) rfl (by rw [hml]; rfl) (Steps.refl _) (argsL := []) (rest := []) (lenOf pd_13 rfl) rfl (by show 2 * 0 + _ ≤ _; exact Nat.le_of_eq rfl) (hb hby at_96) (fun _ _ => ⟨rfl, rfl, (by decide : 6 + 0 ≤ _), (by decide : 31 + 0 ≤ _)⟩)
  dsimp only [Pt.U, Pt.locs, Pt.cells, Pt.slots] at X283 l283 y283 z283 st283 hQ283
  subst l283 y283 z283
  obtain ⟨rfl, N283q, e283⟩ := hQ283
  have N283 := Fr.app N271 N283q
  refine Rch.to (U' := T283.setTop (mkF m 99 #[.val (.int p1), .val (.int p2), .val (.int p3), .val (.int p4), .val (.int (2 : Int32)), .val (.int x0), .val (.int x1), .val (.int x2), .val (.ref b242), .val (.ref b244), .val (.ref b271)] [(.int (2 : Int32))])) st283 ?_
  refine Rch.go (U' := T283.setTop (mkF m 101 #[.val (.int p1), .val (.int p2), .val (.int p3), .val (.int p4), .val (.int (2 : Int32)), .val (.int x0), .val (.int x1), .val (.int x2), .val (.ref b242), .val (.ref b244), .val (.ref b271)] [(.int (2 : Int32)), (.int (2 : Int32))])) (fun _ k => XS.iload X283.here hx rfl (hb hby at_99) rfl  k) ?_
  have br284 : (2 : Int32) = (2 : Int32) := (by decide)
  refine Rch.go (U' := T283.setTop (mkF m 106 #[.val (.int p1), .val (.int p2), .val (.int p3), .val (.int p4), .val (.int (2 : Int32)), .val (.int x0), .val (.int x1), .val (.int x2), .val (.ref b242), .val (.ref b244), .val (.ref b271)] [])) (fun _ k => XS.icmpYes X283.here hx rfl (pc0 := 101) (pc' := 106) rfl (hb hby at_101) rfl (XT.ii_eq_t br284) (by decide) (by decide) k) ?_
  refine Rch.go (U' := T283.setTop (mkF m 108 #[.val (.int p1), .val (.int p2), .val (.int p3), .val (.int p4), .val (.int (2 : Int32)), .val (.int x0), .val (.int x1), .val (.int x2), .val (.ref b242), .val (.ref b244), .val (.ref b271)] [(.ref b271)])) (fun _ k => XS.aload X283.here hx rfl (hb hby at_106) rfl rfl k) ?_
  obtain ⟨c285, Ar285, -, S285, M285, -, -⟩ := id V271
  refine Rch.go (U' := T283.setTop (mkF m 109 #[.val (.int p1), .val (.int p2), .val (.int p3), .val (.int p4), .val (.int (2 : Int32)), .val (.int x0), .val (.int x1), .val (.int x2), .val (.ref b242), .val (.ref b244), .val (.ref b271)] [(.int c285.slots.size.toInt32)])) (fun _ k => X283.arraylength hx (by rw [e283]; exact Ar285.1) (State.isArrayOf_alike hZ.alike Ar285.2.1) (g := (mkF m 108 #[.val (.int p1), .val (.int p2), .val (.int p3), .val (.int p4), .val (.int (2 : Int32)), .val (.int x0), .val (.int x1), .val (.int x2), .val (.ref b242), .val (.ref b244), .val (.ref b271)] [(.ref b271)])) rfl rfl (hb hby at_108) _ k) ?_
  rw [len_of S285 M285]
  refine Rch.go (U' := T283.setTop (mkF m 111 #[.val (.int p1), .val (.int p2), .val (.int p3), .val (.int p4), .val (.int (2 : Int32)), .val (.int x0), .val (.int x1), .val (.int x2), .val (.ref b242), .val (.ref b244), .val (.ref b271)] [(.int (2 : Int32)), (.int (2 : Int32))])) (fun _ k => XS.iload X283.here hx rfl (hb hby at_109) rfl  k) ?_
  have br286 : (2 : Int32) = (2 : Int32) := (by decide)
  refine Rch.go (U' := T283.setTop (mkF m 116 #[.val (.int p1), .val (.int p2), .val (.int p3), .val (.int p4), .val (.int (2 : Int32)), .val (.int x0), .val (.int x1), .val (.int x2), .val (.ref b242), .val (.ref b244), .val (.ref b271)] [])) (fun _ k => XS.icmpYes X283.here hx rfl (pc0 := 111) (pc' := 116) rfl (hb hby at_111) rfl (XT.ii_eq_t br286) (by decide) (by decide) k) ?_
  refine Rch.go (U' := T283.setTop (mkF m 118 #[.val (.int p1), .val (.int p2), .val (.int p3), .val (.int p4), .val (.int (2 : Int32)), .val (.int x0), .val (.int x1), .val (.int x2), .val (.ref b242), .val (.ref b244), .val (.ref b271)] [(.int (2 : Int32))])) (fun _ k => XS.iload X283.here hx rfl (hb hby at_116) rfl  k) ?_
  have br287 : (0 : Int32) < (2 : Int32) := (by decide)
  refine Rch.go (U' := T283.setTop (mkF m 121 #[.val (.int p1), .val (.int p2), .val (.int p3), .val (.int p4), .val (.int (2 : Int32)), .val (.int x0), .val (.int x1), .val (.int x2), .val (.ref b242), .val (.ref b244), .val (.ref b271)] [])) (fun _ k => XS.ifNo X283.here hx rfl (hb hby at_118) rfl (XT.i0_le_f br287) k) ?_
  refine Rch.go (U' := T283.setTop (mkF m 123 #[.val (.int p1), .val (.int p2), .val (.int p3), .val (.int p4), .val (.int (2 : Int32)), .val (.int x0), .val (.int x1), .val (.int x2), .val (.ref b242), .val (.ref b244), .val (.ref b271)] [(.ref b271)])) (fun _ k => XS.aload X283.here hx rfl (hb hby at_121) rfl rfl k) ?_
  refine Rch.go (U' := T283.setTop (mkF m 124 #[.val (.int p1), .val (.int p2), .val (.int p3), .val (.int p4), .val (.int (2 : Int32)), .val (.int x0), .val (.int x1), .val (.int x2), .val (.ref b242), .val (.ref b244), .val (.ref b271)] [(.int (0 : Int32)), (.ref b271)])) (fun _ k => XS.iconst X283.here hx rfl (hb hby at_123) k) ?_
  obtain ⟨c288, Ar288, q288, S288, M288, Hs288, G288⟩ := id V271
  have i288 : ¬ ((0 : Int32) < 0 ∨ c288.slots.size ≤ ((0 : Int32)).toNatClampNeg) := inb_of S288 ⟨by decide, by decide⟩
  have a288 : c288.slots[((0 : Int32)).toNatClampNeg]? = some (.int x0) := Has.at Hs288 i288 rfl
  refine Rch.go (U' := T283.setTop (mkF m 125 #[.val (.int p1), .val (.int p2), .val (.int p3), .val (.int p4), .val (.int (2 : Int32)), .val (.int x0), .val (.int x1), .val (.int x2), .val (.ref b242), .val (.ref b244), .val (.ref b271)] [(.int x0)])) (fun _ k => X283.baloadBytes hx (j := (0 : Int32)) (v := (.int x0)) (by rw [e283]; exact Ar288.1) (State.isArrayOf_alike hZ.alike Ar288.2.1) Ar288.2.2 i288 a288 (g := (mkF m 124 #[.val (.int p1), .val (.int p2), .val (.int p3), .val (.int p4), .val (.int (2 : Int32)), .val (.int x0), .val (.int x1), .val (.int x2), .val (.ref b242), .val (.ref b244), .val (.ref b271)] [(.int (0 : Int32)), (.ref b271)])) rfl rfl (hb hby at_124) _ k) ?_
  refine Rch.go (U' := T283.setTop (mkF m 127 #[.val (.int p1), .val (.int p2), .val (.int p3), .val (.int p4), .val (.int (2 : Int32)), .val (.int x0), .val (.int x1), .val (.int x2), .val (.ref b242), .val (.ref b244), .val (.ref b271)] [(.int x0), (.int x0)])) (fun _ k => XS.iload X283.here hx rfl (hb hby at_125) rfl  k) ?_
  have br289 : x0 = x0 := rfl
  refine Rch.go (U' := T283.setTop (mkF m 132 #[.val (.int p1), .val (.int p2), .val (.int p3), .val (.int p4), .val (.int (2 : Int32)), .val (.int x0), .val (.int x1), .val (.int x2), .val (.ref b242), .val (.ref b244), .val (.ref b271)] [])) (fun _ k => XS.icmpYes X283.here hx rfl (pc0 := 127) (pc' := 132) rfl (hb hby at_127) rfl (XT.ii_eq_t br289) (by decide) (by decide) k) ?_
  refine Rch.go (U' := T283.setTop (mkF m 134 #[.val (.int p1), .val (.int p2), .val (.int p3), .val (.int p4), .val (.int (2 : Int32)), .val (.int x0), .val (.int x1), .val (.int x2), .val (.ref b242), .val (.ref b244), .val (.ref b271)] [(.int (2 : Int32))])) (fun _ k => XS.iload X283.here hx rfl (hb hby at_132) rfl  k) ?_
  refine Rch.go (U' := T283.setTop (mkF m 135 #[.val (.int p1), .val (.int p2), .val (.int p3), .val (.int p4), .val (.int (2 : Int32)), .val (.int x0), .val (.int x1), .val (.int x2), .val (.ref b242), .val (.ref b244), .val (.ref b271)] [(.int (1 : Int32)), (.int (2 : Int32))])) (fun _ k => XS.iconst X283.here hx rfl (hb hby at_134) k) ?_
  have br290 : (1 : Int32) < (2 : Int32) := (by decide)
  refine Rch.go (U' := T283.setTop (mkF m 138 #[.val (.int p1), .val (.int p2), .val (.int p3), .val (.int p4), .val (.int (2 : Int32)), .val (.int x0), .val (.int x1), .val (.int x2), .val (.ref b242), .val (.ref b244), .val (.ref b271)] [])) (fun _ k => XS.icmpNo X283.here hx rfl (hb hby at_135) rfl (XT.ii_le_f br290) k) ?_
  refine Rch.go (U' := T283.setTop (mkF m 140 #[.val (.int p1), .val (.int p2), .val (.int p3), .val (.int p4), .val (.int (2 : Int32)), .val (.int x0), .val (.int x1), .val (.int x2), .val (.ref b242), .val (.ref b244), .val (.ref b271)] [(.ref b271)])) (fun _ k => XS.aload X283.here hx rfl (hb hby at_138) rfl rfl k) ?_
  refine Rch.go (U' := T283.setTop (mkF m 141 #[.val (.int p1), .val (.int p2), .val (.int p3), .val (.int p4), .val (.int (2 : Int32)), .val (.int x0), .val (.int x1), .val (.int x2), .val (.ref b242), .val (.ref b244), .val (.ref b271)] [(.int (1 : Int32)), (.ref b271)])) (fun _ k => XS.iconst X283.here hx rfl (hb hby at_140) k) ?_
  obtain ⟨c291, Ar291, q291, S291, M291, Hs291, G291⟩ := id V271
  have i291 : ¬ ((1 : Int32) < 0 ∨ c291.slots.size ≤ ((1 : Int32)).toNatClampNeg) := inb_of S291 ⟨by decide, by decide⟩
  have a291 : c291.slots[((1 : Int32)).toNatClampNeg]? = some (.int x1) := Has.at Hs291 i291 rfl
  refine Rch.go (U' := T283.setTop (mkF m 142 #[.val (.int p1), .val (.int p2), .val (.int p3), .val (.int p4), .val (.int (2 : Int32)), .val (.int x0), .val (.int x1), .val (.int x2), .val (.ref b242), .val (.ref b244), .val (.ref b271)] [(.int x1)])) (fun _ k => X283.baloadBytes hx (j := (1 : Int32)) (v := (.int x1)) (by rw [e283]; exact Ar291.1) (State.isArrayOf_alike hZ.alike Ar291.2.1) Ar291.2.2 i291 a291 (g := (mkF m 141 #[.val (.int p1), .val (.int p2), .val (.int p3), .val (.int p4), .val (.int (2 : Int32)), .val (.int x0), .val (.int x1), .val (.int x2), .val (.ref b242), .val (.ref b244), .val (.ref b271)] [(.int (1 : Int32)), (.ref b271)])) rfl rfl (hb hby at_141) _ k) ?_
  refine Rch.go (U' := T283.setTop (mkF m 144 #[.val (.int p1), .val (.int p2), .val (.int p3), .val (.int p4), .val (.int (2 : Int32)), .val (.int x0), .val (.int x1), .val (.int x2), .val (.ref b242), .val (.ref b244), .val (.ref b271)] [(.int x1), (.int x1)])) (fun _ k => XS.iload X283.here hx rfl (hb hby at_142) rfl  k) ?_
  have br292 : x1 = x1 := rfl
  refine Rch.go (U' := T283.setTop (mkF m 149 #[.val (.int p1), .val (.int p2), .val (.int p3), .val (.int p4), .val (.int (2 : Int32)), .val (.int x0), .val (.int x1), .val (.int x2), .val (.ref b242), .val (.ref b244), .val (.ref b271)] [])) (fun _ k => XS.icmpYes X283.here hx rfl (pc0 := 144) (pc' := 149) rfl (hb hby at_144) rfl (XT.ii_eq_t br292) (by decide) (by decide) k) ?_
  refine Rch.go (U' := T283.setTop (mkF m 151 #[.val (.int p1), .val (.int p2), .val (.int p3), .val (.int p4), .val (.int (2 : Int32)), .val (.int x0), .val (.int x1), .val (.int x2), .val (.ref b242), .val (.ref b244), .val (.ref b271)] [(.int (2 : Int32))])) (fun _ k => XS.iload X283.here hx rfl (hb hby at_149) rfl  k) ?_
  refine Rch.go (U' := T283.setTop (mkF m 152 #[.val (.int p1), .val (.int p2), .val (.int p3), .val (.int p4), .val (.int (2 : Int32)), .val (.int x0), .val (.int x1), .val (.int x2), .val (.ref b242), .val (.ref b244), .val (.ref b271)] [(.int (2 : Int32)), (.int (2 : Int32))])) (fun _ k => XS.iconst X283.here hx rfl (hb hby at_151) k) ?_
  have br293 : ¬ ((2 : Int32) < (2 : Int32)) := (by decide)
  refine Rch.go (U' := T283.setTop (mkF m 166 #[.val (.int p1), .val (.int p2), .val (.int p3), .val (.int p4), .val (.int (2 : Int32)), .val (.int x0), .val (.int x1), .val (.int x2), .val (.ref b242), .val (.ref b244), .val (.ref b271)] [])) (fun _ k => XS.icmpYes X283.here hx rfl (pc0 := 152) (pc' := 166) rfl (hb hby at_152) rfl (XT.ii_le_t br293) (by decide) (by decide) k) ?_
  refine Rch.go (U' := T283.setTop (mkF m 167 #[.val (.int p1), .val (.int p2), .val (.int p3), .val (.int p4), .val (.int (2 : Int32)), .val (.int x0), .val (.int x1), .val (.int x2), .val (.ref b242), .val (.ref b244), .val (.ref b271)] [(.int (1 : Int32))])) (fun _ k => XS.iconst X283.here hx rfl (hb hby at_166) k) ?_
  refine Rch.finW (s := s) X283 hlk (v := some (.int (nar .boolean (1 : Int32)))) (fun h => by rw [hret] at h; cases h) e283 (by decide) (by decide) hS244 hk273 (fun fs hr => retN X283 hx (t := .boolean) hret (by simp) (hb hby at_167) hr) ?_
  exact ⟨rfl, N283⟩
theorem ef_rmM3 (m : MethodId) (x0 : Int32) (x1 : Int32) (x2 : Int32) : entryFrame m #[(.int (3 : Int32)), (.int x0), (.int x1), (.int x2)] 4 = mkF m 0 #[.val (.int (3 : Int32)), .val (.int x0), .val (.int x1), .val (.int x2)] [] := by first | (simp [entryFrame, mkF, argsToLocals, Value.category]; done) | rfl
def Q_rmM3 (Z : State) (x0 : Int32) (x1 : Int32) (x2 : Int32) (h0 : Heap) (n0 : Nat) (v : Option Value) (h : Heap) (L : List Loc) : Prop := ∃ (b : Addr) (kb : ClassId), v = some (.ref b) ∧ Fr n0 L ∧ Keep h0 h [] ∧ n0 ≤ b ∧ h0.size ≤ b ∧ Exa Z h b "[B" ∧ Arv Z h b kb .byte (3 : Int32) [(.int x0), (.int x1), (.int x2)] (.int (0 : Int32))
set_option maxRecDepth 65536 in
set_option maxHeartbeats 40000000 in
theorem rmM3 (l : Launch) (Z : State) (a0 : Array Value) (hw : ∀ d ∈ tables_1, d.before a0 Z = true) (ws : List Jvm.Cond) (x0 : Int32) (x1 : Int32) (x2 : Int32) (h0 : Heap) (n0 : Nat) (Z0 : n0 ≤ h0.size) (hx0 : nar .byte x0 = x0) (hx1 : nar .byte x1 = x1) (hx2 : nar .byte x2 = x2) :
    MetFree l (⟨"com/example/cellmark/cellmark/model/ByteStringCopyOfPinLaw", "make", "(IBBB)[B"⟩ : MethodName) (head1 (Jvm.Cond.code (⟨"com/example/cellmark/cellmark/model/ByteStringCopyOfPinLaw", "make", "(IBBB)[B"⟩ : MethodName) method_3_code 4 (some (.array .byte)) :: ws) ({ frames := 0, cells := 1, slots := 3, locals := 0 } : Room)) (fun a U => a = #[(.int (3 : Int32)), (.int x0), (.int x1), (.int x2)] ∧ Z.Warmed39 U.vm ∧ U.heap = h0) (fun _ _ _ _ _ => True) (fun _ U o U' => ∃ v L, o = .returned v ∧ Q_rmM3 Z x0 x1 x2 h0 n0 v U'.heap L ∧ FrameEnd U o U' L ({ frames := 0, cells := 1, slots := 3, locals := 0 } : Room).cells ({ frames := 0, cells := 1, slots := 3, locals := 0 } : Room).slots) := by
  refine MetFree.of_bodySF (plainFor_of_name pn_com_example_cellmark_cellmark_model_ByteStringCopyOfPinLaw) hisR ?_
  intro p e s m args below meth c s₁ Bd hml0 hP hK
  obtain ⟨rfl, hZ, hh⟩ := hP
  have hx := Bd.exec
  have hby := Bd.bytes
  have hml : c.maxLocals = 4 := hml0
  have hown : s.vm.findClass "com/example/cellmark/cellmark/model/ByteStringCopyOfPinLaw" = some m.cls := findClass_of_methodNamed Bd.named
  have hnm := (name_of_methodNamed Bd.named Bd.method).1
  have hret := Bd.returns
  have hlk : meth.locks = false := BodyLoose.notSynchronized Bd
  have X0 : Stand p l e ({ frames := 0, cells := 1, slots := 3, locals := 0 } : Room) s m #[(.int (3 : Int32)), (.int x0), (.int x1), (.int x2)] below meth c s₁ [] 0 0 := Stand.of_body Bd
  have e0 : s₁.heap = h0 := by rw [← hh, Bd.state]; rfl
  have N0 := Fr.nil n0
  have K0 := Keep.refl h0 []
  refine Rch.body (Q := Q_rmM3 Z x0 x1 x2 h0 n0) (U' := s₁.setTop (mkF m 0 #[.val (.int (3 : Int32)), .val (.int x0), .val (.int x1), .val (.int x2)] [])) (fun t k => castTop (ef_rmM3 m x0 x1 x2) k) ?_
  refine Rch.go (U' := s₁.setTop (mkF m 1 #[.val (.int (3 : Int32)), .val (.int x0), .val (.int x1), .val (.int x2)] [(.int (3 : Int32))])) (fun _ k => XS.iloadN X0.here hx rfl (hb hby d3_0) rfl  k) ?_
  have br294 : ¬ ((3 : Int32) = (0 : Int32)) := (by decide)
  refine Rch.go (U' := s₁.setTop (mkF m 8 #[.val (.int (3 : Int32)), .val (.int x0), .val (.int x1), .val (.int x2)] [])) (fun _ k => XS.ifYes X0.here hx rfl (pc0 := 1) (pc' := 8) rfl (hb hby d3_1) rfl (XT.i0_ne_t br294) (by decide) (by decide) k) ?_
  refine Rch.go (U' := s₁.setTop (mkF m 9 #[.val (.int (3 : Int32)), .val (.int x0), .val (.int x1), .val (.int x2)] [(.int (3 : Int32))])) (fun _ k => XS.iloadN X0.here hx rfl (hb hby d3_8) rfl  k) ?_
  refine Rch.go (U' := s₁.setTop (mkF m 10 #[.val (.int (3 : Int32)), .val (.int x0), .val (.int x1), .val (.int x2)] [(.int (1 : Int32)), (.int (3 : Int32))])) (fun _ k => XS.iconst X0.here hx rfl (hb hby d3_9) k) ?_
  have br295 : ¬ ((3 : Int32) = (1 : Int32)) := (by decide)
  refine Rch.go (U' := s₁.setTop (mkF m 21 #[.val (.int (3 : Int32)), .val (.int x0), .val (.int x1), .val (.int x2)] [])) (fun _ k => XS.icmpYes X0.here hx rfl (pc0 := 10) (pc' := 21) rfl (hb hby d3_10) rfl (XT.ii_ne_t br295) (by decide) (by decide) k) ?_
  refine Rch.go (U' := s₁.setTop (mkF m 22 #[.val (.int (3 : Int32)), .val (.int x0), .val (.int x1), .val (.int x2)] [(.int (3 : Int32))])) (fun _ k => XS.iloadN X0.here hx rfl (hb hby d3_21) rfl  k) ?_
  refine Rch.go (U' := s₁.setTop (mkF m 23 #[.val (.int (3 : Int32)), .val (.int x0), .val (.int x1), .val (.int x2)] [(.int (2 : Int32)), (.int (3 : Int32))])) (fun _ k => XS.iconst X0.here hx rfl (hb hby d3_22) k) ?_
  have br296 : ¬ ((3 : Int32) = (2 : Int32)) := (by decide)
  refine Rch.go (U' := s₁.setTop (mkF m 38 #[.val (.int (3 : Int32)), .val (.int x0), .val (.int x1), .val (.int x2)] [])) (fun _ k => XS.icmpYes X0.here hx rfl (pc0 := 23) (pc' := 38) rfl (hb hby d3_23) rfl (XT.ii_ne_t br296) (by decide) (by decide) k) ?_
  refine Rch.go (U' := s₁.setTop (mkF m 39 #[.val (.int (3 : Int32)), .val (.int x0), .val (.int x1), .val (.int x2)] [(.int (3 : Int32))])) (fun _ k => XS.iconst X0.here hx rfl (hb hby d3_38) k) ?_
  obtain ⟨T297, h297, k297, X297, e297, E297, A297, Ex297, st297⟩ := newPE X0 hx hZ (wi hw 4 rfl) e0 (g := (mkF m 39 #[.val (.int (3 : Int32)), .val (.int x0), .val (.int x1), .val (.int x2)] [(.int (3 : Int32))])) rfl (hb hby d3_39) rfl (by decide) (cap := 3) (by decide) (by decide) (by decide) (by decide) (ad := "[B") (by decide)
  obtain ⟨b297, g297⟩ : ∃ z, z = h0.size := ⟨_, rfl⟩
  rw [← g297] at A297 Ex297 st297
  have n0b297 : n0 ≤ b297 := Nat.le_trans Z0 (Nat.le_of_eq g297.symm)
  have szb297 : h0.size ≤ b297 := Nat.le_trans K0.1 (Nat.le_of_eq g297.symm)
  have z298 := Nat.le_trans Z0 E297.1
  have K299 := K0.ext E297
  have V297 : Arv Z h297 b297 k297 .byte (3 : Int32) [(.int (0 : Int32)), (.int (0 : Int32)), (.int (0 : Int32))] (.int (0 : Int32)) := (Arv.new A297 (by decide)).pad (pad_rep [] (.int (0 : Int32)) 3)
  refine Rch.go (U' := T297.setTop (mkF m 41 #[.val (.int (3 : Int32)), .val (.int x0), .val (.int x1), .val (.int x2)] [(.ref b297)])) st297 ?_
  refine Rch.go (U' := T297.setTop (mkF m 42 #[.val (.int (3 : Int32)), .val (.int x0), .val (.int x1), .val (.int x2)] [(.ref b297), (.ref b297)])) (fun _ k => XS.dup X297.here hx rfl (hb hby d3_41) rfl rfl k) ?_
  refine Rch.go (U' := T297.setTop (mkF m 43 #[.val (.int (3 : Int32)), .val (.int x0), .val (.int x1), .val (.int x2)] [(.int (0 : Int32)), (.ref b297), (.ref b297)])) (fun _ k => XS.iconst X297.here hx rfl (hb hby d3_42) k) ?_
  refine Rch.go (U' := T297.setTop (mkF m 44 #[.val (.int (3 : Int32)), .val (.int x0), .val (.int x1), .val (.int x2)] [(.int x0), (.int (0 : Int32)), (.ref b297), (.ref b297)])) (fun _ k => XS.iloadN X297.here hx rfl (hb hby d3_43) rfl  k) ?_
  obtain ⟨c300, Ar300, q300, S300, M300, Hs300, G300⟩ := id V297
  have i300 : ¬ ((0 : Int32) < 0 ∨ c300.slots.size ≤ ((0 : Int32)).toNatClampNeg) := inb_of S300 ⟨by decide, by decide⟩
  obtain ⟨T300, h300, X300, e300, W300, st300⟩ := stB X297 hx hZ e297 Ar300 (j := (0 : Int32)) i300 (g := (mkF m 44 #[.val (.int (3 : Int32)), .val (.int x0), .val (.int x1), .val (.int x2)] [(.int x0), (.int (0 : Int32)), (.ref b297), (.ref b297)])) rfl rfl (hb hby d3_44)
  have V300 : Arv Z h300 b297 k297 .byte (3 : Int32) [(.int (nar .byte x0)), (.int (0 : Int32)), (.int (0 : Int32))] (.int (0 : Int32)) := Arv.set Ar300 q300 S300 M300 Hs300 G300 (fits_nar_byte _) W300 0 rfl (Nat.le_of_ble_eq_true rfl)
  rw [hx0] at V300
  have f301 := Ex297.wr W300
  have N300 := Fr.snoc X300 N0 n0b297
  have z302 := Nat.le_trans z298 (Keep.of_wr W300).1
  have K303 := K299.wr W300 (Or.inr szb297)
  refine Rch.go (U' := T300.setTop (mkF m 45 #[.val (.int (3 : Int32)), .val (.int x0), .val (.int x1), .val (.int x2)] [(.ref b297)])) st300 ?_
  refine Rch.go (U' := T300.setTop (mkF m 46 #[.val (.int (3 : Int32)), .val (.int x0), .val (.int x1), .val (.int x2)] [(.ref b297), (.ref b297)])) (fun _ k => XS.dup X300.here hx rfl (hb hby d3_45) rfl rfl k) ?_
  refine Rch.go (U' := T300.setTop (mkF m 47 #[.val (.int (3 : Int32)), .val (.int x0), .val (.int x1), .val (.int x2)] [(.int (1 : Int32)), (.ref b297), (.ref b297)])) (fun _ k => XS.iconst X300.here hx rfl (hb hby d3_46) k) ?_
  refine Rch.go (U' := T300.setTop (mkF m 48 #[.val (.int (3 : Int32)), .val (.int x0), .val (.int x1), .val (.int x2)] [(.int x1), (.int (1 : Int32)), (.ref b297), (.ref b297)])) (fun _ k => XS.iloadN X300.here hx rfl (hb hby d3_47) rfl  k) ?_
  obtain ⟨c304, Ar304, q304, S304, M304, Hs304, G304⟩ := id V300
  have i304 : ¬ ((1 : Int32) < 0 ∨ c304.slots.size ≤ ((1 : Int32)).toNatClampNeg) := inb_of S304 ⟨by decide, by decide⟩
  obtain ⟨T304, h304, X304, e304, W304, st304⟩ := stB X300 hx hZ e300 Ar304 (j := (1 : Int32)) i304 (g := (mkF m 48 #[.val (.int (3 : Int32)), .val (.int x0), .val (.int x1), .val (.int x2)] [(.int x1), (.int (1 : Int32)), (.ref b297), (.ref b297)])) rfl rfl (hb hby d3_48)
  have V304 : Arv Z h304 b297 k297 .byte (3 : Int32) [(.int x0), (.int (nar .byte x1)), (.int (0 : Int32))] (.int (0 : Int32)) := Arv.set Ar304 q304 S304 M304 Hs304 G304 (fits_nar_byte _) W304 1 rfl (Nat.le_of_ble_eq_true rfl)
  rw [hx1] at V304
  have f305 := f301.wr W304
  have N304 := Fr.snoc X304 N300 n0b297
  have z306 := Nat.le_trans z302 (Keep.of_wr W304).1
  have K307 := K303.wr W304 (Or.inr szb297)
  refine Rch.go (U' := T304.setTop (mkF m 49 #[.val (.int (3 : Int32)), .val (.int x0), .val (.int x1), .val (.int x2)] [(.ref b297)])) st304 ?_
  refine Rch.go (U' := T304.setTop (mkF m 50 #[.val (.int (3 : Int32)), .val (.int x0), .val (.int x1), .val (.int x2)] [(.ref b297), (.ref b297)])) (fun _ k => XS.dup X304.here hx rfl (hb hby d3_49) rfl rfl k) ?_
  refine Rch.go (U' := T304.setTop (mkF m 51 #[.val (.int (3 : Int32)), .val (.int x0), .val (.int x1), .val (.int x2)] [(.int (2 : Int32)), (.ref b297), (.ref b297)])) (fun _ k => XS.iconst X304.here hx rfl (hb hby d3_50) k) ?_
  refine Rch.go (U' := T304.setTop (mkF m 52 #[.val (.int (3 : Int32)), .val (.int x0), .val (.int x1), .val (.int x2)] [(.int x2), (.int (2 : Int32)), (.ref b297), (.ref b297)])) (fun _ k => XS.iloadN X304.here hx rfl (hb hby d3_51) rfl  k) ?_
  obtain ⟨c308, Ar308, q308, S308, M308, Hs308, G308⟩ := id V304
  have i308 : ¬ ((2 : Int32) < 0 ∨ c308.slots.size ≤ ((2 : Int32)).toNatClampNeg) := inb_of S308 ⟨by decide, by decide⟩
  obtain ⟨T308, h308, X308, e308, W308, st308⟩ := stB X304 hx hZ e304 Ar308 (j := (2 : Int32)) i308 (g := (mkF m 52 #[.val (.int (3 : Int32)), .val (.int x0), .val (.int x1), .val (.int x2)] [(.int x2), (.int (2 : Int32)), (.ref b297), (.ref b297)])) rfl rfl (hb hby d3_52)
  have V308 : Arv Z h308 b297 k297 .byte (3 : Int32) [(.int x0), (.int x1), (.int (nar .byte x2))] (.int (0 : Int32)) := Arv.set Ar308 q308 S308 M308 Hs308 G308 (fits_nar_byte _) W308 2 rfl (Nat.le_of_ble_eq_true rfl)
  rw [hx2] at V308
  have f309 := f305.wr W308
  have N308 := Fr.snoc X308 N304 n0b297
  have z310 := Nat.le_trans z306 (Keep.of_wr W308).1
  have K311 := K307.wr W308 (Or.inr szb297)
  refine Rch.go (U' := T308.setTop (mkF m 53 #[.val (.int (3 : Int32)), .val (.int x0), .val (.int x1), .val (.int x2)] [(.ref b297)])) st308 ?_
  refine Rch.fin X308 hlk (v := some (.ref b297)) (fun h => by rw [hret] at h; cases h) e308 (by decide) (by decide) (fun fs hr => retOut X308 hx hret rfl (Or.inr (Or.inr (Or.inr (Or.inr ⟨rfl, rfl, rfl⟩)))) (hb hby d3_53) hr) ?_
  exact ⟨b297, k297, rfl, N308, K311, n0b297, szb297, f309, V308⟩
theorem ef_rmC3 (m : MethodId) (a1 : Addr) : entryFrame m #[(.ref a1)] 1 = mkF m 0 #[.val (.ref a1)] [] := by first | (simp [entryFrame, mkF, argsToLocals, Value.category]; done) | rfl
def Q_rmC3 (Z : State) (a1 : Addr) (k1 : ClassId) (x0 : Int32) (x1 : Int32) (x2 : Int32) (h0 : Heap) (n0 : Nat) (v : Option Value) (h : Heap) (L : List Loc) : Prop := ∃ (b t : Addr), v = some (.ref b) ∧ Fr n0 L ∧ Keep h0 h [] ∧ n0 ≤ b ∧ n0 ≤ t ∧ h0.size ≤ b ∧ h0.size ≤ t ∧ Exa Z h b "com/example/cellmark/cellmark/model/ByteString" ∧ Fld Z h b "com/example/cellmark/cellmark/model/ByteString" "bytes" "[B" (.ref t) ∧ Exa Z h t "[B" ∧ Arv Z h t k1 .byte (3 : Int32) [(.int x0), (.int x1), (.int x2)] (.int (0 : Int32))
set_option maxRecDepth 65536 in
set_option maxHeartbeats 40000000 in
theorem rmC3 (l : Launch) (Z : State) (a0 : Array Value) (hw : ∀ d ∈ tables_1, d.before a0 Z = true) (ws : List Jvm.Cond) (a1 : Addr) (k1 : ClassId) (x0 : Int32) (x1 : Int32) (x2 : Int32) (h0 : Heap) (n0 : Nat) (Z0 : n0 ≤ h0.size) (E_a1 : Exa Z h0 a1 "[B") (V_a1 : Arv Z h0 a1 k1 .byte (3 : Int32) [(.int x0), (.int x1), (.int x2)] (.int (0 : Int32))) :
    MetFree l (⟨"com/example/cellmark/cellmark/model/ByteString", "copyOf", "([B)Lcom/example/cellmark/cellmark/model/ByteString;"⟩ : MethodName) (head1 (Jvm.Cond.code (⟨"com/example/cellmark/cellmark/model/ByteString", "copyOf", "([B)Lcom/example/cellmark/cellmark/model/ByteString;"⟩ : MethodName) prog_5_method_2_code 1 (some (.object "com/example/cellmark/cellmark/model/ByteString")) :: ws) ({ frames := 2, cells := 4, slots := 28, locals := 26 } : Room)) (fun a U => a = #[(.ref a1)] ∧ Z.Warmed39 U.vm ∧ U.heap = h0) (fun _ _ _ _ _ => True) (fun _ U o U' => ∃ v L, o = .returned v ∧ Q_rmC3 Z a1 k1 x0 x1 x2 h0 n0 v U'.heap L ∧ ReturnedEndW U o U' L ({ frames := 2, cells := 4, slots := 28, locals := 26 } : Room).cells ({ frames := 2, cells := 4, slots := 28, locals := 26 } : Room).slots) := by
  refine MetFree.of_bodySF (plainFor_of_name pn_com_example_cellmark_cellmark_model_ByteString) hisR ?_
  intro p e s m args below meth c s₁ Bd hml0 hP hK
  obtain ⟨rfl, hZ, hh⟩ := hP
  have hx := Bd.exec
  have hby := Bd.bytes
  have hml : c.maxLocals = 1 := hml0
  have hown : s.vm.findClass "com/example/cellmark/cellmark/model/ByteString" = some m.cls := findClass_of_methodNamed Bd.named
  have hnm := (name_of_methodNamed Bd.named Bd.method).1
  have hret := Bd.returns
  have hlk : meth.locks = false := BodyLoose.notSynchronized Bd
  have X0 : Stand p l e ({ frames := 2, cells := 4, slots := 28, locals := 26 } : Room) s m #[(.ref a1)] below meth c s₁ [] 0 0 := Stand.of_body Bd
  have e0 : s₁.heap = h0 := by rw [← hh, Bd.state]; rfl
  have N0 := Fr.nil n0
  have K0 := Keep.refl h0 []
  have hS0 : s.Since s.vm 0 := (State.WarmedH.refl s).since 0
  have hwS : ∀ d ∈ Bundle.stringAtoms, d.before a0 Z = true := fun d hd => hw d ((by decide +kernel : ∀ d ∈ Bundle.stringAtoms, d ∈ tables_1) d hd)
  have X0 : Stand p l e ({ frames := 2, cells := 4, slots := 28, locals := 26 } : Room) (s.setVm s.vm) m #[(.ref a1)] below meth c s₁ [] 0 0 := X0
  refine Rch.bodyW (Q := Q_rmC3 Z a1 k1 x0 x1 x2 h0 n0) (U' := s₁.setTop (mkF m 0 #[.val (.ref a1)] [])) (fun t k => castTop (ef_rmC3 m a1) k) ?_
  refine Rch.go (U' := s₁.setTop (mkF m 1 #[.val (.ref a1)] [(.ref a1)])) (fun _ k => XS.aloadN X0.here hx rfl (hb hby d8_0) rfl rfl k) ?_
  obtain ⟨b312, T312, h312, k312, X312, e312, E312, hS312, hk312, hZ, hown, st312⟩ := ldcS X0 hx hZ hown (wi hw 9 rfl) hwS e0 hS0 (Nat.zero_le _) (g := (mkF m 1 #[.val (.ref a1)] [(.ref a1)])) rfl (hb hby d8_1) (n := 20) (by decide) (by decide) (by decide) (by decide)
  have f313 := V_a1.ext E312
  have f314 := E_a1.ext E312
  have z315 := Nat.le_trans Z0 E312.1
  have K316 := K0.ext E312
  refine Rch.go (U' := T312.setTop (mkF m 3 #[.val (.ref a1)] [(.ref b312), (.ref a1)])) st312 ?_
  obtain ⟨_, _, ⟨T317, L317, k317, n317⟩, -, X317, ⟨Lc317, hQ317, l317, y317, z317⟩, st317⟩ := Jvm.LawKit.callS X312 hx (y := (⟨"java/util/Objects", "requireNonNull", "(Ljava/lang/Object;Ljava/lang/String;)Ljava/lang/Object;"⟩ : MethodName)) hown (mvT hZ (wi hw 16 rfl)) (mvT hZ (wi hw 17 rfl)) (mvT hZ (wi hw 18 rfl)) (mvT hZ (wi hw 19 rfl)) (by decide) (backOf (W := 0) (rmNN l Z a0 hw [] a1 b312 h312 n0 z315 ) hZ (wi hw 19 rfl) (wi hw 18 rfl) (by decide) (by decide)) (g := (mkF m 3 #[.val (.ref a1)] [(.ref b312), (.ref a1)])) rfl (by rw [hml]; rfl) (argsL := [(.ref a1), (.ref b312)]) (rest := []) (lenOf pd_5 rfl) rfl (by show 2 * 0 + _ ≤ _; exact Nat.le_of_eq rfl) (hb hby d8_3) (fun _ _ => ⟨rfl, e312, (by decide : 2 + 0 ≤ _), (by decide : 24 + 0 ≤ _)⟩)
  dsimp only [Pt.U, Pt.locs, Pt.cells, Pt.slots] at X317 l317 y317 z317 st317 hQ317
  subst l317 y317 z317
  obtain ⟨rfl, N317q, e317⟩ := hQ317
  have N317 := Fr.app N0 N317q
  refine Rch.go (U' := T317.setTop (mkF m 6 #[.val (.ref a1)] [(.ref a1)])) st317 ?_
  refine Rch.go (U' := T317.setTop (mkF m 7 #[.val (.ref a1)] [])) (fun _ k => XS.pop X317.here hx rfl (hb hby d8_6) rfl rfl k) ?_
  obtain ⟨T318, h318, X318, e318, E318, A318, D318, -, st318⟩ := newO X317 hx hZ hown (wi hw 20 rfl) (wi hw 21 rfl) (wi hw 7 rfl) e317 (g := (mkF m 7 #[.val (.ref a1)] [])) rfl (hb hby d8_7) (by decide) (by decide)
  obtain ⟨b318, g318⟩ : ∃ z, z = h312.size := ⟨_, rfl⟩
  rw [← g318] at A318 D318 st318
  have ne319 : a1 ≠ b318 := Nat.ne_of_lt (Nat.lt_of_lt_of_le f313.lt (Nat.le_of_eq g318.symm))
  have n0b318 : n0 ≤ b318 := Nat.le_trans z315 (Nat.le_of_eq g318.symm)
  have szb318 : h0.size ≤ b318 := Nat.le_trans K316.1 (Nat.le_of_eq g318.symm)
  have f320 := f313.ext E318
  have f321 := f314.ext E318
  have z322 := Nat.le_trans z315 E318.1
  have hk323 := Nat.le_trans hk312 E318.1
  have K324 := K316.ext E318
  have F318_bytes : Fld Z h318 b318 "com/example/cellmark/cellmark/model/ByteString" "bytes" "[B" .null := D318 (Or.inr (wi hw 38 rfl)) (ty := (.array .byte)) (by decide)
  refine Rch.go (U' := T318.setTop (mkF m 10 #[.val (.ref a1)] [(.ref b318)])) st318 ?_
  refine Rch.go (U' := T318.setTop (mkF m 11 #[.val (.ref a1)] [(.ref b318), (.ref b318)])) (fun _ k => XS.dup X318.here hx rfl (hb hby d8_10) rfl rfl k) ?_
  refine Rch.go (U' := T318.setTop (mkF m 12 #[.val (.ref a1)] [(.ref a1), (.ref b318), (.ref b318)])) (fun _ k => XS.aloadN X318.here hx rfl (hb hby d8_11) rfl rfl k) ?_
  obtain ⟨T325, h325, X325, e325, E325, V325, Ex325, st325⟩ := cloneH X318 hx hZ hown (wi hw 22 rfl) (wi hw 23 rfl) (wi hw 27 rfl) (wi hw 25 rfl) (wi hw 26 rfl) (wi hw 28 rfl) e318 f320.arh f321 (g := (mkF m 12 #[.val (.ref a1)] [(.ref a1), (.ref b318), (.ref b318)])) rfl (by rw [hml]; rfl) rfl (hb hby d8_12) (by decide) (W := 2) (cap := 3) (by show 2 * 0 + _ ≤ _; exact Nat.le_of_eq rfl) (by decide) (by decide) (by decide) (by decide)
  obtain ⟨b325, g325⟩ : ∃ z, z = h318.size := ⟨_, rfl⟩
  rw [← g325] at V325 Ex325 st325
  have Vc325 : Arv Z h325 b325 k1 .byte (3 : Int32) [(.int x0), (.int x1), (.int x2)] (.int (0 : Int32)) := V325
  have ne326 : a1 ≠ b325 := Nat.ne_of_lt (Nat.lt_of_lt_of_le f320.lt (Nat.le_of_eq g325.symm))
  have ne327 : b318 ≠ b325 := Nat.ne_of_lt (Nat.lt_of_lt_of_le A318.lt (Nat.le_of_eq g325.symm))
  have n0b325 : n0 ≤ b325 := Nat.le_trans z322 (Nat.le_of_eq g325.symm)
  have szb325 : h0.size ≤ b325 := Nat.le_trans K324.1 (Nat.le_of_eq g325.symm)
  have f328 := f320.ext E325
  have f329 := f321.ext E325
  have f330 := A318.ext E325
  have f331 := F318_bytes.ext E325
  have z332 := Nat.le_trans z322 E325.1
  have hk333 := Nat.le_trans hk323 E325.1
  have K334 := K324.ext E325
  refine Rch.go (U' := T325.setTop (mkF m 15 #[.val (.ref a1)] [(.ref b325), (.ref b318), (.ref b318)])) st325 ?_
  obtain ⟨T335, X335, e335, st335⟩ := castY X325 hx hZ hown (wi hw 29 rfl) e325 (Ins.self Ex325) (g := (mkF m 15 #[.val (.ref a1)] [(.ref b325), (.ref b318), (.ref b318)])) rfl rfl (hb hby d8_15)
  refine Rch.go (U' := T335.setTop (mkF m 18 #[.val (.ref a1)] [(.ref b325), (.ref b318), (.ref b318)])) st335 ?_
  obtain ⟨_, _, ⟨T336, L336, k336, n336⟩, -, X336, ⟨Lc336, hQ336, l336, y336, z336⟩, st336⟩ := X335.specialBack hx (y := (⟨"com/example/cellmark/cellmark/model/ByteString", "<init>", "([B)V"⟩ : MethodName)) rfl hown (mvT hZ (wi hw 31 rfl)) (mvT hZ (wi hw 32 rfl)) (mvT hZ (wi hw 33 rfl)) (by decide) (backOf (W := 1) (rmNew l Z a0 hw [] b318 b325 h325 n0 z332 f330 f331 n0b318) hZ (wi hw 33 rfl) (wi hw 7 rfl) (by decide) (by decide)) (g := (mkF m 18 #[.val (.ref a1)] [(.ref b325), (.ref b318), (.ref b318)])) rfl (by rw [hml]; rfl) (Steps.refl _) (a := b318) (argsL := [(.ref b325)]) (rest := [(.ref b318)]) (lenOf pd_7 rfl) rfl (by show 2 * 0 + _ ≤ _; exact Nat.le_of_eq rfl) (hb hby d8_18) (fun _ _ => ⟨rfl, e335, (by decide : 4 + 0 ≤ _), (by decide : 28 + 0 ≤ _)⟩)
  dsimp only [Pt.U, Pt.locs, Pt.cells, Pt.slots] at X336 l336 y336 z336 st336 hQ336
  subst l336 y336 z336
  obtain ⟨rfl, N336q, K336q, F336_bytes⟩ := hQ336
  have N336 := Fr.app N317 N336q
  have z337 := Nat.le_trans z332 K336q.1
  have hk338 := Nat.le_trans hk333 K336q.1
  have f339 := f328.keep K336q (ninS ne319 nin0)
  have f340 := f329.keep K336q
  have f341 := f330.keep K336q
  have f342 := Ex325.keep K336q
  have f343 := Vc325.keep K336q (ninS (Ne.symm ne327) nin0)
  have K344 := K334.trans K336q (allS (Or.inr szb318) all0)
  refine Rch.to (U' := T336.setTop (mkF m 21 #[.val (.ref a1)] [(.ref b318)])) st336 ?_
  refine Rch.finW (s := s) X336 hlk (v := some (.ref b318)) (fun h => by rw [hret] at h; cases h) rfl (by decide) (by decide) hS312 hk338 (fun fs hr => retOut X336 hx hret rfl (Or.inr (Or.inr (Or.inr (Or.inr ⟨rfl, rfl, rfl⟩)))) (hb hby d8_21) hr) ?_
  exact ⟨b318, b325, rfl, N336, K344, n0b318, n0b325, szb318, szb325, f341, F336_bytes, f342, f343⟩
theorem ef_rmT3 (m : MethodId) (a1 : Addr) : entryFrame m #[(.ref a1)] 1 = mkF m 0 #[.val (.ref a1)] [] := by first | (simp [entryFrame, mkF, argsToLocals, Value.category]; done) | rfl
def Q_rmT3 (Z : State) (a1 : Addr) (t : Addr) (k1 : ClassId) (x0 : Int32) (x1 : Int32) (x2 : Int32) (h0 : Heap) (n0 : Nat) (v : Option Value) (h : Heap) (L : List Loc) : Prop := ∃ (b : Addr), v = some (.ref b) ∧ Fr n0 L ∧ Keep h0 h [] ∧ n0 ≤ b ∧ h0.size ≤ b ∧ Arv Z h b k1 .byte (3 : Int32) [(.int x0), (.int x1), (.int x2)] (.int (0 : Int32))
set_option maxRecDepth 65536 in
set_option maxHeartbeats 40000000 in
theorem rmT3 (l : Launch) (Z : State) (a0 : Array Value) (hw : ∀ d ∈ tables_1, d.before a0 Z = true) (ws : List Jvm.Cond) (a1 : Addr) (t : Addr) (k1 : ClassId) (x0 : Int32) (x1 : Int32) (x2 : Int32) (h0 : Heap) (n0 : Nat) (Z0 : n0 ≤ h0.size) (F_a1 : Fld Z h0 a1 "com/example/cellmark/cellmark/model/ByteString" "bytes" "[B" (.ref t)) (E_a1 : Exa Z h0 a1 "com/example/cellmark/cellmark/model/ByteString") (E_t : Exa Z h0 t "[B") (V_t : Arv Z h0 t k1 .byte (3 : Int32) [(.int x0), (.int x1), (.int x2)] (.int (0 : Int32))) :
    MetFree l (⟨"com/example/cellmark/cellmark/model/ByteString", "toByteArray", "()[B"⟩ : MethodName) (head1 (Jvm.Cond.code (⟨"com/example/cellmark/cellmark/model/ByteString", "toByteArray", "()[B"⟩ : MethodName) prog_5_method_6_code 1 (some (.array .byte)) :: ws) ({ frames := 1, cells := 1, slots := 3, locals := 14 } : Room)) (fun a U => a = #[(.ref a1)] ∧ Z.Warmed39 U.vm ∧ U.heap = h0) (fun _ _ _ _ _ => True) (fun _ U o U' => ∃ v L, o = .returned v ∧ Q_rmT3 Z a1 t k1 x0 x1 x2 h0 n0 v U'.heap L ∧ FrameEnd U o U' L ({ frames := 1, cells := 1, slots := 3, locals := 14 } : Room).cells ({ frames := 1, cells := 1, slots := 3, locals := 14 } : Room).slots) := by
  refine MetFree.of_bodySF (plainFor_of_name pn_com_example_cellmark_cellmark_model_ByteString) hisR ?_
  intro p e s m args below meth c s₁ Bd hml0 hP hK
  obtain ⟨rfl, hZ, hh⟩ := hP
  have hx := Bd.exec
  have hby := Bd.bytes
  have hml : c.maxLocals = 1 := hml0
  have hown : s.vm.findClass "com/example/cellmark/cellmark/model/ByteString" = some m.cls := findClass_of_methodNamed Bd.named
  have hnm := (name_of_methodNamed Bd.named Bd.method).1
  have hret := Bd.returns
  have hlk : meth.locks = false := BodyLoose.notSynchronized Bd
  have X0 : Stand p l e ({ frames := 1, cells := 1, slots := 3, locals := 14 } : Room) s m #[(.ref a1)] below meth c s₁ [] 0 0 := Stand.of_body Bd
  have e0 : s₁.heap = h0 := by rw [← hh, Bd.state]; rfl
  have N0 := Fr.nil n0
  have K0 := Keep.refl h0 []
  refine Rch.body (Q := Q_rmT3 Z a1 t k1 x0 x1 x2 h0 n0) (U' := s₁.setTop (mkF m 0 #[.val (.ref a1)] [])) (fun t k => castTop (ef_rmT3 m a1) k) ?_
  refine Rch.go (U' := s₁.setTop (mkF m 1 #[.val (.ref a1)] [(.ref a1)])) (fun _ k => XS.aloadN X0.here hx rfl (hb hby d43_0) rfl rfl k) ?_
  obtain ⟨T345, X345, e345, st345⟩ := getF X0 hx hZ hown (host := "") (Or.inl (wi hw 37 rfl)) Via.refl e0 F_a1 (g := (mkF m 1 #[.val (.ref a1)] [(.ref a1)])) rfl rfl (hb hby d43_1)
  refine Rch.go (U' := T345.setTop (mkF m 4 #[.val (.ref a1)] [(.ref t)])) st345 ?_
  obtain ⟨T346, h346, X346, e346, E346, V346, Ex346, st346⟩ := cloneH X345 hx hZ hown (wi hw 22 rfl) (wi hw 23 rfl) (wi hw 27 rfl) (wi hw 25 rfl) (wi hw 26 rfl) (wi hw 28 rfl) e345 V_t.arh E_t (g := (mkF m 4 #[.val (.ref a1)] [(.ref t)])) rfl (by rw [hml]; rfl) rfl (hb hby d43_4) (by decide) (W := 0) (cap := 3) (by show 2 * 0 + _ ≤ _; exact Nat.le_of_eq rfl) (by decide) (by decide) (by decide) (by decide)
  obtain ⟨b346, g346⟩ : ∃ z, z = h0.size := ⟨_, rfl⟩
  rw [← g346] at V346 Ex346 st346
  have Vc346 : Arv Z h346 b346 k1 .byte (3 : Int32) [(.int x0), (.int x1), (.int x2)] (.int (0 : Int32)) := V346
  have ne347 : a1 ≠ b346 := Nat.ne_of_lt (Nat.lt_of_lt_of_le E_a1.lt (Nat.le_of_eq g346.symm))
  have ne348 : t ≠ b346 := Nat.ne_of_lt (Nat.lt_of_lt_of_le V_t.lt (Nat.le_of_eq g346.symm))
  have n0b346 : n0 ≤ b346 := Nat.le_trans Z0 (Nat.le_of_eq g346.symm)
  have szb346 : h0.size ≤ b346 := Nat.le_trans K0.1 (Nat.le_of_eq g346.symm)
  have f349 := E_a1.ext E346
  have f350 := F_a1.ext E346
  have f351 := V_t.ext E346
  have f352 := E_t.ext E346
  have z353 := Nat.le_trans Z0 E346.1
  have K354 := K0.ext E346
  refine Rch.go (U' := T346.setTop (mkF m 7 #[.val (.ref a1)] [(.ref b346)])) st346 ?_
  obtain ⟨T355, X355, e355, st355⟩ := castY X346 hx hZ hown (wi hw 29 rfl) e346 (Ins.self Ex346) (g := (mkF m 7 #[.val (.ref a1)] [(.ref b346)])) rfl rfl (hb hby d43_7)
  refine Rch.go (U' := T355.setTop (mkF m 10 #[.val (.ref a1)] [(.ref b346)])) st355 ?_
  refine Rch.fin X355 hlk (v := some (.ref b346)) (fun h => by rw [hret] at h; cases h) e355 (by decide) (by decide) (fun fs hr => retOut X355 hx hret rfl (Or.inr (Or.inr (Or.inr (Or.inr ⟨rfl, rfl, rfl⟩)))) (hb hby d43_10) hr) ?_
  exact ⟨b346, rfl, N0, K354, n0b346, szb346, Vc346⟩
theorem ef_rmS3 (m : MethodId) (a1 : Addr) : entryFrame m #[(.ref a1)] 1 = mkF m 0 #[.val (.ref a1)] [] := by first | (simp [entryFrame, mkF, argsToLocals, Value.category]; done) | rfl
def Q_rmS3 (Z : State) (a1 : Addr) (t : Addr) (k1 : ClassId) (x0 : Int32) (x1 : Int32) (x2 : Int32) (h0 : Heap) (n0 : Nat) (v : Option Value) (h : Heap) (L : List Loc) : Prop := v = some (.int (3 : Int32)) ∧ Fr n0 L ∧ h = h0
set_option maxRecDepth 65536 in
set_option maxHeartbeats 40000000 in
theorem rmS3 (l : Launch) (Z : State) (a0 : Array Value) (hw : ∀ d ∈ tables_1, d.before a0 Z = true) (ws : List Jvm.Cond) (a1 : Addr) (t : Addr) (k1 : ClassId) (x0 : Int32) (x1 : Int32) (x2 : Int32) (h0 : Heap) (n0 : Nat) (Z0 : n0 ≤ h0.size) (F_a1 : Fld Z h0 a1 "com/example/cellmark/cellmark/model/ByteString" "bytes" "[B" (.ref t)) (E_a1 : Exa Z h0 a1 "com/example/cellmark/cellmark/model/ByteString") (E_t : Exa Z h0 t "[B") (V_t : Arv Z h0 t k1 .byte (3 : Int32) [(.int x0), (.int x1), (.int x2)] (.int (0 : Int32))) :
    MetFree l (⟨"com/example/cellmark/cellmark/model/ByteString", "size", "()I"⟩ : MethodName) (head1 (Jvm.Cond.code (⟨"com/example/cellmark/cellmark/model/ByteString", "size", "()I"⟩ : MethodName) prog_5_method_5_code 1 (some .int) :: ws) ({ frames := 0, cells := 0, slots := 0, locals := 0 } : Room)) (fun a U => a = #[(.ref a1)] ∧ Z.Warmed39 U.vm ∧ U.heap = h0) (fun _ _ _ _ _ => True) (fun _ U o U' => ∃ v L, o = .returned v ∧ Q_rmS3 Z a1 t k1 x0 x1 x2 h0 n0 v U'.heap L ∧ FrameEnd U o U' L ({ frames := 0, cells := 0, slots := 0, locals := 0 } : Room).cells ({ frames := 0, cells := 0, slots := 0, locals := 0 } : Room).slots) := by
  refine MetFree.of_bodySF (plainFor_of_name pn_com_example_cellmark_cellmark_model_ByteString) hisR ?_
  intro p e s m args below meth c s₁ Bd hml0 hP hK
  obtain ⟨rfl, hZ, hh⟩ := hP
  have hx := Bd.exec
  have hby := Bd.bytes
  have hml : c.maxLocals = 1 := hml0
  have hown : s.vm.findClass "com/example/cellmark/cellmark/model/ByteString" = some m.cls := findClass_of_methodNamed Bd.named
  have hnm := (name_of_methodNamed Bd.named Bd.method).1
  have hret := Bd.returns
  have hlk : meth.locks = false := BodyLoose.notSynchronized Bd
  have X0 : Stand p l e ({ frames := 0, cells := 0, slots := 0, locals := 0 } : Room) s m #[(.ref a1)] below meth c s₁ [] 0 0 := Stand.of_body Bd
  have e0 : s₁.heap = h0 := by rw [← hh, Bd.state]; rfl
  have N0 := Fr.nil n0
  refine Rch.body (Q := Q_rmS3 Z a1 t k1 x0 x1 x2 h0 n0) (U' := s₁.setTop (mkF m 0 #[.val (.ref a1)] [])) (fun t k => castTop (ef_rmS3 m a1) k) ?_
  refine Rch.go (U' := s₁.setTop (mkF m 1 #[.val (.ref a1)] [(.ref a1)])) (fun _ k => XS.aloadN X0.here hx rfl (hb hby d48_0) rfl rfl k) ?_
  obtain ⟨T356, X356, e356, st356⟩ := getF X0 hx hZ hown (host := "") (Or.inl (wi hw 37 rfl)) Via.refl e0 F_a1 (g := (mkF m 1 #[.val (.ref a1)] [(.ref a1)])) rfl rfl (hb hby d48_1)
  refine Rch.go (U' := T356.setTop (mkF m 4 #[.val (.ref a1)] [(.ref t)])) st356 ?_
  obtain ⟨c357, Ar357, -, S357, M357, -, -⟩ := id V_t
  refine Rch.go (U' := T356.setTop (mkF m 5 #[.val (.ref a1)] [(.int c357.slots.size.toInt32)])) (fun _ k => X356.arraylength hx (by rw [e356]; exact Ar357.1) (State.isArrayOf_alike hZ.alike Ar357.2.1) (g := (mkF m 4 #[.val (.ref a1)] [(.ref t)])) rfl rfl (hb hby d48_4) _ k) ?_
  rw [len_of S357 M357]
  refine Rch.fin X356 hlk (v := some (.int (3 : Int32))) (fun h => by rw [hret] at h; cases h) e356 (by decide) (by decide) (fun fs hr => retI X356 hx hret (hb hby d48_5) hr) ?_
  exact ⟨rfl, N0, rfl⟩
set_option maxRecDepth 65536 in
set_option maxHeartbeats 40000000 in
theorem cut17_3 {p : Program} {l : Launch} {e : Env} {s : State} {m : MethodId} {args : Array Value} {below : List Frame} {meth : Method} {c : Code} {T0 : State} {locs : List Loc} {Z : State} {a0 : Array Value} {h0 : Heap} {n0 : Nat}  (p1 : Int32) (p2 : Int32) (p3 : Int32) (p4 : Int32) (x0 : Int32) (x1 : Int32) (x2 : Int32)
    (X0 : Stand p l e room_1 s m args below meth c T0 locs 0 0) (hx : p.tables.exec = Jvm.exec) (hZ : Z.Warmed39 s.vm) (hw : ∀ d ∈ tables_1, d.before a0 Z = true) (hby : c.code = code) (hml : c.maxLocals = 11) (hown : s.vm.findClass "com/example/cellmark/cellmark/model/ByteStringCopyOfPinLaw" = some m.cls) (hret : meth.sig.returnType = some .boolean) (hlk : meth.locks = false) (e0 : T0.heap = h0) (N0 : Fr n0 locs) (Z0 : n0 ≤ h0.size) (hx0 : nar .byte x0 = x0) (hx1 : nar .byte x1 = x1) (hx2 : nar .byte x2 = x2) :
    Rch p e below (FinW s below (fun v h L => v = some (.int 1) ∧ Fr n0 L) 24 1152) (T0.setTop (mkF m 17 #[.val (.int p1), .val (.int p2), .val (.int p3), .val (.int p4), .val (.int (3 : Int32)), .val (.int x0), .val (.int x1), .val (.int x2), .unset, .unset, .unset] [])) := by
  refine Rch.go (U' := T0.setTop (mkF m 19 #[.val (.int p1), .val (.int p2), .val (.int p3), .val (.int p4), .val (.int (3 : Int32)), .val (.int x0), .val (.int x1), .val (.int x2), .unset, .unset, .unset] [(.int (3 : Int32))])) (fun _ k => XS.iload X0.here hx rfl (hb hby at_17) rfl  k) ?_
  refine Rch.go (U' := T0.setTop (mkF m 21 #[.val (.int p1), .val (.int p2), .val (.int p3), .val (.int p4), .val (.int (3 : Int32)), .val (.int x0), .val (.int x1), .val (.int x2), .unset, .unset, .unset] [(.int x0), (.int (3 : Int32))])) (fun _ k => XS.iload X0.here hx rfl (hb hby at_19) rfl  k) ?_
  refine Rch.go (U' := T0.setTop (mkF m 23 #[.val (.int p1), .val (.int p2), .val (.int p3), .val (.int p4), .val (.int (3 : Int32)), .val (.int x0), .val (.int x1), .val (.int x2), .unset, .unset, .unset] [(.int x1), (.int x0), (.int (3 : Int32))])) (fun _ k => XS.iload X0.here hx rfl (hb hby at_21) rfl  k) ?_
  refine Rch.go (U' := T0.setTop (mkF m 25 #[.val (.int p1), .val (.int p2), .val (.int p3), .val (.int p4), .val (.int (3 : Int32)), .val (.int x0), .val (.int x1), .val (.int x2), .unset, .unset, .unset] [(.int x2), (.int x1), (.int x0), (.int (3 : Int32))])) (fun _ k => XS.iload X0.here hx rfl (hb hby at_23) rfl  k) ?_
  obtain ⟨_, _, ⟨T358, L358, k358, n358⟩, -, X358, ⟨Lc358, hQ358, l358, y358, z358⟩, st358⟩ := Jvm.LawKit.callS X0 hx (y := (⟨"com/example/cellmark/cellmark/model/ByteStringCopyOfPinLaw", "make", "(IBBB)[B"⟩ : MethodName)) hown (mvT hZ (wi hw 0 rfl)) (mvT hZ (wi hw 1 rfl)) (mvT hZ (wi hw 2 rfl)) (mvT hZ (wi hw 3 rfl)) (by decide) (backOf (W := 0) (rmM3 l Z a0 hw [] x0 x1 x2 h0 n0 Z0 hx0 hx1 hx2) hZ (wi hw 3 rfl) (wi hw 2 rfl) (by decide) (by decide)) (g := (mkF m 25 #[.val (.int p1), .val (.int p2), .val (.int p3), .val (.int p4), .val (.int (3 : Int32)), .val (.int x0), .val (.int x1), .val (.int x2), .unset, .unset, .unset] [(.int x2), (.int x1), (.int x0), (.int (3 : Int32))])) rfl (by rw [hml]; rfl) (argsL := [(.int (3 : Int32)), (.int x0), (.int x1), (.int x2)]) (rest := []) (lenOf pd_10 rfl) rfl (by show 2 * 0 + _ ≤ _; exact Nat.le_of_eq rfl) (hb hby at_25) (fun _ _ => ⟨rfl, e0, (by decide : 0 + 1 ≤ _), (by decide : 0 + 3 ≤ _)⟩)
  dsimp only [Pt.U, Pt.locs, Pt.cells, Pt.slots] at X358 l358 y358 z358 st358 hQ358
  subst l358 y358 z358
  obtain ⟨b358, kb358, rfl, N358q, K358q, g358, s358, Ex358, V358⟩ := hQ358
  have N358 := Fr.app N0 N358q
  have z359 := Nat.le_trans Z0 K358q.1
  refine Rch.go (U' := T358.setTop (mkF m 28 #[.val (.int p1), .val (.int p2), .val (.int p3), .val (.int p4), .val (.int (3 : Int32)), .val (.int x0), .val (.int x1), .val (.int x2), .unset, .unset, .unset] [(.ref b358)])) st358 ?_
  refine Rch.go (U' := T358.setTop (mkF m 30 #[.val (.int p1), .val (.int p2), .val (.int p3), .val (.int p4), .val (.int (3 : Int32)), .val (.int x0), .val (.int x1), .val (.int x2), .val (.ref b358), .unset, .unset] [])) (fun _ k => XS.astore X358.here hx rfl (hb hby at_28) rfl rfl (l' := #[.val (.int p1), .val (.int p2), .val (.int p3), .val (.int p4), .val (.int (3 : Int32)), .val (.int x0), .val (.int x1), .val (.int x2), .val (.ref b358), .unset, .unset]) rfl k) ?_
  refine Rch.go (U' := T358.setTop (mkF m 32 #[.val (.int p1), .val (.int p2), .val (.int p3), .val (.int p4), .val (.int (3 : Int32)), .val (.int x0), .val (.int x1), .val (.int x2), .val (.ref b358), .unset, .unset] [(.ref b358)])) (fun _ k => XS.aload X358.here hx rfl (hb hby at_30) rfl rfl k) ?_
  obtain ⟨_, _, ⟨T360, L360, k360, n360⟩, -, X360, hS360, hgr360, ⟨Lc360, hQ360, l360, y360, z360⟩, st360⟩ := callSS X358 hx (y := (⟨"com/example/cellmark/cellmark/model/ByteString", "copyOf", "([B)Lcom/example/cellmark/cellmark/model/ByteString;"⟩ : MethodName)) hown (mvT hZ (wi hw 5 rfl)) (mvT hZ (wi hw 6 rfl)) (mvT hZ (wi hw 7 rfl)) (mvT hZ (wi hw 8 rfl)) (by decide) (backOfS (W := 0) (rmC3 l Z a0 hw [] b358 kb358 x0 x1 x2 T358.heap n0 z359 Ex358 V358) hZ (wi hw 8 rfl) (wi hw 7 rfl) (by decide) (by decide)) (g := (mkF m 32 #[.val (.int p1), .val (.int p2), .val (.int p3), .val (.int p4), .val (.int (3 : Int32)), .val (.int x0), .val (.int x1), .val (.int x2), .val (.ref b358), .unset, .unset] [(.ref b358)])) rfl (by rw [hml]; rfl) (argsL := [(.ref b358)]) (rest := []) (lenOf pd_11 rfl) rfl (by show 2 * 0 + _ ≤ _; exact Nat.le_of_eq rfl) (hb hby at_32) (fun _ _ => ⟨rfl, rfl, (by decide : 1 + 4 ≤ _), (by decide : 3 + 28 ≤ _)⟩)
  dsimp only [Pt.U, Pt.locs, Pt.cells, Pt.slots] at X360 l360 y360 z360 st360 hQ360 hS360 hgr360
  subst l360 y360 z360
  have hZ : Z.Warmed39 (s.setVm T360.vm).vm := State.Warmed39.trans hZ hS360.1
  have hown : (s.setVm T360.vm).vm.findClass "com/example/cellmark/cellmark/model/ByteStringCopyOfPinLaw" = some m.cls := by rw [show (s.setVm T360.vm).vm = T360.vm from rfl, hS360.1.alike.findClass]; exact hown
  obtain ⟨b360, t360, rfl, N360q, K360q, gb360, gt360, sb360, sx360, Eb360, Fb360, Et360, V360⟩ := hQ360
  have N360 := Fr.app N358 N360q
  have z361 := Nat.le_trans z359 K360q.1
  have f362 := Ex358.keep K360q
  have f363 := V358.keep K360q nin0
  have ne364 : b358 ≠ b360 := Nat.ne_of_lt (Nat.lt_of_lt_of_le V358.lt sb360)
  have ne365 : b358 ≠ t360 := Nat.ne_of_lt (Nat.lt_of_lt_of_le V358.lt sx360)
  refine Rch.to (U' := T360.setTop (mkF m 35 #[.val (.int p1), .val (.int p2), .val (.int p3), .val (.int p4), .val (.int (3 : Int32)), .val (.int x0), .val (.int x1), .val (.int x2), .val (.ref b358), .unset, .unset] [(.ref b360)])) st360 ?_
  refine Rch.go (U' := T360.setTop (mkF m 37 #[.val (.int p1), .val (.int p2), .val (.int p3), .val (.int p4), .val (.int (3 : Int32)), .val (.int x0), .val (.int x1), .val (.int x2), .val (.ref b358), .val (.ref b360), .unset] [])) (fun _ k => XS.astore X360.here hx rfl (hb hby at_35) rfl rfl (l' := #[.val (.int p1), .val (.int p2), .val (.int p3), .val (.int p4), .val (.int (3 : Int32)), .val (.int x0), .val (.int x1), .val (.int x2), .val (.ref b358), .val (.ref b360), .unset]) rfl k) ?_
  refine Rch.go (U' := T360.setTop (mkF m 39 #[.val (.int p1), .val (.int p2), .val (.int p3), .val (.int p4), .val (.int (3 : Int32)), .val (.int x0), .val (.int x1), .val (.int x2), .val (.ref b358), .val (.ref b360), .unset] [(.int (3 : Int32))])) (fun _ k => XS.iload X360.here hx rfl (hb hby at_37) rfl  k) ?_
  have br366 : (0 : Int32) < (3 : Int32) := (by decide)
  refine Rch.go (U' := T360.setTop (mkF m 42 #[.val (.int p1), .val (.int p2), .val (.int p3), .val (.int p4), .val (.int (3 : Int32)), .val (.int x0), .val (.int x1), .val (.int x2), .val (.ref b358), .val (.ref b360), .unset] [])) (fun _ k => XS.ifNo X360.here hx rfl (hb hby at_39) rfl (XT.i0_le_f br366) k) ?_
  refine Rch.go (U' := T360.setTop (mkF m 44 #[.val (.int p1), .val (.int p2), .val (.int p3), .val (.int p4), .val (.int (3 : Int32)), .val (.int x0), .val (.int x1), .val (.int x2), .val (.ref b358), .val (.ref b360), .unset] [(.ref b358)])) (fun _ k => XS.aload X360.here hx rfl (hb hby at_42) rfl rfl k) ?_
  refine Rch.go (U' := T360.setTop (mkF m 45 #[.val (.int p1), .val (.int p2), .val (.int p3), .val (.int p4), .val (.int (3 : Int32)), .val (.int x0), .val (.int x1), .val (.int x2), .val (.ref b358), .val (.ref b360), .unset] [(.int (0 : Int32)), (.ref b358)])) (fun _ k => XS.iconst X360.here hx rfl (hb hby at_44) k) ?_
  refine Rch.go (U' := T360.setTop (mkF m 47 #[.val (.int p1), .val (.int p2), .val (.int p3), .val (.int p4), .val (.int (3 : Int32)), .val (.int x0), .val (.int x1), .val (.int x2), .val (.ref b358), .val (.ref b360), .unset] [(.ref b358), (.int (0 : Int32)), (.ref b358)])) (fun _ k => XS.aload X360.here hx rfl (hb hby at_45) rfl rfl k) ?_
  refine Rch.go (U' := T360.setTop (mkF m 48 #[.val (.int p1), .val (.int p2), .val (.int p3), .val (.int p4), .val (.int (3 : Int32)), .val (.int x0), .val (.int x1), .val (.int x2), .val (.ref b358), .val (.ref b360), .unset] [(.int (0 : Int32)), (.ref b358), (.int (0 : Int32)), (.ref b358)])) (fun _ k => XS.iconst X360.here hx rfl (hb hby at_47) k) ?_
  obtain ⟨c367, Ar367, q367, S367, M367, Hs367, G367⟩ := id f363
  have i367 : ¬ ((0 : Int32) < 0 ∨ c367.slots.size ≤ ((0 : Int32)).toNatClampNeg) := inb_of S367 ⟨by decide, by decide⟩
  have a367 : c367.slots[((0 : Int32)).toNatClampNeg]? = some (.int x0) := Has.at Hs367 i367 rfl
  refine Rch.go (U' := T360.setTop (mkF m 49 #[.val (.int p1), .val (.int p2), .val (.int p3), .val (.int p4), .val (.int (3 : Int32)), .val (.int x0), .val (.int x1), .val (.int x2), .val (.ref b358), .val (.ref b360), .unset] [(.int x0), (.int (0 : Int32)), (.ref b358)])) (fun _ k => X360.baloadBytes hx (j := (0 : Int32)) (v := (.int x0)) Ar367.1 (State.isArrayOf_alike hZ.alike Ar367.2.1) Ar367.2.2 i367 a367 (g := (mkF m 48 #[.val (.int p1), .val (.int p2), .val (.int p3), .val (.int p4), .val (.int (3 : Int32)), .val (.int x0), .val (.int x1), .val (.int x2), .val (.ref b358), .val (.ref b360), .unset] [(.int (0 : Int32)), (.ref b358), (.int (0 : Int32)), (.ref b358)])) rfl rfl (hb hby at_48) _ k) ?_
  refine Rch.go (U' := T360.setTop (mkF m 50 #[.val (.int p1), .val (.int p2), .val (.int p3), .val (.int p4), .val (.int (3 : Int32)), .val (.int x0), .val (.int x1), .val (.int x2), .val (.ref b358), .val (.ref b360), .unset] [(.int (-1 : Int32)), (.int x0), (.int (0 : Int32)), (.ref b358)])) (fun _ k => XS.iconst X360.here hx rfl (hb hby at_49) k) ?_
  refine Rch.go (U' := T360.setTop (mkF m 51 #[.val (.int p1), .val (.int p2), .val (.int p3), .val (.int p4), .val (.int (3 : Int32)), .val (.int x0), .val (.int x1), .val (.int x2), .val (.ref b358), .val (.ref b360), .unset] [(.int (x0 ^^^ (-1 : Int32))), (.int (0 : Int32)), (.ref b358)])) (fun _ k => XS.ixor X360.here hx rfl (hb hby at_50) rfl k) ?_
  refine Rch.go (U' := T360.setTop (mkF m 52 #[.val (.int p1), .val (.int p2), .val (.int p3), .val (.int p4), .val (.int (3 : Int32)), .val (.int x0), .val (.int x1), .val (.int x2), .val (.ref b358), .val (.ref b360), .unset] [(.int ((x0 ^^^ (-1 : Int32))).toInt8.toInt32), (.int (0 : Int32)), (.ref b358)])) (fun _ k => XS.i2b X360.here hx rfl (hb hby at_51) rfl k) ?_
  obtain ⟨c368, Ar368, q368, S368, M368, Hs368, G368⟩ := id f363
  have i368 : ¬ ((0 : Int32) < 0 ∨ c368.slots.size ≤ ((0 : Int32)).toNatClampNeg) := inb_of S368 ⟨by decide, by decide⟩
  obtain ⟨T368, h368, X368, e368, W368, st368⟩ := stB X360 hx hZ rfl Ar368 (j := (0 : Int32)) i368 (g := (mkF m 52 #[.val (.int p1), .val (.int p2), .val (.int p3), .val (.int p4), .val (.int (3 : Int32)), .val (.int x0), .val (.int x1), .val (.int x2), .val (.ref b358), .val (.ref b360), .unset] [(.int ((x0 ^^^ (-1 : Int32))).toInt8.toInt32), (.int (0 : Int32)), (.ref b358)])) rfl rfl (hb hby at_52)
  have V368 : Arv Z h368 b358 kb358 .byte (3 : Int32) [(.int (nar .byte ((x0 ^^^ (-1 : Int32))).toInt8.toInt32)), (.int x1), (.int x2)] (.int (0 : Int32)) := Arv.set Ar368 q368 S368 M368 Hs368 G368 (fits_nar_byte _) W368 0 rfl (Nat.le_of_ble_eq_true rfl)
  have f369 := f362.wr W368
  have f370 := Eb360.wr W368
  have f371 := Fb360.other W368 (Or.inl (Ne.symm ne364))
  have f372 := Et360.wr W368
  have f373 := V360.other W368 (Ne.symm ne365)
  have N368 := Fr.snoc X368 N360 g358
  have z374 := Nat.le_trans z361 (Keep.of_wr W368).1
  have hk375 := Nat.le_trans (Nat.le_refl T360.heap.size) (Keep.of_wr W368).1
  refine Rch.go (U' := T368.setTop (mkF m 53 #[.val (.int p1), .val (.int p2), .val (.int p3), .val (.int p4), .val (.int (3 : Int32)), .val (.int x0), .val (.int x1), .val (.int x2), .val (.ref b358), .val (.ref b360), .unset] [])) st368 ?_
  refine Rch.go (U' := T368.setTop (mkF m 55 #[.val (.int p1), .val (.int p2), .val (.int p3), .val (.int p4), .val (.int (3 : Int32)), .val (.int x0), .val (.int x1), .val (.int x2), .val (.ref b358), .val (.ref b360), .unset] [(.int (3 : Int32))])) (fun _ k => XS.iload X368.here hx rfl (hb hby at_53) rfl  k) ?_
  refine Rch.go (U' := T368.setTop (mkF m 56 #[.val (.int p1), .val (.int p2), .val (.int p3), .val (.int p4), .val (.int (3 : Int32)), .val (.int x0), .val (.int x1), .val (.int x2), .val (.ref b358), .val (.ref b360), .unset] [(.int (1 : Int32)), (.int (3 : Int32))])) (fun _ k => XS.iconst X368.here hx rfl (hb hby at_55) k) ?_
  have br376 : (1 : Int32) < (3 : Int32) := (by decide)
  refine Rch.go (U' := T368.setTop (mkF m 59 #[.val (.int p1), .val (.int p2), .val (.int p3), .val (.int p4), .val (.int (3 : Int32)), .val (.int x0), .val (.int x1), .val (.int x2), .val (.ref b358), .val (.ref b360), .unset] [])) (fun _ k => XS.icmpNo X368.here hx rfl (hb hby at_56) rfl (XT.ii_le_f br376) k) ?_
  refine Rch.go (U' := T368.setTop (mkF m 61 #[.val (.int p1), .val (.int p2), .val (.int p3), .val (.int p4), .val (.int (3 : Int32)), .val (.int x0), .val (.int x1), .val (.int x2), .val (.ref b358), .val (.ref b360), .unset] [(.ref b358)])) (fun _ k => XS.aload X368.here hx rfl (hb hby at_59) rfl rfl k) ?_
  refine Rch.go (U' := T368.setTop (mkF m 62 #[.val (.int p1), .val (.int p2), .val (.int p3), .val (.int p4), .val (.int (3 : Int32)), .val (.int x0), .val (.int x1), .val (.int x2), .val (.ref b358), .val (.ref b360), .unset] [(.int (1 : Int32)), (.ref b358)])) (fun _ k => XS.iconst X368.here hx rfl (hb hby at_61) k) ?_
  refine Rch.go (U' := T368.setTop (mkF m 64 #[.val (.int p1), .val (.int p2), .val (.int p3), .val (.int p4), .val (.int (3 : Int32)), .val (.int x0), .val (.int x1), .val (.int x2), .val (.ref b358), .val (.ref b360), .unset] [(.ref b358), (.int (1 : Int32)), (.ref b358)])) (fun _ k => XS.aload X368.here hx rfl (hb hby at_62) rfl rfl k) ?_
  refine Rch.go (U' := T368.setTop (mkF m 65 #[.val (.int p1), .val (.int p2), .val (.int p3), .val (.int p4), .val (.int (3 : Int32)), .val (.int x0), .val (.int x1), .val (.int x2), .val (.ref b358), .val (.ref b360), .unset] [(.int (1 : Int32)), (.ref b358), (.int (1 : Int32)), (.ref b358)])) (fun _ k => XS.iconst X368.here hx rfl (hb hby at_64) k) ?_
  obtain ⟨c377, Ar377, q377, S377, M377, Hs377, G377⟩ := id V368
  have i377 : ¬ ((1 : Int32) < 0 ∨ c377.slots.size ≤ ((1 : Int32)).toNatClampNeg) := inb_of S377 ⟨by decide, by decide⟩
  have a377 : c377.slots[((1 : Int32)).toNatClampNeg]? = some (.int x1) := Has.at Hs377 i377 rfl
  refine Rch.go (U' := T368.setTop (mkF m 66 #[.val (.int p1), .val (.int p2), .val (.int p3), .val (.int p4), .val (.int (3 : Int32)), .val (.int x0), .val (.int x1), .val (.int x2), .val (.ref b358), .val (.ref b360), .unset] [(.int x1), (.int (1 : Int32)), (.ref b358)])) (fun _ k => X368.baloadBytes hx (j := (1 : Int32)) (v := (.int x1)) (by rw [e368]; exact Ar377.1) (State.isArrayOf_alike hZ.alike Ar377.2.1) Ar377.2.2 i377 a377 (g := (mkF m 65 #[.val (.int p1), .val (.int p2), .val (.int p3), .val (.int p4), .val (.int (3 : Int32)), .val (.int x0), .val (.int x1), .val (.int x2), .val (.ref b358), .val (.ref b360), .unset] [(.int (1 : Int32)), (.ref b358), (.int (1 : Int32)), (.ref b358)])) rfl rfl (hb hby at_65) _ k) ?_
  refine Rch.go (U' := T368.setTop (mkF m 67 #[.val (.int p1), .val (.int p2), .val (.int p3), .val (.int p4), .val (.int (3 : Int32)), .val (.int x0), .val (.int x1), .val (.int x2), .val (.ref b358), .val (.ref b360), .unset] [(.int (-1 : Int32)), (.int x1), (.int (1 : Int32)), (.ref b358)])) (fun _ k => XS.iconst X368.here hx rfl (hb hby at_66) k) ?_
  refine Rch.go (U' := T368.setTop (mkF m 68 #[.val (.int p1), .val (.int p2), .val (.int p3), .val (.int p4), .val (.int (3 : Int32)), .val (.int x0), .val (.int x1), .val (.int x2), .val (.ref b358), .val (.ref b360), .unset] [(.int (x1 ^^^ (-1 : Int32))), (.int (1 : Int32)), (.ref b358)])) (fun _ k => XS.ixor X368.here hx rfl (hb hby at_67) rfl k) ?_
  refine Rch.go (U' := T368.setTop (mkF m 69 #[.val (.int p1), .val (.int p2), .val (.int p3), .val (.int p4), .val (.int (3 : Int32)), .val (.int x0), .val (.int x1), .val (.int x2), .val (.ref b358), .val (.ref b360), .unset] [(.int ((x1 ^^^ (-1 : Int32))).toInt8.toInt32), (.int (1 : Int32)), (.ref b358)])) (fun _ k => XS.i2b X368.here hx rfl (hb hby at_68) rfl k) ?_
  obtain ⟨c378, Ar378, q378, S378, M378, Hs378, G378⟩ := id V368
  have i378 : ¬ ((1 : Int32) < 0 ∨ c378.slots.size ≤ ((1 : Int32)).toNatClampNeg) := inb_of S378 ⟨by decide, by decide⟩
  obtain ⟨T378, h378, X378, e378, W378, st378⟩ := stB X368 hx hZ e368 Ar378 (j := (1 : Int32)) i378 (g := (mkF m 69 #[.val (.int p1), .val (.int p2), .val (.int p3), .val (.int p4), .val (.int (3 : Int32)), .val (.int x0), .val (.int x1), .val (.int x2), .val (.ref b358), .val (.ref b360), .unset] [(.int ((x1 ^^^ (-1 : Int32))).toInt8.toInt32), (.int (1 : Int32)), (.ref b358)])) rfl rfl (hb hby at_69)
  have V378 : Arv Z h378 b358 kb358 .byte (3 : Int32) [(.int (nar .byte ((x0 ^^^ (-1 : Int32))).toInt8.toInt32)), (.int (nar .byte ((x1 ^^^ (-1 : Int32))).toInt8.toInt32)), (.int x2)] (.int (0 : Int32)) := Arv.set Ar378 q378 S378 M378 Hs378 G378 (fits_nar_byte _) W378 1 rfl (Nat.le_of_ble_eq_true rfl)
  have f379 := f369.wr W378
  have f380 := f370.wr W378
  have f381 := f371.other W378 (Or.inl (Ne.symm ne364))
  have f382 := f372.wr W378
  have f383 := f373.other W378 (Ne.symm ne365)
  have N378 := Fr.snoc X378 N368 g358
  have z384 := Nat.le_trans z374 (Keep.of_wr W378).1
  have hk385 := Nat.le_trans hk375 (Keep.of_wr W378).1
  refine Rch.go (U' := T378.setTop (mkF m 70 #[.val (.int p1), .val (.int p2), .val (.int p3), .val (.int p4), .val (.int (3 : Int32)), .val (.int x0), .val (.int x1), .val (.int x2), .val (.ref b358), .val (.ref b360), .unset] [])) st378 ?_
  refine Rch.go (U' := T378.setTop (mkF m 72 #[.val (.int p1), .val (.int p2), .val (.int p3), .val (.int p4), .val (.int (3 : Int32)), .val (.int x0), .val (.int x1), .val (.int x2), .val (.ref b358), .val (.ref b360), .unset] [(.int (3 : Int32))])) (fun _ k => XS.iload X378.here hx rfl (hb hby at_70) rfl  k) ?_
  refine Rch.go (U' := T378.setTop (mkF m 73 #[.val (.int p1), .val (.int p2), .val (.int p3), .val (.int p4), .val (.int (3 : Int32)), .val (.int x0), .val (.int x1), .val (.int x2), .val (.ref b358), .val (.ref b360), .unset] [(.int (2 : Int32)), (.int (3 : Int32))])) (fun _ k => XS.iconst X378.here hx rfl (hb hby at_72) k) ?_
  have br386 : (2 : Int32) < (3 : Int32) := (by decide)
  refine Rch.go (U' := T378.setTop (mkF m 76 #[.val (.int p1), .val (.int p2), .val (.int p3), .val (.int p4), .val (.int (3 : Int32)), .val (.int x0), .val (.int x1), .val (.int x2), .val (.ref b358), .val (.ref b360), .unset] [])) (fun _ k => XS.icmpNo X378.here hx rfl (hb hby at_73) rfl (XT.ii_le_f br386) k) ?_
  refine Rch.go (U' := T378.setTop (mkF m 78 #[.val (.int p1), .val (.int p2), .val (.int p3), .val (.int p4), .val (.int (3 : Int32)), .val (.int x0), .val (.int x1), .val (.int x2), .val (.ref b358), .val (.ref b360), .unset] [(.ref b358)])) (fun _ k => XS.aload X378.here hx rfl (hb hby at_76) rfl rfl k) ?_
  refine Rch.go (U' := T378.setTop (mkF m 79 #[.val (.int p1), .val (.int p2), .val (.int p3), .val (.int p4), .val (.int (3 : Int32)), .val (.int x0), .val (.int x1), .val (.int x2), .val (.ref b358), .val (.ref b360), .unset] [(.int (2 : Int32)), (.ref b358)])) (fun _ k => XS.iconst X378.here hx rfl (hb hby at_78) k) ?_
  refine Rch.go (U' := T378.setTop (mkF m 81 #[.val (.int p1), .val (.int p2), .val (.int p3), .val (.int p4), .val (.int (3 : Int32)), .val (.int x0), .val (.int x1), .val (.int x2), .val (.ref b358), .val (.ref b360), .unset] [(.ref b358), (.int (2 : Int32)), (.ref b358)])) (fun _ k => XS.aload X378.here hx rfl (hb hby at_79) rfl rfl k) ?_
  refine Rch.go (U' := T378.setTop (mkF m 82 #[.val (.int p1), .val (.int p2), .val (.int p3), .val (.int p4), .val (.int (3 : Int32)), .val (.int x0), .val (.int x1), .val (.int x2), .val (.ref b358), .val (.ref b360), .unset] [(.int (2 : Int32)), (.ref b358), (.int (2 : Int32)), (.ref b358)])) (fun _ k => XS.iconst X378.here hx rfl (hb hby at_81) k) ?_
  obtain ⟨c387, Ar387, q387, S387, M387, Hs387, G387⟩ := id V378
  have i387 : ¬ ((2 : Int32) < 0 ∨ c387.slots.size ≤ ((2 : Int32)).toNatClampNeg) := inb_of S387 ⟨by decide, by decide⟩
  have a387 : c387.slots[((2 : Int32)).toNatClampNeg]? = some (.int x2) := Has.at Hs387 i387 rfl
  refine Rch.go (U' := T378.setTop (mkF m 83 #[.val (.int p1), .val (.int p2), .val (.int p3), .val (.int p4), .val (.int (3 : Int32)), .val (.int x0), .val (.int x1), .val (.int x2), .val (.ref b358), .val (.ref b360), .unset] [(.int x2), (.int (2 : Int32)), (.ref b358)])) (fun _ k => X378.baloadBytes hx (j := (2 : Int32)) (v := (.int x2)) (by rw [e378]; exact Ar387.1) (State.isArrayOf_alike hZ.alike Ar387.2.1) Ar387.2.2 i387 a387 (g := (mkF m 82 #[.val (.int p1), .val (.int p2), .val (.int p3), .val (.int p4), .val (.int (3 : Int32)), .val (.int x0), .val (.int x1), .val (.int x2), .val (.ref b358), .val (.ref b360), .unset] [(.int (2 : Int32)), (.ref b358), (.int (2 : Int32)), (.ref b358)])) rfl rfl (hb hby at_82) _ k) ?_
  refine Rch.go (U' := T378.setTop (mkF m 84 #[.val (.int p1), .val (.int p2), .val (.int p3), .val (.int p4), .val (.int (3 : Int32)), .val (.int x0), .val (.int x1), .val (.int x2), .val (.ref b358), .val (.ref b360), .unset] [(.int (-1 : Int32)), (.int x2), (.int (2 : Int32)), (.ref b358)])) (fun _ k => XS.iconst X378.here hx rfl (hb hby at_83) k) ?_
  refine Rch.go (U' := T378.setTop (mkF m 85 #[.val (.int p1), .val (.int p2), .val (.int p3), .val (.int p4), .val (.int (3 : Int32)), .val (.int x0), .val (.int x1), .val (.int x2), .val (.ref b358), .val (.ref b360), .unset] [(.int (x2 ^^^ (-1 : Int32))), (.int (2 : Int32)), (.ref b358)])) (fun _ k => XS.ixor X378.here hx rfl (hb hby at_84) rfl k) ?_
  refine Rch.go (U' := T378.setTop (mkF m 86 #[.val (.int p1), .val (.int p2), .val (.int p3), .val (.int p4), .val (.int (3 : Int32)), .val (.int x0), .val (.int x1), .val (.int x2), .val (.ref b358), .val (.ref b360), .unset] [(.int ((x2 ^^^ (-1 : Int32))).toInt8.toInt32), (.int (2 : Int32)), (.ref b358)])) (fun _ k => XS.i2b X378.here hx rfl (hb hby at_85) rfl k) ?_
  obtain ⟨c388, Ar388, q388, S388, M388, Hs388, G388⟩ := id V378
  have i388 : ¬ ((2 : Int32) < 0 ∨ c388.slots.size ≤ ((2 : Int32)).toNatClampNeg) := inb_of S388 ⟨by decide, by decide⟩
  obtain ⟨T388, h388, X388, e388, W388, st388⟩ := stB X378 hx hZ e378 Ar388 (j := (2 : Int32)) i388 (g := (mkF m 86 #[.val (.int p1), .val (.int p2), .val (.int p3), .val (.int p4), .val (.int (3 : Int32)), .val (.int x0), .val (.int x1), .val (.int x2), .val (.ref b358), .val (.ref b360), .unset] [(.int ((x2 ^^^ (-1 : Int32))).toInt8.toInt32), (.int (2 : Int32)), (.ref b358)])) rfl rfl (hb hby at_86)
  have V388 : Arv Z h388 b358 kb358 .byte (3 : Int32) [(.int (nar .byte ((x0 ^^^ (-1 : Int32))).toInt8.toInt32)), (.int (nar .byte ((x1 ^^^ (-1 : Int32))).toInt8.toInt32)), (.int (nar .byte ((x2 ^^^ (-1 : Int32))).toInt8.toInt32))] (.int (0 : Int32)) := Arv.set Ar388 q388 S388 M388 Hs388 G388 (fits_nar_byte _) W388 2 rfl (Nat.le_of_ble_eq_true rfl)
  have f389 := f379.wr W388
  have f390 := f380.wr W388
  have f391 := f381.other W388 (Or.inl (Ne.symm ne364))
  have f392 := f382.wr W388
  have f393 := f383.other W388 (Ne.symm ne365)
  have N388 := Fr.snoc X388 N378 g358
  have z394 := Nat.le_trans z384 (Keep.of_wr W388).1
  have hk395 := Nat.le_trans hk385 (Keep.of_wr W388).1
  refine Rch.go (U' := T388.setTop (mkF m 87 #[.val (.int p1), .val (.int p2), .val (.int p3), .val (.int p4), .val (.int (3 : Int32)), .val (.int x0), .val (.int x1), .val (.int x2), .val (.ref b358), .val (.ref b360), .unset] [])) st388 ?_
  refine Rch.go (U' := T388.setTop (mkF m 89 #[.val (.int p1), .val (.int p2), .val (.int p3), .val (.int p4), .val (.int (3 : Int32)), .val (.int x0), .val (.int x1), .val (.int x2), .val (.ref b358), .val (.ref b360), .unset] [(.ref b360)])) (fun _ k => XS.aload X388.here hx rfl (hb hby at_87) rfl rfl k) ?_
  obtain ⟨cq396, kq396, q396a, q396b, q396c⟩ := isOf hZ e388 f390
  obtain ⟨_, _, ⟨T396, L396, k396, n396⟩, -, X396, ⟨Lc396, hQ396, l396, y396, z396⟩, st396⟩ := X388.virtualBack hx (y := (⟨"com/example/cellmark/cellmark/model/ByteString", "toByteArray", "()[B"⟩ : MethodName)) (z := (⟨"com/example/cellmark/cellmark/model/ByteString", "toByteArray", "()[B"⟩ : MethodName)) hown (mvT hZ (wi hw 39 rfl)) (mvT hZ (wi hw 40 rfl)) (notFace_of_selects (args := #[]) (mvT hZ (wi hw 42 rfl))) (mvT hZ (wi hw 42 rfl)) (mvT hZ (wi hw 41 rfl)) (by decide) (backOf (W := 0) (rmT3 l Z a0 hw [] b360 t360 kb358 x0 x1 x2 h388 n0 z394 f391 f390 f392 f393) hZ (wi hw 43 rfl) (wi hw 7 rfl) (by decide) (by decide)) q396a q396c (g := (mkF m 89 #[.val (.int p1), .val (.int p2), .val (.int p3), .val (.int p4), .val (.int (3 : Int32)), .val (.int x0), .val (.int x1), .val (.int x2), .val (.ref b358), .val (.ref b360), .unset] [(.ref b360)])) rfl (by rw [hml]; rfl) (Steps.refl _) (argsL := []) (rest := []) (lenOf pd_12 rfl) rfl (by show 2 * 0 + _ ≤ _; exact Nat.le_of_eq rfl) (hb hby at_89) (fun _ _ => ⟨rfl, e388, (by decide : 5 + 1 ≤ _), (by decide : 31 + 3 ≤ _)⟩)
  dsimp only [Pt.U, Pt.locs, Pt.cells, Pt.slots] at X396 l396 y396 z396 st396 hQ396
  subst l396 y396 z396
  obtain ⟨b396, rfl, N396q, K396q, g396, s396, V396⟩ := hQ396
  have N396 := Fr.app N388 N396q
  have z397 := Nat.le_trans z394 K396q.1
  have hk398 := Nat.le_trans hk395 K396q.1
  have f399 := f389.keep K396q
  have f400 := V388.keep K396q nin0
  have f401 := f390.keep K396q
  have f402 := f391.keep K396q nin0
  have f403 := f392.keep K396q
  have f404 := f393.keep K396q nin0
  have ne405 : b358 ≠ b396 := Nat.ne_of_lt (Nat.lt_of_lt_of_le V388.lt s396)
  have ne406 : b360 ≠ b396 := Nat.ne_of_lt (Nat.lt_of_lt_of_le f391.lt s396)
  have ne407 : t360 ≠ b396 := Nat.ne_of_lt (Nat.lt_of_lt_of_le f393.lt s396)
  refine Rch.to (U' := T396.setTop (mkF m 92 #[.val (.int p1), .val (.int p2), .val (.int p3), .val (.int p4), .val (.int (3 : Int32)), .val (.int x0), .val (.int x1), .val (.int x2), .val (.ref b358), .val (.ref b360), .unset] [(.ref b396)])) st396 ?_
  refine Rch.go (U' := T396.setTop (mkF m 94 #[.val (.int p1), .val (.int p2), .val (.int p3), .val (.int p4), .val (.int (3 : Int32)), .val (.int x0), .val (.int x1), .val (.int x2), .val (.ref b358), .val (.ref b360), .val (.ref b396)] [])) (fun _ k => XS.astore X396.here hx rfl (hb hby at_92) rfl rfl (l' := #[.val (.int p1), .val (.int p2), .val (.int p3), .val (.int p4), .val (.int (3 : Int32)), .val (.int x0), .val (.int x1), .val (.int x2), .val (.ref b358), .val (.ref b360), .val (.ref b396)]) rfl k) ?_
  refine Rch.go (U' := T396.setTop (mkF m 96 #[.val (.int p1), .val (.int p2), .val (.int p3), .val (.int p4), .val (.int (3 : Int32)), .val (.int x0), .val (.int x1), .val (.int x2), .val (.ref b358), .val (.ref b360), .val (.ref b396)] [(.ref b360)])) (fun _ k => XS.aload X396.here hx rfl (hb hby at_94) rfl rfl k) ?_
  obtain ⟨cq408, kq408, q408a, q408b, q408c⟩ := isOf hZ rfl f401
  obtain ⟨_, _, ⟨T408, L408, k408, n408⟩, -, X408, ⟨Lc408, hQ408, l408, y408, z408⟩, st408⟩ := X396.virtualBack hx (y := (⟨"com/example/cellmark/cellmark/model/ByteString", "size", "()I"⟩ : MethodName)) (z := (⟨"com/example/cellmark/cellmark/model/ByteString", "size", "()I"⟩ : MethodName)) hown (mvT hZ (wi hw 44 rfl)) (mvT hZ (wi hw 45 rfl)) (notFace_of_selects (args := #[]) (mvT hZ (wi hw 47 rfl))) (mvT hZ (wi hw 47 rfl)) (mvT hZ (wi hw 46 rfl)) (by decide) (backOf (W := 0) (rmS3 l Z a0 hw [] b360 t360 kb358 x0 x1 x2 T396.heap n0 z397 f402 f401 f403 f404) hZ (wi hw 48 rfl) (wi hw 7 rfl) (by decide) (by decide)) q408a q408c (g := (mkF m 96 #[.val (.int p1), .val (.int p2), .val (.int p3), .val (.int p4), .val (.int (3 : Int32)), .val (.int x0), .val (.int x1), .val (.int x2), .val (.ref b358), .val (.ref b360), .val (.ref b396)] [(.ref b360)])) rfl (by rw [hml]; rfl) (Steps.refl _) (argsL := []) (rest := []) (lenOf pd_13 rfl) rfl (by show 2 * 0 + _ ≤ _; exact Nat.le_of_eq rfl) (hb hby at_96) (fun _ _ => ⟨rfl, rfl, (by decide : 6 + 0 ≤ _), (by decide : 34 + 0 ≤ _)⟩)
  dsimp only [Pt.U, Pt.locs, Pt.cells, Pt.slots] at X408 l408 y408 z408 st408 hQ408
  subst l408 y408 z408
  obtain ⟨rfl, N408q, e408⟩ := hQ408
  have N408 := Fr.app N396 N408q
  refine Rch.to (U' := T408.setTop (mkF m 99 #[.val (.int p1), .val (.int p2), .val (.int p3), .val (.int p4), .val (.int (3 : Int32)), .val (.int x0), .val (.int x1), .val (.int x2), .val (.ref b358), .val (.ref b360), .val (.ref b396)] [(.int (3 : Int32))])) st408 ?_
  refine Rch.go (U' := T408.setTop (mkF m 101 #[.val (.int p1), .val (.int p2), .val (.int p3), .val (.int p4), .val (.int (3 : Int32)), .val (.int x0), .val (.int x1), .val (.int x2), .val (.ref b358), .val (.ref b360), .val (.ref b396)] [(.int (3 : Int32)), (.int (3 : Int32))])) (fun _ k => XS.iload X408.here hx rfl (hb hby at_99) rfl  k) ?_
  have br409 : (3 : Int32) = (3 : Int32) := (by decide)
  refine Rch.go (U' := T408.setTop (mkF m 106 #[.val (.int p1), .val (.int p2), .val (.int p3), .val (.int p4), .val (.int (3 : Int32)), .val (.int x0), .val (.int x1), .val (.int x2), .val (.ref b358), .val (.ref b360), .val (.ref b396)] [])) (fun _ k => XS.icmpYes X408.here hx rfl (pc0 := 101) (pc' := 106) rfl (hb hby at_101) rfl (XT.ii_eq_t br409) (by decide) (by decide) k) ?_
  refine Rch.go (U' := T408.setTop (mkF m 108 #[.val (.int p1), .val (.int p2), .val (.int p3), .val (.int p4), .val (.int (3 : Int32)), .val (.int x0), .val (.int x1), .val (.int x2), .val (.ref b358), .val (.ref b360), .val (.ref b396)] [(.ref b396)])) (fun _ k => XS.aload X408.here hx rfl (hb hby at_106) rfl rfl k) ?_
  obtain ⟨c410, Ar410, -, S410, M410, -, -⟩ := id V396
  refine Rch.go (U' := T408.setTop (mkF m 109 #[.val (.int p1), .val (.int p2), .val (.int p3), .val (.int p4), .val (.int (3 : Int32)), .val (.int x0), .val (.int x1), .val (.int x2), .val (.ref b358), .val (.ref b360), .val (.ref b396)] [(.int c410.slots.size.toInt32)])) (fun _ k => X408.arraylength hx (by rw [e408]; exact Ar410.1) (State.isArrayOf_alike hZ.alike Ar410.2.1) (g := (mkF m 108 #[.val (.int p1), .val (.int p2), .val (.int p3), .val (.int p4), .val (.int (3 : Int32)), .val (.int x0), .val (.int x1), .val (.int x2), .val (.ref b358), .val (.ref b360), .val (.ref b396)] [(.ref b396)])) rfl rfl (hb hby at_108) _ k) ?_
  rw [len_of S410 M410]
  refine Rch.go (U' := T408.setTop (mkF m 111 #[.val (.int p1), .val (.int p2), .val (.int p3), .val (.int p4), .val (.int (3 : Int32)), .val (.int x0), .val (.int x1), .val (.int x2), .val (.ref b358), .val (.ref b360), .val (.ref b396)] [(.int (3 : Int32)), (.int (3 : Int32))])) (fun _ k => XS.iload X408.here hx rfl (hb hby at_109) rfl  k) ?_
  have br411 : (3 : Int32) = (3 : Int32) := (by decide)
  refine Rch.go (U' := T408.setTop (mkF m 116 #[.val (.int p1), .val (.int p2), .val (.int p3), .val (.int p4), .val (.int (3 : Int32)), .val (.int x0), .val (.int x1), .val (.int x2), .val (.ref b358), .val (.ref b360), .val (.ref b396)] [])) (fun _ k => XS.icmpYes X408.here hx rfl (pc0 := 111) (pc' := 116) rfl (hb hby at_111) rfl (XT.ii_eq_t br411) (by decide) (by decide) k) ?_
  refine Rch.go (U' := T408.setTop (mkF m 118 #[.val (.int p1), .val (.int p2), .val (.int p3), .val (.int p4), .val (.int (3 : Int32)), .val (.int x0), .val (.int x1), .val (.int x2), .val (.ref b358), .val (.ref b360), .val (.ref b396)] [(.int (3 : Int32))])) (fun _ k => XS.iload X408.here hx rfl (hb hby at_116) rfl  k) ?_
  have br412 : (0 : Int32) < (3 : Int32) := (by decide)
  refine Rch.go (U' := T408.setTop (mkF m 121 #[.val (.int p1), .val (.int p2), .val (.int p3), .val (.int p4), .val (.int (3 : Int32)), .val (.int x0), .val (.int x1), .val (.int x2), .val (.ref b358), .val (.ref b360), .val (.ref b396)] [])) (fun _ k => XS.ifNo X408.here hx rfl (hb hby at_118) rfl (XT.i0_le_f br412) k) ?_
  refine Rch.go (U' := T408.setTop (mkF m 123 #[.val (.int p1), .val (.int p2), .val (.int p3), .val (.int p4), .val (.int (3 : Int32)), .val (.int x0), .val (.int x1), .val (.int x2), .val (.ref b358), .val (.ref b360), .val (.ref b396)] [(.ref b396)])) (fun _ k => XS.aload X408.here hx rfl (hb hby at_121) rfl rfl k) ?_
  refine Rch.go (U' := T408.setTop (mkF m 124 #[.val (.int p1), .val (.int p2), .val (.int p3), .val (.int p4), .val (.int (3 : Int32)), .val (.int x0), .val (.int x1), .val (.int x2), .val (.ref b358), .val (.ref b360), .val (.ref b396)] [(.int (0 : Int32)), (.ref b396)])) (fun _ k => XS.iconst X408.here hx rfl (hb hby at_123) k) ?_
  obtain ⟨c413, Ar413, q413, S413, M413, Hs413, G413⟩ := id V396
  have i413 : ¬ ((0 : Int32) < 0 ∨ c413.slots.size ≤ ((0 : Int32)).toNatClampNeg) := inb_of S413 ⟨by decide, by decide⟩
  have a413 : c413.slots[((0 : Int32)).toNatClampNeg]? = some (.int x0) := Has.at Hs413 i413 rfl
  refine Rch.go (U' := T408.setTop (mkF m 125 #[.val (.int p1), .val (.int p2), .val (.int p3), .val (.int p4), .val (.int (3 : Int32)), .val (.int x0), .val (.int x1), .val (.int x2), .val (.ref b358), .val (.ref b360), .val (.ref b396)] [(.int x0)])) (fun _ k => X408.baloadBytes hx (j := (0 : Int32)) (v := (.int x0)) (by rw [e408]; exact Ar413.1) (State.isArrayOf_alike hZ.alike Ar413.2.1) Ar413.2.2 i413 a413 (g := (mkF m 124 #[.val (.int p1), .val (.int p2), .val (.int p3), .val (.int p4), .val (.int (3 : Int32)), .val (.int x0), .val (.int x1), .val (.int x2), .val (.ref b358), .val (.ref b360), .val (.ref b396)] [(.int (0 : Int32)), (.ref b396)])) rfl rfl (hb hby at_124) _ k) ?_
  refine Rch.go (U' := T408.setTop (mkF m 127 #[.val (.int p1), .val (.int p2), .val (.int p3), .val (.int p4), .val (.int (3 : Int32)), .val (.int x0), .val (.int x1), .val (.int x2), .val (.ref b358), .val (.ref b360), .val (.ref b396)] [(.int x0), (.int x0)])) (fun _ k => XS.iload X408.here hx rfl (hb hby at_125) rfl  k) ?_
  have br414 : x0 = x0 := rfl
  refine Rch.go (U' := T408.setTop (mkF m 132 #[.val (.int p1), .val (.int p2), .val (.int p3), .val (.int p4), .val (.int (3 : Int32)), .val (.int x0), .val (.int x1), .val (.int x2), .val (.ref b358), .val (.ref b360), .val (.ref b396)] [])) (fun _ k => XS.icmpYes X408.here hx rfl (pc0 := 127) (pc' := 132) rfl (hb hby at_127) rfl (XT.ii_eq_t br414) (by decide) (by decide) k) ?_
  refine Rch.go (U' := T408.setTop (mkF m 134 #[.val (.int p1), .val (.int p2), .val (.int p3), .val (.int p4), .val (.int (3 : Int32)), .val (.int x0), .val (.int x1), .val (.int x2), .val (.ref b358), .val (.ref b360), .val (.ref b396)] [(.int (3 : Int32))])) (fun _ k => XS.iload X408.here hx rfl (hb hby at_132) rfl  k) ?_
  refine Rch.go (U' := T408.setTop (mkF m 135 #[.val (.int p1), .val (.int p2), .val (.int p3), .val (.int p4), .val (.int (3 : Int32)), .val (.int x0), .val (.int x1), .val (.int x2), .val (.ref b358), .val (.ref b360), .val (.ref b396)] [(.int (1 : Int32)), (.int (3 : Int32))])) (fun _ k => XS.iconst X408.here hx rfl (hb hby at_134) k) ?_
  have br415 : (1 : Int32) < (3 : Int32) := (by decide)
  refine Rch.go (U' := T408.setTop (mkF m 138 #[.val (.int p1), .val (.int p2), .val (.int p3), .val (.int p4), .val (.int (3 : Int32)), .val (.int x0), .val (.int x1), .val (.int x2), .val (.ref b358), .val (.ref b360), .val (.ref b396)] [])) (fun _ k => XS.icmpNo X408.here hx rfl (hb hby at_135) rfl (XT.ii_le_f br415) k) ?_
  refine Rch.go (U' := T408.setTop (mkF m 140 #[.val (.int p1), .val (.int p2), .val (.int p3), .val (.int p4), .val (.int (3 : Int32)), .val (.int x0), .val (.int x1), .val (.int x2), .val (.ref b358), .val (.ref b360), .val (.ref b396)] [(.ref b396)])) (fun _ k => XS.aload X408.here hx rfl (hb hby at_138) rfl rfl k) ?_
  refine Rch.go (U' := T408.setTop (mkF m 141 #[.val (.int p1), .val (.int p2), .val (.int p3), .val (.int p4), .val (.int (3 : Int32)), .val (.int x0), .val (.int x1), .val (.int x2), .val (.ref b358), .val (.ref b360), .val (.ref b396)] [(.int (1 : Int32)), (.ref b396)])) (fun _ k => XS.iconst X408.here hx rfl (hb hby at_140) k) ?_
  obtain ⟨c416, Ar416, q416, S416, M416, Hs416, G416⟩ := id V396
  have i416 : ¬ ((1 : Int32) < 0 ∨ c416.slots.size ≤ ((1 : Int32)).toNatClampNeg) := inb_of S416 ⟨by decide, by decide⟩
  have a416 : c416.slots[((1 : Int32)).toNatClampNeg]? = some (.int x1) := Has.at Hs416 i416 rfl
  refine Rch.go (U' := T408.setTop (mkF m 142 #[.val (.int p1), .val (.int p2), .val (.int p3), .val (.int p4), .val (.int (3 : Int32)), .val (.int x0), .val (.int x1), .val (.int x2), .val (.ref b358), .val (.ref b360), .val (.ref b396)] [(.int x1)])) (fun _ k => X408.baloadBytes hx (j := (1 : Int32)) (v := (.int x1)) (by rw [e408]; exact Ar416.1) (State.isArrayOf_alike hZ.alike Ar416.2.1) Ar416.2.2 i416 a416 (g := (mkF m 141 #[.val (.int p1), .val (.int p2), .val (.int p3), .val (.int p4), .val (.int (3 : Int32)), .val (.int x0), .val (.int x1), .val (.int x2), .val (.ref b358), .val (.ref b360), .val (.ref b396)] [(.int (1 : Int32)), (.ref b396)])) rfl rfl (hb hby at_141) _ k) ?_
  refine Rch.go (U' := T408.setTop (mkF m 144 #[.val (.int p1), .val (.int p2), .val (.int p3), .val (.int p4), .val (.int (3 : Int32)), .val (.int x0), .val (.int x1), .val (.int x2), .val (.ref b358), .val (.ref b360), .val (.ref b396)] [(.int x1), (.int x1)])) (fun _ k => XS.iload X408.here hx rfl (hb hby at_142) rfl  k) ?_
  have br417 : x1 = x1 := rfl
  refine Rch.go (U' := T408.setTop (mkF m 149 #[.val (.int p1), .val (.int p2), .val (.int p3), .val (.int p4), .val (.int (3 : Int32)), .val (.int x0), .val (.int x1), .val (.int x2), .val (.ref b358), .val (.ref b360), .val (.ref b396)] [])) (fun _ k => XS.icmpYes X408.here hx rfl (pc0 := 144) (pc' := 149) rfl (hb hby at_144) rfl (XT.ii_eq_t br417) (by decide) (by decide) k) ?_
  refine Rch.go (U' := T408.setTop (mkF m 151 #[.val (.int p1), .val (.int p2), .val (.int p3), .val (.int p4), .val (.int (3 : Int32)), .val (.int x0), .val (.int x1), .val (.int x2), .val (.ref b358), .val (.ref b360), .val (.ref b396)] [(.int (3 : Int32))])) (fun _ k => XS.iload X408.here hx rfl (hb hby at_149) rfl  k) ?_
  refine Rch.go (U' := T408.setTop (mkF m 152 #[.val (.int p1), .val (.int p2), .val (.int p3), .val (.int p4), .val (.int (3 : Int32)), .val (.int x0), .val (.int x1), .val (.int x2), .val (.ref b358), .val (.ref b360), .val (.ref b396)] [(.int (2 : Int32)), (.int (3 : Int32))])) (fun _ k => XS.iconst X408.here hx rfl (hb hby at_151) k) ?_
  have br418 : (2 : Int32) < (3 : Int32) := (by decide)
  refine Rch.go (U' := T408.setTop (mkF m 155 #[.val (.int p1), .val (.int p2), .val (.int p3), .val (.int p4), .val (.int (3 : Int32)), .val (.int x0), .val (.int x1), .val (.int x2), .val (.ref b358), .val (.ref b360), .val (.ref b396)] [])) (fun _ k => XS.icmpNo X408.here hx rfl (hb hby at_152) rfl (XT.ii_le_f br418) k) ?_
  refine Rch.go (U' := T408.setTop (mkF m 157 #[.val (.int p1), .val (.int p2), .val (.int p3), .val (.int p4), .val (.int (3 : Int32)), .val (.int x0), .val (.int x1), .val (.int x2), .val (.ref b358), .val (.ref b360), .val (.ref b396)] [(.ref b396)])) (fun _ k => XS.aload X408.here hx rfl (hb hby at_155) rfl rfl k) ?_
  refine Rch.go (U' := T408.setTop (mkF m 158 #[.val (.int p1), .val (.int p2), .val (.int p3), .val (.int p4), .val (.int (3 : Int32)), .val (.int x0), .val (.int x1), .val (.int x2), .val (.ref b358), .val (.ref b360), .val (.ref b396)] [(.int (2 : Int32)), (.ref b396)])) (fun _ k => XS.iconst X408.here hx rfl (hb hby at_157) k) ?_
  obtain ⟨c419, Ar419, q419, S419, M419, Hs419, G419⟩ := id V396
  have i419 : ¬ ((2 : Int32) < 0 ∨ c419.slots.size ≤ ((2 : Int32)).toNatClampNeg) := inb_of S419 ⟨by decide, by decide⟩
  have a419 : c419.slots[((2 : Int32)).toNatClampNeg]? = some (.int x2) := Has.at Hs419 i419 rfl
  refine Rch.go (U' := T408.setTop (mkF m 159 #[.val (.int p1), .val (.int p2), .val (.int p3), .val (.int p4), .val (.int (3 : Int32)), .val (.int x0), .val (.int x1), .val (.int x2), .val (.ref b358), .val (.ref b360), .val (.ref b396)] [(.int x2)])) (fun _ k => X408.baloadBytes hx (j := (2 : Int32)) (v := (.int x2)) (by rw [e408]; exact Ar419.1) (State.isArrayOf_alike hZ.alike Ar419.2.1) Ar419.2.2 i419 a419 (g := (mkF m 158 #[.val (.int p1), .val (.int p2), .val (.int p3), .val (.int p4), .val (.int (3 : Int32)), .val (.int x0), .val (.int x1), .val (.int x2), .val (.ref b358), .val (.ref b360), .val (.ref b396)] [(.int (2 : Int32)), (.ref b396)])) rfl rfl (hb hby at_158) _ k) ?_
  refine Rch.go (U' := T408.setTop (mkF m 161 #[.val (.int p1), .val (.int p2), .val (.int p3), .val (.int p4), .val (.int (3 : Int32)), .val (.int x0), .val (.int x1), .val (.int x2), .val (.ref b358), .val (.ref b360), .val (.ref b396)] [(.int x2), (.int x2)])) (fun _ k => XS.iload X408.here hx rfl (hb hby at_159) rfl  k) ?_
  have br420 : x2 = x2 := rfl
  refine Rch.go (U' := T408.setTop (mkF m 166 #[.val (.int p1), .val (.int p2), .val (.int p3), .val (.int p4), .val (.int (3 : Int32)), .val (.int x0), .val (.int x1), .val (.int x2), .val (.ref b358), .val (.ref b360), .val (.ref b396)] [])) (fun _ k => XS.icmpYes X408.here hx rfl (pc0 := 161) (pc' := 166) rfl (hb hby at_161) rfl (XT.ii_eq_t br420) (by decide) (by decide) k) ?_
  refine Rch.go (U' := T408.setTop (mkF m 167 #[.val (.int p1), .val (.int p2), .val (.int p3), .val (.int p4), .val (.int (3 : Int32)), .val (.int x0), .val (.int x1), .val (.int x2), .val (.ref b358), .val (.ref b360), .val (.ref b396)] [(.int (1 : Int32))])) (fun _ k => XS.iconst X408.here hx rfl (hb hby at_166) k) ?_
  refine Rch.finW (s := s) X408 hlk (v := some (.int (nar .boolean (1 : Int32)))) (fun h => by rw [hret] at h; cases h) e408 (by decide) (by decide) hS360 hk398 (fun fs hr => retN X408 hx (t := .boolean) hret (by simp) (hb hby at_167) hr) ?_
  exact ⟨rfl, N408⟩
theorem ef_rm0 (m : MethodId) (p1 : Int32) (p2 : Int32) (p3 : Int32) (p4 : Int32) : entryFrame m #[(.int p1), (.int p2), (.int p3), (.int p4)] maxLocals = mkF m 0 #[.val (.int p1), .val (.int p2), .val (.int p3), .val (.int p4), .unset, .unset, .unset, .unset, .unset, .unset, .unset] [] := by first | (simp [entryFrame, mkF, argsToLocals, Value.category, maxLocals]; done) | rfl
def Q_rm0 (Z : State) (p1 : Int32) (p2 : Int32) (p3 : Int32) (p4 : Int32) (h0 : Heap) (n0 : Nat) (v : Option Value) (h : Heap) (L : List Loc) : Prop := v = some (.int 1) ∧ Fr n0 L
set_option maxRecDepth 65536 in
set_option maxHeartbeats 40000000 in
theorem rm0 (l : Launch) (Z : State) (a0 : Array Value) (hw : ∀ d ∈ tables_1, d.before a0 Z = true) (ws : List Jvm.Cond) (p1 : Int32) (p2 : Int32) (p3 : Int32) (p4 : Int32) (h0 : Heap) (n0 : Nat) (Z0 : n0 ≤ h0.size)  :
    MetFree l x (head1 (Jvm.Cond.code x code maxLocals ret :: ws) room_1) (fun a U => a = #[(.int p1), (.int p2), (.int p3), (.int p4)] ∧ Z.Warmed39 U.vm ∧ U.heap = h0) (fun _ _ _ _ _ => True) (fun _ U o U' => ∃ v L, o = .returned v ∧ Q_rm0 Z p1 p2 p3 p4 h0 n0 v U'.heap L ∧ ReturnedEndW U o U' L 24 1152) := by
  refine MetFree.of_bodySF (plainFor_of_name pn_com_example_cellmark_cellmark_model_ByteStringCopyOfPinLaw) hisR ?_
  intro p e s m args below meth c s₁ Bd hml0 hP hK
  obtain ⟨rfl, hZ, hh⟩ := hP
  have hx := Bd.exec
  have hby := Bd.bytes
  have hml : c.maxLocals = 11 := hml0
  have hown : s.vm.findClass "com/example/cellmark/cellmark/model/ByteStringCopyOfPinLaw" = some m.cls := findClass_of_methodNamed Bd.named
  have hnm := (name_of_methodNamed Bd.named Bd.method).1
  have hret := Bd.returns
  have hlk : meth.locks = false := BodyLoose.notSynchronized Bd
  have X0 : Stand p l e room_1 s m #[(.int p1), (.int p2), (.int p3), (.int p4)] below meth c s₁ [] 0 0 := Stand.of_body Bd
  have e0 : s₁.heap = h0 := by rw [← hh, Bd.state]; rfl
  have N0 := Fr.nil n0
  have hS0 : s.Since s.vm 0 := (State.WarmedH.refl s).since 0
  have hwS : ∀ d ∈ Bundle.stringAtoms, d.before a0 Z = true := fun d hd => hw d ((by decide +kernel : ∀ d ∈ Bundle.stringAtoms, d ∈ tables_1) d hd)
  have X0 : Stand p l e room_1 (s.setVm s.vm) m #[(.int p1), (.int p2), (.int p3), (.int p4)] below meth c s₁ [] 0 0 := X0
  have X00 : Stand p l e room_1 s m #[(.int p1), (.int p2), (.int p3), (.int p4)] below meth c s₁ [] 0 0 := X0
  refine Rch.bodyW (Q := Q_rm0 Z p1 p2 p3 p4 h0 n0) (U' := s₁.setTop (mkF m 0 #[.val (.int p1), .val (.int p2), .val (.int p3), .val (.int p4), .unset, .unset, .unset, .unset, .unset, .unset, .unset] [])) (fun t k => castTop (ef_rm0 m p1 p2 p3 p4) k) ?_
  refine Rch.go (U' := s₁.setTop (mkF m 1 #[.val (.int p1), .val (.int p2), .val (.int p3), .val (.int p4), .unset, .unset, .unset, .unset, .unset, .unset, .unset] [(.int p1)])) (fun _ k => XS.iloadN X0.here hx rfl (hb hby at_0) rfl  k) ?_
  refine Rch.go (U' := s₁.setTop (mkF m 2 #[.val (.int p1), .val (.int p2), .val (.int p3), .val (.int p4), .unset, .unset, .unset, .unset, .unset, .unset, .unset] [(.int (3 : Int32)), (.int p1)])) (fun _ k => XS.iconst X0.here hx rfl (hb hby at_1) k) ?_
  refine Rch.go (U' := s₁.setTop (mkF m 3 #[.val (.int p1), .val (.int p2), .val (.int p3), .val (.int p4), .unset, .unset, .unset, .unset, .unset, .unset, .unset] [(.int (p1 &&& (3 : Int32)))])) (fun _ k => XS.iand X0.here hx rfl (hb hby at_2) rfl k) ?_
  generalize hnn : (p1 &&& (3 : Int32)) = nn
  refine Rch.go (U' := s₁.setTop (mkF m 5 #[.val (.int p1), .val (.int p2), .val (.int p3), .val (.int p4), .val (.int nn), .unset, .unset, .unset, .unset, .unset, .unset] [])) (fun _ k => XS.istore X0.here hx rfl (hb hby at_3) rfl (l' := #[.val (.int p1), .val (.int p2), .val (.int p3), .val (.int p4), .val (.int nn), .unset, .unset, .unset, .unset, .unset, .unset]) rfl k) ?_
  refine Rch.go (U' := s₁.setTop (mkF m 6 #[.val (.int p1), .val (.int p2), .val (.int p3), .val (.int p4), .val (.int nn), .unset, .unset, .unset, .unset, .unset, .unset] [(.int p2)])) (fun _ k => XS.iloadN X0.here hx rfl (hb hby at_5) rfl  k) ?_
  refine Rch.go (U' := s₁.setTop (mkF m 7 #[.val (.int p1), .val (.int p2), .val (.int p3), .val (.int p4), .val (.int nn), .unset, .unset, .unset, .unset, .unset, .unset] [(.int (p2).toInt8.toInt32)])) (fun _ k => XS.i2b X0.here hx rfl (hb hby at_6) rfl k) ?_
  generalize hx0 : (p2).toInt8.toInt32 = x0
  refine Rch.go (U' := s₁.setTop (mkF m 9 #[.val (.int p1), .val (.int p2), .val (.int p3), .val (.int p4), .val (.int nn), .val (.int x0), .unset, .unset, .unset, .unset, .unset] [])) (fun _ k => XS.istore X0.here hx rfl (hb hby at_7) rfl (l' := #[.val (.int p1), .val (.int p2), .val (.int p3), .val (.int p4), .val (.int nn), .val (.int x0), .unset, .unset, .unset, .unset, .unset]) rfl k) ?_
  refine Rch.go (U' := s₁.setTop (mkF m 10 #[.val (.int p1), .val (.int p2), .val (.int p3), .val (.int p4), .val (.int nn), .val (.int x0), .unset, .unset, .unset, .unset, .unset] [(.int p3)])) (fun _ k => XS.iloadN X0.here hx rfl (hb hby at_9) rfl  k) ?_
  refine Rch.go (U' := s₁.setTop (mkF m 11 #[.val (.int p1), .val (.int p2), .val (.int p3), .val (.int p4), .val (.int nn), .val (.int x0), .unset, .unset, .unset, .unset, .unset] [(.int (p3).toInt8.toInt32)])) (fun _ k => XS.i2b X0.here hx rfl (hb hby at_10) rfl k) ?_
  generalize hx1 : (p3).toInt8.toInt32 = x1
  refine Rch.go (U' := s₁.setTop (mkF m 13 #[.val (.int p1), .val (.int p2), .val (.int p3), .val (.int p4), .val (.int nn), .val (.int x0), .val (.int x1), .unset, .unset, .unset, .unset] [])) (fun _ k => XS.istore X0.here hx rfl (hb hby at_11) rfl (l' := #[.val (.int p1), .val (.int p2), .val (.int p3), .val (.int p4), .val (.int nn), .val (.int x0), .val (.int x1), .unset, .unset, .unset, .unset]) rfl k) ?_
  refine Rch.go (U' := s₁.setTop (mkF m 14 #[.val (.int p1), .val (.int p2), .val (.int p3), .val (.int p4), .val (.int nn), .val (.int x0), .val (.int x1), .unset, .unset, .unset, .unset] [(.int p4)])) (fun _ k => XS.iloadN X0.here hx rfl (hb hby at_13) rfl  k) ?_
  refine Rch.go (U' := s₁.setTop (mkF m 15 #[.val (.int p1), .val (.int p2), .val (.int p3), .val (.int p4), .val (.int nn), .val (.int x0), .val (.int x1), .unset, .unset, .unset, .unset] [(.int (p4).toInt8.toInt32)])) (fun _ k => XS.i2b X0.here hx rfl (hb hby at_14) rfl k) ?_
  generalize hx2 : (p4).toInt8.toInt32 = x2
  refine Rch.go (U' := s₁.setTop (mkF m 17 #[.val (.int p1), .val (.int p2), .val (.int p3), .val (.int p4), .val (.int nn), .val (.int x0), .val (.int x1), .val (.int x2), .unset, .unset, .unset] [])) (fun _ k => XS.istore X0.here hx rfl (hb hby at_15) rfl (l' := #[.val (.int p1), .val (.int p2), .val (.int p3), .val (.int p4), .val (.int nn), .val (.int x0), .val (.int x1), .val (.int x2), .unset, .unset, .unset]) rfl k) ?_
  rcases own_n4 p1 with q | q | q | q <;> rw [hnn] at q <;> subst q
  · exact cut17_0 p1 p2 p3 p4 x0 x1 x2 X00 hx hZ hw hby hml hown hret hlk e0 N0 Z0 (hx0 ▸ own_byte p2) (hx1 ▸ own_byte p3) (hx2 ▸ own_byte p4)
  · exact cut17_1 p1 p2 p3 p4 x0 x1 x2 X00 hx hZ hw hby hml hown hret hlk e0 N0 Z0 (hx0 ▸ own_byte p2) (hx1 ▸ own_byte p3) (hx2 ▸ own_byte p4)
  · exact cut17_2 p1 p2 p3 p4 x0 x1 x2 X00 hx hZ hw hby hml hown hret hlk e0 N0 Z0 (hx0 ▸ own_byte p2) (hx1 ▸ own_byte p3) (hx2 ▸ own_byte p4)
  · exact cut17_3 p1 p2 p3 p4 x0 x1 x2 X00 hx hZ hw hby hml hown hret hlk e0 N0 Z0 (hx0 ▸ own_byte p2) (hx1 ▸ own_byte p3) (hx2 ▸ own_byte p4)
set_option maxRecDepth 65536 in
set_option maxHeartbeats 40000000 in
theorem comes_1 {Post : Tables → Env → Array Value → State → Outcome → State → Prop} (hpost : ∀ tb e args s v u, (limb_1_1.after args s (.returned v) u = true ∧ limb_1_2.after args s (.returned v) u = true ∧ True) → ReturnedEndW s (.returned v) u (Jvm.fieldLocs frame_1_writes args s ++ Jvm.arrayLocs frame_1_arrays args s ++ Jvm.staticLocs frame_1_statics s) 24 1152 → Post tb e args s (.returned v) u) :
    ArmFor flags0 classFile x code maxLocals ret World_1 tables_1 room_1 Calls_1 rest_1 Pre_1 Post := by
  intro l hfl _ _ p e ha hc hk s m args below hf hA hF happ hP
  obtain ⟨hcalls, hrest, hpre⟩ := hP
  obtain ⟨-, -, -, hnamed, -, -, -, hat⟩ := (Spec.applies_iff hf).mp happ
  obtain ⟨hg, hn⟩ := and_e (Cond.before_iff.mp (show (Jvm.Cond.and given_1 narrow_1).before args s = true from hpre))
  obtain ⟨hcount, hg0⟩ := and_e hg
  obtain ⟨ga0, hg1⟩ := and_e hg0
  obtain ⟨ga1, hg2⟩ := and_e hg1
  obtain ⟨ga2, hg3⟩ := and_e hg2
  obtain ⟨w0, w1, w2, w3, rfl⟩ : ∃ w0 w1 w2 w3 : Value, args = #[w0, w1, w2, w3] := by
    have hs : args.size = 4 := by simpa [Cond.value, given_1] using hcount
    obtain ⟨L⟩ := args
    match L, hs with
    | [w0, w1, w2, w3], _ => exact ⟨w0, w1, w2, w3, rfl⟩
  have hw := fun d (hd : d ∈ tables_1) => atoms_spec (ws := Jvm.Cond.code x code maxLocals ret :: tables_1) hat d (List.mem_cons_of_mem _ hd)
  obtain ⟨i0, ei0⟩ := is_v ga0
  obtain rfl : w0 = (.int i0) := Option.some.inj ei0
  obtain ⟨i1, ei1⟩ := is_v ga1
  obtain rfl : w1 = (.int i1) := Option.some.inj ei1
  obtain ⟨i2, ei2⟩ := is_v ga2
  obtain rfl : w2 = (.int i2) := Option.some.inj ei2
  obtain ⟨i3, ei3⟩ := is_v hg3
  obtain rfl : w3 = (.int i3) := Option.some.inj ei3
  obtain ⟨n, o, h1, h2, h3, _, L, rfl, ⟨rfl, N⟩, hq⟩ := rm0 l s _ hw tables_1 i0 i1 i2 i3 s.heap s.heap.size (Nat.le_refl _)  p e ha hc hk s m _ below hf ((Spec.applies_iff_loose hf).mp happ).1 ⟨rfl, State.Warmed39.refl s, rfl⟩ trivial
  refine ⟨n, _, h1, h2, h3, hpost _ _ _ _ _ _ ⟨Cond.after_iff.mpr rfl, Cond.after_iff.mpr (eq_i res_at (Term.int_eval (1)) rfl), trivial⟩ ⟨hq.1, hq.2.1, hq.2.2.1, (hq.2.2.2.sift fun y hy => Or.inr (N y hy)).mono (by decide) (by decide)⟩⟩
theorem main_1_1 : Claimed_1_1 := comes_1 fun _ _ _ _ _ _ h hF => ⟨h.1, hF⟩
theorem main_1_2 : Claimed_1_2 := comes_1 fun _ _ _ _ _ _ h hF => ⟨h.2.1, hF⟩
end Jvm.Pilot.@@N@@
namespace Jvm.Pilot.@@N@@
open Jvm Jvm.ClassFile Sem Op Lib Jvm.Free Jvm.Stand Jvm.Pilot.@@N@@.Jvm.D
/-! MADE BY PROGRAM (witnessworld.py) out of the Statement's table words and the real class files: 15 classes; the members and pool entries that the words name. The judged class is class 1, her method 1. -/
namespace start1
open Jvm.ClassFile
def u (s : String) : CpInfo := .utf8 (stringToUtf16 s)
/-- a pool by its gaps: so many unusable entries, then the entry; so many at the end -/
def gap : Nat → List CpInfo → List CpInfo
  | 0, r => r
  | n + 1, r => .unusable :: gap n r
def poolList (es : List (Nat × CpInfo)) (last : Nat) : List CpInfo := es.foldr (fun e r => gap e.1 (e.2 :: r)) (gap last [])
def pool (es : List (Nat × CpInfo)) (last : Nat) : Array CpInfo := ⟨poolList es last⟩
def fileOf (pool : Array CpInfo) (this : Nat) (attrs : Array Attribute := #[]) (ms : Array MethodInfo := #[]) (fl : Nat := 33) (sup : Nat := 0) (ifs : Array Nat := #[]) (fds : Array FieldInfo := #[]) : ClassFile where
  minorVersion := 0
  majorVersion := 65
  constantPool := pool
  accessFlags := fl
  thisClass := this
  superClass := sup
  interfaces := ifs
  fields := fds
  methods := ms
  attributes := attrs
def plain (name : String) (sup : Option ClassId) : Class where
  name := name
  kind := .ordinary
  loader := none
  accessFlags := 33
  super := sup
  interfaces := #[]
  cf := none
  fields := #[]
  methods := #[]
  instanceTypes := #[]
  staticTypes := #[]
  resolved := #[]
  callSites := []
  init := .initialized
  statics := none
  mirror := none

def pool0 : Array CpInfo := pool [(5, u "<init>"), (0, u "()V"), (1, .class_ 10), (1, u "java/lang/Object"), (85, u "clone"), (0, u "()Ljava/lang/Object;")] 26

def k0c0 : Code := { maxStack := 0, maxLocals := 1, code := object_method_1_code, exceptionTable := #[], attributes := #[] }
def k0m0 : Method := { name := "<init>", desc := "()V", sig := { parameters := [], returnType := none }, accessFlags := 1, code := some k0c0 }
def k0m1 : Method := { name := "clone", desc := "()Ljava/lang/Object;", sig := { parameters := [], returnType := some (.object "java/lang/Object") }, accessFlags := 260, code := none }
/-- java/lang/Object -/
def k0 : Class := { plain "java/lang/Object" none with
  accessFlags := 33
  interfaces := #[]
  cf := some (fileOf pool0 8 #[] #[{ accessFlags := 1, nameIndex := 5, descriptorIndex := 6, attributes := #[] }, { accessFlags := 260, nameIndex := 96, descriptorIndex := 97, attributes := #[] }] 33 0 #[] #[])
  fields := #[]
  methods := #[k0m0, k0m1]
  instanceTypes := #[]
  staticTypes := #[]
  resolved := Array.replicate 124 none
  statics := none }

def pool1 : Array CpInfo := pool [(2, .class_ 4), (1, u "java/lang/Object"), (0, u "<init>"), (0, u "()V"), (0, .methodref 8 9), (0, .class_ 10), (0, .nameAndType 11 12), (0, u "com/example/cellmark/cellmark/model/ByteStringCopyOfPinLaw"), (0, u "make"), (0, u "(IBBB)[B"), (0, .methodref 14 15), (0, .class_ 16), (0, .nameAndType 17 18), (0, u "com/example/cellmark/cellmark/model/ByteString"), (0, u "copyOf"), (0, u "([B)Lcom/example/cellmark/cellmark/model/ByteString;"), (0, .methodref 14 20), (0, .nameAndType 21 22), (0, u "toByteArray"), (0, u "()[B"), (0, .methodref 14 24), (0, .nameAndType 25 26), (0, u "size"), (0, u "()I"), (2, u "law"), (0, u "(IIII)Z")] 5

def k1m0 : Method := { name := "<init>", desc := "()V", sig := { parameters := [], returnType := none }, accessFlags := 1, code := none }
def k1c1 : Code := { maxStack := 4, maxLocals := 11, code := code, exceptionTable := #[], attributes := #[] }
def k1m1 : Method := { name := "law", desc := "(IIII)Z", sig := { parameters := [.int, .int, .int, .int], returnType := some .boolean }, accessFlags := 9, code := some k1c1 }
def k1c2 : Code := { maxStack := 4, maxLocals := 4, code := method_3_code, exceptionTable := #[], attributes := #[] }
def k1m2 : Method := { name := "make", desc := "(IBBB)[B", sig := { parameters := [.int, .byte, .byte, .byte], returnType := some (.array .byte) }, accessFlags := 10, code := some k1c2 }
/-- com/example/cellmark/cellmark/model/ByteStringCopyOfPinLaw -/
def k1 : Class := { plain "com/example/cellmark/cellmark/model/ByteStringCopyOfPinLaw" (some 0) with
  accessFlags := 49
  interfaces := #[]
  cf := some (fileOf pool1 8 #[] #[{ accessFlags := 1, nameIndex := 5, descriptorIndex := 6, attributes := #[] }, { accessFlags := 9, nameIndex := 29, descriptorIndex := 30, attributes := #[] }, { accessFlags := 10, nameIndex := 11, descriptorIndex := 12, attributes := #[] }] 49 2 #[] #[])
  fields := #[]
  methods := #[k1m0, k1m1, k1m2]
  instanceTypes := #[]
  staticTypes := #[]
  resolved := Array.replicate 36 none
  statics := none }

def pool2 : Array CpInfo := pool [(1, .class_ 2), (0, u "java/lang/Comparable"), (0, .class_ 4), (0, u "java/lang/Object")] 7

/-- java/lang/Comparable -/
def k2 : Class := { plain "java/lang/Comparable" (some 0) with
  accessFlags := 1537
  interfaces := #[]
  cf := some (fileOf pool2 1 #[] #[] 1537 3 #[] #[])
  fields := #[]
  methods := #[]
  instanceTypes := #[]
  staticTypes := #[]
  resolved := Array.replicate 12 none
  statics := none }

def pool3 : Array CpInfo := pool [(1, .methodref 2 3), (0, .class_ 4), (0, .nameAndType 5 6), (0, u "java/lang/Object"), (0, u "<init>"), (0, u "()V"), (0, .fieldref 8 9), (0, .class_ 10), (0, .nameAndType 11 12), (0, u "com/example/cellmark/cellmark/model/ByteString"), (0, u "bytes"), (0, u "[B"), (0, .string 11), (0, .methodref 15 16), (0, .class_ 17), (0, .nameAndType 18 19), (0, u "java/util/Objects"), (0, u "requireNonNull"), (0, u "(Ljava/lang/Object;Ljava/lang/String;)Ljava/lang/Object;"), (0, .methodref 21 22), (0, .class_ 12), (0, .nameAndType 23 24), (0, u "clone"), (0, u "()Ljava/lang/Object;"), (0, .methodref 8 26), (0, .nameAndType 5 27), (0, u "([B)V"), (17, u "()I"), (71, .class_ 118), (0, u "java/lang/Comparable"), (2, u "copyOf"), (0, u "([B)Lcom/example/cellmark/cellmark/model/ByteString;"), (4, u "size"), (0, u "toByteArray"), (0, u "()[B")] 13

def k3c0 : Code := { maxStack := 2, maxLocals := 2, code := prog_5_method_1_code, exceptionTable := #[], attributes := #[] }
def k3m0 : Method := { name := "<init>", desc := "([B)V", sig := { parameters := [(.array .byte)], returnType := none }, accessFlags := 2, code := some k3c0 }
def k3c1 : Code := { maxStack := 3, maxLocals := 1, code := prog_5_method_2_code, exceptionTable := #[], attributes := #[] }
def k3m1 : Method := { name := "copyOf", desc := "([B)Lcom/example/cellmark/cellmark/model/ByteString;", sig := { parameters := [(.array .byte)], returnType := some (.object "com/example/cellmark/cellmark/model/ByteString") }, accessFlags := 9, code := some k3c1 }
def k3c2 : Code := { maxStack := 1, maxLocals := 1, code := prog_5_method_5_code, exceptionTable := #[], attributes := #[] }
def k3m2 : Method := { name := "size", desc := "()I", sig := { parameters := [], returnType := some .int }, accessFlags := 1, code := some k3c2 }
def k3c3 : Code := { maxStack := 1, maxLocals := 1, code := prog_5_method_6_code, exceptionTable := #[], attributes := #[] }
def k3m3 : Method := { name := "toByteArray", desc := "()[B", sig := { parameters := [], returnType := some (.array .byte) }, accessFlags := 1, code := some k3c3 }
/-- com/example/cellmark/cellmark/model/ByteString -/
def k3 : Class := { plain "com/example/cellmark/cellmark/model/ByteString" (some 0) with
  accessFlags := 49
  interfaces := #[2]
  cf := some (fileOf pool3 8 #[] #[{ accessFlags := 2, nameIndex := 5, descriptorIndex := 27, attributes := #[] }, { accessFlags := 9, nameIndex := 121, descriptorIndex := 122, attributes := #[] }, { accessFlags := 1, nameIndex := 127, descriptorIndex := 45, attributes := #[] }, { accessFlags := 1, nameIndex := 128, descriptorIndex := 129, attributes := #[] }] 49 2 #[117] #[{ accessFlags := 18, nameIndex := 11, descriptorIndex := 12, attributes := #[] }])
  fields := #[{ name := "bytes", type := (.array .byte), accessFlags := 18, slot := 0, constantValue := 0 }]
  methods := #[k3m0, k3m1, k3m2, k3m3]
  instanceTypes := #[(.array .byte)]
  staticTypes := #[]
  resolved := Array.replicate 143 none
  statics := none }

def pool4 : Array CpInfo := pool [(1, .class_ 2), (0, u "java/io/Serializable"), (0, .class_ 4), (0, u "java/lang/Object")] 2

/-- java/io/Serializable -/
def k4 : Class := { plain "java/io/Serializable" (some 0) with
  accessFlags := 1537
  interfaces := #[]
  cf := some (fileOf pool4 1 #[] #[] 1537 3 #[] #[])
  fields := #[]
  methods := #[]
  instanceTypes := #[]
  staticTypes := #[]
  resolved := Array.replicate 7 none
  statics := none }

def pool5 : Array CpInfo := pool [(2, .class_ 4), (1, u "java/lang/CharSequence"), (42, .class_ 48), (0, u "java/lang/CharSequence$1CodePointIterator"), (10, .class_ 60), (0, u "java/lang/CharSequence$1CharIterator"), (5, .class_ 67), (0, u "java/lang/Object")] 63

/-- java/lang/CharSequence -/
def k5 : Class := { plain "java/lang/CharSequence" (some 0) with
  accessFlags := 1537
  interfaces := #[]
  cf := some (fileOf pool5 2 #[.nestMembers #[47, 59]] #[] 1537 66 #[] #[])
  fields := #[]
  methods := #[]
  instanceTypes := #[]
  staticTypes := #[]
  resolved := Array.replicate 131 none
  statics := none }

def pool6 : Array CpInfo := pool [(1, .class_ 2), (0, u "java/lang/constant/Constable"), (0, .class_ 4), (0, u "java/lang/Object")] 6

/-- java/lang/constant/Constable -/
def k6 : Class := { plain "java/lang/constant/Constable" (some 0) with
  accessFlags := 1537
  interfaces := #[]
  cf := some (fileOf pool6 1 #[] #[] 1537 3 #[] #[])
  fields := #[]
  methods := #[]
  instanceTypes := #[]
  staticTypes := #[]
  resolved := Array.replicate 11 none
  statics := none }

def pool7 : Array CpInfo := pool [(1, .class_ 2), (0, u "java/lang/constant/ConstantDesc"), (0, .class_ 4), (0, u "java/lang/Object")] 32

/-- java/lang/constant/ConstantDesc -/
def k7 : Class := { plain "java/lang/constant/ConstantDesc" (some 0) with
  accessFlags := 1537
  interfaces := #[]
  cf := some (fileOf pool7 1 #[] #[] 1537 3 #[] #[])
  fields := #[]
  methods := #[]
  instanceTypes := #[]
  staticTypes := #[]
  resolved := Array.replicate 37 none
  statics := none }

def pool8 : Array CpInfo := pool [(2, .class_ 4), (1, u "java/lang/Object"), (0, u "<init>"), (0, u "()V"), (3, .class_ 12), (1, u "java/lang/String"), (0, u "value"), (0, u "[B"), (2, u "coder"), (0, u "B"), (2, u "hash"), (0, u "I"), (2, u "hashIsZero"), (0, u "Z"), (13, u "COMPACT_STRINGS"), (534, .class_ 576), (0, u "java/lang/CharSequence"), (22, u "CASE_INSENSITIVE_ORDER"), (0, u "Ljava/util/Comparator;"), (500, u "serialPersistentFields"), (0, u "[Ljava/io/ObjectStreamField;"), (0, .class_ 1104), (0, u "java/lang/String$CaseInsensitiveComparator"), (1, .class_ 1107), (0, u "java/io/Serializable"), (0, .class_ 1109), (0, u "java/lang/Comparable"), (0, .class_ 1111), (0, u "java/lang/constant/Constable"), (0, .class_ 1113), (0, u "java/lang/constant/ConstantDesc"), (2, u "serialVersionUID"), (0, u "J"), (3, u "REPL"), (0, u "C"), (2, u "LATIN1"), (1, u "UTF16")] 323

def k8m0 : Method := { name := "<init>", desc := "()V", sig := { parameters := [], returnType := none }, accessFlags := 1, code := none }
/-- java/lang/String -/
def k8 : Class := { plain "java/lang/String" (some 0) with
  accessFlags := 49
  interfaces := #[4, 2, 5, 6, 7]
  cf := some (fileOf pool8 10 #[.nestMembers #[1103]] #[{ accessFlags := 1, nameIndex := 5, descriptorIndex := 6, attributes := #[] }] 49 2 #[1106, 1108, 575, 1110, 1112] #[{ accessFlags := 18, nameIndex := 13, descriptorIndex := 14, attributes := #[] }, { accessFlags := 18, nameIndex := 17, descriptorIndex := 18, attributes := #[] }, { accessFlags := 2, nameIndex := 21, descriptorIndex := 22, attributes := #[] }, { accessFlags := 2, nameIndex := 25, descriptorIndex := 26, attributes := #[] }, { accessFlags := 26, nameIndex := 1116, descriptorIndex := 1117, attributes := #[] }, { accessFlags := 24, nameIndex := 40, descriptorIndex := 26, attributes := #[] }, { accessFlags := 26, nameIndex := 1101, descriptorIndex := 1102, attributes := #[] }, { accessFlags := 26, nameIndex := 1121, descriptorIndex := 1122, attributes := #[] }, { accessFlags := 25, nameIndex := 599, descriptorIndex := 600, attributes := #[] }, { accessFlags := 24, nameIndex := 1125, descriptorIndex := 18, attributes := #[] }, { accessFlags := 24, nameIndex := 1127, descriptorIndex := 18, attributes := #[] }])
  fields := #[{ name := "value", type := (.array .byte), accessFlags := 18, slot := 0, constantValue := 0 }, { name := "coder", type := .byte, accessFlags := 18, slot := 1, constantValue := 0 }, { name := "hash", type := .int, accessFlags := 2, slot := 2, constantValue := 0 }, { name := "hashIsZero", type := .boolean, accessFlags := 2, slot := 3, constantValue := 0 }, { name := "serialVersionUID", type := .long, accessFlags := 26, slot := 0, constantValue := 0 }, { name := "COMPACT_STRINGS", type := .boolean, accessFlags := 24, slot := 1, constantValue := 0 }, { name := "serialPersistentFields", type := (.array (.object "java/io/ObjectStreamField")), accessFlags := 26, slot := 2, constantValue := 0 }, { name := "REPL", type := .char, accessFlags := 26, slot := 3, constantValue := 0 }, { name := "CASE_INSENSITIVE_ORDER", type := (.object "java/util/Comparator"), accessFlags := 25, slot := 4, constantValue := 0 }, { name := "LATIN1", type := .byte, accessFlags := 24, slot := 5, constantValue := 0 }, { name := "UTF16", type := .byte, accessFlags := 24, slot := 6, constantValue := 0 }]
  methods := #[k8m0]
  instanceTypes := #[(.array .byte), .byte, .int, .boolean]
  staticTypes := #[.long, .boolean, (.array (.object "java/io/ObjectStreamField")), .char, (.object "java/util/Comparator"), .byte, .byte]
  resolved := Array.replicate 1451 none
  statics := none }

def pool9 : Array CpInfo := pool [(2, .class_ 4), (1, u "java/lang/Object"), (0, u "<init>"), (0, u "()V"), (35, .class_ 44), (1, u "java/util/Objects"), (0, u "requireNonNull"), (48, u "(Ljava/lang/Object;Ljava/lang/String;)Ljava/lang/Object;")] 89

def k9m0 : Method := { name := "<init>", desc := "()V", sig := { parameters := [], returnType := none }, accessFlags := 2, code := none }
def k9c1 : Code := { maxStack := 3, maxLocals := 2, code := jdk_31_method_11_code, exceptionTable := #[], attributes := #[] }
def k9m1 : Method := { name := "requireNonNull", desc := "(Ljava/lang/Object;Ljava/lang/String;)Ljava/lang/Object;", sig := { parameters := [(.object "java/lang/Object"), (.object "java/lang/String")], returnType := some (.object "java/lang/Object") }, accessFlags := 9, code := some k9c1 }
/-- java/util/Objects -/
def k9 : Class := { plain "java/util/Objects" (some 0) with
  accessFlags := 49
  interfaces := #[]
  cf := some (fileOf pool9 42 #[] #[{ accessFlags := 2, nameIndex := 5, descriptorIndex := 6, attributes := #[] }, { accessFlags := 9, nameIndex := 45, descriptorIndex := 94, attributes := #[] }] 49 2 #[] #[])
  fields := #[]
  methods := #[k9m0, k9m1]
  instanceTypes := #[]
  staticTypes := #[]
  resolved := Array.replicate 184 none
  statics := none }

def pool10 : Array CpInfo := pool [(1, .class_ 2), (0, u "java/lang/Cloneable"), (0, .class_ 4), (0, u "java/lang/Object")] 2

/-- java/lang/Cloneable -/
def k10 : Class := { plain "java/lang/Cloneable" (some 0) with
  accessFlags := 1537
  interfaces := #[]
  cf := some (fileOf pool10 1 #[] #[] 1537 3 #[] #[])
  fields := #[]
  methods := #[]
  instanceTypes := #[]
  staticTypes := #[]
  resolved := Array.replicate 7 none
  statics := none }

/-- the primitive byte -/
def k11 : Class := { plain "byte" none with kind := .primitive 'B', accessFlags := 0x411 }
/-- [B -/
def k12 : Class := { plain "[B" (some 0) with kind := .array 11 .byte, interfaces := #[10, 4], accessFlags := 1041 }

/-- the primitive int -/
def k13 : Class := { plain "int" none with kind := .primitive 'I', accessFlags := 0x411 }
/-- [I -/
def k14 : Class := { plain "[I" (some 0) with kind := .array 13 .int, interfaces := #[10, 4], accessFlags := 1041 }

def heap : Heap := #[]
def classes : Array Class := #[k0, k1, k2, k3, k4, k5, k6, k7, k8, k9, k10, k11, k12, k13, k14]
def interned : List (Array UInt16 × Addr) := []
def slotsUsed : Nat := 0
def theMethod : MethodId := ⟨1, 1⟩
def args0 : Array Value := #[.int 3, .int 65, .int 2, .int 3]
def aboutOver (below : List Frame) : State where
  vm := { classes := classes, interned := interned.toArray }
  heap := heap
  slotsUsed := slotsUsed
  threads := #[{ frames := .invoking theMethod args0 :: below }]
def below0 : List Frame := [.native { method := ⟨0, 0⟩, args := #[] }]
def about1 : State := aboutOver below0
def p0 : Program := .bare "" "" ""
def e0 : Env := launch0.env 0 0 0
theorem w_frames : about1.frames = Frame.invoking theMethod args0 :: below0 := rfl
set_option maxRecDepth 65536 in
theorem w_args : argsFit about1.vm theMethod args0 = true := by decide +kernel
set_option maxRecDepth 65536 in
theorem w_heap : heapFits about1 = true := by decide +kernel
set_option maxRecDepth 65536 in
theorem w_runnable : about1.curStatus? = some .runnable := by decide +kernel
set_option maxRecDepth 65536 in
theorem w_alone : about1.alone = true := by decide +kernel
set_option maxRecDepth 65536 in
theorem w_named : about1.methodNamed? x = some theMethod := by decide +kernel
set_option maxRecDepth 65536 in
theorem w_hears : about1.hears theMethod below0 = true := by decide +kernel
set_option maxRecDepth 65536 in
theorem w_ripe : about1.ripe theMethod args0 below0 = true := by decide +kernel
theorem w_running : about1.status = .running := rfl
set_option maxRecDepth 65536 in
theorem w_room : about1.hasRoom e0.platform room_1 = true :=
  launch0.hasRoom_least _ room_1 (by decide +kernel) (by decide +kernel) (by decide +kernel) (by decide +kernel) (by decide +kernel) (by decide +kernel)
theorem allAtoms_all (ts : List Jvm.Cond) (a : Array Jvm.Value) (st : Jvm.State) : (allAtoms ts).before a st = ts.all (fun c => c.before a st) := by
  induction ts with
  | nil => rfl
  | cons c t ih =>
    show (Jvm.Cond.and c (allAtoms t)).before a st = _
    rw [Jvm.Cond.before_and, ih, List.all_cons]
def words1 : List Jvm.Cond := Jvm.Cond.code x code maxLocals ret :: tables_1
/-- a 'code' word, met by the world's own term for the bytes: nothing is compared byte by byte -/
theorem code_word {y : MethodName} {bytes : ByteArray} {mx : Nat} {rt : Option FieldType} {a : Array Value} {s : State} {m : MethodId} {meth : Method} {c : Code} (h1 : s.methodNamed? y = some m) (h2 : s.vm.method? m = some meth) (h3 : meth.code = some c) (h4 : c.code = bytes)
    (h5 : (c.maxLocals == mx && c.exceptionTable.isEmpty && decide (c.maxStack ≤ mostOperands) && decide (meth.sig.returnType = rt) && !meth.locks && decide (parseMethodDescriptor y.desc = some meth.sig)) = true) : (Jvm.Cond.code y bytes mx rt).before a s = true := by
  simp only [Bool.and_eq_true, beq_iff_eq, Bool.not_eq_true', decide_eq_true_eq] at h5
  obtain ⟨⟨⟨⟨⟨g1, g2⟩, g3⟩, g4⟩, g5⟩, g6⟩ := h5
  simp [Cond.before, Cond.holds, Cond.value, h1, h2, h3, h4, g1, g2, g3, g4, g5, g6]
def isCode : Jvm.Cond → Bool
  | .code _ _ _ _ => true
  | _ => false
theorem all_split {L : List Jvm.Cond} {P : Jvm.Cond → Bool} (h1 : L.all (fun c => isCode c || P c) = true) (h2 : ∀ c ∈ L.filter isCode, P c = true) : L.all P = true := by
  refine List.all_eq_true.mpr fun c hc => ?_
  have h := List.all_eq_true.mp h1 c hc
  rcases Bool.eq_false_or_eq_true (isCode c) with hi | hi
  · exact h2 c (List.mem_filter.mpr ⟨hc, hi⟩)
  · simpa [hi] using h
set_option maxRecDepth 65536 in
theorem w_c0 : (Jvm.Cond.code x code maxLocals ret).before args0 about1 = true := code_word (m := ⟨1, 1⟩) (meth := k1m1) (c := k1c1) (by decide +kernel) rfl rfl rfl (by decide +kernel)
set_option maxRecDepth 65536 in
theorem w_c1 : (Jvm.Cond.code ({ cls := "com/example/cellmark/cellmark/model/ByteStringCopyOfPinLaw", name := "make", desc := "(IBBB)[B" } : Jvm.MethodName) method_3_code (4 : Nat) (Option.some (Jvm.ClassFile.FieldType.array Jvm.ClassFile.FieldType.byte))).before args0 about1 = true := code_word (m := ⟨1, 2⟩) (meth := k1m2) (c := k1c2) (by decide +kernel) rfl rfl rfl (by decide +kernel)
set_option maxRecDepth 65536 in
theorem w_c2 : (Jvm.Cond.code ({ cls := "com/example/cellmark/cellmark/model/ByteString", name := "copyOf", desc := "([B)Lcom/example/cellmark/cellmark/model/ByteString;" } : Jvm.MethodName) prog_5_method_2_code (1 : Nat) (Option.some (Jvm.ClassFile.FieldType.object "com/example/cellmark/cellmark/model/ByteString"))).before args0 about1 = true := code_word (m := ⟨3, 1⟩) (meth := k3m1) (c := k3c1) (by decide +kernel) rfl rfl rfl (by decide +kernel)
set_option maxRecDepth 65536 in
theorem w_c3 : (Jvm.Cond.code ({ cls := "java/util/Objects", name := "requireNonNull", desc := "(Ljava/lang/Object;Ljava/lang/String;)Ljava/lang/Object;" } : Jvm.MethodName) jdk_31_method_11_code (2 : Nat) (Option.some (Jvm.ClassFile.FieldType.object "java/lang/Object"))).before args0 about1 = true := code_word (m := ⟨9, 1⟩) (meth := k9m1) (c := k9c1) (by decide +kernel) rfl rfl rfl (by decide +kernel)
set_option maxRecDepth 65536 in
theorem w_c4 : (Jvm.Cond.code ({ cls := "com/example/cellmark/cellmark/model/ByteString", name := "<init>", desc := "([B)V" } : Jvm.MethodName) prog_5_method_1_code (2 : Nat) (Option.none : Option Jvm.ClassFile.FieldType)).before args0 about1 = true := code_word (m := ⟨3, 0⟩) (meth := k3m0) (c := k3c0) (by decide +kernel) rfl rfl rfl (by decide +kernel)
set_option maxRecDepth 65536 in
theorem w_c5 : (Jvm.Cond.code ({ cls := "java/lang/Object", name := "<init>", desc := "()V" } : Jvm.MethodName) object_method_1_code (1 : Nat) (Option.none : Option Jvm.ClassFile.FieldType)).before args0 about1 = true := code_word (m := ⟨0, 0⟩) (meth := k0m0) (c := k0c0) (by decide +kernel) rfl rfl rfl (by decide +kernel)
set_option maxRecDepth 65536 in
theorem w_c6 : (Jvm.Cond.code ({ cls := "com/example/cellmark/cellmark/model/ByteString", name := "toByteArray", desc := "()[B" } : Jvm.MethodName) prog_5_method_6_code (1 : Nat) (Option.some (Jvm.ClassFile.FieldType.array Jvm.ClassFile.FieldType.byte))).before args0 about1 = true := code_word (m := ⟨3, 3⟩) (meth := k3m3) (c := k3c3) (by decide +kernel) rfl rfl rfl (by decide +kernel)
set_option maxRecDepth 65536 in
theorem w_c7 : (Jvm.Cond.code ({ cls := "com/example/cellmark/cellmark/model/ByteString", name := "size", desc := "()I" } : Jvm.MethodName) prog_5_method_5_code (1 : Nat) (Option.some Jvm.ClassFile.FieldType.int)).before args0 about1 = true := code_word (m := ⟨3, 2⟩) (meth := k3m2) (c := k3c2) (by decide +kernel) rfl rfl rfl (by decide +kernel)
def codes1 : List Jvm.Cond := [Jvm.Cond.code x code maxLocals ret, Jvm.Cond.code ({ cls := "com/example/cellmark/cellmark/model/ByteStringCopyOfPinLaw", name := "make", desc := "(IBBB)[B" } : Jvm.MethodName) method_3_code (4 : Nat) (Option.some (Jvm.ClassFile.FieldType.array Jvm.ClassFile.FieldType.byte)), Jvm.Cond.code ({ cls := "com/example/cellmark/cellmark/model/ByteString", name := "copyOf", desc := "([B)Lcom/example/cellmark/cellmark/model/ByteString;" } : Jvm.MethodName) prog_5_method_2_code (1 : Nat) (Option.some (Jvm.ClassFile.FieldType.object "com/example/cellmark/cellmark/model/ByteString")), Jvm.Cond.code ({ cls := "java/util/Objects", name := "requireNonNull", desc := "(Ljava/lang/Object;Ljava/lang/String;)Ljava/lang/Object;" } : Jvm.MethodName) jdk_31_method_11_code (2 : Nat) (Option.some (Jvm.ClassFile.FieldType.object "java/lang/Object")), Jvm.Cond.code ({ cls := "com/example/cellmark/cellmark/model/ByteString", name := "<init>", desc := "([B)V" } : Jvm.MethodName) prog_5_method_1_code (2 : Nat) (Option.none : Option Jvm.ClassFile.FieldType), Jvm.Cond.code ({ cls := "java/lang/Object", name := "<init>", desc := "()V" } : Jvm.MethodName) object_method_1_code (1 : Nat) (Option.none : Option Jvm.ClassFile.FieldType), Jvm.Cond.code ({ cls := "com/example/cellmark/cellmark/model/ByteString", name := "toByteArray", desc := "()[B" } : Jvm.MethodName) prog_5_method_6_code (1 : Nat) (Option.some (Jvm.ClassFile.FieldType.array Jvm.ClassFile.FieldType.byte)), Jvm.Cond.code ({ cls := "com/example/cellmark/cellmark/model/ByteString", name := "size", desc := "()I" } : Jvm.MethodName) prog_5_method_5_code (1 : Nat) (Option.some Jvm.ClassFile.FieldType.int)]
set_option maxRecDepth 65536 in
theorem codes_eq : words1.filter isCode = codes1 := rfl
theorem w_codes : ∀ c ∈ words1.filter isCode, c.before args0 about1 = true := by
  rw [codes_eq]
  intro c hc
  simp only [codes1, List.mem_cons, List.not_mem_nil, or_false] at hc
  rcases hc with rfl | rfl | rfl | rfl | rfl | rfl | rfl | rfl
  · exact w_c0
  · exact w_c1
  · exact w_c2
  · exact w_c3
  · exact w_c4
  · exact w_c5
  · exact w_c6
  · exact w_c7
set_option maxRecDepth 65536 in
theorem w_t1 : (words1.take 24).all (fun c => isCode c || c.before args0 about1) = true := by decide +kernel
set_option maxRecDepth 65536 in
theorem w_t2 : ((words1.drop 24).take 24).all (fun c => isCode c || c.before args0 about1) = true := by decide +kernel
set_option maxRecDepth 65536 in
theorem w_t3 : ((words1.drop 24).drop 24).all (fun c => isCode c || c.before args0 about1) = true := by decide +kernel
theorem w_tables : (allAtoms (Jvm.Cond.code x code maxLocals ret :: tables_1)).before args0 about1 = true := by
  rw [allAtoms_all]
  show words1.all (fun c => c.before args0 about1) = true
  refine all_split ?_ w_codes
  rw [← List.take_append_drop 24 words1, List.all_append, w_t1, ← List.take_append_drop 24 (words1.drop 24), List.all_append, w_t2, w_t3]
  rfl
set_option maxRecDepth 65536 in
theorem w_case : (Jvm.Cond.and given_1 narrow_1).before args0 about1 = true := by decide +kernel
theorem w_applies : (headSpec (Jvm.Cond.code x code maxLocals ret :: tables_1) room_1).applies x e0.platform about1 = true :=
  (Spec.applies_iff w_frames).mpr ⟨w_running, w_runnable, w_alone, w_named, w_hears, w_ripe, w_room, w_tables⟩
theorem atStart : AtStart classFile x code maxLocals ret World_1 tables_1 room_1 Calls_1 rest_1 Pre_1 launch0 p0 e0 about1 theMethod args0 below0 :=
  ⟨lists_1, trivial, launch0.admits_env _ _ _, launch0.least_env, fairChoices_fair.cas, fairChoices_fair.clock, w_frames, w_args, w_heap, w_applies, trivial, trivial, w_case⟩
end start1
theorem witness_1 : WitnessClaimed_1 := ⟨start1.p0, start1.e0, start1.about1, start1.theMethod, start1.args0, start1.below0, start1.atStart⟩
end Jvm.Pilot.@@N@@
