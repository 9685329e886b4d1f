import JvmDerived
import JvmDerived.Pilot.@@N@@Statement
import JvmDerived.Pilot.@@N@@Code
set_option linter.unusedVariables false
set_option linter.unusedSimpArgs false
namespace Jvm.RoadKit
open Sem ClassFile Op Lib Jvm.Stand Jvm.Free Jvm.LawKit
section New
variable {p : Program} {l : Launch} {e : Env} {R : Room} {s : State} {m : MethodId} {args : Array Value} {below : List Frame} {meth : Method} {c : Code} {T : State} {locs : List Loc} {cells slots : Nat}
theorem retI (X : Stand p l e R s m args below meth c T locs cells slots) (hx : p.tables.exec = Jvm.exec) {pc : Nat} {Ls : Array Slot} {z : Int32} {rest : List Value} (hret : meth.sig.returnType = some .int) (hd : decode c.code pc = .ok (.ireturn, 1)) {fs : List Frame}
    (hl : ∀ (f : JFrame) (acts : List Action), f.method = m → f.locked = none → f.entered = [] → (doReturn e (T.setTop f) acts (some (.int z))).1 = T.setFrames fs) : Steps p.tables e below (T.setTop (mkF m pc Ls (.int z :: rest))) (T.setFrames fs) := by
  have hm' : T.vm.method? m = some meth := X.method'
  have hn : narrow .int (.int z) = .int z := rfl
  show Steps p.tables e below (T.setTop { method := m, pc := pc, locals := Ls, stack := _ :: rest, locked := none }) _
  jvm_step X.here [X.here.top, hx, hd, hm', hret, hn]
  first | (intro acts; rw [hl _ acts rfl rfl rfl]) | rw [hl _ _ rfl rfl rfl]
  exact Steps.refl _
/-- a run from U comes to a state of which K holds -/
def Rch (p : Program) (e : Env) (below : List Frame) (K : State → Prop) (U : State) : Prop := ∃ s₂, Steps p.tables e below U s₂ ∧ K s₂
theorem Rch.go {K : State → Prop} {U U' : State} (h : ∀ t, Steps p.tables e below U' t → Steps p.tables e below U t) (k : Rch p e below K U') : Rch p e below K U := by
  obtain ⟨s₂, a, b⟩ := k; exact ⟨s₂, h _ a, b⟩
theorem Rch.to {K : State → Prop} {U U' : State} (h : Steps p.tables e below U U') (k : Rch p e below K U') : Rch p e below K U := by
  obtain ⟨s₂, a, b⟩ := k; exact ⟨s₂, h.trans a, b⟩
theorem Rch.then {K K' : State → Prop} {U : State} (h : Rch p e below K U) (f : ∀ V, K V → Rch p e below K' V) : Rch p e below K' U := by
  obtain ⟨s₂, a, b⟩ := h; exact Rch.to a (f _ b)
/-- the body is left: what it returned and what it leaves -/
def Fin (s : State) (below : List Frame) (Q : Option Value → Heap → List Loc → Prop) (k n : Nat) (s₂ : State) : Prop :=
  ∃ o, s₂.status = .running ∧ Ended s₂ below o ∧ ∃ v L, o = .returned v ∧ Q v s₂.heap L ∧ FrameEnd s o s₂ L k n
theorem Rch.fin {Q : Option Value → Heap → List Loc → Prop} {k n : Nat} {U : State} {h : Heap} (X : Stand p l e R s m args below meth c T locs cells slots) (hlk : meth.locks = false) {v : Option Value} (hv : meth.sig.returnType = none → v = none) (eT : T.heap = h) (hc : cells ≤ k) (hn : slots ≤ n)
    (st : ∀ fs, (∀ (f : JFrame) (acts : List Action), f.method = m → f.locked = none → f.entered = [] → (doReturn e (T.setTop f) acts v).1 = T.setFrames fs) → Steps p.tables e below U (T.setFrames fs)) (hQ : Q v h locs) : Rch p e below (Fin s below Q k n) U := by
  obtain ⟨fs, hr, hrun, hended, hW, hsame⟩ := X.leave hv hlk
  refine ⟨_, st fs hr, _, hrun, hended, v, locs, rfl, ?_, ⟨_, rfl⟩, hW, hsame.mono hc hn⟩
  show Q v T.heap locs
  rw [eT]; exact hQ
theorem Rch.body {Q : Option Value → Heap → List Loc → Prop} {k n : Nat} {U U' : State} (h : ∀ t, Steps p.tables e below U' t → Steps p.tables e below U t) (H : Rch p e below (Fin s below Q k n) U') :
    ∃ s₂ o, Steps p.tables e below U s₂ ∧ s₂.status = .running ∧ Ended s₂ below o ∧ (∃ v L, o = .returned v ∧ Q v s₂.heap L ∧ FrameEnd s o s₂ L k n) := by
  obtain ⟨s₂, a, o, b, c, d⟩ := H; exact ⟨s₂, o, h _ a, b, c, d⟩
theorem nar_1 : nar .boolean 1 = 1 := rfl
theorem nar_0 : nar .boolean 0 = 0 := rfl
end New
end Jvm.RoadKit
namespace Jvm.Pilot.@@N@@
open Jvm Jvm.ClassFile Sem Op Lib Jvm.Free Jvm.Stand Jvm.LawKit Jvm.RoadKit Bundle Jvm.Pilot.@@N@@.Jvm.D
theorem wi {Z : State} {a0 : Array Value} (hw : ∀ d ∈ tables_1, d.before a0 Z = true) (i : Nat) {d : Jvm.Cond} (h : tables_1[i]? = some d) : d.before a0 Z = true := hw d (List.mem_of_getElem? h)
theorem d5_0 : decode prog_62_method_1_code 0 = .ok (.aload_n 0, 1) := by decide +kernel
theorem d5_1 : decode prog_62_method_1_code 1 = .ok (.invokespecial 1, 3) := by decide +kernel
theorem d5_4 : decode prog_62_method_1_code 4 = .ok (.return_, 1) := by decide +kernel
theorem pd_1 : parseMethodDescriptor "()V" = some ⟨[], none⟩ := by decide +kernel
theorem pn_com_example_stripeguard_stripeguard_cli_Tally : plainName "com/example/stripeguard/stripeguard/cli/Tally" = true := by first | (simp [plainName, overriddenIn]; done) | decide +kernel
theorem ef_rmNew (m : MethodId) (a1 : Addr) : entryFrame m #[(.ref a1)] 1 = mkF m 0 #[.val (.ref a1)] [] := by first | (simp [entryFrame, mkF, argsToLocals, Value.category]; done) | rfl
def Q_rmNew (Z : State) (a1 : Addr) (u0 : Int64) (u1 : Int64) (u2 : Int64) (u3 : Int64) (h0 : Heap) (n0 : Nat) (v : Option Value) (h : Heap) (L : List Loc) : Prop := v = none ∧ Fr n0 L ∧ h = h0
set_option maxRecDepth 65536 in
set_option maxHeartbeats 40000000 in
theorem rmNew (l : Launch) (Z : State) (a0 : Array Value) (hw : ∀ d ∈ tables_1, d.before a0 Z = true) (ws : List Jvm.Cond) (a1 : Addr) (u0 : Int64) (u1 : Int64) (u2 : Int64) (u3 : Int64) (h0 : Heap) (n0 : Nat) (Z0 : n0 ≤ h0.size) (E_a1 : Exa Z h0 a1 "com/example/stripeguard/stripeguard/cli/Tally") (F_a1_writes : Fld Z h0 a1 "com/example/stripeguard/stripeguard/cli/Tally" "writes" "J" (.long u0)) (F_a1_reads : Fld Z h0 a1 "com/example/stripeguard/stripeguard/cli/Tally" "reads" "J" (.long u1)) (F_a1_wrong : Fld Z h0 a1 "com/example/stripeguard/stripeguard/cli/Tally" "wrong" "J" (.long u2)) (F_a1_misses : Fld Z h0 a1 "com/example/stripeguard/stripeguard/cli/Tally" "misses" "J" (.long u3)) :
    MetFree l (⟨"com/example/stripeguard/stripeguard/cli/Tally", "<init>", "()V"⟩ : MethodName) (head1 (Jvm.Cond.code (⟨"com/example/stripeguard/stripeguard/cli/Tally", "<init>", "()V"⟩ : MethodName) prog_62_method_1_code 1 none :: ws) ({ frames := 1, cells := 0, slots := 0, locals := 12 } : Room)) (fun a U => a = #[(.ref a1)] ∧ Z.Warmed39 U.vm ∧ U.heap = h0) (fun _ _ _ _ _ => True) (fun _ U o U' => ∃ v L, o = .returned v ∧ Q_rmNew Z a1 u0 u1 u2 u3 h0 n0 v U'.heap L ∧ FrameEnd U o U' L ({ frames := 1, cells := 0, slots := 0, locals := 12 } : Room).cells ({ frames := 1, cells := 0, slots := 0, locals := 12 } : Room).slots) := by
  refine MetFree.of_bodySF (plainFor_of_name pn_com_example_stripeguard_stripeguard_cli_Tally) hisR ?_
  intro p e s m args below meth c s₁ Bd hml0 hP hK
  obtain ⟨rfl, hZ, hh⟩ := hP
  have hx := Bd.exec
  have hby := Bd.bytes
  have hml : c.maxLocals = 1 := hml0
  have hown : s.vm.findClass "com/example/stripeguard/stripeguard/cli/Tally" = some m.cls := findClass_of_methodNamed Bd.named
  have hnm := (name_of_methodNamed Bd.named Bd.method).1
  have hret := Bd.returns
  have hlk : meth.locks = false := BodyLoose.notSynchronized Bd
  have X0 : Stand p l e ({ frames := 1, cells := 0, slots := 0, locals := 12 } : Room) s m #[(.ref a1)] below meth c s₁ [] 0 0 := Stand.of_body Bd
  have e0 : s₁.heap = h0 := by rw [← hh, Bd.state]; rfl
  have N0 := Fr.nil n0
  refine Rch.body (Q := Q_rmNew Z a1 u0 u1 u2 u3 h0 n0) (U' := s₁.setTop (mkF m 0 #[.val (.ref a1)] [])) (fun t k => castTop (ef_rmNew m a1) k) ?_
  refine Rch.go (U' := s₁.setTop (mkF m 1 #[.val (.ref a1)] [(.ref a1)])) (fun _ k => XS.aloadN X0.here hx rfl (hb hby d5_0) rfl rfl k) ?_
  obtain ⟨T1, X1, e1, st1⟩ := initO X0 hx hZ hown (wi hw 6 rfl) (wi hw 7 rfl) (wi hw 8 rfl) e0 (g := (mkF m 1 #[.val (.ref a1)] [(.ref a1)])) rfl (by rw [hml]; rfl) rfl (hb hby d5_1) (by decide) (W := 0) (by show 2 * 0 + _ ≤ _; exact Nat.le_of_eq rfl) (by decide)
  refine Rch.go (U' := T1.setTop (mkF m 4 #[.val (.ref a1)] [])) st1 ?_
  refine Rch.fin X1 hlk (v := none) (fun _ => rfl) e1 (by decide) (by decide) (fun fs hr => X1.returnOut hx hret (hb hby d5_4) hr) ?_
  exact ⟨rfl, N0, rfl⟩
theorem d21_0 : decode prog_62_method_3_code 0 = .ok (.aload_n 0, 1) := by decide +kernel
theorem d21_1 : decode prog_62_method_3_code 1 = .ok (.dup, 1) := by decide +kernel
theorem d21_2 : decode prog_62_method_3_code 2 = .ok (.getfield 37, 3) := by decide +kernel
theorem d21_5 : decode prog_62_method_3_code 5 = .ok (.aload_n 1, 1) := by decide +kernel
theorem d21_6 : decode prog_62_method_3_code 6 = .ok (.getfield 37, 3) := by decide +kernel
theorem d21_9 : decode prog_62_method_3_code 9 = .ok (.ladd, 1) := by decide +kernel
theorem d21_10 : decode prog_62_method_3_code 10 = .ok (.putfield 37, 3) := by decide +kernel
theorem d21_13 : decode prog_62_method_3_code 13 = .ok (.aload_n 0, 1) := by decide +kernel
theorem d21_14 : decode prog_62_method_3_code 14 = .ok (.dup, 1) := by decide +kernel
theorem d21_15 : decode prog_62_method_3_code 15 = .ok (.getfield 7, 3) := by decide +kernel
theorem d21_18 : decode prog_62_method_3_code 18 = .ok (.aload_n 1, 1) := by decide +kernel
theorem d21_19 : decode prog_62_method_3_code 19 = .ok (.getfield 7, 3) := by decide +kernel
theorem d21_22 : decode prog_62_method_3_code 22 = .ok (.ladd, 1) := by decide +kernel
theorem d21_23 : decode prog_62_method_3_code 23 = .ok (.putfield 7, 3) := by decide +kernel
theorem d21_26 : decode prog_62_method_3_code 26 = .ok (.aload_n 0, 1) := by decide +kernel
theorem d21_27 : decode prog_62_method_3_code 27 = .ok (.dup, 1) := by decide +kernel
theorem d21_28 : decode prog_62_method_3_code 28 = .ok (.getfield 34, 3) := by decide +kernel
theorem d21_31 : decode prog_62_method_3_code 31 = .ok (.aload_n 1, 1) := by decide +kernel
theorem d21_32 : decode prog_62_method_3_code 32 = .ok (.getfield 34, 3) := by decide +kernel
theorem d21_35 : decode prog_62_method_3_code 35 = .ok (.ladd, 1) := by decide +kernel
theorem d21_36 : decode prog_62_method_3_code 36 = .ok (.putfield 34, 3) := by decide +kernel
theorem d21_39 : decode prog_62_method_3_code 39 = .ok (.aload_n 0, 1) := by decide +kernel
theorem d21_40 : decode prog_62_method_3_code 40 = .ok (.dup, 1) := by decide +kernel
theorem d21_41 : decode prog_62_method_3_code 41 = .ok (.getfield 19, 3) := by decide +kernel
theorem d21_44 : decode prog_62_method_3_code 44 = .ok (.aload_n 1, 1) := by decide +kernel
theorem d21_45 : decode prog_62_method_3_code 45 = .ok (.getfield 19, 3) := by decide +kernel
theorem d21_48 : decode prog_62_method_3_code 48 = .ok (.ladd, 1) := by decide +kernel
theorem d21_49 : decode prog_62_method_3_code 49 = .ok (.putfield 19, 3) := by decide +kernel
theorem d21_52 : decode prog_62_method_3_code 52 = .ok (.return_, 1) := by decide +kernel
theorem ef_rmAdd (m : MethodId) (a1 : Addr) (a2 : Addr) : entryFrame m #[(.ref a1), (.ref a2)] 2 = mkF m 0 #[.val (.ref a1), .val (.ref a2)] [] := by first | (simp [entryFrame, mkF, argsToLocals, Value.category]; done) | rfl
def Q_rmAdd (Z : State) (a1 : Addr) (a2 : Addr) (u0 : Int64) (u1 : Int64) (u2 : Int64) (u3 : Int64) (w0 : Int64) (w1 : Int64) (w2 : Int64) (w3 : Int64) (h0 : Heap) (n0 : Nat) (v : Option Value) (h : Heap) (L : List Loc) : Prop := v = none ∧ Fr n0 L ∧ Keep h0 h [a1] ∧ Fld Z h a1 "com/example/stripeguard/stripeguard/cli/Tally" "writes" "J" (.long (u0 + w0)) ∧ Fld Z h a1 "com/example/stripeguard/stripeguard/cli/Tally" "reads" "J" (.long (u1 + w1)) ∧ Fld Z h a1 "com/example/stripeguard/stripeguard/cli/Tally" "wrong" "J" (.long (u2 + w2)) ∧ Fld Z h a1 "com/example/stripeguard/stripeguard/cli/Tally" "misses" "J" (.long (u3 + w3))
set_option maxRecDepth 65536 in
set_option maxHeartbeats 40000000 in
theorem rmAdd (l : Launch) (Z : State) (a0 : Array Value) (hw : ∀ d ∈ tables_1, d.before a0 Z = true) (ws : List Jvm.Cond) (a1 : Addr) (a2 : Addr) (u0 : Int64) (u1 : Int64) (u2 : Int64) (u3 : Int64) (w0 : Int64) (w1 : Int64) (w2 : Int64) (w3 : Int64) (h0 : Heap) (n0 : Nat) (Z0 : n0 ≤ h0.size) (E_a1 : Exa Z h0 a1 "com/example/stripeguard/stripeguard/cli/Tally") (F_a1_writes : Fld Z h0 a1 "com/example/stripeguard/stripeguard/cli/Tally" "writes" "J" (.long u0)) (F_a1_reads : Fld Z h0 a1 "com/example/stripeguard/stripeguard/cli/Tally" "reads" "J" (.long u1)) (F_a1_wrong : Fld Z h0 a1 "com/example/stripeguard/stripeguard/cli/Tally" "wrong" "J" (.long u2)) (F_a1_misses : Fld Z h0 a1 "com/example/stripeguard/stripeguard/cli/Tally" "misses" "J" (.long u3)) (E_a2 : Exa Z h0 a2 "com/example/stripeguard/stripeguard/cli/Tally") (F_a2_writes : Fld Z h0 a2 "com/example/stripeguard/stripeguard/cli/Tally" "writes" "J" (.long w0)) (F_a2_reads : Fld Z h0 a2 "com/example/stripeguard/stripeguard/cli/Tally" "reads" "J" (.long w1)) (F_a2_wrong : Fld Z h0 a2 "com/example/stripeguard/stripeguard/cli/Tally" "wrong" "J" (.long w2)) (F_a2_misses : Fld Z h0 a2 "com/example/stripeguard/stripeguard/cli/Tally" "misses" "J" (.long w3)) (g_a1 : n0 ≤ a1) (hne : a2 ≠ a1) :
    MetFree l (⟨"com/example/stripeguard/stripeguard/cli/Tally", "add", "(Lcom/example/stripeguard/stripeguard/cli/Tally;)V"⟩ : MethodName) (head1 (Jvm.Cond.code (⟨"com/example/stripeguard/stripeguard/cli/Tally", "add", "(Lcom/example/stripeguard/stripeguard/cli/Tally;)V"⟩ : MethodName) prog_62_method_3_code 2 none :: ws) ({ frames := 0, cells := 0, slots := 0, locals := 0 } : Room)) (fun a U => a = #[(.ref a1), (.ref a2)] ∧ Z.Warmed39 U.vm ∧ U.heap = h0) (fun _ _ _ _ _ => True) (fun _ U o U' => ∃ v L, o = .returned v ∧ Q_rmAdd Z a1 a2 u0 u1 u2 u3 w0 w1 w2 w3 h0 n0 v U'.heap L ∧ FrameEnd U o U' L ({ frames := 0, cells := 0, slots := 0, locals := 0 } : Room).cells ({ frames := 0, cells := 0, slots := 0, locals := 0 } : Room).slots) := by
  refine MetFree.of_bodySF (plainFor_of_name pn_com_example_stripeguard_stripeguard_cli_Tally) hisR ?_
  intro p e s m args below meth c s₁ Bd hml0 hP hK
  obtain ⟨rfl, hZ, hh⟩ := hP
  have hx := Bd.exec
  have hby := Bd.bytes
  have hml : c.maxLocals = 2 := hml0
  have hown : s.vm.findClass "com/example/stripeguard/stripeguard/cli/Tally" = some m.cls := findClass_of_methodNamed Bd.named
  have hnm := (name_of_methodNamed Bd.named Bd.method).1
  have hret := Bd.returns
  have hlk : meth.locks = false := BodyLoose.notSynchronized Bd
  have X0 : Stand p l e ({ frames := 0, cells := 0, slots := 0, locals := 0 } : Room) s m #[(.ref a1), (.ref a2)] below meth c s₁ [] 0 0 := Stand.of_body Bd
  have e0 : s₁.heap = h0 := by rw [← hh, Bd.state]; rfl
  have N0 := Fr.nil n0
  have K0 := Keep.refl h0 [a1]
  refine Rch.body (Q := Q_rmAdd Z a1 a2 u0 u1 u2 u3 w0 w1 w2 w3 h0 n0) (U' := s₁.setTop (mkF m 0 #[.val (.ref a1), .val (.ref a2)] [])) (fun t k => castTop (ef_rmAdd m a1 a2) k) ?_
  refine Rch.go (U' := s₁.setTop (mkF m 1 #[.val (.ref a1), .val (.ref a2)] [(.ref a1)])) (fun _ k => XS.aloadN X0.here hx rfl (hb hby d21_0) rfl rfl k) ?_
  refine Rch.go (U' := s₁.setTop (mkF m 2 #[.val (.ref a1), .val (.ref a2)] [(.ref a1), (.ref a1)])) (fun _ k => XS.dup X0.here hx rfl (hb hby d21_1) rfl rfl k) ?_
  obtain ⟨T2, X2, e2, st2⟩ := getF X0 hx hZ hown (host := "") (Or.inl (wi hw 22 rfl)) Via.refl e0 F_a1_writes (g := (mkF m 2 #[.val (.ref a1), .val (.ref a2)] [(.ref a1), (.ref a1)])) rfl rfl (hb hby d21_2)
  refine Rch.go (U' := T2.setTop (mkF m 5 #[.val (.ref a1), .val (.ref a2)] [(.long u0), (.ref a1)])) st2 ?_
  refine Rch.go (U' := T2.setTop (mkF m 6 #[.val (.ref a1), .val (.ref a2)] [(.ref a2), (.long u0), (.ref a1)])) (fun _ k => XS.aloadN X2.here hx rfl (hb hby d21_5) rfl rfl k) ?_
  obtain ⟨T3, X3, e3, st3⟩ := getF X2 hx hZ hown (host := "") (Or.inl (wi hw 22 rfl)) Via.refl e2 F_a2_writes (g := (mkF m 6 #[.val (.ref a1), .val (.ref a2)] [(.ref a2), (.long u0), (.ref a1)])) rfl rfl (hb hby d21_6)
  refine Rch.go (U' := T3.setTop (mkF m 9 #[.val (.ref a1), .val (.ref a2)] [(.long w0), (.long u0), (.ref a1)])) st3 ?_
  refine Rch.go (U' := T3.setTop (mkF m 10 #[.val (.ref a1), .val (.ref a2)] [(.long (u0 + w0)), (.ref a1)])) (fun _ k => XS.ladd X3.here hx rfl (hb hby d21_9) rfl k) ?_
  obtain ⟨T4, h4, X4, e4, W4, st4⟩ := putF X3 hx hZ hown (host := "") (Or.inl (wi hw 22 rfl)) Via.refl e3 F_a1_writes E_a1 (Or.inl (wi hw 10 rfl)) (wi hw 1 rfl) (ty := .long) (by decide) rfl rfl (g := (mkF m 10 #[.val (.ref a1), .val (.ref a2)] [(.long (u0 + w0)), (.ref a1)])) rfl rfl (hb hby d21_10)
  have F4 := F_a1_writes.same W4
  have f5 := E_a1.wr W4
  have f6 := F_a1_reads.other W4 (Or.inr (slot_ne (Or.inl (wi hw 12 rfl)) (Or.inl (wi hw 10 rfl)) (by decide) (t := .long) (t' := .long) (by decide) (by decide)))
  have f7 := F_a1_wrong.other W4 (Or.inr (slot_ne (Or.inl (wi hw 14 rfl)) (Or.inl (wi hw 10 rfl)) (by decide) (t := .long) (t' := .long) (by decide) (by decide)))
  have f8 := F_a1_misses.other W4 (Or.inr (slot_ne (Or.inl (wi hw 16 rfl)) (Or.inl (wi hw 10 rfl)) (by decide) (t := .long) (t' := .long) (by decide) (by decide)))
  have f9 := E_a2.wr W4
  have f10 := F_a2_writes.other W4 (Or.inl hne)
  have f11 := F_a2_reads.other W4 (Or.inl hne)
  have f12 := F_a2_wrong.other W4 (Or.inl hne)
  have f13 := F_a2_misses.other W4 (Or.inl hne)
  have N4 := Fr.snoc X4 N0 g_a1
  have z14 := Nat.le_trans Z0 (Keep.of_wr W4).1
  have K15 := K0.wr W4 (Or.inl (List.mem_of_getElem? (i := 0) rfl))
  refine Rch.go (U' := T4.setTop (mkF m 13 #[.val (.ref a1), .val (.ref a2)] [])) st4 ?_
  refine Rch.go (U' := T4.setTop (mkF m 14 #[.val (.ref a1), .val (.ref a2)] [(.ref a1)])) (fun _ k => XS.aloadN X4.here hx rfl (hb hby d21_13) rfl rfl k) ?_
  refine Rch.go (U' := T4.setTop (mkF m 15 #[.val (.ref a1), .val (.ref a2)] [(.ref a1), (.ref a1)])) (fun _ k => XS.dup X4.here hx rfl (hb hby d21_14) rfl rfl k) ?_
  obtain ⟨T16, X16, e16, st16⟩ := getF X4 hx hZ hown (host := "") (Or.inl (wi hw 23 rfl)) Via.refl e4 f6 (g := (mkF m 15 #[.val (.ref a1), .val (.ref a2)] [(.ref a1), (.ref a1)])) rfl rfl (hb hby d21_15)
  refine Rch.go (U' := T16.setTop (mkF m 18 #[.val (.ref a1), .val (.ref a2)] [(.long u1), (.ref a1)])) st16 ?_
  refine Rch.go (U' := T16.setTop (mkF m 19 #[.val (.ref a1), .val (.ref a2)] [(.ref a2), (.long u1), (.ref a1)])) (fun _ k => XS.aloadN X16.here hx rfl (hb hby d21_18) rfl rfl k) ?_
  obtain ⟨T17, X17, e17, st17⟩ := getF X16 hx hZ hown (host := "") (Or.inl (wi hw 23 rfl)) Via.refl e16 f11 (g := (mkF m 19 #[.val (.ref a1), .val (.ref a2)] [(.ref a2), (.long u1), (.ref a1)])) rfl rfl (hb hby d21_19)
  refine Rch.go (U' := T17.setTop (mkF m 22 #[.val (.ref a1), .val (.ref a2)] [(.long w1), (.long u1), (.ref a1)])) st17 ?_
  refine Rch.go (U' := T17.setTop (mkF m 23 #[.val (.ref a1), .val (.ref a2)] [(.long (u1 + w1)), (.ref a1)])) (fun _ k => XS.ladd X17.here hx rfl (hb hby d21_22) rfl k) ?_
  obtain ⟨T18, h18, X18, e18, W18, st18⟩ := putF X17 hx hZ hown (host := "") (Or.inl (wi hw 23 rfl)) Via.refl e17 f6 f5 (Or.inl (wi hw 12 rfl)) (wi hw 1 rfl) (ty := .long) (by decide) rfl rfl (g := (mkF m 23 #[.val (.ref a1), .val (.ref a2)] [(.long (u1 + w1)), (.ref a1)])) rfl rfl (hb hby d21_23)
  have F18 := f6.same W18
  have f19 := f5.wr W18
  have f20 := F4.other W18 (Or.inr (slot_ne (Or.inl (wi hw 10 rfl)) (Or.inl (wi hw 12 rfl)) (by decide) (t := .long) (t' := .long) (by decide) (by decide)))
  have f21 := f7.other W18 (Or.inr (slot_ne (Or.inl (wi hw 14 rfl)) (Or.inl (wi hw 12 rfl)) (by decide) (t := .long) (t' := .long) (by decide) (by decide)))
  have f22 := f8.other W18 (Or.inr (slot_ne (Or.inl (wi hw 16 rfl)) (Or.inl (wi hw 12 rfl)) (by decide) (t := .long) (t' := .long) (by decide) (by decide)))
  have f23 := f9.wr W18
  have f24 := f10.other W18 (Or.inl hne)
  have f25 := f11.other W18 (Or.inl hne)
  have f26 := f12.other W18 (Or.inl hne)
  have f27 := f13.other W18 (Or.inl hne)
  have N18 := Fr.snoc X18 N4 g_a1
  have z28 := Nat.le_trans z14 (Keep.of_wr W18).1
  have K29 := K15.wr W18 (Or.inl (List.mem_of_getElem? (i := 0) rfl))
  refine Rch.go (U' := T18.setTop (mkF m 26 #[.val (.ref a1), .val (.ref a2)] [])) st18 ?_
  refine Rch.go (U' := T18.setTop (mkF m 27 #[.val (.ref a1), .val (.ref a2)] [(.ref a1)])) (fun _ k => XS.aloadN X18.here hx rfl (hb hby d21_26) rfl rfl k) ?_
  refine Rch.go (U' := T18.setTop (mkF m 28 #[.val (.ref a1), .val (.ref a2)] [(.ref a1), (.ref a1)])) (fun _ k => XS.dup X18.here hx rfl (hb hby d21_27) rfl rfl k) ?_
  obtain ⟨T30, X30, e30, st30⟩ := getF X18 hx hZ hown (host := "") (Or.inl (wi hw 24 rfl)) Via.refl e18 f21 (g := (mkF m 28 #[.val (.ref a1), .val (.ref a2)] [(.ref a1), (.ref a1)])) rfl rfl (hb hby d21_28)
  refine Rch.go (U' := T30.setTop (mkF m 31 #[.val (.ref a1), .val (.ref a2)] [(.long u2), (.ref a1)])) st30 ?_
  refine Rch.go (U' := T30.setTop (mkF m 32 #[.val (.ref a1), .val (.ref a2)] [(.ref a2), (.long u2), (.ref a1)])) (fun _ k => XS.aloadN X30.here hx rfl (hb hby d21_31) rfl rfl k) ?_
  obtain ⟨T31, X31, e31, st31⟩ := getF X30 hx hZ hown (host := "") (Or.inl (wi hw 24 rfl)) Via.refl e30 f26 (g := (mkF m 32 #[.val (.ref a1), .val (.ref a2)] [(.ref a2), (.long u2), (.ref a1)])) rfl rfl (hb hby d21_32)
  refine Rch.go (U' := T31.setTop (mkF m 35 #[.val (.ref a1), .val (.ref a2)] [(.long w2), (.long u2), (.ref a1)])) st31 ?_
  refine Rch.go (U' := T31.setTop (mkF m 36 #[.val (.ref a1), .val (.ref a2)] [(.long (u2 + w2)), (.ref a1)])) (fun _ k => XS.ladd X31.here hx rfl (hb hby d21_35) rfl k) ?_
  obtain ⟨T32, h32, X32, e32, W32, st32⟩ := putF X31 hx hZ hown (host := "") (Or.inl (wi hw 24 rfl)) Via.refl e31 f21 f19 (Or.inl (wi hw 14 rfl)) (wi hw 1 rfl) (ty := .long) (by decide) rfl rfl (g := (mkF m 36 #[.val (.ref a1), .val (.ref a2)] [(.long (u2 + w2)), (.ref a1)])) rfl rfl (hb hby d21_36)
  have F32 := f21.same W32
  have f33 := f19.wr W32
  have f34 := f20.other W32 (Or.inr (slot_ne (Or.inl (wi hw 10 rfl)) (Or.inl (wi hw 14 rfl)) (by decide) (t := .long) (t' := .long) (by decide) (by decide)))
  have f35 := F18.other W32 (Or.inr (slot_ne (Or.inl (wi hw 12 rfl)) (Or.inl (wi hw 14 rfl)) (by decide) (t := .long) (t' := .long) (by decide) (by decide)))
  have f36 := f22.other W32 (Or.inr (slot_ne (Or.inl (wi hw 16 rfl)) (Or.inl (wi hw 14 rfl)) (by decide) (t := .long) (t' := .long) (by decide) (by decide)))
  have f37 := f23.wr W32
  have f38 := f24.other W32 (Or.inl hne)
  have f39 := f25.other W32 (Or.inl hne)
  have f40 := f26.other W32 (Or.inl hne)
  have f41 := f27.other W32 (Or.inl hne)
  have N32 := Fr.snoc X32 N18 g_a1
  have z42 := Nat.le_trans z28 (Keep.of_wr W32).1
  have K43 := K29.wr W32 (Or.inl (List.mem_of_getElem? (i := 0) rfl))
  refine Rch.go (U' := T32.setTop (mkF m 39 #[.val (.ref a1), .val (.ref a2)] [])) st32 ?_
  refine Rch.go (U' := T32.setTop (mkF m 40 #[.val (.ref a1), .val (.ref a2)] [(.ref a1)])) (fun _ k => XS.aloadN X32.here hx rfl (hb hby d21_39) rfl rfl k) ?_
  refine Rch.go (U' := T32.setTop (mkF m 41 #[.val (.ref a1), .val (.ref a2)] [(.ref a1), (.ref a1)])) (fun _ k => XS.dup X32.here hx rfl (hb hby d21_40) rfl rfl k) ?_
  obtain ⟨T44, X44, e44, st44⟩ := getF X32 hx hZ hown (host := "") (Or.inl (wi hw 25 rfl)) Via.refl e32 f36 (g := (mkF m 41 #[.val (.ref a1), .val (.ref a2)] [(.ref a1), (.ref a1)])) rfl rfl (hb hby d21_41)
  refine Rch.go (U' := T44.setTop (mkF m 44 #[.val (.ref a1), .val (.ref a2)] [(.long u3), (.ref a1)])) st44 ?_
  refine Rch.go (U' := T44.setTop (mkF m 45 #[.val (.ref a1), .val (.ref a2)] [(.ref a2), (.long u3), (.ref a1)])) (fun _ k => XS.aloadN X44.here hx rfl (hb hby d21_44) rfl rfl k) ?_
  obtain ⟨T45, X45, e45, st45⟩ := getF X44 hx hZ hown (host := "") (Or.inl (wi hw 25 rfl)) Via.refl e44 f41 (g := (mkF m 45 #[.val (.ref a1), .val (.ref a2)] [(.ref a2), (.long u3), (.ref a1)])) rfl rfl (hb hby d21_45)
  refine Rch.go (U' := T45.setTop (mkF m 48 #[.val (.ref a1), .val (.ref a2)] [(.long w3), (.long u3), (.ref a1)])) st45 ?_
  refine Rch.go (U' := T45.setTop (mkF m 49 #[.val (.ref a1), .val (.ref a2)] [(.long (u3 + w3)), (.ref a1)])) (fun _ k => XS.ladd X45.here hx rfl (hb hby d21_48) rfl k) ?_
  obtain ⟨T46, h46, X46, e46, W46, st46⟩ := putF X45 hx hZ hown (host := "") (Or.inl (wi hw 25 rfl)) Via.refl e45 f36 f33 (Or.inl (wi hw 16 rfl)) (wi hw 1 rfl) (ty := .long) (by decide) rfl rfl (g := (mkF m 49 #[.val (.ref a1), .val (.ref a2)] [(.long (u3 + w3)), (.ref a1)])) rfl rfl (hb hby d21_49)
  have F46 := f36.same W46
  have f47 := f33.wr W46
  have f48 := f34.other W46 (Or.inr (slot_ne (Or.inl (wi hw 10 rfl)) (Or.inl (wi hw 16 rfl)) (by decide) (t := .long) (t' := .long) (by decide) (by decide)))
  have f49 := f35.other W46 (Or.inr (slot_ne (Or.inl (wi hw 12 rfl)) (Or.inl (wi hw 16 rfl)) (by decide) (t := .long) (t' := .long) (by decide) (by decide)))
  have f50 := F32.other W46 (Or.inr (slot_ne (Or.inl (wi hw 14 rfl)) (Or.inl (wi hw 16 rfl)) (by decide) (t := .long) (t' := .long) (by decide) (by decide)))
  have f51 := f37.wr W46
  have f52 := f38.other W46 (Or.inl hne)
  have f53 := f39.other W46 (Or.inl hne)
  have f54 := f40.other W46 (Or.inl hne)
  have f55 := f41.other W46 (Or.inl hne)
  have N46 := Fr.snoc X46 N32 g_a1
  have z56 := Nat.le_trans z42 (Keep.of_wr W46).1
  have K57 := K43.wr W46 (Or.inl (List.mem_of_getElem? (i := 0) rfl))
  refine Rch.go (U' := T46.setTop (mkF m 52 #[.val (.ref a1), .val (.ref a2)] [])) st46 ?_
  refine Rch.fin X46 hlk (v := none) (fun _ => rfl) e46 (by decide) (by decide) (fun fs hr => X46.returnOut hx hret (hb hby d21_52) hr) ?_
  exact ⟨rfl, N46, K57, f48, f49, f50, F46⟩
theorem ef_rmAddS (m : MethodId) (a1 : Addr) : entryFrame m #[(.ref a1), (.ref a1)] 2 = mkF m 0 #[.val (.ref a1), .val (.ref a1)] [] := by first | (simp [entryFrame, mkF, argsToLocals, Value.category]; done) | rfl
def Q_rmAddS (Z : State) (a1 : Addr) (u0 : Int64) (u1 : Int64) (u2 : Int64) (u3 : Int64) (h0 : Heap) (n0 : Nat) (v : Option Value) (h : Heap) (L : List Loc) : Prop := v = none ∧ Fr n0 L ∧ Keep h0 h [a1] ∧ Fld Z h a1 "com/example/stripeguard/stripeguard/cli/Tally" "writes" "J" (.long (u0 + u0)) ∧ Fld Z h a1 "com/example/stripeguard/stripeguard/cli/Tally" "reads" "J" (.long (u1 + u1)) ∧ Fld Z h a1 "com/example/stripeguard/stripeguard/cli/Tally" "wrong" "J" (.long (u2 + u2)) ∧ Fld Z h a1 "com/example/stripeguard/stripeguard/cli/Tally" "misses" "J" (.long (u3 + u3))
set_option maxRecDepth 65536 in
set_option maxHeartbeats 40000000 in
theorem rmAddS (l : Launch) (Z : State) (a0 : Array Value) (hw : ∀ d ∈ tables_1, d.before a0 Z = true) (ws : List Jvm.Cond) (a1 : Addr) (u0 : Int64) (u1 : Int64) (u2 : Int64) (u3 : Int64) (h0 : Heap) (n0 : Nat) (Z0 : n0 ≤ h0.size) (E_a1 : Exa Z h0 a1 "com/example/stripeguard/stripeguard/cli/Tally") (F_a1_writes : Fld Z h0 a1 "com/example/stripeguard/stripeguard/cli/Tally" "writes" "J" (.long u0)) (F_a1_reads : Fld Z h0 a1 "com/example/stripeguard/stripeguard/cli/Tally" "reads" "J" (.long u1)) (F_a1_wrong : Fld Z h0 a1 "com/example/stripeguard/stripeguard/cli/Tally" "wrong" "J" (.long u2)) (F_a1_misses : Fld Z h0 a1 "com/example/stripeguard/stripeguard/cli/Tally" "misses" "J" (.long u3)) (g_a1 : n0 ≤ a1) :
    MetFree l (⟨"com/example/stripeguard/stripeguard/cli/Tally", "add", "(Lcom/example/stripeguard/stripeguard/cli/Tally;)V"⟩ : MethodName) (head1 (Jvm.Cond.code (⟨"com/example/stripeguard/stripeguard/cli/Tally", "add", "(Lcom/example/stripeguard/stripeguard/cli/Tally;)V"⟩ : MethodName) prog_62_method_3_code 2 none :: ws) ({ frames := 0, cells := 0, slots := 0, locals := 0 } : Room)) (fun a U => a = #[(.ref a1), (.ref a1)] ∧ Z.Warmed39 U.vm ∧ U.heap = h0) (fun _ _ _ _ _ => True) (fun _ U o U' => ∃ v L, o = .returned v ∧ Q_rmAddS Z a1 u0 u1 u2 u3 h0 n0 v U'.heap L ∧ FrameEnd U o U' L ({ frames := 0, cells := 0, slots := 0, locals := 0 } : Room).cells ({ frames := 0, cells := 0, slots := 0, locals := 0 } : Room).slots) := by
  refine MetFree.of_bodySF (plainFor_of_name pn_com_example_stripeguard_stripeguard_cli_Tally) hisR ?_
  intro p e s m args below meth c s₁ Bd hml0 hP hK
  obtain ⟨rfl, hZ, hh⟩ := hP
  have hx := Bd.exec
  have hby := Bd.bytes
  have hml : c.maxLocals = 2 := hml0
  have hown : s.vm.findClass "com/example/stripeguard/stripeguard/cli/Tally" = some m.cls := findClass_of_methodNamed Bd.named
  have hnm := (name_of_methodNamed Bd.named Bd.method).1
  have hret := Bd.returns
  have hlk : meth.locks = false := BodyLoose.notSynchronized Bd
  have X0 : Stand p l e ({ frames := 0, cells := 0, slots := 0, locals := 0 } : Room) s m #[(.ref a1), (.ref a1)] below meth c s₁ [] 0 0 := Stand.of_body Bd
  have e0 : s₁.heap = h0 := by rw [← hh, Bd.state]; rfl
  have N0 := Fr.nil n0
  have K0 := Keep.refl h0 [a1]
  refine Rch.body (Q := Q_rmAddS Z a1 u0 u1 u2 u3 h0 n0) (U' := s₁.setTop (mkF m 0 #[.val (.ref a1), .val (.ref a1)] [])) (fun t k => castTop (ef_rmAddS m a1) k) ?_
  refine Rch.go (U' := s₁.setTop (mkF m 1 #[.val (.ref a1), .val (.ref a1)] [(.ref a1)])) (fun _ k => XS.aloadN X0.here hx rfl (hb hby d21_0) rfl rfl k) ?_
  refine Rch.go (U' := s₁.setTop (mkF m 2 #[.val (.ref a1), .val (.ref a1)] [(.ref a1), (.ref a1)])) (fun _ k => XS.dup X0.here hx rfl (hb hby d21_1) rfl rfl k) ?_
  obtain ⟨T58, X58, e58, st58⟩ := getF X0 hx hZ hown (host := "") (Or.inl (wi hw 22 rfl)) Via.refl e0 F_a1_writes (g := (mkF m 2 #[.val (.ref a1), .val (.ref a1)] [(.ref a1), (.ref a1)])) rfl rfl (hb hby d21_2)
  refine Rch.go (U' := T58.setTop (mkF m 5 #[.val (.ref a1), .val (.ref a1)] [(.long u0), (.ref a1)])) st58 ?_
  refine Rch.go (U' := T58.setTop (mkF m 6 #[.val (.ref a1), .val (.ref a1)] [(.ref a1), (.long u0), (.ref a1)])) (fun _ k => XS.aloadN X58.here hx rfl (hb hby d21_5) rfl rfl k) ?_
  obtain ⟨T59, X59, e59, st59⟩ := getF X58 hx hZ hown (host := "") (Or.inl (wi hw 22 rfl)) Via.refl e58 F_a1_writes (g := (mkF m 6 #[.val (.ref a1), .val (.ref a1)] [(.ref a1), (.long u0), (.ref a1)])) rfl rfl (hb hby d21_6)
  refine Rch.go (U' := T59.setTop (mkF m 9 #[.val (.ref a1), .val (.ref a1)] [(.long u0), (.long u0), (.ref a1)])) st59 ?_
  refine Rch.go (U' := T59.setTop (mkF m 10 #[.val (.ref a1), .val (.ref a1)] [(.long (u0 + u0)), (.ref a1)])) (fun _ k => XS.ladd X59.here hx rfl (hb hby d21_9) rfl k) ?_
  obtain ⟨T60, h60, X60, e60, W60, st60⟩ := putF X59 hx hZ hown (host := "") (Or.inl (wi hw 22 rfl)) Via.refl e59 F_a1_writes E_a1 (Or.inl (wi hw 10 rfl)) (wi hw 1 rfl) (ty := .long) (by decide) rfl rfl (g := (mkF m 10 #[.val (.ref a1), .val (.ref a1)] [(.long (u0 + u0)), (.ref a1)])) rfl rfl (hb hby d21_10)
  have F60 := F_a1_writes.same W60
  have f61 := E_a1.wr W60
  have f62 := F_a1_reads.other W60 (Or.inr (slot_ne (Or.inl (wi hw 12 rfl)) (Or.inl (wi hw 10 rfl)) (by decide) (t := .long) (t' := .long) (by decide) (by decide)))
  have f63 := F_a1_wrong.other W60 (Or.inr (slot_ne (Or.inl (wi hw 14 rfl)) (Or.inl (wi hw 10 rfl)) (by decide) (t := .long) (t' := .long) (by decide) (by decide)))
  have f64 := F_a1_misses.other W60 (Or.inr (slot_ne (Or.inl (wi hw 16 rfl)) (Or.inl (wi hw 10 rfl)) (by decide) (t := .long) (t' := .long) (by decide) (by decide)))
  have N60 := Fr.snoc X60 N0 g_a1
  have z65 := Nat.le_trans Z0 (Keep.of_wr W60).1
  have K66 := K0.wr W60 (Or.inl (List.mem_of_getElem? (i := 0) rfl))
  refine Rch.go (U' := T60.setTop (mkF m 13 #[.val (.ref a1), .val (.ref a1)] [])) st60 ?_
  refine Rch.go (U' := T60.setTop (mkF m 14 #[.val (.ref a1), .val (.ref a1)] [(.ref a1)])) (fun _ k => XS.aloadN X60.here hx rfl (hb hby d21_13) rfl rfl k) ?_
  refine Rch.go (U' := T60.setTop (mkF m 15 #[.val (.ref a1), .val (.ref a1)] [(.ref a1), (.ref a1)])) (fun _ k => XS.dup X60.here hx rfl (hb hby d21_14) rfl rfl k) ?_
  obtain ⟨T67, X67, e67, st67⟩ := getF X60 hx hZ hown (host := "") (Or.inl (wi hw 23 rfl)) Via.refl e60 f62 (g := (mkF m 15 #[.val (.ref a1), .val (.ref a1)] [(.ref a1), (.ref a1)])) rfl rfl (hb hby d21_15)
  refine Rch.go (U' := T67.setTop (mkF m 18 #[.val (.ref a1), .val (.ref a1)] [(.long u1), (.ref a1)])) st67 ?_
  refine Rch.go (U' := T67.setTop (mkF m 19 #[.val (.ref a1), .val (.ref a1)] [(.ref a1), (.long u1), (.ref a1)])) (fun _ k => XS.aloadN X67.here hx rfl (hb hby d21_18) rfl rfl k) ?_
  obtain ⟨T68, X68, e68, st68⟩ := getF X67 hx hZ hown (host := "") (Or.inl (wi hw 23 rfl)) Via.refl e67 f62 (g := (mkF m 19 #[.val (.ref a1), .val (.ref a1)] [(.ref a1), (.long u1), (.ref a1)])) rfl rfl (hb hby d21_19)
  refine Rch.go (U' := T68.setTop (mkF m 22 #[.val (.ref a1), .val (.ref a1)] [(.long u1), (.long u1), (.ref a1)])) st68 ?_
  refine Rch.go (U' := T68.setTop (mkF m 23 #[.val (.ref a1), .val (.ref a1)] [(.long (u1 + u1)), (.ref a1)])) (fun _ k => XS.ladd X68.here hx rfl (hb hby d21_22) rfl k) ?_
  obtain ⟨T69, h69, X69, e69, W69, st69⟩ := putF X68 hx hZ hown (host := "") (Or.inl (wi hw 23 rfl)) Via.refl e68 f62 f61 (Or.inl (wi hw 12 rfl)) (wi hw 1 rfl) (ty := .long) (by decide) rfl rfl (g := (mkF m 23 #[.val (.ref a1), .val (.ref a1)] [(.long (u1 + u1)), (.ref a1)])) rfl rfl (hb hby d21_23)
  have F69 := f62.same W69
  have f70 := f61.wr W69
  have f71 := F60.other W69 (Or.inr (slot_ne (Or.inl (wi hw 10 rfl)) (Or.inl (wi hw 12 rfl)) (by decide) (t := .long) (t' := .long) (by decide) (by decide)))
  have f72 := f63.other W69 (Or.inr (slot_ne (Or.inl (wi hw 14 rfl)) (Or.inl (wi hw 12 rfl)) (by decide) (t := .long) (t' := .long) (by decide) (by decide)))
  have f73 := f64.other W69 (Or.inr (slot_ne (Or.inl (wi hw 16 rfl)) (Or.inl (wi hw 12 rfl)) (by decide) (t := .long) (t' := .long) (by decide) (by decide)))
  have N69 := Fr.snoc X69 N60 g_a1
  have z74 := Nat.le_trans z65 (Keep.of_wr W69).1
  have K75 := K66.wr W69 (Or.inl (List.mem_of_getElem? (i := 0) rfl))
  refine Rch.go (U' := T69.setTop (mkF m 26 #[.val (.ref a1), .val (.ref a1)] [])) st69 ?_
  refine Rch.go (U' := T69.setTop (mkF m 27 #[.val (.ref a1), .val (.ref a1)] [(.ref a1)])) (fun _ k => XS.aloadN X69.here hx rfl (hb hby d21_26) rfl rfl k) ?_
  refine Rch.go (U' := T69.setTop (mkF m 28 #[.val (.ref a1), .val (.ref a1)] [(.ref a1), (.ref a1)])) (fun _ k => XS.dup X69.here hx rfl (hb hby d21_27) rfl rfl k) ?_
  obtain ⟨T76, X76, e76, st76⟩ := getF X69 hx hZ hown (host := "") (Or.inl (wi hw 24 rfl)) Via.refl e69 f72 (g := (mkF m 28 #[.val (.ref a1), .val (.ref a1)] [(.ref a1), (.ref a1)])) rfl rfl (hb hby d21_28)
  refine Rch.go (U' := T76.setTop (mkF m 31 #[.val (.ref a1), .val (.ref a1)] [(.long u2), (.ref a1)])) st76 ?_
  refine Rch.go (U' := T76.setTop (mkF m 32 #[.val (.ref a1), .val (.ref a1)] [(.ref a1), (.long u2), (.ref a1)])) (fun _ k => XS.aloadN X76.here hx rfl (hb hby d21_31) rfl rfl k) ?_
  obtain ⟨T77, X77, e77, st77⟩ := getF X76 hx hZ hown (host := "") (Or.inl (wi hw 24 rfl)) Via.refl e76 f72 (g := (mkF m 32 #[.val (.ref a1), .val (.ref a1)] [(.ref a1), (.long u2), (.ref a1)])) rfl rfl (hb hby d21_32)
  refine Rch.go (U' := T77.setTop (mkF m 35 #[.val (.ref a1), .val (.ref a1)] [(.long u2), (.long u2), (.ref a1)])) st77 ?_
  refine Rch.go (U' := T77.setTop (mkF m 36 #[.val (.ref a1), .val (.ref a1)] [(.long (u2 + u2)), (.ref a1)])) (fun _ k => XS.ladd X77.here hx rfl (hb hby d21_35) rfl k) ?_
  obtain ⟨T78, h78, X78, e78, W78, st78⟩ := putF X77 hx hZ hown (host := "") (Or.inl (wi hw 24 rfl)) Via.refl e77 f72 f70 (Or.inl (wi hw 14 rfl)) (wi hw 1 rfl) (ty := .long) (by decide) rfl rfl (g := (mkF m 36 #[.val (.ref a1), .val (.ref a1)] [(.long (u2 + u2)), (.ref a1)])) rfl rfl (hb hby d21_36)
  have F78 := f72.same W78
  have f79 := f70.wr W78
  have f80 := f71.other W78 (Or.inr (slot_ne (Or.inl (wi hw 10 rfl)) (Or.inl (wi hw 14 rfl)) (by decide) (t := .long) (t' := .long) (by decide) (by decide)))
  have f81 := F69.other W78 (Or.inr (slot_ne (Or.inl (wi hw 12 rfl)) (Or.inl (wi hw 14 rfl)) (by decide) (t := .long) (t' := .long) (by decide) (by decide)))
  have f82 := f73.other W78 (Or.inr (slot_ne (Or.inl (wi hw 16 rfl)) (Or.inl (wi hw 14 rfl)) (by decide) (t := .long) (t' := .long) (by decide) (by decide)))
  have N78 := Fr.snoc X78 N69 g_a1
  have z83 := Nat.le_trans z74 (Keep.of_wr W78).1
  have K84 := K75.wr W78 (Or.inl (List.mem_of_getElem? (i := 0) rfl))
  refine Rch.go (U' := T78.setTop (mkF m 39 #[.val (.ref a1), .val (.ref a1)] [])) st78 ?_
  refine Rch.go (U' := T78.setTop (mkF m 40 #[.val (.ref a1), .val (.ref a1)] [(.ref a1)])) (fun _ k => XS.aloadN X78.here hx rfl (hb hby d21_39) rfl rfl k) ?_
  refine Rch.go (U' := T78.setTop (mkF m 41 #[.val (.ref a1), .val (.ref a1)] [(.ref a1), (.ref a1)])) (fun _ k => XS.dup X78.here hx rfl (hb hby d21_40) rfl rfl k) ?_
  obtain ⟨T85, X85, e85, st85⟩ := getF X78 hx hZ hown (host := "") (Or.inl (wi hw 25 rfl)) Via.refl e78 f82 (g := (mkF m 41 #[.val (.ref a1), .val (.ref a1)] [(.ref a1), (.ref a1)])) rfl rfl (hb hby d21_41)
  refine Rch.go (U' := T85.setTop (mkF m 44 #[.val (.ref a1), .val (.ref a1)] [(.long u3), (.ref a1)])) st85 ?_
  refine Rch.go (U' := T85.setTop (mkF m 45 #[.val (.ref a1), .val (.ref a1)] [(.ref a1), (.long u3), (.ref a1)])) (fun _ k => XS.aloadN X85.here hx rfl (hb hby d21_44) rfl rfl k) ?_
  obtain ⟨T86, X86, e86, st86⟩ := getF X85 hx hZ hown (host := "") (Or.inl (wi hw 25 rfl)) Via.refl e85 f82 (g := (mkF m 45 #[.val (.ref a1), .val (.ref a1)] [(.ref a1), (.long u3), (.ref a1)])) rfl rfl (hb hby d21_45)
  refine Rch.go (U' := T86.setTop (mkF m 48 #[.val (.ref a1), .val (.ref a1)] [(.long u3), (.long u3), (.ref a1)])) st86 ?_
  refine Rch.go (U' := T86.setTop (mkF m 49 #[.val (.ref a1), .val (.ref a1)] [(.long (u3 + u3)), (.ref a1)])) (fun _ k => XS.ladd X86.here hx rfl (hb hby d21_48) rfl k) ?_
  obtain ⟨T87, h87, X87, e87, W87, st87⟩ := putF X86 hx hZ hown (host := "") (Or.inl (wi hw 25 rfl)) Via.refl e86 f82 f79 (Or.inl (wi hw 16 rfl)) (wi hw 1 rfl) (ty := .long) (by decide) rfl rfl (g := (mkF m 49 #[.val (.ref a1), .val (.ref a1)] [(.long (u3 + u3)), (.ref a1)])) rfl rfl (hb hby d21_49)
  have F87 := f82.same W87
  have f88 := f79.wr W87
  have f89 := f80.other W87 (Or.inr (slot_ne (Or.inl (wi hw 10 rfl)) (Or.inl (wi hw 16 rfl)) (by decide) (t := .long) (t' := .long) (by decide) (by decide)))
  have f90 := f81.other W87 (Or.inr (slot_ne (Or.inl (wi hw 12 rfl)) (Or.inl (wi hw 16 rfl)) (by decide) (t := .long) (t' := .long) (by decide) (by decide)))
  have f91 := F78.other W87 (Or.inr (slot_ne (Or.inl (wi hw 14 rfl)) (Or.inl (wi hw 16 rfl)) (by decide) (t := .long) (t' := .long) (by decide) (by decide)))
  have N87 := Fr.snoc X87 N78 g_a1
  have z92 := Nat.le_trans z83 (Keep.of_wr W87).1
  have K93 := K84.wr W87 (Or.inl (List.mem_of_getElem? (i := 0) rfl))
  refine Rch.go (U' := T87.setTop (mkF m 52 #[.val (.ref a1), .val (.ref a1)] [])) st87 ?_
  refine Rch.fin X87 hlk (v := none) (fun _ => rfl) e87 (by decide) (by decide) (fun fs hr => X87.returnOut hx hret (hb hby d21_52) hr) ?_
  exact ⟨rfl, N87, K93, f89, f90, f91, F87⟩
theorem pd_3 : parseMethodDescriptor "(Lcom/example/stripeguard/stripeguard/cli/Tally;)V" = some ⟨[(.object "com/example/stripeguard/stripeguard/cli/Tally")], none⟩ := by decide +kernel
theorem pn_com_example_stripeguard_stripeguard_cli_TallyAddPinLaw : plainName "com/example/stripeguard/stripeguard/cli/TallyAddPinLaw" = true := by first | (simp [plainName, overriddenIn]; done) | decide +kernel
theorem ef_rm0 (m : MethodId) (q1 : Int64) (q2 : Int64) (q3 : Int64) (q4 : Int64) (q5 : Int64) (q6 : Int64) : entryFrame m #[(.long q1), (.long q2), (.long q3), (.long q4), (.long q5), (.long q6)] maxLocals = mkF m 0 #[.val (.long q1), .second, .val (.long q2), .second, .val (.long q3), .second, .val (.long q4), .second, .val (.long q5), .second, .val (.long q6), .second, .unset, .unset, .unset, .unset, .unset, .unset, .unset, .unset, .unset, .unset, .unset, .unset, .unset, .unset, .unset, .unset, .unset] [] := by first | (simp [entryFrame, mkF, argsToLocals, Value.category, maxLocals]; done) | rfl
def Q_rm0 (Z : State) (q1 : Int64) (q2 : Int64) (q3 : Int64) (q4 : Int64) (q5 : Int64) (q6 : Int64) (h0 : Heap) (n0 : Nat) (v : Option Value) (h : Heap) (L : List Loc) : Prop := v = some (.int 1) ∧ Fr n0 L
set_option maxRecDepth 65536 in
set_option maxHeartbeats 40000000 in
theorem rm0 (l : Launch) (Z : State) (a0 : Array Value) (hw : ∀ d ∈ tables_1, d.before a0 Z = true) (ws : List Jvm.Cond) (q1 : Int64) (q2 : Int64) (q3 : Int64) (q4 : Int64) (q5 : Int64) (q6 : Int64) (h0 : Heap) (n0 : Nat) (Z0 : n0 ≤ h0.size)  :
    MetFree l x (head1 (Jvm.Cond.code x code maxLocals ret :: ws) room_1) (fun a U => a = #[(.long q1), (.long q2), (.long q3), (.long q4), (.long q5), (.long q6)] ∧ Z.Warmed39 U.vm ∧ U.heap = h0) (fun _ _ _ _ _ => True) (fun _ U o U' => ∃ v L, o = .returned v ∧ Q_rm0 Z q1 q2 q3 q4 q5 q6 h0 n0 v U'.heap L ∧ FrameEnd U o U' L 16 128) := by
  refine MetFree.of_bodySF (plainFor_of_name pn_com_example_stripeguard_stripeguard_cli_TallyAddPinLaw) hisR ?_
  intro p e s m args below meth c s₁ Bd hml0 hP hK
  obtain ⟨rfl, hZ, hh⟩ := hP
  have hx := Bd.exec
  have hby := Bd.bytes
  have hml : c.maxLocals = 29 := hml0
  have hown : s.vm.findClass "com/example/stripeguard/stripeguard/cli/TallyAddPinLaw" = some m.cls := findClass_of_methodNamed Bd.named
  have hnm := (name_of_methodNamed Bd.named Bd.method).1
  have hret := Bd.returns
  have hlk : meth.locks = false := BodyLoose.notSynchronized Bd
  have X0 : Stand p l e room_1 s m #[(.long q1), (.long q2), (.long q3), (.long q4), (.long q5), (.long q6)] below meth c s₁ [] 0 0 := Stand.of_body Bd
  have e0 : s₁.heap = h0 := by rw [← hh, Bd.state]; rfl
  have N0 := Fr.nil n0
  refine Rch.body (Q := Q_rm0 Z q1 q2 q3 q4 q5 q6 h0 n0) (U' := s₁.setTop (mkF m 0 #[.val (.long q1), .second, .val (.long q2), .second, .val (.long q3), .second, .val (.long q4), .second, .val (.long q5), .second, .val (.long q6), .second, .unset, .unset, .unset, .unset, .unset, .unset, .unset, .unset, .unset, .unset, .unset, .unset, .unset, .unset, .unset, .unset, .unset] [])) (fun t k => castTop (ef_rm0 m q1 q2 q3 q4 q5 q6) k) ?_
  refine Rch.go (U' := s₁.setTop (mkF m 2 #[.val (.long q1), .second, .val (.long q2), .second, .val (.long q3), .second, .val (.long q4), .second, .val (.long q5), .second, .val (.long q6), .second, .unset, .unset, .unset, .unset, .unset, .unset, .unset, .unset, .unset, .unset, .unset, .unset, .unset, .unset, .unset, .unset, .unset] [(.long q3)])) (fun _ k => XS.lload X0.here hx rfl (hb hby at_0) rfl  k) ?_
  refine Rch.go (U' := s₁.setTop (mkF m 4 #[.val (.long q1), .second, .val (.long q2), .second, .val (.long q3), .second, .val (.long q4), .second, .val (.long q5), .second, .val (.long q6), .second, .unset, .unset, .unset, .unset, .unset, .unset, .unset, .unset, .unset, .unset, .unset, .unset, .unset, .unset, .unset, .unset, .unset] [(.long q5), (.long q3)])) (fun _ k => XS.lload X0.here hx rfl (hb hby at_2) rfl  k) ?_
  refine Rch.go (U' := s₁.setTop (mkF m 5 #[.val (.long q1), .second, .val (.long q2), .second, .val (.long q3), .second, .val (.long q4), .second, .val (.long q5), .second, .val (.long q6), .second, .unset, .unset, .unset, .unset, .unset, .unset, .unset, .unset, .unset, .unset, .unset, .unset, .unset, .unset, .unset, .unset, .unset] [(.long (q3 ^^^ q5))])) (fun _ k => XS.lxor X0.here hx rfl (hb hby at_4) rfl k) ?_
  refine Rch.go (U' := s₁.setTop (mkF m 7 #[.val (.long q1), .second, .val (.long q2), .second, .val (.long q3), .second, .val (.long q4), .second, .val (.long q5), .second, .val (.long q6), .second, .val (.long (q3 ^^^ q5)), .second, .unset, .unset, .unset, .unset, .unset, .unset, .unset, .unset, .unset, .unset, .unset, .unset, .unset, .unset, .unset] [])) (fun _ k => XS.lstore X0.here hx rfl (hb hby at_5) rfl (l' := #[.val (.long q1), .second, .val (.long q2), .second, .val (.long q3), .second, .val (.long q4), .second, .val (.long q5), .second, .val (.long q6), .second, .val (.long (q3 ^^^ q5)), .second, .unset, .unset, .unset, .unset, .unset, .unset, .unset, .unset, .unset, .unset, .unset, .unset, .unset, .unset, .unset]) rfl k) ?_
  refine Rch.go (U' := s₁.setTop (mkF m 9 #[.val (.long q1), .second, .val (.long q2), .second, .val (.long q3), .second, .val (.long q4), .second, .val (.long q5), .second, .val (.long q6), .second, .val (.long (q3 ^^^ q5)), .second, .unset, .unset, .unset, .unset, .unset, .unset, .unset, .unset, .unset, .unset, .unset, .unset, .unset, .unset, .unset] [(.long q4)])) (fun _ k => XS.lload X0.here hx rfl (hb hby at_7) rfl  k) ?_
  refine Rch.go (U' := s₁.setTop (mkF m 11 #[.val (.long q1), .second, .val (.long q2), .second, .val (.long q3), .second, .val (.long q4), .second, .val (.long q5), .second, .val (.long q6), .second, .val (.long (q3 ^^^ q5)), .second, .unset, .unset, .unset, .unset, .unset, .unset, .unset, .unset, .unset, .unset, .unset, .unset, .unset, .unset, .unset] [(.long q6), (.long q4)])) (fun _ k => XS.lload X0.here hx rfl (hb hby at_9) rfl  k) ?_
  refine Rch.go (U' := s₁.setTop (mkF m 12 #[.val (.long q1), .second, .val (.long q2), .second, .val (.long q3), .second, .val (.long q4), .second, .val (.long q5), .second, .val (.long q6), .second, .val (.long (q3 ^^^ q5)), .second, .unset, .unset, .unset, .unset, .unset, .unset, .unset, .unset, .unset, .unset, .unset, .unset, .unset, .unset, .unset] [(.long (q4 - q6))])) (fun _ k => XS.lsub X0.here hx rfl (hb hby at_11) rfl k) ?_
  refine Rch.go (U' := s₁.setTop (mkF m 14 #[.val (.long q1), .second, .val (.long q2), .second, .val (.long q3), .second, .val (.long q4), .second, .val (.long q5), .second, .val (.long q6), .second, .val (.long (q3 ^^^ q5)), .second, .val (.long (q4 - q6)), .second, .unset, .unset, .unset, .unset, .unset, .unset, .unset, .unset, .unset, .unset, .unset, .unset, .unset] [])) (fun _ k => XS.lstore X0.here hx rfl (hb hby at_12) rfl (l' := #[.val (.long q1), .second, .val (.long q2), .second, .val (.long q3), .second, .val (.long q4), .second, .val (.long q5), .second, .val (.long q6), .second, .val (.long (q3 ^^^ q5)), .second, .val (.long (q4 - q6)), .second, .unset, .unset, .unset, .unset, .unset, .unset, .unset, .unset, .unset, .unset, .unset, .unset, .unset]) rfl k) ?_
  obtain ⟨T94, h94, X94, e94, E94, A94, D94, -, st94⟩ := newO X0 hx hZ hown (wi hw 0 rfl) (wi hw 1 rfl) (wi hw 2 rfl) e0 (g := (mkF m 14 #[.val (.long q1), .second, .val (.long q2), .second, .val (.long q3), .second, .val (.long q4), .second, .val (.long q5), .second, .val (.long q6), .second, .val (.long (q3 ^^^ q5)), .second, .val (.long (q4 - q6)), .second, .unset, .unset, .unset, .unset, .unset, .unset, .unset, .unset, .unset, .unset, .unset, .unset, .unset] [])) rfl (hb hby at_14) (by decide) (by decide)
  obtain ⟨b94, g94⟩ : ∃ z, z = h0.size := ⟨_, rfl⟩
  rw [← g94] at A94 D94 st94
  have n0b94 : n0 ≤ b94 := Nat.le_trans Z0 (Nat.le_of_eq g94.symm)
  have z95 := Nat.le_trans Z0 E94.1
  have F94_writes : Fld Z h94 b94 "com/example/stripeguard/stripeguard/cli/Tally" "writes" "J" (.long (0 : Int64)) := D94 (Or.inl (wi hw 10 rfl)) (ty := .long) (by decide)
  have F94_reads : Fld Z h94 b94 "com/example/stripeguard/stripeguard/cli/Tally" "reads" "J" (.long (0 : Int64)) := D94 (Or.inl (wi hw 12 rfl)) (ty := .long) (by decide)
  have F94_wrong : Fld Z h94 b94 "com/example/stripeguard/stripeguard/cli/Tally" "wrong" "J" (.long (0 : Int64)) := D94 (Or.inl (wi hw 14 rfl)) (ty := .long) (by decide)
  have F94_misses : Fld Z h94 b94 "com/example/stripeguard/stripeguard/cli/Tally" "misses" "J" (.long (0 : Int64)) := D94 (Or.inl (wi hw 16 rfl)) (ty := .long) (by decide)
  refine Rch.go (U' := T94.setTop (mkF m 17 #[.val (.long q1), .second, .val (.long q2), .second, .val (.long q3), .second, .val (.long q4), .second, .val (.long q5), .second, .val (.long q6), .second, .val (.long (q3 ^^^ q5)), .second, .val (.long (q4 - q6)), .second, .unset, .unset, .unset, .unset, .unset, .unset, .unset, .unset, .unset, .unset, .unset, .unset, .unset] [(.ref b94)])) st94 ?_
  refine Rch.go (U' := T94.setTop (mkF m 18 #[.val (.long q1), .second, .val (.long q2), .second, .val (.long q3), .second, .val (.long q4), .second, .val (.long q5), .second, .val (.long q6), .second, .val (.long (q3 ^^^ q5)), .second, .val (.long (q4 - q6)), .second, .unset, .unset, .unset, .unset, .unset, .unset, .unset, .unset, .unset, .unset, .unset, .unset, .unset] [(.ref b94), (.ref b94)])) (fun _ k => XS.dup X94.here hx rfl (hb hby at_17) rfl rfl k) ?_
  obtain ⟨_, _, ⟨T96, L96, k96, n96⟩, -, X96, ⟨Lc96, hQ96, l96, y96, z96⟩, st96⟩ := X94.specialBack hx (y := (⟨"com/example/stripeguard/stripeguard/cli/Tally", "<init>", "()V"⟩ : MethodName)) rfl hown (mvT hZ (wi hw 3 rfl)) (mvT hZ (wi hw 4 rfl)) (mvT hZ (wi hw 5 rfl)) (by decide) (backOf (W := 1) (rmNew l Z a0 hw [] b94 (0 : Int64) (0 : Int64) (0 : Int64) (0 : Int64) h94 n0 z95 A94 F94_writes F94_reads F94_wrong F94_misses) hZ (wi hw 5 rfl) (wi hw 2 rfl) (by decide) (by decide)) (g := (mkF m 18 #[.val (.long q1), .second, .val (.long q2), .second, .val (.long q3), .second, .val (.long q4), .second, .val (.long q5), .second, .val (.long q6), .second, .val (.long (q3 ^^^ q5)), .second, .val (.long (q4 - q6)), .second, .unset, .unset, .unset, .unset, .unset, .unset, .unset, .unset, .unset, .unset, .unset, .unset, .unset] [(.ref b94), (.ref b94)])) rfl (by rw [hml]; rfl) (Steps.refl _) (a := b94) (argsL := []) (rest := [(.ref b94)]) (lenOf pd_1 rfl) rfl (by show 2 * 0 + _ ≤ _; exact Nat.le_of_eq rfl) (hb hby at_18) (fun _ _ => ⟨rfl, e94, (by decide : 1 + 0 ≤ _), (by decide : 4 + 0 ≤ _)⟩)
  dsimp only [Pt.U, Pt.locs, Pt.cells, Pt.slots] at X96 l96 y96 z96 st96 hQ96
  subst l96 y96 z96
  obtain ⟨rfl, N96q, e96⟩ := hQ96
  have N96 := Fr.app N0 N96q
  refine Rch.to (U' := T96.setTop (mkF m 21 #[.val (.long q1), .second, .val (.long q2), .second, .val (.long q3), .second, .val (.long q4), .second, .val (.long q5), .second, .val (.long q6), .second, .val (.long (q3 ^^^ q5)), .second, .val (.long (q4 - q6)), .second, .unset, .unset, .unset, .unset, .unset, .unset, .unset, .unset, .unset, .unset, .unset, .unset, .unset] [(.ref b94)])) st96 ?_
  refine Rch.go (U' := T96.setTop (mkF m 23 #[.val (.long q1), .second, .val (.long q2), .second, .val (.long q3), .second, .val (.long q4), .second, .val (.long q5), .second, .val (.long q6), .second, .val (.long (q3 ^^^ q5)), .second, .val (.long (q4 - q6)), .second, .val (.ref b94), .unset, .unset, .unset, .unset, .unset, .unset, .unset, .unset, .unset, .unset, .unset, .unset] [])) (fun _ k => XS.astore X96.here hx rfl (hb hby at_21) rfl rfl (l' := #[.val (.long q1), .second, .val (.long q2), .second, .val (.long q3), .second, .val (.long q4), .second, .val (.long q5), .second, .val (.long q6), .second, .val (.long (q3 ^^^ q5)), .second, .val (.long (q4 - q6)), .second, .val (.ref b94), .unset, .unset, .unset, .unset, .unset, .unset, .unset, .unset, .unset, .unset, .unset, .unset]) rfl k) ?_
  refine Rch.go (U' := T96.setTop (mkF m 25 #[.val (.long q1), .second, .val (.long q2), .second, .val (.long q3), .second, .val (.long q4), .second, .val (.long q5), .second, .val (.long q6), .second, .val (.long (q3 ^^^ q5)), .second, .val (.long (q4 - q6)), .second, .val (.ref b94), .unset, .unset, .unset, .unset, .unset, .unset, .unset, .unset, .unset, .unset, .unset, .unset] [(.ref b94)])) (fun _ k => XS.aload X96.here hx rfl (hb hby at_23) rfl rfl k) ?_
  refine Rch.go (U' := T96.setTop (mkF m 26 #[.val (.long q1), .second, .val (.long q2), .second, .val (.long q3), .second, .val (.long q4), .second, .val (.long q5), .second, .val (.long q6), .second, .val (.long (q3 ^^^ q5)), .second, .val (.long (q4 - q6)), .second, .val (.ref b94), .unset, .unset, .unset, .unset, .unset, .unset, .unset, .unset, .unset, .unset, .unset, .unset] [(.long q1), (.ref b94)])) (fun _ k => XS.lloadN X96.here hx rfl (hb hby at_25) rfl  k) ?_
  obtain ⟨T97, h97, X97, e97, W97, st97⟩ := putF X96 hx hZ hown (host := "") (Or.inl (wi hw 9 rfl)) Via.refl e96 F94_writes A94 (Or.inl (wi hw 10 rfl)) (wi hw 1 rfl) (ty := .long) (by decide) rfl rfl (g := (mkF m 26 #[.val (.long q1), .second, .val (.long q2), .second, .val (.long q3), .second, .val (.long q4), .second, .val (.long q5), .second, .val (.long q6), .second, .val (.long (q3 ^^^ q5)), .second, .val (.long (q4 - q6)), .second, .val (.ref b94), .unset, .unset, .unset, .unset, .unset, .unset, .unset, .unset, .unset, .unset, .unset, .unset] [(.long q1), (.ref b94)])) rfl rfl (hb hby at_26)
  have F97 := F94_writes.same W97
  have f98 := A94.wr W97
  have f99 := F94_reads.other W97 (Or.inr (slot_ne (Or.inl (wi hw 12 rfl)) (Or.inl (wi hw 10 rfl)) (by decide) (t := .long) (t' := .long) (by decide) (by decide)))
  have f100 := F94_wrong.other W97 (Or.inr (slot_ne (Or.inl (wi hw 14 rfl)) (Or.inl (wi hw 10 rfl)) (by decide) (t := .long) (t' := .long) (by decide) (by decide)))
  have f101 := F94_misses.other W97 (Or.inr (slot_ne (Or.inl (wi hw 16 rfl)) (Or.inl (wi hw 10 rfl)) (by decide) (t := .long) (t' := .long) (by decide) (by decide)))
  have N97 := Fr.snoc X97 N96 n0b94
  have z102 := Nat.le_trans z95 (Keep.of_wr W97).1
  refine Rch.go (U' := T97.setTop (mkF m 29 #[.val (.long q1), .second, .val (.long q2), .second, .val (.long q3), .second, .val (.long q4), .second, .val (.long q5), .second, .val (.long q6), .second, .val (.long (q3 ^^^ q5)), .second, .val (.long (q4 - q6)), .second, .val (.ref b94), .unset, .unset, .unset, .unset, .unset, .unset, .unset, .unset, .unset, .unset, .unset, .unset] [])) st97 ?_
  refine Rch.go (U' := T97.setTop (mkF m 31 #[.val (.long q1), .second, .val (.long q2), .second, .val (.long q3), .second, .val (.long q4), .second, .val (.long q5), .second, .val (.long q6), .second, .val (.long (q3 ^^^ q5)), .second, .val (.long (q4 - q6)), .second, .val (.ref b94), .unset, .unset, .unset, .unset, .unset, .unset, .unset, .unset, .unset, .unset, .unset, .unset] [(.ref b94)])) (fun _ k => XS.aload X97.here hx rfl (hb hby at_29) rfl rfl k) ?_
  refine Rch.go (U' := T97.setTop (mkF m 32 #[.val (.long q1), .second, .val (.long q2), .second, .val (.long q3), .second, .val (.long q4), .second, .val (.long q5), .second, .val (.long q6), .second, .val (.long (q3 ^^^ q5)), .second, .val (.long (q4 - q6)), .second, .val (.ref b94), .unset, .unset, .unset, .unset, .unset, .unset, .unset, .unset, .unset, .unset, .unset, .unset] [(.long q2), (.ref b94)])) (fun _ k => XS.lloadN X97.here hx rfl (hb hby at_31) rfl  k) ?_
  obtain ⟨T103, h103, X103, e103, W103, st103⟩ := putF X97 hx hZ hown (host := "") (Or.inl (wi hw 11 rfl)) Via.refl e97 f99 f98 (Or.inl (wi hw 12 rfl)) (wi hw 1 rfl) (ty := .long) (by decide) rfl rfl (g := (mkF m 32 #[.val (.long q1), .second, .val (.long q2), .second, .val (.long q3), .second, .val (.long q4), .second, .val (.long q5), .second, .val (.long q6), .second, .val (.long (q3 ^^^ q5)), .second, .val (.long (q4 - q6)), .second, .val (.ref b94), .unset, .unset, .unset, .unset, .unset, .unset, .unset, .unset, .unset, .unset, .unset, .unset] [(.long q2), (.ref b94)])) rfl rfl (hb hby at_32)
  have F103 := f99.same W103
  have f104 := f98.wr W103
  have f105 := F97.other W103 (Or.inr (slot_ne (Or.inl (wi hw 10 rfl)) (Or.inl (wi hw 12 rfl)) (by decide) (t := .long) (t' := .long) (by decide) (by decide)))
  have f106 := f100.other W103 (Or.inr (slot_ne (Or.inl (wi hw 14 rfl)) (Or.inl (wi hw 12 rfl)) (by decide) (t := .long) (t' := .long) (by decide) (by decide)))
  have f107 := f101.other W103 (Or.inr (slot_ne (Or.inl (wi hw 16 rfl)) (Or.inl (wi hw 12 rfl)) (by decide) (t := .long) (t' := .long) (by decide) (by decide)))
  have N103 := Fr.snoc X103 N97 n0b94
  have z108 := Nat.le_trans z102 (Keep.of_wr W103).1
  refine Rch.go (U' := T103.setTop (mkF m 35 #[.val (.long q1), .second, .val (.long q2), .second, .val (.long q3), .second, .val (.long q4), .second, .val (.long q5), .second, .val (.long q6), .second, .val (.long (q3 ^^^ q5)), .second, .val (.long (q4 - q6)), .second, .val (.ref b94), .unset, .unset, .unset, .unset, .unset, .unset, .unset, .unset, .unset, .unset, .unset, .unset] [])) st103 ?_
  refine Rch.go (U' := T103.setTop (mkF m 37 #[.val (.long q1), .second, .val (.long q2), .second, .val (.long q3), .second, .val (.long q4), .second, .val (.long q5), .second, .val (.long q6), .second, .val (.long (q3 ^^^ q5)), .second, .val (.long (q4 - q6)), .second, .val (.ref b94), .unset, .unset, .unset, .unset, .unset, .unset, .unset, .unset, .unset, .unset, .unset, .unset] [(.ref b94)])) (fun _ k => XS.aload X103.here hx rfl (hb hby at_35) rfl rfl k) ?_
  refine Rch.go (U' := T103.setTop (mkF m 39 #[.val (.long q1), .second, .val (.long q2), .second, .val (.long q3), .second, .val (.long q4), .second, .val (.long q5), .second, .val (.long q6), .second, .val (.long (q3 ^^^ q5)), .second, .val (.long (q4 - q6)), .second, .val (.ref b94), .unset, .unset, .unset, .unset, .unset, .unset, .unset, .unset, .unset, .unset, .unset, .unset] [(.long q3), (.ref b94)])) (fun _ k => XS.lload X103.here hx rfl (hb hby at_37) rfl  k) ?_
  obtain ⟨T109, h109, X109, e109, W109, st109⟩ := putF X103 hx hZ hown (host := "") (Or.inl (wi hw 13 rfl)) Via.refl e103 f106 f104 (Or.inl (wi hw 14 rfl)) (wi hw 1 rfl) (ty := .long) (by decide) rfl rfl (g := (mkF m 39 #[.val (.long q1), .second, .val (.long q2), .second, .val (.long q3), .second, .val (.long q4), .second, .val (.long q5), .second, .val (.long q6), .second, .val (.long (q3 ^^^ q5)), .second, .val (.long (q4 - q6)), .second, .val (.ref b94), .unset, .unset, .unset, .unset, .unset, .unset, .unset, .unset, .unset, .unset, .unset, .unset] [(.long q3), (.ref b94)])) rfl rfl (hb hby at_39)
  have F109 := f106.same W109
  have f110 := f104.wr W109
  have f111 := f105.other W109 (Or.inr (slot_ne (Or.inl (wi hw 10 rfl)) (Or.inl (wi hw 14 rfl)) (by decide) (t := .long) (t' := .long) (by decide) (by decide)))
  have f112 := F103.other W109 (Or.inr (slot_ne (Or.inl (wi hw 12 rfl)) (Or.inl (wi hw 14 rfl)) (by decide) (t := .long) (t' := .long) (by decide) (by decide)))
  have f113 := f107.other W109 (Or.inr (slot_ne (Or.inl (wi hw 16 rfl)) (Or.inl (wi hw 14 rfl)) (by decide) (t := .long) (t' := .long) (by decide) (by decide)))
  have N109 := Fr.snoc X109 N103 n0b94
  have z114 := Nat.le_trans z108 (Keep.of_wr W109).1
  refine Rch.go (U' := T109.setTop (mkF m 42 #[.val (.long q1), .second, .val (.long q2), .second, .val (.long q3), .second, .val (.long q4), .second, .val (.long q5), .second, .val (.long q6), .second, .val (.long (q3 ^^^ q5)), .second, .val (.long (q4 - q6)), .second, .val (.ref b94), .unset, .unset, .unset, .unset, .unset, .unset, .unset, .unset, .unset, .unset, .unset, .unset] [])) st109 ?_
  refine Rch.go (U' := T109.setTop (mkF m 44 #[.val (.long q1), .second, .val (.long q2), .second, .val (.long q3), .second, .val (.long q4), .second, .val (.long q5), .second, .val (.long q6), .second, .val (.long (q3 ^^^ q5)), .second, .val (.long (q4 - q6)), .second, .val (.ref b94), .unset, .unset, .unset, .unset, .unset, .unset, .unset, .unset, .unset, .unset, .unset, .unset] [(.ref b94)])) (fun _ k => XS.aload X109.here hx rfl (hb hby at_42) rfl rfl k) ?_
  refine Rch.go (U' := T109.setTop (mkF m 46 #[.val (.long q1), .second, .val (.long q2), .second, .val (.long q3), .second, .val (.long q4), .second, .val (.long q5), .second, .val (.long q6), .second, .val (.long (q3 ^^^ q5)), .second, .val (.long (q4 - q6)), .second, .val (.ref b94), .unset, .unset, .unset, .unset, .unset, .unset, .unset, .unset, .unset, .unset, .unset, .unset] [(.long q4), (.ref b94)])) (fun _ k => XS.lload X109.here hx rfl (hb hby at_44) rfl  k) ?_
  obtain ⟨T115, h115, X115, e115, W115, st115⟩ := putF X109 hx hZ hown (host := "") (Or.inl (wi hw 15 rfl)) Via.refl e109 f113 f110 (Or.inl (wi hw 16 rfl)) (wi hw 1 rfl) (ty := .long) (by decide) rfl rfl (g := (mkF m 46 #[.val (.long q1), .second, .val (.long q2), .second, .val (.long q3), .second, .val (.long q4), .second, .val (.long q5), .second, .val (.long q6), .second, .val (.long (q3 ^^^ q5)), .second, .val (.long (q4 - q6)), .second, .val (.ref b94), .unset, .unset, .unset, .unset, .unset, .unset, .unset, .unset, .unset, .unset, .unset, .unset] [(.long q4), (.ref b94)])) rfl rfl (hb hby at_46)
  have F115 := f113.same W115
  have f116 := f110.wr W115
  have f117 := f111.other W115 (Or.inr (slot_ne (Or.inl (wi hw 10 rfl)) (Or.inl (wi hw 16 rfl)) (by decide) (t := .long) (t' := .long) (by decide) (by decide)))
  have f118 := f112.other W115 (Or.inr (slot_ne (Or.inl (wi hw 12 rfl)) (Or.inl (wi hw 16 rfl)) (by decide) (t := .long) (t' := .long) (by decide) (by decide)))
  have f119 := F109.other W115 (Or.inr (slot_ne (Or.inl (wi hw 14 rfl)) (Or.inl (wi hw 16 rfl)) (by decide) (t := .long) (t' := .long) (by decide) (by decide)))
  have N115 := Fr.snoc X115 N109 n0b94
  have z120 := Nat.le_trans z114 (Keep.of_wr W115).1
  refine Rch.go (U' := T115.setTop (mkF m 49 #[.val (.long q1), .second, .val (.long q2), .second, .val (.long q3), .second, .val (.long q4), .second, .val (.long q5), .second, .val (.long q6), .second, .val (.long (q3 ^^^ q5)), .second, .val (.long (q4 - q6)), .second, .val (.ref b94), .unset, .unset, .unset, .unset, .unset, .unset, .unset, .unset, .unset, .unset, .unset, .unset] [])) st115 ?_
  obtain ⟨T121, h121, X121, e121, E121, A121, D121, -, st121⟩ := newO X115 hx hZ hown (wi hw 0 rfl) (wi hw 1 rfl) (wi hw 2 rfl) e115 (g := (mkF m 49 #[.val (.long q1), .second, .val (.long q2), .second, .val (.long q3), .second, .val (.long q4), .second, .val (.long q5), .second, .val (.long q6), .second, .val (.long (q3 ^^^ q5)), .second, .val (.long (q4 - q6)), .second, .val (.ref b94), .unset, .unset, .unset, .unset, .unset, .unset, .unset, .unset, .unset, .unset, .unset, .unset] [])) rfl (hb hby at_49) (by decide) (by decide)
  obtain ⟨b121, g121⟩ : ∃ z, z = h115.size := ⟨_, rfl⟩
  rw [← g121] at A121 D121 st121
  have ne122 : b94 ≠ b121 := Nat.ne_of_lt (Nat.lt_of_lt_of_le f116.lt (Nat.le_of_eq g121.symm))
  have n0b121 : n0 ≤ b121 := Nat.le_trans z120 (Nat.le_of_eq g121.symm)
  have f123 := f116.ext E121
  have f124 := f117.ext E121
  have f125 := f118.ext E121
  have f126 := f119.ext E121
  have f127 := F115.ext E121
  have z128 := Nat.le_trans z120 E121.1
  have F121_writes : Fld Z h121 b121 "com/example/stripeguard/stripeguard/cli/Tally" "writes" "J" (.long (0 : Int64)) := D121 (Or.inl (wi hw 10 rfl)) (ty := .long) (by decide)
  have F121_reads : Fld Z h121 b121 "com/example/stripeguard/stripeguard/cli/Tally" "reads" "J" (.long (0 : Int64)) := D121 (Or.inl (wi hw 12 rfl)) (ty := .long) (by decide)
  have F121_wrong : Fld Z h121 b121 "com/example/stripeguard/stripeguard/cli/Tally" "wrong" "J" (.long (0 : Int64)) := D121 (Or.inl (wi hw 14 rfl)) (ty := .long) (by decide)
  have F121_misses : Fld Z h121 b121 "com/example/stripeguard/stripeguard/cli/Tally" "misses" "J" (.long (0 : Int64)) := D121 (Or.inl (wi hw 16 rfl)) (ty := .long) (by decide)
  refine Rch.go (U' := T121.setTop (mkF m 52 #[.val (.long q1), .second, .val (.long q2), .second, .val (.long q3), .second, .val (.long q4), .second, .val (.long q5), .second, .val (.long q6), .second, .val (.long (q3 ^^^ q5)), .second, .val (.long (q4 - q6)), .second, .val (.ref b94), .unset, .unset, .unset, .unset, .unset, .unset, .unset, .unset, .unset, .unset, .unset, .unset] [(.ref b121)])) st121 ?_
  refine Rch.go (U' := T121.setTop (mkF m 53 #[.val (.long q1), .second, .val (.long q2), .second, .val (.long q3), .second, .val (.long q4), .second, .val (.long q5), .second, .val (.long q6), .second, .val (.long (q3 ^^^ q5)), .second, .val (.long (q4 - q6)), .second, .val (.ref b94), .unset, .unset, .unset, .unset, .unset, .unset, .unset, .unset, .unset, .unset, .unset, .unset] [(.ref b121), (.ref b121)])) (fun _ k => XS.dup X121.here hx rfl (hb hby at_52) rfl rfl k) ?_
  obtain ⟨_, _, ⟨T129, L129, k129, n129⟩, -, X129, ⟨Lc129, hQ129, l129, y129, z129⟩, st129⟩ := X121.specialBack hx (y := (⟨"com/example/stripeguard/stripeguard/cli/Tally", "<init>", "()V"⟩ : MethodName)) rfl hown (mvT hZ (wi hw 3 rfl)) (mvT hZ (wi hw 4 rfl)) (mvT hZ (wi hw 5 rfl)) (by decide) (backOf (W := 1) (rmNew l Z a0 hw [] b121 (0 : Int64) (0 : Int64) (0 : Int64) (0 : Int64) h121 n0 z128 A121 F121_writes F121_reads F121_wrong F121_misses) hZ (wi hw 5 rfl) (wi hw 2 rfl) (by decide) (by decide)) (g := (mkF m 53 #[.val (.long q1), .second, .val (.long q2), .second, .val (.long q3), .second, .val (.long q4), .second, .val (.long q5), .second, .val (.long q6), .second, .val (.long (q3 ^^^ q5)), .second, .val (.long (q4 - q6)), .second, .val (.ref b94), .unset, .unset, .unset, .unset, .unset, .unset, .unset, .unset, .unset, .unset, .unset, .unset] [(.ref b121), (.ref b121)])) rfl (by rw [hml]; rfl) (Steps.refl _) (a := b121) (argsL := []) (rest := [(.ref b121)]) (lenOf pd_1 rfl) rfl (by show 2 * 0 + _ ≤ _; exact Nat.le_of_eq rfl) (hb hby at_53) (fun _ _ => ⟨rfl, e121, (by decide : 2 + 0 ≤ _), (by decide : 8 + 0 ≤ _)⟩)
  dsimp only [Pt.U, Pt.locs, Pt.cells, Pt.slots] at X129 l129 y129 z129 st129 hQ129
  subst l129 y129 z129
  obtain ⟨rfl, N129q, e129⟩ := hQ129
  have N129 := Fr.app N115 N129q
  refine Rch.to (U' := T129.setTop (mkF m 56 #[.val (.long q1), .second, .val (.long q2), .second, .val (.long q3), .second, .val (.long q4), .second, .val (.long q5), .second, .val (.long q6), .second, .val (.long (q3 ^^^ q5)), .second, .val (.long (q4 - q6)), .second, .val (.ref b94), .unset, .unset, .unset, .unset, .unset, .unset, .unset, .unset, .unset, .unset, .unset, .unset] [(.ref b121)])) st129 ?_
  refine Rch.go (U' := T129.setTop (mkF m 58 #[.val (.long q1), .second, .val (.long q2), .second, .val (.long q3), .second, .val (.long q4), .second, .val (.long q5), .second, .val (.long q6), .second, .val (.long (q3 ^^^ q5)), .second, .val (.long (q4 - q6)), .second, .val (.ref b94), .val (.ref b121), .unset, .unset, .unset, .unset, .unset, .unset, .unset, .unset, .unset, .unset, .unset] [])) (fun _ k => XS.astore X129.here hx rfl (hb hby at_56) rfl rfl (l' := #[.val (.long q1), .second, .val (.long q2), .second, .val (.long q3), .second, .val (.long q4), .second, .val (.long q5), .second, .val (.long q6), .second, .val (.long (q3 ^^^ q5)), .second, .val (.long (q4 - q6)), .second, .val (.ref b94), .val (.ref b121), .unset, .unset, .unset, .unset, .unset, .unset, .unset, .unset, .unset, .unset, .unset]) rfl k) ?_
  refine Rch.go (U' := T129.setTop (mkF m 60 #[.val (.long q1), .second, .val (.long q2), .second, .val (.long q3), .second, .val (.long q4), .second, .val (.long q5), .second, .val (.long q6), .second, .val (.long (q3 ^^^ q5)), .second, .val (.long (q4 - q6)), .second, .val (.ref b94), .val (.ref b121), .unset, .unset, .unset, .unset, .unset, .unset, .unset, .unset, .unset, .unset, .unset] [(.ref b121)])) (fun _ k => XS.aload X129.here hx rfl (hb hby at_58) rfl rfl k) ?_
  refine Rch.go (U' := T129.setTop (mkF m 62 #[.val (.long q1), .second, .val (.long q2), .second, .val (.long q3), .second, .val (.long q4), .second, .val (.long q5), .second, .val (.long q6), .second, .val (.long (q3 ^^^ q5)), .second, .val (.long (q4 - q6)), .second, .val (.ref b94), .val (.ref b121), .unset, .unset, .unset, .unset, .unset, .unset, .unset, .unset, .unset, .unset, .unset] [(.long q5), (.ref b121)])) (fun _ k => XS.lload X129.here hx rfl (hb hby at_60) rfl  k) ?_
  obtain ⟨T130, h130, X130, e130, W130, st130⟩ := putF X129 hx hZ hown (host := "") (Or.inl (wi hw 9 rfl)) Via.refl e129 F121_writes A121 (Or.inl (wi hw 10 rfl)) (wi hw 1 rfl) (ty := .long) (by decide) rfl rfl (g := (mkF m 62 #[.val (.long q1), .second, .val (.long q2), .second, .val (.long q3), .second, .val (.long q4), .second, .val (.long q5), .second, .val (.long q6), .second, .val (.long (q3 ^^^ q5)), .second, .val (.long (q4 - q6)), .second, .val (.ref b94), .val (.ref b121), .unset, .unset, .unset, .unset, .unset, .unset, .unset, .unset, .unset, .unset, .unset] [(.long q5), (.ref b121)])) rfl rfl (hb hby at_62)
  have F130 := F121_writes.same W130
  have f131 := f123.wr W130
  have f132 := f124.other W130 (Or.inl ne122)
  have f133 := f125.other W130 (Or.inl ne122)
  have f134 := f126.other W130 (Or.inl ne122)
  have f135 := f127.other W130 (Or.inl ne122)
  have f136 := A121.wr W130
  have f137 := F121_reads.other W130 (Or.inr (slot_ne (Or.inl (wi hw 12 rfl)) (Or.inl (wi hw 10 rfl)) (by decide) (t := .long) (t' := .long) (by decide) (by decide)))
  have f138 := F121_wrong.other W130 (Or.inr (slot_ne (Or.inl (wi hw 14 rfl)) (Or.inl (wi hw 10 rfl)) (by decide) (t := .long) (t' := .long) (by decide) (by decide)))
  have f139 := F121_misses.other W130 (Or.inr (slot_ne (Or.inl (wi hw 16 rfl)) (Or.inl (wi hw 10 rfl)) (by decide) (t := .long) (t' := .long) (by decide) (by decide)))
  have N130 := Fr.snoc X130 N129 n0b121
  have z140 := Nat.le_trans z128 (Keep.of_wr W130).1
  refine Rch.go (U' := T130.setTop (mkF m 65 #[.val (.long q1), .second, .val (.long q2), .second, .val (.long q3), .second, .val (.long q4), .second, .val (.long q5), .second, .val (.long q6), .second, .val (.long (q3 ^^^ q5)), .second, .val (.long (q4 - q6)), .second, .val (.ref b94), .val (.ref b121), .unset, .unset, .unset, .unset, .unset, .unset, .unset, .unset, .unset, .unset, .unset] [])) st130 ?_
  refine Rch.go (U' := T130.setTop (mkF m 67 #[.val (.long q1), .second, .val (.long q2), .second, .val (.long q3), .second, .val (.long q4), .second, .val (.long q5), .second, .val (.long q6), .second, .val (.long (q3 ^^^ q5)), .second, .val (.long (q4 - q6)), .second, .val (.ref b94), .val (.ref b121), .unset, .unset, .unset, .unset, .unset, .unset, .unset, .unset, .unset, .unset, .unset] [(.ref b121)])) (fun _ k => XS.aload X130.here hx rfl (hb hby at_65) rfl rfl k) ?_
  refine Rch.go (U' := T130.setTop (mkF m 69 #[.val (.long q1), .second, .val (.long q2), .second, .val (.long q3), .second, .val (.long q4), .second, .val (.long q5), .second, .val (.long q6), .second, .val (.long (q3 ^^^ q5)), .second, .val (.long (q4 - q6)), .second, .val (.ref b94), .val (.ref b121), .unset, .unset, .unset, .unset, .unset, .unset, .unset, .unset, .unset, .unset, .unset] [(.long q6), (.ref b121)])) (fun _ k => XS.lload X130.here hx rfl (hb hby at_67) rfl  k) ?_
  obtain ⟨T141, h141, X141, e141, W141, st141⟩ := putF X130 hx hZ hown (host := "") (Or.inl (wi hw 11 rfl)) Via.refl e130 f137 f136 (Or.inl (wi hw 12 rfl)) (wi hw 1 rfl) (ty := .long) (by decide) rfl rfl (g := (mkF m 69 #[.val (.long q1), .second, .val (.long q2), .second, .val (.long q3), .second, .val (.long q4), .second, .val (.long q5), .second, .val (.long q6), .second, .val (.long (q3 ^^^ q5)), .second, .val (.long (q4 - q6)), .second, .val (.ref b94), .val (.ref b121), .unset, .unset, .unset, .unset, .unset, .unset, .unset, .unset, .unset, .unset, .unset] [(.long q6), (.ref b121)])) rfl rfl (hb hby at_69)
  have F141 := f137.same W141
  have f142 := f131.wr W141
  have f143 := f132.other W141 (Or.inl ne122)
  have f144 := f133.other W141 (Or.inl ne122)
  have f145 := f134.other W141 (Or.inl ne122)
  have f146 := f135.other W141 (Or.inl ne122)
  have f147 := f136.wr W141
  have f148 := F130.other W141 (Or.inr (slot_ne (Or.inl (wi hw 10 rfl)) (Or.inl (wi hw 12 rfl)) (by decide) (t := .long) (t' := .long) (by decide) (by decide)))
  have f149 := f138.other W141 (Or.inr (slot_ne (Or.inl (wi hw 14 rfl)) (Or.inl (wi hw 12 rfl)) (by decide) (t := .long) (t' := .long) (by decide) (by decide)))
  have f150 := f139.other W141 (Or.inr (slot_ne (Or.inl (wi hw 16 rfl)) (Or.inl (wi hw 12 rfl)) (by decide) (t := .long) (t' := .long) (by decide) (by decide)))
  have N141 := Fr.snoc X141 N130 n0b121
  have z151 := Nat.le_trans z140 (Keep.of_wr W141).1
  refine Rch.go (U' := T141.setTop (mkF m 72 #[.val (.long q1), .second, .val (.long q2), .second, .val (.long q3), .second, .val (.long q4), .second, .val (.long q5), .second, .val (.long q6), .second, .val (.long (q3 ^^^ q5)), .second, .val (.long (q4 - q6)), .second, .val (.ref b94), .val (.ref b121), .unset, .unset, .unset, .unset, .unset, .unset, .unset, .unset, .unset, .unset, .unset] [])) st141 ?_
  refine Rch.go (U' := T141.setTop (mkF m 74 #[.val (.long q1), .second, .val (.long q2), .second, .val (.long q3), .second, .val (.long q4), .second, .val (.long q5), .second, .val (.long q6), .second, .val (.long (q3 ^^^ q5)), .second, .val (.long (q4 - q6)), .second, .val (.ref b94), .val (.ref b121), .unset, .unset, .unset, .unset, .unset, .unset, .unset, .unset, .unset, .unset, .unset] [(.ref b121)])) (fun _ k => XS.aload X141.here hx rfl (hb hby at_72) rfl rfl k) ?_
  refine Rch.go (U' := T141.setTop (mkF m 76 #[.val (.long q1), .second, .val (.long q2), .second, .val (.long q3), .second, .val (.long q4), .second, .val (.long q5), .second, .val (.long q6), .second, .val (.long (q3 ^^^ q5)), .second, .val (.long (q4 - q6)), .second, .val (.ref b94), .val (.ref b121), .unset, .unset, .unset, .unset, .unset, .unset, .unset, .unset, .unset, .unset, .unset] [(.long (q3 ^^^ q5)), (.ref b121)])) (fun _ k => XS.lload X141.here hx rfl (hb hby at_74) rfl  k) ?_
  obtain ⟨T152, h152, X152, e152, W152, st152⟩ := putF X141 hx hZ hown (host := "") (Or.inl (wi hw 13 rfl)) Via.refl e141 f149 f147 (Or.inl (wi hw 14 rfl)) (wi hw 1 rfl) (ty := .long) (by decide) rfl rfl (g := (mkF m 76 #[.val (.long q1), .second, .val (.long q2), .second, .val (.long q3), .second, .val (.long q4), .second, .val (.long q5), .second, .val (.long q6), .second, .val (.long (q3 ^^^ q5)), .second, .val (.long (q4 - q6)), .second, .val (.ref b94), .val (.ref b121), .unset, .unset, .unset, .unset, .unset, .unset, .unset, .unset, .unset, .unset, .unset] [(.long (q3 ^^^ q5)), (.ref b121)])) rfl rfl (hb hby at_76)
  have F152 := f149.same W152
  have f153 := f142.wr W152
  have f154 := f143.other W152 (Or.inl ne122)
  have f155 := f144.other W152 (Or.inl ne122)
  have f156 := f145.other W152 (Or.inl ne122)
  have f157 := f146.other W152 (Or.inl ne122)
  have f158 := f147.wr W152
  have f159 := f148.other W152 (Or.inr (slot_ne (Or.inl (wi hw 10 rfl)) (Or.inl (wi hw 14 rfl)) (by decide) (t := .long) (t' := .long) (by decide) (by decide)))
  have f160 := F141.other W152 (Or.inr (slot_ne (Or.inl (wi hw 12 rfl)) (Or.inl (wi hw 14 rfl)) (by decide) (t := .long) (t' := .long) (by decide) (by decide)))
  have f161 := f150.other W152 (Or.inr (slot_ne (Or.inl (wi hw 16 rfl)) (Or.inl (wi hw 14 rfl)) (by decide) (t := .long) (t' := .long) (by decide) (by decide)))
  have N152 := Fr.snoc X152 N141 n0b121
  have z162 := Nat.le_trans z151 (Keep.of_wr W152).1
  refine Rch.go (U' := T152.setTop (mkF m 79 #[.val (.long q1), .second, .val (.long q2), .second, .val (.long q3), .second, .val (.long q4), .second, .val (.long q5), .second, .val (.long q6), .second, .val (.long (q3 ^^^ q5)), .second, .val (.long (q4 - q6)), .second, .val (.ref b94), .val (.ref b121), .unset, .unset, .unset, .unset, .unset, .unset, .unset, .unset, .unset, .unset, .unset] [])) st152 ?_
  refine Rch.go (U' := T152.setTop (mkF m 81 #[.val (.long q1), .second, .val (.long q2), .second, .val (.long q3), .second, .val (.long q4), .second, .val (.long q5), .second, .val (.long q6), .second, .val (.long (q3 ^^^ q5)), .second, .val (.long (q4 - q6)), .second, .val (.ref b94), .val (.ref b121), .unset, .unset, .unset, .unset, .unset, .unset, .unset, .unset, .unset, .unset, .unset] [(.ref b121)])) (fun _ k => XS.aload X152.here hx rfl (hb hby at_79) rfl rfl k) ?_
  refine Rch.go (U' := T152.setTop (mkF m 83 #[.val (.long q1), .second, .val (.long q2), .second, .val (.long q3), .second, .val (.long q4), .second, .val (.long q5), .second, .val (.long q6), .second, .val (.long (q3 ^^^ q5)), .second, .val (.long (q4 - q6)), .second, .val (.ref b94), .val (.ref b121), .unset, .unset, .unset, .unset, .unset, .unset, .unset, .unset, .unset, .unset, .unset] [(.long (q4 - q6)), (.ref b121)])) (fun _ k => XS.lload X152.here hx rfl (hb hby at_81) rfl  k) ?_
  obtain ⟨T163, h163, X163, e163, W163, st163⟩ := putF X152 hx hZ hown (host := "") (Or.inl (wi hw 15 rfl)) Via.refl e152 f161 f158 (Or.inl (wi hw 16 rfl)) (wi hw 1 rfl) (ty := .long) (by decide) rfl rfl (g := (mkF m 83 #[.val (.long q1), .second, .val (.long q2), .second, .val (.long q3), .second, .val (.long q4), .second, .val (.long q5), .second, .val (.long q6), .second, .val (.long (q3 ^^^ q5)), .second, .val (.long (q4 - q6)), .second, .val (.ref b94), .val (.ref b121), .unset, .unset, .unset, .unset, .unset, .unset, .unset, .unset, .unset, .unset, .unset] [(.long (q4 - q6)), (.ref b121)])) rfl rfl (hb hby at_83)
  have F163 := f161.same W163
  have f164 := f153.wr W163
  have f165 := f154.other W163 (Or.inl ne122)
  have f166 := f155.other W163 (Or.inl ne122)
  have f167 := f156.other W163 (Or.inl ne122)
  have f168 := f157.other W163 (Or.inl ne122)
  have f169 := f158.wr W163
  have f170 := f159.other W163 (Or.inr (slot_ne (Or.inl (wi hw 10 rfl)) (Or.inl (wi hw 16 rfl)) (by decide) (t := .long) (t' := .long) (by decide) (by decide)))
  have f171 := f160.other W163 (Or.inr (slot_ne (Or.inl (wi hw 12 rfl)) (Or.inl (wi hw 16 rfl)) (by decide) (t := .long) (t' := .long) (by decide) (by decide)))
  have f172 := F152.other W163 (Or.inr (slot_ne (Or.inl (wi hw 14 rfl)) (Or.inl (wi hw 16 rfl)) (by decide) (t := .long) (t' := .long) (by decide) (by decide)))
  have N163 := Fr.snoc X163 N152 n0b121
  have z173 := Nat.le_trans z162 (Keep.of_wr W163).1
  refine Rch.go (U' := T163.setTop (mkF m 86 #[.val (.long q1), .second, .val (.long q2), .second, .val (.long q3), .second, .val (.long q4), .second, .val (.long q5), .second, .val (.long q6), .second, .val (.long (q3 ^^^ q5)), .second, .val (.long (q4 - q6)), .second, .val (.ref b94), .val (.ref b121), .unset, .unset, .unset, .unset, .unset, .unset, .unset, .unset, .unset, .unset, .unset] [])) st163 ?_
  refine Rch.go (U' := T163.setTop (mkF m 88 #[.val (.long q1), .second, .val (.long q2), .second, .val (.long q3), .second, .val (.long q4), .second, .val (.long q5), .second, .val (.long q6), .second, .val (.long (q3 ^^^ q5)), .second, .val (.long (q4 - q6)), .second, .val (.ref b94), .val (.ref b121), .unset, .unset, .unset, .unset, .unset, .unset, .unset, .unset, .unset, .unset, .unset] [(.ref b94)])) (fun _ k => XS.aload X163.here hx rfl (hb hby at_86) rfl rfl k) ?_
  refine Rch.go (U' := T163.setTop (mkF m 90 #[.val (.long q1), .second, .val (.long q2), .second, .val (.long q3), .second, .val (.long q4), .second, .val (.long q5), .second, .val (.long q6), .second, .val (.long (q3 ^^^ q5)), .second, .val (.long (q4 - q6)), .second, .val (.ref b94), .val (.ref b121), .unset, .unset, .unset, .unset, .unset, .unset, .unset, .unset, .unset, .unset, .unset] [(.ref b121), (.ref b94)])) (fun _ k => XS.aload X163.here hx rfl (hb hby at_88) rfl rfl k) ?_
  obtain ⟨cq174, kq174, q174a, q174b, q174c⟩ := isOf hZ e163 f164
  obtain ⟨_, _, ⟨T174, L174, k174, n174⟩, -, X174, ⟨Lc174, hQ174, l174, y174, z174⟩, st174⟩ := X163.virtualBack hx (y := (⟨"com/example/stripeguard/stripeguard/cli/Tally", "add", "(Lcom/example/stripeguard/stripeguard/cli/Tally;)V"⟩ : MethodName)) (z := (⟨"com/example/stripeguard/stripeguard/cli/Tally", "add", "(Lcom/example/stripeguard/stripeguard/cli/Tally;)V"⟩ : MethodName)) hown (mvT hZ (wi hw 17 rfl)) (mvT hZ (wi hw 18 rfl)) (notFace_of_selects (args := #[]) (mvT hZ (wi hw 20 rfl))) (mvT hZ (wi hw 20 rfl)) (mvT hZ (wi hw 19 rfl)) (by decide) (backOf (W := 0) (rmAdd l Z a0 hw [] b94 b121 q1 q2 q3 q4 q5 q6 (q3 ^^^ q5) (q4 - q6) h163 n0 z173 f164 f165 f166 f167 f168 f169 f170 f171 f172 F163 n0b94 (Ne.symm ne122)) hZ (wi hw 21 rfl) (wi hw 2 rfl) (by decide) (by decide)) q174a q174c (g := (mkF m 90 #[.val (.long q1), .second, .val (.long q2), .second, .val (.long q3), .second, .val (.long q4), .second, .val (.long q5), .second, .val (.long q6), .second, .val (.long (q3 ^^^ q5)), .second, .val (.long (q4 - q6)), .second, .val (.ref b94), .val (.ref b121), .unset, .unset, .unset, .unset, .unset, .unset, .unset, .unset, .unset, .unset, .unset] [(.ref b121), (.ref b94)])) rfl (by rw [hml]; rfl) (Steps.refl _) (argsL := [(.ref b121)]) (rest := []) (lenOf pd_3 rfl) rfl (by show 2 * 0 + _ ≤ _; exact Nat.le_of_eq rfl) (hb hby at_90) (fun _ _ => ⟨rfl, e163, (by decide : 2 + 0 ≤ _), (by decide : 8 + 0 ≤ _)⟩)
  dsimp only [Pt.U, Pt.locs, Pt.cells, Pt.slots] at X174 l174 y174 z174 st174 hQ174
  subst l174 y174 z174
  obtain ⟨rfl, N174q, K174q, F174_writes, F174_reads, F174_wrong, F174_misses⟩ := hQ174
  have N174 := Fr.app N163 N174q
  have z175 := Nat.le_trans z173 K174q.1
  have f176 := f164.keep K174q
  have f177 := f169.keep K174q
  have f178 := f170.keep K174q (ninS (Ne.symm ne122) nin0)
  have f179 := f171.keep K174q (ninS (Ne.symm ne122) nin0)
  have f180 := f172.keep K174q (ninS (Ne.symm ne122) nin0)
  have f181 := F163.keep K174q (ninS (Ne.symm ne122) nin0)
  refine Rch.to (U' := T174.setTop (mkF m 93 #[.val (.long q1), .second, .val (.long q2), .second, .val (.long q3), .second, .val (.long q4), .second, .val (.long q5), .second, .val (.long q6), .second, .val (.long (q3 ^^^ q5)), .second, .val (.long (q4 - q6)), .second, .val (.ref b94), .val (.ref b121), .unset, .unset, .unset, .unset, .unset, .unset, .unset, .unset, .unset, .unset, .unset] [])) st174 ?_
  refine Rch.go (U' := T174.setTop (mkF m 95 #[.val (.long q1), .second, .val (.long q2), .second, .val (.long q3), .second, .val (.long q4), .second, .val (.long q5), .second, .val (.long q6), .second, .val (.long (q3 ^^^ q5)), .second, .val (.long (q4 - q6)), .second, .val (.ref b94), .val (.ref b121), .unset, .unset, .unset, .unset, .unset, .unset, .unset, .unset, .unset, .unset, .unset] [(.ref b94)])) (fun _ k => XS.aload X174.here hx rfl (hb hby at_93) rfl rfl k) ?_
  obtain ⟨T182, X182, e182, st182⟩ := getF X174 hx hZ hown (host := "") (Or.inl (wi hw 9 rfl)) Via.refl rfl F174_writes (g := (mkF m 95 #[.val (.long q1), .second, .val (.long q2), .second, .val (.long q3), .second, .val (.long q4), .second, .val (.long q5), .second, .val (.long q6), .second, .val (.long (q3 ^^^ q5)), .second, .val (.long (q4 - q6)), .second, .val (.ref b94), .val (.ref b121), .unset, .unset, .unset, .unset, .unset, .unset, .unset, .unset, .unset, .unset, .unset] [(.ref b94)])) rfl rfl (hb hby at_95)
  refine Rch.go (U' := T182.setTop (mkF m 98 #[.val (.long q1), .second, .val (.long q2), .second, .val (.long q3), .second, .val (.long q4), .second, .val (.long q5), .second, .val (.long q6), .second, .val (.long (q3 ^^^ q5)), .second, .val (.long (q4 - q6)), .second, .val (.ref b94), .val (.ref b121), .unset, .unset, .unset, .unset, .unset, .unset, .unset, .unset, .unset, .unset, .unset] [(.long (q1 + q5))])) st182 ?_
  refine Rch.go (U' := T182.setTop (mkF m 99 #[.val (.long q1), .second, .val (.long q2), .second, .val (.long q3), .second, .val (.long q4), .second, .val (.long q5), .second, .val (.long q6), .second, .val (.long (q3 ^^^ q5)), .second, .val (.long (q4 - q6)), .second, .val (.ref b94), .val (.ref b121), .unset, .unset, .unset, .unset, .unset, .unset, .unset, .unset, .unset, .unset, .unset] [(.long q1), (.long (q1 + q5))])) (fun _ k => XS.lloadN X182.here hx rfl (hb hby at_98) rfl  k) ?_
  refine Rch.go (U' := T182.setTop (mkF m 101 #[.val (.long q1), .second, .val (.long q2), .second, .val (.long q3), .second, .val (.long q4), .second, .val (.long q5), .second, .val (.long q6), .second, .val (.long (q3 ^^^ q5)), .second, .val (.long (q4 - q6)), .second, .val (.ref b94), .val (.ref b121), .unset, .unset, .unset, .unset, .unset, .unset, .unset, .unset, .unset, .unset, .unset] [(.long q5), (.long q1), (.long (q1 + q5))])) (fun _ k => XS.lload X182.here hx rfl (hb hby at_99) rfl  k) ?_
  refine Rch.go (U' := T182.setTop (mkF m 102 #[.val (.long q1), .second, .val (.long q2), .second, .val (.long q3), .second, .val (.long q4), .second, .val (.long q5), .second, .val (.long q6), .second, .val (.long (q3 ^^^ q5)), .second, .val (.long (q4 - q6)), .second, .val (.ref b94), .val (.ref b121), .unset, .unset, .unset, .unset, .unset, .unset, .unset, .unset, .unset, .unset, .unset] [(.long (q1 + q5)), (.long (q1 + q5))])) (fun _ k => XS.ladd X182.here hx rfl (hb hby at_101) rfl k) ?_
  refine Rch.go (U' := T182.setTop (mkF m 103 #[.val (.long q1), .second, .val (.long q2), .second, .val (.long q3), .second, .val (.long q4), .second, .val (.long q5), .second, .val (.long q6), .second, .val (.long (q3 ^^^ q5)), .second, .val (.long (q4 - q6)), .second, .val (.ref b94), .val (.ref b121), .unset, .unset, .unset, .unset, .unset, .unset, .unset, .unset, .unset, .unset, .unset] [(.int (XT.cmpL (q1 + q5) (q1 + q5)))])) (fun _ k => XT.lcmp X182.here hx rfl (hb hby at_102) rfl k) ?_
  have br183 : (q1 + q5) = (q1 + q5) := rfl
  refine Rch.go (U' := T182.setTop (mkF m 106 #[.val (.long q1), .second, .val (.long q2), .second, .val (.long q3), .second, .val (.long q4), .second, .val (.long q5), .second, .val (.long q6), .second, .val (.long (q3 ^^^ q5)), .second, .val (.long (q4 - q6)), .second, .val (.ref b94), .val (.ref b121), .unset, .unset, .unset, .unset, .unset, .unset, .unset, .unset, .unset, .unset, .unset] [])) (fun _ k => XS.ifNo X182.here hx rfl (hb hby at_103) rfl (XT.ll_ne_f br183) k) ?_
  refine Rch.go (U' := T182.setTop (mkF m 108 #[.val (.long q1), .second, .val (.long q2), .second, .val (.long q3), .second, .val (.long q4), .second, .val (.long q5), .second, .val (.long q6), .second, .val (.long (q3 ^^^ q5)), .second, .val (.long (q4 - q6)), .second, .val (.ref b94), .val (.ref b121), .unset, .unset, .unset, .unset, .unset, .unset, .unset, .unset, .unset, .unset, .unset] [(.ref b94)])) (fun _ k => XS.aload X182.here hx rfl (hb hby at_106) rfl rfl k) ?_
  obtain ⟨T184, X184, e184, st184⟩ := getF X182 hx hZ hown (host := "") (Or.inl (wi hw 11 rfl)) Via.refl e182 F174_reads (g := (mkF m 108 #[.val (.long q1), .second, .val (.long q2), .second, .val (.long q3), .second, .val (.long q4), .second, .val (.long q5), .second, .val (.long q6), .second, .val (.long (q3 ^^^ q5)), .second, .val (.long (q4 - q6)), .second, .val (.ref b94), .val (.ref b121), .unset, .unset, .unset, .unset, .unset, .unset, .unset, .unset, .unset, .unset, .unset] [(.ref b94)])) rfl rfl (hb hby at_108)
  refine Rch.go (U' := T184.setTop (mkF m 111 #[.val (.long q1), .second, .val (.long q2), .second, .val (.long q3), .second, .val (.long q4), .second, .val (.long q5), .second, .val (.long q6), .second, .val (.long (q3 ^^^ q5)), .second, .val (.long (q4 - q6)), .second, .val (.ref b94), .val (.ref b121), .unset, .unset, .unset, .unset, .unset, .unset, .unset, .unset, .unset, .unset, .unset] [(.long (q2 + q6))])) st184 ?_
  refine Rch.go (U' := T184.setTop (mkF m 112 #[.val (.long q1), .second, .val (.long q2), .second, .val (.long q3), .second, .val (.long q4), .second, .val (.long q5), .second, .val (.long q6), .second, .val (.long (q3 ^^^ q5)), .second, .val (.long (q4 - q6)), .second, .val (.ref b94), .val (.ref b121), .unset, .unset, .unset, .unset, .unset, .unset, .unset, .unset, .unset, .unset, .unset] [(.long q2), (.long (q2 + q6))])) (fun _ k => XS.lloadN X184.here hx rfl (hb hby at_111) rfl  k) ?_
  refine Rch.go (U' := T184.setTop (mkF m 114 #[.val (.long q1), .second, .val (.long q2), .second, .val (.long q3), .second, .val (.long q4), .second, .val (.long q5), .second, .val (.long q6), .second, .val (.long (q3 ^^^ q5)), .second, .val (.long (q4 - q6)), .second, .val (.ref b94), .val (.ref b121), .unset, .unset, .unset, .unset, .unset, .unset, .unset, .unset, .unset, .unset, .unset] [(.long q6), (.long q2), (.long (q2 + q6))])) (fun _ k => XS.lload X184.here hx rfl (hb hby at_112) rfl  k) ?_
  refine Rch.go (U' := T184.setTop (mkF m 115 #[.val (.long q1), .second, .val (.long q2), .second, .val (.long q3), .second, .val (.long q4), .second, .val (.long q5), .second, .val (.long q6), .second, .val (.long (q3 ^^^ q5)), .second, .val (.long (q4 - q6)), .second, .val (.ref b94), .val (.ref b121), .unset, .unset, .unset, .unset, .unset, .unset, .unset, .unset, .unset, .unset, .unset] [(.long (q2 + q6)), (.long (q2 + q6))])) (fun _ k => XS.ladd X184.here hx rfl (hb hby at_114) rfl k) ?_
  refine Rch.go (U' := T184.setTop (mkF m 116 #[.val (.long q1), .second, .val (.long q2), .second, .val (.long q3), .second, .val (.long q4), .second, .val (.long q5), .second, .val (.long q6), .second, .val (.long (q3 ^^^ q5)), .second, .val (.long (q4 - q6)), .second, .val (.ref b94), .val (.ref b121), .unset, .unset, .unset, .unset, .unset, .unset, .unset, .unset, .unset, .unset, .unset] [(.int (XT.cmpL (q2 + q6) (q2 + q6)))])) (fun _ k => XT.lcmp X184.here hx rfl (hb hby at_115) rfl k) ?_
  have br185 : (q2 + q6) = (q2 + q6) := rfl
  refine Rch.go (U' := T184.setTop (mkF m 119 #[.val (.long q1), .second, .val (.long q2), .second, .val (.long q3), .second, .val (.long q4), .second, .val (.long q5), .second, .val (.long q6), .second, .val (.long (q3 ^^^ q5)), .second, .val (.long (q4 - q6)), .second, .val (.ref b94), .val (.ref b121), .unset, .unset, .unset, .unset, .unset, .unset, .unset, .unset, .unset, .unset, .unset] [])) (fun _ k => XS.ifNo X184.here hx rfl (hb hby at_116) rfl (XT.ll_ne_f br185) k) ?_
  refine Rch.go (U' := T184.setTop (mkF m 121 #[.val (.long q1), .second, .val (.long q2), .second, .val (.long q3), .second, .val (.long q4), .second, .val (.long q5), .second, .val (.long q6), .second, .val (.long (q3 ^^^ q5)), .second, .val (.long (q4 - q6)), .second, .val (.ref b94), .val (.ref b121), .unset, .unset, .unset, .unset, .unset, .unset, .unset, .unset, .unset, .unset, .unset] [(.ref b94)])) (fun _ k => XS.aload X184.here hx rfl (hb hby at_119) rfl rfl k) ?_
  obtain ⟨T186, X186, e186, st186⟩ := getF X184 hx hZ hown (host := "") (Or.inl (wi hw 13 rfl)) Via.refl e184 F174_wrong (g := (mkF m 121 #[.val (.long q1), .second, .val (.long q2), .second, .val (.long q3), .second, .val (.long q4), .second, .val (.long q5), .second, .val (.long q6), .second, .val (.long (q3 ^^^ q5)), .second, .val (.long (q4 - q6)), .second, .val (.ref b94), .val (.ref b121), .unset, .unset, .unset, .unset, .unset, .unset, .unset, .unset, .unset, .unset, .unset] [(.ref b94)])) rfl rfl (hb hby at_121)
  refine Rch.go (U' := T186.setTop (mkF m 124 #[.val (.long q1), .second, .val (.long q2), .second, .val (.long q3), .second, .val (.long q4), .second, .val (.long q5), .second, .val (.long q6), .second, .val (.long (q3 ^^^ q5)), .second, .val (.long (q4 - q6)), .second, .val (.ref b94), .val (.ref b121), .unset, .unset, .unset, .unset, .unset, .unset, .unset, .unset, .unset, .unset, .unset] [(.long (q3 + (q3 ^^^ q5)))])) st186 ?_
  refine Rch.go (U' := T186.setTop (mkF m 126 #[.val (.long q1), .second, .val (.long q2), .second, .val (.long q3), .second, .val (.long q4), .second, .val (.long q5), .second, .val (.long q6), .second, .val (.long (q3 ^^^ q5)), .second, .val (.long (q4 - q6)), .second, .val (.ref b94), .val (.ref b121), .unset, .unset, .unset, .unset, .unset, .unset, .unset, .unset, .unset, .unset, .unset] [(.long q3), (.long (q3 + (q3 ^^^ q5)))])) (fun _ k => XS.lload X186.here hx rfl (hb hby at_124) rfl  k) ?_
  refine Rch.go (U' := T186.setTop (mkF m 128 #[.val (.long q1), .second, .val (.long q2), .second, .val (.long q3), .second, .val (.long q4), .second, .val (.long q5), .second, .val (.long q6), .second, .val (.long (q3 ^^^ q5)), .second, .val (.long (q4 - q6)), .second, .val (.ref b94), .val (.ref b121), .unset, .unset, .unset, .unset, .unset, .unset, .unset, .unset, .unset, .unset, .unset] [(.long (q3 ^^^ q5)), (.long q3), (.long (q3 + (q3 ^^^ q5)))])) (fun _ k => XS.lload X186.here hx rfl (hb hby at_126) rfl  k) ?_
  refine Rch.go (U' := T186.setTop (mkF m 129 #[.val (.long q1), .second, .val (.long q2), .second, .val (.long q3), .second, .val (.long q4), .second, .val (.long q5), .second, .val (.long q6), .second, .val (.long (q3 ^^^ q5)), .second, .val (.long (q4 - q6)), .second, .val (.ref b94), .val (.ref b121), .unset, .unset, .unset, .unset, .unset, .unset, .unset, .unset, .unset, .unset, .unset] [(.long (q3 + (q3 ^^^ q5))), (.long (q3 + (q3 ^^^ q5)))])) (fun _ k => XS.ladd X186.here hx rfl (hb hby at_128) rfl k) ?_
  refine Rch.go (U' := T186.setTop (mkF m 130 #[.val (.long q1), .second, .val (.long q2), .second, .val (.long q3), .second, .val (.long q4), .second, .val (.long q5), .second, .val (.long q6), .second, .val (.long (q3 ^^^ q5)), .second, .val (.long (q4 - q6)), .second, .val (.ref b94), .val (.ref b121), .unset, .unset, .unset, .unset, .unset, .unset, .unset, .unset, .unset, .unset, .unset] [(.int (XT.cmpL (q3 + (q3 ^^^ q5)) (q3 + (q3 ^^^ q5))))])) (fun _ k => XT.lcmp X186.here hx rfl (hb hby at_129) rfl k) ?_
  have br187 : (q3 + (q3 ^^^ q5)) = (q3 + (q3 ^^^ q5)) := rfl
  refine Rch.go (U' := T186.setTop (mkF m 133 #[.val (.long q1), .second, .val (.long q2), .second, .val (.long q3), .second, .val (.long q4), .second, .val (.long q5), .second, .val (.long q6), .second, .val (.long (q3 ^^^ q5)), .second, .val (.long (q4 - q6)), .second, .val (.ref b94), .val (.ref b121), .unset, .unset, .unset, .unset, .unset, .unset, .unset, .unset, .unset, .unset, .unset] [])) (fun _ k => XS.ifNo X186.here hx rfl (hb hby at_130) rfl (XT.ll_ne_f br187) k) ?_
  refine Rch.go (U' := T186.setTop (mkF m 135 #[.val (.long q1), .second, .val (.long q2), .second, .val (.long q3), .second, .val (.long q4), .second, .val (.long q5), .second, .val (.long q6), .second, .val (.long (q3 ^^^ q5)), .second, .val (.long (q4 - q6)), .second, .val (.ref b94), .val (.ref b121), .unset, .unset, .unset, .unset, .unset, .unset, .unset, .unset, .unset, .unset, .unset] [(.ref b94)])) (fun _ k => XS.aload X186.here hx rfl (hb hby at_133) rfl rfl k) ?_
  obtain ⟨T188, X188, e188, st188⟩ := getF X186 hx hZ hown (host := "") (Or.inl (wi hw 15 rfl)) Via.refl e186 F174_misses (g := (mkF m 135 #[.val (.long q1), .second, .val (.long q2), .second, .val (.long q3), .second, .val (.long q4), .second, .val (.long q5), .second, .val (.long q6), .second, .val (.long (q3 ^^^ q5)), .second, .val (.long (q4 - q6)), .second, .val (.ref b94), .val (.ref b121), .unset, .unset, .unset, .unset, .unset, .unset, .unset, .unset, .unset, .unset, .unset] [(.ref b94)])) rfl rfl (hb hby at_135)
  refine Rch.go (U' := T188.setTop (mkF m 138 #[.val (.long q1), .second, .val (.long q2), .second, .val (.long q3), .second, .val (.long q4), .second, .val (.long q5), .second, .val (.long q6), .second, .val (.long (q3 ^^^ q5)), .second, .val (.long (q4 - q6)), .second, .val (.ref b94), .val (.ref b121), .unset, .unset, .unset, .unset, .unset, .unset, .unset, .unset, .unset, .unset, .unset] [(.long (q4 + (q4 - q6)))])) st188 ?_
  refine Rch.go (U' := T188.setTop (mkF m 140 #[.val (.long q1), .second, .val (.long q2), .second, .val (.long q3), .second, .val (.long q4), .second, .val (.long q5), .second, .val (.long q6), .second, .val (.long (q3 ^^^ q5)), .second, .val (.long (q4 - q6)), .second, .val (.ref b94), .val (.ref b121), .unset, .unset, .unset, .unset, .unset, .unset, .unset, .unset, .unset, .unset, .unset] [(.long q4), (.long (q4 + (q4 - q6)))])) (fun _ k => XS.lload X188.here hx rfl (hb hby at_138) rfl  k) ?_
  refine Rch.go (U' := T188.setTop (mkF m 142 #[.val (.long q1), .second, .val (.long q2), .second, .val (.long q3), .second, .val (.long q4), .second, .val (.long q5), .second, .val (.long q6), .second, .val (.long (q3 ^^^ q5)), .second, .val (.long (q4 - q6)), .second, .val (.ref b94), .val (.ref b121), .unset, .unset, .unset, .unset, .unset, .unset, .unset, .unset, .unset, .unset, .unset] [(.long (q4 - q6)), (.long q4), (.long (q4 + (q4 - q6)))])) (fun _ k => XS.lload X188.here hx rfl (hb hby at_140) rfl  k) ?_
  refine Rch.go (U' := T188.setTop (mkF m 143 #[.val (.long q1), .second, .val (.long q2), .second, .val (.long q3), .second, .val (.long q4), .second, .val (.long q5), .second, .val (.long q6), .second, .val (.long (q3 ^^^ q5)), .second, .val (.long (q4 - q6)), .second, .val (.ref b94), .val (.ref b121), .unset, .unset, .unset, .unset, .unset, .unset, .unset, .unset, .unset, .unset, .unset] [(.long (q4 + (q4 - q6))), (.long (q4 + (q4 - q6)))])) (fun _ k => XS.ladd X188.here hx rfl (hb hby at_142) rfl k) ?_
  refine Rch.go (U' := T188.setTop (mkF m 144 #[.val (.long q1), .second, .val (.long q2), .second, .val (.long q3), .second, .val (.long q4), .second, .val (.long q5), .second, .val (.long q6), .second, .val (.long (q3 ^^^ q5)), .second, .val (.long (q4 - q6)), .second, .val (.ref b94), .val (.ref b121), .unset, .unset, .unset, .unset, .unset, .unset, .unset, .unset, .unset, .unset, .unset] [(.int (XT.cmpL (q4 + (q4 - q6)) (q4 + (q4 - q6))))])) (fun _ k => XT.lcmp X188.here hx rfl (hb hby at_143) rfl k) ?_
  have br189 : (q4 + (q4 - q6)) = (q4 + (q4 - q6)) := rfl
  refine Rch.go (U' := T188.setTop (mkF m 147 #[.val (.long q1), .second, .val (.long q2), .second, .val (.long q3), .second, .val (.long q4), .second, .val (.long q5), .second, .val (.long q6), .second, .val (.long (q3 ^^^ q5)), .second, .val (.long (q4 - q6)), .second, .val (.ref b94), .val (.ref b121), .unset, .unset, .unset, .unset, .unset, .unset, .unset, .unset, .unset, .unset, .unset] [])) (fun _ k => XS.ifNo X188.here hx rfl (hb hby at_144) rfl (XT.ll_ne_f br189) k) ?_
  refine Rch.go (U' := T188.setTop (mkF m 148 #[.val (.long q1), .second, .val (.long q2), .second, .val (.long q3), .second, .val (.long q4), .second, .val (.long q5), .second, .val (.long q6), .second, .val (.long (q3 ^^^ q5)), .second, .val (.long (q4 - q6)), .second, .val (.ref b94), .val (.ref b121), .unset, .unset, .unset, .unset, .unset, .unset, .unset, .unset, .unset, .unset, .unset] [(.int (1 : Int32))])) (fun _ k => XS.iconst X188.here hx rfl (hb hby at_147) k) ?_
  refine Rch.go (U' := T188.setTop (mkF m 152 #[.val (.long q1), .second, .val (.long q2), .second, .val (.long q3), .second, .val (.long q4), .second, .val (.long q5), .second, .val (.long q6), .second, .val (.long (q3 ^^^ q5)), .second, .val (.long (q4 - q6)), .second, .val (.ref b94), .val (.ref b121), .unset, .unset, .unset, .unset, .unset, .unset, .unset, .unset, .unset, .unset, .unset] [(.int (1 : Int32))])) (fun _ k => XS.goto X188.here hx rfl (pc0 := 148) (pc' := 152) rfl (hb hby at_148) (by decide) (by decide) k) ?_
  refine Rch.go (U' := T188.setTop (mkF m 154 #[.val (.long q1), .second, .val (.long q2), .second, .val (.long q3), .second, .val (.long q4), .second, .val (.long q5), .second, .val (.long q6), .second, .val (.long (q3 ^^^ q5)), .second, .val (.long (q4 - q6)), .second, .val (.ref b94), .val (.ref b121), .val (.int (1 : Int32)), .unset, .unset, .unset, .unset, .unset, .unset, .unset, .unset, .unset, .unset] [])) (fun _ k => XS.istore X188.here hx rfl (hb hby at_152) rfl (l' := #[.val (.long q1), .second, .val (.long q2), .second, .val (.long q3), .second, .val (.long q4), .second, .val (.long q5), .second, .val (.long q6), .second, .val (.long (q3 ^^^ q5)), .second, .val (.long (q4 - q6)), .second, .val (.ref b94), .val (.ref b121), .val (.int (1 : Int32)), .unset, .unset, .unset, .unset, .unset, .unset, .unset, .unset, .unset, .unset]) rfl k) ?_
  refine Rch.go (U' := T188.setTop (mkF m 156 #[.val (.long q1), .second, .val (.long q2), .second, .val (.long q3), .second, .val (.long q4), .second, .val (.long q5), .second, .val (.long q6), .second, .val (.long (q3 ^^^ q5)), .second, .val (.long (q4 - q6)), .second, .val (.ref b94), .val (.ref b121), .val (.int (1 : Int32)), .unset, .unset, .unset, .unset, .unset, .unset, .unset, .unset, .unset, .unset] [(.ref b121)])) (fun _ k => XS.aload X188.here hx rfl (hb hby at_154) rfl rfl k) ?_
  obtain ⟨T190, X190, e190, st190⟩ := getF X188 hx hZ hown (host := "") (Or.inl (wi hw 9 rfl)) Via.refl e188 f178 (g := (mkF m 156 #[.val (.long q1), .second, .val (.long q2), .second, .val (.long q3), .second, .val (.long q4), .second, .val (.long q5), .second, .val (.long q6), .second, .val (.long (q3 ^^^ q5)), .second, .val (.long (q4 - q6)), .second, .val (.ref b94), .val (.ref b121), .val (.int (1 : Int32)), .unset, .unset, .unset, .unset, .unset, .unset, .unset, .unset, .unset, .unset] [(.ref b121)])) rfl rfl (hb hby at_156)
  refine Rch.go (U' := T190.setTop (mkF m 159 #[.val (.long q1), .second, .val (.long q2), .second, .val (.long q3), .second, .val (.long q4), .second, .val (.long q5), .second, .val (.long q6), .second, .val (.long (q3 ^^^ q5)), .second, .val (.long (q4 - q6)), .second, .val (.ref b94), .val (.ref b121), .val (.int (1 : Int32)), .unset, .unset, .unset, .unset, .unset, .unset, .unset, .unset, .unset, .unset] [(.long q5)])) st190 ?_
  refine Rch.go (U' := T190.setTop (mkF m 161 #[.val (.long q1), .second, .val (.long q2), .second, .val (.long q3), .second, .val (.long q4), .second, .val (.long q5), .second, .val (.long q6), .second, .val (.long (q3 ^^^ q5)), .second, .val (.long (q4 - q6)), .second, .val (.ref b94), .val (.ref b121), .val (.int (1 : Int32)), .unset, .unset, .unset, .unset, .unset, .unset, .unset, .unset, .unset, .unset] [(.long q5), (.long q5)])) (fun _ k => XS.lload X190.here hx rfl (hb hby at_159) rfl  k) ?_
  refine Rch.go (U' := T190.setTop (mkF m 162 #[.val (.long q1), .second, .val (.long q2), .second, .val (.long q3), .second, .val (.long q4), .second, .val (.long q5), .second, .val (.long q6), .second, .val (.long (q3 ^^^ q5)), .second, .val (.long (q4 - q6)), .second, .val (.ref b94), .val (.ref b121), .val (.int (1 : Int32)), .unset, .unset, .unset, .unset, .unset, .unset, .unset, .unset, .unset, .unset] [(.int (XT.cmpL q5 q5))])) (fun _ k => XT.lcmp X190.here hx rfl (hb hby at_161) rfl k) ?_
  have br191 : q5 = q5 := rfl
  refine Rch.go (U' := T190.setTop (mkF m 165 #[.val (.long q1), .second, .val (.long q2), .second, .val (.long q3), .second, .val (.long q4), .second, .val (.long q5), .second, .val (.long q6), .second, .val (.long (q3 ^^^ q5)), .second, .val (.long (q4 - q6)), .second, .val (.ref b94), .val (.ref b121), .val (.int (1 : Int32)), .unset, .unset, .unset, .unset, .unset, .unset, .unset, .unset, .unset, .unset] [])) (fun _ k => XS.ifNo X190.here hx rfl (hb hby at_162) rfl (XT.ll_ne_f br191) k) ?_
  refine Rch.go (U' := T190.setTop (mkF m 167 #[.val (.long q1), .second, .val (.long q2), .second, .val (.long q3), .second, .val (.long q4), .second, .val (.long q5), .second, .val (.long q6), .second, .val (.long (q3 ^^^ q5)), .second, .val (.long (q4 - q6)), .second, .val (.ref b94), .val (.ref b121), .val (.int (1 : Int32)), .unset, .unset, .unset, .unset, .unset, .unset, .unset, .unset, .unset, .unset] [(.ref b121)])) (fun _ k => XS.aload X190.here hx rfl (hb hby at_165) rfl rfl k) ?_
  obtain ⟨T192, X192, e192, st192⟩ := getF X190 hx hZ hown (host := "") (Or.inl (wi hw 11 rfl)) Via.refl e190 f179 (g := (mkF m 167 #[.val (.long q1), .second, .val (.long q2), .second, .val (.long q3), .second, .val (.long q4), .second, .val (.long q5), .second, .val (.long q6), .second, .val (.long (q3 ^^^ q5)), .second, .val (.long (q4 - q6)), .second, .val (.ref b94), .val (.ref b121), .val (.int (1 : Int32)), .unset, .unset, .unset, .unset, .unset, .unset, .unset, .unset, .unset, .unset] [(.ref b121)])) rfl rfl (hb hby at_167)
  refine Rch.go (U' := T192.setTop (mkF m 170 #[.val (.long q1), .second, .val (.long q2), .second, .val (.long q3), .second, .val (.long q4), .second, .val (.long q5), .second, .val (.long q6), .second, .val (.long (q3 ^^^ q5)), .second, .val (.long (q4 - q6)), .second, .val (.ref b94), .val (.ref b121), .val (.int (1 : Int32)), .unset, .unset, .unset, .unset, .unset, .unset, .unset, .unset, .unset, .unset] [(.long q6)])) st192 ?_
  refine Rch.go (U' := T192.setTop (mkF m 172 #[.val (.long q1), .second, .val (.long q2), .second, .val (.long q3), .second, .val (.long q4), .second, .val (.long q5), .second, .val (.long q6), .second, .val (.long (q3 ^^^ q5)), .second, .val (.long (q4 - q6)), .second, .val (.ref b94), .val (.ref b121), .val (.int (1 : Int32)), .unset, .unset, .unset, .unset, .unset, .unset, .unset, .unset, .unset, .unset] [(.long q6), (.long q6)])) (fun _ k => XS.lload X192.here hx rfl (hb hby at_170) rfl  k) ?_
  refine Rch.go (U' := T192.setTop (mkF m 173 #[.val (.long q1), .second, .val (.long q2), .second, .val (.long q3), .second, .val (.long q4), .second, .val (.long q5), .second, .val (.long q6), .second, .val (.long (q3 ^^^ q5)), .second, .val (.long (q4 - q6)), .second, .val (.ref b94), .val (.ref b121), .val (.int (1 : Int32)), .unset, .unset, .unset, .unset, .unset, .unset, .unset, .unset, .unset, .unset] [(.int (XT.cmpL q6 q6))])) (fun _ k => XT.lcmp X192.here hx rfl (hb hby at_172) rfl k) ?_
  have br193 : q6 = q6 := rfl
  refine Rch.go (U' := T192.setTop (mkF m 176 #[.val (.long q1), .second, .val (.long q2), .second, .val (.long q3), .second, .val (.long q4), .second, .val (.long q5), .second, .val (.long q6), .second, .val (.long (q3 ^^^ q5)), .second, .val (.long (q4 - q6)), .second, .val (.ref b94), .val (.ref b121), .val (.int (1 : Int32)), .unset, .unset, .unset, .unset, .unset, .unset, .unset, .unset, .unset, .unset] [])) (fun _ k => XS.ifNo X192.here hx rfl (hb hby at_173) rfl (XT.ll_ne_f br193) k) ?_
  refine Rch.go (U' := T192.setTop (mkF m 178 #[.val (.long q1), .second, .val (.long q2), .second, .val (.long q3), .second, .val (.long q4), .second, .val (.long q5), .second, .val (.long q6), .second, .val (.long (q3 ^^^ q5)), .second, .val (.long (q4 - q6)), .second, .val (.ref b94), .val (.ref b121), .val (.int (1 : Int32)), .unset, .unset, .unset, .unset, .unset, .unset, .unset, .unset, .unset, .unset] [(.ref b121)])) (fun _ k => XS.aload X192.here hx rfl (hb hby at_176) rfl rfl k) ?_
  obtain ⟨T194, X194, e194, st194⟩ := getF X192 hx hZ hown (host := "") (Or.inl (wi hw 13 rfl)) Via.refl e192 f180 (g := (mkF m 178 #[.val (.long q1), .second, .val (.long q2), .second, .val (.long q3), .second, .val (.long q4), .second, .val (.long q5), .second, .val (.long q6), .second, .val (.long (q3 ^^^ q5)), .second, .val (.long (q4 - q6)), .second, .val (.ref b94), .val (.ref b121), .val (.int (1 : Int32)), .unset, .unset, .unset, .unset, .unset, .unset, .unset, .unset, .unset, .unset] [(.ref b121)])) rfl rfl (hb hby at_178)
  refine Rch.go (U' := T194.setTop (mkF m 181 #[.val (.long q1), .second, .val (.long q2), .second, .val (.long q3), .second, .val (.long q4), .second, .val (.long q5), .second, .val (.long q6), .second, .val (.long (q3 ^^^ q5)), .second, .val (.long (q4 - q6)), .second, .val (.ref b94), .val (.ref b121), .val (.int (1 : Int32)), .unset, .unset, .unset, .unset, .unset, .unset, .unset, .unset, .unset, .unset] [(.long (q3 ^^^ q5))])) st194 ?_
  refine Rch.go (U' := T194.setTop (mkF m 183 #[.val (.long q1), .second, .val (.long q2), .second, .val (.long q3), .second, .val (.long q4), .second, .val (.long q5), .second, .val (.long q6), .second, .val (.long (q3 ^^^ q5)), .second, .val (.long (q4 - q6)), .second, .val (.ref b94), .val (.ref b121), .val (.int (1 : Int32)), .unset, .unset, .unset, .unset, .unset, .unset, .unset, .unset, .unset, .unset] [(.long (q3 ^^^ q5)), (.long (q3 ^^^ q5))])) (fun _ k => XS.lload X194.here hx rfl (hb hby at_181) rfl  k) ?_
  refine Rch.go (U' := T194.setTop (mkF m 184 #[.val (.long q1), .second, .val (.long q2), .second, .val (.long q3), .second, .val (.long q4), .second, .val (.long q5), .second, .val (.long q6), .second, .val (.long (q3 ^^^ q5)), .second, .val (.long (q4 - q6)), .second, .val (.ref b94), .val (.ref b121), .val (.int (1 : Int32)), .unset, .unset, .unset, .unset, .unset, .unset, .unset, .unset, .unset, .unset] [(.int (XT.cmpL (q3 ^^^ q5) (q3 ^^^ q5)))])) (fun _ k => XT.lcmp X194.here hx rfl (hb hby at_183) rfl k) ?_
  have br195 : (q3 ^^^ q5) = (q3 ^^^ q5) := rfl
  refine Rch.go (U' := T194.setTop (mkF m 187 #[.val (.long q1), .second, .val (.long q2), .second, .val (.long q3), .second, .val (.long q4), .second, .val (.long q5), .second, .val (.long q6), .second, .val (.long (q3 ^^^ q5)), .second, .val (.long (q4 - q6)), .second, .val (.ref b94), .val (.ref b121), .val (.int (1 : Int32)), .unset, .unset, .unset, .unset, .unset, .unset, .unset, .unset, .unset, .unset] [])) (fun _ k => XS.ifNo X194.here hx rfl (hb hby at_184) rfl (XT.ll_ne_f br195) k) ?_
  refine Rch.go (U' := T194.setTop (mkF m 189 #[.val (.long q1), .second, .val (.long q2), .second, .val (.long q3), .second, .val (.long q4), .second, .val (.long q5), .second, .val (.long q6), .second, .val (.long (q3 ^^^ q5)), .second, .val (.long (q4 - q6)), .second, .val (.ref b94), .val (.ref b121), .val (.int (1 : Int32)), .unset, .unset, .unset, .unset, .unset, .unset, .unset, .unset, .unset, .unset] [(.ref b121)])) (fun _ k => XS.aload X194.here hx rfl (hb hby at_187) rfl rfl k) ?_
  obtain ⟨T196, X196, e196, st196⟩ := getF X194 hx hZ hown (host := "") (Or.inl (wi hw 15 rfl)) Via.refl e194 f181 (g := (mkF m 189 #[.val (.long q1), .second, .val (.long q2), .second, .val (.long q3), .second, .val (.long q4), .second, .val (.long q5), .second, .val (.long q6), .second, .val (.long (q3 ^^^ q5)), .second, .val (.long (q4 - q6)), .second, .val (.ref b94), .val (.ref b121), .val (.int (1 : Int32)), .unset, .unset, .unset, .unset, .unset, .unset, .unset, .unset, .unset, .unset] [(.ref b121)])) rfl rfl (hb hby at_189)
  refine Rch.go (U' := T196.setTop (mkF m 192 #[.val (.long q1), .second, .val (.long q2), .second, .val (.long q3), .second, .val (.long q4), .second, .val (.long q5), .second, .val (.long q6), .second, .val (.long (q3 ^^^ q5)), .second, .val (.long (q4 - q6)), .second, .val (.ref b94), .val (.ref b121), .val (.int (1 : Int32)), .unset, .unset, .unset, .unset, .unset, .unset, .unset, .unset, .unset, .unset] [(.long (q4 - q6))])) st196 ?_
  refine Rch.go (U' := T196.setTop (mkF m 194 #[.val (.long q1), .second, .val (.long q2), .second, .val (.long q3), .second, .val (.long q4), .second, .val (.long q5), .second, .val (.long q6), .second, .val (.long (q3 ^^^ q5)), .second, .val (.long (q4 - q6)), .second, .val (.ref b94), .val (.ref b121), .val (.int (1 : Int32)), .unset, .unset, .unset, .unset, .unset, .unset, .unset, .unset, .unset, .unset] [(.long (q4 - q6)), (.long (q4 - q6))])) (fun _ k => XS.lload X196.here hx rfl (hb hby at_192) rfl  k) ?_
  refine Rch.go (U' := T196.setTop (mkF m 195 #[.val (.long q1), .second, .val (.long q2), .second, .val (.long q3), .second, .val (.long q4), .second, .val (.long q5), .second, .val (.long q6), .second, .val (.long (q3 ^^^ q5)), .second, .val (.long (q4 - q6)), .second, .val (.ref b94), .val (.ref b121), .val (.int (1 : Int32)), .unset, .unset, .unset, .unset, .unset, .unset, .unset, .unset, .unset, .unset] [(.int (XT.cmpL (q4 - q6) (q4 - q6)))])) (fun _ k => XT.lcmp X196.here hx rfl (hb hby at_194) rfl k) ?_
  have br197 : (q4 - q6) = (q4 - q6) := rfl
  refine Rch.go (U' := T196.setTop (mkF m 198 #[.val (.long q1), .second, .val (.long q2), .second, .val (.long q3), .second, .val (.long q4), .second, .val (.long q5), .second, .val (.long q6), .second, .val (.long (q3 ^^^ q5)), .second, .val (.long (q4 - q6)), .second, .val (.ref b94), .val (.ref b121), .val (.int (1 : Int32)), .unset, .unset, .unset, .unset, .unset, .unset, .unset, .unset, .unset, .unset] [])) (fun _ k => XS.ifNo X196.here hx rfl (hb hby at_195) rfl (XT.ll_ne_f br197) k) ?_
  refine Rch.go (U' := T196.setTop (mkF m 199 #[.val (.long q1), .second, .val (.long q2), .second, .val (.long q3), .second, .val (.long q4), .second, .val (.long q5), .second, .val (.long q6), .second, .val (.long (q3 ^^^ q5)), .second, .val (.long (q4 - q6)), .second, .val (.ref b94), .val (.ref b121), .val (.int (1 : Int32)), .unset, .unset, .unset, .unset, .unset, .unset, .unset, .unset, .unset, .unset] [(.int (1 : Int32))])) (fun _ k => XS.iconst X196.here hx rfl (hb hby at_198) k) ?_
  refine Rch.go (U' := T196.setTop (mkF m 203 #[.val (.long q1), .second, .val (.long q2), .second, .val (.long q3), .second, .val (.long q4), .second, .val (.long q5), .second, .val (.long q6), .second, .val (.long (q3 ^^^ q5)), .second, .val (.long (q4 - q6)), .second, .val (.ref b94), .val (.ref b121), .val (.int (1 : Int32)), .unset, .unset, .unset, .unset, .unset, .unset, .unset, .unset, .unset, .unset] [(.int (1 : Int32))])) (fun _ k => XS.goto X196.here hx rfl (pc0 := 199) (pc' := 203) rfl (hb hby at_199) (by decide) (by decide) k) ?_
  refine Rch.go (U' := T196.setTop (mkF m 205 #[.val (.long q1), .second, .val (.long q2), .second, .val (.long q3), .second, .val (.long q4), .second, .val (.long q5), .second, .val (.long q6), .second, .val (.long (q3 ^^^ q5)), .second, .val (.long (q4 - q6)), .second, .val (.ref b94), .val (.ref b121), .val (.int (1 : Int32)), .val (.int (1 : Int32)), .unset, .unset, .unset, .unset, .unset, .unset, .unset, .unset, .unset] [])) (fun _ k => XS.istore X196.here hx rfl (hb hby at_203) rfl (l' := #[.val (.long q1), .second, .val (.long q2), .second, .val (.long q3), .second, .val (.long q4), .second, .val (.long q5), .second, .val (.long q6), .second, .val (.long (q3 ^^^ q5)), .second, .val (.long (q4 - q6)), .second, .val (.ref b94), .val (.ref b121), .val (.int (1 : Int32)), .val (.int (1 : Int32)), .unset, .unset, .unset, .unset, .unset, .unset, .unset, .unset, .unset]) rfl k) ?_
  refine Rch.go (U' := T196.setTop (mkF m 207 #[.val (.long q1), .second, .val (.long q2), .second, .val (.long q3), .second, .val (.long q4), .second, .val (.long q5), .second, .val (.long q6), .second, .val (.long (q3 ^^^ q5)), .second, .val (.long (q4 - q6)), .second, .val (.ref b94), .val (.ref b121), .val (.int (1 : Int32)), .val (.int (1 : Int32)), .unset, .unset, .unset, .unset, .unset, .unset, .unset, .unset, .unset] [(.ref b94)])) (fun _ k => XS.aload X196.here hx rfl (hb hby at_205) rfl rfl k) ?_
  obtain ⟨T198, X198, e198, st198⟩ := getF X196 hx hZ hown (host := "") (Or.inl (wi hw 9 rfl)) Via.refl e196 F174_writes (g := (mkF m 207 #[.val (.long q1), .second, .val (.long q2), .second, .val (.long q3), .second, .val (.long q4), .second, .val (.long q5), .second, .val (.long q6), .second, .val (.long (q3 ^^^ q5)), .second, .val (.long (q4 - q6)), .second, .val (.ref b94), .val (.ref b121), .val (.int (1 : Int32)), .val (.int (1 : Int32)), .unset, .unset, .unset, .unset, .unset, .unset, .unset, .unset, .unset] [(.ref b94)])) rfl rfl (hb hby at_207)
  refine Rch.go (U' := T198.setTop (mkF m 210 #[.val (.long q1), .second, .val (.long q2), .second, .val (.long q3), .second, .val (.long q4), .second, .val (.long q5), .second, .val (.long q6), .second, .val (.long (q3 ^^^ q5)), .second, .val (.long (q4 - q6)), .second, .val (.ref b94), .val (.ref b121), .val (.int (1 : Int32)), .val (.int (1 : Int32)), .unset, .unset, .unset, .unset, .unset, .unset, .unset, .unset, .unset] [(.long (q1 + q5))])) st198 ?_
  refine Rch.go (U' := T198.setTop (mkF m 212 #[.val (.long q1), .second, .val (.long q2), .second, .val (.long q3), .second, .val (.long q4), .second, .val (.long q5), .second, .val (.long q6), .second, .val (.long (q3 ^^^ q5)), .second, .val (.long (q4 - q6)), .second, .val (.ref b94), .val (.ref b121), .val (.int (1 : Int32)), .val (.int (1 : Int32)), .val (.long (q1 + q5)), .second, .unset, .unset, .unset, .unset, .unset, .unset, .unset] [])) (fun _ k => XS.lstore X198.here hx rfl (hb hby at_210) rfl (l' := #[.val (.long q1), .second, .val (.long q2), .second, .val (.long q3), .second, .val (.long q4), .second, .val (.long q5), .second, .val (.long q6), .second, .val (.long (q3 ^^^ q5)), .second, .val (.long (q4 - q6)), .second, .val (.ref b94), .val (.ref b121), .val (.int (1 : Int32)), .val (.int (1 : Int32)), .val (.long (q1 + q5)), .second, .unset, .unset, .unset, .unset, .unset, .unset, .unset]) rfl k) ?_
  refine Rch.go (U' := T198.setTop (mkF m 214 #[.val (.long q1), .second, .val (.long q2), .second, .val (.long q3), .second, .val (.long q4), .second, .val (.long q5), .second, .val (.long q6), .second, .val (.long (q3 ^^^ q5)), .second, .val (.long (q4 - q6)), .second, .val (.ref b94), .val (.ref b121), .val (.int (1 : Int32)), .val (.int (1 : Int32)), .val (.long (q1 + q5)), .second, .unset, .unset, .unset, .unset, .unset, .unset, .unset] [(.ref b94)])) (fun _ k => XS.aload X198.here hx rfl (hb hby at_212) rfl rfl k) ?_
  obtain ⟨T199, X199, e199, st199⟩ := getF X198 hx hZ hown (host := "") (Or.inl (wi hw 11 rfl)) Via.refl e198 F174_reads (g := (mkF m 214 #[.val (.long q1), .second, .val (.long q2), .second, .val (.long q3), .second, .val (.long q4), .second, .val (.long q5), .second, .val (.long q6), .second, .val (.long (q3 ^^^ q5)), .second, .val (.long (q4 - q6)), .second, .val (.ref b94), .val (.ref b121), .val (.int (1 : Int32)), .val (.int (1 : Int32)), .val (.long (q1 + q5)), .second, .unset, .unset, .unset, .unset, .unset, .unset, .unset] [(.ref b94)])) rfl rfl (hb hby at_214)
  refine Rch.go (U' := T199.setTop (mkF m 217 #[.val (.long q1), .second, .val (.long q2), .second, .val (.long q3), .second, .val (.long q4), .second, .val (.long q5), .second, .val (.long q6), .second, .val (.long (q3 ^^^ q5)), .second, .val (.long (q4 - q6)), .second, .val (.ref b94), .val (.ref b121), .val (.int (1 : Int32)), .val (.int (1 : Int32)), .val (.long (q1 + q5)), .second, .unset, .unset, .unset, .unset, .unset, .unset, .unset] [(.long (q2 + q6))])) st199 ?_
  refine Rch.go (U' := T199.setTop (mkF m 219 #[.val (.long q1), .second, .val (.long q2), .second, .val (.long q3), .second, .val (.long q4), .second, .val (.long q5), .second, .val (.long q6), .second, .val (.long (q3 ^^^ q5)), .second, .val (.long (q4 - q6)), .second, .val (.ref b94), .val (.ref b121), .val (.int (1 : Int32)), .val (.int (1 : Int32)), .val (.long (q1 + q5)), .second, .val (.long (q2 + q6)), .second, .unset, .unset, .unset, .unset, .unset] [])) (fun _ k => XS.lstore X199.here hx rfl (hb hby at_217) rfl (l' := #[.val (.long q1), .second, .val (.long q2), .second, .val (.long q3), .second, .val (.long q4), .second, .val (.long q5), .second, .val (.long q6), .second, .val (.long (q3 ^^^ q5)), .second, .val (.long (q4 - q6)), .second, .val (.ref b94), .val (.ref b121), .val (.int (1 : Int32)), .val (.int (1 : Int32)), .val (.long (q1 + q5)), .second, .val (.long (q2 + q6)), .second, .unset, .unset, .unset, .unset, .unset]) rfl k) ?_
  refine Rch.go (U' := T199.setTop (mkF m 221 #[.val (.long q1), .second, .val (.long q2), .second, .val (.long q3), .second, .val (.long q4), .second, .val (.long q5), .second, .val (.long q6), .second, .val (.long (q3 ^^^ q5)), .second, .val (.long (q4 - q6)), .second, .val (.ref b94), .val (.ref b121), .val (.int (1 : Int32)), .val (.int (1 : Int32)), .val (.long (q1 + q5)), .second, .val (.long (q2 + q6)), .second, .unset, .unset, .unset, .unset, .unset] [(.ref b94)])) (fun _ k => XS.aload X199.here hx rfl (hb hby at_219) rfl rfl k) ?_
  obtain ⟨T200, X200, e200, st200⟩ := getF X199 hx hZ hown (host := "") (Or.inl (wi hw 13 rfl)) Via.refl e199 F174_wrong (g := (mkF m 221 #[.val (.long q1), .second, .val (.long q2), .second, .val (.long q3), .second, .val (.long q4), .second, .val (.long q5), .second, .val (.long q6), .second, .val (.long (q3 ^^^ q5)), .second, .val (.long (q4 - q6)), .second, .val (.ref b94), .val (.ref b121), .val (.int (1 : Int32)), .val (.int (1 : Int32)), .val (.long (q1 + q5)), .second, .val (.long (q2 + q6)), .second, .unset, .unset, .unset, .unset, .unset] [(.ref b94)])) rfl rfl (hb hby at_221)
  refine Rch.go (U' := T200.setTop (mkF m 224 #[.val (.long q1), .second, .val (.long q2), .second, .val (.long q3), .second, .val (.long q4), .second, .val (.long q5), .second, .val (.long q6), .second, .val (.long (q3 ^^^ q5)), .second, .val (.long (q4 - q6)), .second, .val (.ref b94), .val (.ref b121), .val (.int (1 : Int32)), .val (.int (1 : Int32)), .val (.long (q1 + q5)), .second, .val (.long (q2 + q6)), .second, .unset, .unset, .unset, .unset, .unset] [(.long (q3 + (q3 ^^^ q5)))])) st200 ?_
  refine Rch.go (U' := T200.setTop (mkF m 226 #[.val (.long q1), .second, .val (.long q2), .second, .val (.long q3), .second, .val (.long q4), .second, .val (.long q5), .second, .val (.long q6), .second, .val (.long (q3 ^^^ q5)), .second, .val (.long (q4 - q6)), .second, .val (.ref b94), .val (.ref b121), .val (.int (1 : Int32)), .val (.int (1 : Int32)), .val (.long (q1 + q5)), .second, .val (.long (q2 + q6)), .second, .val (.long (q3 + (q3 ^^^ q5))), .second, .unset, .unset, .unset] [])) (fun _ k => XS.lstore X200.here hx rfl (hb hby at_224) rfl (l' := #[.val (.long q1), .second, .val (.long q2), .second, .val (.long q3), .second, .val (.long q4), .second, .val (.long q5), .second, .val (.long q6), .second, .val (.long (q3 ^^^ q5)), .second, .val (.long (q4 - q6)), .second, .val (.ref b94), .val (.ref b121), .val (.int (1 : Int32)), .val (.int (1 : Int32)), .val (.long (q1 + q5)), .second, .val (.long (q2 + q6)), .second, .val (.long (q3 + (q3 ^^^ q5))), .second, .unset, .unset, .unset]) rfl k) ?_
  refine Rch.go (U' := T200.setTop (mkF m 228 #[.val (.long q1), .second, .val (.long q2), .second, .val (.long q3), .second, .val (.long q4), .second, .val (.long q5), .second, .val (.long q6), .second, .val (.long (q3 ^^^ q5)), .second, .val (.long (q4 - q6)), .second, .val (.ref b94), .val (.ref b121), .val (.int (1 : Int32)), .val (.int (1 : Int32)), .val (.long (q1 + q5)), .second, .val (.long (q2 + q6)), .second, .val (.long (q3 + (q3 ^^^ q5))), .second, .unset, .unset, .unset] [(.ref b94)])) (fun _ k => XS.aload X200.here hx rfl (hb hby at_226) rfl rfl k) ?_
  obtain ⟨T201, X201, e201, st201⟩ := getF X200 hx hZ hown (host := "") (Or.inl (wi hw 15 rfl)) Via.refl e200 F174_misses (g := (mkF m 228 #[.val (.long q1), .second, .val (.long q2), .second, .val (.long q3), .second, .val (.long q4), .second, .val (.long q5), .second, .val (.long q6), .second, .val (.long (q3 ^^^ q5)), .second, .val (.long (q4 - q6)), .second, .val (.ref b94), .val (.ref b121), .val (.int (1 : Int32)), .val (.int (1 : Int32)), .val (.long (q1 + q5)), .second, .val (.long (q2 + q6)), .second, .val (.long (q3 + (q3 ^^^ q5))), .second, .unset, .unset, .unset] [(.ref b94)])) rfl rfl (hb hby at_228)
  refine Rch.go (U' := T201.setTop (mkF m 231 #[.val (.long q1), .second, .val (.long q2), .second, .val (.long q3), .second, .val (.long q4), .second, .val (.long q5), .second, .val (.long q6), .second, .val (.long (q3 ^^^ q5)), .second, .val (.long (q4 - q6)), .second, .val (.ref b94), .val (.ref b121), .val (.int (1 : Int32)), .val (.int (1 : Int32)), .val (.long (q1 + q5)), .second, .val (.long (q2 + q6)), .second, .val (.long (q3 + (q3 ^^^ q5))), .second, .unset, .unset, .unset] [(.long (q4 + (q4 - q6)))])) st201 ?_
  refine Rch.go (U' := T201.setTop (mkF m 233 #[.val (.long q1), .second, .val (.long q2), .second, .val (.long q3), .second, .val (.long q4), .second, .val (.long q5), .second, .val (.long q6), .second, .val (.long (q3 ^^^ q5)), .second, .val (.long (q4 - q6)), .second, .val (.ref b94), .val (.ref b121), .val (.int (1 : Int32)), .val (.int (1 : Int32)), .val (.long (q1 + q5)), .second, .val (.long (q2 + q6)), .second, .val (.long (q3 + (q3 ^^^ q5))), .second, .val (.long (q4 + (q4 - q6))), .second, .unset] [])) (fun _ k => XS.lstore X201.here hx rfl (hb hby at_231) rfl (l' := #[.val (.long q1), .second, .val (.long q2), .second, .val (.long q3), .second, .val (.long q4), .second, .val (.long q5), .second, .val (.long q6), .second, .val (.long (q3 ^^^ q5)), .second, .val (.long (q4 - q6)), .second, .val (.ref b94), .val (.ref b121), .val (.int (1 : Int32)), .val (.int (1 : Int32)), .val (.long (q1 + q5)), .second, .val (.long (q2 + q6)), .second, .val (.long (q3 + (q3 ^^^ q5))), .second, .val (.long (q4 + (q4 - q6))), .second, .unset]) rfl k) ?_
  refine Rch.go (U' := T201.setTop (mkF m 235 #[.val (.long q1), .second, .val (.long q2), .second, .val (.long q3), .second, .val (.long q4), .second, .val (.long q5), .second, .val (.long q6), .second, .val (.long (q3 ^^^ q5)), .second, .val (.long (q4 - q6)), .second, .val (.ref b94), .val (.ref b121), .val (.int (1 : Int32)), .val (.int (1 : Int32)), .val (.long (q1 + q5)), .second, .val (.long (q2 + q6)), .second, .val (.long (q3 + (q3 ^^^ q5))), .second, .val (.long (q4 + (q4 - q6))), .second, .unset] [(.ref b94)])) (fun _ k => XS.aload X201.here hx rfl (hb hby at_233) rfl rfl k) ?_
  refine Rch.go (U' := T201.setTop (mkF m 237 #[.val (.long q1), .second, .val (.long q2), .second, .val (.long q3), .second, .val (.long q4), .second, .val (.long q5), .second, .val (.long q6), .second, .val (.long (q3 ^^^ q5)), .second, .val (.long (q4 - q6)), .second, .val (.ref b94), .val (.ref b121), .val (.int (1 : Int32)), .val (.int (1 : Int32)), .val (.long (q1 + q5)), .second, .val (.long (q2 + q6)), .second, .val (.long (q3 + (q3 ^^^ q5))), .second, .val (.long (q4 + (q4 - q6))), .second, .unset] [(.ref b94), (.ref b94)])) (fun _ k => XS.aload X201.here hx rfl (hb hby at_235) rfl rfl k) ?_
  obtain ⟨cq202, kq202, q202a, q202b, q202c⟩ := isOf hZ e201 f176
  obtain ⟨_, _, ⟨T202, L202, k202, n202⟩, -, X202, ⟨Lc202, hQ202, l202, y202, z202⟩, st202⟩ := X201.virtualBack hx (y := (⟨"com/example/stripeguard/stripeguard/cli/Tally", "add", "(Lcom/example/stripeguard/stripeguard/cli/Tally;)V"⟩ : MethodName)) (z := (⟨"com/example/stripeguard/stripeguard/cli/Tally", "add", "(Lcom/example/stripeguard/stripeguard/cli/Tally;)V"⟩ : MethodName)) hown (mvT hZ (wi hw 17 rfl)) (mvT hZ (wi hw 18 rfl)) (notFace_of_selects (args := #[]) (mvT hZ (wi hw 20 rfl))) (mvT hZ (wi hw 20 rfl)) (mvT hZ (wi hw 19 rfl)) (by decide) (backOf (W := 0) (rmAddS l Z a0 hw [] b94 (q1 + q5) (q2 + q6) (q3 + (q3 ^^^ q5)) (q4 + (q4 - q6)) T174.heap n0 z175 f176 F174_writes F174_reads F174_wrong F174_misses n0b94) hZ (wi hw 21 rfl) (wi hw 2 rfl) (by decide) (by decide)) q202a q202c (g := (mkF m 237 #[.val (.long q1), .second, .val (.long q2), .second, .val (.long q3), .second, .val (.long q4), .second, .val (.long q5), .second, .val (.long q6), .second, .val (.long (q3 ^^^ q5)), .second, .val (.long (q4 - q6)), .second, .val (.ref b94), .val (.ref b121), .val (.int (1 : Int32)), .val (.int (1 : Int32)), .val (.long (q1 + q5)), .second, .val (.long (q2 + q6)), .second, .val (.long (q3 + (q3 ^^^ q5))), .second, .val (.long (q4 + (q4 - q6))), .second, .unset] [(.ref b94), (.ref b94)])) rfl (by rw [hml]; rfl) (Steps.refl _) (argsL := [(.ref b94)]) (rest := []) (lenOf pd_3 rfl) rfl (by show 2 * 0 + _ ≤ _; exact Nat.le_of_eq rfl) (hb hby at_237) (fun _ _ => ⟨rfl, e201, (by decide : 2 + 0 ≤ _), (by decide : 8 + 0 ≤ _)⟩)
  dsimp only [Pt.U, Pt.locs, Pt.cells, Pt.slots] at X202 l202 y202 z202 st202 hQ202
  subst l202 y202 z202
  obtain ⟨rfl, N202q, K202q, F202_writes, F202_reads, F202_wrong, F202_misses⟩ := hQ202
  have N202 := Fr.app N174 N202q
  have z203 := Nat.le_trans z175 K202q.1
  have f204 := f176.keep K202q
  have f205 := f177.keep K202q
  have f206 := f178.keep K202q (ninS (Ne.symm ne122) nin0)
  have f207 := f179.keep K202q (ninS (Ne.symm ne122) nin0)
  have f208 := f180.keep K202q (ninS (Ne.symm ne122) nin0)
  have f209 := f181.keep K202q (ninS (Ne.symm ne122) nin0)
  refine Rch.to (U' := T202.setTop (mkF m 240 #[.val (.long q1), .second, .val (.long q2), .second, .val (.long q3), .second, .val (.long q4), .second, .val (.long q5), .second, .val (.long q6), .second, .val (.long (q3 ^^^ q5)), .second, .val (.long (q4 - q6)), .second, .val (.ref b94), .val (.ref b121), .val (.int (1 : Int32)), .val (.int (1 : Int32)), .val (.long (q1 + q5)), .second, .val (.long (q2 + q6)), .second, .val (.long (q3 + (q3 ^^^ q5))), .second, .val (.long (q4 + (q4 - q6))), .second, .unset] [])) st202 ?_
  refine Rch.go (U' := T202.setTop (mkF m 242 #[.val (.long q1), .second, .val (.long q2), .second, .val (.long q3), .second, .val (.long q4), .second, .val (.long q5), .second, .val (.long q6), .second, .val (.long (q3 ^^^ q5)), .second, .val (.long (q4 - q6)), .second, .val (.ref b94), .val (.ref b121), .val (.int (1 : Int32)), .val (.int (1 : Int32)), .val (.long (q1 + q5)), .second, .val (.long (q2 + q6)), .second, .val (.long (q3 + (q3 ^^^ q5))), .second, .val (.long (q4 + (q4 - q6))), .second, .unset] [(.ref b94)])) (fun _ k => XS.aload X202.here hx rfl (hb hby at_240) rfl rfl k) ?_
  obtain ⟨T210, X210, e210, st210⟩ := getF X202 hx hZ hown (host := "") (Or.inl (wi hw 9 rfl)) Via.refl rfl F202_writes (g := (mkF m 242 #[.val (.long q1), .second, .val (.long q2), .second, .val (.long q3), .second, .val (.long q4), .second, .val (.long q5), .second, .val (.long q6), .second, .val (.long (q3 ^^^ q5)), .second, .val (.long (q4 - q6)), .second, .val (.ref b94), .val (.ref b121), .val (.int (1 : Int32)), .val (.int (1 : Int32)), .val (.long (q1 + q5)), .second, .val (.long (q2 + q6)), .second, .val (.long (q3 + (q3 ^^^ q5))), .second, .val (.long (q4 + (q4 - q6))), .second, .unset] [(.ref b94)])) rfl rfl (hb hby at_242)
  refine Rch.go (U' := T210.setTop (mkF m 245 #[.val (.long q1), .second, .val (.long q2), .second, .val (.long q3), .second, .val (.long q4), .second, .val (.long q5), .second, .val (.long q6), .second, .val (.long (q3 ^^^ q5)), .second, .val (.long (q4 - q6)), .second, .val (.ref b94), .val (.ref b121), .val (.int (1 : Int32)), .val (.int (1 : Int32)), .val (.long (q1 + q5)), .second, .val (.long (q2 + q6)), .second, .val (.long (q3 + (q3 ^^^ q5))), .second, .val (.long (q4 + (q4 - q6))), .second, .unset] [(.long ((q1 + q5) + (q1 + q5)))])) st210 ?_
  refine Rch.go (U' := T210.setTop (mkF m 247 #[.val (.long q1), .second, .val (.long q2), .second, .val (.long q3), .second, .val (.long q4), .second, .val (.long q5), .second, .val (.long q6), .second, .val (.long (q3 ^^^ q5)), .second, .val (.long (q4 - q6)), .second, .val (.ref b94), .val (.ref b121), .val (.int (1 : Int32)), .val (.int (1 : Int32)), .val (.long (q1 + q5)), .second, .val (.long (q2 + q6)), .second, .val (.long (q3 + (q3 ^^^ q5))), .second, .val (.long (q4 + (q4 - q6))), .second, .unset] [(.long (q1 + q5)), (.long ((q1 + q5) + (q1 + q5)))])) (fun _ k => XS.lload X210.here hx rfl (hb hby at_245) rfl  k) ?_
  refine Rch.go (U' := T210.setTop (mkF m 249 #[.val (.long q1), .second, .val (.long q2), .second, .val (.long q3), .second, .val (.long q4), .second, .val (.long q5), .second, .val (.long q6), .second, .val (.long (q3 ^^^ q5)), .second, .val (.long (q4 - q6)), .second, .val (.ref b94), .val (.ref b121), .val (.int (1 : Int32)), .val (.int (1 : Int32)), .val (.long (q1 + q5)), .second, .val (.long (q2 + q6)), .second, .val (.long (q3 + (q3 ^^^ q5))), .second, .val (.long (q4 + (q4 - q6))), .second, .unset] [(.long (q1 + q5)), (.long (q1 + q5)), (.long ((q1 + q5) + (q1 + q5)))])) (fun _ k => XS.lload X210.here hx rfl (hb hby at_247) rfl  k) ?_
  refine Rch.go (U' := T210.setTop (mkF m 250 #[.val (.long q1), .second, .val (.long q2), .second, .val (.long q3), .second, .val (.long q4), .second, .val (.long q5), .second, .val (.long q6), .second, .val (.long (q3 ^^^ q5)), .second, .val (.long (q4 - q6)), .second, .val (.ref b94), .val (.ref b121), .val (.int (1 : Int32)), .val (.int (1 : Int32)), .val (.long (q1 + q5)), .second, .val (.long (q2 + q6)), .second, .val (.long (q3 + (q3 ^^^ q5))), .second, .val (.long (q4 + (q4 - q6))), .second, .unset] [(.long ((q1 + q5) + (q1 + q5))), (.long ((q1 + q5) + (q1 + q5)))])) (fun _ k => XS.ladd X210.here hx rfl (hb hby at_249) rfl k) ?_
  refine Rch.go (U' := T210.setTop (mkF m 251 #[.val (.long q1), .second, .val (.long q2), .second, .val (.long q3), .second, .val (.long q4), .second, .val (.long q5), .second, .val (.long q6), .second, .val (.long (q3 ^^^ q5)), .second, .val (.long (q4 - q6)), .second, .val (.ref b94), .val (.ref b121), .val (.int (1 : Int32)), .val (.int (1 : Int32)), .val (.long (q1 + q5)), .second, .val (.long (q2 + q6)), .second, .val (.long (q3 + (q3 ^^^ q5))), .second, .val (.long (q4 + (q4 - q6))), .second, .unset] [(.int (XT.cmpL ((q1 + q5) + (q1 + q5)) ((q1 + q5) + (q1 + q5))))])) (fun _ k => XT.lcmp X210.here hx rfl (hb hby at_250) rfl k) ?_
  have br211 : ((q1 + q5) + (q1 + q5)) = ((q1 + q5) + (q1 + q5)) := rfl
  refine Rch.go (U' := T210.setTop (mkF m 254 #[.val (.long q1), .second, .val (.long q2), .second, .val (.long q3), .second, .val (.long q4), .second, .val (.long q5), .second, .val (.long q6), .second, .val (.long (q3 ^^^ q5)), .second, .val (.long (q4 - q6)), .second, .val (.ref b94), .val (.ref b121), .val (.int (1 : Int32)), .val (.int (1 : Int32)), .val (.long (q1 + q5)), .second, .val (.long (q2 + q6)), .second, .val (.long (q3 + (q3 ^^^ q5))), .second, .val (.long (q4 + (q4 - q6))), .second, .unset] [])) (fun _ k => XS.ifNo X210.here hx rfl (hb hby at_251) rfl (XT.ll_ne_f br211) k) ?_
  refine Rch.go (U' := T210.setTop (mkF m 256 #[.val (.long q1), .second, .val (.long q2), .second, .val (.long q3), .second, .val (.long q4), .second, .val (.long q5), .second, .val (.long q6), .second, .val (.long (q3 ^^^ q5)), .second, .val (.long (q4 - q6)), .second, .val (.ref b94), .val (.ref b121), .val (.int (1 : Int32)), .val (.int (1 : Int32)), .val (.long (q1 + q5)), .second, .val (.long (q2 + q6)), .second, .val (.long (q3 + (q3 ^^^ q5))), .second, .val (.long (q4 + (q4 - q6))), .second, .unset] [(.ref b94)])) (fun _ k => XS.aload X210.here hx rfl (hb hby at_254) rfl rfl k) ?_
  obtain ⟨T212, X212, e212, st212⟩ := getF X210 hx hZ hown (host := "") (Or.inl (wi hw 11 rfl)) Via.refl e210 F202_reads (g := (mkF m 256 #[.val (.long q1), .second, .val (.long q2), .second, .val (.long q3), .second, .val (.long q4), .second, .val (.long q5), .second, .val (.long q6), .second, .val (.long (q3 ^^^ q5)), .second, .val (.long (q4 - q6)), .second, .val (.ref b94), .val (.ref b121), .val (.int (1 : Int32)), .val (.int (1 : Int32)), .val (.long (q1 + q5)), .second, .val (.long (q2 + q6)), .second, .val (.long (q3 + (q3 ^^^ q5))), .second, .val (.long (q4 + (q4 - q6))), .second, .unset] [(.ref b94)])) rfl rfl (hb hby at_256)
  refine Rch.go (U' := T212.setTop (mkF m 259 #[.val (.long q1), .second, .val (.long q2), .second, .val (.long q3), .second, .val (.long q4), .second, .val (.long q5), .second, .val (.long q6), .second, .val (.long (q3 ^^^ q5)), .second, .val (.long (q4 - q6)), .second, .val (.ref b94), .val (.ref b121), .val (.int (1 : Int32)), .val (.int (1 : Int32)), .val (.long (q1 + q5)), .second, .val (.long (q2 + q6)), .second, .val (.long (q3 + (q3 ^^^ q5))), .second, .val (.long (q4 + (q4 - q6))), .second, .unset] [(.long ((q2 + q6) + (q2 + q6)))])) st212 ?_
  refine Rch.go (U' := T212.setTop (mkF m 261 #[.val (.long q1), .second, .val (.long q2), .second, .val (.long q3), .second, .val (.long q4), .second, .val (.long q5), .second, .val (.long q6), .second, .val (.long (q3 ^^^ q5)), .second, .val (.long (q4 - q6)), .second, .val (.ref b94), .val (.ref b121), .val (.int (1 : Int32)), .val (.int (1 : Int32)), .val (.long (q1 + q5)), .second, .val (.long (q2 + q6)), .second, .val (.long (q3 + (q3 ^^^ q5))), .second, .val (.long (q4 + (q4 - q6))), .second, .unset] [(.long (q2 + q6)), (.long ((q2 + q6) + (q2 + q6)))])) (fun _ k => XS.lload X212.here hx rfl (hb hby at_259) rfl  k) ?_
  refine Rch.go (U' := T212.setTop (mkF m 263 #[.val (.long q1), .second, .val (.long q2), .second, .val (.long q3), .second, .val (.long q4), .second, .val (.long q5), .second, .val (.long q6), .second, .val (.long (q3 ^^^ q5)), .second, .val (.long (q4 - q6)), .second, .val (.ref b94), .val (.ref b121), .val (.int (1 : Int32)), .val (.int (1 : Int32)), .val (.long (q1 + q5)), .second, .val (.long (q2 + q6)), .second, .val (.long (q3 + (q3 ^^^ q5))), .second, .val (.long (q4 + (q4 - q6))), .second, .unset] [(.long (q2 + q6)), (.long (q2 + q6)), (.long ((q2 + q6) + (q2 + q6)))])) (fun _ k => XS.lload X212.here hx rfl (hb hby at_261) rfl  k) ?_
  refine Rch.go (U' := T212.setTop (mkF m 264 #[.val (.long q1), .second, .val (.long q2), .second, .val (.long q3), .second, .val (.long q4), .second, .val (.long q5), .second, .val (.long q6), .second, .val (.long (q3 ^^^ q5)), .second, .val (.long (q4 - q6)), .second, .val (.ref b94), .val (.ref b121), .val (.int (1 : Int32)), .val (.int (1 : Int32)), .val (.long (q1 + q5)), .second, .val (.long (q2 + q6)), .second, .val (.long (q3 + (q3 ^^^ q5))), .second, .val (.long (q4 + (q4 - q6))), .second, .unset] [(.long ((q2 + q6) + (q2 + q6))), (.long ((q2 + q6) + (q2 + q6)))])) (fun _ k => XS.ladd X212.here hx rfl (hb hby at_263) rfl k) ?_
  refine Rch.go (U' := T212.setTop (mkF m 265 #[.val (.long q1), .second, .val (.long q2), .second, .val (.long q3), .second, .val (.long q4), .second, .val (.long q5), .second, .val (.long q6), .second, .val (.long (q3 ^^^ q5)), .second, .val (.long (q4 - q6)), .second, .val (.ref b94), .val (.ref b121), .val (.int (1 : Int32)), .val (.int (1 : Int32)), .val (.long (q1 + q5)), .second, .val (.long (q2 + q6)), .second, .val (.long (q3 + (q3 ^^^ q5))), .second, .val (.long (q4 + (q4 - q6))), .second, .unset] [(.int (XT.cmpL ((q2 + q6) + (q2 + q6)) ((q2 + q6) + (q2 + q6))))])) (fun _ k => XT.lcmp X212.here hx rfl (hb hby at_264) rfl k) ?_
  have br213 : ((q2 + q6) + (q2 + q6)) = ((q2 + q6) + (q2 + q6)) := rfl
  refine Rch.go (U' := T212.setTop (mkF m 268 #[.val (.long q1), .second, .val (.long q2), .second, .val (.long q3), .second, .val (.long q4), .second, .val (.long q5), .second, .val (.long q6), .second, .val (.long (q3 ^^^ q5)), .second, .val (.long (q4 - q6)), .second, .val (.ref b94), .val (.ref b121), .val (.int (1 : Int32)), .val (.int (1 : Int32)), .val (.long (q1 + q5)), .second, .val (.long (q2 + q6)), .second, .val (.long (q3 + (q3 ^^^ q5))), .second, .val (.long (q4 + (q4 - q6))), .second, .unset] [])) (fun _ k => XS.ifNo X212.here hx rfl (hb hby at_265) rfl (XT.ll_ne_f br213) k) ?_
  refine Rch.go (U' := T212.setTop (mkF m 270 #[.val (.long q1), .second, .val (.long q2), .second, .val (.long q3), .second, .val (.long q4), .second, .val (.long q5), .second, .val (.long q6), .second, .val (.long (q3 ^^^ q5)), .second, .val (.long (q4 - q6)), .second, .val (.ref b94), .val (.ref b121), .val (.int (1 : Int32)), .val (.int (1 : Int32)), .val (.long (q1 + q5)), .second, .val (.long (q2 + q6)), .second, .val (.long (q3 + (q3 ^^^ q5))), .second, .val (.long (q4 + (q4 - q6))), .second, .unset] [(.ref b94)])) (fun _ k => XS.aload X212.here hx rfl (hb hby at_268) rfl rfl k) ?_
  obtain ⟨T214, X214, e214, st214⟩ := getF X212 hx hZ hown (host := "") (Or.inl (wi hw 13 rfl)) Via.refl e212 F202_wrong (g := (mkF m 270 #[.val (.long q1), .second, .val (.long q2), .second, .val (.long q3), .second, .val (.long q4), .second, .val (.long q5), .second, .val (.long q6), .second, .val (.long (q3 ^^^ q5)), .second, .val (.long (q4 - q6)), .second, .val (.ref b94), .val (.ref b121), .val (.int (1 : Int32)), .val (.int (1 : Int32)), .val (.long (q1 + q5)), .second, .val (.long (q2 + q6)), .second, .val (.long (q3 + (q3 ^^^ q5))), .second, .val (.long (q4 + (q4 - q6))), .second, .unset] [(.ref b94)])) rfl rfl (hb hby at_270)
  refine Rch.go (U' := T214.setTop (mkF m 273 #[.val (.long q1), .second, .val (.long q2), .second, .val (.long q3), .second, .val (.long q4), .second, .val (.long q5), .second, .val (.long q6), .second, .val (.long (q3 ^^^ q5)), .second, .val (.long (q4 - q6)), .second, .val (.ref b94), .val (.ref b121), .val (.int (1 : Int32)), .val (.int (1 : Int32)), .val (.long (q1 + q5)), .second, .val (.long (q2 + q6)), .second, .val (.long (q3 + (q3 ^^^ q5))), .second, .val (.long (q4 + (q4 - q6))), .second, .unset] [(.long ((q3 + (q3 ^^^ q5)) + (q3 + (q3 ^^^ q5))))])) st214 ?_
  refine Rch.go (U' := T214.setTop (mkF m 275 #[.val (.long q1), .second, .val (.long q2), .second, .val (.long q3), .second, .val (.long q4), .second, .val (.long q5), .second, .val (.long q6), .second, .val (.long (q3 ^^^ q5)), .second, .val (.long (q4 - q6)), .second, .val (.ref b94), .val (.ref b121), .val (.int (1 : Int32)), .val (.int (1 : Int32)), .val (.long (q1 + q5)), .second, .val (.long (q2 + q6)), .second, .val (.long (q3 + (q3 ^^^ q5))), .second, .val (.long (q4 + (q4 - q6))), .second, .unset] [(.long (q3 + (q3 ^^^ q5))), (.long ((q3 + (q3 ^^^ q5)) + (q3 + (q3 ^^^ q5))))])) (fun _ k => XS.lload X214.here hx rfl (hb hby at_273) rfl  k) ?_
  refine Rch.go (U' := T214.setTop (mkF m 277 #[.val (.long q1), .second, .val (.long q2), .second, .val (.long q3), .second, .val (.long q4), .second, .val (.long q5), .second, .val (.long q6), .second, .val (.long (q3 ^^^ q5)), .second, .val (.long (q4 - q6)), .second, .val (.ref b94), .val (.ref b121), .val (.int (1 : Int32)), .val (.int (1 : Int32)), .val (.long (q1 + q5)), .second, .val (.long (q2 + q6)), .second, .val (.long (q3 + (q3 ^^^ q5))), .second, .val (.long (q4 + (q4 - q6))), .second, .unset] [(.long (q3 + (q3 ^^^ q5))), (.long (q3 + (q3 ^^^ q5))), (.long ((q3 + (q3 ^^^ q5)) + (q3 + (q3 ^^^ q5))))])) (fun _ k => XS.lload X214.here hx rfl (hb hby at_275) rfl  k) ?_
  refine Rch.go (U' := T214.setTop (mkF m 278 #[.val (.long q1), .second, .val (.long q2), .second, .val (.long q3), .second, .val (.long q4), .second, .val (.long q5), .second, .val (.long q6), .second, .val (.long (q3 ^^^ q5)), .second, .val (.long (q4 - q6)), .second, .val (.ref b94), .val (.ref b121), .val (.int (1 : Int32)), .val (.int (1 : Int32)), .val (.long (q1 + q5)), .second, .val (.long (q2 + q6)), .second, .val (.long (q3 + (q3 ^^^ q5))), .second, .val (.long (q4 + (q4 - q6))), .second, .unset] [(.long ((q3 + (q3 ^^^ q5)) + (q3 + (q3 ^^^ q5)))), (.long ((q3 + (q3 ^^^ q5)) + (q3 + (q3 ^^^ q5))))])) (fun _ k => XS.ladd X214.here hx rfl (hb hby at_277) rfl k) ?_
  refine Rch.go (U' := T214.setTop (mkF m 279 #[.val (.long q1), .second, .val (.long q2), .second, .val (.long q3), .second, .val (.long q4), .second, .val (.long q5), .second, .val (.long q6), .second, .val (.long (q3 ^^^ q5)), .second, .val (.long (q4 - q6)), .second, .val (.ref b94), .val (.ref b121), .val (.int (1 : Int32)), .val (.int (1 : Int32)), .val (.long (q1 + q5)), .second, .val (.long (q2 + q6)), .second, .val (.long (q3 + (q3 ^^^ q5))), .second, .val (.long (q4 + (q4 - q6))), .second, .unset] [(.int (XT.cmpL ((q3 + (q3 ^^^ q5)) + (q3 + (q3 ^^^ q5))) ((q3 + (q3 ^^^ q5)) + (q3 + (q3 ^^^ q5)))))])) (fun _ k => XT.lcmp X214.here hx rfl (hb hby at_278) rfl k) ?_
  have br215 : ((q3 + (q3 ^^^ q5)) + (q3 + (q3 ^^^ q5))) = ((q3 + (q3 ^^^ q5)) + (q3 + (q3 ^^^ q5))) := rfl
  refine Rch.go (U' := T214.setTop (mkF m 282 #[.val (.long q1), .second, .val (.long q2), .second, .val (.long q3), .second, .val (.long q4), .second, .val (.long q5), .second, .val (.long q6), .second, .val (.long (q3 ^^^ q5)), .second, .val (.long (q4 - q6)), .second, .val (.ref b94), .val (.ref b121), .val (.int (1 : Int32)), .val (.int (1 : Int32)), .val (.long (q1 + q5)), .second, .val (.long (q2 + q6)), .second, .val (.long (q3 + (q3 ^^^ q5))), .second, .val (.long (q4 + (q4 - q6))), .second, .unset] [])) (fun _ k => XS.ifNo X214.here hx rfl (hb hby at_279) rfl (XT.ll_ne_f br215) k) ?_
  refine Rch.go (U' := T214.setTop (mkF m 284 #[.val (.long q1), .second, .val (.long q2), .second, .val (.long q3), .second, .val (.long q4), .second, .val (.long q5), .second, .val (.long q6), .second, .val (.long (q3 ^^^ q5)), .second, .val (.long (q4 - q6)), .second, .val (.ref b94), .val (.ref b121), .val (.int (1 : Int32)), .val (.int (1 : Int32)), .val (.long (q1 + q5)), .second, .val (.long (q2 + q6)), .second, .val (.long (q3 + (q3 ^^^ q5))), .second, .val (.long (q4 + (q4 - q6))), .second, .unset] [(.ref b94)])) (fun _ k => XS.aload X214.here hx rfl (hb hby at_282) rfl rfl k) ?_
  obtain ⟨T216, X216, e216, st216⟩ := getF X214 hx hZ hown (host := "") (Or.inl (wi hw 15 rfl)) Via.refl e214 F202_misses (g := (mkF m 284 #[.val (.long q1), .second, .val (.long q2), .second, .val (.long q3), .second, .val (.long q4), .second, .val (.long q5), .second, .val (.long q6), .second, .val (.long (q3 ^^^ q5)), .second, .val (.long (q4 - q6)), .second, .val (.ref b94), .val (.ref b121), .val (.int (1 : Int32)), .val (.int (1 : Int32)), .val (.long (q1 + q5)), .second, .val (.long (q2 + q6)), .second, .val (.long (q3 + (q3 ^^^ q5))), .second, .val (.long (q4 + (q4 - q6))), .second, .unset] [(.ref b94)])) rfl rfl (hb hby at_284)
  refine Rch.go (U' := T216.setTop (mkF m 287 #[.val (.long q1), .second, .val (.long q2), .second, .val (.long q3), .second, .val (.long q4), .second, .val (.long q5), .second, .val (.long q6), .second, .val (.long (q3 ^^^ q5)), .second, .val (.long (q4 - q6)), .second, .val (.ref b94), .val (.ref b121), .val (.int (1 : Int32)), .val (.int (1 : Int32)), .val (.long (q1 + q5)), .second, .val (.long (q2 + q6)), .second, .val (.long (q3 + (q3 ^^^ q5))), .second, .val (.long (q4 + (q4 - q6))), .second, .unset] [(.long ((q4 + (q4 - q6)) + (q4 + (q4 - q6))))])) st216 ?_
  refine Rch.go (U' := T216.setTop (mkF m 289 #[.val (.long q1), .second, .val (.long q2), .second, .val (.long q3), .second, .val (.long q4), .second, .val (.long q5), .second, .val (.long q6), .second, .val (.long (q3 ^^^ q5)), .second, .val (.long (q4 - q6)), .second, .val (.ref b94), .val (.ref b121), .val (.int (1 : Int32)), .val (.int (1 : Int32)), .val (.long (q1 + q5)), .second, .val (.long (q2 + q6)), .second, .val (.long (q3 + (q3 ^^^ q5))), .second, .val (.long (q4 + (q4 - q6))), .second, .unset] [(.long (q4 + (q4 - q6))), (.long ((q4 + (q4 - q6)) + (q4 + (q4 - q6))))])) (fun _ k => XS.lload X216.here hx rfl (hb hby at_287) rfl  k) ?_
  refine Rch.go (U' := T216.setTop (mkF m 291 #[.val (.long q1), .second, .val (.long q2), .second, .val (.long q3), .second, .val (.long q4), .second, .val (.long q5), .second, .val (.long q6), .second, .val (.long (q3 ^^^ q5)), .second, .val (.long (q4 - q6)), .second, .val (.ref b94), .val (.ref b121), .val (.int (1 : Int32)), .val (.int (1 : Int32)), .val (.long (q1 + q5)), .second, .val (.long (q2 + q6)), .second, .val (.long (q3 + (q3 ^^^ q5))), .second, .val (.long (q4 + (q4 - q6))), .second, .unset] [(.long (q4 + (q4 - q6))), (.long (q4 + (q4 - q6))), (.long ((q4 + (q4 - q6)) + (q4 + (q4 - q6))))])) (fun _ k => XS.lload X216.here hx rfl (hb hby at_289) rfl  k) ?_
  refine Rch.go (U' := T216.setTop (mkF m 292 #[.val (.long q1), .second, .val (.long q2), .second, .val (.long q3), .second, .val (.long q4), .second, .val (.long q5), .second, .val (.long q6), .second, .val (.long (q3 ^^^ q5)), .second, .val (.long (q4 - q6)), .second, .val (.ref b94), .val (.ref b121), .val (.int (1 : Int32)), .val (.int (1 : Int32)), .val (.long (q1 + q5)), .second, .val (.long (q2 + q6)), .second, .val (.long (q3 + (q3 ^^^ q5))), .second, .val (.long (q4 + (q4 - q6))), .second, .unset] [(.long ((q4 + (q4 - q6)) + (q4 + (q4 - q6)))), (.long ((q4 + (q4 - q6)) + (q4 + (q4 - q6))))])) (fun _ k => XS.ladd X216.here hx rfl (hb hby at_291) rfl k) ?_
  refine Rch.go (U' := T216.setTop (mkF m 293 #[.val (.long q1), .second, .val (.long q2), .second, .val (.long q3), .second, .val (.long q4), .second, .val (.long q5), .second, .val (.long q6), .second, .val (.long (q3 ^^^ q5)), .second, .val (.long (q4 - q6)), .second, .val (.ref b94), .val (.ref b121), .val (.int (1 : Int32)), .val (.int (1 : Int32)), .val (.long (q1 + q5)), .second, .val (.long (q2 + q6)), .second, .val (.long (q3 + (q3 ^^^ q5))), .second, .val (.long (q4 + (q4 - q6))), .second, .unset] [(.int (XT.cmpL ((q4 + (q4 - q6)) + (q4 + (q4 - q6))) ((q4 + (q4 - q6)) + (q4 + (q4 - q6)))))])) (fun _ k => XT.lcmp X216.here hx rfl (hb hby at_292) rfl k) ?_
  have br217 : ((q4 + (q4 - q6)) + (q4 + (q4 - q6))) = ((q4 + (q4 - q6)) + (q4 + (q4 - q6))) := rfl
  refine Rch.go (U' := T216.setTop (mkF m 296 #[.val (.long q1), .second, .val (.long q2), .second, .val (.long q3), .second, .val (.long q4), .second, .val (.long q5), .second, .val (.long q6), .second, .val (.long (q3 ^^^ q5)), .second, .val (.long (q4 - q6)), .second, .val (.ref b94), .val (.ref b121), .val (.int (1 : Int32)), .val (.int (1 : Int32)), .val (.long (q1 + q5)), .second, .val (.long (q2 + q6)), .second, .val (.long (q3 + (q3 ^^^ q5))), .second, .val (.long (q4 + (q4 - q6))), .second, .unset] [])) (fun _ k => XS.ifNo X216.here hx rfl (hb hby at_293) rfl (XT.ll_ne_f br217) k) ?_
  refine Rch.go (U' := T216.setTop (mkF m 297 #[.val (.long q1), .second, .val (.long q2), .second, .val (.long q3), .second, .val (.long q4), .second, .val (.long q5), .second, .val (.long q6), .second, .val (.long (q3 ^^^ q5)), .second, .val (.long (q4 - q6)), .second, .val (.ref b94), .val (.ref b121), .val (.int (1 : Int32)), .val (.int (1 : Int32)), .val (.long (q1 + q5)), .second, .val (.long (q2 + q6)), .second, .val (.long (q3 + (q3 ^^^ q5))), .second, .val (.long (q4 + (q4 - q6))), .second, .unset] [(.int (1 : Int32))])) (fun _ k => XS.iconst X216.here hx rfl (hb hby at_296) k) ?_
  refine Rch.go (U' := T216.setTop (mkF m 301 #[.val (.long q1), .second, .val (.long q2), .second, .val (.long q3), .second, .val (.long q4), .second, .val (.long q5), .second, .val (.long q6), .second, .val (.long (q3 ^^^ q5)), .second, .val (.long (q4 - q6)), .second, .val (.ref b94), .val (.ref b121), .val (.int (1 : Int32)), .val (.int (1 : Int32)), .val (.long (q1 + q5)), .second, .val (.long (q2 + q6)), .second, .val (.long (q3 + (q3 ^^^ q5))), .second, .val (.long (q4 + (q4 - q6))), .second, .unset] [(.int (1 : Int32))])) (fun _ k => XS.goto X216.here hx rfl (pc0 := 297) (pc' := 301) rfl (hb hby at_297) (by decide) (by decide) k) ?_
  refine Rch.go (U' := T216.setTop (mkF m 303 #[.val (.long q1), .second, .val (.long q2), .second, .val (.long q3), .second, .val (.long q4), .second, .val (.long q5), .second, .val (.long q6), .second, .val (.long (q3 ^^^ q5)), .second, .val (.long (q4 - q6)), .second, .val (.ref b94), .val (.ref b121), .val (.int (1 : Int32)), .val (.int (1 : Int32)), .val (.long (q1 + q5)), .second, .val (.long (q2 + q6)), .second, .val (.long (q3 + (q3 ^^^ q5))), .second, .val (.long (q4 + (q4 - q6))), .second, .val (.int (1 : Int32))] [])) (fun _ k => XS.istore X216.here hx rfl (hb hby at_301) rfl (l' := #[.val (.long q1), .second, .val (.long q2), .second, .val (.long q3), .second, .val (.long q4), .second, .val (.long q5), .second, .val (.long q6), .second, .val (.long (q3 ^^^ q5)), .second, .val (.long (q4 - q6)), .second, .val (.ref b94), .val (.ref b121), .val (.int (1 : Int32)), .val (.int (1 : Int32)), .val (.long (q1 + q5)), .second, .val (.long (q2 + q6)), .second, .val (.long (q3 + (q3 ^^^ q5))), .second, .val (.long (q4 + (q4 - q6))), .second, .val (.int (1 : Int32))]) rfl k) ?_
  refine Rch.go (U' := T216.setTop (mkF m 305 #[.val (.long q1), .second, .val (.long q2), .second, .val (.long q3), .second, .val (.long q4), .second, .val (.long q5), .second, .val (.long q6), .second, .val (.long (q3 ^^^ q5)), .second, .val (.long (q4 - q6)), .second, .val (.ref b94), .val (.ref b121), .val (.int (1 : Int32)), .val (.int (1 : Int32)), .val (.long (q1 + q5)), .second, .val (.long (q2 + q6)), .second, .val (.long (q3 + (q3 ^^^ q5))), .second, .val (.long (q4 + (q4 - q6))), .second, .val (.int (1 : Int32))] [(.int (1 : Int32))])) (fun _ k => XS.iload X216.here hx rfl (hb hby at_303) rfl  k) ?_
  have br218 : ¬ ((1 : Int32) = (0 : Int32)) := (by decide)
  refine Rch.go (U' := T216.setTop (mkF m 308 #[.val (.long q1), .second, .val (.long q2), .second, .val (.long q3), .second, .val (.long q4), .second, .val (.long q5), .second, .val (.long q6), .second, .val (.long (q3 ^^^ q5)), .second, .val (.long (q4 - q6)), .second, .val (.ref b94), .val (.ref b121), .val (.int (1 : Int32)), .val (.int (1 : Int32)), .val (.long (q1 + q5)), .second, .val (.long (q2 + q6)), .second, .val (.long (q3 + (q3 ^^^ q5))), .second, .val (.long (q4 + (q4 - q6))), .second, .val (.int (1 : Int32))] [])) (fun _ k => XS.ifNo X216.here hx rfl (hb hby at_305) rfl (XT.i0_eq_f br218) k) ?_
  refine Rch.go (U' := T216.setTop (mkF m 310 #[.val (.long q1), .second, .val (.long q2), .second, .val (.long q3), .second, .val (.long q4), .second, .val (.long q5), .second, .val (.long q6), .second, .val (.long (q3 ^^^ q5)), .second, .val (.long (q4 - q6)), .second, .val (.ref b94), .val (.ref b121), .val (.int (1 : Int32)), .val (.int (1 : Int32)), .val (.long (q1 + q5)), .second, .val (.long (q2 + q6)), .second, .val (.long (q3 + (q3 ^^^ q5))), .second, .val (.long (q4 + (q4 - q6))), .second, .val (.int (1 : Int32))] [(.int (1 : Int32))])) (fun _ k => XS.iload X216.here hx rfl (hb hby at_308) rfl  k) ?_
  have br219 : ¬ ((1 : Int32) = (0 : Int32)) := (by decide)
  refine Rch.go (U' := T216.setTop (mkF m 313 #[.val (.long q1), .second, .val (.long q2), .second, .val (.long q3), .second, .val (.long q4), .second, .val (.long q5), .second, .val (.long q6), .second, .val (.long (q3 ^^^ q5)), .second, .val (.long (q4 - q6)), .second, .val (.ref b94), .val (.ref b121), .val (.int (1 : Int32)), .val (.int (1 : Int32)), .val (.long (q1 + q5)), .second, .val (.long (q2 + q6)), .second, .val (.long (q3 + (q3 ^^^ q5))), .second, .val (.long (q4 + (q4 - q6))), .second, .val (.int (1 : Int32))] [])) (fun _ k => XS.ifNo X216.here hx rfl (hb hby at_310) rfl (XT.i0_eq_f br219) k) ?_
  refine Rch.go (U' := T216.setTop (mkF m 315 #[.val (.long q1), .second, .val (.long q2), .second, .val (.long q3), .second, .val (.long q4), .second, .val (.long q5), .second, .val (.long q6), .second, .val (.long (q3 ^^^ q5)), .second, .val (.long (q4 - q6)), .second, .val (.ref b94), .val (.ref b121), .val (.int (1 : Int32)), .val (.int (1 : Int32)), .val (.long (q1 + q5)), .second, .val (.long (q2 + q6)), .second, .val (.long (q3 + (q3 ^^^ q5))), .second, .val (.long (q4 + (q4 - q6))), .second, .val (.int (1 : Int32))] [(.int (1 : Int32))])) (fun _ k => XS.iload X216.here hx rfl (hb hby at_313) rfl  k) ?_
  have br220 : ¬ ((1 : Int32) = (0 : Int32)) := (by decide)
  refine Rch.go (U' := T216.setTop (mkF m 318 #[.val (.long q1), .second, .val (.long q2), .second, .val (.long q3), .second, .val (.long q4), .second, .val (.long q5), .second, .val (.long q6), .second, .val (.long (q3 ^^^ q5)), .second, .val (.long (q4 - q6)), .second, .val (.ref b94), .val (.ref b121), .val (.int (1 : Int32)), .val (.int (1 : Int32)), .val (.long (q1 + q5)), .second, .val (.long (q2 + q6)), .second, .val (.long (q3 + (q3 ^^^ q5))), .second, .val (.long (q4 + (q4 - q6))), .second, .val (.int (1 : Int32))] [])) (fun _ k => XS.ifNo X216.here hx rfl (hb hby at_315) rfl (XT.i0_eq_f br220) k) ?_
  refine Rch.go (U' := T216.setTop (mkF m 319 #[.val (.long q1), .second, .val (.long q2), .second, .val (.long q3), .second, .val (.long q4), .second, .val (.long q5), .second, .val (.long q6), .second, .val (.long (q3 ^^^ q5)), .second, .val (.long (q4 - q6)), .second, .val (.ref b94), .val (.ref b121), .val (.int (1 : Int32)), .val (.int (1 : Int32)), .val (.long (q1 + q5)), .second, .val (.long (q2 + q6)), .second, .val (.long (q3 + (q3 ^^^ q5))), .second, .val (.long (q4 + (q4 - q6))), .second, .val (.int (1 : Int32))] [(.int (1 : Int32))])) (fun _ k => XS.iconst X216.here hx rfl (hb hby at_318) k) ?_
  refine Rch.go (U' := T216.setTop (mkF m 323 #[.val (.long q1), .second, .val (.long q2), .second, .val (.long q3), .second, .val (.long q4), .second, .val (.long q5), .second, .val (.long q6), .second, .val (.long (q3 ^^^ q5)), .second, .val (.long (q4 - q6)), .second, .val (.ref b94), .val (.ref b121), .val (.int (1 : Int32)), .val (.int (1 : Int32)), .val (.long (q1 + q5)), .second, .val (.long (q2 + q6)), .second, .val (.long (q3 + (q3 ^^^ q5))), .second, .val (.long (q4 + (q4 - q6))), .second, .val (.int (1 : Int32))] [(.int (1 : Int32))])) (fun _ k => XS.goto X216.here hx rfl (pc0 := 319) (pc' := 323) rfl (hb hby at_319) (by decide) (by decide) k) ?_
  refine Rch.fin X216 hlk (v := some (.int (nar .boolean (1 : Int32)))) (fun h => by rw [hret] at h; cases h) e216 (by decide) (by decide) (fun fs hr => retN X216 hx (t := .boolean) hret (by simp) (hb hby at_323) hr) ?_
  exact ⟨rfl, N202⟩
set_option maxRecDepth 65536 in
set_option maxHeartbeats 40000000 in
theorem comes_1 {Post : Tables → Env → Array Value → State → Outcome → State → Prop} (hpost : ∀ tb e args s v u, (limb_1_1.after args s (.returned v) u = true ∧ limb_1_2.after args s (.returned v) u = true ∧ True) → FrameEnd s (.returned v) u (Jvm.fieldLocs frame_1_writes args s ++ Jvm.arrayLocs frame_1_arrays args s ++ Jvm.staticLocs frame_1_statics s) 16 128 → Post tb e args s (.returned v) u) :
    ArmFor flags0 classFile x code maxLocals ret World_1 tables_1 room_1 Calls_1 rest_1 Pre_1 Post := by
  intro l hfl _ _ p e ha hc hk s m args below hf hA hF happ hP
  obtain ⟨hcalls, hrest, hpre⟩ := hP
  obtain ⟨-, -, -, hnamed, -, -, -, hat⟩ := (Spec.applies_iff hf).mp happ
  obtain ⟨hg, hn⟩ := and_e (Cond.before_iff.mp (show (Jvm.Cond.and given_1 narrow_1).before args s = true from hpre))
  obtain ⟨hcount, hg0⟩ := and_e hg
  obtain ⟨ga0, hg1⟩ := and_e hg0
  obtain ⟨ga1, hg2⟩ := and_e hg1
  obtain ⟨ga2, hg3⟩ := and_e hg2
  obtain ⟨ga3, hg4⟩ := and_e hg3
  obtain ⟨ga4, hg5⟩ := and_e hg4
  obtain ⟨w0, w1, w2, w3, w4, w5, rfl⟩ : ∃ w0 w1 w2 w3 w4 w5 : Value, args = #[w0, w1, w2, w3, w4, w5] := by
    have hs : args.size = 6 := by simpa [Cond.value, given_1] using hcount
    obtain ⟨L⟩ := args
    match L, hs with
    | [w0, w1, w2, w3, w4, w5], _ => exact ⟨w0, w1, w2, w3, w4, w5, rfl⟩
  have hw := fun d (hd : d ∈ tables_1) => atoms_spec (ws := Jvm.Cond.code x code maxLocals ret :: tables_1) hat d (List.mem_cons_of_mem _ hd)
  obtain ⟨i0, ei0⟩ := isL_v ga0
  obtain rfl : w0 = (.long i0) := Option.some.inj ei0
  obtain ⟨i1, ei1⟩ := isL_v ga1
  obtain rfl : w1 = (.long i1) := Option.some.inj ei1
  obtain ⟨i2, ei2⟩ := isL_v ga2
  obtain rfl : w2 = (.long i2) := Option.some.inj ei2
  obtain ⟨i3, ei3⟩ := isL_v ga3
  obtain rfl : w3 = (.long i3) := Option.some.inj ei3
  obtain ⟨i4, ei4⟩ := isL_v ga4
  obtain rfl : w4 = (.long i4) := Option.some.inj ei4
  obtain ⟨i5, ei5⟩ := isL_v hg5
  obtain rfl : w5 = (.long i5) := Option.some.inj ei5
  obtain ⟨n, o, h1, h2, h3, _, L, rfl, ⟨rfl, N⟩, hq⟩ := rm0 l s _ hw tables_1 i0 i1 i2 i3 i4 i5 s.heap s.heap.size (Nat.le_refl _)  p e ha hc hk s m _ below hf ((Spec.applies_iff_loose hf).mp happ).1 ⟨rfl, State.Warmed39.refl s, rfl⟩ trivial
  refine ⟨n, _, h1, h2, h3, hpost _ _ _ _ _ _ ⟨Cond.after_iff.mpr rfl, Cond.after_iff.mpr (eq_i res_at (Term.int_eval (1)) rfl), trivial⟩ ⟨hq.1, hq.2.1, (hq.2.2.sift fun y hy => Or.inr (N y hy)).mono (by decide) (by decide)⟩⟩
theorem main_1_1 : Claimed_1_1 := comes_1 fun _ _ _ _ _ _ h hF => ⟨h.1, hF⟩
theorem main_1_2 : Claimed_1_2 := comes_1 fun _ _ _ _ _ _ h hF => ⟨h.2.1, hF⟩
end Jvm.Pilot.@@N@@
namespace Jvm.Pilot.@@N@@
open Jvm Jvm.ClassFile Sem Op Lib Jvm.Free Jvm.Stand Jvm.Pilot.@@N@@.Jvm.D
/-! MADE BY PROGRAM (witnessworld.py) out of the Statement's table words and the real class files: 7 classes; the members and pool entries that the words name. The judged class is class 1, her method 1. -/
namespace start1
open Jvm.ClassFile
def u (s : String) : CpInfo := .utf8 (stringToUtf16 s)
/-- a pool by its gaps: so many unusable entries, then the entry; so many at the end -/
def gap : Nat → List CpInfo → List CpInfo
  | 0, r => r
  | n + 1, r => .unusable :: gap n r
def poolList (es : List (Nat × CpInfo)) (last : Nat) : List CpInfo := es.foldr (fun e r => gap e.1 (e.2 :: r)) (gap last [])
def pool (es : List (Nat × CpInfo)) (last : Nat) : Array CpInfo := ⟨poolList es last⟩
def fileOf (pool : Array CpInfo) (this : Nat) (attrs : Array Attribute := #[]) (ms : Array MethodInfo := #[]) (fl : Nat := 33) (sup : Nat := 0) (ifs : Array Nat := #[]) (fds : Array FieldInfo := #[]) : ClassFile where
  minorVersion := 0
  majorVersion := 65
  constantPool := pool
  accessFlags := fl
  thisClass := this
  superClass := sup
  interfaces := ifs
  fields := fds
  methods := ms
  attributes := attrs
def plain (name : String) (sup : Option ClassId) : Class where
  name := name
  kind := .ordinary
  loader := none
  accessFlags := 33
  super := sup
  interfaces := #[]
  cf := none
  fields := #[]
  methods := #[]
  instanceTypes := #[]
  staticTypes := #[]
  resolved := #[]
  callSites := []
  init := .initialized
  statics := none
  mirror := none

def pool0 : Array CpInfo := pool [(5, u "<init>"), (0, u "()V"), (1, .class_ 10), (1, u "java/lang/Object")] 113

def k0c0 : Code := { maxStack := 0, maxLocals := 1, code := object_method_1_code, exceptionTable := #[], attributes := #[] }
def k0m0 : Method := { name := "<init>", desc := "()V", sig := { parameters := [], returnType := none }, accessFlags := 1, code := some k0c0 }
/-- java/lang/Object -/
def k0 : Class := { plain "java/lang/Object" none with
  accessFlags := 33
  interfaces := #[]
  cf := some (fileOf pool0 8 #[] #[{ accessFlags := 1, nameIndex := 5, descriptorIndex := 6, attributes := #[] }] 33 0 #[] #[])
  fields := #[]
  methods := #[k0m0]
  instanceTypes := #[]
  staticTypes := #[]
  resolved := Array.replicate 124 none
  statics := none }

def pool1 : Array CpInfo := pool [(2, .class_ 4), (0, .nameAndType 5 6), (0, u "java/lang/Object"), (0, u "<init>"), (0, u "()V"), (0, .class_ 8), (0, u "com/example/stripeguard/stripeguard/cli/Tally"), (0, .methodref 7 3), (0, .fieldref 7 11), (0, .nameAndType 12 13), (0, u "writes"), (0, u "J"), (0, .fieldref 7 15), (0, .nameAndType 16 13), (0, u "reads"), (0, .fieldref 7 18), (0, .nameAndType 19 13), (0, u "wrong"), (0, .fieldref 7 21), (0, .nameAndType 22 13), (0, u "misses"), (0, .methodref 7 24), (0, .nameAndType 25 26), (0, u "add"), (0, u "(Lcom/example/stripeguard/stripeguard/cli/Tally;)V"), (0, .class_ 28), (0, u "com/example/stripeguard/stripeguard/cli/TallyAddPinLaw"), (2, u "law"), (0, u "(JJJJJJ)Z")] 3

def k1m0 : Method := { name := "<init>", desc := "()V", sig := { parameters := [], returnType := none }, accessFlags := 1, code := none }
def k1c1 : Code := { maxStack := 6, maxLocals := 29, code := code, exceptionTable := #[], attributes := #[] }
def k1m1 : Method := { name := "law", desc := "(JJJJJJ)Z", sig := { parameters := [.long, .long, .long, .long, .long, .long], returnType := some .boolean }, accessFlags := 9, code := some k1c1 }
/-- com/example/stripeguard/stripeguard/cli/TallyAddPinLaw -/
def k1 : Class := { plain "com/example/stripeguard/stripeguard/cli/TallyAddPinLaw" (some 0) with
  accessFlags := 49
  interfaces := #[]
  cf := some (fileOf pool1 27 #[] #[{ accessFlags := 1, nameIndex := 5, descriptorIndex := 6, attributes := #[] }, { accessFlags := 9, nameIndex := 31, descriptorIndex := 32, attributes := #[] }] 49 2 #[] #[])
  fields := #[]
  methods := #[k1m0, k1m1]
  instanceTypes := #[]
  staticTypes := #[]
  resolved := Array.replicate 36 none
  statics := none }

def pool2 : Array CpInfo := pool [(1, .methodref 2 3), (0, .class_ 4), (0, .nameAndType 5 6), (0, u "java/lang/Object"), (0, u "<init>"), (0, u "()V"), (0, .fieldref 8 9), (0, .class_ 10), (0, .nameAndType 11 12), (0, u "com/example/stripeguard/stripeguard/cli/Tally"), (0, u "reads"), (0, u "J"), (6, .fieldref 8 20), (0, .nameAndType 21 12), (0, u "misses"), (12, .fieldref 8 35), (0, .nameAndType 36 12), (0, u "wrong"), (0, .fieldref 8 38), (0, .nameAndType 39 12), (0, u "writes"), (7, u "add"), (0, u "(Lcom/example/stripeguard/stripeguard/cli/Tally;)V")] 2

def k2c0 : Code := { maxStack := 1, maxLocals := 1, code := prog_62_method_1_code, exceptionTable := #[], attributes := #[] }
def k2m0 : Method := { name := "<init>", desc := "()V", sig := { parameters := [], returnType := none }, accessFlags := 0, code := some k2c0 }
def k2c1 : Code := { maxStack := 5, maxLocals := 2, code := prog_62_method_3_code, exceptionTable := #[], attributes := #[] }
def k2m1 : Method := { name := "add", desc := "(Lcom/example/stripeguard/stripeguard/cli/Tally;)V", sig := { parameters := [(.object "com/example/stripeguard/stripeguard/cli/Tally")], returnType := none }, accessFlags := 0, code := some k2c1 }
/-- com/example/stripeguard/stripeguard/cli/Tally -/
def k2 : Class := { plain "com/example/stripeguard/stripeguard/cli/Tally" (some 0) with
  accessFlags := 48
  interfaces := #[]
  cf := some (fileOf pool2 8 #[] #[{ accessFlags := 0, nameIndex := 5, descriptorIndex := 6, attributes := #[] }, { accessFlags := 0, nameIndex := 47, descriptorIndex := 48, attributes := #[] }] 48 2 #[] #[{ accessFlags := 0, nameIndex := 39, descriptorIndex := 12, attributes := #[] }, { accessFlags := 0, nameIndex := 11, descriptorIndex := 12, attributes := #[] }, { accessFlags := 0, nameIndex := 36, descriptorIndex := 12, attributes := #[] }, { accessFlags := 0, nameIndex := 21, descriptorIndex := 12, attributes := #[] }])
  fields := #[{ name := "writes", type := .long, accessFlags := 0, slot := 0, constantValue := 0 }, { name := "reads", type := .long, accessFlags := 0, slot := 1, constantValue := 0 }, { name := "wrong", type := .long, accessFlags := 0, slot := 2, constantValue := 0 }, { name := "misses", type := .long, accessFlags := 0, slot := 3, constantValue := 0 }]
  methods := #[k2m0, k2m1]
  instanceTypes := #[.long, .long, .long, .long]
  staticTypes := #[]
  resolved := Array.replicate 51 none
  statics := none }

def pool3 : Array CpInfo := pool [(1, u "java/lang/Cloneable"), (0, .class_ 1), (0, u "java/lang/Object"), (0, .class_ 3)] 3

/-- java/lang/Cloneable -/
def k3 : Class := { plain "java/lang/Cloneable" (some 0) with
  accessFlags := 1537
  interfaces := #[]
  cf := some (fileOf pool3 2 #[] #[] 1537 4 #[] #[])
  fields := #[]
  methods := #[]
  instanceTypes := #[]
  staticTypes := #[]
  resolved := Array.replicate 8 none
  statics := none }

def pool4 : Array CpInfo := pool [(1, u "java/io/Serializable"), (0, .class_ 1), (0, u "java/lang/Object"), (0, .class_ 3)] 3

/-- java/io/Serializable -/
def k4 : Class := { plain "java/io/Serializable" (some 0) with
  accessFlags := 1537
  interfaces := #[]
  cf := some (fileOf pool4 2 #[] #[] 1537 4 #[] #[])
  fields := #[]
  methods := #[]
  instanceTypes := #[]
  staticTypes := #[]
  resolved := Array.replicate 8 none
  statics := none }

/-- the primitive byte -/
def k5 : Class := { plain "byte" none with kind := .primitive 'B', accessFlags := 0x411 }
/-- [B -/
def k6 : Class := { plain "[B" (some 0) with kind := .array 5 .byte, interfaces := #[3, 4], accessFlags := 1041 }

def heap : Heap := #[]
def classes : Array Class := #[k0, k1, k2, k3, k4, k5, k6]
def interned : List (Array UInt16 × Addr) := []
def slotsUsed : Nat := 0
def theMethod : MethodId := ⟨1, 1⟩
def args0 : Array Value := #[.long 1, .long 2, .long 3, .long 4, .long 5, .long 6]
def aboutOver (below : List Frame) : State where
  vm := { classes := classes, interned := interned.toArray }
  heap := heap
  slotsUsed := slotsUsed
  threads := #[{ frames := .invoking theMethod args0 :: below }]
def below0 : List Frame := [.native { method := ⟨0, 0⟩, args := #[] }]
def about1 : State := aboutOver below0
def p0 : Program := .bare "" "" ""
def e0 : Env := launch0.env 0 0 0
theorem w_frames : about1.frames = Frame.invoking theMethod args0 :: below0 := rfl
set_option maxRecDepth 65536 in
theorem w_args : argsFit about1.vm theMethod args0 = true := by decide +kernel
set_option maxRecDepth 65536 in
theorem w_heap : heapFits about1 = true := by decide +kernel
set_option maxRecDepth 65536 in
theorem w_runnable : about1.curStatus? = some .runnable := by decide +kernel
set_option maxRecDepth 65536 in
theorem w_alone : about1.alone = true := by decide +kernel
set_option maxRecDepth 65536 in
theorem w_named : about1.methodNamed? x = some theMethod := by decide +kernel
set_option maxRecDepth 65536 in
theorem w_hears : about1.hears theMethod below0 = true := by decide +kernel
set_option maxRecDepth 65536 in
theorem w_ripe : about1.ripe theMethod args0 below0 = true := by decide +kernel
theorem w_running : about1.status = .running := rfl
set_option maxRecDepth 65536 in
theorem w_room : about1.hasRoom e0.platform room_1 = true :=
  launch0.hasRoom_least _ room_1 (by decide +kernel) (by decide +kernel) (by decide +kernel) (by decide +kernel) (by decide +kernel) (by decide +kernel)
theorem allAtoms_all (ts : List Jvm.Cond) (a : Array Jvm.Value) (st : Jvm.State) : (allAtoms ts).before a st = ts.all (fun c => c.before a st) := by
  induction ts with
  | nil => rfl
  | cons c t ih =>
    show (Jvm.Cond.and c (allAtoms t)).before a st = _
    rw [Jvm.Cond.before_and, ih, List.all_cons]
def words1 : List Jvm.Cond := Jvm.Cond.code x code maxLocals ret :: tables_1
/-- a 'code' word, met by the world's own term for the bytes: nothing is compared byte by byte -/
theorem code_word {y : MethodName} {bytes : ByteArray} {mx : Nat} {rt : Option FieldType} {a : Array Value} {s : State} {m : MethodId} {meth : Method} {c : Code} (h1 : s.methodNamed? y = some m) (h2 : s.vm.method? m = some meth) (h3 : meth.code = some c) (h4 : c.code = bytes)
    (h5 : (c.maxLocals == mx && c.exceptionTable.isEmpty && decide (c.maxStack ≤ mostOperands) && decide (meth.sig.returnType = rt) && !meth.locks && decide (parseMethodDescriptor y.desc = some meth.sig)) = true) : (Jvm.Cond.code y bytes mx rt).before a s = true := by
  simp only [Bool.and_eq_true, beq_iff_eq, Bool.not_eq_true', decide_eq_true_eq] at h5
  obtain ⟨⟨⟨⟨⟨g1, g2⟩, g3⟩, g4⟩, g5⟩, g6⟩ := h5
  simp [Cond.before, Cond.holds, Cond.value, h1, h2, h3, h4, g1, g2, g3, g4, g5, g6]
def isCode : Jvm.Cond → Bool
  | .code _ _ _ _ => true
  | _ => false
theorem all_split {L : List Jvm.Cond} {P : Jvm.Cond → Bool} (h1 : L.all (fun c => isCode c || P c) = true) (h2 : ∀ c ∈ L.filter isCode, P c = true) : L.all P = true := by
  refine List.all_eq_true.mpr fun c hc => ?_
  have h := List.all_eq_true.mp h1 c hc
  rcases Bool.eq_false_or_eq_true (isCode c) with hi | hi
  · exact h2 c (List.mem_filter.mpr ⟨hc, hi⟩)
  · simpa [hi] using h
set_option maxRecDepth 65536 in
theorem w_c0 : (Jvm.Cond.code x code maxLocals ret).before args0 about1 = true := code_word (m := ⟨1, 1⟩) (meth := k1m1) (c := k1c1) (by decide +kernel) rfl rfl rfl (by decide +kernel)
set_option maxRecDepth 65536 in
theorem w_c1 : (Jvm.Cond.code ({ cls := "com/example/stripeguard/stripeguard/cli/Tally", name := "<init>", desc := "()V" } : Jvm.MethodName) prog_62_method_1_code (1 : Nat) (Option.none : Option Jvm.ClassFile.FieldType)).before args0 about1 = true := code_word (m := ⟨2, 0⟩) (meth := k2m0) (c := k2c0) (by decide +kernel) rfl rfl rfl (by decide +kernel)
set_option maxRecDepth 65536 in
theorem w_c2 : (Jvm.Cond.code ({ cls := "java/lang/Object", name := "<init>", desc := "()V" } : Jvm.MethodName) object_method_1_code (1 : Nat) (Option.none : Option Jvm.ClassFile.FieldType)).before args0 about1 = true := code_word (m := ⟨0, 0⟩) (meth := k0m0) (c := k0c0) (by decide +kernel) rfl rfl rfl (by decide +kernel)
set_option maxRecDepth 65536 in
theorem w_c3 : (Jvm.Cond.code ({ cls := "com/example/stripeguard/stripeguard/cli/Tally", name := "add", desc := "(Lcom/example/stripeguard/stripeguard/cli/Tally;)V" } : Jvm.MethodName) prog_62_method_3_code (2 : Nat) (Option.none : Option Jvm.ClassFile.FieldType)).before args0 about1 = true := code_word (m := ⟨2, 1⟩) (meth := k2m1) (c := k2c1) (by decide +kernel) rfl rfl rfl (by decide +kernel)
def codes1 : List Jvm.Cond := [Jvm.Cond.code x code maxLocals ret, Jvm.Cond.code ({ cls := "com/example/stripeguard/stripeguard/cli/Tally", name := "<init>", desc := "()V" } : Jvm.MethodName) prog_62_method_1_code (1 : Nat) (Option.none : Option Jvm.ClassFile.FieldType), Jvm.Cond.code ({ cls := "java/lang/Object", name := "<init>", desc := "()V" } : Jvm.MethodName) object_method_1_code (1 : Nat) (Option.none : Option Jvm.ClassFile.FieldType), Jvm.Cond.code ({ cls := "com/example/stripeguard/stripeguard/cli/Tally", name := "add", desc := "(Lcom/example/stripeguard/stripeguard/cli/Tally;)V" } : Jvm.MethodName) prog_62_method_3_code (2 : Nat) (Option.none : Option Jvm.ClassFile.FieldType)]
set_option maxRecDepth 65536 in
theorem codes_eq : words1.filter isCode = codes1 := rfl
theorem w_codes : ∀ c ∈ words1.filter isCode, c.before args0 about1 = true := by
  rw [codes_eq]
  intro c hc
  simp only [codes1, List.mem_cons, List.not_mem_nil, or_false] at hc
  rcases hc with rfl | rfl | rfl | rfl
  · exact w_c0
  · exact w_c1
  · exact w_c2
  · exact w_c3
set_option maxRecDepth 65536 in
theorem w_t1 : (words1.take 24).all (fun c => isCode c || c.before args0 about1) = true := by decide +kernel
set_option maxRecDepth 65536 in
theorem w_t2 : (words1.drop 24).all (fun c => isCode c || c.before args0 about1) = true := by decide +kernel
theorem w_tables : (allAtoms (Jvm.Cond.code x code maxLocals ret :: tables_1)).before args0 about1 = true := by
  rw [allAtoms_all]
  show words1.all (fun c => c.before args0 about1) = true
  refine all_split ?_ w_codes
  rw [← List.take_append_drop 24 words1, List.all_append, w_t1, w_t2]
  rfl
set_option maxRecDepth 65536 in
theorem w_case : (Jvm.Cond.and given_1 narrow_1).before args0 about1 = true := by decide +kernel
theorem w_applies : (headSpec (Jvm.Cond.code x code maxLocals ret :: tables_1) room_1).applies x e0.platform about1 = true :=
  (Spec.applies_iff w_frames).mpr ⟨w_running, w_runnable, w_alone, w_named, w_hears, w_ripe, w_room, w_tables⟩
theorem atStart : AtStart classFile x code maxLocals ret World_1 tables_1 room_1 Calls_1 rest_1 Pre_1 launch0 p0 e0 about1 theMethod args0 below0 :=
  ⟨lists_1, trivial, launch0.admits_env _ _ _, launch0.least_env, fairChoices_fair.cas, fairChoices_fair.clock, w_frames, w_args, w_heap, w_applies, trivial, trivial, w_case⟩
end start1
theorem witness_1 : WitnessClaimed_1 := ⟨start1.p0, start1.e0, start1.about1, start1.theMethod, start1.args0, start1.below0, start1.atStart⟩
end Jvm.Pilot.@@N@@
