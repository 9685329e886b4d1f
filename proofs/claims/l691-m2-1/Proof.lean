import JvmDerived
import JvmDerived.Pilot.@@N@@Statement
import JvmDerived.Pilot.@@N@@Code
set_option linter.unusedVariables false
set_option linter.unusedSimpArgs false
namespace Jvm.RoadKit
open Sem ClassFile Op Lib Jvm.Stand Jvm.Free Jvm.LawKit
section New
variable {p : Program} {l : Launch} {e : Env} {R : Room} {s : State} {m : MethodId} {args : Array Value} {below : List Frame} {meth : Method} {c : Code} {T : State} {locs : List Loc} {cells slots : Nat}
theorem retI (X : Stand p l e R s m args below meth c T locs cells slots) (hx : p.tables.exec = Jvm.exec) {pc : Nat} {Ls : Array Slot} {z : Int32} {rest : List Value} (hret : meth.sig.returnType = some .int) (hd : decode c.code pc = .ok (.ireturn, 1)) {fs : List Frame}
    (hl : ∀ (f : JFrame) (acts : List Action), f.method = m → f.locked = none → f.entered = [] → (doReturn e (T.setTop f) acts (some (.int z))).1 = T.setFrames fs) : Steps p.tables e below (T.setTop (mkF m pc Ls (.int z :: rest))) (T.setFrames fs) := by
  have hm' : T.vm.method? m = some meth := X.method'
  have hn : narrow .int (.int z) = .int z := rfl
  show Steps p.tables e below (T.setTop { method := m, pc := pc, locals := Ls, stack := _ :: rest, locked := none }) _
  jvm_step X.here [X.here.top, hx, hd, hm', hret, hn]
  first | (intro acts; rw [hl _ acts rfl rfl rfl]) | rw [hl _ _ rfl rfl rfl]
  exact Steps.refl _
/-- a run from U comes to a state of which K holds -/
def Rch (p : Program) (e : Env) (below : List Frame) (K : State → Prop) (U : State) : Prop := ∃ s₂, Steps p.tables e below U s₂ ∧ K s₂
theorem Rch.go {K : State → Prop} {U U' : State} (h : ∀ t, Steps p.tables e below U' t → Steps p.tables e below U t) (k : Rch p e below K U') : Rch p e below K U := by
  obtain ⟨s₂, a, b⟩ := k; exact ⟨s₂, h _ a, b⟩
theorem Rch.to {K : State → Prop} {U U' : State} (h : Steps p.tables e below U U') (k : Rch p e below K U') : Rch p e below K U := by
  obtain ⟨s₂, a, b⟩ := k; exact ⟨s₂, h.trans a, b⟩
theorem Rch.then {K K' : State → Prop} {U : State} (h : Rch p e below K U) (f : ∀ V, K V → Rch p e below K' V) : Rch p e below K' U := by
  obtain ⟨s₂, a, b⟩ := h; exact Rch.to a (f _ b)
/-- the body is left: what it returned and what it leaves -/
def Fin (s : State) (below : List Frame) (Q : Option Value → Heap → List Loc → Prop) (k n : Nat) (s₂ : State) : Prop :=
  ∃ o, s₂.status = .running ∧ Ended s₂ below o ∧ ∃ v L, o = .returned v ∧ Q v s₂.heap L ∧ FrameEnd s o s₂ L k n
theorem Rch.fin {Q : Option Value → Heap → List Loc → Prop} {k n : Nat} {U : State} {h : Heap} (X : Stand p l e R s m args below meth c T locs cells slots) (hlk : meth.locks = false) {v : Option Value} (hv : meth.sig.returnType = none → v = none) (eT : T.heap = h) (hc : cells ≤ k) (hn : slots ≤ n)
    (st : ∀ fs, (∀ (f : JFrame) (acts : List Action), f.method = m → f.locked = none → f.entered = [] → (doReturn e (T.setTop f) acts v).1 = T.setFrames fs) → Steps p.tables e below U (T.setFrames fs)) (hQ : Q v h locs) : Rch p e below (Fin s below Q k n) U := by
  obtain ⟨fs, hr, hrun, hended, hW, hsame⟩ := X.leave hv hlk
  refine ⟨_, st fs hr, _, hrun, hended, v, locs, rfl, ?_, ⟨_, rfl⟩, hW, hsame.mono hc hn⟩
  show Q v T.heap locs
  rw [eT]; exact hQ
theorem Rch.body {Q : Option Value → Heap → List Loc → Prop} {k n : Nat} {U U' : State} (h : ∀ t, Steps p.tables e below U' t → Steps p.tables e below U t) (H : Rch p e below (Fin s below Q k n) U') :
    ∃ s₂ o, Steps p.tables e below U s₂ ∧ s₂.status = .running ∧ Ended s₂ below o ∧ (∃ v L, o = .returned v ∧ Q v s₂.heap L ∧ FrameEnd s o s₂ L k n) := by
  obtain ⟨s₂, a, o, b, c, d⟩ := H; exact ⟨s₂, o, h _ a, b, c, d⟩
/-- the same, said with the wide end (a String constant may have been interned) -/
def FinW (s : State) (below : List Frame) (Q : Option Value → Heap → List Loc → Prop) (k n : Nat) (s₂ : State) : Prop :=
  ∃ o, s₂.status = .running ∧ Ended s₂ below o ∧ ∃ v L, o = .returned v ∧ Q v s₂.heap L ∧ ReturnedEndW s o s₂ L k n
theorem Rch.finW {Q : Option Value → Heap → List Loc → Prop} {k n : Nat} {U : State} {h : Heap} {vm₁ : Vm} {n1 : Nat} (X : Stand p l e R (s.setVm vm₁) m args below meth c T locs cells slots) (hlk : meth.locks = false) {v : Option Value} (hv : meth.sig.returnType = none → v = none) (eT : T.heap = h) (hc : cells ≤ k) (hn : slots ≤ n)
    (hS : s.Since vm₁ n1) (hk : n1 ≤ h.size) (st : ∀ fs, (∀ (f : JFrame) (acts : List Action), f.method = m → f.locked = none → f.entered = [] → (doReturn e (T.setTop f) acts v).1 = T.setFrames fs) → Steps p.tables e below U (T.setFrames fs)) (hQ : Q v h locs) : Rch p e below (FinW s below Q k n) U := by
  obtain ⟨fs, hr, hrun, hended, hE⟩ := X.leaveW hS (by rw [eT]; exact hk) hv hlk
  refine ⟨_, st fs hr, _, hrun, hended, v, locs, rfl, ?_, hE.1, hE.2.1, hE.2.2.1, hE.2.2.2.mono hc hn⟩
  show Q v T.heap locs
  rw [eT]; exact hQ
theorem Rch.bodyW {Q : Option Value → Heap → List Loc → Prop} {k n : Nat} {U U' : State} (h : ∀ t, Steps p.tables e below U' t → Steps p.tables e below U t) (H : Rch p e below (FinW s below Q k n) U') :
    ∃ s₂ o, Steps p.tables e below U s₂ ∧ s₂.status = .running ∧ Ended s₂ below o ∧ (∃ v L, o = .returned v ∧ Q v s₂.heap L ∧ ReturnedEndW s o s₂ L k n) := by
  obtain ⟨s₂, a, o, b, c, d⟩ := H; exact ⟨s₂, o, h _ a, b, c, d⟩
theorem nar_1 : nar .boolean 1 = 1 := rfl
theorem nar_0 : nar .boolean 0 = 0 := rfl
end New
end Jvm.RoadKit
namespace Jvm.Pilot.@@N@@
open Jvm Jvm.ClassFile Sem Op Lib Jvm.Free Jvm.Stand Jvm.LawKit Jvm.RoadKit Bundle Jvm.Pilot.@@N@@.Jvm.D
theorem wi {Z : State} {a0 : Array Value} (hw : ∀ d ∈ tables_1, d.before a0 Z = true) (i : Nat) {d : Jvm.Cond} (h : tables_1[i]? = some d) : d.before a0 Z = true := hw d (List.mem_of_getElem? h)
def own_succ (s : Int32) : Int32 := if s / 100 = 2 then 1 else 0
def own_exp (p1 : Int32) : Int32 := if p1 < 200 then 0 else if 299 < p1 then 0 else 1
theorem own_law (s : Int32) : own_succ s = own_exp s := by
  have z2 : (2 : Int32).toInt = 2 := rfl
  have z200 : (200 : Int32).toInt = 200 := rfl
  have z299 : (299 : Int32).toInt = 299 := rfl
  have hd := c_idiv s 100 100 rfl (by decide)
  have he : s / 100 = 2 ↔ (s / 100).toInt = 2 := ⟨fun h => by rw [h]; rfl, fun h => Int32.toInt_inj.mp (by rw [h]; rfl)⟩
  unfold own_succ own_exp
  by_cases h1 : s < 200
  · have h1' := Int32.lt_iff_toInt_lt.mp h1
    have : ¬ s / 100 = 2 := fun q => by
      have q' := he.mp q
      by_cases hs : 0 ≤ s.toInt
      · have := hd.1 hs; omega
      · have := hd.2 (by omega); omega
    simp only [h1, this, ↓reduceIte]
  · have h1' : ¬ s.toInt < 200 := fun q => h1 (Int32.lt_iff_toInt_lt.mpr (by rw [z200]; exact q))
    have hq := hd.1 (by omega)
    by_cases h2 : 299 < s
    · have h2' := Int32.lt_iff_toInt_lt.mp h2
      have : ¬ s / 100 = 2 := fun q => by have q' := he.mp q; omega
      simp only [h1, h2, this, ↓reduceIte]
    · have h2' : ¬ 299 < s.toInt := fun q => h2 (Int32.lt_iff_toInt_lt.mpr (by rw [z299]; exact q))
      have : s / 100 = 2 := he.mpr (by omega)
      simp only [h1, h2, this, ↓reduceIte]
theorem d12_0 : decode jdk_30_method_1_code 0 = .ok (.aload_n 0, 1) := by decide +kernel
theorem d12_1 : decode jdk_30_method_1_code 1 = .ok (.invokespecial 1, 3) := by decide +kernel
theorem d12_4 : decode jdk_30_method_1_code 4 = .ok (.return_, 1) := by decide +kernel
theorem pd_1 : parseMethodDescriptor "()V" = some ⟨[], none⟩ := by decide +kernel
theorem pn_java_lang_Record : plainName "java/lang/Record" = true := by first | (simp [plainName, overriddenIn]; done) | decide +kernel
theorem ef_rmRec (m : MethodId) (a1 : Addr) : entryFrame m #[(.ref a1)] 1 = mkF m 0 #[.val (.ref a1)] [] := by first | (simp [entryFrame, mkF, argsToLocals, Value.category]; done) | rfl
def Q_rmRec (Z : State) (a1 : Addr) (h0 : Heap) (n0 : Nat) (v : Option Value) (h : Heap) (L : List Loc) : Prop := v = none ∧ Fr n0 L ∧ h = h0
set_option maxRecDepth 65536 in
set_option maxHeartbeats 40000000 in
theorem rmRec (l : Launch) (Z : State) (a0 : Array Value) (hw : ∀ d ∈ tables_1, d.before a0 Z = true) (ws : List Jvm.Cond) (a1 : Addr) (h0 : Heap) (n0 : Nat) (Z0 : n0 ≤ h0.size)  :
    MetFree l (⟨"java/lang/Record", "<init>", "()V"⟩ : MethodName) (head1 (Jvm.Cond.code (⟨"java/lang/Record", "<init>", "()V"⟩ : MethodName) jdk_30_method_1_code 1 none :: ws) ({ frames := 1, cells := 0, slots := 0, locals := 12 } : Room)) (fun a U => a = #[(.ref a1)] ∧ Z.Warmed39 U.vm ∧ U.heap = h0) (fun _ _ _ _ _ => True) (fun _ U o U' => ∃ v L, o = .returned v ∧ Q_rmRec Z a1 h0 n0 v U'.heap L ∧ FrameEnd U o U' L ({ frames := 1, cells := 0, slots := 0, locals := 12 } : Room).cells ({ frames := 1, cells := 0, slots := 0, locals := 12 } : Room).slots) := by
  refine MetFree.of_bodySF (plainFor_of_name pn_java_lang_Record) hisR ?_
  intro p e s m args below meth c s₁ Bd hml0 hP hK
  obtain ⟨rfl, hZ, hh⟩ := hP
  have hx := Bd.exec
  have hby := Bd.bytes
  have hml : c.maxLocals = 1 := hml0
  have hown : s.vm.findClass "java/lang/Record" = some m.cls := findClass_of_methodNamed Bd.named
  have hnm := (name_of_methodNamed Bd.named Bd.method).1
  have hret := Bd.returns
  have hlk : meth.locks = false := BodyLoose.notSynchronized Bd
  have X0 : Stand p l e ({ frames := 1, cells := 0, slots := 0, locals := 12 } : Room) s m #[(.ref a1)] below meth c s₁ [] 0 0 := Stand.of_body Bd
  have e0 : s₁.heap = h0 := by rw [← hh, Bd.state]; rfl
  have N0 := Fr.nil n0
  refine Rch.body (Q := Q_rmRec Z a1 h0 n0) (U' := s₁.setTop (mkF m 0 #[.val (.ref a1)] [])) (fun t k => castTop (ef_rmRec m a1) k) ?_
  refine Rch.go (U' := s₁.setTop (mkF m 1 #[.val (.ref a1)] [(.ref a1)])) (fun _ k => XS.aloadN X0.here hx rfl (hb hby d12_0) rfl rfl k) ?_
  obtain ⟨T1, X1, e1, st1⟩ := initO X0 hx hZ hown (wi hw 13 rfl) (wi hw 14 rfl) (wi hw 15 rfl) e0 (g := (mkF m 1 #[.val (.ref a1)] [(.ref a1)])) rfl (by rw [hml]; rfl) rfl (hb hby d12_1) (by decide) (W := 0) (by show 2 * 0 + _ ≤ _; exact Nat.le_of_eq rfl) (by decide)
  refine Rch.go (U' := T1.setTop (mkF m 4 #[.val (.ref a1)] [])) st1 ?_
  refine Rch.fin X1 hlk (v := none) (fun _ => rfl) e1 (by decide) (by decide) (fun fs hr => X1.returnOut hx hret (hb hby d12_4) hr) ?_
  exact ⟨rfl, N0, rfl⟩
theorem d7_0 : decode prog_13_method_1_code 0 = .ok (.aload_n 0, 1) := by decide +kernel
theorem d7_1 : decode prog_13_method_1_code 1 = .ok (.invokespecial 1, 3) := by decide +kernel
theorem d7_4 : decode prog_13_method_1_code 4 = .ok (.aload_n 0, 1) := by decide +kernel
theorem d7_5 : decode prog_13_method_1_code 5 = .ok (.iload_n 1, 1) := by decide +kernel
theorem d7_6 : decode prog_13_method_1_code 6 = .ok (.putfield 7, 3) := by decide +kernel
theorem d7_9 : decode prog_13_method_1_code 9 = .ok (.aload_n 0, 1) := by decide +kernel
theorem d7_10 : decode prog_13_method_1_code 10 = .ok (.aload_n 2, 1) := by decide +kernel
theorem d7_11 : decode prog_13_method_1_code 11 = .ok (.putfield 13, 3) := by decide +kernel
theorem d7_14 : decode prog_13_method_1_code 14 = .ok (.aload_n 0, 1) := by decide +kernel
theorem d7_15 : decode prog_13_method_1_code 15 = .ok (.aload_n 3, 1) := by decide +kernel
theorem d7_16 : decode prog_13_method_1_code 16 = .ok (.putfield 17, 3) := by decide +kernel
theorem d7_19 : decode prog_13_method_1_code 19 = .ok (.aload_n 0, 1) := by decide +kernel
theorem d7_20 : decode prog_13_method_1_code 20 = .ok (.aload 4, 2) := by decide +kernel
theorem d7_22 : decode prog_13_method_1_code 22 = .ok (.putfield 20, 3) := by decide +kernel
theorem d7_25 : decode prog_13_method_1_code 25 = .ok (.aload_n 0, 1) := by decide +kernel
theorem d7_26 : decode prog_13_method_1_code 26 = .ok (.aload 5, 2) := by decide +kernel
theorem d7_28 : decode prog_13_method_1_code 28 = .ok (.putfield 23, 3) := by decide +kernel
theorem d7_31 : decode prog_13_method_1_code 31 = .ok (.return_, 1) := by decide +kernel
theorem pn_com_example_linkstride_linkstride_lookup_HttpRequests_Response : plainName "com/example/linkstride/linkstride/lookup/HttpRequests$Response" = true := by first | (simp [plainName, overriddenIn]; done) | decide +kernel
theorem ef_rmNew (m : MethodId) (a1 : Addr) (p1 : Int32) (a2 : Addr) : entryFrame m #[(.ref a1), (.int p1), .null, .null, .null, (.ref a2)] 6 = mkF m 0 #[.val (.ref a1), .val (.int p1), .val .null, .val .null, .val .null, .val (.ref a2)] [] := by first | (simp [entryFrame, mkF, argsToLocals, Value.category]; done) | rfl
def Q_rmNew (Z : State) (a1 : Addr) (p1 : Int32) (a2 : Addr) (us : Int32) (h0 : Heap) (n0 : Nat) (v : Option Value) (h : Heap) (L : List Loc) : Prop := v = none ∧ Fr n0 L ∧ Keep h0 h [a1] ∧ Fld Z h a1 "com/example/linkstride/linkstride/lookup/HttpRequests$Response" "status" "I" (.int p1) ∧ Fld Z h a1 "com/example/linkstride/linkstride/lookup/HttpRequests$Response" "contentType" "Ljava/lang/String;" .null ∧ Fld Z h a1 "com/example/linkstride/linkstride/lookup/HttpRequests$Response" "location" "Ljava/lang/String;" .null ∧ Fld Z h a1 "com/example/linkstride/linkstride/lookup/HttpRequests$Response" "link" "Ljava/lang/String;" .null ∧ Fld Z h a1 "com/example/linkstride/linkstride/lookup/HttpRequests$Response" "body" "[B" (.ref a2)
set_option maxRecDepth 65536 in
set_option maxHeartbeats 40000000 in
theorem rmNew (l : Launch) (Z : State) (a0 : Array Value) (hw : ∀ d ∈ tables_1, d.before a0 Z = true) (ws : List Jvm.Cond) (a1 : Addr) (p1 : Int32) (a2 : Addr) (us : Int32) (h0 : Heap) (n0 : Nat) (Z0 : n0 ≤ h0.size) (E_a1 : Exa Z h0 a1 "com/example/linkstride/linkstride/lookup/HttpRequests$Response") (F_a1_status : Fld Z h0 a1 "com/example/linkstride/linkstride/lookup/HttpRequests$Response" "status" "I" (.int us)) (F_a1_contentType : Fld Z h0 a1 "com/example/linkstride/linkstride/lookup/HttpRequests$Response" "contentType" "Ljava/lang/String;" .null) (F_a1_location : Fld Z h0 a1 "com/example/linkstride/linkstride/lookup/HttpRequests$Response" "location" "Ljava/lang/String;" .null) (F_a1_link : Fld Z h0 a1 "com/example/linkstride/linkstride/lookup/HttpRequests$Response" "link" "Ljava/lang/String;" .null) (F_a1_body : Fld Z h0 a1 "com/example/linkstride/linkstride/lookup/HttpRequests$Response" "body" "[B" .null) (g_a1 : n0 ≤ a1) :
    MetFree l (⟨"com/example/linkstride/linkstride/lookup/HttpRequests$Response", "<init>", "(ILjava/lang/String;Ljava/lang/String;Ljava/lang/String;[B)V"⟩ : MethodName) (head1 (Jvm.Cond.code (⟨"com/example/linkstride/linkstride/lookup/HttpRequests$Response", "<init>", "(ILjava/lang/String;Ljava/lang/String;Ljava/lang/String;[B)V"⟩ : MethodName) prog_13_method_1_code 6 none :: ws) ({ frames := 2, cells := 0, slots := 0, locals := 24 } : Room)) (fun a U => a = #[(.ref a1), (.int p1), .null, .null, .null, (.ref a2)] ∧ Z.Warmed39 U.vm ∧ U.heap = h0) (fun _ _ _ _ _ => True) (fun _ U o U' => ∃ v L, o = .returned v ∧ Q_rmNew Z a1 p1 a2 us h0 n0 v U'.heap L ∧ FrameEnd U o U' L ({ frames := 2, cells := 0, slots := 0, locals := 24 } : Room).cells ({ frames := 2, cells := 0, slots := 0, locals := 24 } : Room).slots) := by
  refine MetFree.of_bodySF (plainFor_of_name pn_com_example_linkstride_linkstride_lookup_HttpRequests_Response) hisR ?_
  intro p e s m args below meth c s₁ Bd hml0 hP hK
  obtain ⟨rfl, hZ, hh⟩ := hP
  have hx := Bd.exec
  have hby := Bd.bytes
  have hml : c.maxLocals = 6 := hml0
  have hown : s.vm.findClass "com/example/linkstride/linkstride/lookup/HttpRequests$Response" = some m.cls := findClass_of_methodNamed Bd.named
  have hnm := (name_of_methodNamed Bd.named Bd.method).1
  have hret := Bd.returns
  have hlk : meth.locks = false := BodyLoose.notSynchronized Bd
  have X0 : Stand p l e ({ frames := 2, cells := 0, slots := 0, locals := 24 } : Room) s m #[(.ref a1), (.int p1), .null, .null, .null, (.ref a2)] below meth c s₁ [] 0 0 := Stand.of_body Bd
  have e0 : s₁.heap = h0 := by rw [← hh, Bd.state]; rfl
  have N0 := Fr.nil n0
  have K0 := Keep.refl h0 [a1]
  refine Rch.body (Q := Q_rmNew Z a1 p1 a2 us h0 n0) (U' := s₁.setTop (mkF m 0 #[.val (.ref a1), .val (.int p1), .val .null, .val .null, .val .null, .val (.ref a2)] [])) (fun t k => castTop (ef_rmNew m a1 p1 a2) k) ?_
  refine Rch.go (U' := s₁.setTop (mkF m 1 #[.val (.ref a1), .val (.int p1), .val .null, .val .null, .val .null, .val (.ref a2)] [(.ref a1)])) (fun _ k => XS.aloadN X0.here hx rfl (hb hby d7_0) rfl rfl k) ?_
  obtain ⟨_, _, ⟨T2, L2, k2, n2⟩, -, X2, ⟨Lc2, hQ2, l2, y2, z2⟩, st2⟩ := X0.specialBack hx (y := (⟨"java/lang/Record", "<init>", "()V"⟩ : MethodName)) rfl hown (mvT hZ (wi hw 8 rfl)) (mvT hZ (wi hw 9 rfl)) (mvT hZ (wi hw 12 rfl)) (by decide) (backOf (W := 0) (rmRec l Z a0 hw [] a1 h0 n0 Z0 ) hZ (wi hw 12 rfl) (wi hw 11 rfl) (by decide) (by decide)) (g := (mkF m 1 #[.val (.ref a1), .val (.int p1), .val .null, .val .null, .val .null, .val (.ref a2)] [(.ref a1)])) rfl (by rw [hml]; rfl) (Steps.refl _) (a := a1) (argsL := []) (rest := []) (lenOf pd_1 rfl) rfl (by show 2 * 0 + _ ≤ _; exact Nat.le_of_eq rfl) (hb hby d7_1) (fun _ _ => ⟨rfl, e0, (by decide : 0 + 0 ≤ _), (by decide : 0 + 0 ≤ _)⟩)
  dsimp only [Pt.U, Pt.locs, Pt.cells, Pt.slots] at X2 l2 y2 z2 st2 hQ2
  subst l2 y2 z2
  obtain ⟨rfl, N2q, e2⟩ := hQ2
  have N2 := Fr.app N0 N2q
  refine Rch.to (U' := T2.setTop (mkF m 4 #[.val (.ref a1), .val (.int p1), .val .null, .val .null, .val .null, .val (.ref a2)] [])) st2 ?_
  refine Rch.go (U' := T2.setTop (mkF m 5 #[.val (.ref a1), .val (.int p1), .val .null, .val .null, .val .null, .val (.ref a2)] [(.ref a1)])) (fun _ k => XS.aloadN X2.here hx rfl (hb hby d7_4) rfl rfl k) ?_
  refine Rch.go (U' := T2.setTop (mkF m 6 #[.val (.ref a1), .val (.int p1), .val .null, .val .null, .val .null, .val (.ref a2)] [(.int p1), (.ref a1)])) (fun _ k => XS.iloadN X2.here hx rfl (hb hby d7_5) rfl  k) ?_
  obtain ⟨T3, h3, X3, e3, W3, st3⟩ := putF X2 hx hZ hown (host := "") (Or.inl (wi hw 16 rfl)) Via.refl e2 F_a1_status E_a1 (Or.inr ⟨(wi hw 17 rfl), rfl, hnm⟩) (wi hw 3 rfl) (ty := .int) (by decide) rfl rfl (g := (mkF m 6 #[.val (.ref a1), .val (.int p1), .val .null, .val .null, .val .null, .val (.ref a2)] [(.int p1), (.ref a1)])) rfl rfl (hb hby d7_6)
  have F3 := F_a1_status.same W3
  have f4 := E_a1.wr W3
  have f5 := F_a1_contentType.other W3 (Or.inr (slot_ne (Or.inr (wi hw 19 rfl)) (Or.inr (wi hw 17 rfl)) (by decide) (t := (.object "java/lang/String")) (t' := .int) (by decide) (by decide)))
  have f6 := F_a1_location.other W3 (Or.inr (slot_ne (Or.inr (wi hw 21 rfl)) (Or.inr (wi hw 17 rfl)) (by decide) (t := (.object "java/lang/String")) (t' := .int) (by decide) (by decide)))
  have f7 := F_a1_link.other W3 (Or.inr (slot_ne (Or.inr (wi hw 23 rfl)) (Or.inr (wi hw 17 rfl)) (by decide) (t := (.object "java/lang/String")) (t' := .int) (by decide) (by decide)))
  have f8 := F_a1_body.other W3 (Or.inr (slot_ne (Or.inr (wi hw 25 rfl)) (Or.inr (wi hw 17 rfl)) (by decide) (t := (.array .byte)) (t' := .int) (by decide) (by decide)))
  have N3 := Fr.snoc X3 N2 g_a1
  have z9 := Nat.le_trans Z0 (Keep.of_wr W3).1
  have K10 := K0.wr W3 (Or.inl (List.mem_of_getElem? (i := 0) rfl))
  refine Rch.go (U' := T3.setTop (mkF m 9 #[.val (.ref a1), .val (.int p1), .val .null, .val .null, .val .null, .val (.ref a2)] [])) st3 ?_
  refine Rch.go (U' := T3.setTop (mkF m 10 #[.val (.ref a1), .val (.int p1), .val .null, .val .null, .val .null, .val (.ref a2)] [(.ref a1)])) (fun _ k => XS.aloadN X3.here hx rfl (hb hby d7_9) rfl rfl k) ?_
  refine Rch.go (U' := T3.setTop (mkF m 11 #[.val (.ref a1), .val (.int p1), .val .null, .val .null, .val .null, .val (.ref a2)] [.null, (.ref a1)])) (fun _ k => XS.aloadN X3.here hx rfl (hb hby d7_10) rfl rfl k) ?_
  obtain ⟨T11, h11, X11, e11, W11, st11⟩ := putF X3 hx hZ hown (host := "") (Or.inl (wi hw 18 rfl)) Via.refl e3 f5 f4 (Or.inr ⟨(wi hw 19 rfl), rfl, hnm⟩) (wi hw 3 rfl) (ty := (.object "java/lang/String")) (by decide) rfl rfl (g := (mkF m 11 #[.val (.ref a1), .val (.int p1), .val .null, .val .null, .val .null, .val (.ref a2)] [.null, (.ref a1)])) rfl rfl (hb hby d7_11)
  have F11 := f5.same W11
  have f12 := f4.wr W11
  have f13 := F3.other W11 (Or.inr (slot_ne (Or.inr (wi hw 17 rfl)) (Or.inr (wi hw 19 rfl)) (by decide) (t := .int) (t' := (.object "java/lang/String")) (by decide) (by decide)))
  have f14 := f6.other W11 (Or.inr (slot_ne (Or.inr (wi hw 21 rfl)) (Or.inr (wi hw 19 rfl)) (by decide) (t := (.object "java/lang/String")) (t' := (.object "java/lang/String")) (by decide) (by decide)))
  have f15 := f7.other W11 (Or.inr (slot_ne (Or.inr (wi hw 23 rfl)) (Or.inr (wi hw 19 rfl)) (by decide) (t := (.object "java/lang/String")) (t' := (.object "java/lang/String")) (by decide) (by decide)))
  have f16 := f8.other W11 (Or.inr (slot_ne (Or.inr (wi hw 25 rfl)) (Or.inr (wi hw 19 rfl)) (by decide) (t := (.array .byte)) (t' := (.object "java/lang/String")) (by decide) (by decide)))
  have N11 := Fr.snoc X11 N3 g_a1
  have z17 := Nat.le_trans z9 (Keep.of_wr W11).1
  have K18 := K10.wr W11 (Or.inl (List.mem_of_getElem? (i := 0) rfl))
  refine Rch.go (U' := T11.setTop (mkF m 14 #[.val (.ref a1), .val (.int p1), .val .null, .val .null, .val .null, .val (.ref a2)] [])) st11 ?_
  refine Rch.go (U' := T11.setTop (mkF m 15 #[.val (.ref a1), .val (.int p1), .val .null, .val .null, .val .null, .val (.ref a2)] [(.ref a1)])) (fun _ k => XS.aloadN X11.here hx rfl (hb hby d7_14) rfl rfl k) ?_
  refine Rch.go (U' := T11.setTop (mkF m 16 #[.val (.ref a1), .val (.int p1), .val .null, .val .null, .val .null, .val (.ref a2)] [.null, (.ref a1)])) (fun _ k => XS.aloadN X11.here hx rfl (hb hby d7_15) rfl rfl k) ?_
  obtain ⟨T19, h19, X19, e19, W19, st19⟩ := putF X11 hx hZ hown (host := "") (Or.inl (wi hw 20 rfl)) Via.refl e11 f14 f12 (Or.inr ⟨(wi hw 21 rfl), rfl, hnm⟩) (wi hw 3 rfl) (ty := (.object "java/lang/String")) (by decide) rfl rfl (g := (mkF m 16 #[.val (.ref a1), .val (.int p1), .val .null, .val .null, .val .null, .val (.ref a2)] [.null, (.ref a1)])) rfl rfl (hb hby d7_16)
  have F19 := f14.same W19
  have f20 := f12.wr W19
  have f21 := f13.other W19 (Or.inr (slot_ne (Or.inr (wi hw 17 rfl)) (Or.inr (wi hw 21 rfl)) (by decide) (t := .int) (t' := (.object "java/lang/String")) (by decide) (by decide)))
  have f22 := F11.other W19 (Or.inr (slot_ne (Or.inr (wi hw 19 rfl)) (Or.inr (wi hw 21 rfl)) (by decide) (t := (.object "java/lang/String")) (t' := (.object "java/lang/String")) (by decide) (by decide)))
  have f23 := f15.other W19 (Or.inr (slot_ne (Or.inr (wi hw 23 rfl)) (Or.inr (wi hw 21 rfl)) (by decide) (t := (.object "java/lang/String")) (t' := (.object "java/lang/String")) (by decide) (by decide)))
  have f24 := f16.other W19 (Or.inr (slot_ne (Or.inr (wi hw 25 rfl)) (Or.inr (wi hw 21 rfl)) (by decide) (t := (.array .byte)) (t' := (.object "java/lang/String")) (by decide) (by decide)))
  have N19 := Fr.snoc X19 N11 g_a1
  have z25 := Nat.le_trans z17 (Keep.of_wr W19).1
  have K26 := K18.wr W19 (Or.inl (List.mem_of_getElem? (i := 0) rfl))
  refine Rch.go (U' := T19.setTop (mkF m 19 #[.val (.ref a1), .val (.int p1), .val .null, .val .null, .val .null, .val (.ref a2)] [])) st19 ?_
  refine Rch.go (U' := T19.setTop (mkF m 20 #[.val (.ref a1), .val (.int p1), .val .null, .val .null, .val .null, .val (.ref a2)] [(.ref a1)])) (fun _ k => XS.aloadN X19.here hx rfl (hb hby d7_19) rfl rfl k) ?_
  refine Rch.go (U' := T19.setTop (mkF m 22 #[.val (.ref a1), .val (.int p1), .val .null, .val .null, .val .null, .val (.ref a2)] [.null, (.ref a1)])) (fun _ k => XS.aload X19.here hx rfl (hb hby d7_20) rfl rfl k) ?_
  obtain ⟨T27, h27, X27, e27, W27, st27⟩ := putF X19 hx hZ hown (host := "") (Or.inl (wi hw 22 rfl)) Via.refl e19 f23 f20 (Or.inr ⟨(wi hw 23 rfl), rfl, hnm⟩) (wi hw 3 rfl) (ty := (.object "java/lang/String")) (by decide) rfl rfl (g := (mkF m 22 #[.val (.ref a1), .val (.int p1), .val .null, .val .null, .val .null, .val (.ref a2)] [.null, (.ref a1)])) rfl rfl (hb hby d7_22)
  have F27 := f23.same W27
  have f28 := f20.wr W27
  have f29 := f21.other W27 (Or.inr (slot_ne (Or.inr (wi hw 17 rfl)) (Or.inr (wi hw 23 rfl)) (by decide) (t := .int) (t' := (.object "java/lang/String")) (by decide) (by decide)))
  have f30 := f22.other W27 (Or.inr (slot_ne (Or.inr (wi hw 19 rfl)) (Or.inr (wi hw 23 rfl)) (by decide) (t := (.object "java/lang/String")) (t' := (.object "java/lang/String")) (by decide) (by decide)))
  have f31 := F19.other W27 (Or.inr (slot_ne (Or.inr (wi hw 21 rfl)) (Or.inr (wi hw 23 rfl)) (by decide) (t := (.object "java/lang/String")) (t' := (.object "java/lang/String")) (by decide) (by decide)))
  have f32 := f24.other W27 (Or.inr (slot_ne (Or.inr (wi hw 25 rfl)) (Or.inr (wi hw 23 rfl)) (by decide) (t := (.array .byte)) (t' := (.object "java/lang/String")) (by decide) (by decide)))
  have N27 := Fr.snoc X27 N19 g_a1
  have z33 := Nat.le_trans z25 (Keep.of_wr W27).1
  have K34 := K26.wr W27 (Or.inl (List.mem_of_getElem? (i := 0) rfl))
  refine Rch.go (U' := T27.setTop (mkF m 25 #[.val (.ref a1), .val (.int p1), .val .null, .val .null, .val .null, .val (.ref a2)] [])) st27 ?_
  refine Rch.go (U' := T27.setTop (mkF m 26 #[.val (.ref a1), .val (.int p1), .val .null, .val .null, .val .null, .val (.ref a2)] [(.ref a1)])) (fun _ k => XS.aloadN X27.here hx rfl (hb hby d7_25) rfl rfl k) ?_
  refine Rch.go (U' := T27.setTop (mkF m 28 #[.val (.ref a1), .val (.int p1), .val .null, .val .null, .val .null, .val (.ref a2)] [(.ref a2), (.ref a1)])) (fun _ k => XS.aload X27.here hx rfl (hb hby d7_26) rfl rfl k) ?_
  obtain ⟨T35, h35, X35, e35, W35, st35⟩ := putF X27 hx hZ hown (host := "") (Or.inl (wi hw 24 rfl)) Via.refl e27 f32 f28 (Or.inr ⟨(wi hw 25 rfl), rfl, hnm⟩) (wi hw 3 rfl) (ty := (.array .byte)) (by decide) rfl rfl (g := (mkF m 28 #[.val (.ref a1), .val (.int p1), .val .null, .val .null, .val .null, .val (.ref a2)] [(.ref a2), (.ref a1)])) rfl rfl (hb hby d7_28)
  have F35 := f32.same W35
  have f36 := f28.wr W35
  have f37 := f29.other W35 (Or.inr (slot_ne (Or.inr (wi hw 17 rfl)) (Or.inr (wi hw 25 rfl)) (by decide) (t := .int) (t' := (.array .byte)) (by decide) (by decide)))
  have f38 := f30.other W35 (Or.inr (slot_ne (Or.inr (wi hw 19 rfl)) (Or.inr (wi hw 25 rfl)) (by decide) (t := (.object "java/lang/String")) (t' := (.array .byte)) (by decide) (by decide)))
  have f39 := f31.other W35 (Or.inr (slot_ne (Or.inr (wi hw 21 rfl)) (Or.inr (wi hw 25 rfl)) (by decide) (t := (.object "java/lang/String")) (t' := (.array .byte)) (by decide) (by decide)))
  have f40 := F27.other W35 (Or.inr (slot_ne (Or.inr (wi hw 23 rfl)) (Or.inr (wi hw 25 rfl)) (by decide) (t := (.object "java/lang/String")) (t' := (.array .byte)) (by decide) (by decide)))
  have N35 := Fr.snoc X35 N27 g_a1
  have z41 := Nat.le_trans z33 (Keep.of_wr W35).1
  have K42 := K34.wr W35 (Or.inl (List.mem_of_getElem? (i := 0) rfl))
  refine Rch.go (U' := T35.setTop (mkF m 31 #[.val (.ref a1), .val (.int p1), .val .null, .val .null, .val .null, .val (.ref a2)] [])) st35 ?_
  refine Rch.fin X35 hlk (v := none) (fun _ => rfl) e35 (by decide) (by decide) (fun fs hr => X35.returnOut hx hret (hb hby d7_31) hr) ?_
  exact ⟨rfl, N35, K42, (by first | exact f37 | (simp only [nar_1, nar_0, ↓reduceIte]; exact f37) | (simp [nar_1, nar_0, ↓reduceIte]; exact f37)), (by first | exact f38 | (simp only [nar_1, nar_0, ↓reduceIte]; exact f38) | (simp [nar_1, nar_0, ↓reduceIte]; exact f38)), (by first | exact f39 | (simp only [nar_1, nar_0, ↓reduceIte]; exact f39) | (simp [nar_1, nar_0, ↓reduceIte]; exact f39)), (by first | exact f40 | (simp only [nar_1, nar_0, ↓reduceIte]; exact f40) | (simp [nar_1, nar_0, ↓reduceIte]; exact f40)), (by first | exact F35 | (simp only [nar_1, nar_0, ↓reduceIte]; exact F35) | (simp [nar_1, nar_0, ↓reduceIte]; exact F35))⟩
theorem d30_0 : decode prog_13_method_2_code 0 = .ok (.aload_n 0, 1) := by decide +kernel
theorem d30_1 : decode prog_13_method_2_code 1 = .ok (.getfield 7, 3) := by decide +kernel
theorem d30_4 : decode prog_13_method_2_code 4 = .ok (.bipush 100, 2) := by decide +kernel
theorem d30_6 : decode prog_13_method_2_code 6 = .ok (.idiv, 1) := by decide +kernel
theorem d30_7 : decode prog_13_method_2_code 7 = .ok (.iconst 2, 1) := by decide +kernel
theorem d30_8 : decode prog_13_method_2_code 8 = .ok (.if_icmp .ne 7, 3) := by decide +kernel
theorem d30_11 : decode prog_13_method_2_code 11 = .ok (.iconst 1, 1) := by decide +kernel
theorem d30_12 : decode prog_13_method_2_code 12 = .ok (.goto 4, 3) := by decide +kernel
theorem d30_15 : decode prog_13_method_2_code 15 = .ok (.iconst 0, 1) := by decide +kernel
theorem d30_16 : decode prog_13_method_2_code 16 = .ok (.ireturn, 1) := by decide +kernel
theorem ef_rmIs (m : MethodId) (a1 : Addr) : entryFrame m #[(.ref a1)] 1 = mkF m 0 #[.val (.ref a1)] [] := by first | (simp [entryFrame, mkF, argsToLocals, Value.category]; done) | rfl
def Q_rmIs (Z : State) (a1 : Addr) (us : Int32) (a2 : Addr) (h0 : Heap) (n0 : Nat) (v : Option Value) (h : Heap) (L : List Loc) : Prop := v = some (.int (own_succ us)) ∧ Fr n0 L ∧ h = h0
set_option maxRecDepth 65536 in
set_option maxHeartbeats 40000000 in
theorem rmIs (l : Launch) (Z : State) (a0 : Array Value) (hw : ∀ d ∈ tables_1, d.before a0 Z = true) (ws : List Jvm.Cond) (a1 : Addr) (us : Int32) (a2 : Addr) (h0 : Heap) (n0 : Nat) (Z0 : n0 ≤ h0.size) (E_a1 : Exa Z h0 a1 "com/example/linkstride/linkstride/lookup/HttpRequests$Response") (F_a1_status : Fld Z h0 a1 "com/example/linkstride/linkstride/lookup/HttpRequests$Response" "status" "I" (.int us)) (F_a1_contentType : Fld Z h0 a1 "com/example/linkstride/linkstride/lookup/HttpRequests$Response" "contentType" "Ljava/lang/String;" .null) (F_a1_location : Fld Z h0 a1 "com/example/linkstride/linkstride/lookup/HttpRequests$Response" "location" "Ljava/lang/String;" .null) (F_a1_link : Fld Z h0 a1 "com/example/linkstride/linkstride/lookup/HttpRequests$Response" "link" "Ljava/lang/String;" .null) (F_a1_body : Fld Z h0 a1 "com/example/linkstride/linkstride/lookup/HttpRequests$Response" "body" "[B" (.ref a2)) :
    MetFree l (⟨"com/example/linkstride/linkstride/lookup/HttpRequests$Response", "isSuccess", "()Z"⟩ : MethodName) (head1 (Jvm.Cond.code (⟨"com/example/linkstride/linkstride/lookup/HttpRequests$Response", "isSuccess", "()Z"⟩ : MethodName) prog_13_method_2_code 1 (some .boolean) :: ws) ({ frames := 0, cells := 0, slots := 0, locals := 0 } : Room)) (fun a U => a = #[(.ref a1)] ∧ Z.Warmed39 U.vm ∧ U.heap = h0) (fun _ _ _ _ _ => True) (fun _ U o U' => ∃ v L, o = .returned v ∧ Q_rmIs Z a1 us a2 h0 n0 v U'.heap L ∧ FrameEnd U o U' L ({ frames := 0, cells := 0, slots := 0, locals := 0 } : Room).cells ({ frames := 0, cells := 0, slots := 0, locals := 0 } : Room).slots) := by
  refine MetFree.of_bodySF (plainFor_of_name pn_com_example_linkstride_linkstride_lookup_HttpRequests_Response) hisR ?_
  intro p e s m args below meth c s₁ Bd hml0 hP hK
  obtain ⟨rfl, hZ, hh⟩ := hP
  have hx := Bd.exec
  have hby := Bd.bytes
  have hml : c.maxLocals = 1 := hml0
  have hown : s.vm.findClass "com/example/linkstride/linkstride/lookup/HttpRequests$Response" = some m.cls := findClass_of_methodNamed Bd.named
  have hnm := (name_of_methodNamed Bd.named Bd.method).1
  have hret := Bd.returns
  have hlk : meth.locks = false := BodyLoose.notSynchronized Bd
  have X0 : Stand p l e ({ frames := 0, cells := 0, slots := 0, locals := 0 } : Room) s m #[(.ref a1)] below meth c s₁ [] 0 0 := Stand.of_body Bd
  have e0 : s₁.heap = h0 := by rw [← hh, Bd.state]; rfl
  have N0 := Fr.nil n0
  refine Rch.body (Q := Q_rmIs Z a1 us a2 h0 n0) (U' := s₁.setTop (mkF m 0 #[.val (.ref a1)] [])) (fun t k => castTop (ef_rmIs m a1) k) ?_
  refine Rch.go (U' := s₁.setTop (mkF m 1 #[.val (.ref a1)] [(.ref a1)])) (fun _ k => XS.aloadN X0.here hx rfl (hb hby d30_0) rfl rfl k) ?_
  obtain ⟨T43, X43, e43, st43⟩ := getF X0 hx hZ hown (host := "") (Or.inl (wi hw 16 rfl)) Via.refl e0 F_a1_status (g := (mkF m 1 #[.val (.ref a1)] [(.ref a1)])) rfl rfl (hb hby d30_1)
  refine Rch.go (U' := T43.setTop (mkF m 4 #[.val (.ref a1)] [(.int us)])) st43 ?_
  refine Rch.go (U' := T43.setTop (mkF m 6 #[.val (.ref a1)] [(.int (100 : Int32)), (.int us)])) (fun _ k => XS.bipush X43.here hx rfl (hb hby d30_4) k) ?_
  refine Rch.go (U' := T43.setTop (mkF m 7 #[.val (.ref a1)] [(.int (us / (100 : Int32)))])) (fun _ k => XS.idiv X43.here hx rfl (hb hby d30_6) rfl (by decide) k) ?_
  refine Rch.go (U' := T43.setTop (mkF m 8 #[.val (.ref a1)] [(.int (2 : Int32)), (.int (us / (100 : Int32)))])) (fun _ k => XS.iconst X43.here hx rfl (hb hby d30_7) k) ?_
  by_cases br44 : (us / (100 : Int32)) = (2 : Int32)
  ·
    refine Rch.go (U' := T43.setTop (mkF m 11 #[.val (.ref a1)] [])) (fun _ k => XS.icmpNo X43.here hx rfl (hb hby d30_8) rfl (XT.ii_ne_f br44) k) ?_
    refine Rch.go (U' := T43.setTop (mkF m 12 #[.val (.ref a1)] [(.int (1 : Int32))])) (fun _ k => XS.iconst X43.here hx rfl (hb hby d30_11) k) ?_
    refine Rch.go (U' := T43.setTop (mkF m 16 #[.val (.ref a1)] [(.int (1 : Int32))])) (fun _ k => XS.goto X43.here hx rfl (pc0 := 12) (pc' := 16) rfl (hb hby d30_12) (by decide) (by decide) k) ?_
    refine Rch.fin X43 hlk (v := some (.int (nar .boolean (1 : Int32)))) (fun h => by rw [hret] at h; cases h) e43 (by decide) (by decide) (fun fs hr => retN X43 hx (t := .boolean) hret (by simp) (hb hby d30_16) hr) ?_
    exact ⟨(by first | rfl | (simp only [own_succ, br44, nar_1, nar_0, ↓reduceIte]; done) | (simp [own_succ, br44, nar_1, nar_0, ↓reduceIte]; done)), N0, rfl⟩
  ·
    refine Rch.go (U' := T43.setTop (mkF m 15 #[.val (.ref a1)] [])) (fun _ k => XS.icmpYes X43.here hx rfl (pc0 := 8) (pc' := 15) rfl (hb hby d30_8) rfl (XT.ii_ne_t br44) (by decide) (by decide) k) ?_
    refine Rch.go (U' := T43.setTop (mkF m 16 #[.val (.ref a1)] [(.int (0 : Int32))])) (fun _ k => XS.iconst X43.here hx rfl (hb hby d30_15) k) ?_
    refine Rch.fin X43 hlk (v := some (.int (nar .boolean (0 : Int32)))) (fun h => by rw [hret] at h; cases h) e43 (by decide) (by decide) (fun fs hr => retN X43 hx (t := .boolean) hret (by simp) (hb hby d30_16) hr) ?_
    exact ⟨(by first | rfl | (simp only [own_succ, br44, nar_1, nar_0, ↓reduceIte]; done) | (simp [own_succ, br44, nar_1, nar_0, ↓reduceIte]; done)), N0, rfl⟩
theorem d34_0 : decode method_3_code 0 = .ok (.iload_n 0, 1) := by decide +kernel
theorem d34_1 : decode method_3_code 1 = .ok (.sipush 200, 3) := by decide +kernel
theorem d34_4 : decode method_3_code 4 = .ok (.if_icmp .lt 14, 3) := by decide +kernel
theorem d34_7 : decode method_3_code 7 = .ok (.iload_n 0, 1) := by decide +kernel
theorem d34_8 : decode method_3_code 8 = .ok (.sipush 299, 3) := by decide +kernel
theorem d34_11 : decode method_3_code 11 = .ok (.if_icmp .gt 7, 3) := by decide +kernel
theorem d34_14 : decode method_3_code 14 = .ok (.iconst 1, 1) := by decide +kernel
theorem d34_15 : decode method_3_code 15 = .ok (.goto 4, 3) := by decide +kernel
theorem d34_18 : decode method_3_code 18 = .ok (.iconst 0, 1) := by decide +kernel
theorem d34_19 : decode method_3_code 19 = .ok (.ireturn, 1) := by decide +kernel
theorem pn_com_example_linkstride_linkstride_lookup_ResponseIsSuccessPinLaw : plainName "com/example/linkstride/linkstride/lookup/ResponseIsSuccessPinLaw" = true := by first | (simp [plainName, overriddenIn]; done) | decide +kernel
theorem ef_rmE (m : MethodId) (p1 : Int32) : entryFrame m #[(.int p1)] 1 = mkF m 0 #[.val (.int p1)] [] := by first | (simp [entryFrame, mkF, argsToLocals, Value.category]; done) | rfl
def Q_rmE (Z : State) (p1 : Int32) (h0 : Heap) (n0 : Nat) (v : Option Value) (h : Heap) (L : List Loc) : Prop := v = some (.int (own_exp p1)) ∧ Fr n0 L ∧ h = h0
set_option maxRecDepth 65536 in
set_option maxHeartbeats 40000000 in
theorem rmE (l : Launch) (Z : State) (a0 : Array Value) (hw : ∀ d ∈ tables_1, d.before a0 Z = true) (ws : List Jvm.Cond) (p1 : Int32) (h0 : Heap) (n0 : Nat) (Z0 : n0 ≤ h0.size)  :
    MetFree l (⟨"com/example/linkstride/linkstride/lookup/ResponseIsSuccessPinLaw", "expected", "(I)Z"⟩ : MethodName) (head1 (Jvm.Cond.code (⟨"com/example/linkstride/linkstride/lookup/ResponseIsSuccessPinLaw", "expected", "(I)Z"⟩ : MethodName) method_3_code 1 (some .boolean) :: ws) ({ frames := 0, cells := 0, slots := 0, locals := 0 } : Room)) (fun a U => a = #[(.int p1)] ∧ Z.Warmed39 U.vm ∧ U.heap = h0) (fun _ _ _ _ _ => True) (fun _ U o U' => ∃ v L, o = .returned v ∧ Q_rmE Z p1 h0 n0 v U'.heap L ∧ FrameEnd U o U' L ({ frames := 0, cells := 0, slots := 0, locals := 0 } : Room).cells ({ frames := 0, cells := 0, slots := 0, locals := 0 } : Room).slots) := by
  refine MetFree.of_bodySF (plainFor_of_name pn_com_example_linkstride_linkstride_lookup_ResponseIsSuccessPinLaw) hisR ?_
  intro p e s m args below meth c s₁ Bd hml0 hP hK
  obtain ⟨rfl, hZ, hh⟩ := hP
  have hx := Bd.exec
  have hby := Bd.bytes
  have hml : c.maxLocals = 1 := hml0
  have hown : s.vm.findClass "com/example/linkstride/linkstride/lookup/ResponseIsSuccessPinLaw" = some m.cls := findClass_of_methodNamed Bd.named
  have hnm := (name_of_methodNamed Bd.named Bd.method).1
  have hret := Bd.returns
  have hlk : meth.locks = false := BodyLoose.notSynchronized Bd
  have X0 : Stand p l e ({ frames := 0, cells := 0, slots := 0, locals := 0 } : Room) s m #[(.int p1)] below meth c s₁ [] 0 0 := Stand.of_body Bd
  have e0 : s₁.heap = h0 := by rw [← hh, Bd.state]; rfl
  have N0 := Fr.nil n0
  refine Rch.body (Q := Q_rmE Z p1 h0 n0) (U' := s₁.setTop (mkF m 0 #[.val (.int p1)] [])) (fun t k => castTop (ef_rmE m p1) k) ?_
  refine Rch.go (U' := s₁.setTop (mkF m 1 #[.val (.int p1)] [(.int p1)])) (fun _ k => XS.iloadN X0.here hx rfl (hb hby d34_0) rfl  k) ?_
  refine Rch.go (U' := s₁.setTop (mkF m 4 #[.val (.int p1)] [(.int (200 : Int32)), (.int p1)])) (fun _ k => XS.sipush X0.here hx rfl (hb hby d34_1) k) ?_
  by_cases br45 : p1 < (200 : Int32)
  ·
    refine Rch.go (U' := s₁.setTop (mkF m 18 #[.val (.int p1)] [])) (fun _ k => XS.icmpYes X0.here hx rfl (pc0 := 4) (pc' := 18) rfl (hb hby d34_4) rfl (XT.ii_lt_t br45) (by decide) (by decide) k) ?_
    refine Rch.go (U' := s₁.setTop (mkF m 19 #[.val (.int p1)] [(.int (0 : Int32))])) (fun _ k => XS.iconst X0.here hx rfl (hb hby d34_18) k) ?_
    refine Rch.fin X0 hlk (v := some (.int (nar .boolean (0 : Int32)))) (fun h => by rw [hret] at h; cases h) e0 (by decide) (by decide) (fun fs hr => retN X0 hx (t := .boolean) hret (by simp) (hb hby d34_19) hr) ?_
    exact ⟨by simp only [own_exp, br45, nar_1, nar_0, ↓reduceIte], N0, rfl⟩
  ·
    refine Rch.go (U' := s₁.setTop (mkF m 7 #[.val (.int p1)] [])) (fun _ k => XS.icmpNo X0.here hx rfl (hb hby d34_4) rfl (XT.ii_lt_f br45) k) ?_
    refine Rch.go (U' := s₁.setTop (mkF m 8 #[.val (.int p1)] [(.int p1)])) (fun _ k => XS.iloadN X0.here hx rfl (hb hby d34_7) rfl  k) ?_
    refine Rch.go (U' := s₁.setTop (mkF m 11 #[.val (.int p1)] [(.int (299 : Int32)), (.int p1)])) (fun _ k => XS.sipush X0.here hx rfl (hb hby d34_8) k) ?_
    by_cases br46 : (299 : Int32) < p1
    ·
      refine Rch.go (U' := s₁.setTop (mkF m 18 #[.val (.int p1)] [])) (fun _ k => XS.icmpYes X0.here hx rfl (pc0 := 11) (pc' := 18) rfl (hb hby d34_11) rfl (XT.ii_gt_t br46) (by decide) (by decide) k) ?_
      refine Rch.go (U' := s₁.setTop (mkF m 19 #[.val (.int p1)] [(.int (0 : Int32))])) (fun _ k => XS.iconst X0.here hx rfl (hb hby d34_18) k) ?_
      refine Rch.fin X0 hlk (v := some (.int (nar .boolean (0 : Int32)))) (fun h => by rw [hret] at h; cases h) e0 (by decide) (by decide) (fun fs hr => retN X0 hx (t := .boolean) hret (by simp) (hb hby d34_19) hr) ?_
      exact ⟨by simp only [own_exp, br45, br46, nar_1, nar_0, ↓reduceIte], N0, rfl⟩
    ·
      refine Rch.go (U' := s₁.setTop (mkF m 14 #[.val (.int p1)] [])) (fun _ k => XS.icmpNo X0.here hx rfl (hb hby d34_11) rfl (XT.ii_gt_f br46) k) ?_
      refine Rch.go (U' := s₁.setTop (mkF m 15 #[.val (.int p1)] [(.int (1 : Int32))])) (fun _ k => XS.iconst X0.here hx rfl (hb hby d34_14) k) ?_
      refine Rch.go (U' := s₁.setTop (mkF m 19 #[.val (.int p1)] [(.int (1 : Int32))])) (fun _ k => XS.goto X0.here hx rfl (pc0 := 15) (pc' := 19) rfl (hb hby d34_15) (by decide) (by decide) k) ?_
      refine Rch.fin X0 hlk (v := some (.int (nar .boolean (1 : Int32)))) (fun h => by rw [hret] at h; cases h) e0 (by decide) (by decide) (fun fs hr => retN X0 hx (t := .boolean) hret (by simp) (hb hby d34_19) hr) ?_
      exact ⟨by simp only [own_exp, br45, br46, nar_1, nar_0, ↓reduceIte], N0, rfl⟩
theorem pd_5 : parseMethodDescriptor "(ILjava/lang/String;Ljava/lang/String;Ljava/lang/String;[B)V" = some ⟨[.int, (.object "java/lang/String"), (.object "java/lang/String"), (.object "java/lang/String"), (.array .byte)], none⟩ := by decide +kernel
theorem pd_6 : parseMethodDescriptor "()Z" = some ⟨[], some .boolean⟩ := by decide +kernel
theorem pd_7 : parseMethodDescriptor "(I)Z" = some ⟨[.int], some .boolean⟩ := by decide +kernel
theorem ef_rm0 (m : MethodId) (p1 : Int32) (p2 : Int32) : entryFrame m #[(.int p1), (.int p2)] maxLocals = mkF m 0 #[.val (.int p1), .val (.int p2), .unset, .unset, .unset, .unset] [] := by first | (simp [entryFrame, mkF, argsToLocals, Value.category, maxLocals]; done) | rfl
def Q_rm0 (Z : State) (p1 : Int32) (p2 : Int32) (h0 : Heap) (n0 : Nat) (v : Option Value) (h : Heap) (L : List Loc) : Prop := v = some (.int 1) ∧ Fr n0 L
set_option maxRecDepth 65536 in
set_option maxHeartbeats 40000000 in
theorem rm0 (l : Launch) (Z : State) (a0 : Array Value) (hw : ∀ d ∈ tables_1, d.before a0 Z = true) (ws : List Jvm.Cond) (p1 : Int32) (p2 : Int32) (h0 : Heap) (n0 : Nat) (Z0 : n0 ≤ h0.size)  :
    MetFree l x (head1 (Jvm.Cond.code x code maxLocals ret :: ws) room_1) (fun a U => a = #[(.int p1), (.int p2)] ∧ Z.Warmed39 U.vm ∧ U.heap = h0) (fun _ _ _ _ _ => True) (fun _ U o U' => ∃ v L, o = .returned v ∧ Q_rm0 Z p1 p2 h0 n0 v U'.heap L ∧ FrameEnd U o U' L 16 128) := by
  refine MetFree.of_bodySF (plainFor_of_name pn_com_example_linkstride_linkstride_lookup_ResponseIsSuccessPinLaw) hisR ?_
  intro p e s m args below meth c s₁ Bd hml0 hP hK
  obtain ⟨rfl, hZ, hh⟩ := hP
  have hx := Bd.exec
  have hby := Bd.bytes
  have hml : c.maxLocals = 6 := hml0
  have hown : s.vm.findClass "com/example/linkstride/linkstride/lookup/ResponseIsSuccessPinLaw" = some m.cls := findClass_of_methodNamed Bd.named
  have hnm := (name_of_methodNamed Bd.named Bd.method).1
  have hret := Bd.returns
  have hlk : meth.locks = false := BodyLoose.notSynchronized Bd
  have X0 : Stand p l e room_1 s m #[(.int p1), (.int p2)] below meth c s₁ [] 0 0 := Stand.of_body Bd
  have e0 : s₁.heap = h0 := by rw [← hh, Bd.state]; rfl
  have N0 := Fr.nil n0
  refine Rch.body (Q := Q_rm0 Z p1 p2 h0 n0) (U' := s₁.setTop (mkF m 0 #[.val (.int p1), .val (.int p2), .unset, .unset, .unset, .unset] [])) (fun t k => castTop (ef_rm0 m p1 p2) k) ?_
  refine Rch.go (U' := s₁.setTop (mkF m 3 #[.val (.int p1), .val (.int p2), .unset, .unset, .unset, .unset] [(.int (150 : Int32))])) (fun _ k => XS.sipush X0.here hx rfl (hb hby at_0) k) ?_
  refine Rch.go (U' := s₁.setTop (mkF m 4 #[.val (.int p1), .val (.int p2), .unset, .unset, .unset, .unset] [(.int p2), (.int (150 : Int32))])) (fun _ k => XS.iloadN X0.here hx rfl (hb hby at_3) rfl  k) ?_
  refine Rch.go (U' := s₁.setTop (mkF m 6 #[.val (.int p1), .val (.int p2), .unset, .unset, .unset, .unset] [(.int (2147483647 : Int32)), (.int p2), (.int (150 : Int32))])) (fun _ k => X0.ldcInt hx hown (mvT hZ (wi hw 0 rfl)) (g := (mkF m 4 #[.val (.int p1), .val (.int p2), .unset, .unset, .unset, .unset] [(.int p2), (.int (150 : Int32))])) rfl (hb hby at_4) _ k) ?_
  refine Rch.go (U' := s₁.setTop (mkF m 7 #[.val (.int p1), .val (.int p2), .unset, .unset, .unset, .unset] [(.int (p2 &&& (2147483647 : Int32))), (.int (150 : Int32))])) (fun _ k => XS.iand X0.here hx rfl (hb hby at_6) rfl k) ?_
  refine Rch.go (U' := s₁.setTop (mkF m 10 #[.val (.int p1), .val (.int p2), .unset, .unset, .unset, .unset] [(.int (200 : Int32)), (.int (p2 &&& (2147483647 : Int32))), (.int (150 : Int32))])) (fun _ k => XS.sipush X0.here hx rfl (hb hby at_7) k) ?_
  refine Rch.go (U' := s₁.setTop (mkF m 11 #[.val (.int p1), .val (.int p2), .unset, .unset, .unset, .unset] [(.int ((p2 &&& (2147483647 : Int32)) % (200 : Int32))), (.int (150 : Int32))])) (fun _ k => iremM X0 hx rfl (hb hby at_10) rfl (by decide) k) ?_
  refine Rch.go (U' := s₁.setTop (mkF m 12 #[.val (.int p1), .val (.int p2), .unset, .unset, .unset, .unset] [(.int ((150 : Int32) + ((p2 &&& (2147483647 : Int32)) % (200 : Int32))))])) (fun _ k => XS.iadd X0.here hx rfl (hb hby at_11) rfl k) ?_
  generalize hs2 : ((150 : Int32) + ((p2 &&& (2147483647 : Int32)) % (200 : Int32))) = s2
  refine Rch.go (U' := s₁.setTop (mkF m 13 #[.val (.int p1), .val (.int p2), .val (.int s2), .unset, .unset, .unset] [])) (fun _ k => XS.istoreN X0.here hx rfl (hb hby at_12) rfl (l' := #[.val (.int p1), .val (.int p2), .val (.int s2), .unset, .unset, .unset]) rfl k) ?_
  refine Rch.go (U' := s₁.setTop (mkF m 14 #[.val (.int p1), .val (.int p2), .val (.int s2), .unset, .unset, .unset] [(.int (0 : Int32))])) (fun _ k => XS.iconst X0.here hx rfl (hb hby at_13) k) ?_
  obtain ⟨T47, h47, k47, X47, e47, E47, A47, st47⟩ := newP X0 hx hZ (wi hw 1 rfl) e0 (g := (mkF m 14 #[.val (.int p1), .val (.int p2), .val (.int s2), .unset, .unset, .unset] [(.int (0 : Int32))])) rfl (hb hby at_14) rfl (by decide) (cap := 0) (by decide) (by decide) (by decide) (by decide)
  obtain ⟨b47, g47⟩ : ∃ z, z = h0.size := ⟨_, rfl⟩
  rw [← g47] at A47 st47
  have n0b47 : n0 ≤ b47 := Nat.le_trans Z0 (Nat.le_of_eq g47.symm)
  have z48 := Nat.le_trans Z0 E47.1
  have V47 : Arv Z h47 b47 k47 .byte (0 : Int32) [] (.int (0 : Int32)) := Arv.new A47 (by decide)
  refine Rch.go (U' := T47.setTop (mkF m 16 #[.val (.int p1), .val (.int p2), .val (.int s2), .unset, .unset, .unset] [(.ref b47)])) st47 ?_
  refine Rch.go (U' := T47.setTop (mkF m 17 #[.val (.int p1), .val (.int p2), .val (.int s2), .val (.ref b47), .unset, .unset] [])) (fun _ k => XS.astoreN X47.here hx rfl (hb hby at_16) rfl rfl (l' := #[.val (.int p1), .val (.int p2), .val (.int s2), .val (.ref b47), .unset, .unset]) rfl k) ?_
  obtain ⟨T49, h49, X49, e49, E49, A49, D49, -, st49⟩ := newO X47 hx hZ hown (wi hw 2 rfl) (wi hw 3 rfl) (wi hw 4 rfl) e47 (g := (mkF m 17 #[.val (.int p1), .val (.int p2), .val (.int s2), .val (.ref b47), .unset, .unset] [])) rfl (hb hby at_17) (by decide) (by decide)
  obtain ⟨b49, g49⟩ : ∃ z, z = h47.size := ⟨_, rfl⟩
  rw [← g49] at A49 D49 st49
  have ne50 : b47 ≠ b49 := Nat.ne_of_lt (Nat.lt_of_lt_of_le V47.lt (Nat.le_of_eq g49.symm))
  have n0b49 : n0 ≤ b49 := Nat.le_trans z48 (Nat.le_of_eq g49.symm)
  have f51 := V47.ext E49
  have z52 := Nat.le_trans z48 E49.1
  have F49_status : Fld Z h49 b49 "com/example/linkstride/linkstride/lookup/HttpRequests$Response" "status" "I" (.int (0 : Int32)) := D49 (Or.inr (wi hw 17 rfl)) (ty := .int) (by decide)
  have F49_contentType : Fld Z h49 b49 "com/example/linkstride/linkstride/lookup/HttpRequests$Response" "contentType" "Ljava/lang/String;" .null := D49 (Or.inr (wi hw 19 rfl)) (ty := (.object "java/lang/String")) (by decide)
  have F49_location : Fld Z h49 b49 "com/example/linkstride/linkstride/lookup/HttpRequests$Response" "location" "Ljava/lang/String;" .null := D49 (Or.inr (wi hw 21 rfl)) (ty := (.object "java/lang/String")) (by decide)
  have F49_link : Fld Z h49 b49 "com/example/linkstride/linkstride/lookup/HttpRequests$Response" "link" "Ljava/lang/String;" .null := D49 (Or.inr (wi hw 23 rfl)) (ty := (.object "java/lang/String")) (by decide)
  have F49_body : Fld Z h49 b49 "com/example/linkstride/linkstride/lookup/HttpRequests$Response" "body" "[B" .null := D49 (Or.inr (wi hw 25 rfl)) (ty := (.array .byte)) (by decide)
  refine Rch.go (U' := T49.setTop (mkF m 20 #[.val (.int p1), .val (.int p2), .val (.int s2), .val (.ref b47), .unset, .unset] [(.ref b49)])) st49 ?_
  refine Rch.go (U' := T49.setTop (mkF m 21 #[.val (.int p1), .val (.int p2), .val (.int s2), .val (.ref b47), .unset, .unset] [(.ref b49), (.ref b49)])) (fun _ k => XS.dup X49.here hx rfl (hb hby at_20) rfl rfl k) ?_
  refine Rch.go (U' := T49.setTop (mkF m 22 #[.val (.int p1), .val (.int p2), .val (.int s2), .val (.ref b47), .unset, .unset] [(.int p1), (.ref b49), (.ref b49)])) (fun _ k => XS.iloadN X49.here hx rfl (hb hby at_21) rfl  k) ?_
  refine Rch.go (U' := T49.setTop (mkF m 23 #[.val (.int p1), .val (.int p2), .val (.int s2), .val (.ref b47), .unset, .unset] [.null, (.int p1), (.ref b49), (.ref b49)])) (fun _ k => XS.aconstNull X49.here hx rfl (hb hby at_22) k) ?_
  refine Rch.go (U' := T49.setTop (mkF m 24 #[.val (.int p1), .val (.int p2), .val (.int s2), .val (.ref b47), .unset, .unset] [.null, .null, (.int p1), (.ref b49), (.ref b49)])) (fun _ k => XS.aconstNull X49.here hx rfl (hb hby at_23) k) ?_
  refine Rch.go (U' := T49.setTop (mkF m 25 #[.val (.int p1), .val (.int p2), .val (.int s2), .val (.ref b47), .unset, .unset] [.null, .null, .null, (.int p1), (.ref b49), (.ref b49)])) (fun _ k => XS.aconstNull X49.here hx rfl (hb hby at_24) k) ?_
  refine Rch.go (U' := T49.setTop (mkF m 26 #[.val (.int p1), .val (.int p2), .val (.int s2), .val (.ref b47), .unset, .unset] [(.ref b47), .null, .null, .null, (.int p1), (.ref b49), (.ref b49)])) (fun _ k => XS.aloadN X49.here hx rfl (hb hby at_25) rfl rfl k) ?_
  obtain ⟨_, _, ⟨T53, L53, k53, n53⟩, -, X53, ⟨Lc53, hQ53, l53, y53, z53⟩, st53⟩ := X49.specialBack hx (y := (⟨"com/example/linkstride/linkstride/lookup/HttpRequests$Response", "<init>", "(ILjava/lang/String;Ljava/lang/String;Ljava/lang/String;[B)V"⟩ : MethodName)) rfl hown (mvT hZ (wi hw 5 rfl)) (mvT hZ (wi hw 6 rfl)) (mvT hZ (wi hw 7 rfl)) (by decide) (backOf (W := 1) (rmNew l Z a0 hw [] b49 p1 b47 (0 : Int32) h49 n0 z52 A49 F49_status F49_contentType F49_location F49_link F49_body n0b49) hZ (wi hw 7 rfl) (wi hw 4 rfl) (by decide) (by decide)) (g := (mkF m 26 #[.val (.int p1), .val (.int p2), .val (.int s2), .val (.ref b47), .unset, .unset] [(.ref b47), .null, .null, .null, (.int p1), (.ref b49), (.ref b49)])) rfl (by rw [hml]; rfl) (Steps.refl _) (a := b49) (argsL := [(.int p1), .null, .null, .null, (.ref b47)]) (rest := [(.ref b49)]) (lenOf pd_5 rfl) rfl (by show 2 * 0 + _ ≤ _; exact Nat.le_of_eq rfl) (hb hby at_26) (fun _ _ => ⟨rfl, e49, (by decide : 2 + 0 ≤ _), (by decide : 5 + 0 ≤ _)⟩)
  dsimp only [Pt.U, Pt.locs, Pt.cells, Pt.slots] at X53 l53 y53 z53 st53 hQ53
  subst l53 y53 z53
  obtain ⟨rfl, N53q, K53q, F53_status, F53_contentType, F53_location, F53_link, F53_body⟩ := hQ53
  have N53 := Fr.app N0 N53q
  have z54 := Nat.le_trans z52 K53q.1
  have f55 := f51.keep K53q (ninS ne50 nin0)
  have f56 := A49.keep K53q
  refine Rch.to (U' := T53.setTop (mkF m 29 #[.val (.int p1), .val (.int p2), .val (.int s2), .val (.ref b47), .unset, .unset] [(.ref b49)])) st53 ?_
  refine Rch.go (U' := T53.setTop (mkF m 31 #[.val (.int p1), .val (.int p2), .val (.int s2), .val (.ref b47), .val (.ref b49), .unset] [])) (fun _ k => XS.astore X53.here hx rfl (hb hby at_29) rfl rfl (l' := #[.val (.int p1), .val (.int p2), .val (.int s2), .val (.ref b47), .val (.ref b49), .unset]) rfl k) ?_
  obtain ⟨T57, h57, X57, e57, E57, A57, D57, -, st57⟩ := newO X53 hx hZ hown (wi hw 2 rfl) (wi hw 3 rfl) (wi hw 4 rfl) rfl (g := (mkF m 31 #[.val (.int p1), .val (.int p2), .val (.int s2), .val (.ref b47), .val (.ref b49), .unset] [])) rfl (hb hby at_31) (by decide) (by decide)
  obtain ⟨b57, g57⟩ : ∃ z, z = T53.heap.size := ⟨_, rfl⟩
  rw [← g57] at A57 D57 st57
  have ne58 : b47 ≠ b57 := Nat.ne_of_lt (Nat.lt_of_lt_of_le f55.lt (Nat.le_of_eq g57.symm))
  have ne59 : b49 ≠ b57 := Nat.ne_of_lt (Nat.lt_of_lt_of_le f56.lt (Nat.le_of_eq g57.symm))
  have n0b57 : n0 ≤ b57 := Nat.le_trans z54 (Nat.le_of_eq g57.symm)
  have f60 := f55.ext E57
  have f61 := f56.ext E57
  have f62 := F53_status.ext E57
  have f63 := F53_contentType.ext E57
  have f64 := F53_location.ext E57
  have f65 := F53_link.ext E57
  have f66 := F53_body.ext E57
  have z67 := Nat.le_trans z54 E57.1
  have F57_status : Fld Z h57 b57 "com/example/linkstride/linkstride/lookup/HttpRequests$Response" "status" "I" (.int (0 : Int32)) := D57 (Or.inr (wi hw 17 rfl)) (ty := .int) (by decide)
  have F57_contentType : Fld Z h57 b57 "com/example/linkstride/linkstride/lookup/HttpRequests$Response" "contentType" "Ljava/lang/String;" .null := D57 (Or.inr (wi hw 19 rfl)) (ty := (.object "java/lang/String")) (by decide)
  have F57_location : Fld Z h57 b57 "com/example/linkstride/linkstride/lookup/HttpRequests$Response" "location" "Ljava/lang/String;" .null := D57 (Or.inr (wi hw 21 rfl)) (ty := (.object "java/lang/String")) (by decide)
  have F57_link : Fld Z h57 b57 "com/example/linkstride/linkstride/lookup/HttpRequests$Response" "link" "Ljava/lang/String;" .null := D57 (Or.inr (wi hw 23 rfl)) (ty := (.object "java/lang/String")) (by decide)
  have F57_body : Fld Z h57 b57 "com/example/linkstride/linkstride/lookup/HttpRequests$Response" "body" "[B" .null := D57 (Or.inr (wi hw 25 rfl)) (ty := (.array .byte)) (by decide)
  refine Rch.go (U' := T57.setTop (mkF m 34 #[.val (.int p1), .val (.int p2), .val (.int s2), .val (.ref b47), .val (.ref b49), .unset] [(.ref b57)])) st57 ?_
  refine Rch.go (U' := T57.setTop (mkF m 35 #[.val (.int p1), .val (.int p2), .val (.int s2), .val (.ref b47), .val (.ref b49), .unset] [(.ref b57), (.ref b57)])) (fun _ k => XS.dup X57.here hx rfl (hb hby at_34) rfl rfl k) ?_
  refine Rch.go (U' := T57.setTop (mkF m 36 #[.val (.int p1), .val (.int p2), .val (.int s2), .val (.ref b47), .val (.ref b49), .unset] [(.int s2), (.ref b57), (.ref b57)])) (fun _ k => XS.iloadN X57.here hx rfl (hb hby at_35) rfl  k) ?_
  refine Rch.go (U' := T57.setTop (mkF m 37 #[.val (.int p1), .val (.int p2), .val (.int s2), .val (.ref b47), .val (.ref b49), .unset] [.null, (.int s2), (.ref b57), (.ref b57)])) (fun _ k => XS.aconstNull X57.here hx rfl (hb hby at_36) k) ?_
  refine Rch.go (U' := T57.setTop (mkF m 38 #[.val (.int p1), .val (.int p2), .val (.int s2), .val (.ref b47), .val (.ref b49), .unset] [.null, .null, (.int s2), (.ref b57), (.ref b57)])) (fun _ k => XS.aconstNull X57.here hx rfl (hb hby at_37) k) ?_
  refine Rch.go (U' := T57.setTop (mkF m 39 #[.val (.int p1), .val (.int p2), .val (.int s2), .val (.ref b47), .val (.ref b49), .unset] [.null, .null, .null, (.int s2), (.ref b57), (.ref b57)])) (fun _ k => XS.aconstNull X57.here hx rfl (hb hby at_38) k) ?_
  refine Rch.go (U' := T57.setTop (mkF m 40 #[.val (.int p1), .val (.int p2), .val (.int s2), .val (.ref b47), .val (.ref b49), .unset] [(.ref b47), .null, .null, .null, (.int s2), (.ref b57), (.ref b57)])) (fun _ k => XS.aloadN X57.here hx rfl (hb hby at_39) rfl rfl k) ?_
  obtain ⟨_, _, ⟨T68, L68, k68, n68⟩, -, X68, ⟨Lc68, hQ68, l68, y68, z68⟩, st68⟩ := X57.specialBack hx (y := (⟨"com/example/linkstride/linkstride/lookup/HttpRequests$Response", "<init>", "(ILjava/lang/String;Ljava/lang/String;Ljava/lang/String;[B)V"⟩ : MethodName)) rfl hown (mvT hZ (wi hw 5 rfl)) (mvT hZ (wi hw 6 rfl)) (mvT hZ (wi hw 7 rfl)) (by decide) (backOf (W := 1) (rmNew l Z a0 hw [] b57 s2 b47 (0 : Int32) h57 n0 z67 A57 F57_status F57_contentType F57_location F57_link F57_body n0b57) hZ (wi hw 7 rfl) (wi hw 4 rfl) (by decide) (by decide)) (g := (mkF m 40 #[.val (.int p1), .val (.int p2), .val (.int s2), .val (.ref b47), .val (.ref b49), .unset] [(.ref b47), .null, .null, .null, (.int s2), (.ref b57), (.ref b57)])) rfl (by rw [hml]; rfl) (Steps.refl _) (a := b57) (argsL := [(.int s2), .null, .null, .null, (.ref b47)]) (rest := [(.ref b57)]) (lenOf pd_5 rfl) rfl (by show 2 * 0 + _ ≤ _; exact Nat.le_of_eq rfl) (hb hby at_40) (fun _ _ => ⟨rfl, e57, (by decide : 3 + 0 ≤ _), (by decide : 10 + 0 ≤ _)⟩)
  dsimp only [Pt.U, Pt.locs, Pt.cells, Pt.slots] at X68 l68 y68 z68 st68 hQ68
  subst l68 y68 z68
  obtain ⟨rfl, N68q, K68q, F68_status, F68_contentType, F68_location, F68_link, F68_body⟩ := hQ68
  have N68 := Fr.app N53 N68q
  have z69 := Nat.le_trans z67 K68q.1
  have f70 := f60.keep K68q (ninS ne58 nin0)
  have f71 := f61.keep K68q
  have f72 := f62.keep K68q (ninS ne59 nin0)
  have f73 := f63.keep K68q (ninS ne59 nin0)
  have f74 := f64.keep K68q (ninS ne59 nin0)
  have f75 := f65.keep K68q (ninS ne59 nin0)
  have f76 := f66.keep K68q (ninS ne59 nin0)
  have f77 := A57.keep K68q
  refine Rch.to (U' := T68.setTop (mkF m 43 #[.val (.int p1), .val (.int p2), .val (.int s2), .val (.ref b47), .val (.ref b49), .unset] [(.ref b57)])) st68 ?_
  refine Rch.go (U' := T68.setTop (mkF m 45 #[.val (.int p1), .val (.int p2), .val (.int s2), .val (.ref b47), .val (.ref b49), .val (.ref b57)] [])) (fun _ k => XS.astore X68.here hx rfl (hb hby at_43) rfl rfl (l' := #[.val (.int p1), .val (.int p2), .val (.int s2), .val (.ref b47), .val (.ref b49), .val (.ref b57)]) rfl k) ?_
  refine Rch.go (U' := T68.setTop (mkF m 47 #[.val (.int p1), .val (.int p2), .val (.int s2), .val (.ref b47), .val (.ref b49), .val (.ref b57)] [(.ref b49)])) (fun _ k => XS.aload X68.here hx rfl (hb hby at_45) rfl rfl k) ?_
  obtain ⟨cq78, kq78, q78a, q78b, q78c⟩ := isOf hZ rfl f71
  obtain ⟨_, _, ⟨T78, L78, k78, n78⟩, -, X78, ⟨Lc78, hQ78, l78, y78, z78⟩, st78⟩ := X68.virtualBack hx (y := (⟨"com/example/linkstride/linkstride/lookup/HttpRequests$Response", "isSuccess", "()Z"⟩ : MethodName)) (z := (⟨"com/example/linkstride/linkstride/lookup/HttpRequests$Response", "isSuccess", "()Z"⟩ : MethodName)) hown (mvT hZ (wi hw 26 rfl)) (mvT hZ (wi hw 27 rfl)) (notFace_of_selects (args := #[]) (mvT hZ (wi hw 29 rfl))) (mvT hZ (wi hw 29 rfl)) (mvT hZ (wi hw 28 rfl)) (by decide) (backOf (W := 0) (rmIs l Z a0 hw [] b49 p1 b47 T68.heap n0 z69 f71 f72 f73 f74 f75 f76) hZ (wi hw 30 rfl) (wi hw 4 rfl) (by decide) (by decide)) q78a q78c (g := (mkF m 47 #[.val (.int p1), .val (.int p2), .val (.int s2), .val (.ref b47), .val (.ref b49), .val (.ref b57)] [(.ref b49)])) rfl (by rw [hml]; rfl) (Steps.refl _) (argsL := []) (rest := []) (lenOf pd_6 rfl) rfl (by show 2 * 0 + _ ≤ _; exact Nat.le_of_eq rfl) (hb hby at_47) (fun _ _ => ⟨rfl, rfl, (by decide : 3 + 0 ≤ _), (by decide : 10 + 0 ≤ _)⟩)
  dsimp only [Pt.U, Pt.locs, Pt.cells, Pt.slots] at X78 l78 y78 z78 st78 hQ78
  subst l78 y78 z78
  obtain ⟨rfl, N78q, e78⟩ := hQ78
  have N78 := Fr.app N68 N78q
  refine Rch.to (U' := T78.setTop (mkF m 50 #[.val (.int p1), .val (.int p2), .val (.int s2), .val (.ref b47), .val (.ref b49), .val (.ref b57)] [(.int (own_succ p1))])) st78 ?_
  refine Rch.go (U' := T78.setTop (mkF m 51 #[.val (.int p1), .val (.int p2), .val (.int s2), .val (.ref b47), .val (.ref b49), .val (.ref b57)] [(.int p1), (.int (own_succ p1))])) (fun _ k => XS.iloadN X78.here hx rfl (hb hby at_50) rfl  k) ?_
  obtain ⟨_, _, ⟨T79, L79, k79, n79⟩, -, X79, ⟨Lc79, hQ79, l79, y79, z79⟩, st79⟩ := Jvm.LawKit.callS X78 hx (y := (⟨"com/example/linkstride/linkstride/lookup/ResponseIsSuccessPinLaw", "expected", "(I)Z"⟩ : MethodName)) hown (mvT hZ (wi hw 31 rfl)) (mvT hZ (wi hw 32 rfl)) (mvT hZ (wi hw 33 rfl)) (mvT hZ (wi hw 34 rfl)) (by decide) (backOf (W := 1) (rmE l Z a0 hw [] p1 T68.heap n0 z69 ) hZ (wi hw 34 rfl) (wi hw 33 rfl) (by decide) (by decide)) (g := (mkF m 51 #[.val (.int p1), .val (.int p2), .val (.int s2), .val (.ref b47), .val (.ref b49), .val (.ref b57)] [(.int p1), (.int (own_succ p1))])) rfl (by rw [hml]; rfl) (argsL := [(.int p1)]) (rest := [(.int (own_succ p1))]) (lenOf pd_7 rfl) rfl (by show 2 * 0 + _ ≤ _; exact Nat.le_of_eq rfl) (hb hby at_51) (fun _ _ => ⟨rfl, e78, (by decide : 3 + 0 ≤ _), (by decide : 10 + 0 ≤ _)⟩)
  dsimp only [Pt.U, Pt.locs, Pt.cells, Pt.slots] at X79 l79 y79 z79 st79 hQ79
  subst l79 y79 z79
  obtain ⟨rfl, N79q, e79⟩ := hQ79
  have N79 := Fr.app N78 N79q
  refine Rch.go (U' := T79.setTop (mkF m 54 #[.val (.int p1), .val (.int p2), .val (.int s2), .val (.ref b47), .val (.ref b49), .val (.ref b57)] [(.int (own_exp p1)), (.int (own_succ p1))])) st79 ?_
  have br80 : (own_succ p1) = (own_exp p1) := own_law _
  refine Rch.go (U' := T79.setTop (mkF m 57 #[.val (.int p1), .val (.int p2), .val (.int s2), .val (.ref b47), .val (.ref b49), .val (.ref b57)] [])) (fun _ k => XS.icmpNo X79.here hx rfl (hb hby at_54) rfl (XT.ii_ne_f br80) k) ?_
  refine Rch.go (U' := T79.setTop (mkF m 59 #[.val (.int p1), .val (.int p2), .val (.int s2), .val (.ref b47), .val (.ref b49), .val (.ref b57)] [(.ref b57)])) (fun _ k => XS.aload X79.here hx rfl (hb hby at_57) rfl rfl k) ?_
  obtain ⟨cq81, kq81, q81a, q81b, q81c⟩ := isOf hZ e79 f77
  obtain ⟨_, _, ⟨T81, L81, k81, n81⟩, -, X81, ⟨Lc81, hQ81, l81, y81, z81⟩, st81⟩ := X79.virtualBack hx (y := (⟨"com/example/linkstride/linkstride/lookup/HttpRequests$Response", "isSuccess", "()Z"⟩ : MethodName)) (z := (⟨"com/example/linkstride/linkstride/lookup/HttpRequests$Response", "isSuccess", "()Z"⟩ : MethodName)) hown (mvT hZ (wi hw 26 rfl)) (mvT hZ (wi hw 27 rfl)) (notFace_of_selects (args := #[]) (mvT hZ (wi hw 29 rfl))) (mvT hZ (wi hw 29 rfl)) (mvT hZ (wi hw 28 rfl)) (by decide) (backOf (W := 0) (rmIs l Z a0 hw [] b57 s2 b47 T68.heap n0 z69 f77 F68_status F68_contentType F68_location F68_link F68_body) hZ (wi hw 30 rfl) (wi hw 4 rfl) (by decide) (by decide)) q81a q81c (g := (mkF m 59 #[.val (.int p1), .val (.int p2), .val (.int s2), .val (.ref b47), .val (.ref b49), .val (.ref b57)] [(.ref b57)])) rfl (by rw [hml]; rfl) (Steps.refl _) (argsL := []) (rest := []) (lenOf pd_6 rfl) rfl (by show 2 * 0 + _ ≤ _; exact Nat.le_of_eq rfl) (hb hby at_59) (fun _ _ => ⟨rfl, e79, (by decide : 3 + 0 ≤ _), (by decide : 10 + 0 ≤ _)⟩)
  dsimp only [Pt.U, Pt.locs, Pt.cells, Pt.slots] at X81 l81 y81 z81 st81 hQ81
  subst l81 y81 z81
  obtain ⟨rfl, N81q, e81⟩ := hQ81
  have N81 := Fr.app N79 N81q
  refine Rch.to (U' := T81.setTop (mkF m 62 #[.val (.int p1), .val (.int p2), .val (.int s2), .val (.ref b47), .val (.ref b49), .val (.ref b57)] [(.int (own_succ s2))])) st81 ?_
  refine Rch.go (U' := T81.setTop (mkF m 63 #[.val (.int p1), .val (.int p2), .val (.int s2), .val (.ref b47), .val (.ref b49), .val (.ref b57)] [(.int s2), (.int (own_succ s2))])) (fun _ k => XS.iloadN X81.here hx rfl (hb hby at_62) rfl  k) ?_
  obtain ⟨_, _, ⟨T82, L82, k82, n82⟩, -, X82, ⟨Lc82, hQ82, l82, y82, z82⟩, st82⟩ := Jvm.LawKit.callS X81 hx (y := (⟨"com/example/linkstride/linkstride/lookup/ResponseIsSuccessPinLaw", "expected", "(I)Z"⟩ : MethodName)) hown (mvT hZ (wi hw 31 rfl)) (mvT hZ (wi hw 32 rfl)) (mvT hZ (wi hw 33 rfl)) (mvT hZ (wi hw 34 rfl)) (by decide) (backOf (W := 1) (rmE l Z a0 hw [] s2 T68.heap n0 z69 ) hZ (wi hw 34 rfl) (wi hw 33 rfl) (by decide) (by decide)) (g := (mkF m 63 #[.val (.int p1), .val (.int p2), .val (.int s2), .val (.ref b47), .val (.ref b49), .val (.ref b57)] [(.int s2), (.int (own_succ s2))])) rfl (by rw [hml]; rfl) (argsL := [(.int s2)]) (rest := [(.int (own_succ s2))]) (lenOf pd_7 rfl) rfl (by show 2 * 0 + _ ≤ _; exact Nat.le_of_eq rfl) (hb hby at_63) (fun _ _ => ⟨rfl, e81, (by decide : 3 + 0 ≤ _), (by decide : 10 + 0 ≤ _)⟩)
  dsimp only [Pt.U, Pt.locs, Pt.cells, Pt.slots] at X82 l82 y82 z82 st82 hQ82
  subst l82 y82 z82
  obtain ⟨rfl, N82q, e82⟩ := hQ82
  have N82 := Fr.app N81 N82q
  refine Rch.go (U' := T82.setTop (mkF m 66 #[.val (.int p1), .val (.int p2), .val (.int s2), .val (.ref b47), .val (.ref b49), .val (.ref b57)] [(.int (own_exp s2)), (.int (own_succ s2))])) st82 ?_
  have br83 : (own_succ s2) = (own_exp s2) := own_law _
  refine Rch.go (U' := T82.setTop (mkF m 69 #[.val (.int p1), .val (.int p2), .val (.int s2), .val (.ref b47), .val (.ref b49), .val (.ref b57)] [])) (fun _ k => XS.icmpNo X82.here hx rfl (hb hby at_66) rfl (XT.ii_ne_f br83) k) ?_
  refine Rch.go (U' := T82.setTop (mkF m 70 #[.val (.int p1), .val (.int p2), .val (.int s2), .val (.ref b47), .val (.ref b49), .val (.ref b57)] [(.int (1 : Int32))])) (fun _ k => XS.iconst X82.here hx rfl (hb hby at_69) k) ?_
  refine Rch.go (U' := T82.setTop (mkF m 74 #[.val (.int p1), .val (.int p2), .val (.int s2), .val (.ref b47), .val (.ref b49), .val (.ref b57)] [(.int (1 : Int32))])) (fun _ k => XS.goto X82.here hx rfl (pc0 := 70) (pc' := 74) rfl (hb hby at_70) (by decide) (by decide) k) ?_
  refine Rch.fin X82 hlk (v := some (.int (nar .boolean (1 : Int32)))) (fun h => by rw [hret] at h; cases h) e82 (by decide) (by decide) (fun fs hr => retN X82 hx (t := .boolean) hret (by simp) (hb hby at_74) hr) ?_
  exact ⟨rfl, N82⟩
set_option maxRecDepth 65536 in
set_option maxHeartbeats 40000000 in
theorem comes_1 {Post : Tables → Env → Array Value → State → Outcome → State → Prop} (hpost : ∀ tb e args s v u, (limb_1_1.after args s (.returned v) u = true ∧ limb_1_2.after args s (.returned v) u = true ∧ True) → FrameEnd s (.returned v) u (Jvm.fieldLocs frame_1_writes args s ++ Jvm.arrayLocs frame_1_arrays args s ++ Jvm.staticLocs frame_1_statics s) 16 128 → Post tb e args s (.returned v) u) :
    ArmFor flags0 classFile x code maxLocals ret World_1 tables_1 room_1 Calls_1 rest_1 Pre_1 Post := by
  intro l hfl _ _ p e ha hc hk s m args below hf hA hF happ hP
  obtain ⟨hcalls, hrest, hpre⟩ := hP
  obtain ⟨-, -, -, hnamed, -, -, -, hat⟩ := (Spec.applies_iff hf).mp happ
  obtain ⟨hg, hn⟩ := and_e (Cond.before_iff.mp (show (Jvm.Cond.and given_1 narrow_1).before args s = true from hpre))
  obtain ⟨hcount, hg0⟩ := and_e hg
  obtain ⟨ga0, hg1⟩ := and_e hg0
  obtain ⟨w0, w1, rfl⟩ : ∃ w0 w1 : Value, args = #[w0, w1] := by
    have hs : args.size = 2 := by simpa [Cond.value, given_1] using hcount
    obtain ⟨L⟩ := args
    match L, hs with
    | [w0, w1], _ => exact ⟨w0, w1, rfl⟩
  have hw := fun d (hd : d ∈ tables_1) => atoms_spec (ws := Jvm.Cond.code x code maxLocals ret :: tables_1) hat d (List.mem_cons_of_mem _ hd)
  obtain ⟨i0, ei0⟩ := is_v ga0
  obtain rfl : w0 = (.int i0) := Option.some.inj ei0
  obtain ⟨i1, ei1⟩ := is_v hg1
  obtain rfl : w1 = (.int i1) := Option.some.inj ei1
  obtain ⟨n, o, h1, h2, h3, _, L, rfl, ⟨rfl, N⟩, hq⟩ := rm0 l s _ hw tables_1 i0 i1 s.heap s.heap.size (Nat.le_refl _)  p e ha hc hk s m _ below hf ((Spec.applies_iff_loose hf).mp happ).1 ⟨rfl, State.Warmed39.refl s, rfl⟩ trivial
  refine ⟨n, _, h1, h2, h3, hpost _ _ _ _ _ _ ⟨Cond.after_iff.mpr rfl, Cond.after_iff.mpr (eq_i res_at (Term.int_eval (1)) rfl), trivial⟩ ⟨hq.1, hq.2.1, (hq.2.2.sift fun y hy => Or.inr (N y hy)).mono (by decide) (by decide)⟩⟩
theorem main_1_1 : Claimed_1_1 := comes_1 fun _ _ _ _ _ _ h hF => ⟨h.1, hF⟩
theorem main_1_2 : Claimed_1_2 := comes_1 fun _ _ _ _ _ _ h hF => ⟨h.2.1, hF⟩
end Jvm.Pilot.@@N@@
namespace Jvm.Pilot.@@N@@
open Jvm Jvm.ClassFile Sem Op Lib Jvm.Free Jvm.Stand Jvm.Pilot.@@N@@.Jvm.D
/-! MADE BY PROGRAM (witnessworld.py) out of the Statement's table words and the real class files: 8 classes; the members and pool entries that the words name. The judged class is class 1, her method 1. -/
namespace start1
open Jvm.ClassFile
def u (s : String) : CpInfo := .utf8 (stringToUtf16 s)
/-- a pool by its gaps: so many unusable entries, then the entry; so many at the end -/
def gap : Nat → List CpInfo → List CpInfo
  | 0, r => r
  | n + 1, r => .unusable :: gap n r
def poolList (es : List (Nat × CpInfo)) (last : Nat) : List CpInfo := es.foldr (fun e r => gap e.1 (e.2 :: r)) (gap last [])
def pool (es : List (Nat × CpInfo)) (last : Nat) : Array CpInfo := ⟨poolList es last⟩
def fileOf (pool : Array CpInfo) (this : Nat) (attrs : Array Attribute := #[]) (ms : Array MethodInfo := #[]) (fl : Nat := 33) (sup : Nat := 0) (ifs : Array Nat := #[]) (fds : Array FieldInfo := #[]) : ClassFile where
  minorVersion := 0
  majorVersion := 65
  constantPool := pool
  accessFlags := fl
  thisClass := this
  superClass := sup
  interfaces := ifs
  fields := fds
  methods := ms
  attributes := attrs
def plain (name : String) (sup : Option ClassId) : Class where
  name := name
  kind := .ordinary
  loader := none
  accessFlags := 33
  super := sup
  interfaces := #[]
  cf := none
  fields := #[]
  methods := #[]
  instanceTypes := #[]
  staticTypes := #[]
  resolved := #[]
  callSites := []
  init := .initialized
  statics := none
  mirror := none

def pool0 : Array CpInfo := pool [(5, u "<init>"), (0, u "()V"), (1, .class_ 10), (1, u "java/lang/Object")] 113

def k0c0 : Code := { maxStack := 0, maxLocals := 1, code := object_method_1_code, exceptionTable := #[], attributes := #[] }
def k0m0 : Method := { name := "<init>", desc := "()V", sig := { parameters := [], returnType := none }, accessFlags := 1, code := some k0c0 }
/-- java/lang/Object -/
def k0 : Class := { plain "java/lang/Object" none with
  accessFlags := 33
  interfaces := #[]
  cf := some (fileOf pool0 8 #[] #[{ accessFlags := 1, nameIndex := 5, descriptorIndex := 6, attributes := #[] }] 33 0 #[] #[])
  fields := #[]
  methods := #[k0m0]
  instanceTypes := #[]
  staticTypes := #[]
  resolved := Array.replicate 124 none
  statics := none }

def pool1 : Array CpInfo := pool [(2, .class_ 4), (1, u "java/lang/Object"), (0, u "<init>"), (0, u "()V"), (0, .integer 2147483647), (0, .class_ 9), (0, u "com/example/linkstride/linkstride/lookup/HttpRequests$Response"), (0, .methodref 8 11), (0, .nameAndType 5 12), (0, u "(ILjava/lang/String;Ljava/lang/String;Ljava/lang/String;[B)V"), (0, .methodref 8 14), (0, .nameAndType 15 16), (0, u "isSuccess"), (0, u "()Z"), (0, .methodref 18 19), (0, .class_ 20), (0, .nameAndType 21 22), (0, u "com/example/linkstride/linkstride/lookup/ResponseIsSuccessPinLaw"), (0, u "expected"), (0, u "(I)Z"), (2, u "law"), (0, u "(II)Z")] 9

def k1m0 : Method := { name := "<init>", desc := "()V", sig := { parameters := [], returnType := none }, accessFlags := 2, code := none }
def k1c1 : Code := { maxStack := 7, maxLocals := 6, code := code, exceptionTable := #[], attributes := #[] }
def k1m1 : Method := { name := "law", desc := "(II)Z", sig := { parameters := [.int, .int], returnType := some .boolean }, accessFlags := 9, code := some k1c1 }
def k1c2 : Code := { maxStack := 2, maxLocals := 1, code := method_3_code, exceptionTable := #[], attributes := #[] }
def k1m2 : Method := { name := "expected", desc := "(I)Z", sig := { parameters := [.int], returnType := some .boolean }, accessFlags := 10, code := some k1c2 }
/-- com/example/linkstride/linkstride/lookup/ResponseIsSuccessPinLaw -/
def k1 : Class := { plain "com/example/linkstride/linkstride/lookup/ResponseIsSuccessPinLaw" (some 0) with
  accessFlags := 49
  interfaces := #[]
  cf := some (fileOf pool1 18 #[] #[{ accessFlags := 2, nameIndex := 5, descriptorIndex := 6, attributes := #[] }, { accessFlags := 9, nameIndex := 25, descriptorIndex := 26, attributes := #[] }, { accessFlags := 10, nameIndex := 21, descriptorIndex := 22, attributes := #[] }] 49 2 #[] #[])
  fields := #[]
  methods := #[k1m0, k1m1, k1m2]
  instanceTypes := #[]
  staticTypes := #[]
  resolved := Array.replicate 36 none
  statics := none }

def pool2 : Array CpInfo := pool [(1, .methodref 2 3), (0, .class_ 4), (0, .nameAndType 5 6), (0, u "java/lang/Object"), (0, u "<init>"), (0, u "()V"), (0, .class_ 8), (0, u "java/lang/Record")] 13

def k2c0 : Code := { maxStack := 1, maxLocals := 1, code := jdk_30_method_1_code, exceptionTable := #[], attributes := #[] }
def k2m0 : Method := { name := "<init>", desc := "()V", sig := { parameters := [], returnType := none }, accessFlags := 4, code := some k2c0 }
/-- java/lang/Record -/
def k2 : Class := { plain "java/lang/Record" (some 0) with
  accessFlags := 1057
  interfaces := #[]
  cf := some (fileOf pool2 7 #[] #[{ accessFlags := 4, nameIndex := 5, descriptorIndex := 6, attributes := #[] }] 1057 2 #[] #[])
  fields := #[]
  methods := #[k2m0]
  instanceTypes := #[]
  staticTypes := #[]
  resolved := Array.replicate 22 none
  statics := none }

def pool3 : Array CpInfo := pool [(1, .methodref 2 3), (0, .class_ 4), (0, .nameAndType 5 6), (0, u "java/lang/Record"), (0, u "<init>"), (0, u "()V"), (0, .fieldref 8 9), (0, .class_ 10), (0, .nameAndType 11 12), (0, u "com/example/linkstride/linkstride/lookup/HttpRequests$Response"), (0, u "status"), (0, u "I"), (0, .fieldref 8 14), (0, .nameAndType 15 16), (0, u "contentType"), (0, u "Ljava/lang/String;"), (0, .fieldref 8 18), (0, .nameAndType 19 16), (0, u "location"), (0, .fieldref 8 21), (0, .nameAndType 22 16), (0, u "link"), (0, .fieldref 8 24), (0, .nameAndType 25 26), (0, u "body"), (0, u "[B"), (38, u "SUCCESS_CLASS"), (2, u "(ILjava/lang/String;Ljava/lang/String;Ljava/lang/String;[B)V"), (3, u "isSuccess"), (0, u "()Z"), (13, .class_ 88), (0, u "com/example/linkstride/linkstride/lookup/HttpRequests")] 36

def k3c0 : Code := { maxStack := 2, maxLocals := 6, code := prog_13_method_1_code, exceptionTable := #[], attributes := #[] }
def k3m0 : Method := { name := "<init>", desc := "(ILjava/lang/String;Ljava/lang/String;Ljava/lang/String;[B)V", sig := { parameters := [.int, (.object "java/lang/String"), (.object "java/lang/String"), (.object "java/lang/String"), (.array .byte)], returnType := none }, accessFlags := 0, code := some k3c0 }
def k3c1 : Code := { maxStack := 2, maxLocals := 1, code := prog_13_method_2_code, exceptionTable := #[], attributes := #[] }
def k3m1 : Method := { name := "isSuccess", desc := "()Z", sig := { parameters := [], returnType := some .boolean }, accessFlags := 0, code := some k3c1 }
/-- com/example/linkstride/linkstride/lookup/HttpRequests$Response -/
def k3 : Class := { plain "com/example/linkstride/linkstride/lookup/HttpRequests$Response" (some 2) with
  accessFlags := 48
  interfaces := #[]
  cf := some (fileOf pool3 8 #[.nestHost 87] #[{ accessFlags := 0, nameIndex := 5, descriptorIndex := 68, attributes := #[] }, { accessFlags := 0, nameIndex := 72, descriptorIndex := 73, attributes := #[] }] 48 2 #[] #[{ accessFlags := 18, nameIndex := 11, descriptorIndex := 12, attributes := #[] }, { accessFlags := 18, nameIndex := 15, descriptorIndex := 16, attributes := #[] }, { accessFlags := 18, nameIndex := 19, descriptorIndex := 16, attributes := #[] }, { accessFlags := 18, nameIndex := 22, descriptorIndex := 16, attributes := #[] }, { accessFlags := 18, nameIndex := 25, descriptorIndex := 26, attributes := #[] }, { accessFlags := 26, nameIndex := 65, descriptorIndex := 12, attributes := #[] }])
  fields := #[{ name := "status", type := .int, accessFlags := 18, slot := 0, constantValue := 0 }, { name := "contentType", type := (.object "java/lang/String"), accessFlags := 18, slot := 1, constantValue := 0 }, { name := "location", type := (.object "java/lang/String"), accessFlags := 18, slot := 2, constantValue := 0 }, { name := "link", type := (.object "java/lang/String"), accessFlags := 18, slot := 3, constantValue := 0 }, { name := "body", type := (.array .byte), accessFlags := 18, slot := 4, constantValue := 0 }, { name := "SUCCESS_CLASS", type := .int, accessFlags := 26, slot := 0, constantValue := 0 }]
  methods := #[k3m0, k3m1]
  instanceTypes := #[.int, (.object "java/lang/String"), (.object "java/lang/String"), (.object "java/lang/String"), (.array .byte)]
  staticTypes := #[.int]
  resolved := Array.replicate 125 none
  statics := none }

def pool4 : Array CpInfo := pool [(1, u "java/lang/Cloneable"), (0, .class_ 1), (0, u "java/lang/Object"), (0, .class_ 3)] 3

/-- java/lang/Cloneable -/
def k4 : Class := { plain "java/lang/Cloneable" (some 0) with
  accessFlags := 1537
  interfaces := #[]
  cf := some (fileOf pool4 2 #[] #[] 1537 4 #[] #[])
  fields := #[]
  methods := #[]
  instanceTypes := #[]
  staticTypes := #[]
  resolved := Array.replicate 8 none
  statics := none }

def pool5 : Array CpInfo := pool [(1, u "java/io/Serializable"), (0, .class_ 1), (0, u "java/lang/Object"), (0, .class_ 3)] 3

/-- java/io/Serializable -/
def k5 : Class := { plain "java/io/Serializable" (some 0) with
  accessFlags := 1537
  interfaces := #[]
  cf := some (fileOf pool5 2 #[] #[] 1537 4 #[] #[])
  fields := #[]
  methods := #[]
  instanceTypes := #[]
  staticTypes := #[]
  resolved := Array.replicate 8 none
  statics := none }

/-- the primitive byte -/
def k6 : Class := { plain "byte" none with kind := .primitive 'B', accessFlags := 0x411 }
/-- [B -/
def k7 : Class := { plain "[B" (some 0) with kind := .array 6 .byte, interfaces := #[4, 5], accessFlags := 1041 }

def heap : Heap := #[]
def classes : Array Class := #[k0, k1, k2, k3, k4, k5, k6, k7]
def interned : List (Array UInt16 × Addr) := []
def slotsUsed : Nat := 0
def theMethod : MethodId := ⟨1, 1⟩
def args0 : Array Value := #[.int 5, .int 1]
def aboutOver (below : List Frame) : State where
  vm := { classes := classes, interned := interned.toArray }
  heap := heap
  slotsUsed := slotsUsed
  threads := #[{ frames := .invoking theMethod args0 :: below }]
def below0 : List Frame := [.native { method := ⟨0, 0⟩, args := #[] }]
def about1 : State := aboutOver below0
def p0 : Program := .bare "" "" ""
def e0 : Env := launch0.env 0 0 0
theorem w_frames : about1.frames = Frame.invoking theMethod args0 :: below0 := rfl
set_option maxRecDepth 65536 in
theorem w_args : argsFit about1.vm theMethod args0 = true := by decide +kernel
set_option maxRecDepth 65536 in
theorem w_heap : heapFits about1 = true := by decide +kernel
set_option maxRecDepth 65536 in
theorem w_runnable : about1.curStatus? = some .runnable := by decide +kernel
set_option maxRecDepth 65536 in
theorem w_alone : about1.alone = true := by decide +kernel
set_option maxRecDepth 65536 in
theorem w_named : about1.methodNamed? x = some theMethod := by decide +kernel
set_option maxRecDepth 65536 in
theorem w_hears : about1.hears theMethod below0 = true := by decide +kernel
set_option maxRecDepth 65536 in
theorem w_ripe : about1.ripe theMethod args0 below0 = true := by decide +kernel
theorem w_running : about1.status = .running := rfl
set_option maxRecDepth 65536 in
theorem w_room : about1.hasRoom e0.platform room_1 = true :=
  launch0.hasRoom_least _ room_1 (by decide +kernel) (by decide +kernel) (by decide +kernel) (by decide +kernel) (by decide +kernel) (by decide +kernel)
theorem allAtoms_all (ts : List Jvm.Cond) (a : Array Jvm.Value) (st : Jvm.State) : (allAtoms ts).before a st = ts.all (fun c => c.before a st) := by
  induction ts with
  | nil => rfl
  | cons c t ih =>
    show (Jvm.Cond.and c (allAtoms t)).before a st = _
    rw [Jvm.Cond.before_and, ih, List.all_cons]
def words1 : List Jvm.Cond := Jvm.Cond.code x code maxLocals ret :: tables_1
/-- a 'code' word, met by the world's own term for the bytes: nothing is compared byte by byte -/
theorem code_word {y : MethodName} {bytes : ByteArray} {mx : Nat} {rt : Option FieldType} {a : Array Value} {s : State} {m : MethodId} {meth : Method} {c : Code} (h1 : s.methodNamed? y = some m) (h2 : s.vm.method? m = some meth) (h3 : meth.code = some c) (h4 : c.code = bytes)
    (h5 : (c.maxLocals == mx && c.exceptionTable.isEmpty && decide (c.maxStack ≤ mostOperands) && decide (meth.sig.returnType = rt) && !meth.locks && decide (parseMethodDescriptor y.desc = some meth.sig)) = true) : (Jvm.Cond.code y bytes mx rt).before a s = true := by
  simp only [Bool.and_eq_true, beq_iff_eq, Bool.not_eq_true', decide_eq_true_eq] at h5
  obtain ⟨⟨⟨⟨⟨g1, g2⟩, g3⟩, g4⟩, g5⟩, g6⟩ := h5
  simp [Cond.before, Cond.holds, Cond.value, h1, h2, h3, h4, g1, g2, g3, g4, g5, g6]
def isCode : Jvm.Cond → Bool
  | .code _ _ _ _ => true
  | _ => false
theorem all_split {L : List Jvm.Cond} {P : Jvm.Cond → Bool} (h1 : L.all (fun c => isCode c || P c) = true) (h2 : ∀ c ∈ L.filter isCode, P c = true) : L.all P = true := by
  refine List.all_eq_true.mpr fun c hc => ?_
  have h := List.all_eq_true.mp h1 c hc
  rcases Bool.eq_false_or_eq_true (isCode c) with hi | hi
  · exact h2 c (List.mem_filter.mpr ⟨hc, hi⟩)
  · simpa [hi] using h
set_option maxRecDepth 65536 in
theorem w_c0 : (Jvm.Cond.code x code maxLocals ret).before args0 about1 = true := code_word (m := ⟨1, 1⟩) (meth := k1m1) (c := k1c1) (by decide +kernel) rfl rfl rfl (by decide +kernel)
set_option maxRecDepth 65536 in
theorem w_c1 : (Jvm.Cond.code ({ cls := "com/example/linkstride/linkstride/lookup/HttpRequests$Response", name := "<init>", desc := "(ILjava/lang/String;Ljava/lang/String;Ljava/lang/String;[B)V" } : Jvm.MethodName) prog_13_method_1_code (6 : Nat) (Option.none : Option Jvm.ClassFile.FieldType)).before args0 about1 = true := code_word (m := ⟨3, 0⟩) (meth := k3m0) (c := k3c0) (by decide +kernel) rfl rfl rfl (by decide +kernel)
set_option maxRecDepth 65536 in
theorem w_c2 : (Jvm.Cond.code ({ cls := "java/lang/Record", name := "<init>", desc := "()V" } : Jvm.MethodName) jdk_30_method_1_code (1 : Nat) (Option.none : Option Jvm.ClassFile.FieldType)).before args0 about1 = true := code_word (m := ⟨2, 0⟩) (meth := k2m0) (c := k2c0) (by decide +kernel) rfl rfl rfl (by decide +kernel)
set_option maxRecDepth 65536 in
theorem w_c3 : (Jvm.Cond.code ({ cls := "java/lang/Object", name := "<init>", desc := "()V" } : Jvm.MethodName) object_method_1_code (1 : Nat) (Option.none : Option Jvm.ClassFile.FieldType)).before args0 about1 = true := code_word (m := ⟨0, 0⟩) (meth := k0m0) (c := k0c0) (by decide +kernel) rfl rfl rfl (by decide +kernel)
set_option maxRecDepth 65536 in
theorem w_c4 : (Jvm.Cond.code ({ cls := "com/example/linkstride/linkstride/lookup/HttpRequests$Response", name := "isSuccess", desc := "()Z" } : Jvm.MethodName) prog_13_method_2_code (1 : Nat) (Option.some Jvm.ClassFile.FieldType.boolean)).before args0 about1 = true := code_word (m := ⟨3, 1⟩) (meth := k3m1) (c := k3c1) (by decide +kernel) rfl rfl rfl (by decide +kernel)
set_option maxRecDepth 65536 in
theorem w_c5 : (Jvm.Cond.code ({ cls := "com/example/linkstride/linkstride/lookup/ResponseIsSuccessPinLaw", name := "expected", desc := "(I)Z" } : Jvm.MethodName) method_3_code (1 : Nat) (Option.some Jvm.ClassFile.FieldType.boolean)).before args0 about1 = true := code_word (m := ⟨1, 2⟩) (meth := k1m2) (c := k1c2) (by decide +kernel) rfl rfl rfl (by decide +kernel)
def codes1 : List Jvm.Cond := [Jvm.Cond.code x code maxLocals ret, Jvm.Cond.code ({ cls := "com/example/linkstride/linkstride/lookup/HttpRequests$Response", name := "<init>", desc := "(ILjava/lang/String;Ljava/lang/String;Ljava/lang/String;[B)V" } : Jvm.MethodName) prog_13_method_1_code (6 : Nat) (Option.none : Option Jvm.ClassFile.FieldType), Jvm.Cond.code ({ cls := "java/lang/Record", name := "<init>", desc := "()V" } : Jvm.MethodName) jdk_30_method_1_code (1 : Nat) (Option.none : Option Jvm.ClassFile.FieldType), Jvm.Cond.code ({ cls := "java/lang/Object", name := "<init>", desc := "()V" } : Jvm.MethodName) object_method_1_code (1 : Nat) (Option.none : Option Jvm.ClassFile.FieldType), Jvm.Cond.code ({ cls := "com/example/linkstride/linkstride/lookup/HttpRequests$Response", name := "isSuccess", desc := "()Z" } : Jvm.MethodName) prog_13_method_2_code (1 : Nat) (Option.some Jvm.ClassFile.FieldType.boolean), Jvm.Cond.code ({ cls := "com/example/linkstride/linkstride/lookup/ResponseIsSuccessPinLaw", name := "expected", desc := "(I)Z" } : Jvm.MethodName) method_3_code (1 : Nat) (Option.some Jvm.ClassFile.FieldType.boolean)]
set_option maxRecDepth 65536 in
theorem codes_eq : words1.filter isCode = codes1 := rfl
theorem w_codes : ∀ c ∈ words1.filter isCode, c.before args0 about1 = true := by
  rw [codes_eq]
  intro c hc
  simp only [codes1, List.mem_cons, List.not_mem_nil, or_false] at hc
  rcases hc with rfl | rfl | rfl | rfl | rfl | rfl
  · exact w_c0
  · exact w_c1
  · exact w_c2
  · exact w_c3
  · exact w_c4
  · exact w_c5
set_option maxRecDepth 65536 in
theorem w_t1 : (words1.take 24).all (fun c => isCode c || c.before args0 about1) = true := by decide +kernel
set_option maxRecDepth 65536 in
theorem w_t2 : (words1.drop 24).all (fun c => isCode c || c.before args0 about1) = true := by decide +kernel
theorem w_tables : (allAtoms (Jvm.Cond.code x code maxLocals ret :: tables_1)).before args0 about1 = true := by
  rw [allAtoms_all]
  show words1.all (fun c => c.before args0 about1) = true
  refine all_split ?_ w_codes
  rw [← List.take_append_drop 24 words1, List.all_append, w_t1, w_t2]
  rfl
set_option maxRecDepth 65536 in
theorem w_case : (Jvm.Cond.and given_1 narrow_1).before args0 about1 = true := by decide +kernel
theorem w_applies : (headSpec (Jvm.Cond.code x code maxLocals ret :: tables_1) room_1).applies x e0.platform about1 = true :=
  (Spec.applies_iff w_frames).mpr ⟨w_running, w_runnable, w_alone, w_named, w_hears, w_ripe, w_room, w_tables⟩
theorem atStart : AtStart classFile x code maxLocals ret World_1 tables_1 room_1 Calls_1 rest_1 Pre_1 launch0 p0 e0 about1 theMethod args0 below0 :=
  ⟨lists_1, trivial, launch0.admits_env _ _ _, launch0.least_env, fairChoices_fair.cas, fairChoices_fair.clock, w_frames, w_args, w_heap, w_applies, trivial, trivial, w_case⟩
end start1
theorem witness_1 : WitnessClaimed_1 := ⟨start1.p0, start1.e0, start1.about1, start1.theMethod, start1.args0, start1.below0, start1.atStart⟩
end Jvm.Pilot.@@N@@
