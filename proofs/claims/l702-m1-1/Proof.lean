import JvmDerived
import JvmDerived.Pilot.@@N@@Statement
import JvmDerived.Pilot.@@N@@Code
set_option linter.unusedVariables false
set_option linter.unusedSimpArgs false
namespace Jvm.RoadKit
open Sem ClassFile Op Lib Jvm.Stand Jvm.Free Jvm.LawKit
section New
variable {p : Program} {l : Launch} {e : Env} {R : Room} {s : State} {m : MethodId} {args : Array Value} {below : List Frame} {meth : Method} {c : Code} {T : State} {locs : List Loc} {cells slots : Nat}
theorem retI (X : Stand p l e R s m args below meth c T locs cells slots) (hx : p.tables.exec = Jvm.exec) {pc : Nat} {Ls : Array Slot} {z : Int32} {rest : List Value} (hret : meth.sig.returnType = some .int) (hd : decode c.code pc = .ok (.ireturn, 1)) {fs : List Frame}
    (hl : ∀ (f : JFrame) (acts : List Action), f.method = m → f.locked = none → f.entered = [] → (doReturn e (T.setTop f) acts (some (.int z))).1 = T.setFrames fs) : Steps p.tables e below (T.setTop (mkF m pc Ls (.int z :: rest))) (T.setFrames fs) := by
  have hm' : T.vm.method? m = some meth := X.method'
  have hn : narrow .int (.int z) = .int z := rfl
  show Steps p.tables e below (T.setTop { method := m, pc := pc, locals := Ls, stack := _ :: rest, locked := none }) _
  jvm_step X.here [X.here.top, hx, hd, hm', hret, hn]
  first | (intro acts; rw [hl _ acts rfl rfl rfl]) | rw [hl _ _ rfl rfl rfl]
  exact Steps.refl _
/-- a run from U comes to a state of which K holds -/
def Rch (p : Program) (e : Env) (below : List Frame) (K : State → Prop) (U : State) : Prop := ∃ s₂, Steps p.tables e below U s₂ ∧ K s₂
theorem Rch.go {K : State → Prop} {U U' : State} (h : ∀ t, Steps p.tables e below U' t → Steps p.tables e below U t) (k : Rch p e below K U') : Rch p e below K U := by
  obtain ⟨s₂, a, b⟩ := k; exact ⟨s₂, h _ a, b⟩
theorem Rch.to {K : State → Prop} {U U' : State} (h : Steps p.tables e below U U') (k : Rch p e below K U') : Rch p e below K U := by
  obtain ⟨s₂, a, b⟩ := k; exact ⟨s₂, h.trans a, b⟩
theorem Rch.then {K K' : State → Prop} {U : State} (h : Rch p e below K U) (f : ∀ V, K V → Rch p e below K' V) : Rch p e below K' U := by
  obtain ⟨s₂, a, b⟩ := h; exact Rch.to a (f _ b)
/-- the body is left: what it returned and what it leaves -/
def Fin (s : State) (below : List Frame) (Q : Option Value → Heap → List Loc → Prop) (k n : Nat) (s₂ : State) : Prop :=
  ∃ o, s₂.status = .running ∧ Ended s₂ below o ∧ ∃ v L, o = .returned v ∧ Q v s₂.heap L ∧ FrameEnd s o s₂ L k n
theorem Rch.fin {Q : Option Value → Heap → List Loc → Prop} {k n : Nat} {U : State} {h : Heap} (X : Stand p l e R s m args below meth c T locs cells slots) (hlk : meth.locks = false) {v : Option Value} (hv : meth.sig.returnType = none → v = none) (eT : T.heap = h) (hc : cells ≤ k) (hn : slots ≤ n)
    (st : ∀ fs, (∀ (f : JFrame) (acts : List Action), f.method = m → f.locked = none → f.entered = [] → (doReturn e (T.setTop f) acts v).1 = T.setFrames fs) → Steps p.tables e below U (T.setFrames fs)) (hQ : Q v h locs) : Rch p e below (Fin s below Q k n) U := by
  obtain ⟨fs, hr, hrun, hended, hW, hsame⟩ := X.leave hv hlk
  refine ⟨_, st fs hr, _, hrun, hended, v, locs, rfl, ?_, ⟨_, rfl⟩, hW, hsame.mono hc hn⟩
  show Q v T.heap locs
  rw [eT]; exact hQ
theorem Rch.body {Q : Option Value → Heap → List Loc → Prop} {k n : Nat} {U U' : State} (h : ∀ t, Steps p.tables e below U' t → Steps p.tables e below U t) (H : Rch p e below (Fin s below Q k n) U') :
    ∃ s₂ o, Steps p.tables e below U s₂ ∧ s₂.status = .running ∧ Ended s₂ below o ∧ (∃ v L, o = .returned v ∧ Q v s₂.heap L ∧ FrameEnd s o s₂ L k n) := by
  obtain ⟨s₂, a, o, b, c, d⟩ := H; exact ⟨s₂, o, h _ a, b, c, d⟩
/-- the same, said with the wide end (a String constant may have been interned) -/
def FinW (s : State) (below : List Frame) (Q : Option Value → Heap → List Loc → Prop) (k n : Nat) (s₂ : State) : Prop :=
  ∃ o, s₂.status = .running ∧ Ended s₂ below o ∧ ∃ v L, o = .returned v ∧ Q v s₂.heap L ∧ ReturnedEndW s o s₂ L k n
theorem Rch.finW {Q : Option Value → Heap → List Loc → Prop} {k n : Nat} {U : State} {h : Heap} {vm₁ : Vm} {n1 : Nat} (X : Stand p l e R (s.setVm vm₁) m args below meth c T locs cells slots) (hlk : meth.locks = false) {v : Option Value} (hv : meth.sig.returnType = none → v = none) (eT : T.heap = h) (hc : cells ≤ k) (hn : slots ≤ n)
    (hS : s.Since vm₁ n1) (hk : n1 ≤ h.size) (st : ∀ fs, (∀ (f : JFrame) (acts : List Action), f.method = m → f.locked = none → f.entered = [] → (doReturn e (T.setTop f) acts v).1 = T.setFrames fs) → Steps p.tables e below U (T.setFrames fs)) (hQ : Q v h locs) : Rch p e below (FinW s below Q k n) U := by
  obtain ⟨fs, hr, hrun, hended, hE⟩ := X.leaveW hS (by rw [eT]; exact hk) hv hlk
  refine ⟨_, st fs hr, _, hrun, hended, v, locs, rfl, ?_, hE.1, hE.2.1, hE.2.2.1, hE.2.2.2.mono hc hn⟩
  show Q v T.heap locs
  rw [eT]; exact hQ
theorem Rch.bodyW {Q : Option Value → Heap → List Loc → Prop} {k n : Nat} {U U' : State} (h : ∀ t, Steps p.tables e below U' t → Steps p.tables e below U t) (H : Rch p e below (FinW s below Q k n) U') :
    ∃ s₂ o, Steps p.tables e below U s₂ ∧ s₂.status = .running ∧ Ended s₂ below o ∧ (∃ v L, o = .returned v ∧ Q v s₂.heap L ∧ ReturnedEndW s o s₂ L k n) := by
  obtain ⟨s₂, a, o, b, c, d⟩ := H; exact ⟨s₂, o, h _ a, b, c, d⟩
theorem nar_1 : nar .boolean 1 = 1 := rfl
theorem nar_0 : nar .boolean 0 = 0 := rfl
end New
end Jvm.RoadKit
namespace Jvm.Pilot.@@N@@
open Jvm Jvm.ClassFile Sem Op Lib Jvm.Free Jvm.Stand Jvm.LawKit Jvm.RoadKit Bundle Jvm.Pilot.@@N@@.Jvm.D
theorem wi {Z : State} {a0 : Array Value} (hw : ∀ d ∈ tables_1, d.before a0 Z = true) (i : Nat) {d : Jvm.Cond} (h : tables_1[i]? = some d) : d.before a0 Z = true := hw d (List.mem_of_getElem? h)
def own_max (q1 q2 : Int64) : Int64 := if q1 < q2 then q2 else q1
/-- what expectedAfter answers -/
def own_after (q1 q2 : Int64) : Int64 := if q1 = 0 then q2 else if q2 < q1 then q1 + (q2 - q1) / 2 else q1 + (q2 - q1) / 8
theorem own_ltI (a b : Int64) : a < b ↔ a.toInt < b.toInt := Int64.lt_iff_toInt_lt
theorem own_down (ex r : Int64) (he : 0 ≤ ex.toInt) (hr : 0 ≤ r.toInt) (h0 : ¬ ex = 0) (h : r < ex) :
    ¬ (ex - own_after ex r) < 0 ∧ ¬ ((ex - r) - (ex - own_after ex r)) < (ex - own_after ex r) ∧ ¬ 1 < ((ex - r) - (ex - own_after ex r)) - (ex - own_after ex r) := by
  have ha : own_after ex r = ex + (r - ex) / 2 := by simp only [own_after, h0, h, ↓reduceIte]
  rw [ha]
  have h1 : r.toInt < ex.toInt := (own_ltI _ _).mp h
  have b1 := rng64 ex
  have b2 := rng64 r
  have e1 : (r - ex).toInt = r.toInt - ex.toInt := XT.sub64 ⟨by omega, by omega⟩
  have e2 : ((r - ex) / 2).toInt = -((-(r - ex).toInt) / 2) := (c_ldiv (r - ex) 2 2 rfl (by decide)).2 (by omega)
  have e3 : (ex + (r - ex) / 2).toInt = ex.toInt + ((r - ex) / 2).toInt := XT.add64 ⟨by omega, by omega⟩
  have e4 : (ex - (ex + (r - ex) / 2)).toInt = ex.toInt - (ex + (r - ex) / 2).toInt := XT.sub64 ⟨by omega, by omega⟩
  have e5 : (ex - r).toInt = ex.toInt - r.toInt := XT.sub64 ⟨by omega, by omega⟩
  have e6 : ((ex - r) - (ex - (ex + (r - ex) / 2))).toInt = (ex - r).toInt - (ex - (ex + (r - ex) / 2)).toInt := XT.sub64 ⟨by omega, by omega⟩
  have e7 : (((ex - r) - (ex - (ex + (r - ex) / 2))) - (ex - (ex + (r - ex) / 2))).toInt = ((ex - r) - (ex - (ex + (r - ex) / 2))).toInt - (ex - (ex + (r - ex) / 2)).toInt := XT.sub64 ⟨by omega, by omega⟩
  have z0 : (0 : Int64).toInt = 0 := rfl
  have z1 : (1 : Int64).toInt = 1 := rfl
  refine ⟨?_, ?_, ?_⟩ <;> rw [own_ltI] <;> omega
theorem own_up (ex r : Int64) (he : 0 ≤ ex.toInt) (hr : 0 ≤ r.toInt) (h0 : ¬ ex = 0) (h : ¬ r < ex) :
    ¬ (own_after ex r - ex) < 0 ∧ ¬ ((9223372036854775807 : Int64) >>> ((3 : Int32) &&& 0x3f).toInt64) < (own_after ex r - ex) ∧ ¬ (r - ex) < 8 * (own_after ex r - ex) ∧ ¬ 7 < (r - ex) - 8 * (own_after ex r - ex) := by
  have ha : own_after ex r = ex + (r - ex) / 8 := by simp only [own_after, h0, h, ↓reduceIte]
  rw [ha]
  have h1 : ¬ r.toInt < ex.toInt := fun q => h ((own_ltI _ _).mpr q)
  have b1 := rng64 ex
  have b2 := rng64 r
  have e1 : (r - ex).toInt = r.toInt - ex.toInt := XT.sub64 ⟨by omega, by omega⟩
  have e2 : ((r - ex) / 8).toInt = (r - ex).toInt / 8 := (c_ldiv (r - ex) 8 8 rfl (by decide)).1 (by omega)
  have e3 : (ex + (r - ex) / 8).toInt = ex.toInt + ((r - ex) / 8).toInt := XT.add64 ⟨by omega, by omega⟩
  have e4 : ((ex + (r - ex) / 8) - ex).toInt = (ex + (r - ex) / 8).toInt - ex.toInt := XT.sub64 ⟨by omega, by omega⟩
  have z0 : (0 : Int64).toInt = 0 := rfl
  have z7 : (7 : Int64).toInt = 7 := rfl
  have z8 : (8 : Int64).toInt = 8 := rfl
  have zM : ((9223372036854775807 : Int64) >>> ((3 : Int32) &&& 0x3f).toInt64).toInt = 1152921504606846975 := by decide +kernel
  have e5 : (8 * ((ex + (r - ex) / 8) - ex)).toInt = (8 : Int64).toInt * ((ex + (r - ex) / 8) - ex).toInt := XT.mul64 ⟨by rw [z8]; omega, by rw [z8]; omega⟩
  have e6 : ((r - ex) - 8 * ((ex + (r - ex) / 8) - ex)).toInt = (r - ex).toInt - (8 * ((ex + (r - ex) / 8) - ex)).toInt := XT.sub64 ⟨by rw [e5, z8]; omega, by rw [e5, z8]; omega⟩
  rw [z8] at e5
  refine ⟨?_, ?_, ?_, ?_⟩ <;> rw [own_ltI] <;> omega
theorem own_mask (a : Int64) : 0 ≤ (a &&& (9223372036854775807 : Int64)).toInt := by
  rw [c_maskL a 9223372036854775807 63 (by decide) (by decide)]; omega
theorem own_15 (a : Int64) : 0 ≤ (a &&& (15 : Int64)).toInt ∧ (a &&& (15 : Int64)).toInt < 16 := by
  rw [c_maskL a 15 4 (by decide) (by decide)]; omega
theorem own_max0 (a : Int64) : 0 ≤ (own_max 0 a).toInt := by
  unfold own_max; split
  · rename_i h; have := (own_ltI _ _).mp h; have z0 : (0 : Int64).toInt = 0 := rfl; omega
  · decide
theorem own_plus (ex b : Int64) (he : 0 ≤ ex.toInt) (h : ¬ ((9223372036854775807 : Int64) - (15 : Int64)) < ex) : 0 ≤ (ex + (b &&& (15 : Int64))).toInt := by
  have h1 := own_15 b
  have z : ((9223372036854775807 : Int64) - (15 : Int64)).toInt = 9223372036854775792 := by decide
  have h2 : ¬ (9223372036854775792 < ex.toInt) := fun q => h ((own_ltI _ _).mpr (by rw [z]; exact q))
  rw [XT.add64 ⟨by omega, by omega⟩]; omega
theorem d9_0 : decode jdk_29_method_66_code 0 = .ok (.lload_n 0, 1) := by decide +kernel
theorem d9_1 : decode jdk_29_method_66_code 1 = .ok (.lload_n 2, 1) := by decide +kernel
theorem d9_2 : decode jdk_29_method_66_code 2 = .ok (.lcmp, 1) := by decide +kernel
theorem d9_3 : decode jdk_29_method_66_code 3 = .ok (.ifCond .lt 7, 3) := by decide +kernel
theorem d9_6 : decode jdk_29_method_66_code 6 = .ok (.lload_n 0, 1) := by decide +kernel
theorem d9_7 : decode jdk_29_method_66_code 7 = .ok (.goto 4, 3) := by decide +kernel
theorem d9_10 : decode jdk_29_method_66_code 10 = .ok (.lload_n 2, 1) := by decide +kernel
theorem d9_11 : decode jdk_29_method_66_code 11 = .ok (.lreturn, 1) := by decide +kernel
theorem ef_rmM (m : MethodId) (q1 : Int64) (q2 : Int64) : entryFrame m #[(.long q1), (.long q2)] 4 = mkF m 0 #[.val (.long q1), .second, .val (.long q2), .second] [] := by first | (simp [entryFrame, mkF, argsToLocals, Value.category]; done) | rfl
def Q_rmM (Z : State) (q1 : Int64) (q2 : Int64) (h0 : Heap) (n0 : Nat) (v : Option Value) (h : Heap) (L : List Loc) : Prop := v = some (.long (own_max q1 q2)) ∧ Fr n0 L ∧ h = h0
set_option maxRecDepth 65536 in
set_option maxHeartbeats 40000000 in
theorem rmM (l : Launch) (Z : State) (a0 : Array Value) (hw : ∀ d ∈ tables_1, d.before a0 Z = true) (ws : List Jvm.Cond) (q1 : Int64) (q2 : Int64) (h0 : Heap) (n0 : Nat) (Z0 : n0 ≤ h0.size)  :
    MetFree l (⟨"java/lang/Math", "max", "(JJ)J"⟩ : MethodName) (head1 (Jvm.Cond.code (⟨"java/lang/Math", "max", "(JJ)J"⟩ : MethodName) jdk_29_method_66_code 4 (some .long) :: ws) ({ frames := 0, cells := 0, slots := 0, locals := 0 } : Room)) (fun a U => a = #[(.long q1), (.long q2)] ∧ Z.Warmed39 U.vm ∧ U.heap = h0) (fun _ _ _ _ _ => True) (fun _ U o U' => ∃ v L, o = .returned v ∧ Q_rmM Z q1 q2 h0 n0 v U'.heap L ∧ FrameEnd U o U' L ({ frames := 0, cells := 0, slots := 0, locals := 0 } : Room).cells ({ frames := 0, cells := 0, slots := 0, locals := 0 } : Room).slots) := by
  refine MetFree.of_bodySF (Jvm.Free.JP.mathPlain rfl (by decide +kernel)) hisR ?_
  intro p e s m args below meth c s₁ Bd hml0 hP hK
  obtain ⟨rfl, hZ, hh⟩ := hP
  have hx := Bd.exec
  have hby := Bd.bytes
  have hml : c.maxLocals = 4 := hml0
  have hown : s.vm.findClass "java/lang/Math" = some m.cls := findClass_of_methodNamed Bd.named
  have hnm := (name_of_methodNamed Bd.named Bd.method).1
  have hret := Bd.returns
  have hlk : meth.locks = false := BodyLoose.notSynchronized Bd
  have X0 : Stand p l e ({ frames := 0, cells := 0, slots := 0, locals := 0 } : Room) s m #[(.long q1), (.long q2)] below meth c s₁ [] 0 0 := Stand.of_body Bd
  have e0 : s₁.heap = h0 := by rw [← hh, Bd.state]; rfl
  have N0 := Fr.nil n0
  refine Rch.body (Q := Q_rmM Z q1 q2 h0 n0) (U' := s₁.setTop (mkF m 0 #[.val (.long q1), .second, .val (.long q2), .second] [])) (fun t k => castTop (ef_rmM m q1 q2) k) ?_
  refine Rch.go (U' := s₁.setTop (mkF m 1 #[.val (.long q1), .second, .val (.long q2), .second] [(.long q1)])) (fun _ k => XS.lloadN X0.here hx rfl (hb hby d9_0) rfl  k) ?_
  refine Rch.go (U' := s₁.setTop (mkF m 2 #[.val (.long q1), .second, .val (.long q2), .second] [(.long q2), (.long q1)])) (fun _ k => XS.lloadN X0.here hx rfl (hb hby d9_1) rfl  k) ?_
  refine Rch.go (U' := s₁.setTop (mkF m 3 #[.val (.long q1), .second, .val (.long q2), .second] [(.int (XT.cmpL q1 q2))])) (fun _ k => XT.lcmp X0.here hx rfl (hb hby d9_2) rfl k) ?_
  by_cases br1 : q1 < q2
  ·
    refine Rch.go (U' := s₁.setTop (mkF m 10 #[.val (.long q1), .second, .val (.long q2), .second] [])) (fun _ k => XS.ifYes X0.here hx rfl (pc0 := 3) (pc' := 10) rfl (hb hby d9_3) rfl (XT.ll_lt_t br1) (by decide) (by decide) k) ?_
    refine Rch.go (U' := s₁.setTop (mkF m 11 #[.val (.long q1), .second, .val (.long q2), .second] [(.long q2)])) (fun _ k => XS.lloadN X0.here hx rfl (hb hby d9_10) rfl  k) ?_
    refine Rch.fin X0 hlk (v := some (.long q2)) (fun h => by rw [hret] at h; cases h) e0 (by decide) (by decide) (fun fs hr => X0.lreturnOut hx hret (hb hby d9_11) hr) ?_
    exact ⟨by simp only [own_max, br1, ↓reduceIte], N0, rfl⟩
  ·
    refine Rch.go (U' := s₁.setTop (mkF m 6 #[.val (.long q1), .second, .val (.long q2), .second] [])) (fun _ k => XS.ifNo X0.here hx rfl (hb hby d9_3) rfl (XT.ll_lt_f br1) k) ?_
    refine Rch.go (U' := s₁.setTop (mkF m 7 #[.val (.long q1), .second, .val (.long q2), .second] [(.long q1)])) (fun _ k => XS.lloadN X0.here hx rfl (hb hby d9_6) rfl  k) ?_
    refine Rch.go (U' := s₁.setTop (mkF m 11 #[.val (.long q1), .second, .val (.long q2), .second] [(.long q1)])) (fun _ k => XS.goto X0.here hx rfl (pc0 := 7) (pc' := 11) rfl (hb hby d9_7) (by decide) (by decide) k) ?_
    refine Rch.fin X0 hlk (v := some (.long q1)) (fun h => by rw [hret] at h; cases h) e0 (by decide) (by decide) (fun fs hr => X0.lreturnOut hx hret (hb hby d9_11) hr) ?_
    exact ⟨by simp only [own_max, br1, ↓reduceIte], N0, rfl⟩
theorem d4_0 : decode prog_25_method_28_code 0 = .ok (.lload_n 0, 1) := by decide +kernel
theorem d4_1 : decode prog_25_method_28_code 1 = .ok (.lconst 0, 1) := by decide +kernel
theorem d4_2 : decode prog_25_method_28_code 2 = .ok (.lcmp, 1) := by decide +kernel
theorem d4_3 : decode prog_25_method_28_code 3 = .ok (.ifCond .ne 9, 3) := by decide +kernel
theorem d4_6 : decode prog_25_method_28_code 6 = .ok (.lload_n 2, 1) := by decide +kernel
theorem d4_7 : decode prog_25_method_28_code 7 = .ok (.lstore 4, 2) := by decide +kernel
theorem d4_9 : decode prog_25_method_28_code 9 = .ok (.goto 34, 3) := by decide +kernel
theorem d4_12 : decode prog_25_method_28_code 12 = .ok (.lload_n 2, 1) := by decide +kernel
theorem d4_13 : decode prog_25_method_28_code 13 = .ok (.lload_n 0, 1) := by decide +kernel
theorem d4_14 : decode prog_25_method_28_code 14 = .ok (.lcmp, 1) := by decide +kernel
theorem d4_15 : decode prog_25_method_28_code 15 = .ok (.ifCond .ge 17, 3) := by decide +kernel
theorem d4_18 : decode prog_25_method_28_code 18 = .ok (.lload_n 0, 1) := by decide +kernel
theorem d4_19 : decode prog_25_method_28_code 19 = .ok (.lload_n 2, 1) := by decide +kernel
theorem d4_20 : decode prog_25_method_28_code 20 = .ok (.lload_n 0, 1) := by decide +kernel
theorem d4_21 : decode prog_25_method_28_code 21 = .ok (.lsub, 1) := by decide +kernel
theorem d4_22 : decode prog_25_method_28_code 22 = .ok (.ldc2_w 333, 3) := by decide +kernel
theorem d4_25 : decode prog_25_method_28_code 25 = .ok (.ldiv, 1) := by decide +kernel
theorem d4_26 : decode prog_25_method_28_code 26 = .ok (.ladd, 1) := by decide +kernel
theorem d4_27 : decode prog_25_method_28_code 27 = .ok (.lstore 4, 2) := by decide +kernel
theorem d4_29 : decode prog_25_method_28_code 29 = .ok (.goto 14, 3) := by decide +kernel
theorem d4_32 : decode prog_25_method_28_code 32 = .ok (.lload_n 0, 1) := by decide +kernel
theorem d4_33 : decode prog_25_method_28_code 33 = .ok (.lload_n 2, 1) := by decide +kernel
theorem d4_34 : decode prog_25_method_28_code 34 = .ok (.lload_n 0, 1) := by decide +kernel
theorem d4_35 : decode prog_25_method_28_code 35 = .ok (.lsub, 1) := by decide +kernel
theorem d4_36 : decode prog_25_method_28_code 36 = .ok (.ldc2_w 223, 3) := by decide +kernel
theorem d4_39 : decode prog_25_method_28_code 39 = .ok (.ldiv, 1) := by decide +kernel
theorem d4_40 : decode prog_25_method_28_code 40 = .ok (.ladd, 1) := by decide +kernel
theorem d4_41 : decode prog_25_method_28_code 41 = .ok (.lstore 4, 2) := by decide +kernel
theorem d4_43 : decode prog_25_method_28_code 43 = .ok (.lload 4, 2) := by decide +kernel
theorem d4_45 : decode prog_25_method_28_code 45 = .ok (.lreturn, 1) := by decide +kernel
theorem pn_com_example_interlock_interlock_engine_Admission : plainName "com/example/interlock/interlock/engine/Admission" = true := by first | (simp [plainName, overriddenIn]; done) | decide +kernel
theorem ef_rmA (m : MethodId) (q1 : Int64) (q2 : Int64) : entryFrame m #[(.long q1), (.long q2)] 6 = mkF m 0 #[.val (.long q1), .second, .val (.long q2), .second, .unset, .unset] [] := by first | (simp [entryFrame, mkF, argsToLocals, Value.category]; done) | rfl
def Q_rmA (Z : State) (q1 : Int64) (q2 : Int64) (h0 : Heap) (n0 : Nat) (v : Option Value) (h : Heap) (L : List Loc) : Prop := v = some (.long (own_after q1 q2)) ∧ Fr n0 L ∧ h = h0
set_option maxRecDepth 65536 in
set_option maxHeartbeats 40000000 in
theorem rmA (l : Launch) (Z : State) (a0 : Array Value) (hw : ∀ d ∈ tables_1, d.before a0 Z = true) (ws : List Jvm.Cond) (q1 : Int64) (q2 : Int64) (h0 : Heap) (n0 : Nat) (Z0 : n0 ≤ h0.size)  :
    MetFree l (⟨"com/example/interlock/interlock/engine/Admission", "expectedAfter", "(JJ)J"⟩ : MethodName) (head1 (Jvm.Cond.code (⟨"com/example/interlock/interlock/engine/Admission", "expectedAfter", "(JJ)J"⟩ : MethodName) prog_25_method_28_code 6 (some .long) :: ws) ({ frames := 0, cells := 0, slots := 0, locals := 0 } : Room)) (fun a U => a = #[(.long q1), (.long q2)] ∧ Z.Warmed39 U.vm ∧ U.heap = h0) (fun _ _ _ _ _ => True) (fun _ U o U' => ∃ v L, o = .returned v ∧ Q_rmA Z q1 q2 h0 n0 v U'.heap L ∧ FrameEnd U o U' L ({ frames := 0, cells := 0, slots := 0, locals := 0 } : Room).cells ({ frames := 0, cells := 0, slots := 0, locals := 0 } : Room).slots) := by
  refine MetFree.of_bodySF (plainFor_of_name pn_com_example_interlock_interlock_engine_Admission) hisR ?_
  intro p e s m args below meth c s₁ Bd hml0 hP hK
  obtain ⟨rfl, hZ, hh⟩ := hP
  have hx := Bd.exec
  have hby := Bd.bytes
  have hml : c.maxLocals = 6 := hml0
  have hown : s.vm.findClass "com/example/interlock/interlock/engine/Admission" = some m.cls := findClass_of_methodNamed Bd.named
  have hnm := (name_of_methodNamed Bd.named Bd.method).1
  have hret := Bd.returns
  have hlk : meth.locks = false := BodyLoose.notSynchronized Bd
  have X0 : Stand p l e ({ frames := 0, cells := 0, slots := 0, locals := 0 } : Room) s m #[(.long q1), (.long q2)] below meth c s₁ [] 0 0 := Stand.of_body Bd
  have e0 : s₁.heap = h0 := by rw [← hh, Bd.state]; rfl
  have N0 := Fr.nil n0
  refine Rch.body (Q := Q_rmA Z q1 q2 h0 n0) (U' := s₁.setTop (mkF m 0 #[.val (.long q1), .second, .val (.long q2), .second, .unset, .unset] [])) (fun t k => castTop (ef_rmA m q1 q2) k) ?_
  refine Rch.go (U' := s₁.setTop (mkF m 1 #[.val (.long q1), .second, .val (.long q2), .second, .unset, .unset] [(.long q1)])) (fun _ k => XS.lloadN X0.here hx rfl (hb hby d4_0) rfl  k) ?_
  refine Rch.go (U' := s₁.setTop (mkF m 2 #[.val (.long q1), .second, .val (.long q2), .second, .unset, .unset] [(.long (0 : Int64)), (.long q1)])) (fun _ k => XS.lconst X0.here hx rfl (hb hby d4_1) k) ?_
  refine Rch.go (U' := s₁.setTop (mkF m 3 #[.val (.long q1), .second, .val (.long q2), .second, .unset, .unset] [(.int (XT.cmpL q1 (0 : Int64)))])) (fun _ k => XT.lcmp X0.here hx rfl (hb hby d4_2) rfl k) ?_
  by_cases br2 : q1 = (0 : Int64)
  ·
    refine Rch.go (U' := s₁.setTop (mkF m 6 #[.val (.long q1), .second, .val (.long q2), .second, .unset, .unset] [])) (fun _ k => XS.ifNo X0.here hx rfl (hb hby d4_3) rfl (XT.ll_ne_f br2) k) ?_
    refine Rch.go (U' := s₁.setTop (mkF m 7 #[.val (.long q1), .second, .val (.long q2), .second, .unset, .unset] [(.long q2)])) (fun _ k => XS.lloadN X0.here hx rfl (hb hby d4_6) rfl  k) ?_
    refine Rch.go (U' := s₁.setTop (mkF m 9 #[.val (.long q1), .second, .val (.long q2), .second, .val (.long q2), .second] [])) (fun _ k => XS.lstore X0.here hx rfl (hb hby d4_7) rfl (l' := #[.val (.long q1), .second, .val (.long q2), .second, .val (.long q2), .second]) rfl k) ?_
    refine Rch.go (U' := s₁.setTop (mkF m 43 #[.val (.long q1), .second, .val (.long q2), .second, .val (.long q2), .second] [])) (fun _ k => XS.goto X0.here hx rfl (pc0 := 9) (pc' := 43) rfl (hb hby d4_9) (by decide) (by decide) k) ?_
    refine Rch.go (U' := s₁.setTop (mkF m 45 #[.val (.long q1), .second, .val (.long q2), .second, .val (.long q2), .second] [(.long q2)])) (fun _ k => XS.lload X0.here hx rfl (hb hby d4_43) rfl  k) ?_
    refine Rch.fin X0 hlk (v := some (.long q2)) (fun h => by rw [hret] at h; cases h) e0 (by decide) (by decide) (fun fs hr => X0.lreturnOut hx hret (hb hby d4_45) hr) ?_
    exact ⟨by simp only [own_after, br2, ↓reduceIte], N0, rfl⟩
  ·
    refine Rch.go (U' := s₁.setTop (mkF m 12 #[.val (.long q1), .second, .val (.long q2), .second, .unset, .unset] [])) (fun _ k => XS.ifYes X0.here hx rfl (pc0 := 3) (pc' := 12) rfl (hb hby d4_3) rfl (XT.ll_ne_t br2) (by decide) (by decide) k) ?_
    refine Rch.go (U' := s₁.setTop (mkF m 13 #[.val (.long q1), .second, .val (.long q2), .second, .unset, .unset] [(.long q2)])) (fun _ k => XS.lloadN X0.here hx rfl (hb hby d4_12) rfl  k) ?_
    refine Rch.go (U' := s₁.setTop (mkF m 14 #[.val (.long q1), .second, .val (.long q2), .second, .unset, .unset] [(.long q1), (.long q2)])) (fun _ k => XS.lloadN X0.here hx rfl (hb hby d4_13) rfl  k) ?_
    refine Rch.go (U' := s₁.setTop (mkF m 15 #[.val (.long q1), .second, .val (.long q2), .second, .unset, .unset] [(.int (XT.cmpL q2 q1))])) (fun _ k => XT.lcmp X0.here hx rfl (hb hby d4_14) rfl k) ?_
    by_cases br3 : q2 < q1
    ·
      refine Rch.go (U' := s₁.setTop (mkF m 18 #[.val (.long q1), .second, .val (.long q2), .second, .unset, .unset] [])) (fun _ k => XS.ifNo X0.here hx rfl (hb hby d4_15) rfl (XT.ll_ge_f br3) k) ?_
      refine Rch.go (U' := s₁.setTop (mkF m 19 #[.val (.long q1), .second, .val (.long q2), .second, .unset, .unset] [(.long q1)])) (fun _ k => XS.lloadN X0.here hx rfl (hb hby d4_18) rfl  k) ?_
      refine Rch.go (U' := s₁.setTop (mkF m 20 #[.val (.long q1), .second, .val (.long q2), .second, .unset, .unset] [(.long q2), (.long q1)])) (fun _ k => XS.lloadN X0.here hx rfl (hb hby d4_19) rfl  k) ?_
      refine Rch.go (U' := s₁.setTop (mkF m 21 #[.val (.long q1), .second, .val (.long q2), .second, .unset, .unset] [(.long q1), (.long q2), (.long q1)])) (fun _ k => XS.lloadN X0.here hx rfl (hb hby d4_20) rfl  k) ?_
      refine Rch.go (U' := s₁.setTop (mkF m 22 #[.val (.long q1), .second, .val (.long q2), .second, .unset, .unset] [(.long (q2 - q1)), (.long q1)])) (fun _ k => XS.lsub X0.here hx rfl (hb hby d4_21) rfl k) ?_
      refine Rch.go (U' := s₁.setTop (mkF m 25 #[.val (.long q1), .second, .val (.long q2), .second, .unset, .unset] [(.long (2 : Int64)), (.long (q2 - q1)), (.long q1)])) (fun _ k => X0.ldc2Long hx hown (mvT hZ (wi hw 10 rfl)) (g := (mkF m 22 #[.val (.long q1), .second, .val (.long q2), .second, .unset, .unset] [(.long (q2 - q1)), (.long q1)])) rfl (hb hby d4_22) _ k) ?_
      refine Rch.go (U' := s₁.setTop (mkF m 26 #[.val (.long q1), .second, .val (.long q2), .second, .unset, .unset] [(.long ((q2 - q1) / (2 : Int64))), (.long q1)])) (fun _ k => XS.ldiv X0.here hx rfl (hb hby d4_25) rfl (by decide) k) ?_
      refine Rch.go (U' := s₁.setTop (mkF m 27 #[.val (.long q1), .second, .val (.long q2), .second, .unset, .unset] [(.long (q1 + ((q2 - q1) / (2 : Int64))))])) (fun _ k => XS.ladd X0.here hx rfl (hb hby d4_26) rfl k) ?_
      refine Rch.go (U' := s₁.setTop (mkF m 29 #[.val (.long q1), .second, .val (.long q2), .second, .val (.long (q1 + ((q2 - q1) / (2 : Int64)))), .second] [])) (fun _ k => XS.lstore X0.here hx rfl (hb hby d4_27) rfl (l' := #[.val (.long q1), .second, .val (.long q2), .second, .val (.long (q1 + ((q2 - q1) / (2 : Int64)))), .second]) rfl k) ?_
      refine Rch.go (U' := s₁.setTop (mkF m 43 #[.val (.long q1), .second, .val (.long q2), .second, .val (.long (q1 + ((q2 - q1) / (2 : Int64)))), .second] [])) (fun _ k => XS.goto X0.here hx rfl (pc0 := 29) (pc' := 43) rfl (hb hby d4_29) (by decide) (by decide) k) ?_
      refine Rch.go (U' := s₁.setTop (mkF m 45 #[.val (.long q1), .second, .val (.long q2), .second, .val (.long (q1 + ((q2 - q1) / (2 : Int64)))), .second] [(.long (q1 + ((q2 - q1) / (2 : Int64))))])) (fun _ k => XS.lload X0.here hx rfl (hb hby d4_43) rfl  k) ?_
      refine Rch.fin X0 hlk (v := some (.long (q1 + ((q2 - q1) / (2 : Int64))))) (fun h => by rw [hret] at h; cases h) e0 (by decide) (by decide) (fun fs hr => X0.lreturnOut hx hret (hb hby d4_45) hr) ?_
      exact ⟨by simp only [own_after, br2, br3, ↓reduceIte], N0, rfl⟩
    ·
      refine Rch.go (U' := s₁.setTop (mkF m 32 #[.val (.long q1), .second, .val (.long q2), .second, .unset, .unset] [])) (fun _ k => XS.ifYes X0.here hx rfl (pc0 := 15) (pc' := 32) rfl (hb hby d4_15) rfl (XT.ll_ge_t br3) (by decide) (by decide) k) ?_
      refine Rch.go (U' := s₁.setTop (mkF m 33 #[.val (.long q1), .second, .val (.long q2), .second, .unset, .unset] [(.long q1)])) (fun _ k => XS.lloadN X0.here hx rfl (hb hby d4_32) rfl  k) ?_
      refine Rch.go (U' := s₁.setTop (mkF m 34 #[.val (.long q1), .second, .val (.long q2), .second, .unset, .unset] [(.long q2), (.long q1)])) (fun _ k => XS.lloadN X0.here hx rfl (hb hby d4_33) rfl  k) ?_
      refine Rch.go (U' := s₁.setTop (mkF m 35 #[.val (.long q1), .second, .val (.long q2), .second, .unset, .unset] [(.long q1), (.long q2), (.long q1)])) (fun _ k => XS.lloadN X0.here hx rfl (hb hby d4_34) rfl  k) ?_
      refine Rch.go (U' := s₁.setTop (mkF m 36 #[.val (.long q1), .second, .val (.long q2), .second, .unset, .unset] [(.long (q2 - q1)), (.long q1)])) (fun _ k => XS.lsub X0.here hx rfl (hb hby d4_35) rfl k) ?_
      refine Rch.go (U' := s₁.setTop (mkF m 39 #[.val (.long q1), .second, .val (.long q2), .second, .unset, .unset] [(.long (8 : Int64)), (.long (q2 - q1)), (.long q1)])) (fun _ k => X0.ldc2Long hx hown (mvT hZ (wi hw 11 rfl)) (g := (mkF m 36 #[.val (.long q1), .second, .val (.long q2), .second, .unset, .unset] [(.long (q2 - q1)), (.long q1)])) rfl (hb hby d4_36) _ k) ?_
      refine Rch.go (U' := s₁.setTop (mkF m 40 #[.val (.long q1), .second, .val (.long q2), .second, .unset, .unset] [(.long ((q2 - q1) / (8 : Int64))), (.long q1)])) (fun _ k => XS.ldiv X0.here hx rfl (hb hby d4_39) rfl (by decide) k) ?_
      refine Rch.go (U' := s₁.setTop (mkF m 41 #[.val (.long q1), .second, .val (.long q2), .second, .unset, .unset] [(.long (q1 + ((q2 - q1) / (8 : Int64))))])) (fun _ k => XS.ladd X0.here hx rfl (hb hby d4_40) rfl k) ?_
      refine Rch.go (U' := s₁.setTop (mkF m 43 #[.val (.long q1), .second, .val (.long q2), .second, .val (.long (q1 + ((q2 - q1) / (8 : Int64)))), .second] [])) (fun _ k => XS.lstore X0.here hx rfl (hb hby d4_41) rfl (l' := #[.val (.long q1), .second, .val (.long q2), .second, .val (.long (q1 + ((q2 - q1) / (8 : Int64)))), .second]) rfl k) ?_
      refine Rch.go (U' := s₁.setTop (mkF m 45 #[.val (.long q1), .second, .val (.long q2), .second, .val (.long (q1 + ((q2 - q1) / (8 : Int64)))), .second] [(.long (q1 + ((q2 - q1) / (8 : Int64))))])) (fun _ k => XS.lload X0.here hx rfl (hb hby d4_43) rfl  k) ?_
      refine Rch.fin X0 hlk (v := some (.long (q1 + ((q2 - q1) / (8 : Int64))))) (fun h => by rw [hret] at h; cases h) e0 (by decide) (by decide) (fun fs hr => X0.lreturnOut hx hret (hb hby d4_45) hr) ?_
      exact ⟨by simp only [own_after, br2, br3, ↓reduceIte], N0, rfl⟩
theorem pd_2 : parseMethodDescriptor "(JJ)J" = some ⟨[.long, .long], some .long⟩ := by decide +kernel
set_option maxRecDepth 65536 in
set_option maxHeartbeats 40000000 in
theorem cut97 {p : Program} {l : Launch} {e : Env} {s : State} {m : MethodId} {args : Array Value} {below : List Frame} {meth : Method} {c : Code} {T0 : State} {locs : List Loc} {Z : State} {a0 : Array Value} {h0 : Heap} {n0 : Nat}  (q1 : Int64) (q2 : Int64) (p3 : Int32) (ex : Int64) (pk : Int32) (ran : Int64)
    (X0 : Stand p l e room_1 s m args below meth c T0 locs 0 0) (hx : p.tables.exec = Jvm.exec) (hZ : Z.Warmed39 s.vm) (hw : ∀ d ∈ tables_1, d.before a0 Z = true) (hby : c.code = code) (hml : c.maxLocals = 18) (hown : s.vm.findClass "com/example/interlock/interlock/engine/AdmissionExpectedAfterPinLaw" = some m.cls) (hret : meth.sig.returnType = some .boolean) (hlk : meth.locks = false) (e0 : T0.heap = h0) (N0 : Fr n0 locs) (Z0 : n0 ≤ h0.size) (he : 0 ≤ ex.toInt) (hr : 0 ≤ ran.toInt) :
    Rch p e below (Fin s below (fun v h L => v = some (.int 1) ∧ Fr n0 L) 0 0) (T0.setTop (mkF m 97 #[.val (.long q1), .second, .val (.long q2), .second, .val (.int p3), .val (.long (9223372036854775807 : Int64)), .second, .val (.long ex), .second, .val (.int pk), .val (.long ran), .second, .unset, .unset, .unset, .unset, .unset, .unset] [])) := by
  refine Rch.go (U' := T0.setTop (mkF m 99 #[.val (.long q1), .second, .val (.long q2), .second, .val (.int p3), .val (.long (9223372036854775807 : Int64)), .second, .val (.long ex), .second, .val (.int pk), .val (.long ran), .second, .unset, .unset, .unset, .unset, .unset, .unset] [(.long ex)])) (fun _ k => XS.lload X0.here hx rfl (hb hby at_97) rfl  k) ?_
  refine Rch.go (U' := T0.setTop (mkF m 101 #[.val (.long q1), .second, .val (.long q2), .second, .val (.int p3), .val (.long (9223372036854775807 : Int64)), .second, .val (.long ex), .second, .val (.int pk), .val (.long ran), .second, .unset, .unset, .unset, .unset, .unset, .unset] [(.long ran), (.long ex)])) (fun _ k => XS.lload X0.here hx rfl (hb hby at_99) rfl  k) ?_
  obtain ⟨_, _, ⟨T4, L4, k4, n4⟩, -, X4, ⟨Lc4, hQ4, l4, y4, z4⟩, st4⟩ := Jvm.LawKit.callS X0 hx (y := (⟨"com/example/interlock/interlock/engine/Admission", "expectedAfter", "(JJ)J"⟩ : MethodName)) hown (mvT hZ (wi hw 1 rfl)) (mvT hZ (wi hw 2 rfl)) (mvT hZ (wi hw 3 rfl)) (mvT hZ (wi hw 4 rfl)) (by decide) (backOf (W := 0) (rmA l Z a0 hw [] ex ran h0 n0 Z0 ) hZ (wi hw 4 rfl) (wi hw 3 rfl) (by decide) (by decide)) (g := (mkF m 101 #[.val (.long q1), .second, .val (.long q2), .second, .val (.int p3), .val (.long (9223372036854775807 : Int64)), .second, .val (.long ex), .second, .val (.int pk), .val (.long ran), .second, .unset, .unset, .unset, .unset, .unset, .unset] [(.long ran), (.long ex)])) rfl (by rw [hml]; rfl) (argsL := [(.long ex), (.long ran)]) (rest := []) (lenOf pd_2 rfl) rfl (by show 2 * 0 + _ ≤ _; exact Nat.le_of_eq rfl) (hb hby at_101) (fun _ _ => ⟨rfl, e0, (by decide : 0 + 0 ≤ _), (by decide : 0 + 0 ≤ _)⟩)
  dsimp only [Pt.U, Pt.locs, Pt.cells, Pt.slots] at X4 l4 y4 z4 st4 hQ4
  subst l4 y4 z4
  obtain ⟨rfl, N4q, e4⟩ := hQ4
  have N4 := Fr.app N0 N4q
  refine Rch.go (U' := T4.setTop (mkF m 104 #[.val (.long q1), .second, .val (.long q2), .second, .val (.int p3), .val (.long (9223372036854775807 : Int64)), .second, .val (.long ex), .second, .val (.int pk), .val (.long ran), .second, .unset, .unset, .unset, .unset, .unset, .unset] [(.long (own_after ex ran))])) st4 ?_
  refine Rch.go (U' := T4.setTop (mkF m 106 #[.val (.long q1), .second, .val (.long q2), .second, .val (.int p3), .val (.long (9223372036854775807 : Int64)), .second, .val (.long ex), .second, .val (.int pk), .val (.long ran), .second, .val (.long (own_after ex ran)), .second, .unset, .unset, .unset, .unset] [])) (fun _ k => XS.lstore X4.here hx rfl (hb hby at_104) rfl (l' := #[.val (.long q1), .second, .val (.long q2), .second, .val (.int p3), .val (.long (9223372036854775807 : Int64)), .second, .val (.long ex), .second, .val (.int pk), .val (.long ran), .second, .val (.long (own_after ex ran)), .second, .unset, .unset, .unset, .unset]) rfl k) ?_
  refine Rch.go (U' := T4.setTop (mkF m 108 #[.val (.long q1), .second, .val (.long q2), .second, .val (.int p3), .val (.long (9223372036854775807 : Int64)), .second, .val (.long ex), .second, .val (.int pk), .val (.long ran), .second, .val (.long (own_after ex ran)), .second, .unset, .unset, .unset, .unset] [(.long ex)])) (fun _ k => XS.lload X4.here hx rfl (hb hby at_106) rfl  k) ?_
  refine Rch.go (U' := T4.setTop (mkF m 109 #[.val (.long q1), .second, .val (.long q2), .second, .val (.int p3), .val (.long (9223372036854775807 : Int64)), .second, .val (.long ex), .second, .val (.int pk), .val (.long ran), .second, .val (.long (own_after ex ran)), .second, .unset, .unset, .unset, .unset] [(.long (0 : Int64)), (.long ex)])) (fun _ k => XS.lconst X4.here hx rfl (hb hby at_108) k) ?_
  refine Rch.go (U' := T4.setTop (mkF m 110 #[.val (.long q1), .second, .val (.long q2), .second, .val (.int p3), .val (.long (9223372036854775807 : Int64)), .second, .val (.long ex), .second, .val (.int pk), .val (.long ran), .second, .val (.long (own_after ex ran)), .second, .unset, .unset, .unset, .unset] [(.int (XT.cmpL ex (0 : Int64)))])) (fun _ k => XT.lcmp X4.here hx rfl (hb hby at_109) rfl k) ?_
  by_cases br5 : ex = (0 : Int64)
  ·
    refine Rch.go (U' := T4.setTop (mkF m 113 #[.val (.long q1), .second, .val (.long q2), .second, .val (.int p3), .val (.long (9223372036854775807 : Int64)), .second, .val (.long ex), .second, .val (.int pk), .val (.long ran), .second, .val (.long (own_after ex ran)), .second, .unset, .unset, .unset, .unset] [])) (fun _ k => XS.ifNo X4.here hx rfl (hb hby at_110) rfl (XT.ll_ne_f br5) k) ?_
    refine Rch.go (U' := T4.setTop (mkF m 115 #[.val (.long q1), .second, .val (.long q2), .second, .val (.int p3), .val (.long (9223372036854775807 : Int64)), .second, .val (.long ex), .second, .val (.int pk), .val (.long ran), .second, .val (.long (own_after ex ran)), .second, .unset, .unset, .unset, .unset] [(.long (own_after ex ran))])) (fun _ k => XS.lload X4.here hx rfl (hb hby at_113) rfl  k) ?_
    refine Rch.go (U' := T4.setTop (mkF m 117 #[.val (.long q1), .second, .val (.long q2), .second, .val (.int p3), .val (.long (9223372036854775807 : Int64)), .second, .val (.long ex), .second, .val (.int pk), .val (.long ran), .second, .val (.long (own_after ex ran)), .second, .unset, .unset, .unset, .unset] [(.long ran), (.long (own_after ex ran))])) (fun _ k => XS.lload X4.here hx rfl (hb hby at_115) rfl  k) ?_
    refine Rch.go (U' := T4.setTop (mkF m 118 #[.val (.long q1), .second, .val (.long q2), .second, .val (.int p3), .val (.long (9223372036854775807 : Int64)), .second, .val (.long ex), .second, .val (.int pk), .val (.long ran), .second, .val (.long (own_after ex ran)), .second, .unset, .unset, .unset, .unset] [(.int (XT.cmpL (own_after ex ran) ran))])) (fun _ k => XT.lcmp X4.here hx rfl (hb hby at_117) rfl k) ?_
    have br6 : (own_after ex ran) = ran := by simp only [own_after, br5, ↓reduceIte]
    refine Rch.go (U' := T4.setTop (mkF m 121 #[.val (.long q1), .second, .val (.long q2), .second, .val (.int p3), .val (.long (9223372036854775807 : Int64)), .second, .val (.long ex), .second, .val (.int pk), .val (.long ran), .second, .val (.long (own_after ex ran)), .second, .unset, .unset, .unset, .unset] [])) (fun _ k => XS.ifNo X4.here hx rfl (hb hby at_118) rfl (XT.ll_ne_f br6) k) ?_
    refine Rch.go (U' := T4.setTop (mkF m 122 #[.val (.long q1), .second, .val (.long q2), .second, .val (.int p3), .val (.long (9223372036854775807 : Int64)), .second, .val (.long ex), .second, .val (.int pk), .val (.long ran), .second, .val (.long (own_after ex ran)), .second, .unset, .unset, .unset, .unset] [(.int (1 : Int32))])) (fun _ k => XS.iconst X4.here hx rfl (hb hby at_121) k) ?_
    refine Rch.go (U' := T4.setTop (mkF m 126 #[.val (.long q1), .second, .val (.long q2), .second, .val (.int p3), .val (.long (9223372036854775807 : Int64)), .second, .val (.long ex), .second, .val (.int pk), .val (.long ran), .second, .val (.long (own_after ex ran)), .second, .unset, .unset, .unset, .unset] [(.int (1 : Int32))])) (fun _ k => XS.goto X4.here hx rfl (pc0 := 122) (pc' := 126) rfl (hb hby at_122) (by decide) (by decide) k) ?_
    refine Rch.fin X4 hlk (v := some (.int (nar .boolean (1 : Int32)))) (fun h => by rw [hret] at h; cases h) e4 (by decide) (by decide) (fun fs hr => retN X4 hx (t := .boolean) hret (by simp) (hb hby at_126) hr) ?_
    exact ⟨rfl, N4⟩
  ·
    refine Rch.go (U' := T4.setTop (mkF m 127 #[.val (.long q1), .second, .val (.long q2), .second, .val (.int p3), .val (.long (9223372036854775807 : Int64)), .second, .val (.long ex), .second, .val (.int pk), .val (.long ran), .second, .val (.long (own_after ex ran)), .second, .unset, .unset, .unset, .unset] [])) (fun _ k => XS.ifYes X4.here hx rfl (pc0 := 110) (pc' := 127) rfl (hb hby at_110) rfl (XT.ll_ne_t br5) (by decide) (by decide) k) ?_
    refine Rch.go (U' := T4.setTop (mkF m 129 #[.val (.long q1), .second, .val (.long q2), .second, .val (.int p3), .val (.long (9223372036854775807 : Int64)), .second, .val (.long ex), .second, .val (.int pk), .val (.long ran), .second, .val (.long (own_after ex ran)), .second, .unset, .unset, .unset, .unset] [(.long ran)])) (fun _ k => XS.lload X4.here hx rfl (hb hby at_127) rfl  k) ?_
    refine Rch.go (U' := T4.setTop (mkF m 131 #[.val (.long q1), .second, .val (.long q2), .second, .val (.int p3), .val (.long (9223372036854775807 : Int64)), .second, .val (.long ex), .second, .val (.int pk), .val (.long ran), .second, .val (.long (own_after ex ran)), .second, .unset, .unset, .unset, .unset] [(.long ex), (.long ran)])) (fun _ k => XS.lload X4.here hx rfl (hb hby at_129) rfl  k) ?_
    refine Rch.go (U' := T4.setTop (mkF m 132 #[.val (.long q1), .second, .val (.long q2), .second, .val (.int p3), .val (.long (9223372036854775807 : Int64)), .second, .val (.long ex), .second, .val (.int pk), .val (.long ran), .second, .val (.long (own_after ex ran)), .second, .unset, .unset, .unset, .unset] [(.int (XT.cmpL ran ex))])) (fun _ k => XT.lcmp X4.here hx rfl (hb hby at_131) rfl k) ?_
    by_cases br7 : ran < ex
    ·
      refine Rch.go (U' := T4.setTop (mkF m 135 #[.val (.long q1), .second, .val (.long q2), .second, .val (.int p3), .val (.long (9223372036854775807 : Int64)), .second, .val (.long ex), .second, .val (.int pk), .val (.long ran), .second, .val (.long (own_after ex ran)), .second, .unset, .unset, .unset, .unset] [])) (fun _ k => XS.ifNo X4.here hx rfl (hb hby at_132) rfl (XT.ll_ge_f br7) k) ?_
      refine Rch.go (U' := T4.setTop (mkF m 137 #[.val (.long q1), .second, .val (.long q2), .second, .val (.int p3), .val (.long (9223372036854775807 : Int64)), .second, .val (.long ex), .second, .val (.int pk), .val (.long ran), .second, .val (.long (own_after ex ran)), .second, .unset, .unset, .unset, .unset] [(.long ex)])) (fun _ k => XS.lload X4.here hx rfl (hb hby at_135) rfl  k) ?_
      refine Rch.go (U' := T4.setTop (mkF m 139 #[.val (.long q1), .second, .val (.long q2), .second, .val (.int p3), .val (.long (9223372036854775807 : Int64)), .second, .val (.long ex), .second, .val (.int pk), .val (.long ran), .second, .val (.long (own_after ex ran)), .second, .unset, .unset, .unset, .unset] [(.long ran), (.long ex)])) (fun _ k => XS.lload X4.here hx rfl (hb hby at_137) rfl  k) ?_
      refine Rch.go (U' := T4.setTop (mkF m 140 #[.val (.long q1), .second, .val (.long q2), .second, .val (.int p3), .val (.long (9223372036854775807 : Int64)), .second, .val (.long ex), .second, .val (.int pk), .val (.long ran), .second, .val (.long (own_after ex ran)), .second, .unset, .unset, .unset, .unset] [(.long (ex - ran))])) (fun _ k => XS.lsub X4.here hx rfl (hb hby at_139) rfl k) ?_
      refine Rch.go (U' := T4.setTop (mkF m 142 #[.val (.long q1), .second, .val (.long q2), .second, .val (.int p3), .val (.long (9223372036854775807 : Int64)), .second, .val (.long ex), .second, .val (.int pk), .val (.long ran), .second, .val (.long (own_after ex ran)), .second, .val (.long (ex - ran)), .second, .unset, .unset] [])) (fun _ k => XS.lstore X4.here hx rfl (hb hby at_140) rfl (l' := #[.val (.long q1), .second, .val (.long q2), .second, .val (.int p3), .val (.long (9223372036854775807 : Int64)), .second, .val (.long ex), .second, .val (.int pk), .val (.long ran), .second, .val (.long (own_after ex ran)), .second, .val (.long (ex - ran)), .second, .unset, .unset]) rfl k) ?_
      refine Rch.go (U' := T4.setTop (mkF m 144 #[.val (.long q1), .second, .val (.long q2), .second, .val (.int p3), .val (.long (9223372036854775807 : Int64)), .second, .val (.long ex), .second, .val (.int pk), .val (.long ran), .second, .val (.long (own_after ex ran)), .second, .val (.long (ex - ran)), .second, .unset, .unset] [(.long ex)])) (fun _ k => XS.lload X4.here hx rfl (hb hby at_142) rfl  k) ?_
      refine Rch.go (U' := T4.setTop (mkF m 146 #[.val (.long q1), .second, .val (.long q2), .second, .val (.int p3), .val (.long (9223372036854775807 : Int64)), .second, .val (.long ex), .second, .val (.int pk), .val (.long ran), .second, .val (.long (own_after ex ran)), .second, .val (.long (ex - ran)), .second, .unset, .unset] [(.long (own_after ex ran)), (.long ex)])) (fun _ k => XS.lload X4.here hx rfl (hb hby at_144) rfl  k) ?_
      refine Rch.go (U' := T4.setTop (mkF m 147 #[.val (.long q1), .second, .val (.long q2), .second, .val (.int p3), .val (.long (9223372036854775807 : Int64)), .second, .val (.long ex), .second, .val (.int pk), .val (.long ran), .second, .val (.long (own_after ex ran)), .second, .val (.long (ex - ran)), .second, .unset, .unset] [(.long (ex - (own_after ex ran)))])) (fun _ k => XS.lsub X4.here hx rfl (hb hby at_146) rfl k) ?_
      refine Rch.go (U' := T4.setTop (mkF m 149 #[.val (.long q1), .second, .val (.long q2), .second, .val (.int p3), .val (.long (9223372036854775807 : Int64)), .second, .val (.long ex), .second, .val (.int pk), .val (.long ran), .second, .val (.long (own_after ex ran)), .second, .val (.long (ex - ran)), .second, .val (.long (ex - (own_after ex ran))), .second] [])) (fun _ k => XS.lstore X4.here hx rfl (hb hby at_147) rfl (l' := #[.val (.long q1), .second, .val (.long q2), .second, .val (.int p3), .val (.long (9223372036854775807 : Int64)), .second, .val (.long ex), .second, .val (.int pk), .val (.long ran), .second, .val (.long (own_after ex ran)), .second, .val (.long (ex - ran)), .second, .val (.long (ex - (own_after ex ran))), .second]) rfl k) ?_
      refine Rch.go (U' := T4.setTop (mkF m 151 #[.val (.long q1), .second, .val (.long q2), .second, .val (.int p3), .val (.long (9223372036854775807 : Int64)), .second, .val (.long ex), .second, .val (.int pk), .val (.long ran), .second, .val (.long (own_after ex ran)), .second, .val (.long (ex - ran)), .second, .val (.long (ex - (own_after ex ran))), .second] [(.long (ex - (own_after ex ran)))])) (fun _ k => XS.lload X4.here hx rfl (hb hby at_149) rfl  k) ?_
      refine Rch.go (U' := T4.setTop (mkF m 152 #[.val (.long q1), .second, .val (.long q2), .second, .val (.int p3), .val (.long (9223372036854775807 : Int64)), .second, .val (.long ex), .second, .val (.int pk), .val (.long ran), .second, .val (.long (own_after ex ran)), .second, .val (.long (ex - ran)), .second, .val (.long (ex - (own_after ex ran))), .second] [(.long (0 : Int64)), (.long (ex - (own_after ex ran)))])) (fun _ k => XS.lconst X4.here hx rfl (hb hby at_151) k) ?_
      refine Rch.go (U' := T4.setTop (mkF m 153 #[.val (.long q1), .second, .val (.long q2), .second, .val (.int p3), .val (.long (9223372036854775807 : Int64)), .second, .val (.long ex), .second, .val (.int pk), .val (.long ran), .second, .val (.long (own_after ex ran)), .second, .val (.long (ex - ran)), .second, .val (.long (ex - (own_after ex ran))), .second] [(.int (XT.cmpL (ex - (own_after ex ran)) (0 : Int64)))])) (fun _ k => XT.lcmp X4.here hx rfl (hb hby at_152) rfl k) ?_
      have br8 : ¬ ((ex - (own_after ex ran)) < (0 : Int64)) := (own_down ex ran he hr br5 br7).1
      refine Rch.go (U' := T4.setTop (mkF m 156 #[.val (.long q1), .second, .val (.long q2), .second, .val (.int p3), .val (.long (9223372036854775807 : Int64)), .second, .val (.long ex), .second, .val (.int pk), .val (.long ran), .second, .val (.long (own_after ex ran)), .second, .val (.long (ex - ran)), .second, .val (.long (ex - (own_after ex ran))), .second] [])) (fun _ k => XS.ifNo X4.here hx rfl (hb hby at_153) rfl (XT.ll_lt_f br8) k) ?_
      refine Rch.go (U' := T4.setTop (mkF m 158 #[.val (.long q1), .second, .val (.long q2), .second, .val (.int p3), .val (.long (9223372036854775807 : Int64)), .second, .val (.long ex), .second, .val (.int pk), .val (.long ran), .second, .val (.long (own_after ex ran)), .second, .val (.long (ex - ran)), .second, .val (.long (ex - (own_after ex ran))), .second] [(.long (ex - (own_after ex ran)))])) (fun _ k => XS.lload X4.here hx rfl (hb hby at_156) rfl  k) ?_
      refine Rch.go (U' := T4.setTop (mkF m 160 #[.val (.long q1), .second, .val (.long q2), .second, .val (.int p3), .val (.long (9223372036854775807 : Int64)), .second, .val (.long ex), .second, .val (.int pk), .val (.long ran), .second, .val (.long (own_after ex ran)), .second, .val (.long (ex - ran)), .second, .val (.long (ex - (own_after ex ran))), .second] [(.long (ex - ran)), (.long (ex - (own_after ex ran)))])) (fun _ k => XS.lload X4.here hx rfl (hb hby at_158) rfl  k) ?_
      refine Rch.go (U' := T4.setTop (mkF m 162 #[.val (.long q1), .second, .val (.long q2), .second, .val (.int p3), .val (.long (9223372036854775807 : Int64)), .second, .val (.long ex), .second, .val (.int pk), .val (.long ran), .second, .val (.long (own_after ex ran)), .second, .val (.long (ex - ran)), .second, .val (.long (ex - (own_after ex ran))), .second] [(.long (ex - (own_after ex ran))), (.long (ex - ran)), (.long (ex - (own_after ex ran)))])) (fun _ k => XS.lload X4.here hx rfl (hb hby at_160) rfl  k) ?_
      refine Rch.go (U' := T4.setTop (mkF m 163 #[.val (.long q1), .second, .val (.long q2), .second, .val (.int p3), .val (.long (9223372036854775807 : Int64)), .second, .val (.long ex), .second, .val (.int pk), .val (.long ran), .second, .val (.long (own_after ex ran)), .second, .val (.long (ex - ran)), .second, .val (.long (ex - (own_after ex ran))), .second] [(.long ((ex - ran) - (ex - (own_after ex ran)))), (.long (ex - (own_after ex ran)))])) (fun _ k => XS.lsub X4.here hx rfl (hb hby at_162) rfl k) ?_
      refine Rch.go (U' := T4.setTop (mkF m 164 #[.val (.long q1), .second, .val (.long q2), .second, .val (.int p3), .val (.long (9223372036854775807 : Int64)), .second, .val (.long ex), .second, .val (.int pk), .val (.long ran), .second, .val (.long (own_after ex ran)), .second, .val (.long (ex - ran)), .second, .val (.long (ex - (own_after ex ran))), .second] [(.int (XT.cmpL (ex - (own_after ex ran)) ((ex - ran) - (ex - (own_after ex ran)))))])) (fun _ k => XT.lcmp X4.here hx rfl (hb hby at_163) rfl k) ?_
      have br9 : ¬ (((ex - ran) - (ex - (own_after ex ran))) < (ex - (own_after ex ran))) := (own_down ex ran he hr br5 br7).2.1
      refine Rch.go (U' := T4.setTop (mkF m 167 #[.val (.long q1), .second, .val (.long q2), .second, .val (.int p3), .val (.long (9223372036854775807 : Int64)), .second, .val (.long ex), .second, .val (.int pk), .val (.long ran), .second, .val (.long (own_after ex ran)), .second, .val (.long (ex - ran)), .second, .val (.long (ex - (own_after ex ran))), .second] [])) (fun _ k => XS.ifNo X4.here hx rfl (hb hby at_164) rfl (XT.ll_gt_f br9) k) ?_
      refine Rch.go (U' := T4.setTop (mkF m 169 #[.val (.long q1), .second, .val (.long q2), .second, .val (.int p3), .val (.long (9223372036854775807 : Int64)), .second, .val (.long ex), .second, .val (.int pk), .val (.long ran), .second, .val (.long (own_after ex ran)), .second, .val (.long (ex - ran)), .second, .val (.long (ex - (own_after ex ran))), .second] [(.long (ex - ran))])) (fun _ k => XS.lload X4.here hx rfl (hb hby at_167) rfl  k) ?_
      refine Rch.go (U' := T4.setTop (mkF m 171 #[.val (.long q1), .second, .val (.long q2), .second, .val (.int p3), .val (.long (9223372036854775807 : Int64)), .second, .val (.long ex), .second, .val (.int pk), .val (.long ran), .second, .val (.long (own_after ex ran)), .second, .val (.long (ex - ran)), .second, .val (.long (ex - (own_after ex ran))), .second] [(.long (ex - (own_after ex ran))), (.long (ex - ran))])) (fun _ k => XS.lload X4.here hx rfl (hb hby at_169) rfl  k) ?_
      refine Rch.go (U' := T4.setTop (mkF m 172 #[.val (.long q1), .second, .val (.long q2), .second, .val (.int p3), .val (.long (9223372036854775807 : Int64)), .second, .val (.long ex), .second, .val (.int pk), .val (.long ran), .second, .val (.long (own_after ex ran)), .second, .val (.long (ex - ran)), .second, .val (.long (ex - (own_after ex ran))), .second] [(.long ((ex - ran) - (ex - (own_after ex ran))))])) (fun _ k => XS.lsub X4.here hx rfl (hb hby at_171) rfl k) ?_
      refine Rch.go (U' := T4.setTop (mkF m 174 #[.val (.long q1), .second, .val (.long q2), .second, .val (.int p3), .val (.long (9223372036854775807 : Int64)), .second, .val (.long ex), .second, .val (.int pk), .val (.long ran), .second, .val (.long (own_after ex ran)), .second, .val (.long (ex - ran)), .second, .val (.long (ex - (own_after ex ran))), .second] [(.long (ex - (own_after ex ran))), (.long ((ex - ran) - (ex - (own_after ex ran))))])) (fun _ k => XS.lload X4.here hx rfl (hb hby at_172) rfl  k) ?_
      refine Rch.go (U' := T4.setTop (mkF m 175 #[.val (.long q1), .second, .val (.long q2), .second, .val (.int p3), .val (.long (9223372036854775807 : Int64)), .second, .val (.long ex), .second, .val (.int pk), .val (.long ran), .second, .val (.long (own_after ex ran)), .second, .val (.long (ex - ran)), .second, .val (.long (ex - (own_after ex ran))), .second] [(.long (((ex - ran) - (ex - (own_after ex ran))) - (ex - (own_after ex ran))))])) (fun _ k => XS.lsub X4.here hx rfl (hb hby at_174) rfl k) ?_
      refine Rch.go (U' := T4.setTop (mkF m 176 #[.val (.long q1), .second, .val (.long q2), .second, .val (.int p3), .val (.long (9223372036854775807 : Int64)), .second, .val (.long ex), .second, .val (.int pk), .val (.long ran), .second, .val (.long (own_after ex ran)), .second, .val (.long (ex - ran)), .second, .val (.long (ex - (own_after ex ran))), .second] [(.long (1 : Int64)), (.long (((ex - ran) - (ex - (own_after ex ran))) - (ex - (own_after ex ran))))])) (fun _ k => XS.lconst X4.here hx rfl (hb hby at_175) k) ?_
      refine Rch.go (U' := T4.setTop (mkF m 177 #[.val (.long q1), .second, .val (.long q2), .second, .val (.int p3), .val (.long (9223372036854775807 : Int64)), .second, .val (.long ex), .second, .val (.int pk), .val (.long ran), .second, .val (.long (own_after ex ran)), .second, .val (.long (ex - ran)), .second, .val (.long (ex - (own_after ex ran))), .second] [(.int (XT.cmpL (((ex - ran) - (ex - (own_after ex ran))) - (ex - (own_after ex ran))) (1 : Int64)))])) (fun _ k => XT.lcmp X4.here hx rfl (hb hby at_176) rfl k) ?_
      have br10 : ¬ ((1 : Int64) < (((ex - ran) - (ex - (own_after ex ran))) - (ex - (own_after ex ran)))) := (own_down ex ran he hr br5 br7).2.2
      refine Rch.go (U' := T4.setTop (mkF m 180 #[.val (.long q1), .second, .val (.long q2), .second, .val (.int p3), .val (.long (9223372036854775807 : Int64)), .second, .val (.long ex), .second, .val (.int pk), .val (.long ran), .second, .val (.long (own_after ex ran)), .second, .val (.long (ex - ran)), .second, .val (.long (ex - (own_after ex ran))), .second] [])) (fun _ k => XS.ifNo X4.here hx rfl (hb hby at_177) rfl (XT.ll_gt_f br10) k) ?_
      refine Rch.go (U' := T4.setTop (mkF m 181 #[.val (.long q1), .second, .val (.long q2), .second, .val (.int p3), .val (.long (9223372036854775807 : Int64)), .second, .val (.long ex), .second, .val (.int pk), .val (.long ran), .second, .val (.long (own_after ex ran)), .second, .val (.long (ex - ran)), .second, .val (.long (ex - (own_after ex ran))), .second] [(.int (1 : Int32))])) (fun _ k => XS.iconst X4.here hx rfl (hb hby at_180) k) ?_
      refine Rch.go (U' := T4.setTop (mkF m 185 #[.val (.long q1), .second, .val (.long q2), .second, .val (.int p3), .val (.long (9223372036854775807 : Int64)), .second, .val (.long ex), .second, .val (.int pk), .val (.long ran), .second, .val (.long (own_after ex ran)), .second, .val (.long (ex - ran)), .second, .val (.long (ex - (own_after ex ran))), .second] [(.int (1 : Int32))])) (fun _ k => XS.goto X4.here hx rfl (pc0 := 181) (pc' := 185) rfl (hb hby at_181) (by decide) (by decide) k) ?_
      refine Rch.fin X4 hlk (v := some (.int (nar .boolean (1 : Int32)))) (fun h => by rw [hret] at h; cases h) e4 (by decide) (by decide) (fun fs hr => retN X4 hx (t := .boolean) hret (by simp) (hb hby at_185) hr) ?_
      exact ⟨rfl, N4⟩
    ·
      refine Rch.go (U' := T4.setTop (mkF m 186 #[.val (.long q1), .second, .val (.long q2), .second, .val (.int p3), .val (.long (9223372036854775807 : Int64)), .second, .val (.long ex), .second, .val (.int pk), .val (.long ran), .second, .val (.long (own_after ex ran)), .second, .unset, .unset, .unset, .unset] [])) (fun _ k => XS.ifYes X4.here hx rfl (pc0 := 132) (pc' := 186) rfl (hb hby at_132) rfl (XT.ll_ge_t br7) (by decide) (by decide) k) ?_
      refine Rch.go (U' := T4.setTop (mkF m 188 #[.val (.long q1), .second, .val (.long q2), .second, .val (.int p3), .val (.long (9223372036854775807 : Int64)), .second, .val (.long ex), .second, .val (.int pk), .val (.long ran), .second, .val (.long (own_after ex ran)), .second, .unset, .unset, .unset, .unset] [(.long ran)])) (fun _ k => XS.lload X4.here hx rfl (hb hby at_186) rfl  k) ?_
      refine Rch.go (U' := T4.setTop (mkF m 190 #[.val (.long q1), .second, .val (.long q2), .second, .val (.int p3), .val (.long (9223372036854775807 : Int64)), .second, .val (.long ex), .second, .val (.int pk), .val (.long ran), .second, .val (.long (own_after ex ran)), .second, .unset, .unset, .unset, .unset] [(.long ex), (.long ran)])) (fun _ k => XS.lload X4.here hx rfl (hb hby at_188) rfl  k) ?_
      refine Rch.go (U' := T4.setTop (mkF m 191 #[.val (.long q1), .second, .val (.long q2), .second, .val (.int p3), .val (.long (9223372036854775807 : Int64)), .second, .val (.long ex), .second, .val (.int pk), .val (.long ran), .second, .val (.long (own_after ex ran)), .second, .unset, .unset, .unset, .unset] [(.long (ran - ex))])) (fun _ k => XS.lsub X4.here hx rfl (hb hby at_190) rfl k) ?_
      refine Rch.go (U' := T4.setTop (mkF m 193 #[.val (.long q1), .second, .val (.long q2), .second, .val (.int p3), .val (.long (9223372036854775807 : Int64)), .second, .val (.long ex), .second, .val (.int pk), .val (.long ran), .second, .val (.long (own_after ex ran)), .second, .val (.long (ran - ex)), .second, .unset, .unset] [])) (fun _ k => XS.lstore X4.here hx rfl (hb hby at_191) rfl (l' := #[.val (.long q1), .second, .val (.long q2), .second, .val (.int p3), .val (.long (9223372036854775807 : Int64)), .second, .val (.long ex), .second, .val (.int pk), .val (.long ran), .second, .val (.long (own_after ex ran)), .second, .val (.long (ran - ex)), .second, .unset, .unset]) rfl k) ?_
      refine Rch.go (U' := T4.setTop (mkF m 195 #[.val (.long q1), .second, .val (.long q2), .second, .val (.int p3), .val (.long (9223372036854775807 : Int64)), .second, .val (.long ex), .second, .val (.int pk), .val (.long ran), .second, .val (.long (own_after ex ran)), .second, .val (.long (ran - ex)), .second, .unset, .unset] [(.long (own_after ex ran))])) (fun _ k => XS.lload X4.here hx rfl (hb hby at_193) rfl  k) ?_
      refine Rch.go (U' := T4.setTop (mkF m 197 #[.val (.long q1), .second, .val (.long q2), .second, .val (.int p3), .val (.long (9223372036854775807 : Int64)), .second, .val (.long ex), .second, .val (.int pk), .val (.long ran), .second, .val (.long (own_after ex ran)), .second, .val (.long (ran - ex)), .second, .unset, .unset] [(.long ex), (.long (own_after ex ran))])) (fun _ k => XS.lload X4.here hx rfl (hb hby at_195) rfl  k) ?_
      refine Rch.go (U' := T4.setTop (mkF m 198 #[.val (.long q1), .second, .val (.long q2), .second, .val (.int p3), .val (.long (9223372036854775807 : Int64)), .second, .val (.long ex), .second, .val (.int pk), .val (.long ran), .second, .val (.long (own_after ex ran)), .second, .val (.long (ran - ex)), .second, .unset, .unset] [(.long ((own_after ex ran) - ex))])) (fun _ k => XS.lsub X4.here hx rfl (hb hby at_197) rfl k) ?_
      refine Rch.go (U' := T4.setTop (mkF m 200 #[.val (.long q1), .second, .val (.long q2), .second, .val (.int p3), .val (.long (9223372036854775807 : Int64)), .second, .val (.long ex), .second, .val (.int pk), .val (.long ran), .second, .val (.long (own_after ex ran)), .second, .val (.long (ran - ex)), .second, .val (.long ((own_after ex ran) - ex)), .second] [])) (fun _ k => XS.lstore X4.here hx rfl (hb hby at_198) rfl (l' := #[.val (.long q1), .second, .val (.long q2), .second, .val (.int p3), .val (.long (9223372036854775807 : Int64)), .second, .val (.long ex), .second, .val (.int pk), .val (.long ran), .second, .val (.long (own_after ex ran)), .second, .val (.long (ran - ex)), .second, .val (.long ((own_after ex ran) - ex)), .second]) rfl k) ?_
      refine Rch.go (U' := T4.setTop (mkF m 202 #[.val (.long q1), .second, .val (.long q2), .second, .val (.int p3), .val (.long (9223372036854775807 : Int64)), .second, .val (.long ex), .second, .val (.int pk), .val (.long ran), .second, .val (.long (own_after ex ran)), .second, .val (.long (ran - ex)), .second, .val (.long ((own_after ex ran) - ex)), .second] [(.long ((own_after ex ran) - ex))])) (fun _ k => XS.lload X4.here hx rfl (hb hby at_200) rfl  k) ?_
      refine Rch.go (U' := T4.setTop (mkF m 203 #[.val (.long q1), .second, .val (.long q2), .second, .val (.int p3), .val (.long (9223372036854775807 : Int64)), .second, .val (.long ex), .second, .val (.int pk), .val (.long ran), .second, .val (.long (own_after ex ran)), .second, .val (.long (ran - ex)), .second, .val (.long ((own_after ex ran) - ex)), .second] [(.long (0 : Int64)), (.long ((own_after ex ran) - ex))])) (fun _ k => XS.lconst X4.here hx rfl (hb hby at_202) k) ?_
      refine Rch.go (U' := T4.setTop (mkF m 204 #[.val (.long q1), .second, .val (.long q2), .second, .val (.int p3), .val (.long (9223372036854775807 : Int64)), .second, .val (.long ex), .second, .val (.int pk), .val (.long ran), .second, .val (.long (own_after ex ran)), .second, .val (.long (ran - ex)), .second, .val (.long ((own_after ex ran) - ex)), .second] [(.int (XT.cmpL ((own_after ex ran) - ex) (0 : Int64)))])) (fun _ k => XT.lcmp X4.here hx rfl (hb hby at_203) rfl k) ?_
      have br11 : ¬ (((own_after ex ran) - ex) < (0 : Int64)) := (own_up ex ran he hr br5 br7).1
      refine Rch.go (U' := T4.setTop (mkF m 207 #[.val (.long q1), .second, .val (.long q2), .second, .val (.int p3), .val (.long (9223372036854775807 : Int64)), .second, .val (.long ex), .second, .val (.int pk), .val (.long ran), .second, .val (.long (own_after ex ran)), .second, .val (.long (ran - ex)), .second, .val (.long ((own_after ex ran) - ex)), .second] [])) (fun _ k => XS.ifNo X4.here hx rfl (hb hby at_204) rfl (XT.ll_lt_f br11) k) ?_
      refine Rch.go (U' := T4.setTop (mkF m 209 #[.val (.long q1), .second, .val (.long q2), .second, .val (.int p3), .val (.long (9223372036854775807 : Int64)), .second, .val (.long ex), .second, .val (.int pk), .val (.long ran), .second, .val (.long (own_after ex ran)), .second, .val (.long (ran - ex)), .second, .val (.long ((own_after ex ran) - ex)), .second] [(.long ((own_after ex ran) - ex))])) (fun _ k => XS.lload X4.here hx rfl (hb hby at_207) rfl  k) ?_
      refine Rch.go (U' := T4.setTop (mkF m 211 #[.val (.long q1), .second, .val (.long q2), .second, .val (.int p3), .val (.long (9223372036854775807 : Int64)), .second, .val (.long ex), .second, .val (.int pk), .val (.long ran), .second, .val (.long (own_after ex ran)), .second, .val (.long (ran - ex)), .second, .val (.long ((own_after ex ran) - ex)), .second] [(.long (9223372036854775807 : Int64)), (.long ((own_after ex ran) - ex))])) (fun _ k => XS.lload X4.here hx rfl (hb hby at_209) rfl  k) ?_
      refine Rch.go (U' := T4.setTop (mkF m 212 #[.val (.long q1), .second, .val (.long q2), .second, .val (.int p3), .val (.long (9223372036854775807 : Int64)), .second, .val (.long ex), .second, .val (.int pk), .val (.long ran), .second, .val (.long (own_after ex ran)), .second, .val (.long (ran - ex)), .second, .val (.long ((own_after ex ran) - ex)), .second] [(.int (3 : Int32)), (.long (9223372036854775807 : Int64)), (.long ((own_after ex ran) - ex))])) (fun _ k => XS.iconst X4.here hx rfl (hb hby at_211) k) ?_
      refine Rch.go (U' := T4.setTop (mkF m 213 #[.val (.long q1), .second, .val (.long q2), .second, .val (.int p3), .val (.long (9223372036854775807 : Int64)), .second, .val (.long ex), .second, .val (.int pk), .val (.long ran), .second, .val (.long (own_after ex ran)), .second, .val (.long (ran - ex)), .second, .val (.long ((own_after ex ran) - ex)), .second] [(.long ((9223372036854775807 : Int64) >>> ((3 : Int32) &&& 0x3f).toInt64)), (.long ((own_after ex ran) - ex))])) (fun _ k => XS.lshr X4.here hx rfl (hb hby at_212) rfl k) ?_
      rw [(by decide : ((9223372036854775807 : Int64) >>> ((3 : Int32) &&& 0x3f).toInt64) = (1152921504606846975 : Int64))]
      refine Rch.go (U' := T4.setTop (mkF m 214 #[.val (.long q1), .second, .val (.long q2), .second, .val (.int p3), .val (.long (9223372036854775807 : Int64)), .second, .val (.long ex), .second, .val (.int pk), .val (.long ran), .second, .val (.long (own_after ex ran)), .second, .val (.long (ran - ex)), .second, .val (.long ((own_after ex ran) - ex)), .second] [(.int (XT.cmpL ((own_after ex ran) - ex) (1152921504606846975 : Int64)))])) (fun _ k => XT.lcmp X4.here hx rfl (hb hby at_213) rfl k) ?_
      have br12 : ¬ ((1152921504606846975 : Int64) < ((own_after ex ran) - ex)) := (own_up ex ran he hr br5 br7).2.1
      refine Rch.go (U' := T4.setTop (mkF m 217 #[.val (.long q1), .second, .val (.long q2), .second, .val (.int p3), .val (.long (9223372036854775807 : Int64)), .second, .val (.long ex), .second, .val (.int pk), .val (.long ran), .second, .val (.long (own_after ex ran)), .second, .val (.long (ran - ex)), .second, .val (.long ((own_after ex ran) - ex)), .second] [])) (fun _ k => XS.ifNo X4.here hx rfl (hb hby at_214) rfl (XT.ll_gt_f br12) k) ?_
      refine Rch.go (U' := T4.setTop (mkF m 220 #[.val (.long q1), .second, .val (.long q2), .second, .val (.int p3), .val (.long (9223372036854775807 : Int64)), .second, .val (.long ex), .second, .val (.int pk), .val (.long ran), .second, .val (.long (own_after ex ran)), .second, .val (.long (ran - ex)), .second, .val (.long ((own_after ex ran) - ex)), .second] [(.long (8 : Int64))])) (fun _ k => X4.ldc2Long hx hown (mvT hZ (wi hw 12 rfl)) (g := (mkF m 217 #[.val (.long q1), .second, .val (.long q2), .second, .val (.int p3), .val (.long (9223372036854775807 : Int64)), .second, .val (.long ex), .second, .val (.int pk), .val (.long ran), .second, .val (.long (own_after ex ran)), .second, .val (.long (ran - ex)), .second, .val (.long ((own_after ex ran) - ex)), .second] [])) rfl (hb hby at_217) _ k) ?_
      refine Rch.go (U' := T4.setTop (mkF m 222 #[.val (.long q1), .second, .val (.long q2), .second, .val (.int p3), .val (.long (9223372036854775807 : Int64)), .second, .val (.long ex), .second, .val (.int pk), .val (.long ran), .second, .val (.long (own_after ex ran)), .second, .val (.long (ran - ex)), .second, .val (.long ((own_after ex ran) - ex)), .second] [(.long ((own_after ex ran) - ex)), (.long (8 : Int64))])) (fun _ k => XS.lload X4.here hx rfl (hb hby at_220) rfl  k) ?_
      refine Rch.go (U' := T4.setTop (mkF m 223 #[.val (.long q1), .second, .val (.long q2), .second, .val (.int p3), .val (.long (9223372036854775807 : Int64)), .second, .val (.long ex), .second, .val (.int pk), .val (.long ran), .second, .val (.long (own_after ex ran)), .second, .val (.long (ran - ex)), .second, .val (.long ((own_after ex ran) - ex)), .second] [(.long ((8 : Int64) * ((own_after ex ran) - ex)))])) (fun _ k => XS.lmul X4.here hx rfl (hb hby at_222) rfl k) ?_
      refine Rch.go (U' := T4.setTop (mkF m 225 #[.val (.long q1), .second, .val (.long q2), .second, .val (.int p3), .val (.long (9223372036854775807 : Int64)), .second, .val (.long ex), .second, .val (.int pk), .val (.long ran), .second, .val (.long (own_after ex ran)), .second, .val (.long (ran - ex)), .second, .val (.long ((own_after ex ran) - ex)), .second] [(.long (ran - ex)), (.long ((8 : Int64) * ((own_after ex ran) - ex)))])) (fun _ k => XS.lload X4.here hx rfl (hb hby at_223) rfl  k) ?_
      refine Rch.go (U' := T4.setTop (mkF m 226 #[.val (.long q1), .second, .val (.long q2), .second, .val (.int p3), .val (.long (9223372036854775807 : Int64)), .second, .val (.long ex), .second, .val (.int pk), .val (.long ran), .second, .val (.long (own_after ex ran)), .second, .val (.long (ran - ex)), .second, .val (.long ((own_after ex ran) - ex)), .second] [(.int (XT.cmpL ((8 : Int64) * ((own_after ex ran) - ex)) (ran - ex)))])) (fun _ k => XT.lcmp X4.here hx rfl (hb hby at_225) rfl k) ?_
      have br13 : ¬ ((ran - ex) < ((8 : Int64) * ((own_after ex ran) - ex))) := (own_up ex ran he hr br5 br7).2.2.1
      refine Rch.go (U' := T4.setTop (mkF m 229 #[.val (.long q1), .second, .val (.long q2), .second, .val (.int p3), .val (.long (9223372036854775807 : Int64)), .second, .val (.long ex), .second, .val (.int pk), .val (.long ran), .second, .val (.long (own_after ex ran)), .second, .val (.long (ran - ex)), .second, .val (.long ((own_after ex ran) - ex)), .second] [])) (fun _ k => XS.ifNo X4.here hx rfl (hb hby at_226) rfl (XT.ll_gt_f br13) k) ?_
      refine Rch.go (U' := T4.setTop (mkF m 231 #[.val (.long q1), .second, .val (.long q2), .second, .val (.int p3), .val (.long (9223372036854775807 : Int64)), .second, .val (.long ex), .second, .val (.int pk), .val (.long ran), .second, .val (.long (own_after ex ran)), .second, .val (.long (ran - ex)), .second, .val (.long ((own_after ex ran) - ex)), .second] [(.long (ran - ex))])) (fun _ k => XS.lload X4.here hx rfl (hb hby at_229) rfl  k) ?_
      refine Rch.go (U' := T4.setTop (mkF m 234 #[.val (.long q1), .second, .val (.long q2), .second, .val (.int p3), .val (.long (9223372036854775807 : Int64)), .second, .val (.long ex), .second, .val (.int pk), .val (.long ran), .second, .val (.long (own_after ex ran)), .second, .val (.long (ran - ex)), .second, .val (.long ((own_after ex ran) - ex)), .second] [(.long (8 : Int64)), (.long (ran - ex))])) (fun _ k => X4.ldc2Long hx hown (mvT hZ (wi hw 12 rfl)) (g := (mkF m 231 #[.val (.long q1), .second, .val (.long q2), .second, .val (.int p3), .val (.long (9223372036854775807 : Int64)), .second, .val (.long ex), .second, .val (.int pk), .val (.long ran), .second, .val (.long (own_after ex ran)), .second, .val (.long (ran - ex)), .second, .val (.long ((own_after ex ran) - ex)), .second] [(.long (ran - ex))])) rfl (hb hby at_231) _ k) ?_
      refine Rch.go (U' := T4.setTop (mkF m 236 #[.val (.long q1), .second, .val (.long q2), .second, .val (.int p3), .val (.long (9223372036854775807 : Int64)), .second, .val (.long ex), .second, .val (.int pk), .val (.long ran), .second, .val (.long (own_after ex ran)), .second, .val (.long (ran - ex)), .second, .val (.long ((own_after ex ran) - ex)), .second] [(.long ((own_after ex ran) - ex)), (.long (8 : Int64)), (.long (ran - ex))])) (fun _ k => XS.lload X4.here hx rfl (hb hby at_234) rfl  k) ?_
      refine Rch.go (U' := T4.setTop (mkF m 237 #[.val (.long q1), .second, .val (.long q2), .second, .val (.int p3), .val (.long (9223372036854775807 : Int64)), .second, .val (.long ex), .second, .val (.int pk), .val (.long ran), .second, .val (.long (own_after ex ran)), .second, .val (.long (ran - ex)), .second, .val (.long ((own_after ex ran) - ex)), .second] [(.long ((8 : Int64) * ((own_after ex ran) - ex))), (.long (ran - ex))])) (fun _ k => XS.lmul X4.here hx rfl (hb hby at_236) rfl k) ?_
      refine Rch.go (U' := T4.setTop (mkF m 238 #[.val (.long q1), .second, .val (.long q2), .second, .val (.int p3), .val (.long (9223372036854775807 : Int64)), .second, .val (.long ex), .second, .val (.int pk), .val (.long ran), .second, .val (.long (own_after ex ran)), .second, .val (.long (ran - ex)), .second, .val (.long ((own_after ex ran) - ex)), .second] [(.long ((ran - ex) - ((8 : Int64) * ((own_after ex ran) - ex))))])) (fun _ k => XS.lsub X4.here hx rfl (hb hby at_237) rfl k) ?_
      refine Rch.go (U' := T4.setTop (mkF m 241 #[.val (.long q1), .second, .val (.long q2), .second, .val (.int p3), .val (.long (9223372036854775807 : Int64)), .second, .val (.long ex), .second, .val (.int pk), .val (.long ran), .second, .val (.long (own_after ex ran)), .second, .val (.long (ran - ex)), .second, .val (.long ((own_after ex ran) - ex)), .second] [(.long (7 : Int64)), (.long ((ran - ex) - ((8 : Int64) * ((own_after ex ran) - ex))))])) (fun _ k => X4.ldc2Long hx hown (mvT hZ (wi hw 13 rfl)) (g := (mkF m 238 #[.val (.long q1), .second, .val (.long q2), .second, .val (.int p3), .val (.long (9223372036854775807 : Int64)), .second, .val (.long ex), .second, .val (.int pk), .val (.long ran), .second, .val (.long (own_after ex ran)), .second, .val (.long (ran - ex)), .second, .val (.long ((own_after ex ran) - ex)), .second] [(.long ((ran - ex) - ((8 : Int64) * ((own_after ex ran) - ex))))])) rfl (hb hby at_238) _ k) ?_
      refine Rch.go (U' := T4.setTop (mkF m 242 #[.val (.long q1), .second, .val (.long q2), .second, .val (.int p3), .val (.long (9223372036854775807 : Int64)), .second, .val (.long ex), .second, .val (.int pk), .val (.long ran), .second, .val (.long (own_after ex ran)), .second, .val (.long (ran - ex)), .second, .val (.long ((own_after ex ran) - ex)), .second] [(.int (XT.cmpL ((ran - ex) - ((8 : Int64) * ((own_after ex ran) - ex))) (7 : Int64)))])) (fun _ k => XT.lcmp X4.here hx rfl (hb hby at_241) rfl k) ?_
      have br14 : ¬ ((7 : Int64) < ((ran - ex) - ((8 : Int64) * ((own_after ex ran) - ex)))) := (own_up ex ran he hr br5 br7).2.2.2
      refine Rch.go (U' := T4.setTop (mkF m 245 #[.val (.long q1), .second, .val (.long q2), .second, .val (.int p3), .val (.long (9223372036854775807 : Int64)), .second, .val (.long ex), .second, .val (.int pk), .val (.long ran), .second, .val (.long (own_after ex ran)), .second, .val (.long (ran - ex)), .second, .val (.long ((own_after ex ran) - ex)), .second] [])) (fun _ k => XS.ifNo X4.here hx rfl (hb hby at_242) rfl (XT.ll_gt_f br14) k) ?_
      refine Rch.go (U' := T4.setTop (mkF m 246 #[.val (.long q1), .second, .val (.long q2), .second, .val (.int p3), .val (.long (9223372036854775807 : Int64)), .second, .val (.long ex), .second, .val (.int pk), .val (.long ran), .second, .val (.long (own_after ex ran)), .second, .val (.long (ran - ex)), .second, .val (.long ((own_after ex ran) - ex)), .second] [(.int (1 : Int32))])) (fun _ k => XS.iconst X4.here hx rfl (hb hby at_245) k) ?_
      refine Rch.go (U' := T4.setTop (mkF m 250 #[.val (.long q1), .second, .val (.long q2), .second, .val (.int p3), .val (.long (9223372036854775807 : Int64)), .second, .val (.long ex), .second, .val (.int pk), .val (.long ran), .second, .val (.long (own_after ex ran)), .second, .val (.long (ran - ex)), .second, .val (.long ((own_after ex ran) - ex)), .second] [(.int (1 : Int32))])) (fun _ k => XS.goto X4.here hx rfl (pc0 := 246) (pc' := 250) rfl (hb hby at_246) (by decide) (by decide) k) ?_
      refine Rch.fin X4 hlk (v := some (.int (nar .boolean (1 : Int32)))) (fun h => by rw [hret] at h; cases h) e4 (by decide) (by decide) (fun fs hr => retN X4 hx (t := .boolean) hret (by simp) (hb hby at_250) hr) ?_
      exact ⟨rfl, N4⟩
set_option maxRecDepth 65536 in
set_option maxHeartbeats 40000000 in
theorem cut22 {p : Program} {l : Launch} {e : Env} {s : State} {m : MethodId} {args : Array Value} {below : List Frame} {meth : Method} {c : Code} {T0 : State} {locs : List Loc} {Z : State} {a0 : Array Value} {h0 : Heap} {n0 : Nat}  (q1 : Int64) (q2 : Int64) (p3 : Int32) (ex : Int64)
    (X0 : Stand p l e room_1 s m args below meth c T0 locs 0 0) (hx : p.tables.exec = Jvm.exec) (hZ : Z.Warmed39 s.vm) (hw : ∀ d ∈ tables_1, d.before a0 Z = true) (hby : c.code = code) (hml : c.maxLocals = 18) (hown : s.vm.findClass "com/example/interlock/interlock/engine/AdmissionExpectedAfterPinLaw" = some m.cls) (hret : meth.sig.returnType = some .boolean) (hlk : meth.locks = false) (e0 : T0.heap = h0) (N0 : Fr n0 locs) (Z0 : n0 ≤ h0.size) (he : 0 ≤ ex.toInt) :
    Rch p e below (Fin s below (fun v h L => v = some (.int 1) ∧ Fr n0 L) 0 0) (T0.setTop (mkF m 22 #[.val (.long q1), .second, .val (.long q2), .second, .val (.int p3), .val (.long (9223372036854775807 : Int64)), .second, .val (.long ex), .second, .unset, .unset, .unset, .unset, .unset, .unset, .unset, .unset, .unset] [])) := by
  refine Rch.go (U' := T0.setTop (mkF m 24 #[.val (.long q1), .second, .val (.long q2), .second, .val (.int p3), .val (.long (9223372036854775807 : Int64)), .second, .val (.long ex), .second, .unset, .unset, .unset, .unset, .unset, .unset, .unset, .unset, .unset] [(.int p3)])) (fun _ k => XS.iload X0.here hx rfl (hb hby at_22) rfl  k) ?_
  refine Rch.go (U' := T0.setTop (mkF m 25 #[.val (.long q1), .second, .val (.long q2), .second, .val (.int p3), .val (.long (9223372036854775807 : Int64)), .second, .val (.long ex), .second, .unset, .unset, .unset, .unset, .unset, .unset, .unset, .unset, .unset] [(.int (2 : Int32)), (.int p3)])) (fun _ k => XS.iconst X0.here hx rfl (hb hby at_24) k) ?_
  refine Rch.go (U' := T0.setTop (mkF m 26 #[.val (.long q1), .second, .val (.long q2), .second, .val (.int p3), .val (.long (9223372036854775807 : Int64)), .second, .val (.long ex), .second, .unset, .unset, .unset, .unset, .unset, .unset, .unset, .unset, .unset] [(.int ((p3).toUInt32 >>> ((2 : Int32) &&& 31).toUInt32).toInt32)])) (fun _ k => XS.iushr X0.here hx rfl (hb hby at_25) rfl k) ?_
  refine Rch.go (U' := T0.setTop (mkF m 27 #[.val (.long q1), .second, .val (.long q2), .second, .val (.int p3), .val (.long (9223372036854775807 : Int64)), .second, .val (.long ex), .second, .unset, .unset, .unset, .unset, .unset, .unset, .unset, .unset, .unset] [(.int (3 : Int32)), (.int ((p3).toUInt32 >>> ((2 : Int32) &&& 31).toUInt32).toInt32)])) (fun _ k => XS.iconst X0.here hx rfl (hb hby at_26) k) ?_
  refine Rch.go (U' := T0.setTop (mkF m 28 #[.val (.long q1), .second, .val (.long q2), .second, .val (.int p3), .val (.long (9223372036854775807 : Int64)), .second, .val (.long ex), .second, .unset, .unset, .unset, .unset, .unset, .unset, .unset, .unset, .unset] [(.int (((p3).toUInt32 >>> ((2 : Int32) &&& 31).toUInt32).toInt32 &&& (3 : Int32)))])) (fun _ k => XS.iand X0.here hx rfl (hb hby at_27) rfl k) ?_
  generalize hpk : (((p3).toUInt32 >>> ((2 : Int32) &&& 31).toUInt32).toInt32 &&& (3 : Int32)) = pk
  refine Rch.go (U' := T0.setTop (mkF m 30 #[.val (.long q1), .second, .val (.long q2), .second, .val (.int p3), .val (.long (9223372036854775807 : Int64)), .second, .val (.long ex), .second, .val (.int pk), .unset, .unset, .unset, .unset, .unset, .unset, .unset, .unset] [])) (fun _ k => XS.istore X0.here hx rfl (hb hby at_28) rfl (l' := #[.val (.long q1), .second, .val (.long q2), .second, .val (.int p3), .val (.long (9223372036854775807 : Int64)), .second, .val (.long ex), .second, .val (.int pk), .unset, .unset, .unset, .unset, .unset, .unset, .unset, .unset]) rfl k) ?_
  refine Rch.go (U' := T0.setTop (mkF m 32 #[.val (.long q1), .second, .val (.long q2), .second, .val (.int p3), .val (.long (9223372036854775807 : Int64)), .second, .val (.long ex), .second, .val (.int pk), .unset, .unset, .unset, .unset, .unset, .unset, .unset, .unset] [(.int pk)])) (fun _ k => XS.iload X0.here hx rfl (hb hby at_30) rfl  k) ?_
  refine Rch.go (U' := T0.setTop (mkF m 33 #[.val (.long q1), .second, .val (.long q2), .second, .val (.int p3), .val (.long (9223372036854775807 : Int64)), .second, .val (.long ex), .second, .val (.int pk), .unset, .unset, .unset, .unset, .unset, .unset, .unset, .unset] [(.int (1 : Int32)), (.int pk)])) (fun _ k => XS.iconst X0.here hx rfl (hb hby at_32) k) ?_
  by_cases br15 : pk = (1 : Int32)
  ·
    refine Rch.go (U' := T0.setTop (mkF m 36 #[.val (.long q1), .second, .val (.long q2), .second, .val (.int p3), .val (.long (9223372036854775807 : Int64)), .second, .val (.long ex), .second, .val (.int pk), .unset, .unset, .unset, .unset, .unset, .unset, .unset, .unset] [])) (fun _ k => XS.icmpNo X0.here hx rfl (hb hby at_33) rfl (XT.ii_ne_f br15) k) ?_
    refine Rch.go (U' := T0.setTop (mkF m 37 #[.val (.long q1), .second, .val (.long q2), .second, .val (.int p3), .val (.long (9223372036854775807 : Int64)), .second, .val (.long ex), .second, .val (.int pk), .unset, .unset, .unset, .unset, .unset, .unset, .unset, .unset] [(.long (0 : Int64))])) (fun _ k => XS.lconst X0.here hx rfl (hb hby at_36) k) ?_
    refine Rch.go (U' := T0.setTop (mkF m 39 #[.val (.long q1), .second, .val (.long q2), .second, .val (.int p3), .val (.long (9223372036854775807 : Int64)), .second, .val (.long ex), .second, .val (.int pk), .unset, .unset, .unset, .unset, .unset, .unset, .unset, .unset] [(.long ex), (.long (0 : Int64))])) (fun _ k => XS.lload X0.here hx rfl (hb hby at_37) rfl  k) ?_
    refine Rch.go (U' := T0.setTop (mkF m 40 #[.val (.long q1), .second, .val (.long q2), .second, .val (.int p3), .val (.long (9223372036854775807 : Int64)), .second, .val (.long ex), .second, .val (.int pk), .unset, .unset, .unset, .unset, .unset, .unset, .unset, .unset] [(.long q2), (.long ex), (.long (0 : Int64))])) (fun _ k => XS.lloadN X0.here hx rfl (hb hby at_39) rfl  k) ?_
    refine Rch.go (U' := T0.setTop (mkF m 43 #[.val (.long q1), .second, .val (.long q2), .second, .val (.int p3), .val (.long (9223372036854775807 : Int64)), .second, .val (.long ex), .second, .val (.int pk), .unset, .unset, .unset, .unset, .unset, .unset, .unset, .unset] [(.long (15 : Int64)), (.long q2), (.long ex), (.long (0 : Int64))])) (fun _ k => X0.ldc2Long hx hown (mvT hZ (wi hw 5 rfl)) (g := (mkF m 40 #[.val (.long q1), .second, .val (.long q2), .second, .val (.int p3), .val (.long (9223372036854775807 : Int64)), .second, .val (.long ex), .second, .val (.int pk), .unset, .unset, .unset, .unset, .unset, .unset, .unset, .unset] [(.long q2), (.long ex), (.long (0 : Int64))])) rfl (hb hby at_40) _ k) ?_
    refine Rch.go (U' := T0.setTop (mkF m 44 #[.val (.long q1), .second, .val (.long q2), .second, .val (.int p3), .val (.long (9223372036854775807 : Int64)), .second, .val (.long ex), .second, .val (.int pk), .unset, .unset, .unset, .unset, .unset, .unset, .unset, .unset] [(.long (q2 &&& (15 : Int64))), (.long ex), (.long (0 : Int64))])) (fun _ k => XS.land X0.here hx rfl (hb hby at_43) rfl k) ?_
    refine Rch.go (U' := T0.setTop (mkF m 45 #[.val (.long q1), .second, .val (.long q2), .second, .val (.int p3), .val (.long (9223372036854775807 : Int64)), .second, .val (.long ex), .second, .val (.int pk), .unset, .unset, .unset, .unset, .unset, .unset, .unset, .unset] [(.long (ex - (q2 &&& (15 : Int64)))), (.long (0 : Int64))])) (fun _ k => XS.lsub X0.here hx rfl (hb hby at_44) rfl k) ?_
    obtain ⟨_, _, ⟨T16, L16, k16, n16⟩, -, X16, ⟨Lc16, hQ16, l16, y16, z16⟩, st16⟩ := Jvm.LawKit.callS X0 hx (y := (⟨"java/lang/Math", "max", "(JJ)J"⟩ : MethodName)) hown (mvT hZ (wi hw 6 rfl)) (mvT hZ (wi hw 7 rfl)) (mvT hZ (wi hw 8 rfl)) (mvT hZ (wi hw 9 rfl)) (by decide) (backOf (W := 0) (rmM l Z a0 hw [] (0 : Int64) (ex - (q2 &&& (15 : Int64))) h0 n0 Z0 ) hZ (wi hw 9 rfl) (wi hw 8 rfl) (by decide) (by decide)) (g := (mkF m 45 #[.val (.long q1), .second, .val (.long q2), .second, .val (.int p3), .val (.long (9223372036854775807 : Int64)), .second, .val (.long ex), .second, .val (.int pk), .unset, .unset, .unset, .unset, .unset, .unset, .unset, .unset] [(.long (ex - (q2 &&& (15 : Int64)))), (.long (0 : Int64))])) rfl (by rw [hml]; rfl) (argsL := [(.long (0 : Int64)), (.long (ex - (q2 &&& (15 : Int64))))]) (rest := []) (lenOf pd_2 rfl) rfl (by show 2 * 0 + _ ≤ _; exact Nat.le_of_eq rfl) (hb hby at_45) (fun _ _ => ⟨rfl, e0, (by decide : 0 + 0 ≤ _), (by decide : 0 + 0 ≤ _)⟩)
    dsimp only [Pt.U, Pt.locs, Pt.cells, Pt.slots] at X16 l16 y16 z16 st16 hQ16
    subst l16 y16 z16
    obtain ⟨rfl, N16q, e16⟩ := hQ16
    have N16 := Fr.app N0 N16q
    refine Rch.go (U' := T16.setTop (mkF m 48 #[.val (.long q1), .second, .val (.long q2), .second, .val (.int p3), .val (.long (9223372036854775807 : Int64)), .second, .val (.long ex), .second, .val (.int pk), .unset, .unset, .unset, .unset, .unset, .unset, .unset, .unset] [(.long (own_max (0 : Int64) (ex - (q2 &&& (15 : Int64)))))])) st16 ?_
    refine Rch.go (U' := T16.setTop (mkF m 50 #[.val (.long q1), .second, .val (.long q2), .second, .val (.int p3), .val (.long (9223372036854775807 : Int64)), .second, .val (.long ex), .second, .val (.int pk), .val (.long (own_max (0 : Int64) (ex - (q2 &&& (15 : Int64))))), .second, .unset, .unset, .unset, .unset, .unset, .unset] [])) (fun _ k => XS.lstore X16.here hx rfl (hb hby at_48) rfl (l' := #[.val (.long q1), .second, .val (.long q2), .second, .val (.int p3), .val (.long (9223372036854775807 : Int64)), .second, .val (.long ex), .second, .val (.int pk), .val (.long (own_max (0 : Int64) (ex - (q2 &&& (15 : Int64))))), .second, .unset, .unset, .unset, .unset, .unset, .unset]) rfl k) ?_
    refine Rch.go (U' := T16.setTop (mkF m 97 #[.val (.long q1), .second, .val (.long q2), .second, .val (.int p3), .val (.long (9223372036854775807 : Int64)), .second, .val (.long ex), .second, .val (.int pk), .val (.long (own_max (0 : Int64) (ex - (q2 &&& (15 : Int64))))), .second, .unset, .unset, .unset, .unset, .unset, .unset] [])) (fun _ k => XS.goto X16.here hx rfl (pc0 := 50) (pc' := 97) rfl (hb hby at_50) (by decide) (by decide) k) ?_
    exact cut97 q1 q2 p3 ex pk (own_max (0 : Int64) (ex - (q2 &&& (15 : Int64)))) X16 hx hZ hw hby hml hown hret hlk e16 N16 Z0 he (own_max0 _)
  ·
    refine Rch.go (U' := T0.setTop (mkF m 53 #[.val (.long q1), .second, .val (.long q2), .second, .val (.int p3), .val (.long (9223372036854775807 : Int64)), .second, .val (.long ex), .second, .val (.int pk), .unset, .unset, .unset, .unset, .unset, .unset, .unset, .unset] [])) (fun _ k => XS.icmpYes X0.here hx rfl (pc0 := 33) (pc' := 53) rfl (hb hby at_33) rfl (XT.ii_ne_t br15) (by decide) (by decide) k) ?_
    refine Rch.go (U' := T0.setTop (mkF m 55 #[.val (.long q1), .second, .val (.long q2), .second, .val (.int p3), .val (.long (9223372036854775807 : Int64)), .second, .val (.long ex), .second, .val (.int pk), .unset, .unset, .unset, .unset, .unset, .unset, .unset, .unset] [(.int pk)])) (fun _ k => XS.iload X0.here hx rfl (hb hby at_53) rfl  k) ?_
    refine Rch.go (U' := T0.setTop (mkF m 56 #[.val (.long q1), .second, .val (.long q2), .second, .val (.int p3), .val (.long (9223372036854775807 : Int64)), .second, .val (.long ex), .second, .val (.int pk), .unset, .unset, .unset, .unset, .unset, .unset, .unset, .unset] [(.int (2 : Int32)), (.int pk)])) (fun _ k => XS.iconst X0.here hx rfl (hb hby at_55) k) ?_
    by_cases br17 : pk = (2 : Int32)
    ·
      refine Rch.go (U' := T0.setTop (mkF m 59 #[.val (.long q1), .second, .val (.long q2), .second, .val (.int p3), .val (.long (9223372036854775807 : Int64)), .second, .val (.long ex), .second, .val (.int pk), .unset, .unset, .unset, .unset, .unset, .unset, .unset, .unset] [])) (fun _ k => XS.icmpNo X0.here hx rfl (hb hby at_56) rfl (XT.ii_ne_f br17) k) ?_
      refine Rch.go (U' := T0.setTop (mkF m 61 #[.val (.long q1), .second, .val (.long q2), .second, .val (.int p3), .val (.long (9223372036854775807 : Int64)), .second, .val (.long ex), .second, .val (.int pk), .unset, .unset, .unset, .unset, .unset, .unset, .unset, .unset] [(.long ex)])) (fun _ k => XS.lload X0.here hx rfl (hb hby at_59) rfl  k) ?_
      refine Rch.go (U' := T0.setTop (mkF m 63 #[.val (.long q1), .second, .val (.long q2), .second, .val (.int p3), .val (.long (9223372036854775807 : Int64)), .second, .val (.long ex), .second, .val (.int pk), .unset, .unset, .unset, .unset, .unset, .unset, .unset, .unset] [(.long (9223372036854775807 : Int64)), (.long ex)])) (fun _ k => XS.lload X0.here hx rfl (hb hby at_61) rfl  k) ?_
      refine Rch.go (U' := T0.setTop (mkF m 66 #[.val (.long q1), .second, .val (.long q2), .second, .val (.int p3), .val (.long (9223372036854775807 : Int64)), .second, .val (.long ex), .second, .val (.int pk), .unset, .unset, .unset, .unset, .unset, .unset, .unset, .unset] [(.long (15 : Int64)), (.long (9223372036854775807 : Int64)), (.long ex)])) (fun _ k => X0.ldc2Long hx hown (mvT hZ (wi hw 5 rfl)) (g := (mkF m 63 #[.val (.long q1), .second, .val (.long q2), .second, .val (.int p3), .val (.long (9223372036854775807 : Int64)), .second, .val (.long ex), .second, .val (.int pk), .unset, .unset, .unset, .unset, .unset, .unset, .unset, .unset] [(.long (9223372036854775807 : Int64)), (.long ex)])) rfl (hb hby at_63) _ k) ?_
      refine Rch.go (U' := T0.setTop (mkF m 67 #[.val (.long q1), .second, .val (.long q2), .second, .val (.int p3), .val (.long (9223372036854775807 : Int64)), .second, .val (.long ex), .second, .val (.int pk), .unset, .unset, .unset, .unset, .unset, .unset, .unset, .unset] [(.long ((9223372036854775807 : Int64) - (15 : Int64))), (.long ex)])) (fun _ k => XS.lsub X0.here hx rfl (hb hby at_66) rfl k) ?_
      rw [(by decide : ((9223372036854775807 : Int64) - (15 : Int64)) = (9223372036854775792 : Int64))]
      refine Rch.go (U' := T0.setTop (mkF m 68 #[.val (.long q1), .second, .val (.long q2), .second, .val (.int p3), .val (.long (9223372036854775807 : Int64)), .second, .val (.long ex), .second, .val (.int pk), .unset, .unset, .unset, .unset, .unset, .unset, .unset, .unset] [(.int (XT.cmpL ex (9223372036854775792 : Int64)))])) (fun _ k => XT.lcmp X0.here hx rfl (hb hby at_67) rfl k) ?_
      by_cases br18 : (9223372036854775792 : Int64) < ex
      ·
        refine Rch.go (U' := T0.setTop (mkF m 84 #[.val (.long q1), .second, .val (.long q2), .second, .val (.int p3), .val (.long (9223372036854775807 : Int64)), .second, .val (.long ex), .second, .val (.int pk), .unset, .unset, .unset, .unset, .unset, .unset, .unset, .unset] [])) (fun _ k => XS.ifYes X0.here hx rfl (pc0 := 68) (pc' := 84) rfl (hb hby at_68) rfl (XT.ll_gt_t br18) (by decide) (by decide) k) ?_
        refine Rch.go (U' := T0.setTop (mkF m 86 #[.val (.long q1), .second, .val (.long q2), .second, .val (.int p3), .val (.long (9223372036854775807 : Int64)), .second, .val (.long ex), .second, .val (.int pk), .unset, .unset, .unset, .unset, .unset, .unset, .unset, .unset] [(.long ex)])) (fun _ k => XS.lload X0.here hx rfl (hb hby at_84) rfl  k) ?_
        refine Rch.go (U' := T0.setTop (mkF m 88 #[.val (.long q1), .second, .val (.long q2), .second, .val (.int p3), .val (.long (9223372036854775807 : Int64)), .second, .val (.long ex), .second, .val (.int pk), .val (.long ex), .second, .unset, .unset, .unset, .unset, .unset, .unset] [])) (fun _ k => XS.lstore X0.here hx rfl (hb hby at_86) rfl (l' := #[.val (.long q1), .second, .val (.long q2), .second, .val (.int p3), .val (.long (9223372036854775807 : Int64)), .second, .val (.long ex), .second, .val (.int pk), .val (.long ex), .second, .unset, .unset, .unset, .unset, .unset, .unset]) rfl k) ?_
        refine Rch.go (U' := T0.setTop (mkF m 97 #[.val (.long q1), .second, .val (.long q2), .second, .val (.int p3), .val (.long (9223372036854775807 : Int64)), .second, .val (.long ex), .second, .val (.int pk), .val (.long ex), .second, .unset, .unset, .unset, .unset, .unset, .unset] [])) (fun _ k => XS.goto X0.here hx rfl (pc0 := 88) (pc' := 97) rfl (hb hby at_88) (by decide) (by decide) k) ?_
        exact cut97 q1 q2 p3 ex pk ex X0 hx hZ hw hby hml hown hret hlk e0 N0 Z0 he (he)
      ·
        refine Rch.go (U' := T0.setTop (mkF m 71 #[.val (.long q1), .second, .val (.long q2), .second, .val (.int p3), .val (.long (9223372036854775807 : Int64)), .second, .val (.long ex), .second, .val (.int pk), .unset, .unset, .unset, .unset, .unset, .unset, .unset, .unset] [])) (fun _ k => XS.ifNo X0.here hx rfl (hb hby at_68) rfl (XT.ll_gt_f br18) k) ?_
        refine Rch.go (U' := T0.setTop (mkF m 73 #[.val (.long q1), .second, .val (.long q2), .second, .val (.int p3), .val (.long (9223372036854775807 : Int64)), .second, .val (.long ex), .second, .val (.int pk), .unset, .unset, .unset, .unset, .unset, .unset, .unset, .unset] [(.long ex)])) (fun _ k => XS.lload X0.here hx rfl (hb hby at_71) rfl  k) ?_
        refine Rch.go (U' := T0.setTop (mkF m 74 #[.val (.long q1), .second, .val (.long q2), .second, .val (.int p3), .val (.long (9223372036854775807 : Int64)), .second, .val (.long ex), .second, .val (.int pk), .unset, .unset, .unset, .unset, .unset, .unset, .unset, .unset] [(.long q2), (.long ex)])) (fun _ k => XS.lloadN X0.here hx rfl (hb hby at_73) rfl  k) ?_
        refine Rch.go (U' := T0.setTop (mkF m 77 #[.val (.long q1), .second, .val (.long q2), .second, .val (.int p3), .val (.long (9223372036854775807 : Int64)), .second, .val (.long ex), .second, .val (.int pk), .unset, .unset, .unset, .unset, .unset, .unset, .unset, .unset] [(.long (15 : Int64)), (.long q2), (.long ex)])) (fun _ k => X0.ldc2Long hx hown (mvT hZ (wi hw 5 rfl)) (g := (mkF m 74 #[.val (.long q1), .second, .val (.long q2), .second, .val (.int p3), .val (.long (9223372036854775807 : Int64)), .second, .val (.long ex), .second, .val (.int pk), .unset, .unset, .unset, .unset, .unset, .unset, .unset, .unset] [(.long q2), (.long ex)])) rfl (hb hby at_74) _ k) ?_
        refine Rch.go (U' := T0.setTop (mkF m 78 #[.val (.long q1), .second, .val (.long q2), .second, .val (.int p3), .val (.long (9223372036854775807 : Int64)), .second, .val (.long ex), .second, .val (.int pk), .unset, .unset, .unset, .unset, .unset, .unset, .unset, .unset] [(.long (q2 &&& (15 : Int64))), (.long ex)])) (fun _ k => XS.land X0.here hx rfl (hb hby at_77) rfl k) ?_
        refine Rch.go (U' := T0.setTop (mkF m 79 #[.val (.long q1), .second, .val (.long q2), .second, .val (.int p3), .val (.long (9223372036854775807 : Int64)), .second, .val (.long ex), .second, .val (.int pk), .unset, .unset, .unset, .unset, .unset, .unset, .unset, .unset] [(.long (ex + (q2 &&& (15 : Int64))))])) (fun _ k => XS.ladd X0.here hx rfl (hb hby at_78) rfl k) ?_
        refine Rch.go (U' := T0.setTop (mkF m 81 #[.val (.long q1), .second, .val (.long q2), .second, .val (.int p3), .val (.long (9223372036854775807 : Int64)), .second, .val (.long ex), .second, .val (.int pk), .val (.long (ex + (q2 &&& (15 : Int64)))), .second, .unset, .unset, .unset, .unset, .unset, .unset] [])) (fun _ k => XS.lstore X0.here hx rfl (hb hby at_79) rfl (l' := #[.val (.long q1), .second, .val (.long q2), .second, .val (.int p3), .val (.long (9223372036854775807 : Int64)), .second, .val (.long ex), .second, .val (.int pk), .val (.long (ex + (q2 &&& (15 : Int64)))), .second, .unset, .unset, .unset, .unset, .unset, .unset]) rfl k) ?_
        refine Rch.go (U' := T0.setTop (mkF m 97 #[.val (.long q1), .second, .val (.long q2), .second, .val (.int p3), .val (.long (9223372036854775807 : Int64)), .second, .val (.long ex), .second, .val (.int pk), .val (.long (ex + (q2 &&& (15 : Int64)))), .second, .unset, .unset, .unset, .unset, .unset, .unset] [])) (fun _ k => XS.goto X0.here hx rfl (pc0 := 81) (pc' := 97) rfl (hb hby at_81) (by decide) (by decide) k) ?_
        exact cut97 q1 q2 p3 ex pk (ex + (q2 &&& (15 : Int64))) X0 hx hZ hw hby hml hown hret hlk e0 N0 Z0 he (own_plus _ _ he br18)
    ·
      refine Rch.go (U' := T0.setTop (mkF m 91 #[.val (.long q1), .second, .val (.long q2), .second, .val (.int p3), .val (.long (9223372036854775807 : Int64)), .second, .val (.long ex), .second, .val (.int pk), .unset, .unset, .unset, .unset, .unset, .unset, .unset, .unset] [])) (fun _ k => XS.icmpYes X0.here hx rfl (pc0 := 56) (pc' := 91) rfl (hb hby at_56) rfl (XT.ii_ne_t br17) (by decide) (by decide) k) ?_
      refine Rch.go (U' := T0.setTop (mkF m 92 #[.val (.long q1), .second, .val (.long q2), .second, .val (.int p3), .val (.long (9223372036854775807 : Int64)), .second, .val (.long ex), .second, .val (.int pk), .unset, .unset, .unset, .unset, .unset, .unset, .unset, .unset] [(.long q2)])) (fun _ k => XS.lloadN X0.here hx rfl (hb hby at_91) rfl  k) ?_
      refine Rch.go (U' := T0.setTop (mkF m 94 #[.val (.long q1), .second, .val (.long q2), .second, .val (.int p3), .val (.long (9223372036854775807 : Int64)), .second, .val (.long ex), .second, .val (.int pk), .unset, .unset, .unset, .unset, .unset, .unset, .unset, .unset] [(.long (9223372036854775807 : Int64)), (.long q2)])) (fun _ k => XS.lload X0.here hx rfl (hb hby at_92) rfl  k) ?_
      refine Rch.go (U' := T0.setTop (mkF m 95 #[.val (.long q1), .second, .val (.long q2), .second, .val (.int p3), .val (.long (9223372036854775807 : Int64)), .second, .val (.long ex), .second, .val (.int pk), .unset, .unset, .unset, .unset, .unset, .unset, .unset, .unset] [(.long (q2 &&& (9223372036854775807 : Int64)))])) (fun _ k => XS.land X0.here hx rfl (hb hby at_94) rfl k) ?_
      refine Rch.go (U' := T0.setTop (mkF m 97 #[.val (.long q1), .second, .val (.long q2), .second, .val (.int p3), .val (.long (9223372036854775807 : Int64)), .second, .val (.long ex), .second, .val (.int pk), .val (.long (q2 &&& (9223372036854775807 : Int64))), .second, .unset, .unset, .unset, .unset, .unset, .unset] [])) (fun _ k => XS.lstore X0.here hx rfl (hb hby at_95) rfl (l' := #[.val (.long q1), .second, .val (.long q2), .second, .val (.int p3), .val (.long (9223372036854775807 : Int64)), .second, .val (.long ex), .second, .val (.int pk), .val (.long (q2 &&& (9223372036854775807 : Int64))), .second, .unset, .unset, .unset, .unset, .unset, .unset]) rfl k) ?_
      exact cut97 q1 q2 p3 ex pk (q2 &&& (9223372036854775807 : Int64)) X0 hx hZ hw hby hml hown hret hlk e0 N0 Z0 he (own_mask _)
theorem pn_com_example_interlock_interlock_engine_AdmissionExpectedAfterPinLaw : plainName "com/example/interlock/interlock/engine/AdmissionExpectedAfterPinLaw" = true := by first | (simp [plainName, overriddenIn]; done) | decide +kernel
theorem ef_rm0 (m : MethodId) (q1 : Int64) (q2 : Int64) (p3 : Int32) : entryFrame m #[(.long q1), (.long q2), (.int p3)] maxLocals = mkF m 0 #[.val (.long q1), .second, .val (.long q2), .second, .val (.int p3), .unset, .unset, .unset, .unset, .unset, .unset, .unset, .unset, .unset, .unset, .unset, .unset, .unset] [] := by first | (simp [entryFrame, mkF, argsToLocals, Value.category, maxLocals]; done) | rfl
def Q_rm0 (Z : State) (q1 : Int64) (q2 : Int64) (p3 : Int32) (h0 : Heap) (n0 : Nat) (v : Option Value) (h : Heap) (L : List Loc) : Prop := v = some (.int 1) ∧ Fr n0 L
set_option maxRecDepth 65536 in
set_option maxHeartbeats 40000000 in
theorem rm0 (l : Launch) (Z : State) (a0 : Array Value) (hw : ∀ d ∈ tables_1, d.before a0 Z = true) (ws : List Jvm.Cond) (q1 : Int64) (q2 : Int64) (p3 : Int32) (h0 : Heap) (n0 : Nat) (Z0 : n0 ≤ h0.size)  :
    MetFree l x (head1 (Jvm.Cond.code x code maxLocals ret :: ws) room_1) (fun a U => a = #[(.long q1), (.long q2), (.int p3)] ∧ Z.Warmed39 U.vm ∧ U.heap = h0) (fun _ _ _ _ _ => True) (fun _ U o U' => ∃ v L, o = .returned v ∧ Q_rm0 Z q1 q2 p3 h0 n0 v U'.heap L ∧ FrameEnd U o U' L 0 0) := by
  refine MetFree.of_bodySF (plainFor_of_name pn_com_example_interlock_interlock_engine_AdmissionExpectedAfterPinLaw) hisR ?_
  intro p e s m args below meth c s₁ Bd hml0 hP hK
  obtain ⟨rfl, hZ, hh⟩ := hP
  have hx := Bd.exec
  have hby := Bd.bytes
  have hml : c.maxLocals = 18 := hml0
  have hown : s.vm.findClass "com/example/interlock/interlock/engine/AdmissionExpectedAfterPinLaw" = some m.cls := findClass_of_methodNamed Bd.named
  have hnm := (name_of_methodNamed Bd.named Bd.method).1
  have hret := Bd.returns
  have hlk : meth.locks = false := BodyLoose.notSynchronized Bd
  have X0 : Stand p l e room_1 s m #[(.long q1), (.long q2), (.int p3)] below meth c s₁ [] 0 0 := Stand.of_body Bd
  have e0 : s₁.heap = h0 := by rw [← hh, Bd.state]; rfl
  have N0 := Fr.nil n0
  refine Rch.body (Q := Q_rm0 Z q1 q2 p3 h0 n0) (U' := s₁.setTop (mkF m 0 #[.val (.long q1), .second, .val (.long q2), .second, .val (.int p3), .unset, .unset, .unset, .unset, .unset, .unset, .unset, .unset, .unset, .unset, .unset, .unset, .unset] [])) (fun t k => castTop (ef_rm0 m q1 q2 p3) k) ?_
  refine Rch.go (U' := s₁.setTop (mkF m 3 #[.val (.long q1), .second, .val (.long q2), .second, .val (.int p3), .unset, .unset, .unset, .unset, .unset, .unset, .unset, .unset, .unset, .unset, .unset, .unset, .unset] [(.long (9223372036854775807 : Int64))])) (fun _ k => X0.ldc2Long hx hown (mvT hZ (wi hw 0 rfl)) (g := (mkF m 0 #[.val (.long q1), .second, .val (.long q2), .second, .val (.int p3), .unset, .unset, .unset, .unset, .unset, .unset, .unset, .unset, .unset, .unset, .unset, .unset, .unset] [])) rfl (hb hby at_0) _ k) ?_
  refine Rch.go (U' := s₁.setTop (mkF m 5 #[.val (.long q1), .second, .val (.long q2), .second, .val (.int p3), .val (.long (9223372036854775807 : Int64)), .second, .unset, .unset, .unset, .unset, .unset, .unset, .unset, .unset, .unset, .unset, .unset] [])) (fun _ k => XS.lstore X0.here hx rfl (hb hby at_3) rfl (l' := #[.val (.long q1), .second, .val (.long q2), .second, .val (.int p3), .val (.long (9223372036854775807 : Int64)), .second, .unset, .unset, .unset, .unset, .unset, .unset, .unset, .unset, .unset, .unset, .unset]) rfl k) ?_
  refine Rch.go (U' := s₁.setTop (mkF m 7 #[.val (.long q1), .second, .val (.long q2), .second, .val (.int p3), .val (.long (9223372036854775807 : Int64)), .second, .unset, .unset, .unset, .unset, .unset, .unset, .unset, .unset, .unset, .unset, .unset] [(.int p3)])) (fun _ k => XS.iload X0.here hx rfl (hb hby at_5) rfl  k) ?_
  refine Rch.go (U' := s₁.setTop (mkF m 8 #[.val (.long q1), .second, .val (.long q2), .second, .val (.int p3), .val (.long (9223372036854775807 : Int64)), .second, .unset, .unset, .unset, .unset, .unset, .unset, .unset, .unset, .unset, .unset, .unset] [(.int (3 : Int32)), (.int p3)])) (fun _ k => XS.iconst X0.here hx rfl (hb hby at_7) k) ?_
  refine Rch.go (U' := s₁.setTop (mkF m 9 #[.val (.long q1), .second, .val (.long q2), .second, .val (.int p3), .val (.long (9223372036854775807 : Int64)), .second, .unset, .unset, .unset, .unset, .unset, .unset, .unset, .unset, .unset, .unset, .unset] [(.int (p3 &&& (3 : Int32)))])) (fun _ k => XS.iand X0.here hx rfl (hb hby at_8) rfl k) ?_
  by_cases br19 : (p3 &&& (3 : Int32)) = (0 : Int32)
  ·
    refine Rch.go (U' := s₁.setTop (mkF m 12 #[.val (.long q1), .second, .val (.long q2), .second, .val (.int p3), .val (.long (9223372036854775807 : Int64)), .second, .unset, .unset, .unset, .unset, .unset, .unset, .unset, .unset, .unset, .unset, .unset] [])) (fun _ k => XS.ifNo X0.here hx rfl (hb hby at_9) rfl (XT.i0_ne_f br19) k) ?_
    refine Rch.go (U' := s₁.setTop (mkF m 13 #[.val (.long q1), .second, .val (.long q2), .second, .val (.int p3), .val (.long (9223372036854775807 : Int64)), .second, .unset, .unset, .unset, .unset, .unset, .unset, .unset, .unset, .unset, .unset, .unset] [(.long (0 : Int64))])) (fun _ k => XS.lconst X0.here hx rfl (hb hby at_12) k) ?_
    refine Rch.go (U' := s₁.setTop (mkF m 20 #[.val (.long q1), .second, .val (.long q2), .second, .val (.int p3), .val (.long (9223372036854775807 : Int64)), .second, .unset, .unset, .unset, .unset, .unset, .unset, .unset, .unset, .unset, .unset, .unset] [(.long (0 : Int64))])) (fun _ k => XS.goto X0.here hx rfl (pc0 := 13) (pc' := 20) rfl (hb hby at_13) (by decide) (by decide) k) ?_
    refine Rch.go (U' := s₁.setTop (mkF m 22 #[.val (.long q1), .second, .val (.long q2), .second, .val (.int p3), .val (.long (9223372036854775807 : Int64)), .second, .val (.long (0 : Int64)), .second, .unset, .unset, .unset, .unset, .unset, .unset, .unset, .unset, .unset] [])) (fun _ k => XS.lstore X0.here hx rfl (hb hby at_20) rfl (l' := #[.val (.long q1), .second, .val (.long q2), .second, .val (.int p3), .val (.long (9223372036854775807 : Int64)), .second, .val (.long (0 : Int64)), .second, .unset, .unset, .unset, .unset, .unset, .unset, .unset, .unset, .unset]) rfl k) ?_
    exact cut22 q1 q2 p3 (0 : Int64) X0 hx hZ hw hby hml hown hret hlk e0 N0 Z0 (by decide)
  ·
    refine Rch.go (U' := s₁.setTop (mkF m 16 #[.val (.long q1), .second, .val (.long q2), .second, .val (.int p3), .val (.long (9223372036854775807 : Int64)), .second, .unset, .unset, .unset, .unset, .unset, .unset, .unset, .unset, .unset, .unset, .unset] [])) (fun _ k => XS.ifYes X0.here hx rfl (pc0 := 9) (pc' := 16) rfl (hb hby at_9) rfl (XT.i0_ne_t br19) (by decide) (by decide) k) ?_
    refine Rch.go (U' := s₁.setTop (mkF m 17 #[.val (.long q1), .second, .val (.long q2), .second, .val (.int p3), .val (.long (9223372036854775807 : Int64)), .second, .unset, .unset, .unset, .unset, .unset, .unset, .unset, .unset, .unset, .unset, .unset] [(.long q1)])) (fun _ k => XS.lloadN X0.here hx rfl (hb hby at_16) rfl  k) ?_
    refine Rch.go (U' := s₁.setTop (mkF m 19 #[.val (.long q1), .second, .val (.long q2), .second, .val (.int p3), .val (.long (9223372036854775807 : Int64)), .second, .unset, .unset, .unset, .unset, .unset, .unset, .unset, .unset, .unset, .unset, .unset] [(.long (9223372036854775807 : Int64)), (.long q1)])) (fun _ k => XS.lload X0.here hx rfl (hb hby at_17) rfl  k) ?_
    refine Rch.go (U' := s₁.setTop (mkF m 20 #[.val (.long q1), .second, .val (.long q2), .second, .val (.int p3), .val (.long (9223372036854775807 : Int64)), .second, .unset, .unset, .unset, .unset, .unset, .unset, .unset, .unset, .unset, .unset, .unset] [(.long (q1 &&& (9223372036854775807 : Int64)))])) (fun _ k => XS.land X0.here hx rfl (hb hby at_19) rfl k) ?_
    refine Rch.go (U' := s₁.setTop (mkF m 22 #[.val (.long q1), .second, .val (.long q2), .second, .val (.int p3), .val (.long (9223372036854775807 : Int64)), .second, .val (.long (q1 &&& (9223372036854775807 : Int64))), .second, .unset, .unset, .unset, .unset, .unset, .unset, .unset, .unset, .unset] [])) (fun _ k => XS.lstore X0.here hx rfl (hb hby at_20) rfl (l' := #[.val (.long q1), .second, .val (.long q2), .second, .val (.int p3), .val (.long (9223372036854775807 : Int64)), .second, .val (.long (q1 &&& (9223372036854775807 : Int64))), .second, .unset, .unset, .unset, .unset, .unset, .unset, .unset, .unset, .unset]) rfl k) ?_
    exact cut22 q1 q2 p3 (q1 &&& (9223372036854775807 : Int64)) X0 hx hZ hw hby hml hown hret hlk e0 N0 Z0 (own_mask _)
set_option maxRecDepth 65536 in
set_option maxHeartbeats 40000000 in
theorem comes_1 {Post : Tables → Env → Array Value → State → Outcome → State → Prop} (hpost : ∀ tb e args s v u, (limb_1_1.after args s (.returned v) u = true ∧ limb_1_2.after args s (.returned v) u = true ∧ True) → FrameEnd s (.returned v) u (Jvm.fieldLocs frame_1_writes args s ++ Jvm.arrayLocs frame_1_arrays args s ++ Jvm.staticLocs frame_1_statics s) 0 0 → Post tb e args s (.returned v) u) :
    ArmFor flags0 classFile x code maxLocals ret World_1 tables_1 room_1 Calls_1 rest_1 Pre_1 Post := by
  intro l hfl _ _ p e ha hc hk s m args below hf hA hF happ hP
  obtain ⟨hcalls, hrest, hpre⟩ := hP
  obtain ⟨-, -, -, hnamed, -, -, -, hat⟩ := (Spec.applies_iff hf).mp happ
  obtain ⟨hg, hn⟩ := and_e (Cond.before_iff.mp (show (Jvm.Cond.and given_1 narrow_1).before args s = true from hpre))
  obtain ⟨hcount, hg0⟩ := and_e hg
  obtain ⟨ga0, hg1⟩ := and_e hg0
  obtain ⟨ga1, hg2⟩ := and_e hg1
  obtain ⟨w0, w1, w2, rfl⟩ : ∃ w0 w1 w2 : Value, args = #[w0, w1, w2] := by
    have hs : args.size = 3 := by simpa [Cond.value, given_1] using hcount
    obtain ⟨L⟩ := args
    match L, hs with
    | [w0, w1, w2], _ => exact ⟨w0, w1, w2, rfl⟩
  have hw := fun d (hd : d ∈ tables_1) => atoms_spec (ws := Jvm.Cond.code x code maxLocals ret :: tables_1) hat d (List.mem_cons_of_mem _ hd)
  obtain ⟨i0, ei0⟩ := isL_v ga0
  obtain rfl : w0 = (.long i0) := Option.some.inj ei0
  obtain ⟨i1, ei1⟩ := isL_v ga1
  obtain rfl : w1 = (.long i1) := Option.some.inj ei1
  obtain ⟨i2, ei2⟩ := is_v hg2
  obtain rfl : w2 = (.int i2) := Option.some.inj ei2
  obtain ⟨n, o, h1, h2, h3, _, L, rfl, ⟨rfl, N⟩, hq⟩ := rm0 l s _ hw tables_1 i0 i1 i2 s.heap s.heap.size (Nat.le_refl _)  p e ha hc hk s m _ below hf ((Spec.applies_iff_loose hf).mp happ).1 ⟨rfl, State.Warmed39.refl s, rfl⟩ trivial
  refine ⟨n, _, h1, h2, h3, hpost _ _ _ _ _ _ ⟨Cond.after_iff.mpr rfl, Cond.after_iff.mpr (eq_i res_at (Term.int_eval (1)) rfl), trivial⟩ ⟨hq.1, hq.2.1, (hq.2.2.sift fun y hy => Or.inr (N y hy)).mono (by decide) (by decide)⟩⟩
theorem main_1_1 : Claimed_1_1 := comes_1 fun _ _ _ _ _ _ h hF => ⟨h.1, hF⟩
theorem main_1_2 : Claimed_1_2 := comes_1 fun _ _ _ _ _ _ h hF => ⟨h.2.1, hF⟩
end Jvm.Pilot.@@N@@
namespace Jvm.Pilot.@@N@@
open Jvm Jvm.ClassFile Sem Op Lib Jvm.Free Jvm.Stand Jvm.Pilot.@@N@@.Jvm.D
/-! MADE BY PROGRAM (witnessworld.py) out of the Statement's table words and the real class files: 10 classes; the members and pool entries that the words name. The judged class is class 1, her method 1. -/
namespace start1
open Jvm.ClassFile
def u (s : String) : CpInfo := .utf8 (stringToUtf16 s)
/-- a pool by its gaps: so many unusable entries, then the entry; so many at the end -/
def gap : Nat → List CpInfo → List CpInfo
  | 0, r => r
  | n + 1, r => .unusable :: gap n r
def poolList (es : List (Nat × CpInfo)) (last : Nat) : List CpInfo := es.foldr (fun e r => gap e.1 (e.2 :: r)) (gap last [])
def pool (es : List (Nat × CpInfo)) (last : Nat) : Array CpInfo := ⟨poolList es last⟩
def fileOf (pool : Array CpInfo) (this : Nat) (attrs : Array Attribute := #[]) (ms : Array MethodInfo := #[]) (fl : Nat := 33) (sup : Nat := 0) (ifs : Array Nat := #[]) (fds : Array FieldInfo := #[]) : ClassFile where
  minorVersion := 0
  majorVersion := 65
  constantPool := pool
  accessFlags := fl
  thisClass := this
  superClass := sup
  interfaces := ifs
  fields := fds
  methods := ms
  attributes := attrs
def plain (name : String) (sup : Option ClassId) : Class where
  name := name
  kind := .ordinary
  loader := none
  accessFlags := 33
  super := sup
  interfaces := #[]
  cf := none
  fields := #[]
  methods := #[]
  instanceTypes := #[]
  staticTypes := #[]
  resolved := #[]
  callSites := []
  init := .initialized
  statics := none
  mirror := none

def pool0 : Array CpInfo := pool [(5, u "<init>"), (0, u "()V"), (1, .class_ 10), (1, u "java/lang/Object")] 113

def k0m0 : Method := { name := "<init>", desc := "()V", sig := { parameters := [], returnType := none }, accessFlags := 1, code := none }
/-- java/lang/Object -/
def k0 : Class := { plain "java/lang/Object" none with
  accessFlags := 33
  interfaces := #[]
  cf := some (fileOf pool0 8 #[] #[{ accessFlags := 1, nameIndex := 5, descriptorIndex := 6, attributes := #[] }] 33 0 #[] #[])
  fields := #[]
  methods := #[k0m0]
  instanceTypes := #[]
  staticTypes := #[]
  resolved := Array.replicate 124 none
  statics := none }

def pool1 : Array CpInfo := pool [(2, .class_ 4), (1, u "java/lang/Object"), (0, u "<init>"), (0, u "()V"), (2, .long 9223372036854775807), (1, .long 15), (1, .methodref 14 15), (0, .class_ 16), (0, .nameAndType 17 18), (0, u "java/lang/Math"), (0, u "max"), (0, u "(JJ)J"), (0, .methodref 20 21), (0, .class_ 22), (0, .nameAndType 23 18), (0, u "com/example/interlock/interlock/engine/Admission"), (0, u "expectedAfter"), (0, .long 8), (1, .long 7), (1, .class_ 29), (0, u "com/example/interlock/interlock/engine/AdmissionExpectedAfterPinLaw"), (2, u "law"), (0, u "(JJI)Z")] 3

def k1m0 : Method := { name := "<init>", desc := "()V", sig := { parameters := [], returnType := none }, accessFlags := 2, code := none }
def k1c1 : Code := { maxStack := 8, maxLocals := 18, code := code, exceptionTable := #[], attributes := #[] }
def k1m1 : Method := { name := "law", desc := "(JJI)Z", sig := { parameters := [.long, .long, .int], returnType := some .boolean }, accessFlags := 9, code := some k1c1 }
/-- com/example/interlock/interlock/engine/AdmissionExpectedAfterPinLaw -/
def k1 : Class := { plain "com/example/interlock/interlock/engine/AdmissionExpectedAfterPinLaw" (some 0) with
  accessFlags := 49
  interfaces := #[]
  cf := some (fileOf pool1 28 #[] #[{ accessFlags := 2, nameIndex := 5, descriptorIndex := 6, attributes := #[] }, { accessFlags := 9, nameIndex := 32, descriptorIndex := 33, attributes := #[] }] 49 2 #[] #[])
  fields := #[]
  methods := #[k1m0, k1m1]
  instanceTypes := #[]
  staticTypes := #[]
  resolved := Array.replicate 37 none
  statics := none }

def pool2 : Array CpInfo := pool [(6, .class_ 8), (1, u "com/example/interlock/interlock/engine/Admission"), (3, .class_ 14), (1, u "java/lang/Object"), (13, u "runners"), (0, u "Ljava/lang/ThreadLocal;"), (5, u "waiting"), (0, u "Ljava/util/concurrent/ConcurrentLinkedQueue;"), (0, .class_ 38), (0, u "com/example/interlock/interlock/engine/Admission$Seat"), (3, u "longSeat"), (0, u "Lcom/example/interlock/interlock/engine/Admission$Seat;"), (2, u "waitingLong"), (2, u "clock"), (0, u "Ljava/util/function/LongSupplier;"), (8, u "seats"), (0, u "[Lcom/example/interlock/interlock/engine/Admission$Seat;"), (16, u "judgment"), (0, u "Lcom/example/interlock/interlock/engine/PauseJudgment;"), (3, .class_ 83), (0, u "com/example/interlock/interlock/engine/Admission$Runner"), (17, u "J"), (50, u "WAIT_STATE"), (0, u "Ljava/lang/invoke/VarHandle;"), (9, u "I"), (35, u "longRunExpected"), (23, .long 8), (4, u "(JJ)J"), (28, u "UNPARKED"), (26, u "alone"), (0, u "Lcom/example/interlock/interlock/engine/Transaction;"), (8, u "aloneSince"), (35, u "longRunTypical"), (2, .long 2), (24, u "expectedAfter"), (30, u "ALONE"), (18, u "HOLDER"), (19, u "SHORT_NANOS"), (3, u "TURN_NANOS"), (0, u "FIRST_LONG_STALL_NANOS"), (0, u "READY_NANOS"), (0, u "STALL_NANOS"), (0, u "ALONE_NANOS"), (0, u "MANY_KEYS")] 52

def k2c0 : Code := { maxStack := 6, maxLocals := 6, code := prog_25_method_28_code, exceptionTable := #[], attributes := #[] }
def k2m0 : Method := { name := "expectedAfter", desc := "(JJ)J", sig := { parameters := [.long, .long], returnType := some .long }, accessFlags := 8, code := some k2c0 }
/-- com/example/interlock/interlock/engine/Admission -/
def k2 : Class := { plain "com/example/interlock/interlock/engine/Admission" (some 0) with
  accessFlags := 48
  interfaces := #[]
  cf := some (fileOf pool2 6 #[.nestMembers #[37, 82]] #[{ accessFlags := 8, nameIndex := 358, descriptorIndex := 228, attributes := #[] }] 48 12 #[] #[{ accessFlags := 24, nameIndex := 428, descriptorIndex := 101, attributes := #[] }, { accessFlags := 24, nameIndex := 432, descriptorIndex := 101, attributes := #[] }, { accessFlags := 24, nameIndex := 433, descriptorIndex := 101, attributes := #[] }, { accessFlags := 24, nameIndex := 434, descriptorIndex := 101, attributes := #[] }, { accessFlags := 24, nameIndex := 435, descriptorIndex := 101, attributes := #[] }, { accessFlags := 24, nameIndex := 436, descriptorIndex := 101, attributes := #[] }, { accessFlags := 24, nameIndex := 437, descriptorIndex := 163, attributes := #[] }, { accessFlags := 26, nameIndex := 408, descriptorIndex := 153, attributes := #[] }, { accessFlags := 26, nameIndex := 389, descriptorIndex := 153, attributes := #[] }, { accessFlags := 26, nameIndex := 152, descriptorIndex := 153, attributes := #[] }, { accessFlags := 26, nameIndex := 257, descriptorIndex := 153, attributes := #[] }, { accessFlags := 18, nameIndex := 49, descriptorIndex := 50, attributes := #[] }, { accessFlags := 18, nameIndex := 59, descriptorIndex := 60, attributes := #[] }, { accessFlags := 18, nameIndex := 28, descriptorIndex := 29, attributes := #[] }, { accessFlags := 18, nameIndex := 35, descriptorIndex := 36, attributes := #[] }, { accessFlags := 66, nameIndex := 284, descriptorIndex := 285, attributes := #[] }, { accessFlags := 66, nameIndex := 294, descriptorIndex := 101, attributes := #[] }, { accessFlags := 18, nameIndex := 77, descriptorIndex := 78, attributes := #[] }, { accessFlags := 18, nameIndex := 42, descriptorIndex := 43, attributes := #[] }, { accessFlags := 18, nameIndex := 46, descriptorIndex := 36, attributes := #[] }, { accessFlags := 66, nameIndex := 330, descriptorIndex := 101, attributes := #[] }, { accessFlags := 66, nameIndex := 199, descriptorIndex := 101, attributes := #[] }])
  fields := #[{ name := "SHORT_NANOS", type := .long, accessFlags := 24, slot := 0, constantValue := 0 }, { name := "TURN_NANOS", type := .long, accessFlags := 24, slot := 1, constantValue := 0 }, { name := "FIRST_LONG_STALL_NANOS", type := .long, accessFlags := 24, slot := 2, constantValue := 0 }, { name := "READY_NANOS", type := .long, accessFlags := 24, slot := 3, constantValue := 0 }, { name := "STALL_NANOS", type := .long, accessFlags := 24, slot := 4, constantValue := 0 }, { name := "ALONE_NANOS", type := .long, accessFlags := 24, slot := 5, constantValue := 0 }, { name := "MANY_KEYS", type := .int, accessFlags := 24, slot := 6, constantValue := 0 }, { name := "HOLDER", type := (.object "java/lang/invoke/VarHandle"), accessFlags := 26, slot := 7, constantValue := 0 }, { name := "ALONE", type := (.object "java/lang/invoke/VarHandle"), accessFlags := 26, slot := 8, constantValue := 0 }, { name := "WAIT_STATE", type := (.object "java/lang/invoke/VarHandle"), accessFlags := 26, slot := 9, constantValue := 0 }, { name := "UNPARKED", type := (.object "java/lang/invoke/VarHandle"), accessFlags := 26, slot := 10, constantValue := 0 }, { name := "clock", type := (.object "java/util/function/LongSupplier"), accessFlags := 18, slot := 0, constantValue := 0 }, { name := "seats", type := (.array (.object "com/example/interlock/interlock/engine/Admission$Seat")), accessFlags := 18, slot := 1, constantValue := 0 }, { name := "runners", type := (.object "java/lang/ThreadLocal"), accessFlags := 18, slot := 2, constantValue := 0 }, { name := "waiting", type := (.object "java/util/concurrent/ConcurrentLinkedQueue"), accessFlags := 18, slot := 3, constantValue := 0 }, { name := "alone", type := (.object "com/example/interlock/interlock/engine/Transaction"), accessFlags := 66, slot := 4, constantValue := 0 }, { name := "aloneSince", type := .long, accessFlags := 66, slot := 5, constantValue := 0 }, { name := "judgment", type := (.object "com/example/interlock/interlock/engine/PauseJudgment"), accessFlags := 18, slot := 6, constantValue := 0 }, { name := "longSeat", type := (.object "com/example/interlock/interlock/engine/Admission$Seat"), accessFlags := 18, slot := 7, constantValue := 0 }, { name := "waitingLong", type := (.object "java/util/concurrent/ConcurrentLinkedQueue"), accessFlags := 18, slot := 8, constantValue := 0 }, { name := "longRunTypical", type := .long, accessFlags := 66, slot := 9, constantValue := 0 }, { name := "longRunExpected", type := .long, accessFlags := 66, slot := 10, constantValue := 0 }]
  methods := #[k2m0]
  instanceTypes := #[(.object "java/util/function/LongSupplier"), (.array (.object "com/example/interlock/interlock/engine/Admission$Seat")), (.object "java/lang/ThreadLocal"), (.object "java/util/concurrent/ConcurrentLinkedQueue"), (.object "com/example/interlock/interlock/engine/Transaction"), .long, (.object "com/example/interlock/interlock/engine/PauseJudgment"), (.object "com/example/interlock/interlock/engine/Admission$Seat"), (.object "java/util/concurrent/ConcurrentLinkedQueue"), .long, .long]
  staticTypes := #[.long, .long, .long, .long, .long, .long, .int, (.object "java/lang/invoke/VarHandle"), (.object "java/lang/invoke/VarHandle"), (.object "java/lang/invoke/VarHandle"), (.object "java/lang/invoke/VarHandle")]
  resolved := Array.replicate 490 none
  statics := none }

def pool3 : Array CpInfo := pool [(1, .class_ 2), (0, u "java/lang/Math"), (1, .class_ 6), (1, u "java/lang/Object"), (0, u "<init>"), (0, u "()V"), (89, .class_ 100), (1, u "java/lang/Math$RandomNumberGeneratorHolder"), (20, u "(JJ)J"), (50, u "negativeZeroFloatBits"), (0, u "J"), (2, u "negativeZeroDoubleBits"), (21, u "max"), (46, u "$assertionsDisabled"), (0, u "Z"), (91, u "twoToTheDoubleScaleDown"), (0, u "D"), (4, u "twoToTheDoubleScaleUp"), (9, u "E"), (3, u "PI"), (2, u "TAU"), (2, u "DEGREES_TO_RADIANS"), (0, u "RADIANS_TO_DEGREES")] 94

def k3m0 : Method := { name := "<init>", desc := "()V", sig := { parameters := [], returnType := none }, accessFlags := 2, code := none }
def k3c1 : Code := { maxStack := 4, maxLocals := 4, code := jdk_29_method_66_code, exceptionTable := #[], attributes := #[] }
def k3m1 : Method := { name := "max", desc := "(JJ)J", sig := { parameters := [.long, .long], returnType := some .long }, accessFlags := 9, code := some k3c1 }
/-- java/lang/Math -/
def k3 : Class := { plain "java/lang/Math" (some 0) with
  accessFlags := 49
  interfaces := #[]
  cf := some (fileOf pool3 1 #[.nestMembers #[98]] #[{ accessFlags := 2, nameIndex := 7, descriptorIndex := 8, attributes := #[] }, { accessFlags := 9, nameIndex := 198, descriptorIndex := 121, attributes := #[] }] 49 4 #[] #[{ accessFlags := 25, nameIndex := 354, descriptorIndex := 339, attributes := #[] }, { accessFlags := 25, nameIndex := 358, descriptorIndex := 339, attributes := #[] }, { accessFlags := 25, nameIndex := 361, descriptorIndex := 339, attributes := #[] }, { accessFlags := 26, nameIndex := 364, descriptorIndex := 339, attributes := #[] }, { accessFlags := 26, nameIndex := 365, descriptorIndex := 339, attributes := #[] }, { accessFlags := 26, nameIndex := 172, descriptorIndex := 173, attributes := #[] }, { accessFlags := 26, nameIndex := 176, descriptorIndex := 173, attributes := #[] }, { accessFlags := 8, nameIndex := 344, descriptorIndex := 339, attributes := #[] }, { accessFlags := 8, nameIndex := 338, descriptorIndex := 339, attributes := #[] }, { accessFlags := 4120, nameIndex := 245, descriptorIndex := 246, attributes := #[] }])
  fields := #[{ name := "E", type := .double, accessFlags := 25, slot := 0, constantValue := 0 }, { name := "PI", type := .double, accessFlags := 25, slot := 1, constantValue := 0 }, { name := "TAU", type := .double, accessFlags := 25, slot := 2, constantValue := 0 }, { name := "DEGREES_TO_RADIANS", type := .double, accessFlags := 26, slot := 3, constantValue := 0 }, { name := "RADIANS_TO_DEGREES", type := .double, accessFlags := 26, slot := 4, constantValue := 0 }, { name := "negativeZeroFloatBits", type := .long, accessFlags := 26, slot := 5, constantValue := 0 }, { name := "negativeZeroDoubleBits", type := .long, accessFlags := 26, slot := 6, constantValue := 0 }, { name := "twoToTheDoubleScaleUp", type := .double, accessFlags := 8, slot := 7, constantValue := 0 }, { name := "twoToTheDoubleScaleDown", type := .double, accessFlags := 8, slot := 8, constantValue := 0 }, { name := "$assertionsDisabled", type := .boolean, accessFlags := 4120, slot := 9, constantValue := 0 }]
  methods := #[k3m0, k3m1]
  instanceTypes := #[]
  staticTypes := #[.double, .double, .double, .double, .double, .long, .long, .double, .double, .boolean]
  resolved := Array.replicate 460 none
  statics := none }

def pool4 : Array CpInfo := pool [(1, u "java/lang/Cloneable"), (0, .class_ 1), (0, u "java/lang/Object"), (0, .class_ 3)] 3

/-- java/lang/Cloneable -/
def k4 : Class := { plain "java/lang/Cloneable" (some 0) with
  accessFlags := 1537
  interfaces := #[]
  cf := some (fileOf pool4 2 #[] #[] 1537 4 #[] #[])
  fields := #[]
  methods := #[]
  instanceTypes := #[]
  staticTypes := #[]
  resolved := Array.replicate 8 none
  statics := none }

def pool5 : Array CpInfo := pool [(1, u "java/io/Serializable"), (0, .class_ 1), (0, u "java/lang/Object"), (0, .class_ 3)] 3

/-- java/io/Serializable -/
def k5 : Class := { plain "java/io/Serializable" (some 0) with
  accessFlags := 1537
  interfaces := #[]
  cf := some (fileOf pool5 2 #[] #[] 1537 4 #[] #[])
  fields := #[]
  methods := #[]
  instanceTypes := #[]
  staticTypes := #[]
  resolved := Array.replicate 8 none
  statics := none }

/-- the primitive byte -/
def k6 : Class := { plain "byte" none with kind := .primitive 'B', accessFlags := 0x411 }
/-- [B -/
def k7 : Class := { plain "[B" (some 0) with kind := .array 6 .byte, interfaces := #[4, 5], accessFlags := 1041 }

/-- the primitive int -/
def k8 : Class := { plain "int" none with kind := .primitive 'I', accessFlags := 0x411 }
/-- [I -/
def k9 : Class := { plain "[I" (some 0) with kind := .array 8 .int, interfaces := #[4, 5], accessFlags := 1041 }

def heap : Heap := #[]
def classes : Array Class := #[k0, k1, k2, k3, k4, k5, k6, k7, k8, k9]
def interned : List (Array UInt16 × Addr) := []
def slotsUsed : Nat := 0
def theMethod : MethodId := ⟨1, 1⟩
def args0 : Array Value := #[.long 5, .long 7, .int 1]
def aboutOver (below : List Frame) : State where
  vm := { classes := classes, interned := interned.toArray }
  heap := heap
  slotsUsed := slotsUsed
  threads := #[{ frames := .invoking theMethod args0 :: below }]
def below0 : List Frame := [.native { method := ⟨0, 0⟩, args := #[] }]
def about1 : State := aboutOver below0
def p0 : Program := .bare "" "" ""
def e0 : Env := launch0.env 0 0 0
theorem w_frames : about1.frames = Frame.invoking theMethod args0 :: below0 := rfl
set_option maxRecDepth 65536 in
theorem w_args : argsFit about1.vm theMethod args0 = true := by decide +kernel
set_option maxRecDepth 65536 in
theorem w_heap : heapFits about1 = true := by decide +kernel
set_option maxRecDepth 65536 in
theorem w_runnable : about1.curStatus? = some .runnable := by decide +kernel
set_option maxRecDepth 65536 in
theorem w_alone : about1.alone = true := by decide +kernel
set_option maxRecDepth 65536 in
theorem w_named : about1.methodNamed? x = some theMethod := by decide +kernel
set_option maxRecDepth 65536 in
theorem w_hears : about1.hears theMethod below0 = true := by decide +kernel
set_option maxRecDepth 65536 in
theorem w_ripe : about1.ripe theMethod args0 below0 = true := by decide +kernel
theorem w_running : about1.status = .running := rfl
set_option maxRecDepth 65536 in
theorem w_room : about1.hasRoom e0.platform room_1 = true :=
  launch0.hasRoom_least _ room_1 (by decide +kernel) (by decide +kernel) (by decide +kernel) (by decide +kernel) (by decide +kernel) (by decide +kernel)
theorem allAtoms_all (ts : List Jvm.Cond) (a : Array Jvm.Value) (st : Jvm.State) : (allAtoms ts).before a st = ts.all (fun c => c.before a st) := by
  induction ts with
  | nil => rfl
  | cons c t ih =>
    show (Jvm.Cond.and c (allAtoms t)).before a st = _
    rw [Jvm.Cond.before_and, ih, List.all_cons]
def words1 : List Jvm.Cond := Jvm.Cond.code x code maxLocals ret :: tables_1
/-- a 'code' word, met by the world's own term for the bytes: nothing is compared byte by byte -/
theorem code_word {y : MethodName} {bytes : ByteArray} {mx : Nat} {rt : Option FieldType} {a : Array Value} {s : State} {m : MethodId} {meth : Method} {c : Code} (h1 : s.methodNamed? y = some m) (h2 : s.vm.method? m = some meth) (h3 : meth.code = some c) (h4 : c.code = bytes)
    (h5 : (c.maxLocals == mx && c.exceptionTable.isEmpty && decide (c.maxStack ≤ mostOperands) && decide (meth.sig.returnType = rt) && !meth.locks && decide (parseMethodDescriptor y.desc = some meth.sig)) = true) : (Jvm.Cond.code y bytes mx rt).before a s = true := by
  simp only [Bool.and_eq_true, beq_iff_eq, Bool.not_eq_true', decide_eq_true_eq] at h5
  obtain ⟨⟨⟨⟨⟨g1, g2⟩, g3⟩, g4⟩, g5⟩, g6⟩ := h5
  simp [Cond.before, Cond.holds, Cond.value, h1, h2, h3, h4, g1, g2, g3, g4, g5, g6]
def isCode : Jvm.Cond → Bool
  | .code _ _ _ _ => true
  | _ => false
theorem all_split {L : List Jvm.Cond} {P : Jvm.Cond → Bool} (h1 : L.all (fun c => isCode c || P c) = true) (h2 : ∀ c ∈ L.filter isCode, P c = true) : L.all P = true := by
  refine List.all_eq_true.mpr fun c hc => ?_
  have h := List.all_eq_true.mp h1 c hc
  rcases Bool.eq_false_or_eq_true (isCode c) with hi | hi
  · exact h2 c (List.mem_filter.mpr ⟨hc, hi⟩)
  · simpa [hi] using h
set_option maxRecDepth 65536 in
theorem w_c0 : (Jvm.Cond.code x code maxLocals ret).before args0 about1 = true := code_word (m := ⟨1, 1⟩) (meth := k1m1) (c := k1c1) (by decide +kernel) rfl rfl rfl (by decide +kernel)
set_option maxRecDepth 65536 in
theorem w_c1 : (Jvm.Cond.code ({ cls := "com/example/interlock/interlock/engine/Admission", name := "expectedAfter", desc := "(JJ)J" } : Jvm.MethodName) prog_25_method_28_code (6 : Nat) (Option.some Jvm.ClassFile.FieldType.long)).before args0 about1 = true := code_word (m := ⟨2, 0⟩) (meth := k2m0) (c := k2c0) (by decide +kernel) rfl rfl rfl (by decide +kernel)
set_option maxRecDepth 65536 in
theorem w_c2 : (Jvm.Cond.code ({ cls := "java/lang/Math", name := "max", desc := "(JJ)J" } : Jvm.MethodName) jdk_29_method_66_code (4 : Nat) (Option.some Jvm.ClassFile.FieldType.long)).before args0 about1 = true := code_word (m := ⟨3, 1⟩) (meth := k3m1) (c := k3c1) (by decide +kernel) rfl rfl rfl (by decide +kernel)
def codes1 : List Jvm.Cond := [Jvm.Cond.code x code maxLocals ret, Jvm.Cond.code ({ cls := "com/example/interlock/interlock/engine/Admission", name := "expectedAfter", desc := "(JJ)J" } : Jvm.MethodName) prog_25_method_28_code (6 : Nat) (Option.some Jvm.ClassFile.FieldType.long), Jvm.Cond.code ({ cls := "java/lang/Math", name := "max", desc := "(JJ)J" } : Jvm.MethodName) jdk_29_method_66_code (4 : Nat) (Option.some Jvm.ClassFile.FieldType.long)]
set_option maxRecDepth 65536 in
theorem codes_eq : words1.filter isCode = codes1 := rfl
theorem w_codes : ∀ c ∈ words1.filter isCode, c.before args0 about1 = true := by
  rw [codes_eq]
  intro c hc
  simp only [codes1, List.mem_cons, List.not_mem_nil, or_false] at hc
  rcases hc with rfl | rfl | rfl
  · exact w_c0
  · exact w_c1
  · exact w_c2
set_option maxRecDepth 65536 in
theorem w_t1 : words1.all (fun c => isCode c || c.before args0 about1) = true := by decide +kernel
theorem w_tables : (allAtoms (Jvm.Cond.code x code maxLocals ret :: tables_1)).before args0 about1 = true := by
  rw [allAtoms_all]
  show words1.all (fun c => c.before args0 about1) = true
  refine all_split ?_ w_codes
  rw [w_t1]
set_option maxRecDepth 65536 in
theorem w_case : (Jvm.Cond.and given_1 narrow_1).before args0 about1 = true := by decide +kernel
theorem w_applies : (headSpec (Jvm.Cond.code x code maxLocals ret :: tables_1) room_1).applies x e0.platform about1 = true :=
  (Spec.applies_iff w_frames).mpr ⟨w_running, w_runnable, w_alone, w_named, w_hears, w_ripe, w_room, w_tables⟩
theorem atStart : AtStart classFile x code maxLocals ret World_1 tables_1 room_1 Calls_1 rest_1 Pre_1 launch0 p0 e0 about1 theMethod args0 below0 :=
  ⟨lists_1, trivial, launch0.admits_env _ _ _, launch0.least_env, fairChoices_fair.cas, fairChoices_fair.clock, w_frames, w_args, w_heap, w_applies, trivial, trivial, w_case⟩
end start1
theorem witness_1 : WitnessClaimed_1 := ⟨start1.p0, start1.e0, start1.about1, start1.theMethod, start1.args0, start1.below0, start1.atStart⟩
end Jvm.Pilot.@@N@@
