import JvmDerived
import JvmDerived.Pilot.@@N@@Statement
import JvmDerived.Pilot.@@N@@Code
set_option linter.unusedVariables false
set_option linter.unusedSimpArgs false
namespace Jvm.RoadKit
open Sem ClassFile Op Lib Jvm.Stand Jvm.Free Jvm.LawKit
section New
variable {p : Program} {l : Launch} {e : Env} {R : Room} {s : State} {m : MethodId} {args : Array Value} {below : List Frame} {meth : Method} {c : Code} {T : State} {locs : List Loc} {cells slots : Nat}
theorem retI (X : Stand p l e R s m args below meth c T locs cells slots) (hx : p.tables.exec = Jvm.exec) {pc : Nat} {Ls : Array Slot} {z : Int32} {rest : List Value} (hret : meth.sig.returnType = some .int) (hd : decode c.code pc = .ok (.ireturn, 1)) {fs : List Frame}
    (hl : ∀ (f : JFrame) (acts : List Action), f.method = m → f.locked = none → f.entered = [] → (doReturn e (T.setTop f) acts (some (.int z))).1 = T.setFrames fs) : Steps p.tables e below (T.setTop (mkF m pc Ls (.int z :: rest))) (T.setFrames fs) := by
  have hm' : T.vm.method? m = some meth := X.method'
  have hn : narrow .int (.int z) = .int z := rfl
  show Steps p.tables e below (T.setTop { method := m, pc := pc, locals := Ls, stack := _ :: rest, locked := none }) _
  jvm_step X.here [X.here.top, hx, hd, hm', hret, hn]
  first | (intro acts; rw [hl _ acts rfl rfl rfl]) | rw [hl _ _ rfl rfl rfl]
  exact Steps.refl _
/-- a run from U comes to a state of which K holds -/
def Rch (p : Program) (e : Env) (below : List Frame) (K : State → Prop) (U : State) : Prop := ∃ s₂, Steps p.tables e below U s₂ ∧ K s₂
theorem Rch.go {K : State → Prop} {U U' : State} (h : ∀ t, Steps p.tables e below U' t → Steps p.tables e below U t) (k : Rch p e below K U') : Rch p e below K U := by
  obtain ⟨s₂, a, b⟩ := k; exact ⟨s₂, h _ a, b⟩
theorem Rch.to {K : State → Prop} {U U' : State} (h : Steps p.tables e below U U') (k : Rch p e below K U') : Rch p e below K U := by
  obtain ⟨s₂, a, b⟩ := k; exact ⟨s₂, h.trans a, b⟩
theorem Rch.then {K K' : State → Prop} {U : State} (h : Rch p e below K U) (f : ∀ V, K V → Rch p e below K' V) : Rch p e below K' U := by
  obtain ⟨s₂, a, b⟩ := h; exact Rch.to a (f _ b)
/-- the body is left: what it returned and what it leaves -/
def Fin (s : State) (below : List Frame) (Q : Option Value → Heap → List Loc → Prop) (k n : Nat) (s₂ : State) : Prop :=
  ∃ o, s₂.status = .running ∧ Ended s₂ below o ∧ ∃ v L, o = .returned v ∧ Q v s₂.heap L ∧ FrameEnd s o s₂ L k n
theorem Rch.fin {Q : Option Value → Heap → List Loc → Prop} {k n : Nat} {U : State} {h : Heap} (X : Stand p l e R s m args below meth c T locs cells slots) (hlk : meth.locks = false) {v : Option Value} (hv : meth.sig.returnType = none → v = none) (eT : T.heap = h) (hc : cells ≤ k) (hn : slots ≤ n)
    (st : ∀ fs, (∀ (f : JFrame) (acts : List Action), f.method = m → f.locked = none → f.entered = [] → (doReturn e (T.setTop f) acts v).1 = T.setFrames fs) → Steps p.tables e below U (T.setFrames fs)) (hQ : Q v h locs) : Rch p e below (Fin s below Q k n) U := by
  obtain ⟨fs, hr, hrun, hended, hW, hsame⟩ := X.leave hv hlk
  refine ⟨_, st fs hr, _, hrun, hended, v, locs, rfl, ?_, ⟨_, rfl⟩, hW, hsame.mono hc hn⟩
  show Q v T.heap locs
  rw [eT]; exact hQ
theorem Rch.body {Q : Option Value → Heap → List Loc → Prop} {k n : Nat} {U U' : State} (h : ∀ t, Steps p.tables e below U' t → Steps p.tables e below U t) (H : Rch p e below (Fin s below Q k n) U') :
    ∃ s₂ o, Steps p.tables e below U s₂ ∧ s₂.status = .running ∧ Ended s₂ below o ∧ (∃ v L, o = .returned v ∧ Q v s₂.heap L ∧ FrameEnd s o s₂ L k n) := by
  obtain ⟨s₂, a, o, b, c, d⟩ := H; exact ⟨s₂, o, h _ a, b, c, d⟩
/-- the same, said with the wide end (a String constant may have been interned) -/
def FinW (s : State) (below : List Frame) (Q : Option Value → Heap → List Loc → Prop) (k n : Nat) (s₂ : State) : Prop :=
  ∃ o, s₂.status = .running ∧ Ended s₂ below o ∧ ∃ v L, o = .returned v ∧ Q v s₂.heap L ∧ ReturnedEndW s o s₂ L k n
theorem Rch.finW {Q : Option Value → Heap → List Loc → Prop} {k n : Nat} {U : State} {h : Heap} {vm₁ : Vm} {n1 : Nat} (X : Stand p l e R (s.setVm vm₁) m args below meth c T locs cells slots) (hlk : meth.locks = false) {v : Option Value} (hv : meth.sig.returnType = none → v = none) (eT : T.heap = h) (hc : cells ≤ k) (hn : slots ≤ n)
    (hS : s.Since vm₁ n1) (hk : n1 ≤ h.size) (st : ∀ fs, (∀ (f : JFrame) (acts : List Action), f.method = m → f.locked = none → f.entered = [] → (doReturn e (T.setTop f) acts v).1 = T.setFrames fs) → Steps p.tables e below U (T.setFrames fs)) (hQ : Q v h locs) : Rch p e below (FinW s below Q k n) U := by
  obtain ⟨fs, hr, hrun, hended, hE⟩ := X.leaveW hS (by rw [eT]; exact hk) hv hlk
  refine ⟨_, st fs hr, _, hrun, hended, v, locs, rfl, ?_, hE.1, hE.2.1, hE.2.2.1, hE.2.2.2.mono hc hn⟩
  show Q v T.heap locs
  rw [eT]; exact hQ
theorem Rch.bodyW {Q : Option Value → Heap → List Loc → Prop} {k n : Nat} {U U' : State} (h : ∀ t, Steps p.tables e below U' t → Steps p.tables e below U t) (H : Rch p e below (FinW s below Q k n) U') :
    ∃ s₂ o, Steps p.tables e below U s₂ ∧ s₂.status = .running ∧ Ended s₂ below o ∧ (∃ v L, o = .returned v ∧ Q v s₂.heap L ∧ ReturnedEndW s o s₂ L k n) := by
  obtain ⟨s₂, a, o, b, c, d⟩ := H; exact ⟨s₂, o, h _ a, b, c, d⟩
theorem nar_1 : nar .boolean 1 = 1 := rfl
theorem nar_0 : nar .boolean 0 = 0 := rfl
end New
end Jvm.RoadKit
namespace Jvm.Pilot.@@N@@
open Jvm Jvm.ClassFile Sem Op Lib Jvm.Free Jvm.Stand Jvm.LawKit Jvm.RoadKit Bundle Jvm.Pilot.@@N@@.Jvm.D
theorem wi {Z : State} {a0 : Array Value} (hw : ∀ d ∈ tables_1, d.before a0 Z = true) (i : Nat) {d : Jvm.Cond} (h : tables_1[i]? = some d) : d.before a0 Z = true := hw d (List.mem_of_getElem? h)
/-- what isValid answers -/
def own_valid (q1 q2 q3 : Int64) : Int32 := if q1 < 0 then 0 else if 30 < q1 then 0 else if q2 < 0 then 0 else if q3 < 0 then 0 else if q2 < ((1 : Int64) <<< ((q1).toInt32 &&& 0x3f).toInt64) then (if q3 < ((1 : Int64) <<< ((q1).toInt32 &&& 0x3f).toInt64) then 1 else 0) else 0
/-- what the law expects -/
def own_exp (q1 q2 q3 : Int64) : Int32 := if q1 < 0 then 0 else if 30 < q1 then 0 else if (q2 ||| q3) < 0 then 0 else if ((q2 ||| q3).toUInt64 >>> ((q1).toInt32 &&& 0x3f).toInt64.toUInt64).toInt64 = 0 then 1 else 0

theorem own_neg (x : Int64) : x < 0 ↔ 9223372036854775808 ≤ x.toBitVec.toNat := by
  rw [Int64.lt_iff_toInt_lt]
  show x.toBitVec.toInt < 0 ↔ _
  rw [BitVec.toInt_eq_toNat_cond]
  have := x.toBitVec.isLt
  split <;> omega
theorem own_pos (x : Int64) (h : ¬ x < 0) : x.toInt = x.toBitVec.toNat := by
  rw [own_neg] at h
  show x.toBitVec.toInt = _
  rw [BitVec.toInt_eq_toNat_cond]
  split <;> omega
theorem own_or_lt (X Y k : Nat) : X ||| Y < 2 ^ k ↔ X < 2 ^ k ∧ Y < 2 ^ k :=
  ⟨fun h => ⟨Nat.lt_of_le_of_lt Nat.left_le_or h, Nat.lt_of_le_of_lt Nat.right_le_or h⟩, fun h => Nat.or_lt_two_pow h.1 h.2⟩
theorem own_orv (x y : Int64) : (x ||| y).toBitVec.toNat = x.toBitVec.toNat ||| y.toBitVec.toNat := by
  rw [Int64.toBitVec_or, BitVec.toNat_or]
theorem own_or_neg (x y : Int64) : (x ||| y) < 0 ↔ x < 0 ∨ y < 0 := by
  rw [own_neg, own_neg, own_neg, own_orv]
  have h := own_or_lt x.toBitVec.toNat y.toBitVec.toNat 63
  have e : (2 ^ 63 : Nat) = 9223372036854775808 := by decide
  rw [e] at h
  omega
theorem own_shr (x : Int64) (q : Int32) (n : Nat) (hk : q.toBitVec.toNat % 64 = n) : ((x.toUInt64 >>> (q &&& 0x3f).toInt64.toUInt64).toInt64 = 0) ↔ x.toBitVec.toNat < 2 ^ n := by
  obtain ⟨h1, h2⟩ := sm64 q n hk
  have e1 : (q &&& 0x3f).toInt64.toUInt64.toNat = n := by
    show (q &&& 0x3f).toInt64.toBitVec.toNat = n
    rw [h1, BitVec.toNat_ofNat]; omega
  have e2 : (x.toUInt64 >>> (q &&& 0x3f).toInt64.toUInt64).toNat = x.toBitVec.toNat / 2 ^ n := by
    rw [UInt64.toNat_shiftRight, e1, Nat.mod_eq_of_lt h2, Nat.shiftRight_eq_div_pow]; rfl
  generalize x.toUInt64 >>> (q &&& 0x3f).toInt64.toUInt64 = y at *
  have e3 : y.toInt64 = 0 ↔ y.toNat = 0 := by
    constructor
    · intro h
      have : y = 0 := by
        have h' : y.toInt64.toUInt64 = (0 : Int64).toUInt64 := congrArg Int64.toUInt64 h
        rw [UInt64.toUInt64_toInt64] at h'
        rw [h']; rfl
      rw [this]; rfl
    · intro h
      have : y = 0 := UInt64.toNat_inj.mp (by rw [h]; rfl)
      rw [this]; rfl
  rw [e3, e2]
  constructor
  · intro h; exact (Nat.div_eq_zero_iff_lt (Nat.two_pow_pos n)).mp h
  · intro h; exact (Nat.div_eq_zero_iff_lt (Nat.two_pow_pos n)).mpr h
theorem own_shl (q : Int32) (n : Nat) (hn : n ≤ 30) (hk : q.toBitVec.toNat % 64 = n) : ((1 : Int64) <<< (q &&& 0x3f).toInt64).toInt = (2 ^ n : Nat) := by
  have h := c_lshl 1 q n hk
  have r := rng64 ((1 : Int64) <<< (q &&& 0x3f).toInt64)
  have z1 : (1 : Int64).toInt = 1 := rfl
  rw [z1] at h
  have hp : (2 ^ n : Nat) ≤ 2 ^ 30 := Nat.pow_le_pow_right (by decide) hn
  have hp0 : 0 < (2 ^ n : Nat) := Nat.two_pow_pos n
  generalize (2 ^ n : Nat) = P at *
  omega
theorem own_law (q1 q2 q3 : Int64) : own_valid q1 q2 q3 = own_exp q1 q2 q3 := by
  unfold own_valid own_exp
  by_cases h1 : q1 < 0
  · rw [if_pos h1, if_pos h1]
  rw [if_neg h1, if_neg h1]
  by_cases h2 : 30 < q1
  · rw [if_pos h2, if_pos h2]
  rw [if_neg h2, if_neg h2]
  have z0 : (0 : Int64).toInt = 0 := rfl
  have z30 : (30 : Int64).toInt = 30 := rfl
  have b1 : 0 ≤ q1.toInt := by
    have : ¬ q1.toInt < (0 : Int64).toInt := fun q => h1 (Int64.lt_iff_toInt_lt.mpr q); omega
  have b2 : q1.toInt ≤ 30 := by
    have : ¬ (30 : Int64).toInt < q1.toInt := fun q => h2 (Int64.lt_iff_toInt_lt.mpr q); omega
  obtain ⟨n, hn⟩ : ∃ n : Nat, q1.toInt = n := ⟨q1.toInt.toNat, by omega⟩
  have hi : q1.toInt32.toInt = n := by rw [XT.narrowInt ⟨by omega, by omega⟩, hn]
  have hk : q1.toInt32.toBitVec.toNat % 64 = n := by
    have e : q1.toInt32.toBitVec.toInt = n := hi
    rw [BitVec.toInt_eq_toNat_cond] at e
    have := q1.toInt32.toBitVec.isLt
    split at e <;> omega
  have hl := own_shl q1.toInt32 n (by omega) hk
  have hr := own_shr (q2 ||| q3) q1.toInt32 n hk
  generalize (1 : Int64) <<< (q1.toInt32 &&& 0x3f).toInt64 = M at *
  have ho := own_or_neg q2 q3
  have hor := own_or_lt q2.toBitVec.toNat q3.toBitVec.toNat n
  rw [own_orv] at hr
  by_cases h3 : q2 < 0
  · rw [if_pos h3, if_pos (ho.mpr (Or.inl h3))]
  rw [if_neg h3]
  by_cases h4 : q3 < 0
  · rw [if_pos h4, if_pos (ho.mpr (Or.inr h4))]
  rw [if_neg h4, if_neg (fun q => (ho.mp q).elim h3 h4)]
  have e2 := own_pos q2 h3
  have e3 := own_pos q3 h4
  have l2 : q2 < M ↔ q2.toBitVec.toNat < 2 ^ n := by rw [Int64.lt_iff_toInt_lt, e2, hl]; exact Int.ofNat_lt
  have l3 : q3 < M ↔ q3.toBitVec.toNat < 2 ^ n := by rw [Int64.lt_iff_toInt_lt, e3, hl]; exact Int.ofNat_lt
  by_cases h5 : q2 < M
  · rw [if_pos h5]
    by_cases h6 : q3 < M
    · rw [if_pos h6, if_pos (hr.mpr (hor.mpr ⟨l2.mp h5, l3.mp h6⟩))]
    · rw [if_neg h6, if_neg (fun q => h6 (l3.mpr (hor.mp (hr.mp q)).2))]
  · rw [if_neg h5, if_neg (fun q => h5 (l2.mpr (hor.mp (hr.mp q)).1))]

theorem d5_0 : decode method_3_code 0 = .ok (.lload_n 2, 1) := by decide +kernel
theorem d5_1 : decode method_3_code 1 = .ok (.ldc2_w 7, 3) := by decide +kernel
theorem d5_4 : decode method_3_code 4 = .ok (.land, 1) := by decide +kernel
theorem d5_5 : decode method_3_code 5 = .ok (.l2i, 1) := by decide +kernel
theorem d5_6 : decode method_3_code 6 = .ok (.istore 5, 2) := by decide +kernel
theorem d5_8 : decode method_3_code 8 = .ok (.iload 4, 2) := by decide +kernel
theorem d5_10 : decode method_3_code 10 = .ok (.iconst 1, 1) := by decide +kernel
theorem d5_11 : decode method_3_code 11 = .ok (.if_icmp .ne 16, 3) := by decide +kernel
theorem d5_14 : decode method_3_code 14 = .ok (.lconst 1, 1) := by decide +kernel
theorem d5_15 : decode method_3_code 15 = .ok (.iload 5, 2) := by decide +kernel
theorem d5_17 : decode method_3_code 17 = .ok (.lshl, 1) := by decide +kernel
theorem d5_18 : decode method_3_code 18 = .ok (.lload_n 0, 1) := by decide +kernel
theorem d5_19 : decode method_3_code 19 = .ok (.ldc2_w 25, 3) := by decide +kernel
theorem d5_22 : decode method_3_code 22 = .ok (.lrem, 1) := by decide +kernel
theorem d5_23 : decode method_3_code 23 = .ok (.ladd, 1) := by decide +kernel
theorem d5_24 : decode method_3_code 24 = .ok (.lconst 1, 1) := by decide +kernel
theorem d5_25 : decode method_3_code 25 = .ok (.lsub, 1) := by decide +kernel
theorem d5_26 : decode method_3_code 26 = .ok (.lreturn, 1) := by decide +kernel
theorem d5_27 : decode method_3_code 27 = .ok (.iload 4, 2) := by decide +kernel
theorem d5_29 : decode method_3_code 29 = .ok (.iconst 2, 1) := by decide +kernel
theorem d5_30 : decode method_3_code 30 = .ok (.if_icmp .ne 12, 3) := by decide +kernel
theorem d5_33 : decode method_3_code 33 = .ok (.lload_n 0, 1) := by decide +kernel
theorem d5_34 : decode method_3_code 34 = .ok (.lconst 1, 1) := by decide +kernel
theorem d5_35 : decode method_3_code 35 = .ok (.iload 5, 2) := by decide +kernel
theorem d5_37 : decode method_3_code 37 = .ok (.lshl, 1) := by decide +kernel
theorem d5_38 : decode method_3_code 38 = .ok (.lconst 1, 1) := by decide +kernel
theorem d5_39 : decode method_3_code 39 = .ok (.lsub, 1) := by decide +kernel
theorem d5_40 : decode method_3_code 40 = .ok (.land, 1) := by decide +kernel
theorem d5_41 : decode method_3_code 41 = .ok (.lreturn, 1) := by decide +kernel
theorem d5_42 : decode method_3_code 42 = .ok (.iload 4, 2) := by decide +kernel
theorem d5_44 : decode method_3_code 44 = .ok (.iconst 3, 1) := by decide +kernel
theorem d5_45 : decode method_3_code 45 = .ok (.if_icmp .ne 9, 3) := by decide +kernel
theorem d5_48 : decode method_3_code 48 = .ok (.lload_n 0, 1) := by decide +kernel
theorem d5_49 : decode method_3_code 49 = .ok (.ldc2_w 25, 3) := by decide +kernel
theorem d5_52 : decode method_3_code 52 = .ok (.lrem, 1) := by decide +kernel
theorem d5_53 : decode method_3_code 53 = .ok (.lreturn, 1) := by decide +kernel
theorem d5_54 : decode method_3_code 54 = .ok (.lload_n 0, 1) := by decide +kernel
theorem d5_55 : decode method_3_code 55 = .ok (.lreturn, 1) := by decide +kernel
theorem pn_com_example_stripeguard_stripeguard_TileIsValidPinLaw : plainName "com/example/stripeguard/stripeguard/TileIsValidPinLaw" = true := by first | (simp [plainName, overriddenIn]; done) | decide +kernel
theorem ef_rmP (m : MethodId) (q1 : Int64) (q2 : Int64) (p3 : Int32) : entryFrame m #[(.long q1), (.long q2), (.int p3)] 6 = mkF m 0 #[.val (.long q1), .second, .val (.long q2), .second, .val (.int p3), .unset] [] := by first | (simp [entryFrame, mkF, argsToLocals, Value.category]; done) | rfl
def Q_rmP (Z : State) (q1 : Int64) (q2 : Int64) (p3 : Int32) (h0 : Heap) (n0 : Nat) (v : Option Value) (h : Heap) (L : List Loc) : Prop := ∃ r : Int64, v = some (.long r) ∧ Fr n0 L ∧ h = h0
set_option maxRecDepth 65536 in
set_option maxHeartbeats 40000000 in
theorem rmP (l : Launch) (Z : State) (a0 : Array Value) (hw : ∀ d ∈ tables_1, d.before a0 Z = true) (ws : List Jvm.Cond) (q1 : Int64) (q2 : Int64) (p3 : Int32) (h0 : Heap) (n0 : Nat) (Z0 : n0 ≤ h0.size)  :
    MetFree l (⟨"com/example/stripeguard/stripeguard/TileIsValidPinLaw", "pick", "(JJI)J"⟩ : MethodName) (head1 (Jvm.Cond.code (⟨"com/example/stripeguard/stripeguard/TileIsValidPinLaw", "pick", "(JJI)J"⟩ : MethodName) method_3_code 6 (some .long) :: ws) ({ frames := 0, cells := 0, slots := 0, locals := 0 } : Room)) (fun a U => a = #[(.long q1), (.long q2), (.int p3)] ∧ Z.Warmed39 U.vm ∧ U.heap = h0) (fun _ _ _ _ _ => True) (fun _ U o U' => ∃ v L, o = .returned v ∧ Q_rmP Z q1 q2 p3 h0 n0 v U'.heap L ∧ FrameEnd U o U' L ({ frames := 0, cells := 0, slots := 0, locals := 0 } : Room).cells ({ frames := 0, cells := 0, slots := 0, locals := 0 } : Room).slots) := by
  refine MetFree.of_bodySF (plainFor_of_name pn_com_example_stripeguard_stripeguard_TileIsValidPinLaw) hisR ?_
  intro p e s m args below meth c s₁ Bd hml0 hP hK
  obtain ⟨rfl, hZ, hh⟩ := hP
  have hx := Bd.exec
  have hby := Bd.bytes
  have hml : c.maxLocals = 6 := hml0
  have hown : s.vm.findClass "com/example/stripeguard/stripeguard/TileIsValidPinLaw" = some m.cls := findClass_of_methodNamed Bd.named
  have hnm := (name_of_methodNamed Bd.named Bd.method).1
  have hret := Bd.returns
  have hlk : meth.locks = false := BodyLoose.notSynchronized Bd
  have X0 : Stand p l e ({ frames := 0, cells := 0, slots := 0, locals := 0 } : Room) s m #[(.long q1), (.long q2), (.int p3)] below meth c s₁ [] 0 0 := Stand.of_body Bd
  have e0 : s₁.heap = h0 := by rw [← hh, Bd.state]; rfl
  have N0 := Fr.nil n0
  refine Rch.body (Q := Q_rmP Z q1 q2 p3 h0 n0) (U' := s₁.setTop (mkF m 0 #[.val (.long q1), .second, .val (.long q2), .second, .val (.int p3), .unset] [])) (fun t k => castTop (ef_rmP m q1 q2 p3) k) ?_
  refine Rch.go (U' := s₁.setTop (mkF m 1 #[.val (.long q1), .second, .val (.long q2), .second, .val (.int p3), .unset] [(.long q2)])) (fun _ k => XS.lloadN X0.here hx rfl (hb hby d5_0) rfl  k) ?_
  refine Rch.go (U' := s₁.setTop (mkF m 4 #[.val (.long q1), .second, .val (.long q2), .second, .val (.int p3), .unset] [(.long (63 : Int64)), (.long q2)])) (fun _ k => X0.ldc2Long hx hown (mvT hZ (wi hw 0 rfl)) (g := (mkF m 1 #[.val (.long q1), .second, .val (.long q2), .second, .val (.int p3), .unset] [(.long q2)])) rfl (hb hby d5_1) _ k) ?_
  refine Rch.go (U' := s₁.setTop (mkF m 5 #[.val (.long q1), .second, .val (.long q2), .second, .val (.int p3), .unset] [(.long (q2 &&& (63 : Int64)))])) (fun _ k => XS.land X0.here hx rfl (hb hby d5_4) rfl k) ?_
  refine Rch.go (U' := s₁.setTop (mkF m 6 #[.val (.long q1), .second, .val (.long q2), .second, .val (.int p3), .unset] [(.int ((q2 &&& (63 : Int64))).toInt32)])) (fun _ k => XS.l2i X0.here hx rfl (hb hby d5_5) rfl k) ?_
  generalize hsh : ((q2 &&& (63 : Int64))).toInt32 = sh
  refine Rch.go (U' := s₁.setTop (mkF m 8 #[.val (.long q1), .second, .val (.long q2), .second, .val (.int p3), .val (.int sh)] [])) (fun _ k => XS.istore X0.here hx rfl (hb hby d5_6) rfl (l' := #[.val (.long q1), .second, .val (.long q2), .second, .val (.int p3), .val (.int sh)]) rfl k) ?_
  refine Rch.go (U' := s₁.setTop (mkF m 10 #[.val (.long q1), .second, .val (.long q2), .second, .val (.int p3), .val (.int sh)] [(.int p3)])) (fun _ k => XS.iload X0.here hx rfl (hb hby d5_8) rfl  k) ?_
  refine Rch.go (U' := s₁.setTop (mkF m 11 #[.val (.long q1), .second, .val (.long q2), .second, .val (.int p3), .val (.int sh)] [(.int (1 : Int32)), (.int p3)])) (fun _ k => XS.iconst X0.here hx rfl (hb hby d5_10) k) ?_
  by_cases br1 : p3 = (1 : Int32)
  ·
    refine Rch.go (U' := s₁.setTop (mkF m 14 #[.val (.long q1), .second, .val (.long q2), .second, .val (.int p3), .val (.int sh)] [])) (fun _ k => XS.icmpNo X0.here hx rfl (hb hby d5_11) rfl (XT.ii_ne_f br1) k) ?_
    refine Rch.go (U' := s₁.setTop (mkF m 15 #[.val (.long q1), .second, .val (.long q2), .second, .val (.int p3), .val (.int sh)] [(.long (1 : Int64))])) (fun _ k => XS.lconst X0.here hx rfl (hb hby d5_14) k) ?_
    refine Rch.go (U' := s₁.setTop (mkF m 17 #[.val (.long q1), .second, .val (.long q2), .second, .val (.int p3), .val (.int sh)] [(.int sh), (.long (1 : Int64))])) (fun _ k => XS.iload X0.here hx rfl (hb hby d5_15) rfl  k) ?_
    refine Rch.go (U' := s₁.setTop (mkF m 18 #[.val (.long q1), .second, .val (.long q2), .second, .val (.int p3), .val (.int sh)] [(.long ((1 : Int64) <<< (sh &&& 0x3f).toInt64))])) (fun _ k => XS.lshl X0.here hx rfl (hb hby d5_17) rfl k) ?_
    refine Rch.go (U' := s₁.setTop (mkF m 19 #[.val (.long q1), .second, .val (.long q2), .second, .val (.int p3), .val (.int sh)] [(.long q1), (.long ((1 : Int64) <<< (sh &&& 0x3f).toInt64))])) (fun _ k => XS.lloadN X0.here hx rfl (hb hby d5_18) rfl  k) ?_
    refine Rch.go (U' := s₁.setTop (mkF m 22 #[.val (.long q1), .second, .val (.long q2), .second, .val (.int p3), .val (.int sh)] [(.long (3 : Int64)), (.long q1), (.long ((1 : Int64) <<< (sh &&& 0x3f).toInt64))])) (fun _ k => X0.ldc2Long hx hown (mvT hZ (wi hw 6 rfl)) (g := (mkF m 19 #[.val (.long q1), .second, .val (.long q2), .second, .val (.int p3), .val (.int sh)] [(.long q1), (.long ((1 : Int64) <<< (sh &&& 0x3f).toInt64))])) rfl (hb hby d5_19) _ k) ?_
    refine Rch.go (U' := s₁.setTop (mkF m 23 #[.val (.long q1), .second, .val (.long q2), .second, .val (.int p3), .val (.int sh)] [(.long (q1 - (q1 / (3 : Int64)) * (3 : Int64))), (.long ((1 : Int64) <<< (sh &&& 0x3f).toInt64))])) (fun _ k => XS.lrem X0.here hx rfl (hb hby d5_22) rfl (by decide) k) ?_
    refine Rch.go (U' := s₁.setTop (mkF m 24 #[.val (.long q1), .second, .val (.long q2), .second, .val (.int p3), .val (.int sh)] [(.long (((1 : Int64) <<< (sh &&& 0x3f).toInt64) + (q1 - (q1 / (3 : Int64)) * (3 : Int64))))])) (fun _ k => XS.ladd X0.here hx rfl (hb hby d5_23) rfl k) ?_
    refine Rch.go (U' := s₁.setTop (mkF m 25 #[.val (.long q1), .second, .val (.long q2), .second, .val (.int p3), .val (.int sh)] [(.long (1 : Int64)), (.long (((1 : Int64) <<< (sh &&& 0x3f).toInt64) + (q1 - (q1 / (3 : Int64)) * (3 : Int64))))])) (fun _ k => XS.lconst X0.here hx rfl (hb hby d5_24) k) ?_
    refine Rch.go (U' := s₁.setTop (mkF m 26 #[.val (.long q1), .second, .val (.long q2), .second, .val (.int p3), .val (.int sh)] [(.long ((((1 : Int64) <<< (sh &&& 0x3f).toInt64) + (q1 - (q1 / (3 : Int64)) * (3 : Int64))) - (1 : Int64)))])) (fun _ k => XS.lsub X0.here hx rfl (hb hby d5_25) rfl k) ?_
    refine Rch.fin X0 hlk (v := some (.long ((((1 : Int64) <<< (sh &&& 0x3f).toInt64) + (q1 - (q1 / (3 : Int64)) * (3 : Int64))) - (1 : Int64)))) (fun h => by rw [hret] at h; cases h) e0 (by decide) (by decide) (fun fs hr => X0.lreturnOut hx hret (hb hby d5_26) hr) ?_
    exact ⟨_, rfl, N0, rfl⟩
  ·
    refine Rch.go (U' := s₁.setTop (mkF m 27 #[.val (.long q1), .second, .val (.long q2), .second, .val (.int p3), .val (.int sh)] [])) (fun _ k => XS.icmpYes X0.here hx rfl (pc0 := 11) (pc' := 27) rfl (hb hby d5_11) rfl (XT.ii_ne_t br1) (by decide) (by decide) k) ?_
    refine Rch.go (U' := s₁.setTop (mkF m 29 #[.val (.long q1), .second, .val (.long q2), .second, .val (.int p3), .val (.int sh)] [(.int p3)])) (fun _ k => XS.iload X0.here hx rfl (hb hby d5_27) rfl  k) ?_
    refine Rch.go (U' := s₁.setTop (mkF m 30 #[.val (.long q1), .second, .val (.long q2), .second, .val (.int p3), .val (.int sh)] [(.int (2 : Int32)), (.int p3)])) (fun _ k => XS.iconst X0.here hx rfl (hb hby d5_29) k) ?_
    by_cases br2 : p3 = (2 : Int32)
    ·
      refine Rch.go (U' := s₁.setTop (mkF m 33 #[.val (.long q1), .second, .val (.long q2), .second, .val (.int p3), .val (.int sh)] [])) (fun _ k => XS.icmpNo X0.here hx rfl (hb hby d5_30) rfl (XT.ii_ne_f br2) k) ?_
      refine Rch.go (U' := s₁.setTop (mkF m 34 #[.val (.long q1), .second, .val (.long q2), .second, .val (.int p3), .val (.int sh)] [(.long q1)])) (fun _ k => XS.lloadN X0.here hx rfl (hb hby d5_33) rfl  k) ?_
      refine Rch.go (U' := s₁.setTop (mkF m 35 #[.val (.long q1), .second, .val (.long q2), .second, .val (.int p3), .val (.int sh)] [(.long (1 : Int64)), (.long q1)])) (fun _ k => XS.lconst X0.here hx rfl (hb hby d5_34) k) ?_
      refine Rch.go (U' := s₁.setTop (mkF m 37 #[.val (.long q1), .second, .val (.long q2), .second, .val (.int p3), .val (.int sh)] [(.int sh), (.long (1 : Int64)), (.long q1)])) (fun _ k => XS.iload X0.here hx rfl (hb hby d5_35) rfl  k) ?_
      refine Rch.go (U' := s₁.setTop (mkF m 38 #[.val (.long q1), .second, .val (.long q2), .second, .val (.int p3), .val (.int sh)] [(.long ((1 : Int64) <<< (sh &&& 0x3f).toInt64)), (.long q1)])) (fun _ k => XS.lshl X0.here hx rfl (hb hby d5_37) rfl k) ?_
      refine Rch.go (U' := s₁.setTop (mkF m 39 #[.val (.long q1), .second, .val (.long q2), .second, .val (.int p3), .val (.int sh)] [(.long (1 : Int64)), (.long ((1 : Int64) <<< (sh &&& 0x3f).toInt64)), (.long q1)])) (fun _ k => XS.lconst X0.here hx rfl (hb hby d5_38) k) ?_
      refine Rch.go (U' := s₁.setTop (mkF m 40 #[.val (.long q1), .second, .val (.long q2), .second, .val (.int p3), .val (.int sh)] [(.long (((1 : Int64) <<< (sh &&& 0x3f).toInt64) - (1 : Int64))), (.long q1)])) (fun _ k => XS.lsub X0.here hx rfl (hb hby d5_39) rfl k) ?_
      refine Rch.go (U' := s₁.setTop (mkF m 41 #[.val (.long q1), .second, .val (.long q2), .second, .val (.int p3), .val (.int sh)] [(.long (q1 &&& (((1 : Int64) <<< (sh &&& 0x3f).toInt64) - (1 : Int64))))])) (fun _ k => XS.land X0.here hx rfl (hb hby d5_40) rfl k) ?_
      refine Rch.fin X0 hlk (v := some (.long (q1 &&& (((1 : Int64) <<< (sh &&& 0x3f).toInt64) - (1 : Int64))))) (fun h => by rw [hret] at h; cases h) e0 (by decide) (by decide) (fun fs hr => X0.lreturnOut hx hret (hb hby d5_41) hr) ?_
      exact ⟨_, rfl, N0, rfl⟩
    ·
      refine Rch.go (U' := s₁.setTop (mkF m 42 #[.val (.long q1), .second, .val (.long q2), .second, .val (.int p3), .val (.int sh)] [])) (fun _ k => XS.icmpYes X0.here hx rfl (pc0 := 30) (pc' := 42) rfl (hb hby d5_30) rfl (XT.ii_ne_t br2) (by decide) (by decide) k) ?_
      refine Rch.go (U' := s₁.setTop (mkF m 44 #[.val (.long q1), .second, .val (.long q2), .second, .val (.int p3), .val (.int sh)] [(.int p3)])) (fun _ k => XS.iload X0.here hx rfl (hb hby d5_42) rfl  k) ?_
      refine Rch.go (U' := s₁.setTop (mkF m 45 #[.val (.long q1), .second, .val (.long q2), .second, .val (.int p3), .val (.int sh)] [(.int (3 : Int32)), (.int p3)])) (fun _ k => XS.iconst X0.here hx rfl (hb hby d5_44) k) ?_
      by_cases br3 : p3 = (3 : Int32)
      ·
        refine Rch.go (U' := s₁.setTop (mkF m 48 #[.val (.long q1), .second, .val (.long q2), .second, .val (.int p3), .val (.int sh)] [])) (fun _ k => XS.icmpNo X0.here hx rfl (hb hby d5_45) rfl (XT.ii_ne_f br3) k) ?_
        refine Rch.go (U' := s₁.setTop (mkF m 49 #[.val (.long q1), .second, .val (.long q2), .second, .val (.int p3), .val (.int sh)] [(.long q1)])) (fun _ k => XS.lloadN X0.here hx rfl (hb hby d5_48) rfl  k) ?_
        refine Rch.go (U' := s₁.setTop (mkF m 52 #[.val (.long q1), .second, .val (.long q2), .second, .val (.int p3), .val (.int sh)] [(.long (3 : Int64)), (.long q1)])) (fun _ k => X0.ldc2Long hx hown (mvT hZ (wi hw 6 rfl)) (g := (mkF m 49 #[.val (.long q1), .second, .val (.long q2), .second, .val (.int p3), .val (.int sh)] [(.long q1)])) rfl (hb hby d5_49) _ k) ?_
        refine Rch.go (U' := s₁.setTop (mkF m 53 #[.val (.long q1), .second, .val (.long q2), .second, .val (.int p3), .val (.int sh)] [(.long (q1 - (q1 / (3 : Int64)) * (3 : Int64)))])) (fun _ k => XS.lrem X0.here hx rfl (hb hby d5_52) rfl (by decide) k) ?_
        refine Rch.fin X0 hlk (v := some (.long (q1 - (q1 / (3 : Int64)) * (3 : Int64)))) (fun h => by rw [hret] at h; cases h) e0 (by decide) (by decide) (fun fs hr => X0.lreturnOut hx hret (hb hby d5_53) hr) ?_
        exact ⟨_, rfl, N0, rfl⟩
      ·
        refine Rch.go (U' := s₁.setTop (mkF m 54 #[.val (.long q1), .second, .val (.long q2), .second, .val (.int p3), .val (.int sh)] [])) (fun _ k => XS.icmpYes X0.here hx rfl (pc0 := 45) (pc' := 54) rfl (hb hby d5_45) rfl (XT.ii_ne_t br3) (by decide) (by decide) k) ?_
        refine Rch.go (U' := s₁.setTop (mkF m 55 #[.val (.long q1), .second, .val (.long q2), .second, .val (.int p3), .val (.int sh)] [(.long q1)])) (fun _ k => XS.lloadN X0.here hx rfl (hb hby d5_54) rfl  k) ?_
        refine Rch.fin X0 hlk (v := some (.long q1)) (fun h => by rw [hret] at h; cases h) e0 (by decide) (by decide) (fun fs hr => X0.lreturnOut hx hret (hb hby d5_55) hr) ?_
        exact ⟨_, rfl, N0, rfl⟩
theorem d10_0 : decode prog_16_method_2_code 0 = .ok (.lload_n 0, 1) := by decide +kernel
theorem d10_1 : decode prog_16_method_2_code 1 = .ok (.lconst 0, 1) := by decide +kernel
theorem d10_2 : decode prog_16_method_2_code 2 = .ok (.lcmp, 1) := by decide +kernel
theorem d10_3 : decode prog_16_method_2_code 3 = .ok (.ifCond .lt 47, 3) := by decide +kernel
theorem d10_6 : decode prog_16_method_2_code 6 = .ok (.lload_n 0, 1) := by decide +kernel
theorem d10_7 : decode prog_16_method_2_code 7 = .ok (.ldc2_w 34, 3) := by decide +kernel
theorem d10_10 : decode prog_16_method_2_code 10 = .ok (.lcmp, 1) := by decide +kernel
theorem d10_11 : decode prog_16_method_2_code 11 = .ok (.ifCond .gt 39, 3) := by decide +kernel
theorem d10_14 : decode prog_16_method_2_code 14 = .ok (.lload_n 2, 1) := by decide +kernel
theorem d10_15 : decode prog_16_method_2_code 15 = .ok (.lconst 0, 1) := by decide +kernel
theorem d10_16 : decode prog_16_method_2_code 16 = .ok (.lcmp, 1) := by decide +kernel
theorem d10_17 : decode prog_16_method_2_code 17 = .ok (.ifCond .lt 33, 3) := by decide +kernel
theorem d10_20 : decode prog_16_method_2_code 20 = .ok (.lload 4, 2) := by decide +kernel
theorem d10_22 : decode prog_16_method_2_code 22 = .ok (.lconst 0, 1) := by decide +kernel
theorem d10_23 : decode prog_16_method_2_code 23 = .ok (.lcmp, 1) := by decide +kernel
theorem d10_24 : decode prog_16_method_2_code 24 = .ok (.ifCond .lt 26, 3) := by decide +kernel
theorem d10_27 : decode prog_16_method_2_code 27 = .ok (.lload_n 2, 1) := by decide +kernel
theorem d10_28 : decode prog_16_method_2_code 28 = .ok (.lconst 1, 1) := by decide +kernel
theorem d10_29 : decode prog_16_method_2_code 29 = .ok (.lload_n 0, 1) := by decide +kernel
theorem d10_30 : decode prog_16_method_2_code 30 = .ok (.l2i, 1) := by decide +kernel
theorem d10_31 : decode prog_16_method_2_code 31 = .ok (.lshl, 1) := by decide +kernel
theorem d10_32 : decode prog_16_method_2_code 32 = .ok (.lcmp, 1) := by decide +kernel
theorem d10_33 : decode prog_16_method_2_code 33 = .ok (.ifCond .ge 17, 3) := by decide +kernel
theorem d10_36 : decode prog_16_method_2_code 36 = .ok (.lload 4, 2) := by decide +kernel
theorem d10_38 : decode prog_16_method_2_code 38 = .ok (.lconst 1, 1) := by decide +kernel
theorem d10_39 : decode prog_16_method_2_code 39 = .ok (.lload_n 0, 1) := by decide +kernel
theorem d10_40 : decode prog_16_method_2_code 40 = .ok (.l2i, 1) := by decide +kernel
theorem d10_41 : decode prog_16_method_2_code 41 = .ok (.lshl, 1) := by decide +kernel
theorem d10_42 : decode prog_16_method_2_code 42 = .ok (.lcmp, 1) := by decide +kernel
theorem d10_43 : decode prog_16_method_2_code 43 = .ok (.ifCond .ge 7, 3) := by decide +kernel
theorem d10_46 : decode prog_16_method_2_code 46 = .ok (.iconst 1, 1) := by decide +kernel
theorem d10_47 : decode prog_16_method_2_code 47 = .ok (.goto 4, 3) := by decide +kernel
theorem d10_50 : decode prog_16_method_2_code 50 = .ok (.iconst 0, 1) := by decide +kernel
theorem d10_51 : decode prog_16_method_2_code 51 = .ok (.ireturn, 1) := by decide +kernel
theorem pn_com_example_stripeguard_stripeguard_FileTileCache_Tile : plainName "com/example/stripeguard/stripeguard/FileTileCache$Tile" = true := by first | (simp [plainName, overriddenIn]; done) | decide +kernel
theorem ef_rmV (m : MethodId) (q1 : Int64) (q2 : Int64) (q3 : Int64) : entryFrame m #[(.long q1), (.long q2), (.long q3)] 6 = mkF m 0 #[.val (.long q1), .second, .val (.long q2), .second, .val (.long q3), .second] [] := by first | (simp [entryFrame, mkF, argsToLocals, Value.category]; done) | rfl
def Q_rmV (Z : State) (q1 : Int64) (q2 : Int64) (q3 : Int64) (h0 : Heap) (n0 : Nat) (v : Option Value) (h : Heap) (L : List Loc) : Prop := v = some (.int (own_valid q1 q2 q3)) ∧ Fr n0 L ∧ h = h0
set_option maxRecDepth 65536 in
set_option maxHeartbeats 40000000 in
theorem rmV (l : Launch) (Z : State) (a0 : Array Value) (hw : ∀ d ∈ tables_1, d.before a0 Z = true) (ws : List Jvm.Cond) (q1 : Int64) (q2 : Int64) (q3 : Int64) (h0 : Heap) (n0 : Nat) (Z0 : n0 ≤ h0.size)  :
    MetFree l (⟨"com/example/stripeguard/stripeguard/FileTileCache$Tile", "isValid", "(JJJ)Z"⟩ : MethodName) (head1 (Jvm.Cond.code (⟨"com/example/stripeguard/stripeguard/FileTileCache$Tile", "isValid", "(JJJ)Z"⟩ : MethodName) prog_16_method_2_code 6 (some .boolean) :: ws) ({ frames := 0, cells := 0, slots := 0, locals := 0 } : Room)) (fun a U => a = #[(.long q1), (.long q2), (.long q3)] ∧ Z.Warmed39 U.vm ∧ U.heap = h0) (fun _ _ _ _ _ => True) (fun _ U o U' => ∃ v L, o = .returned v ∧ Q_rmV Z q1 q2 q3 h0 n0 v U'.heap L ∧ FrameEnd U o U' L ({ frames := 0, cells := 0, slots := 0, locals := 0 } : Room).cells ({ frames := 0, cells := 0, slots := 0, locals := 0 } : Room).slots) := by
  refine MetFree.of_bodySF (plainFor_of_name pn_com_example_stripeguard_stripeguard_FileTileCache_Tile) hisR ?_
  intro p e s m args below meth c s₁ Bd hml0 hP hK
  obtain ⟨rfl, hZ, hh⟩ := hP
  have hx := Bd.exec
  have hby := Bd.bytes
  have hml : c.maxLocals = 6 := hml0
  have hown : s.vm.findClass "com/example/stripeguard/stripeguard/FileTileCache$Tile" = some m.cls := findClass_of_methodNamed Bd.named
  have hnm := (name_of_methodNamed Bd.named Bd.method).1
  have hret := Bd.returns
  have hlk : meth.locks = false := BodyLoose.notSynchronized Bd
  have X0 : Stand p l e ({ frames := 0, cells := 0, slots := 0, locals := 0 } : Room) s m #[(.long q1), (.long q2), (.long q3)] below meth c s₁ [] 0 0 := Stand.of_body Bd
  have e0 : s₁.heap = h0 := by rw [← hh, Bd.state]; rfl
  have N0 := Fr.nil n0
  refine Rch.body (Q := Q_rmV Z q1 q2 q3 h0 n0) (U' := s₁.setTop (mkF m 0 #[.val (.long q1), .second, .val (.long q2), .second, .val (.long q3), .second] [])) (fun t k => castTop (ef_rmV m q1 q2 q3) k) ?_
  refine Rch.go (U' := s₁.setTop (mkF m 1 #[.val (.long q1), .second, .val (.long q2), .second, .val (.long q3), .second] [(.long q1)])) (fun _ k => XS.lloadN X0.here hx rfl (hb hby d10_0) rfl  k) ?_
  refine Rch.go (U' := s₁.setTop (mkF m 2 #[.val (.long q1), .second, .val (.long q2), .second, .val (.long q3), .second] [(.long (0 : Int64)), (.long q1)])) (fun _ k => XS.lconst X0.here hx rfl (hb hby d10_1) k) ?_
  refine Rch.go (U' := s₁.setTop (mkF m 3 #[.val (.long q1), .second, .val (.long q2), .second, .val (.long q3), .second] [(.int (XT.cmpL q1 (0 : Int64)))])) (fun _ k => XT.lcmp X0.here hx rfl (hb hby d10_2) rfl k) ?_
  by_cases br4 : q1 < (0 : Int64)
  ·
    refine Rch.go (U' := s₁.setTop (mkF m 50 #[.val (.long q1), .second, .val (.long q2), .second, .val (.long q3), .second] [])) (fun _ k => XS.ifYes X0.here hx rfl (pc0 := 3) (pc' := 50) rfl (hb hby d10_3) rfl (XT.ll_lt_t br4) (by decide) (by decide) k) ?_
    refine Rch.go (U' := s₁.setTop (mkF m 51 #[.val (.long q1), .second, .val (.long q2), .second, .val (.long q3), .second] [(.int (0 : Int32))])) (fun _ k => XS.iconst X0.here hx rfl (hb hby d10_50) k) ?_
    refine Rch.fin X0 hlk (v := some (.int (nar .boolean (0 : Int32)))) (fun h => by rw [hret] at h; cases h) e0 (by decide) (by decide) (fun fs hr => retN X0 hx (t := .boolean) hret (by simp) (hb hby d10_51) hr) ?_
    exact ⟨by simp only [own_valid, br4, nar_1, nar_0, ↓reduceIte], N0, rfl⟩
  ·
    refine Rch.go (U' := s₁.setTop (mkF m 6 #[.val (.long q1), .second, .val (.long q2), .second, .val (.long q3), .second] [])) (fun _ k => XS.ifNo X0.here hx rfl (hb hby d10_3) rfl (XT.ll_lt_f br4) k) ?_
    refine Rch.go (U' := s₁.setTop (mkF m 7 #[.val (.long q1), .second, .val (.long q2), .second, .val (.long q3), .second] [(.long q1)])) (fun _ k => XS.lloadN X0.here hx rfl (hb hby d10_6) rfl  k) ?_
    refine Rch.go (U' := s₁.setTop (mkF m 10 #[.val (.long q1), .second, .val (.long q2), .second, .val (.long q3), .second] [(.long (30 : Int64)), (.long q1)])) (fun _ k => X0.ldc2Long hx hown (mvT hZ (wi hw 11 rfl)) (g := (mkF m 7 #[.val (.long q1), .second, .val (.long q2), .second, .val (.long q3), .second] [(.long q1)])) rfl (hb hby d10_7) _ k) ?_
    refine Rch.go (U' := s₁.setTop (mkF m 11 #[.val (.long q1), .second, .val (.long q2), .second, .val (.long q3), .second] [(.int (XT.cmpL q1 (30 : Int64)))])) (fun _ k => XT.lcmp X0.here hx rfl (hb hby d10_10) rfl k) ?_
    by_cases br5 : (30 : Int64) < q1
    ·
      refine Rch.go (U' := s₁.setTop (mkF m 50 #[.val (.long q1), .second, .val (.long q2), .second, .val (.long q3), .second] [])) (fun _ k => XS.ifYes X0.here hx rfl (pc0 := 11) (pc' := 50) rfl (hb hby d10_11) rfl (XT.ll_gt_t br5) (by decide) (by decide) k) ?_
      refine Rch.go (U' := s₁.setTop (mkF m 51 #[.val (.long q1), .second, .val (.long q2), .second, .val (.long q3), .second] [(.int (0 : Int32))])) (fun _ k => XS.iconst X0.here hx rfl (hb hby d10_50) k) ?_
      refine Rch.fin X0 hlk (v := some (.int (nar .boolean (0 : Int32)))) (fun h => by rw [hret] at h; cases h) e0 (by decide) (by decide) (fun fs hr => retN X0 hx (t := .boolean) hret (by simp) (hb hby d10_51) hr) ?_
      exact ⟨by simp only [own_valid, br4, br5, nar_1, nar_0, ↓reduceIte], N0, rfl⟩
    ·
      refine Rch.go (U' := s₁.setTop (mkF m 14 #[.val (.long q1), .second, .val (.long q2), .second, .val (.long q3), .second] [])) (fun _ k => XS.ifNo X0.here hx rfl (hb hby d10_11) rfl (XT.ll_gt_f br5) k) ?_
      refine Rch.go (U' := s₁.setTop (mkF m 15 #[.val (.long q1), .second, .val (.long q2), .second, .val (.long q3), .second] [(.long q2)])) (fun _ k => XS.lloadN X0.here hx rfl (hb hby d10_14) rfl  k) ?_
      refine Rch.go (U' := s₁.setTop (mkF m 16 #[.val (.long q1), .second, .val (.long q2), .second, .val (.long q3), .second] [(.long (0 : Int64)), (.long q2)])) (fun _ k => XS.lconst X0.here hx rfl (hb hby d10_15) k) ?_
      refine Rch.go (U' := s₁.setTop (mkF m 17 #[.val (.long q1), .second, .val (.long q2), .second, .val (.long q3), .second] [(.int (XT.cmpL q2 (0 : Int64)))])) (fun _ k => XT.lcmp X0.here hx rfl (hb hby d10_16) rfl k) ?_
      by_cases br6 : q2 < (0 : Int64)
      ·
        refine Rch.go (U' := s₁.setTop (mkF m 50 #[.val (.long q1), .second, .val (.long q2), .second, .val (.long q3), .second] [])) (fun _ k => XS.ifYes X0.here hx rfl (pc0 := 17) (pc' := 50) rfl (hb hby d10_17) rfl (XT.ll_lt_t br6) (by decide) (by decide) k) ?_
        refine Rch.go (U' := s₁.setTop (mkF m 51 #[.val (.long q1), .second, .val (.long q2), .second, .val (.long q3), .second] [(.int (0 : Int32))])) (fun _ k => XS.iconst X0.here hx rfl (hb hby d10_50) k) ?_
        refine Rch.fin X0 hlk (v := some (.int (nar .boolean (0 : Int32)))) (fun h => by rw [hret] at h; cases h) e0 (by decide) (by decide) (fun fs hr => retN X0 hx (t := .boolean) hret (by simp) (hb hby d10_51) hr) ?_
        exact ⟨by simp only [own_valid, br4, br5, br6, nar_1, nar_0, ↓reduceIte], N0, rfl⟩
      ·
        refine Rch.go (U' := s₁.setTop (mkF m 20 #[.val (.long q1), .second, .val (.long q2), .second, .val (.long q3), .second] [])) (fun _ k => XS.ifNo X0.here hx rfl (hb hby d10_17) rfl (XT.ll_lt_f br6) k) ?_
        refine Rch.go (U' := s₁.setTop (mkF m 22 #[.val (.long q1), .second, .val (.long q2), .second, .val (.long q3), .second] [(.long q3)])) (fun _ k => XS.lload X0.here hx rfl (hb hby d10_20) rfl  k) ?_
        refine Rch.go (U' := s₁.setTop (mkF m 23 #[.val (.long q1), .second, .val (.long q2), .second, .val (.long q3), .second] [(.long (0 : Int64)), (.long q3)])) (fun _ k => XS.lconst X0.here hx rfl (hb hby d10_22) k) ?_
        refine Rch.go (U' := s₁.setTop (mkF m 24 #[.val (.long q1), .second, .val (.long q2), .second, .val (.long q3), .second] [(.int (XT.cmpL q3 (0 : Int64)))])) (fun _ k => XT.lcmp X0.here hx rfl (hb hby d10_23) rfl k) ?_
        by_cases br7 : q3 < (0 : Int64)
        ·
          refine Rch.go (U' := s₁.setTop (mkF m 50 #[.val (.long q1), .second, .val (.long q2), .second, .val (.long q3), .second] [])) (fun _ k => XS.ifYes X0.here hx rfl (pc0 := 24) (pc' := 50) rfl (hb hby d10_24) rfl (XT.ll_lt_t br7) (by decide) (by decide) k) ?_
          refine Rch.go (U' := s₁.setTop (mkF m 51 #[.val (.long q1), .second, .val (.long q2), .second, .val (.long q3), .second] [(.int (0 : Int32))])) (fun _ k => XS.iconst X0.here hx rfl (hb hby d10_50) k) ?_
          refine Rch.fin X0 hlk (v := some (.int (nar .boolean (0 : Int32)))) (fun h => by rw [hret] at h; cases h) e0 (by decide) (by decide) (fun fs hr => retN X0 hx (t := .boolean) hret (by simp) (hb hby d10_51) hr) ?_
          exact ⟨by simp only [own_valid, br4, br5, br6, br7, nar_1, nar_0, ↓reduceIte], N0, rfl⟩
        ·
          refine Rch.go (U' := s₁.setTop (mkF m 27 #[.val (.long q1), .second, .val (.long q2), .second, .val (.long q3), .second] [])) (fun _ k => XS.ifNo X0.here hx rfl (hb hby d10_24) rfl (XT.ll_lt_f br7) k) ?_
          refine Rch.go (U' := s₁.setTop (mkF m 28 #[.val (.long q1), .second, .val (.long q2), .second, .val (.long q3), .second] [(.long q2)])) (fun _ k => XS.lloadN X0.here hx rfl (hb hby d10_27) rfl  k) ?_
          refine Rch.go (U' := s₁.setTop (mkF m 29 #[.val (.long q1), .second, .val (.long q2), .second, .val (.long q3), .second] [(.long (1 : Int64)), (.long q2)])) (fun _ k => XS.lconst X0.here hx rfl (hb hby d10_28) k) ?_
          refine Rch.go (U' := s₁.setTop (mkF m 30 #[.val (.long q1), .second, .val (.long q2), .second, .val (.long q3), .second] [(.long q1), (.long (1 : Int64)), (.long q2)])) (fun _ k => XS.lloadN X0.here hx rfl (hb hby d10_29) rfl  k) ?_
          refine Rch.go (U' := s₁.setTop (mkF m 31 #[.val (.long q1), .second, .val (.long q2), .second, .val (.long q3), .second] [(.int (q1).toInt32), (.long (1 : Int64)), (.long q2)])) (fun _ k => XS.l2i X0.here hx rfl (hb hby d10_30) rfl k) ?_
          refine Rch.go (U' := s₁.setTop (mkF m 32 #[.val (.long q1), .second, .val (.long q2), .second, .val (.long q3), .second] [(.long ((1 : Int64) <<< ((q1).toInt32 &&& 0x3f).toInt64)), (.long q2)])) (fun _ k => XS.lshl X0.here hx rfl (hb hby d10_31) rfl k) ?_
          refine Rch.go (U' := s₁.setTop (mkF m 33 #[.val (.long q1), .second, .val (.long q2), .second, .val (.long q3), .second] [(.int (XT.cmpL q2 ((1 : Int64) <<< ((q1).toInt32 &&& 0x3f).toInt64)))])) (fun _ k => XT.lcmp X0.here hx rfl (hb hby d10_32) rfl k) ?_
          by_cases br8 : q2 < ((1 : Int64) <<< ((q1).toInt32 &&& 0x3f).toInt64)
          ·
            refine Rch.go (U' := s₁.setTop (mkF m 36 #[.val (.long q1), .second, .val (.long q2), .second, .val (.long q3), .second] [])) (fun _ k => XS.ifNo X0.here hx rfl (hb hby d10_33) rfl (XT.ll_ge_f br8) k) ?_
            refine Rch.go (U' := s₁.setTop (mkF m 38 #[.val (.long q1), .second, .val (.long q2), .second, .val (.long q3), .second] [(.long q3)])) (fun _ k => XS.lload X0.here hx rfl (hb hby d10_36) rfl  k) ?_
            refine Rch.go (U' := s₁.setTop (mkF m 39 #[.val (.long q1), .second, .val (.long q2), .second, .val (.long q3), .second] [(.long (1 : Int64)), (.long q3)])) (fun _ k => XS.lconst X0.here hx rfl (hb hby d10_38) k) ?_
            refine Rch.go (U' := s₁.setTop (mkF m 40 #[.val (.long q1), .second, .val (.long q2), .second, .val (.long q3), .second] [(.long q1), (.long (1 : Int64)), (.long q3)])) (fun _ k => XS.lloadN X0.here hx rfl (hb hby d10_39) rfl  k) ?_
            refine Rch.go (U' := s₁.setTop (mkF m 41 #[.val (.long q1), .second, .val (.long q2), .second, .val (.long q3), .second] [(.int (q1).toInt32), (.long (1 : Int64)), (.long q3)])) (fun _ k => XS.l2i X0.here hx rfl (hb hby d10_40) rfl k) ?_
            refine Rch.go (U' := s₁.setTop (mkF m 42 #[.val (.long q1), .second, .val (.long q2), .second, .val (.long q3), .second] [(.long ((1 : Int64) <<< ((q1).toInt32 &&& 0x3f).toInt64)), (.long q3)])) (fun _ k => XS.lshl X0.here hx rfl (hb hby d10_41) rfl k) ?_
            refine Rch.go (U' := s₁.setTop (mkF m 43 #[.val (.long q1), .second, .val (.long q2), .second, .val (.long q3), .second] [(.int (XT.cmpL q3 ((1 : Int64) <<< ((q1).toInt32 &&& 0x3f).toInt64)))])) (fun _ k => XT.lcmp X0.here hx rfl (hb hby d10_42) rfl k) ?_
            by_cases br9 : q3 < ((1 : Int64) <<< ((q1).toInt32 &&& 0x3f).toInt64)
            ·
              refine Rch.go (U' := s₁.setTop (mkF m 46 #[.val (.long q1), .second, .val (.long q2), .second, .val (.long q3), .second] [])) (fun _ k => XS.ifNo X0.here hx rfl (hb hby d10_43) rfl (XT.ll_ge_f br9) k) ?_
              refine Rch.go (U' := s₁.setTop (mkF m 47 #[.val (.long q1), .second, .val (.long q2), .second, .val (.long q3), .second] [(.int (1 : Int32))])) (fun _ k => XS.iconst X0.here hx rfl (hb hby d10_46) k) ?_
              refine Rch.go (U' := s₁.setTop (mkF m 51 #[.val (.long q1), .second, .val (.long q2), .second, .val (.long q3), .second] [(.int (1 : Int32))])) (fun _ k => XS.goto X0.here hx rfl (pc0 := 47) (pc' := 51) rfl (hb hby d10_47) (by decide) (by decide) k) ?_
              refine Rch.fin X0 hlk (v := some (.int (nar .boolean (1 : Int32)))) (fun h => by rw [hret] at h; cases h) e0 (by decide) (by decide) (fun fs hr => retN X0 hx (t := .boolean) hret (by simp) (hb hby d10_51) hr) ?_
              exact ⟨by simp only [own_valid, br4, br5, br6, br7, br8, br9, nar_1, nar_0, ↓reduceIte], N0, rfl⟩
            ·
              refine Rch.go (U' := s₁.setTop (mkF m 50 #[.val (.long q1), .second, .val (.long q2), .second, .val (.long q3), .second] [])) (fun _ k => XS.ifYes X0.here hx rfl (pc0 := 43) (pc' := 50) rfl (hb hby d10_43) rfl (XT.ll_ge_t br9) (by decide) (by decide) k) ?_
              refine Rch.go (U' := s₁.setTop (mkF m 51 #[.val (.long q1), .second, .val (.long q2), .second, .val (.long q3), .second] [(.int (0 : Int32))])) (fun _ k => XS.iconst X0.here hx rfl (hb hby d10_50) k) ?_
              refine Rch.fin X0 hlk (v := some (.int (nar .boolean (0 : Int32)))) (fun h => by rw [hret] at h; cases h) e0 (by decide) (by decide) (fun fs hr => retN X0 hx (t := .boolean) hret (by simp) (hb hby d10_51) hr) ?_
              exact ⟨by simp only [own_valid, br4, br5, br6, br7, br8, br9, nar_1, nar_0, ↓reduceIte], N0, rfl⟩
          ·
            refine Rch.go (U' := s₁.setTop (mkF m 50 #[.val (.long q1), .second, .val (.long q2), .second, .val (.long q3), .second] [])) (fun _ k => XS.ifYes X0.here hx rfl (pc0 := 33) (pc' := 50) rfl (hb hby d10_33) rfl (XT.ll_ge_t br8) (by decide) (by decide) k) ?_
            refine Rch.go (U' := s₁.setTop (mkF m 51 #[.val (.long q1), .second, .val (.long q2), .second, .val (.long q3), .second] [(.int (0 : Int32))])) (fun _ k => XS.iconst X0.here hx rfl (hb hby d10_50) k) ?_
            refine Rch.fin X0 hlk (v := some (.int (nar .boolean (0 : Int32)))) (fun h => by rw [hret] at h; cases h) e0 (by decide) (by decide) (fun fs hr => retN X0 hx (t := .boolean) hret (by simp) (hb hby d10_51) hr) ?_
            exact ⟨by simp only [own_valid, br4, br5, br6, br7, br8, nar_1, nar_0, ↓reduceIte], N0, rfl⟩
theorem pd_2 : parseMethodDescriptor "(JJI)J" = some ⟨[.long, .long, .int], some .long⟩ := by decide +kernel
theorem pd_3 : parseMethodDescriptor "(JJJ)Z" = some ⟨[.long, .long, .long], some .boolean⟩ := by decide +kernel
set_option maxRecDepth 65536 in
set_option maxHeartbeats 40000000 in
theorem cut22 {p : Program} {l : Launch} {e : Env} {s : State} {m : MethodId} {args : Array Value} {below : List Frame} {meth : Method} {c : Code} {T0 : State} {locs : List Loc} {Z : State} {a0 : Array Value} {h0 : Heap} {n0 : Nat}  (q1 : Int64) (q2 : Int64) (q3 : Int64) (p4 : Int32) (zz : Int64)
    (X0 : Stand p l e room_1 s m args below meth c T0 locs 0 0) (hx : p.tables.exec = Jvm.exec) (hZ : Z.Warmed39 s.vm) (hw : ∀ d ∈ tables_1, d.before a0 Z = true) (hby : c.code = code) (hml : c.maxLocals = 17) (hown : s.vm.findClass "com/example/stripeguard/stripeguard/TileIsValidPinLaw" = some m.cls) (hret : meth.sig.returnType = some .boolean) (hlk : meth.locks = false) (e0 : T0.heap = h0) (N0 : Fr n0 locs) (Z0 : n0 ≤ h0.size)  :
    Rch p e below (Fin s below (fun v h L => v = some (.int 1) ∧ Fr n0 L) 0 0) (T0.setTop (mkF m 22 #[.val (.long q1), .second, .val (.long q2), .second, .val (.long q3), .second, .val (.int p4), .val (.long zz), .second, .unset, .unset, .unset, .unset, .unset, .unset, .unset, .unset] [])) := by
  refine Rch.go (U' := T0.setTop (mkF m 23 #[.val (.long q1), .second, .val (.long q2), .second, .val (.long q3), .second, .val (.int p4), .val (.long zz), .second, .unset, .unset, .unset, .unset, .unset, .unset, .unset, .unset] [(.long q2)])) (fun _ k => XS.lloadN X0.here hx rfl (hb hby at_22) rfl  k) ?_
  refine Rch.go (U' := T0.setTop (mkF m 25 #[.val (.long q1), .second, .val (.long q2), .second, .val (.long q3), .second, .val (.int p4), .val (.long zz), .second, .unset, .unset, .unset, .unset, .unset, .unset, .unset, .unset] [(.long zz), (.long q2)])) (fun _ k => XS.lload X0.here hx rfl (hb hby at_23) rfl  k) ?_
  refine Rch.go (U' := T0.setTop (mkF m 27 #[.val (.long q1), .second, .val (.long q2), .second, .val (.long q3), .second, .val (.int p4), .val (.long zz), .second, .unset, .unset, .unset, .unset, .unset, .unset, .unset, .unset] [(.int p4), (.long zz), (.long q2)])) (fun _ k => XS.iload X0.here hx rfl (hb hby at_25) rfl  k) ?_
  refine Rch.go (U' := T0.setTop (mkF m 28 #[.val (.long q1), .second, .val (.long q2), .second, .val (.long q3), .second, .val (.int p4), .val (.long zz), .second, .unset, .unset, .unset, .unset, .unset, .unset, .unset, .unset] [(.int (1 : Int32)), (.int p4), (.long zz), (.long q2)])) (fun _ k => XS.iconst X0.here hx rfl (hb hby at_27) k) ?_
  refine Rch.go (U' := T0.setTop (mkF m 29 #[.val (.long q1), .second, .val (.long q2), .second, .val (.long q3), .second, .val (.int p4), .val (.long zz), .second, .unset, .unset, .unset, .unset, .unset, .unset, .unset, .unset] [(.int ((p4).toUInt32 >>> ((1 : Int32) &&& 31).toUInt32).toInt32), (.long zz), (.long q2)])) (fun _ k => XS.iushr X0.here hx rfl (hb hby at_28) rfl k) ?_
  refine Rch.go (U' := T0.setTop (mkF m 30 #[.val (.long q1), .second, .val (.long q2), .second, .val (.long q3), .second, .val (.int p4), .val (.long zz), .second, .unset, .unset, .unset, .unset, .unset, .unset, .unset, .unset] [(.int (3 : Int32)), (.int ((p4).toUInt32 >>> ((1 : Int32) &&& 31).toUInt32).toInt32), (.long zz), (.long q2)])) (fun _ k => XS.iconst X0.here hx rfl (hb hby at_29) k) ?_
  refine Rch.go (U' := T0.setTop (mkF m 31 #[.val (.long q1), .second, .val (.long q2), .second, .val (.long q3), .second, .val (.int p4), .val (.long zz), .second, .unset, .unset, .unset, .unset, .unset, .unset, .unset, .unset] [(.int (((p4).toUInt32 >>> ((1 : Int32) &&& 31).toUInt32).toInt32 &&& (3 : Int32))), (.long zz), (.long q2)])) (fun _ k => XS.iand X0.here hx rfl (hb hby at_30) rfl k) ?_
  obtain ⟨_, _, ⟨T10, L10, k10, n10⟩, -, X10, ⟨Lc10, hQ10, l10, y10, z10⟩, st10⟩ := Jvm.LawKit.callS X0 hx (y := (⟨"com/example/stripeguard/stripeguard/TileIsValidPinLaw", "pick", "(JJI)J"⟩ : MethodName)) hown (mvT hZ (wi hw 2 rfl)) (mvT hZ (wi hw 3 rfl)) (mvT hZ (wi hw 4 rfl)) (mvT hZ (wi hw 5 rfl)) (by decide) (backOf (W := 0) (rmP l Z a0 hw [] q2 zz (((p4).toUInt32 >>> ((1 : Int32) &&& 31).toUInt32).toInt32 &&& (3 : Int32)) h0 n0 Z0 ) hZ (wi hw 5 rfl) (wi hw 4 rfl) (by decide) (by decide)) (g := (mkF m 31 #[.val (.long q1), .second, .val (.long q2), .second, .val (.long q3), .second, .val (.int p4), .val (.long zz), .second, .unset, .unset, .unset, .unset, .unset, .unset, .unset, .unset] [(.int (((p4).toUInt32 >>> ((1 : Int32) &&& 31).toUInt32).toInt32 &&& (3 : Int32))), (.long zz), (.long q2)])) rfl (by rw [hml]; rfl) (argsL := [(.long q2), (.long zz), (.int (((p4).toUInt32 >>> ((1 : Int32) &&& 31).toUInt32).toInt32 &&& (3 : Int32)))]) (rest := []) (lenOf pd_2 rfl) rfl (by show 2 * 0 + _ ≤ _; exact Nat.le_of_eq rfl) (hb hby at_31) (fun _ _ => ⟨rfl, e0, (by decide : 0 + 0 ≤ _), (by decide : 0 + 0 ≤ _)⟩)
  dsimp only [Pt.U, Pt.locs, Pt.cells, Pt.slots] at X10 l10 y10 z10 st10 hQ10
  subst l10 y10 z10
  obtain ⟨r10, rfl, N10q, e10⟩ := hQ10
  have N10 := Fr.app N0 N10q
  refine Rch.go (U' := T10.setTop (mkF m 34 #[.val (.long q1), .second, .val (.long q2), .second, .val (.long q3), .second, .val (.int p4), .val (.long zz), .second, .unset, .unset, .unset, .unset, .unset, .unset, .unset, .unset] [(.long r10)])) st10 ?_
  refine Rch.go (U' := T10.setTop (mkF m 36 #[.val (.long q1), .second, .val (.long q2), .second, .val (.long q3), .second, .val (.int p4), .val (.long zz), .second, .val (.long r10), .second, .unset, .unset, .unset, .unset, .unset, .unset] [])) (fun _ k => XS.lstore X10.here hx rfl (hb hby at_34) rfl (l' := #[.val (.long q1), .second, .val (.long q2), .second, .val (.long q3), .second, .val (.int p4), .val (.long zz), .second, .val (.long r10), .second, .unset, .unset, .unset, .unset, .unset, .unset]) rfl k) ?_
  refine Rch.go (U' := T10.setTop (mkF m 38 #[.val (.long q1), .second, .val (.long q2), .second, .val (.long q3), .second, .val (.int p4), .val (.long zz), .second, .val (.long r10), .second, .unset, .unset, .unset, .unset, .unset, .unset] [(.long q3)])) (fun _ k => XS.lload X10.here hx rfl (hb hby at_36) rfl  k) ?_
  refine Rch.go (U' := T10.setTop (mkF m 40 #[.val (.long q1), .second, .val (.long q2), .second, .val (.long q3), .second, .val (.int p4), .val (.long zz), .second, .val (.long r10), .second, .unset, .unset, .unset, .unset, .unset, .unset] [(.long zz), (.long q3)])) (fun _ k => XS.lload X10.here hx rfl (hb hby at_38) rfl  k) ?_
  refine Rch.go (U' := T10.setTop (mkF m 42 #[.val (.long q1), .second, .val (.long q2), .second, .val (.long q3), .second, .val (.int p4), .val (.long zz), .second, .val (.long r10), .second, .unset, .unset, .unset, .unset, .unset, .unset] [(.int p4), (.long zz), (.long q3)])) (fun _ k => XS.iload X10.here hx rfl (hb hby at_40) rfl  k) ?_
  refine Rch.go (U' := T10.setTop (mkF m 43 #[.val (.long q1), .second, .val (.long q2), .second, .val (.long q3), .second, .val (.int p4), .val (.long zz), .second, .val (.long r10), .second, .unset, .unset, .unset, .unset, .unset, .unset] [(.int (3 : Int32)), (.int p4), (.long zz), (.long q3)])) (fun _ k => XS.iconst X10.here hx rfl (hb hby at_42) k) ?_
  refine Rch.go (U' := T10.setTop (mkF m 44 #[.val (.long q1), .second, .val (.long q2), .second, .val (.long q3), .second, .val (.int p4), .val (.long zz), .second, .val (.long r10), .second, .unset, .unset, .unset, .unset, .unset, .unset] [(.int ((p4).toUInt32 >>> ((3 : Int32) &&& 31).toUInt32).toInt32), (.long zz), (.long q3)])) (fun _ k => XS.iushr X10.here hx rfl (hb hby at_43) rfl k) ?_
  refine Rch.go (U' := T10.setTop (mkF m 45 #[.val (.long q1), .second, .val (.long q2), .second, .val (.long q3), .second, .val (.int p4), .val (.long zz), .second, .val (.long r10), .second, .unset, .unset, .unset, .unset, .unset, .unset] [(.int (3 : Int32)), (.int ((p4).toUInt32 >>> ((3 : Int32) &&& 31).toUInt32).toInt32), (.long zz), (.long q3)])) (fun _ k => XS.iconst X10.here hx rfl (hb hby at_44) k) ?_
  refine Rch.go (U' := T10.setTop (mkF m 46 #[.val (.long q1), .second, .val (.long q2), .second, .val (.long q3), .second, .val (.int p4), .val (.long zz), .second, .val (.long r10), .second, .unset, .unset, .unset, .unset, .unset, .unset] [(.int (((p4).toUInt32 >>> ((3 : Int32) &&& 31).toUInt32).toInt32 &&& (3 : Int32))), (.long zz), (.long q3)])) (fun _ k => XS.iand X10.here hx rfl (hb hby at_45) rfl k) ?_
  obtain ⟨_, _, ⟨T11, L11, k11, n11⟩, -, X11, ⟨Lc11, hQ11, l11, y11, z11⟩, st11⟩ := Jvm.LawKit.callS X10 hx (y := (⟨"com/example/stripeguard/stripeguard/TileIsValidPinLaw", "pick", "(JJI)J"⟩ : MethodName)) hown (mvT hZ (wi hw 2 rfl)) (mvT hZ (wi hw 3 rfl)) (mvT hZ (wi hw 4 rfl)) (mvT hZ (wi hw 5 rfl)) (by decide) (backOf (W := 0) (rmP l Z a0 hw [] q3 zz (((p4).toUInt32 >>> ((3 : Int32) &&& 31).toUInt32).toInt32 &&& (3 : Int32)) h0 n0 Z0 ) hZ (wi hw 5 rfl) (wi hw 4 rfl) (by decide) (by decide)) (g := (mkF m 46 #[.val (.long q1), .second, .val (.long q2), .second, .val (.long q3), .second, .val (.int p4), .val (.long zz), .second, .val (.long r10), .second, .unset, .unset, .unset, .unset, .unset, .unset] [(.int (((p4).toUInt32 >>> ((3 : Int32) &&& 31).toUInt32).toInt32 &&& (3 : Int32))), (.long zz), (.long q3)])) rfl (by rw [hml]; rfl) (argsL := [(.long q3), (.long zz), (.int (((p4).toUInt32 >>> ((3 : Int32) &&& 31).toUInt32).toInt32 &&& (3 : Int32)))]) (rest := []) (lenOf pd_2 rfl) rfl (by show 2 * 0 + _ ≤ _; exact Nat.le_of_eq rfl) (hb hby at_46) (fun _ _ => ⟨rfl, e10, (by decide : 0 + 0 ≤ _), (by decide : 0 + 0 ≤ _)⟩)
  dsimp only [Pt.U, Pt.locs, Pt.cells, Pt.slots] at X11 l11 y11 z11 st11 hQ11
  subst l11 y11 z11
  obtain ⟨r11, rfl, N11q, e11⟩ := hQ11
  have N11 := Fr.app N10 N11q
  refine Rch.go (U' := T11.setTop (mkF m 49 #[.val (.long q1), .second, .val (.long q2), .second, .val (.long q3), .second, .val (.int p4), .val (.long zz), .second, .val (.long r10), .second, .unset, .unset, .unset, .unset, .unset, .unset] [(.long r11)])) st11 ?_
  refine Rch.go (U' := T11.setTop (mkF m 51 #[.val (.long q1), .second, .val (.long q2), .second, .val (.long q3), .second, .val (.int p4), .val (.long zz), .second, .val (.long r10), .second, .val (.long r11), .second, .unset, .unset, .unset, .unset] [])) (fun _ k => XS.lstore X11.here hx rfl (hb hby at_49) rfl (l' := #[.val (.long q1), .second, .val (.long q2), .second, .val (.long q3), .second, .val (.int p4), .val (.long zz), .second, .val (.long r10), .second, .val (.long r11), .second, .unset, .unset, .unset, .unset]) rfl k) ?_
  refine Rch.go (U' := T11.setTop (mkF m 53 #[.val (.long q1), .second, .val (.long q2), .second, .val (.long q3), .second, .val (.int p4), .val (.long zz), .second, .val (.long r10), .second, .val (.long r11), .second, .unset, .unset, .unset, .unset] [(.long zz)])) (fun _ k => XS.lload X11.here hx rfl (hb hby at_51) rfl  k) ?_
  refine Rch.go (U' := T11.setTop (mkF m 55 #[.val (.long q1), .second, .val (.long q2), .second, .val (.long q3), .second, .val (.int p4), .val (.long zz), .second, .val (.long r10), .second, .val (.long r11), .second, .unset, .unset, .unset, .unset] [(.long r10), (.long zz)])) (fun _ k => XS.lload X11.here hx rfl (hb hby at_53) rfl  k) ?_
  refine Rch.go (U' := T11.setTop (mkF m 57 #[.val (.long q1), .second, .val (.long q2), .second, .val (.long q3), .second, .val (.int p4), .val (.long zz), .second, .val (.long r10), .second, .val (.long r11), .second, .unset, .unset, .unset, .unset] [(.long r11), (.long r10), (.long zz)])) (fun _ k => XS.lload X11.here hx rfl (hb hby at_55) rfl  k) ?_
  obtain ⟨_, _, ⟨T12, L12, k12, n12⟩, -, X12, ⟨Lc12, hQ12, l12, y12, z12⟩, st12⟩ := Jvm.LawKit.callS X11 hx (y := (⟨"com/example/stripeguard/stripeguard/FileTileCache$Tile", "isValid", "(JJJ)Z"⟩ : MethodName)) hown (mvT hZ (wi hw 7 rfl)) (mvT hZ (wi hw 8 rfl)) (mvT hZ (wi hw 9 rfl)) (mvT hZ (wi hw 10 rfl)) (by decide) (backOf (W := 0) (rmV l Z a0 hw [] zz r10 r11 h0 n0 Z0 ) hZ (wi hw 10 rfl) (wi hw 9 rfl) (by decide) (by decide)) (g := (mkF m 57 #[.val (.long q1), .second, .val (.long q2), .second, .val (.long q3), .second, .val (.int p4), .val (.long zz), .second, .val (.long r10), .second, .val (.long r11), .second, .unset, .unset, .unset, .unset] [(.long r11), (.long r10), (.long zz)])) rfl (by rw [hml]; rfl) (argsL := [(.long zz), (.long r10), (.long r11)]) (rest := []) (lenOf pd_3 rfl) rfl (by show 2 * 0 + _ ≤ _; exact Nat.le_of_eq rfl) (hb hby at_57) (fun _ _ => ⟨rfl, e11, (by decide : 0 + 0 ≤ _), (by decide : 0 + 0 ≤ _)⟩)
  dsimp only [Pt.U, Pt.locs, Pt.cells, Pt.slots] at X12 l12 y12 z12 st12 hQ12
  subst l12 y12 z12
  obtain ⟨rfl, N12q, e12⟩ := hQ12
  have N12 := Fr.app N11 N12q
  refine Rch.go (U' := T12.setTop (mkF m 60 #[.val (.long q1), .second, .val (.long q2), .second, .val (.long q3), .second, .val (.int p4), .val (.long zz), .second, .val (.long r10), .second, .val (.long r11), .second, .unset, .unset, .unset, .unset] [(.int (own_valid zz r10 r11))])) st12 ?_
  refine Rch.go (U' := T12.setTop (mkF m 62 #[.val (.long q1), .second, .val (.long q2), .second, .val (.long q3), .second, .val (.int p4), .val (.long zz), .second, .val (.long r10), .second, .val (.long r11), .second, .val (.int (own_valid zz r10 r11)), .unset, .unset, .unset] [])) (fun _ k => XS.istore X12.here hx rfl (hb hby at_60) rfl (l' := #[.val (.long q1), .second, .val (.long q2), .second, .val (.long q3), .second, .val (.int p4), .val (.long zz), .second, .val (.long r10), .second, .val (.long r11), .second, .val (.int (own_valid zz r10 r11)), .unset, .unset, .unset]) rfl k) ?_
  refine Rch.go (U' := T12.setTop (mkF m 64 #[.val (.long q1), .second, .val (.long q2), .second, .val (.long q3), .second, .val (.int p4), .val (.long zz), .second, .val (.long r10), .second, .val (.long r11), .second, .val (.int (own_valid zz r10 r11)), .unset, .unset, .unset] [(.long zz)])) (fun _ k => XS.lload X12.here hx rfl (hb hby at_62) rfl  k) ?_
  refine Rch.go (U' := T12.setTop (mkF m 65 #[.val (.long q1), .second, .val (.long q2), .second, .val (.long q3), .second, .val (.int p4), .val (.long zz), .second, .val (.long r10), .second, .val (.long r11), .second, .val (.int (own_valid zz r10 r11)), .unset, .unset, .unset] [(.long (0 : Int64)), (.long zz)])) (fun _ k => XS.lconst X12.here hx rfl (hb hby at_64) k) ?_
  refine Rch.go (U' := T12.setTop (mkF m 66 #[.val (.long q1), .second, .val (.long q2), .second, .val (.long q3), .second, .val (.int p4), .val (.long zz), .second, .val (.long r10), .second, .val (.long r11), .second, .val (.int (own_valid zz r10 r11)), .unset, .unset, .unset] [(.int (XT.cmpL zz (0 : Int64)))])) (fun _ k => XT.lcmp X12.here hx rfl (hb hby at_65) rfl k) ?_
  by_cases br13 : zz < (0 : Int64)
  ·
    refine Rch.go (U' := T12.setTop (mkF m 78 #[.val (.long q1), .second, .val (.long q2), .second, .val (.long q3), .second, .val (.int p4), .val (.long zz), .second, .val (.long r10), .second, .val (.long r11), .second, .val (.int (own_valid zz r10 r11)), .unset, .unset, .unset] [])) (fun _ k => XS.ifYes X12.here hx rfl (pc0 := 66) (pc' := 78) rfl (hb hby at_66) rfl (XT.ll_lt_t br13) (by decide) (by decide) k) ?_
    refine Rch.go (U' := T12.setTop (mkF m 79 #[.val (.long q1), .second, .val (.long q2), .second, .val (.long q3), .second, .val (.int p4), .val (.long zz), .second, .val (.long r10), .second, .val (.long r11), .second, .val (.int (own_valid zz r10 r11)), .unset, .unset, .unset] [(.int (0 : Int32))])) (fun _ k => XS.iconst X12.here hx rfl (hb hby at_78) k) ?_
    refine Rch.go (U' := T12.setTop (mkF m 81 #[.val (.long q1), .second, .val (.long q2), .second, .val (.long q3), .second, .val (.int p4), .val (.long zz), .second, .val (.long r10), .second, .val (.long r11), .second, .val (.int (own_valid zz r10 r11)), .val (.int (0 : Int32)), .unset, .unset] [])) (fun _ k => XS.istore X12.here hx rfl (hb hby at_79) rfl (l' := #[.val (.long q1), .second, .val (.long q2), .second, .val (.long q3), .second, .val (.int p4), .val (.long zz), .second, .val (.long r10), .second, .val (.long r11), .second, .val (.int (own_valid zz r10 r11)), .val (.int (0 : Int32)), .unset, .unset]) rfl k) ?_
    refine Rch.go (U' := T12.setTop (mkF m 116 #[.val (.long q1), .second, .val (.long q2), .second, .val (.long q3), .second, .val (.int p4), .val (.long zz), .second, .val (.long r10), .second, .val (.long r11), .second, .val (.int (own_valid zz r10 r11)), .val (.int (0 : Int32)), .unset, .unset] [])) (fun _ k => XS.goto X12.here hx rfl (pc0 := 81) (pc' := 116) rfl (hb hby at_81) (by decide) (by decide) k) ?_
    refine Rch.go (U' := T12.setTop (mkF m 118 #[.val (.long q1), .second, .val (.long q2), .second, .val (.long q3), .second, .val (.int p4), .val (.long zz), .second, .val (.long r10), .second, .val (.long r11), .second, .val (.int (own_valid zz r10 r11)), .val (.int (0 : Int32)), .unset, .unset] [(.int (own_valid zz r10 r11))])) (fun _ k => XS.iload X12.here hx rfl (hb hby at_116) rfl  k) ?_
    refine Rch.go (U' := T12.setTop (mkF m 120 #[.val (.long q1), .second, .val (.long q2), .second, .val (.long q3), .second, .val (.int p4), .val (.long zz), .second, .val (.long r10), .second, .val (.long r11), .second, .val (.int (own_valid zz r10 r11)), .val (.int (0 : Int32)), .unset, .unset] [(.int (0 : Int32)), (.int (own_valid zz r10 r11))])) (fun _ k => XS.iload X12.here hx rfl (hb hby at_118) rfl  k) ?_
    have br14 : (own_valid zz r10 r11) = (0 : Int32) := (own_law _ _ _).trans (by simp only [own_exp, br13, ↓reduceIte])
    refine Rch.go (U' := T12.setTop (mkF m 123 #[.val (.long q1), .second, .val (.long q2), .second, .val (.long q3), .second, .val (.int p4), .val (.long zz), .second, .val (.long r10), .second, .val (.long r11), .second, .val (.int (own_valid zz r10 r11)), .val (.int (0 : Int32)), .unset, .unset] [])) (fun _ k => XS.icmpNo X12.here hx rfl (hb hby at_120) rfl (XT.ii_ne_f br14) k) ?_
    refine Rch.go (U' := T12.setTop (mkF m 124 #[.val (.long q1), .second, .val (.long q2), .second, .val (.long q3), .second, .val (.int p4), .val (.long zz), .second, .val (.long r10), .second, .val (.long r11), .second, .val (.int (own_valid zz r10 r11)), .val (.int (0 : Int32)), .unset, .unset] [(.int (1 : Int32))])) (fun _ k => XS.iconst X12.here hx rfl (hb hby at_123) k) ?_
    refine Rch.go (U' := T12.setTop (mkF m 128 #[.val (.long q1), .second, .val (.long q2), .second, .val (.long q3), .second, .val (.int p4), .val (.long zz), .second, .val (.long r10), .second, .val (.long r11), .second, .val (.int (own_valid zz r10 r11)), .val (.int (0 : Int32)), .unset, .unset] [(.int (1 : Int32))])) (fun _ k => XS.goto X12.here hx rfl (pc0 := 124) (pc' := 128) rfl (hb hby at_124) (by decide) (by decide) k) ?_
    refine Rch.fin X12 hlk (v := some (.int (nar .boolean (1 : Int32)))) (fun h => by rw [hret] at h; cases h) e12 (by decide) (by decide) (fun fs hr => retN X12 hx (t := .boolean) hret (by simp) (hb hby at_128) hr) ?_
    exact ⟨rfl, N12⟩
  ·
    refine Rch.go (U' := T12.setTop (mkF m 69 #[.val (.long q1), .second, .val (.long q2), .second, .val (.long q3), .second, .val (.int p4), .val (.long zz), .second, .val (.long r10), .second, .val (.long r11), .second, .val (.int (own_valid zz r10 r11)), .unset, .unset, .unset] [])) (fun _ k => XS.ifNo X12.here hx rfl (hb hby at_66) rfl (XT.ll_lt_f br13) k) ?_
    refine Rch.go (U' := T12.setTop (mkF m 71 #[.val (.long q1), .second, .val (.long q2), .second, .val (.long q3), .second, .val (.int p4), .val (.long zz), .second, .val (.long r10), .second, .val (.long r11), .second, .val (.int (own_valid zz r10 r11)), .unset, .unset, .unset] [(.long zz)])) (fun _ k => XS.lload X12.here hx rfl (hb hby at_69) rfl  k) ?_
    refine Rch.go (U' := T12.setTop (mkF m 74 #[.val (.long q1), .second, .val (.long q2), .second, .val (.long q3), .second, .val (.int p4), .val (.long zz), .second, .val (.long r10), .second, .val (.long r11), .second, .val (.int (own_valid zz r10 r11)), .unset, .unset, .unset] [(.long (30 : Int64)), (.long zz)])) (fun _ k => X12.ldc2Long hx hown (mvT hZ (wi hw 12 rfl)) (g := (mkF m 71 #[.val (.long q1), .second, .val (.long q2), .second, .val (.long q3), .second, .val (.int p4), .val (.long zz), .second, .val (.long r10), .second, .val (.long r11), .second, .val (.int (own_valid zz r10 r11)), .unset, .unset, .unset] [(.long zz)])) rfl (hb hby at_71) _ k) ?_
    refine Rch.go (U' := T12.setTop (mkF m 75 #[.val (.long q1), .second, .val (.long q2), .second, .val (.long q3), .second, .val (.int p4), .val (.long zz), .second, .val (.long r10), .second, .val (.long r11), .second, .val (.int (own_valid zz r10 r11)), .unset, .unset, .unset] [(.int (XT.cmpL zz (30 : Int64)))])) (fun _ k => XT.lcmp X12.here hx rfl (hb hby at_74) rfl k) ?_
    by_cases br15 : (30 : Int64) < zz
    ·
      refine Rch.go (U' := T12.setTop (mkF m 78 #[.val (.long q1), .second, .val (.long q2), .second, .val (.long q3), .second, .val (.int p4), .val (.long zz), .second, .val (.long r10), .second, .val (.long r11), .second, .val (.int (own_valid zz r10 r11)), .unset, .unset, .unset] [])) (fun _ k => XS.ifNo X12.here hx rfl (hb hby at_75) rfl (XT.ll_le_f br15) k) ?_
      refine Rch.go (U' := T12.setTop (mkF m 79 #[.val (.long q1), .second, .val (.long q2), .second, .val (.long q3), .second, .val (.int p4), .val (.long zz), .second, .val (.long r10), .second, .val (.long r11), .second, .val (.int (own_valid zz r10 r11)), .unset, .unset, .unset] [(.int (0 : Int32))])) (fun _ k => XS.iconst X12.here hx rfl (hb hby at_78) k) ?_
      refine Rch.go (U' := T12.setTop (mkF m 81 #[.val (.long q1), .second, .val (.long q2), .second, .val (.long q3), .second, .val (.int p4), .val (.long zz), .second, .val (.long r10), .second, .val (.long r11), .second, .val (.int (own_valid zz r10 r11)), .val (.int (0 : Int32)), .unset, .unset] [])) (fun _ k => XS.istore X12.here hx rfl (hb hby at_79) rfl (l' := #[.val (.long q1), .second, .val (.long q2), .second, .val (.long q3), .second, .val (.int p4), .val (.long zz), .second, .val (.long r10), .second, .val (.long r11), .second, .val (.int (own_valid zz r10 r11)), .val (.int (0 : Int32)), .unset, .unset]) rfl k) ?_
      refine Rch.go (U' := T12.setTop (mkF m 116 #[.val (.long q1), .second, .val (.long q2), .second, .val (.long q3), .second, .val (.int p4), .val (.long zz), .second, .val (.long r10), .second, .val (.long r11), .second, .val (.int (own_valid zz r10 r11)), .val (.int (0 : Int32)), .unset, .unset] [])) (fun _ k => XS.goto X12.here hx rfl (pc0 := 81) (pc' := 116) rfl (hb hby at_81) (by decide) (by decide) k) ?_
      refine Rch.go (U' := T12.setTop (mkF m 118 #[.val (.long q1), .second, .val (.long q2), .second, .val (.long q3), .second, .val (.int p4), .val (.long zz), .second, .val (.long r10), .second, .val (.long r11), .second, .val (.int (own_valid zz r10 r11)), .val (.int (0 : Int32)), .unset, .unset] [(.int (own_valid zz r10 r11))])) (fun _ k => XS.iload X12.here hx rfl (hb hby at_116) rfl  k) ?_
      refine Rch.go (U' := T12.setTop (mkF m 120 #[.val (.long q1), .second, .val (.long q2), .second, .val (.long q3), .second, .val (.int p4), .val (.long zz), .second, .val (.long r10), .second, .val (.long r11), .second, .val (.int (own_valid zz r10 r11)), .val (.int (0 : Int32)), .unset, .unset] [(.int (0 : Int32)), (.int (own_valid zz r10 r11))])) (fun _ k => XS.iload X12.here hx rfl (hb hby at_118) rfl  k) ?_
      have br16 : (own_valid zz r10 r11) = (0 : Int32) := (own_law _ _ _).trans (by simp only [own_exp, br13, br15, ↓reduceIte])
      refine Rch.go (U' := T12.setTop (mkF m 123 #[.val (.long q1), .second, .val (.long q2), .second, .val (.long q3), .second, .val (.int p4), .val (.long zz), .second, .val (.long r10), .second, .val (.long r11), .second, .val (.int (own_valid zz r10 r11)), .val (.int (0 : Int32)), .unset, .unset] [])) (fun _ k => XS.icmpNo X12.here hx rfl (hb hby at_120) rfl (XT.ii_ne_f br16) k) ?_
      refine Rch.go (U' := T12.setTop (mkF m 124 #[.val (.long q1), .second, .val (.long q2), .second, .val (.long q3), .second, .val (.int p4), .val (.long zz), .second, .val (.long r10), .second, .val (.long r11), .second, .val (.int (own_valid zz r10 r11)), .val (.int (0 : Int32)), .unset, .unset] [(.int (1 : Int32))])) (fun _ k => XS.iconst X12.here hx rfl (hb hby at_123) k) ?_
      refine Rch.go (U' := T12.setTop (mkF m 128 #[.val (.long q1), .second, .val (.long q2), .second, .val (.long q3), .second, .val (.int p4), .val (.long zz), .second, .val (.long r10), .second, .val (.long r11), .second, .val (.int (own_valid zz r10 r11)), .val (.int (0 : Int32)), .unset, .unset] [(.int (1 : Int32))])) (fun _ k => XS.goto X12.here hx rfl (pc0 := 124) (pc' := 128) rfl (hb hby at_124) (by decide) (by decide) k) ?_
      refine Rch.fin X12 hlk (v := some (.int (nar .boolean (1 : Int32)))) (fun h => by rw [hret] at h; cases h) e12 (by decide) (by decide) (fun fs hr => retN X12 hx (t := .boolean) hret (by simp) (hb hby at_128) hr) ?_
      exact ⟨rfl, N12⟩
    ·
      refine Rch.go (U' := T12.setTop (mkF m 84 #[.val (.long q1), .second, .val (.long q2), .second, .val (.long q3), .second, .val (.int p4), .val (.long zz), .second, .val (.long r10), .second, .val (.long r11), .second, .val (.int (own_valid zz r10 r11)), .unset, .unset, .unset] [])) (fun _ k => XS.ifYes X12.here hx rfl (pc0 := 75) (pc' := 84) rfl (hb hby at_75) rfl (XT.ll_le_t br15) (by decide) (by decide) k) ?_
      refine Rch.go (U' := T12.setTop (mkF m 86 #[.val (.long q1), .second, .val (.long q2), .second, .val (.long q3), .second, .val (.int p4), .val (.long zz), .second, .val (.long r10), .second, .val (.long r11), .second, .val (.int (own_valid zz r10 r11)), .unset, .unset, .unset] [(.long r10)])) (fun _ k => XS.lload X12.here hx rfl (hb hby at_84) rfl  k) ?_
      refine Rch.go (U' := T12.setTop (mkF m 88 #[.val (.long q1), .second, .val (.long q2), .second, .val (.long q3), .second, .val (.int p4), .val (.long zz), .second, .val (.long r10), .second, .val (.long r11), .second, .val (.int (own_valid zz r10 r11)), .unset, .unset, .unset] [(.long r11), (.long r10)])) (fun _ k => XS.lload X12.here hx rfl (hb hby at_86) rfl  k) ?_
      refine Rch.go (U' := T12.setTop (mkF m 89 #[.val (.long q1), .second, .val (.long q2), .second, .val (.long q3), .second, .val (.int p4), .val (.long zz), .second, .val (.long r10), .second, .val (.long r11), .second, .val (.int (own_valid zz r10 r11)), .unset, .unset, .unset] [(.long (r10 ||| r11))])) (fun _ k => XS.lor X12.here hx rfl (hb hby at_88) rfl k) ?_
      refine Rch.go (U' := T12.setTop (mkF m 91 #[.val (.long q1), .second, .val (.long q2), .second, .val (.long q3), .second, .val (.int p4), .val (.long zz), .second, .val (.long r10), .second, .val (.long r11), .second, .val (.int (own_valid zz r10 r11)), .unset, .val (.long (r10 ||| r11)), .second] [])) (fun _ k => XS.lstore X12.here hx rfl (hb hby at_89) rfl (l' := #[.val (.long q1), .second, .val (.long q2), .second, .val (.long q3), .second, .val (.int p4), .val (.long zz), .second, .val (.long r10), .second, .val (.long r11), .second, .val (.int (own_valid zz r10 r11)), .unset, .val (.long (r10 ||| r11)), .second]) rfl k) ?_
      refine Rch.go (U' := T12.setTop (mkF m 93 #[.val (.long q1), .second, .val (.long q2), .second, .val (.long q3), .second, .val (.int p4), .val (.long zz), .second, .val (.long r10), .second, .val (.long r11), .second, .val (.int (own_valid zz r10 r11)), .unset, .val (.long (r10 ||| r11)), .second] [(.long (r10 ||| r11))])) (fun _ k => XS.lload X12.here hx rfl (hb hby at_91) rfl  k) ?_
      refine Rch.go (U' := T12.setTop (mkF m 94 #[.val (.long q1), .second, .val (.long q2), .second, .val (.long q3), .second, .val (.int p4), .val (.long zz), .second, .val (.long r10), .second, .val (.long r11), .second, .val (.int (own_valid zz r10 r11)), .unset, .val (.long (r10 ||| r11)), .second] [(.long (0 : Int64)), (.long (r10 ||| r11))])) (fun _ k => XS.lconst X12.here hx rfl (hb hby at_93) k) ?_
      refine Rch.go (U' := T12.setTop (mkF m 95 #[.val (.long q1), .second, .val (.long q2), .second, .val (.long q3), .second, .val (.int p4), .val (.long zz), .second, .val (.long r10), .second, .val (.long r11), .second, .val (.int (own_valid zz r10 r11)), .unset, .val (.long (r10 ||| r11)), .second] [(.int (XT.cmpL (r10 ||| r11) (0 : Int64)))])) (fun _ k => XT.lcmp X12.here hx rfl (hb hby at_94) rfl k) ?_
      by_cases br17 : (r10 ||| r11) < (0 : Int64)
      ·
        refine Rch.go (U' := T12.setTop (mkF m 113 #[.val (.long q1), .second, .val (.long q2), .second, .val (.long q3), .second, .val (.int p4), .val (.long zz), .second, .val (.long r10), .second, .val (.long r11), .second, .val (.int (own_valid zz r10 r11)), .unset, .val (.long (r10 ||| r11)), .second] [])) (fun _ k => XS.ifYes X12.here hx rfl (pc0 := 95) (pc' := 113) rfl (hb hby at_95) rfl (XT.ll_lt_t br17) (by decide) (by decide) k) ?_
        refine Rch.go (U' := T12.setTop (mkF m 114 #[.val (.long q1), .second, .val (.long q2), .second, .val (.long q3), .second, .val (.int p4), .val (.long zz), .second, .val (.long r10), .second, .val (.long r11), .second, .val (.int (own_valid zz r10 r11)), .unset, .val (.long (r10 ||| r11)), .second] [(.int (0 : Int32))])) (fun _ k => XS.iconst X12.here hx rfl (hb hby at_113) k) ?_
        refine Rch.go (U' := T12.setTop (mkF m 116 #[.val (.long q1), .second, .val (.long q2), .second, .val (.long q3), .second, .val (.int p4), .val (.long zz), .second, .val (.long r10), .second, .val (.long r11), .second, .val (.int (own_valid zz r10 r11)), .val (.int (0 : Int32)), .val (.long (r10 ||| r11)), .second] [])) (fun _ k => XS.istore X12.here hx rfl (hb hby at_114) rfl (l' := #[.val (.long q1), .second, .val (.long q2), .second, .val (.long q3), .second, .val (.int p4), .val (.long zz), .second, .val (.long r10), .second, .val (.long r11), .second, .val (.int (own_valid zz r10 r11)), .val (.int (0 : Int32)), .val (.long (r10 ||| r11)), .second]) rfl k) ?_
        refine Rch.go (U' := T12.setTop (mkF m 118 #[.val (.long q1), .second, .val (.long q2), .second, .val (.long q3), .second, .val (.int p4), .val (.long zz), .second, .val (.long r10), .second, .val (.long r11), .second, .val (.int (own_valid zz r10 r11)), .val (.int (0 : Int32)), .val (.long (r10 ||| r11)), .second] [(.int (own_valid zz r10 r11))])) (fun _ k => XS.iload X12.here hx rfl (hb hby at_116) rfl  k) ?_
        refine Rch.go (U' := T12.setTop (mkF m 120 #[.val (.long q1), .second, .val (.long q2), .second, .val (.long q3), .second, .val (.int p4), .val (.long zz), .second, .val (.long r10), .second, .val (.long r11), .second, .val (.int (own_valid zz r10 r11)), .val (.int (0 : Int32)), .val (.long (r10 ||| r11)), .second] [(.int (0 : Int32)), (.int (own_valid zz r10 r11))])) (fun _ k => XS.iload X12.here hx rfl (hb hby at_118) rfl  k) ?_
        have br18 : (own_valid zz r10 r11) = (0 : Int32) := (own_law _ _ _).trans (by simp only [own_exp, br13, br15, br17, ↓reduceIte])
        refine Rch.go (U' := T12.setTop (mkF m 123 #[.val (.long q1), .second, .val (.long q2), .second, .val (.long q3), .second, .val (.int p4), .val (.long zz), .second, .val (.long r10), .second, .val (.long r11), .second, .val (.int (own_valid zz r10 r11)), .val (.int (0 : Int32)), .val (.long (r10 ||| r11)), .second] [])) (fun _ k => XS.icmpNo X12.here hx rfl (hb hby at_120) rfl (XT.ii_ne_f br18) k) ?_
        refine Rch.go (U' := T12.setTop (mkF m 124 #[.val (.long q1), .second, .val (.long q2), .second, .val (.long q3), .second, .val (.int p4), .val (.long zz), .second, .val (.long r10), .second, .val (.long r11), .second, .val (.int (own_valid zz r10 r11)), .val (.int (0 : Int32)), .val (.long (r10 ||| r11)), .second] [(.int (1 : Int32))])) (fun _ k => XS.iconst X12.here hx rfl (hb hby at_123) k) ?_
        refine Rch.go (U' := T12.setTop (mkF m 128 #[.val (.long q1), .second, .val (.long q2), .second, .val (.long q3), .second, .val (.int p4), .val (.long zz), .second, .val (.long r10), .second, .val (.long r11), .second, .val (.int (own_valid zz r10 r11)), .val (.int (0 : Int32)), .val (.long (r10 ||| r11)), .second] [(.int (1 : Int32))])) (fun _ k => XS.goto X12.here hx rfl (pc0 := 124) (pc' := 128) rfl (hb hby at_124) (by decide) (by decide) k) ?_
        refine Rch.fin X12 hlk (v := some (.int (nar .boolean (1 : Int32)))) (fun h => by rw [hret] at h; cases h) e12 (by decide) (by decide) (fun fs hr => retN X12 hx (t := .boolean) hret (by simp) (hb hby at_128) hr) ?_
        exact ⟨rfl, N12⟩
      ·
        refine Rch.go (U' := T12.setTop (mkF m 98 #[.val (.long q1), .second, .val (.long q2), .second, .val (.long q3), .second, .val (.int p4), .val (.long zz), .second, .val (.long r10), .second, .val (.long r11), .second, .val (.int (own_valid zz r10 r11)), .unset, .val (.long (r10 ||| r11)), .second] [])) (fun _ k => XS.ifNo X12.here hx rfl (hb hby at_95) rfl (XT.ll_lt_f br17) k) ?_
        refine Rch.go (U' := T12.setTop (mkF m 100 #[.val (.long q1), .second, .val (.long q2), .second, .val (.long q3), .second, .val (.int p4), .val (.long zz), .second, .val (.long r10), .second, .val (.long r11), .second, .val (.int (own_valid zz r10 r11)), .unset, .val (.long (r10 ||| r11)), .second] [(.long (r10 ||| r11))])) (fun _ k => XS.lload X12.here hx rfl (hb hby at_98) rfl  k) ?_
        refine Rch.go (U' := T12.setTop (mkF m 102 #[.val (.long q1), .second, .val (.long q2), .second, .val (.long q3), .second, .val (.int p4), .val (.long zz), .second, .val (.long r10), .second, .val (.long r11), .second, .val (.int (own_valid zz r10 r11)), .unset, .val (.long (r10 ||| r11)), .second] [(.long zz), (.long (r10 ||| r11))])) (fun _ k => XS.lload X12.here hx rfl (hb hby at_100) rfl  k) ?_
        refine Rch.go (U' := T12.setTop (mkF m 103 #[.val (.long q1), .second, .val (.long q2), .second, .val (.long q3), .second, .val (.int p4), .val (.long zz), .second, .val (.long r10), .second, .val (.long r11), .second, .val (.int (own_valid zz r10 r11)), .unset, .val (.long (r10 ||| r11)), .second] [(.int (zz).toInt32), (.long (r10 ||| r11))])) (fun _ k => XS.l2i X12.here hx rfl (hb hby at_102) rfl k) ?_
        refine Rch.go (U' := T12.setTop (mkF m 104 #[.val (.long q1), .second, .val (.long q2), .second, .val (.long q3), .second, .val (.int p4), .val (.long zz), .second, .val (.long r10), .second, .val (.long r11), .second, .val (.int (own_valid zz r10 r11)), .unset, .val (.long (r10 ||| r11)), .second] [(.long (((r10 ||| r11)).toUInt64 >>> ((zz).toInt32 &&& 0x3f).toInt64.toUInt64).toInt64)])) (fun _ k => XS.lushr X12.here hx rfl (hb hby at_103) rfl k) ?_
        refine Rch.go (U' := T12.setTop (mkF m 105 #[.val (.long q1), .second, .val (.long q2), .second, .val (.long q3), .second, .val (.int p4), .val (.long zz), .second, .val (.long r10), .second, .val (.long r11), .second, .val (.int (own_valid zz r10 r11)), .unset, .val (.long (r10 ||| r11)), .second] [(.long (0 : Int64)), (.long (((r10 ||| r11)).toUInt64 >>> ((zz).toInt32 &&& 0x3f).toInt64.toUInt64).toInt64)])) (fun _ k => XS.lconst X12.here hx rfl (hb hby at_104) k) ?_
        refine Rch.go (U' := T12.setTop (mkF m 106 #[.val (.long q1), .second, .val (.long q2), .second, .val (.long q3), .second, .val (.int p4), .val (.long zz), .second, .val (.long r10), .second, .val (.long r11), .second, .val (.int (own_valid zz r10 r11)), .unset, .val (.long (r10 ||| r11)), .second] [(.int (XT.cmpL (((r10 ||| r11)).toUInt64 >>> ((zz).toInt32 &&& 0x3f).toInt64.toUInt64).toInt64 (0 : Int64)))])) (fun _ k => XT.lcmp X12.here hx rfl (hb hby at_105) rfl k) ?_
        by_cases br19 : (((r10 ||| r11)).toUInt64 >>> ((zz).toInt32 &&& 0x3f).toInt64.toUInt64).toInt64 = (0 : Int64)
        ·
          refine Rch.go (U' := T12.setTop (mkF m 109 #[.val (.long q1), .second, .val (.long q2), .second, .val (.long q3), .second, .val (.int p4), .val (.long zz), .second, .val (.long r10), .second, .val (.long r11), .second, .val (.int (own_valid zz r10 r11)), .unset, .val (.long (r10 ||| r11)), .second] [])) (fun _ k => XS.ifNo X12.here hx rfl (hb hby at_106) rfl (XT.ll_ne_f br19) k) ?_
          refine Rch.go (U' := T12.setTop (mkF m 110 #[.val (.long q1), .second, .val (.long q2), .second, .val (.long q3), .second, .val (.int p4), .val (.long zz), .second, .val (.long r10), .second, .val (.long r11), .second, .val (.int (own_valid zz r10 r11)), .unset, .val (.long (r10 ||| r11)), .second] [(.int (1 : Int32))])) (fun _ k => XS.iconst X12.here hx rfl (hb hby at_109) k) ?_
          refine Rch.go (U' := T12.setTop (mkF m 114 #[.val (.long q1), .second, .val (.long q2), .second, .val (.long q3), .second, .val (.int p4), .val (.long zz), .second, .val (.long r10), .second, .val (.long r11), .second, .val (.int (own_valid zz r10 r11)), .unset, .val (.long (r10 ||| r11)), .second] [(.int (1 : Int32))])) (fun _ k => XS.goto X12.here hx rfl (pc0 := 110) (pc' := 114) rfl (hb hby at_110) (by decide) (by decide) k) ?_
          refine Rch.go (U' := T12.setTop (mkF m 116 #[.val (.long q1), .second, .val (.long q2), .second, .val (.long q3), .second, .val (.int p4), .val (.long zz), .second, .val (.long r10), .second, .val (.long r11), .second, .val (.int (own_valid zz r10 r11)), .val (.int (1 : Int32)), .val (.long (r10 ||| r11)), .second] [])) (fun _ k => XS.istore X12.here hx rfl (hb hby at_114) rfl (l' := #[.val (.long q1), .second, .val (.long q2), .second, .val (.long q3), .second, .val (.int p4), .val (.long zz), .second, .val (.long r10), .second, .val (.long r11), .second, .val (.int (own_valid zz r10 r11)), .val (.int (1 : Int32)), .val (.long (r10 ||| r11)), .second]) rfl k) ?_
          refine Rch.go (U' := T12.setTop (mkF m 118 #[.val (.long q1), .second, .val (.long q2), .second, .val (.long q3), .second, .val (.int p4), .val (.long zz), .second, .val (.long r10), .second, .val (.long r11), .second, .val (.int (own_valid zz r10 r11)), .val (.int (1 : Int32)), .val (.long (r10 ||| r11)), .second] [(.int (own_valid zz r10 r11))])) (fun _ k => XS.iload X12.here hx rfl (hb hby at_116) rfl  k) ?_
          refine Rch.go (U' := T12.setTop (mkF m 120 #[.val (.long q1), .second, .val (.long q2), .second, .val (.long q3), .second, .val (.int p4), .val (.long zz), .second, .val (.long r10), .second, .val (.long r11), .second, .val (.int (own_valid zz r10 r11)), .val (.int (1 : Int32)), .val (.long (r10 ||| r11)), .second] [(.int (1 : Int32)), (.int (own_valid zz r10 r11))])) (fun _ k => XS.iload X12.here hx rfl (hb hby at_118) rfl  k) ?_
          have br20 : (own_valid zz r10 r11) = (1 : Int32) := (own_law _ _ _).trans (by simp only [own_exp, br13, br15, br17, br19, ↓reduceIte])
          refine Rch.go (U' := T12.setTop (mkF m 123 #[.val (.long q1), .second, .val (.long q2), .second, .val (.long q3), .second, .val (.int p4), .val (.long zz), .second, .val (.long r10), .second, .val (.long r11), .second, .val (.int (own_valid zz r10 r11)), .val (.int (1 : Int32)), .val (.long (r10 ||| r11)), .second] [])) (fun _ k => XS.icmpNo X12.here hx rfl (hb hby at_120) rfl (XT.ii_ne_f br20) k) ?_
          refine Rch.go (U' := T12.setTop (mkF m 124 #[.val (.long q1), .second, .val (.long q2), .second, .val (.long q3), .second, .val (.int p4), .val (.long zz), .second, .val (.long r10), .second, .val (.long r11), .second, .val (.int (own_valid zz r10 r11)), .val (.int (1 : Int32)), .val (.long (r10 ||| r11)), .second] [(.int (1 : Int32))])) (fun _ k => XS.iconst X12.here hx rfl (hb hby at_123) k) ?_
          refine Rch.go (U' := T12.setTop (mkF m 128 #[.val (.long q1), .second, .val (.long q2), .second, .val (.long q3), .second, .val (.int p4), .val (.long zz), .second, .val (.long r10), .second, .val (.long r11), .second, .val (.int (own_valid zz r10 r11)), .val (.int (1 : Int32)), .val (.long (r10 ||| r11)), .second] [(.int (1 : Int32))])) (fun _ k => XS.goto X12.here hx rfl (pc0 := 124) (pc' := 128) rfl (hb hby at_124) (by decide) (by decide) k) ?_
          refine Rch.fin X12 hlk (v := some (.int (nar .boolean (1 : Int32)))) (fun h => by rw [hret] at h; cases h) e12 (by decide) (by decide) (fun fs hr => retN X12 hx (t := .boolean) hret (by simp) (hb hby at_128) hr) ?_
          exact ⟨rfl, N12⟩
        ·
          refine Rch.go (U' := T12.setTop (mkF m 113 #[.val (.long q1), .second, .val (.long q2), .second, .val (.long q3), .second, .val (.int p4), .val (.long zz), .second, .val (.long r10), .second, .val (.long r11), .second, .val (.int (own_valid zz r10 r11)), .unset, .val (.long (r10 ||| r11)), .second] [])) (fun _ k => XS.ifYes X12.here hx rfl (pc0 := 106) (pc' := 113) rfl (hb hby at_106) rfl (XT.ll_ne_t br19) (by decide) (by decide) k) ?_
          refine Rch.go (U' := T12.setTop (mkF m 114 #[.val (.long q1), .second, .val (.long q2), .second, .val (.long q3), .second, .val (.int p4), .val (.long zz), .second, .val (.long r10), .second, .val (.long r11), .second, .val (.int (own_valid zz r10 r11)), .unset, .val (.long (r10 ||| r11)), .second] [(.int (0 : Int32))])) (fun _ k => XS.iconst X12.here hx rfl (hb hby at_113) k) ?_
          refine Rch.go (U' := T12.setTop (mkF m 116 #[.val (.long q1), .second, .val (.long q2), .second, .val (.long q3), .second, .val (.int p4), .val (.long zz), .second, .val (.long r10), .second, .val (.long r11), .second, .val (.int (own_valid zz r10 r11)), .val (.int (0 : Int32)), .val (.long (r10 ||| r11)), .second] [])) (fun _ k => XS.istore X12.here hx rfl (hb hby at_114) rfl (l' := #[.val (.long q1), .second, .val (.long q2), .second, .val (.long q3), .second, .val (.int p4), .val (.long zz), .second, .val (.long r10), .second, .val (.long r11), .second, .val (.int (own_valid zz r10 r11)), .val (.int (0 : Int32)), .val (.long (r10 ||| r11)), .second]) rfl k) ?_
          refine Rch.go (U' := T12.setTop (mkF m 118 #[.val (.long q1), .second, .val (.long q2), .second, .val (.long q3), .second, .val (.int p4), .val (.long zz), .second, .val (.long r10), .second, .val (.long r11), .second, .val (.int (own_valid zz r10 r11)), .val (.int (0 : Int32)), .val (.long (r10 ||| r11)), .second] [(.int (own_valid zz r10 r11))])) (fun _ k => XS.iload X12.here hx rfl (hb hby at_116) rfl  k) ?_
          refine Rch.go (U' := T12.setTop (mkF m 120 #[.val (.long q1), .second, .val (.long q2), .second, .val (.long q3), .second, .val (.int p4), .val (.long zz), .second, .val (.long r10), .second, .val (.long r11), .second, .val (.int (own_valid zz r10 r11)), .val (.int (0 : Int32)), .val (.long (r10 ||| r11)), .second] [(.int (0 : Int32)), (.int (own_valid zz r10 r11))])) (fun _ k => XS.iload X12.here hx rfl (hb hby at_118) rfl  k) ?_
          have br21 : (own_valid zz r10 r11) = (0 : Int32) := (own_law _ _ _).trans (by simp only [own_exp, br13, br15, br17, br19, ↓reduceIte])
          refine Rch.go (U' := T12.setTop (mkF m 123 #[.val (.long q1), .second, .val (.long q2), .second, .val (.long q3), .second, .val (.int p4), .val (.long zz), .second, .val (.long r10), .second, .val (.long r11), .second, .val (.int (own_valid zz r10 r11)), .val (.int (0 : Int32)), .val (.long (r10 ||| r11)), .second] [])) (fun _ k => XS.icmpNo X12.here hx rfl (hb hby at_120) rfl (XT.ii_ne_f br21) k) ?_
          refine Rch.go (U' := T12.setTop (mkF m 124 #[.val (.long q1), .second, .val (.long q2), .second, .val (.long q3), .second, .val (.int p4), .val (.long zz), .second, .val (.long r10), .second, .val (.long r11), .second, .val (.int (own_valid zz r10 r11)), .val (.int (0 : Int32)), .val (.long (r10 ||| r11)), .second] [(.int (1 : Int32))])) (fun _ k => XS.iconst X12.here hx rfl (hb hby at_123) k) ?_
          refine Rch.go (U' := T12.setTop (mkF m 128 #[.val (.long q1), .second, .val (.long q2), .second, .val (.long q3), .second, .val (.int p4), .val (.long zz), .second, .val (.long r10), .second, .val (.long r11), .second, .val (.int (own_valid zz r10 r11)), .val (.int (0 : Int32)), .val (.long (r10 ||| r11)), .second] [(.int (1 : Int32))])) (fun _ k => XS.goto X12.here hx rfl (pc0 := 124) (pc' := 128) rfl (hb hby at_124) (by decide) (by decide) k) ?_
          refine Rch.fin X12 hlk (v := some (.int (nar .boolean (1 : Int32)))) (fun h => by rw [hret] at h; cases h) e12 (by decide) (by decide) (fun fs hr => retN X12 hx (t := .boolean) hret (by simp) (hb hby at_128) hr) ?_
          exact ⟨rfl, N12⟩
theorem ef_rm0 (m : MethodId) (q1 : Int64) (q2 : Int64) (q3 : Int64) (p4 : Int32) : entryFrame m #[(.long q1), (.long q2), (.long q3), (.int p4)] maxLocals = mkF m 0 #[.val (.long q1), .second, .val (.long q2), .second, .val (.long q3), .second, .val (.int p4), .unset, .unset, .unset, .unset, .unset, .unset, .unset, .unset, .unset, .unset] [] := by first | (simp [entryFrame, mkF, argsToLocals, Value.category, maxLocals]; done) | rfl
def Q_rm0 (Z : State) (q1 : Int64) (q2 : Int64) (q3 : Int64) (p4 : Int32) (h0 : Heap) (n0 : Nat) (v : Option Value) (h : Heap) (L : List Loc) : Prop := v = some (.int 1) ∧ Fr n0 L
set_option maxRecDepth 65536 in
set_option maxHeartbeats 40000000 in
theorem rm0 (l : Launch) (Z : State) (a0 : Array Value) (hw : ∀ d ∈ tables_1, d.before a0 Z = true) (ws : List Jvm.Cond) (q1 : Int64) (q2 : Int64) (q3 : Int64) (p4 : Int32) (h0 : Heap) (n0 : Nat) (Z0 : n0 ≤ h0.size)  :
    MetFree l x (head1 (Jvm.Cond.code x code maxLocals ret :: ws) room_1) (fun a U => a = #[(.long q1), (.long q2), (.long q3), (.int p4)] ∧ Z.Warmed39 U.vm ∧ U.heap = h0) (fun _ _ _ _ _ => True) (fun _ U o U' => ∃ v L, o = .returned v ∧ Q_rm0 Z q1 q2 q3 p4 h0 n0 v U'.heap L ∧ FrameEnd U o U' L 0 0) := by
  refine MetFree.of_bodySF (plainFor_of_name pn_com_example_stripeguard_stripeguard_TileIsValidPinLaw) hisR ?_
  intro p e s m args below meth c s₁ Bd hml0 hP hK
  obtain ⟨rfl, hZ, hh⟩ := hP
  have hx := Bd.exec
  have hby := Bd.bytes
  have hml : c.maxLocals = 17 := hml0
  have hown : s.vm.findClass "com/example/stripeguard/stripeguard/TileIsValidPinLaw" = some m.cls := findClass_of_methodNamed Bd.named
  have hnm := (name_of_methodNamed Bd.named Bd.method).1
  have hret := Bd.returns
  have hlk : meth.locks = false := BodyLoose.notSynchronized Bd
  have X0 : Stand p l e room_1 s m #[(.long q1), (.long q2), (.long q3), (.int p4)] below meth c s₁ [] 0 0 := Stand.of_body Bd
  have e0 : s₁.heap = h0 := by rw [← hh, Bd.state]; rfl
  have N0 := Fr.nil n0
  refine Rch.body (Q := Q_rm0 Z q1 q2 q3 p4 h0 n0) (U' := s₁.setTop (mkF m 0 #[.val (.long q1), .second, .val (.long q2), .second, .val (.long q3), .second, .val (.int p4), .unset, .unset, .unset, .unset, .unset, .unset, .unset, .unset, .unset, .unset] [])) (fun t k => castTop (ef_rm0 m q1 q2 q3 p4) k) ?_
  refine Rch.go (U' := s₁.setTop (mkF m 2 #[.val (.long q1), .second, .val (.long q2), .second, .val (.long q3), .second, .val (.int p4), .unset, .unset, .unset, .unset, .unset, .unset, .unset, .unset, .unset, .unset] [(.int p4)])) (fun _ k => XS.iload X0.here hx rfl (hb hby at_0) rfl  k) ?_
  refine Rch.go (U' := s₁.setTop (mkF m 3 #[.val (.long q1), .second, .val (.long q2), .second, .val (.long q3), .second, .val (.int p4), .unset, .unset, .unset, .unset, .unset, .unset, .unset, .unset, .unset, .unset] [(.int (1 : Int32)), (.int p4)])) (fun _ k => XS.iconst X0.here hx rfl (hb hby at_2) k) ?_
  refine Rch.go (U' := s₁.setTop (mkF m 4 #[.val (.long q1), .second, .val (.long q2), .second, .val (.long q3), .second, .val (.int p4), .unset, .unset, .unset, .unset, .unset, .unset, .unset, .unset, .unset, .unset] [(.int (p4 &&& (1 : Int32)))])) (fun _ k => XS.iand X0.here hx rfl (hb hby at_3) rfl k) ?_
  by_cases br22 : (p4 &&& (1 : Int32)) = (0 : Int32)
  ·
    refine Rch.go (U' := s₁.setTop (mkF m 11 #[.val (.long q1), .second, .val (.long q2), .second, .val (.long q3), .second, .val (.int p4), .unset, .unset, .unset, .unset, .unset, .unset, .unset, .unset, .unset, .unset] [])) (fun _ k => XS.ifYes X0.here hx rfl (pc0 := 4) (pc' := 11) rfl (hb hby at_4) rfl (XT.i0_eq_t br22) (by decide) (by decide) k) ?_
    refine Rch.go (U' := s₁.setTop (mkF m 12 #[.val (.long q1), .second, .val (.long q2), .second, .val (.long q3), .second, .val (.int p4), .unset, .unset, .unset, .unset, .unset, .unset, .unset, .unset, .unset, .unset] [(.long q1)])) (fun _ k => XS.lloadN X0.here hx rfl (hb hby at_11) rfl  k) ?_
    refine Rch.go (U' := s₁.setTop (mkF m 15 #[.val (.long q1), .second, .val (.long q2), .second, .val (.long q3), .second, .val (.int p4), .unset, .unset, .unset, .unset, .unset, .unset, .unset, .unset, .unset, .unset] [(.long (63 : Int64)), (.long q1)])) (fun _ k => X0.ldc2Long hx hown (mvT hZ (wi hw 0 rfl)) (g := (mkF m 12 #[.val (.long q1), .second, .val (.long q2), .second, .val (.long q3), .second, .val (.int p4), .unset, .unset, .unset, .unset, .unset, .unset, .unset, .unset, .unset, .unset] [(.long q1)])) rfl (hb hby at_12) _ k) ?_
    refine Rch.go (U' := s₁.setTop (mkF m 16 #[.val (.long q1), .second, .val (.long q2), .second, .val (.long q3), .second, .val (.int p4), .unset, .unset, .unset, .unset, .unset, .unset, .unset, .unset, .unset, .unset] [(.long (q1 &&& (63 : Int64)))])) (fun _ k => XS.land X0.here hx rfl (hb hby at_15) rfl k) ?_
    refine Rch.go (U' := s₁.setTop (mkF m 19 #[.val (.long q1), .second, .val (.long q2), .second, .val (.long q3), .second, .val (.int p4), .unset, .unset, .unset, .unset, .unset, .unset, .unset, .unset, .unset, .unset] [(.long (16 : Int64)), (.long (q1 &&& (63 : Int64)))])) (fun _ k => X0.ldc2Long hx hown (mvT hZ (wi hw 1 rfl)) (g := (mkF m 16 #[.val (.long q1), .second, .val (.long q2), .second, .val (.long q3), .second, .val (.int p4), .unset, .unset, .unset, .unset, .unset, .unset, .unset, .unset, .unset, .unset] [(.long (q1 &&& (63 : Int64)))])) rfl (hb hby at_16) _ k) ?_
    refine Rch.go (U' := s₁.setTop (mkF m 20 #[.val (.long q1), .second, .val (.long q2), .second, .val (.long q3), .second, .val (.int p4), .unset, .unset, .unset, .unset, .unset, .unset, .unset, .unset, .unset, .unset] [(.long ((q1 &&& (63 : Int64)) - (16 : Int64)))])) (fun _ k => XS.lsub X0.here hx rfl (hb hby at_19) rfl k) ?_
    refine Rch.go (U' := s₁.setTop (mkF m 22 #[.val (.long q1), .second, .val (.long q2), .second, .val (.long q3), .second, .val (.int p4), .val (.long ((q1 &&& (63 : Int64)) - (16 : Int64))), .second, .unset, .unset, .unset, .unset, .unset, .unset, .unset, .unset] [])) (fun _ k => XS.lstore X0.here hx rfl (hb hby at_20) rfl (l' := #[.val (.long q1), .second, .val (.long q2), .second, .val (.long q3), .second, .val (.int p4), .val (.long ((q1 &&& (63 : Int64)) - (16 : Int64))), .second, .unset, .unset, .unset, .unset, .unset, .unset, .unset, .unset]) rfl k) ?_
    exact cut22 q1 q2 q3 p4 ((q1 &&& (63 : Int64)) - (16 : Int64)) X0 hx hZ hw hby hml hown hret hlk e0 N0 Z0
  ·
    refine Rch.go (U' := s₁.setTop (mkF m 7 #[.val (.long q1), .second, .val (.long q2), .second, .val (.long q3), .second, .val (.int p4), .unset, .unset, .unset, .unset, .unset, .unset, .unset, .unset, .unset, .unset] [])) (fun _ k => XS.ifNo X0.here hx rfl (hb hby at_4) rfl (XT.i0_eq_f br22) k) ?_
    refine Rch.go (U' := s₁.setTop (mkF m 8 #[.val (.long q1), .second, .val (.long q2), .second, .val (.long q3), .second, .val (.int p4), .unset, .unset, .unset, .unset, .unset, .unset, .unset, .unset, .unset, .unset] [(.long q1)])) (fun _ k => XS.lloadN X0.here hx rfl (hb hby at_7) rfl  k) ?_
    refine Rch.go (U' := s₁.setTop (mkF m 20 #[.val (.long q1), .second, .val (.long q2), .second, .val (.long q3), .second, .val (.int p4), .unset, .unset, .unset, .unset, .unset, .unset, .unset, .unset, .unset, .unset] [(.long q1)])) (fun _ k => XS.goto X0.here hx rfl (pc0 := 8) (pc' := 20) rfl (hb hby at_8) (by decide) (by decide) k) ?_
    refine Rch.go (U' := s₁.setTop (mkF m 22 #[.val (.long q1), .second, .val (.long q2), .second, .val (.long q3), .second, .val (.int p4), .val (.long q1), .second, .unset, .unset, .unset, .unset, .unset, .unset, .unset, .unset] [])) (fun _ k => XS.lstore X0.here hx rfl (hb hby at_20) rfl (l' := #[.val (.long q1), .second, .val (.long q2), .second, .val (.long q3), .second, .val (.int p4), .val (.long q1), .second, .unset, .unset, .unset, .unset, .unset, .unset, .unset, .unset]) rfl k) ?_
    exact cut22 q1 q2 q3 p4 q1 X0 hx hZ hw hby hml hown hret hlk e0 N0 Z0
set_option maxRecDepth 65536 in
set_option maxHeartbeats 40000000 in
theorem comes_1 {Post : Tables → Env → Array Value → State → Outcome → State → Prop} (hpost : ∀ tb e args s v u, (limb_1_1.after args s (.returned v) u = true ∧ limb_1_2.after args s (.returned v) u = true ∧ True) → FrameEnd s (.returned v) u (Jvm.fieldLocs frame_1_writes args s ++ Jvm.arrayLocs frame_1_arrays args s ++ Jvm.staticLocs frame_1_statics s) 0 0 → Post tb e args s (.returned v) u) :
    ArmFor flags0 classFile x code maxLocals ret World_1 tables_1 room_1 Calls_1 rest_1 Pre_1 Post := by
  intro l hfl _ _ p e ha hc hk s m args below hf hA hF happ hP
  obtain ⟨hcalls, hrest, hpre⟩ := hP
  obtain ⟨-, -, -, hnamed, -, -, -, hat⟩ := (Spec.applies_iff hf).mp happ
  obtain ⟨hg, hn⟩ := and_e (Cond.before_iff.mp (show (Jvm.Cond.and given_1 narrow_1).before args s = true from hpre))
  obtain ⟨hcount, hg0⟩ := and_e hg
  obtain ⟨ga0, hg1⟩ := and_e hg0
  obtain ⟨ga1, hg2⟩ := and_e hg1
  obtain ⟨ga2, hg3⟩ := and_e hg2
  obtain ⟨w0, w1, w2, w3, rfl⟩ : ∃ w0 w1 w2 w3 : Value, args = #[w0, w1, w2, w3] := by
    have hs : args.size = 4 := by simpa [Cond.value, given_1] using hcount
    obtain ⟨L⟩ := args
    match L, hs with
    | [w0, w1, w2, w3], _ => exact ⟨w0, w1, w2, w3, rfl⟩
  have hw := fun d (hd : d ∈ tables_1) => atoms_spec (ws := Jvm.Cond.code x code maxLocals ret :: tables_1) hat d (List.mem_cons_of_mem _ hd)
  obtain ⟨i0, ei0⟩ := isL_v ga0
  obtain rfl : w0 = (.long i0) := Option.some.inj ei0
  obtain ⟨i1, ei1⟩ := isL_v ga1
  obtain rfl : w1 = (.long i1) := Option.some.inj ei1
  obtain ⟨i2, ei2⟩ := isL_v ga2
  obtain rfl : w2 = (.long i2) := Option.some.inj ei2
  obtain ⟨i3, ei3⟩ := is_v hg3
  obtain rfl : w3 = (.int i3) := Option.some.inj ei3
  obtain ⟨n, o, h1, h2, h3, _, L, rfl, ⟨rfl, N⟩, hq⟩ := rm0 l s _ hw tables_1 i0 i1 i2 i3 s.heap s.heap.size (Nat.le_refl _)  p e ha hc hk s m _ below hf ((Spec.applies_iff_loose hf).mp happ).1 ⟨rfl, State.Warmed39.refl s, rfl⟩ trivial
  refine ⟨n, _, h1, h2, h3, hpost _ _ _ _ _ _ ⟨Cond.after_iff.mpr rfl, Cond.after_iff.mpr (eq_i res_at (Term.int_eval (1)) rfl), trivial⟩ ⟨hq.1, hq.2.1, (hq.2.2.sift fun y hy => Or.inr (N y hy)).mono (by decide) (by decide)⟩⟩
theorem main_1_1 : Claimed_1_1 := comes_1 fun _ _ _ _ _ _ h hF => ⟨h.1, hF⟩
theorem main_1_2 : Claimed_1_2 := comes_1 fun _ _ _ _ _ _ h hF => ⟨h.2.1, hF⟩
end Jvm.Pilot.@@N@@
namespace Jvm.Pilot.@@N@@
open Jvm Jvm.ClassFile Sem Op Lib Jvm.Free Jvm.Stand Jvm.Pilot.@@N@@.Jvm.D
/-! MADE BY PROGRAM (witnessworld.py) out of the Statement's table words and the real class files: 11 classes; the members and pool entries that the words name. The judged class is class 1, her method 1. -/
namespace start1
open Jvm.ClassFile
def u (s : String) : CpInfo := .utf8 (stringToUtf16 s)
/-- a pool by its gaps: so many unusable entries, then the entry; so many at the end -/
def gap : Nat → List CpInfo → List CpInfo
  | 0, r => r
  | n + 1, r => .unusable :: gap n r
def poolList (es : List (Nat × CpInfo)) (last : Nat) : List CpInfo := es.foldr (fun e r => gap e.1 (e.2 :: r)) (gap last [])
def pool (es : List (Nat × CpInfo)) (last : Nat) : Array CpInfo := ⟨poolList es last⟩
def fileOf (pool : Array CpInfo) (this : Nat) (attrs : Array Attribute := #[]) (ms : Array MethodInfo := #[]) (fl : Nat := 33) (sup : Nat := 0) (ifs : Array Nat := #[]) (fds : Array FieldInfo := #[]) : ClassFile where
  minorVersion := 0
  majorVersion := 65
  constantPool := pool
  accessFlags := fl
  thisClass := this
  superClass := sup
  interfaces := ifs
  fields := fds
  methods := ms
  attributes := attrs
def plain (name : String) (sup : Option ClassId) : Class where
  name := name
  kind := .ordinary
  loader := none
  accessFlags := 33
  super := sup
  interfaces := #[]
  cf := none
  fields := #[]
  methods := #[]
  instanceTypes := #[]
  staticTypes := #[]
  resolved := #[]
  callSites := []
  init := .initialized
  statics := none
  mirror := none

def pool0 : Array CpInfo := pool [(5, u "<init>"), (0, u "()V"), (1, .class_ 10), (1, u "java/lang/Object")] 113

def k0m0 : Method := { name := "<init>", desc := "()V", sig := { parameters := [], returnType := none }, accessFlags := 1, code := none }
/-- java/lang/Object -/
def k0 : Class := { plain "java/lang/Object" none with
  accessFlags := 33
  interfaces := #[]
  cf := some (fileOf pool0 8 #[] #[{ accessFlags := 1, nameIndex := 5, descriptorIndex := 6, attributes := #[] }] 33 0 #[] #[])
  fields := #[]
  methods := #[k0m0]
  instanceTypes := #[]
  staticTypes := #[]
  resolved := Array.replicate 124 none
  statics := none }

def pool1 : Array CpInfo := pool [(2, .class_ 4), (1, u "java/lang/Object"), (0, u "<init>"), (0, u "()V"), (0, .long 63), (1, .long 16), (1, .methodref 12 13), (0, .class_ 14), (0, .nameAndType 15 16), (0, u "com/example/stripeguard/stripeguard/TileIsValidPinLaw"), (0, u "pick"), (0, u "(JJI)J"), (0, .methodref 18 19), (0, .class_ 20), (0, .nameAndType 21 22), (0, u "com/example/stripeguard/stripeguard/FileTileCache$Tile"), (0, u "isValid"), (0, u "(JJJ)Z"), (0, .long 30), (1, .long 3), (3, u "law"), (0, u "(JJJI)Z")] 7

def k1m0 : Method := { name := "<init>", desc := "()V", sig := { parameters := [], returnType := none }, accessFlags := 1, code := none }
def k1c1 : Code := { maxStack := 6, maxLocals := 17, code := code, exceptionTable := #[], attributes := #[] }
def k1m1 : Method := { name := "law", desc := "(JJJI)Z", sig := { parameters := [.long, .long, .long, .int], returnType := some .boolean }, accessFlags := 9, code := some k1c1 }
def k1c2 : Code := { maxStack := 6, maxLocals := 6, code := method_3_code, exceptionTable := #[], attributes := #[] }
def k1m2 : Method := { name := "pick", desc := "(JJI)J", sig := { parameters := [.long, .long, .int], returnType := some .long }, accessFlags := 10, code := some k1c2 }
/-- com/example/stripeguard/stripeguard/TileIsValidPinLaw -/
def k1 : Class := { plain "com/example/stripeguard/stripeguard/TileIsValidPinLaw" (some 0) with
  accessFlags := 49
  interfaces := #[]
  cf := some (fileOf pool1 12 #[] #[{ accessFlags := 1, nameIndex := 5, descriptorIndex := 6, attributes := #[] }, { accessFlags := 9, nameIndex := 29, descriptorIndex := 30, attributes := #[] }, { accessFlags := 10, nameIndex := 15, descriptorIndex := 16, attributes := #[] }] 49 2 #[] #[])
  fields := #[]
  methods := #[k1m0, k1m1, k1m2]
  instanceTypes := #[]
  staticTypes := #[]
  resolved := Array.replicate 38 none
  statics := none }

def pool2 : Array CpInfo := pool [(2, .class_ 4), (1, u "java/lang/Object"), (0, u "<init>"), (0, u "()V"), (0, .class_ 8), (0, u "java/lang/Record")] 13

def k2m0 : Method := { name := "<init>", desc := "()V", sig := { parameters := [], returnType := none }, accessFlags := 4, code := none }
/-- java/lang/Record -/
def k2 : Class := { plain "java/lang/Record" (some 0) with
  accessFlags := 1057
  interfaces := #[]
  cf := some (fileOf pool2 7 #[] #[{ accessFlags := 4, nameIndex := 5, descriptorIndex := 6, attributes := #[] }] 1057 2 #[] #[])
  fields := #[]
  methods := #[k2m0]
  instanceTypes := #[]
  staticTypes := #[]
  resolved := Array.replicate 22 none
  statics := none }

def pool3 : Array CpInfo := pool [(1, .class_ 2), (0, u "java/lang/Comparable"), (0, .class_ 4), (0, u "java/lang/Object")] 7

/-- java/lang/Comparable -/
def k3 : Class := { plain "java/lang/Comparable" (some 0) with
  accessFlags := 1537
  interfaces := #[]
  cf := some (fileOf pool3 1 #[] #[] 1537 3 #[] #[])
  fields := #[]
  methods := #[]
  instanceTypes := #[]
  staticTypes := #[]
  resolved := Array.replicate 12 none
  statics := none }

def pool4 : Array CpInfo := pool [(1, .class_ 2), (0, u "com/example/stripeguard/stripeguard/FileTileCache"), (1, .class_ 6), (1, u "java/lang/Record"), (3, .class_ 12), (1, u "com/example/stripeguard/stripeguard/FileTileCache$Tile"), (0, u "isValid"), (0, u "(JJJ)Z"), (11, u "z"), (0, u "I"), (2, u "x"), (2, u "y"), (0, .long 30), (5, u "ORDER"), (0, u "Ljava/util/Comparator;"), (34, .class_ 77), (0, u "java/lang/Comparable")] 65

def k4c0 : Code := { maxStack := 6, maxLocals := 6, code := prog_16_method_2_code, exceptionTable := #[], attributes := #[] }
def k4m0 : Method := { name := "isValid", desc := "(JJJ)Z", sig := { parameters := [.long, .long, .long], returnType := some .boolean }, accessFlags := 8, code := some k4c0 }
/-- com/example/stripeguard/stripeguard/FileTileCache$Tile -/
def k4 : Class := { plain "com/example/stripeguard/stripeguard/FileTileCache$Tile" (some 2) with
  accessFlags := 49
  interfaces := #[3]
  cf := some (fileOf pool4 10 #[.nestHost 1] #[{ accessFlags := 8, nameIndex := 13, descriptorIndex := 14, attributes := #[] }] 49 4 #[76] #[{ accessFlags := 18, nameIndex := 26, descriptorIndex := 27, attributes := #[] }, { accessFlags := 18, nameIndex := 30, descriptorIndex := 27, attributes := #[] }, { accessFlags := 18, nameIndex := 33, descriptorIndex := 27, attributes := #[] }, { accessFlags := 26, nameIndex := 40, descriptorIndex := 41, attributes := #[] }])
  fields := #[{ name := "z", type := .int, accessFlags := 18, slot := 0, constantValue := 0 }, { name := "x", type := .int, accessFlags := 18, slot := 1, constantValue := 0 }, { name := "y", type := .int, accessFlags := 18, slot := 2, constantValue := 0 }, { name := "ORDER", type := (.object "java/util/Comparator"), accessFlags := 26, slot := 0, constantValue := 0 }]
  methods := #[k4m0]
  instanceTypes := #[.int, .int, .int]
  staticTypes := #[(.object "java/util/Comparator")]
  resolved := Array.replicate 143 none
  statics := none }

def pool5 : Array CpInfo := pool [(1, u "java/lang/Cloneable"), (0, .class_ 1), (0, u "java/lang/Object"), (0, .class_ 3)] 3

/-- java/lang/Cloneable -/
def k5 : Class := { plain "java/lang/Cloneable" (some 0) with
  accessFlags := 1537
  interfaces := #[]
  cf := some (fileOf pool5 2 #[] #[] 1537 4 #[] #[])
  fields := #[]
  methods := #[]
  instanceTypes := #[]
  staticTypes := #[]
  resolved := Array.replicate 8 none
  statics := none }

def pool6 : Array CpInfo := pool [(1, u "java/io/Serializable"), (0, .class_ 1), (0, u "java/lang/Object"), (0, .class_ 3)] 3

/-- java/io/Serializable -/
def k6 : Class := { plain "java/io/Serializable" (some 0) with
  accessFlags := 1537
  interfaces := #[]
  cf := some (fileOf pool6 2 #[] #[] 1537 4 #[] #[])
  fields := #[]
  methods := #[]
  instanceTypes := #[]
  staticTypes := #[]
  resolved := Array.replicate 8 none
  statics := none }

/-- the primitive byte -/
def k7 : Class := { plain "byte" none with kind := .primitive 'B', accessFlags := 0x411 }
/-- [B -/
def k8 : Class := { plain "[B" (some 0) with kind := .array 7 .byte, interfaces := #[5, 6], accessFlags := 1041 }

/-- the primitive int -/
def k9 : Class := { plain "int" none with kind := .primitive 'I', accessFlags := 0x411 }
/-- [I -/
def k10 : Class := { plain "[I" (some 0) with kind := .array 9 .int, interfaces := #[5, 6], accessFlags := 1041 }

def heap : Heap := #[]
def classes : Array Class := #[k0, k1, k2, k3, k4, k5, k6, k7, k8, k9, k10]
def interned : List (Array UInt16 × Addr) := []
def slotsUsed : Nat := 0
def theMethod : MethodId := ⟨1, 1⟩
def args0 : Array Value := #[.long 5, .long 7, .long 3, .int 1]
def aboutOver (below : List Frame) : State where
  vm := { classes := classes, interned := interned.toArray }
  heap := heap
  slotsUsed := slotsUsed
  threads := #[{ frames := .invoking theMethod args0 :: below }]
def below0 : List Frame := [.native { method := ⟨0, 0⟩, args := #[] }]
def about1 : State := aboutOver below0
def p0 : Program := .bare "" "" ""
def e0 : Env := launch0.env 0 0 0
theorem w_frames : about1.frames = Frame.invoking theMethod args0 :: below0 := rfl
set_option maxRecDepth 65536 in
theorem w_args : argsFit about1.vm theMethod args0 = true := by decide +kernel
set_option maxRecDepth 65536 in
theorem w_heap : heapFits about1 = true := by decide +kernel
set_option maxRecDepth 65536 in
theorem w_runnable : about1.curStatus? = some .runnable := by decide +kernel
set_option maxRecDepth 65536 in
theorem w_alone : about1.alone = true := by decide +kernel
set_option maxRecDepth 65536 in
theorem w_named : about1.methodNamed? x = some theMethod := by decide +kernel
set_option maxRecDepth 65536 in
theorem w_hears : about1.hears theMethod below0 = true := by decide +kernel
set_option maxRecDepth 65536 in
theorem w_ripe : about1.ripe theMethod args0 below0 = true := by decide +kernel
theorem w_running : about1.status = .running := rfl
set_option maxRecDepth 65536 in
theorem w_room : about1.hasRoom e0.platform room_1 = true :=
  launch0.hasRoom_least _ room_1 (by decide +kernel) (by decide +kernel) (by decide +kernel) (by decide +kernel) (by decide +kernel) (by decide +kernel)
theorem allAtoms_all (ts : List Jvm.Cond) (a : Array Jvm.Value) (st : Jvm.State) : (allAtoms ts).before a st = ts.all (fun c => c.before a st) := by
  induction ts with
  | nil => rfl
  | cons c t ih =>
    show (Jvm.Cond.and c (allAtoms t)).before a st = _
    rw [Jvm.Cond.before_and, ih, List.all_cons]
def words1 : List Jvm.Cond := Jvm.Cond.code x code maxLocals ret :: tables_1
/-- a 'code' word, met by the world's own term for the bytes: nothing is compared byte by byte -/
theorem code_word {y : MethodName} {bytes : ByteArray} {mx : Nat} {rt : Option FieldType} {a : Array Value} {s : State} {m : MethodId} {meth : Method} {c : Code} (h1 : s.methodNamed? y = some m) (h2 : s.vm.method? m = some meth) (h3 : meth.code = some c) (h4 : c.code = bytes)
    (h5 : (c.maxLocals == mx && c.exceptionTable.isEmpty && decide (c.maxStack ≤ mostOperands) && decide (meth.sig.returnType = rt) && !meth.locks && decide (parseMethodDescriptor y.desc = some meth.sig)) = true) : (Jvm.Cond.code y bytes mx rt).before a s = true := by
  simp only [Bool.and_eq_true, beq_iff_eq, Bool.not_eq_true', decide_eq_true_eq] at h5
  obtain ⟨⟨⟨⟨⟨g1, g2⟩, g3⟩, g4⟩, g5⟩, g6⟩ := h5
  simp [Cond.before, Cond.holds, Cond.value, h1, h2, h3, h4, g1, g2, g3, g4, g5, g6]
def isCode : Jvm.Cond → Bool
  | .code _ _ _ _ => true
  | _ => false
theorem all_split {L : List Jvm.Cond} {P : Jvm.Cond → Bool} (h1 : L.all (fun c => isCode c || P c) = true) (h2 : ∀ c ∈ L.filter isCode, P c = true) : L.all P = true := by
  refine List.all_eq_true.mpr fun c hc => ?_
  have h := List.all_eq_true.mp h1 c hc
  rcases Bool.eq_false_or_eq_true (isCode c) with hi | hi
  · exact h2 c (List.mem_filter.mpr ⟨hc, hi⟩)
  · simpa [hi] using h
set_option maxRecDepth 65536 in
theorem w_c0 : (Jvm.Cond.code x code maxLocals ret).before args0 about1 = true := code_word (m := ⟨1, 1⟩) (meth := k1m1) (c := k1c1) (by decide +kernel) rfl rfl rfl (by decide +kernel)
set_option maxRecDepth 65536 in
theorem w_c1 : (Jvm.Cond.code ({ cls := "com/example/stripeguard/stripeguard/TileIsValidPinLaw", name := "pick", desc := "(JJI)J" } : Jvm.MethodName) method_3_code (6 : Nat) (Option.some Jvm.ClassFile.FieldType.long)).before args0 about1 = true := code_word (m := ⟨1, 2⟩) (meth := k1m2) (c := k1c2) (by decide +kernel) rfl rfl rfl (by decide +kernel)
set_option maxRecDepth 65536 in
theorem w_c2 : (Jvm.Cond.code ({ cls := "com/example/stripeguard/stripeguard/FileTileCache$Tile", name := "isValid", desc := "(JJJ)Z" } : Jvm.MethodName) prog_16_method_2_code (6 : Nat) (Option.some Jvm.ClassFile.FieldType.boolean)).before args0 about1 = true := code_word (m := ⟨4, 0⟩) (meth := k4m0) (c := k4c0) (by decide +kernel) rfl rfl rfl (by decide +kernel)
def codes1 : List Jvm.Cond := [Jvm.Cond.code x code maxLocals ret, Jvm.Cond.code ({ cls := "com/example/stripeguard/stripeguard/TileIsValidPinLaw", name := "pick", desc := "(JJI)J" } : Jvm.MethodName) method_3_code (6 : Nat) (Option.some Jvm.ClassFile.FieldType.long), Jvm.Cond.code ({ cls := "com/example/stripeguard/stripeguard/FileTileCache$Tile", name := "isValid", desc := "(JJJ)Z" } : Jvm.MethodName) prog_16_method_2_code (6 : Nat) (Option.some Jvm.ClassFile.FieldType.boolean)]
set_option maxRecDepth 65536 in
theorem codes_eq : words1.filter isCode = codes1 := rfl
theorem w_codes : ∀ c ∈ words1.filter isCode, c.before args0 about1 = true := by
  rw [codes_eq]
  intro c hc
  simp only [codes1, List.mem_cons, List.not_mem_nil, or_false] at hc
  rcases hc with rfl | rfl | rfl
  · exact w_c0
  · exact w_c1
  · exact w_c2
set_option maxRecDepth 65536 in
theorem w_t1 : words1.all (fun c => isCode c || c.before args0 about1) = true := by decide +kernel
theorem w_tables : (allAtoms (Jvm.Cond.code x code maxLocals ret :: tables_1)).before args0 about1 = true := by
  rw [allAtoms_all]
  show words1.all (fun c => c.before args0 about1) = true
  refine all_split ?_ w_codes
  rw [w_t1]
set_option maxRecDepth 65536 in
theorem w_case : (Jvm.Cond.and given_1 narrow_1).before args0 about1 = true := by decide +kernel
theorem w_applies : (headSpec (Jvm.Cond.code x code maxLocals ret :: tables_1) room_1).applies x e0.platform about1 = true :=
  (Spec.applies_iff w_frames).mpr ⟨w_running, w_runnable, w_alone, w_named, w_hears, w_ripe, w_room, w_tables⟩
theorem atStart : AtStart classFile x code maxLocals ret World_1 tables_1 room_1 Calls_1 rest_1 Pre_1 launch0 p0 e0 about1 theMethod args0 below0 :=
  ⟨lists_1, trivial, launch0.admits_env _ _ _, launch0.least_env, fairChoices_fair.cas, fairChoices_fair.clock, w_frames, w_args, w_heap, w_applies, trivial, trivial, w_case⟩
end start1
theorem witness_1 : WitnessClaimed_1 := ⟨start1.p0, start1.e0, start1.about1, start1.theMethod, start1.args0, start1.below0, start1.atStart⟩
end Jvm.Pilot.@@N@@
