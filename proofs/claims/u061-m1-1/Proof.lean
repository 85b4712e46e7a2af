import JvmDerived
import JvmDerived.Pilot.@@N@@Statement
import JvmDerived.Pilot.@@N@@Code
set_option linter.unusedVariables false
set_option linter.unusedSimpArgs false
namespace Jvm.RoadKit
open Sem ClassFile Op Lib Jvm.Stand Jvm.Free Jvm.LawKit
section New
variable {p : Program} {l : Launch} {e : Env} {R : Room} {s : State} {m : MethodId} {args : Array Value} {below : List Frame} {meth : Method} {c : Code} {T : State} {locs : List Loc} {cells slots : Nat}
theorem retI (X : Stand p l e R s m args below meth c T locs cells slots) (hx : p.tables.exec = Jvm.exec) {pc : Nat} {Ls : Array Slot} {z : Int32} {rest : List Value} (hret : meth.sig.returnType = some .int) (hd : decode c.code pc = .ok (.ireturn, 1)) {fs : List Frame}
    (hl : ∀ (f : JFrame) (acts : List Action), f.method = m → f.locked = none → f.entered = [] → (doReturn e (T.setTop f) acts (some (.int z))).1 = T.setFrames fs) : Steps p.tables e below (T.setTop (mkF m pc Ls (.int z :: rest))) (T.setFrames fs) := by
  have hm' : T.vm.method? m = some meth := X.method'
  have hn : narrow .int (.int z) = .int z := rfl
  show Steps p.tables e below (T.setTop { method := m, pc := pc, locals := Ls, stack := _ :: rest, locked := none }) _
  jvm_step X.here [X.here.top, hx, hd, hm', hret, hn]
  first | (intro acts; rw [hl _ acts rfl rfl rfl]) | rw [hl _ _ rfl rfl rfl]
  exact Steps.refl _
end New
end Jvm.RoadKit
namespace Jvm.Pilot.@@N@@
open Jvm Jvm.ClassFile Sem Op Lib Jvm.Free Jvm.Stand Jvm.LawKit Jvm.RoadKit Bundle Jvm.Pilot.@@N@@.Jvm.D
theorem own_b64 {z : Int} (h1 : -9223372036854775808 ≤ z) (h2 : z < 9223372036854775808) : z.bmod (2 ^ 64) = z := Int.bmod_eq_of_le (by simpa using h1) (by simpa using h2)
def own_abs (x : Int64) : Int64 := if x < 0 then -x else x
def own_ke (x : Int32) : Int32 := if x = 20 then 1 else if x = 21 then 1 else if x < 30 then 0 else if 49 < x then 0 else 1
theorem own_even (x : Int32) : (x &&& (-2)).toInt = x.toInt - x.toInt % 2 := by
  have h1 : (x &&& (-2)).toBitVec.toNat = x.toBitVec.toNat - x.toBitVec.toNat % 2 := by
    rw [Int32.toBitVec_and, BitVec.toNat_and]
    have e : (-2 : Int32).toBitVec.toNat = 2 ^ 32 - 2 := by decide
    rw [e]
    have hb : x.toBitVec.toNat < 2 ^ 32 := x.toBitVec.isLt
    generalize x.toBitVec.toNat = n at *
    apply Nat.eq_of_testBit_eq
    intro i
    have hs : n - n % 2 = 2 * (n / 2) := by omega
    rw [hs, Nat.testBit_and]
    cases i with
    | zero => simp
    | succ i =>
      have e2 : (2 ^ 32 - 2 : Nat) = 2 * (2 ^ 31 - 1) := by decide
      rw [e2, Nat.testBit_succ, Nat.testBit_succ, Nat.testBit_succ, Nat.mul_div_cancel_left _ (by decide), Nat.mul_div_cancel_left _ (by decide), Nat.testBit_two_pow_sub_one]
      by_cases hi : i < 31
      · simp [hi]
      · simp only [hi, decide_false, Bool.and_false]
        symm
        apply Nat.testBit_lt_two_pow
        have : 2 ^ 31 ≤ 2 ^ i := Nat.pow_le_pow_right (by decide) (by omega)
        omega
  have h2 : (x &&& (-2)).toInt = (x &&& (-2)).toBitVec.toInt := rfl
  have h3 : x.toInt = x.toBitVec.toInt := rfl
  have hb : x.toBitVec.toNat < 2 ^ 32 := x.toBitVec.isLt
  rw [h2, h3, BitVec.toInt_eq_toNat_cond, BitVec.toInt_eq_toNat_cond, h1]
  generalize x.toBitVec.toNat = n at *
  repeat' split
  all_goals omega
theorem own_absv (x : Int32) : (own_abs ((2 : Int64) * x.toInt64 - (79 : Int64))).toInt = if 2 * x.toInt - 79 < 0 then -(2 * x.toInt - 79) else 2 * x.toInt - 79 := by
  have l1 := x.le_toInt
  have l2 := x.toInt_lt
  have e1 : ((2 : Int64) * x.toInt64 - (79 : Int64)).toInt = 2 * x.toInt - 79 := by
    rw [Int64.toInt_sub, Int64.toInt_mul, Int32.toInt_toInt64, show (2 : Int64).toInt = 2 from rfl, show (79 : Int64).toInt = 79 from rfl]
    rw [own_b64 (z := 2 * x.toInt) (by omega) (by omega)]
    exact own_b64 (by omega) (by omega)
  unfold own_abs
  simp only [Int64.lt_iff_toInt_lt, e1, show (0 : Int64).toInt = 0 from rfl]
  split
  · rw [Int64.toInt_neg, e1]; exact own_b64 (by omega) (by omega)
  · exact e1
theorem own_eq (x v1 v2 v3 : Int32) (h1 : v1 = if (x &&& (-2)) = 20 then 1 else 0) (h2 : v2 = if (19 : Int64) < own_abs ((2 : Int64) * x.toInt64 - (79 : Int64)) then 0 else 1) (h3 : v3 = if v1 = 0 then (if v2 = 0 then 0 else 1) else 1) : own_ke x = v3 := by
  have A : ((x &&& (-2)) = (20 : Int32)) ↔ (x.toInt = 20 ∨ x.toInt = 21) := by
    rw [← Int32.toInt_inj, own_even, show (20 : Int32).toInt = 20 from rfl]; omega
  have B : ((19 : Int64) < own_abs ((2 : Int64) * x.toInt64 - (79 : Int64))) ↔ (x.toInt < 30 ∨ 49 < x.toInt) := by
    rw [Int64.lt_iff_toInt_lt, own_absv, show (19 : Int64).toInt = 19 from rfl]; split <;> omega
  rw [h3, h1, h2]
  simp only [A, B]
  unfold own_ke
  simp only [Int32.lt_iff_toInt_lt, ← Int32.toInt_inj (y := 20), ← Int32.toInt_inj (y := 21), show (20 : Int32).toInt = 20 from rfl, show (21 : Int32).toInt = 21 from rfl, show (30 : Int32).toInt = 30 from rfl, show (49 : Int32).toInt = 49 from rfl]
  generalize x.toInt = z
  by_cases a1 : z = 20
  · simp [a1]
  by_cases a2 : z = 21
  · simp [a2]
  by_cases a3 : z < 30
  · simp [a1, a2, a3]
  by_cases a4 : 49 < z
  · simp [a1, a2, a3, a4]
  · simp [a1, a2, a3, a4]
theorem own_d_abs_0 : decode jdk_29_method_61_code 0 = .ok (.lload_n 0, 1) := by decide +kernel
theorem own_d_abs_1 : decode jdk_29_method_61_code 1 = .ok (.lconst 0, 1) := by decide +kernel
theorem own_d_abs_2 : decode jdk_29_method_61_code 2 = .ok (.lcmp, 1) := by decide +kernel
theorem own_d_abs_3 : decode jdk_29_method_61_code 3 = .ok (.ifCond .ge 8, 3) := by decide +kernel
theorem own_d_abs_6 : decode jdk_29_method_61_code 6 = .ok (.lload_n 0, 1) := by decide +kernel
theorem own_d_abs_7 : decode jdk_29_method_61_code 7 = .ok (.lneg, 1) := by decide +kernel
theorem own_d_abs_8 : decode jdk_29_method_61_code 8 = .ok (.goto 4, 3) := by decide +kernel
theorem own_d_abs_11 : decode jdk_29_method_61_code 11 = .ok (.lload_n 0, 1) := by decide +kernel
theorem own_d_abs_12 : decode jdk_29_method_61_code 12 = .ok (.lreturn, 1) := by decide +kernel
theorem own_ef_abs (m : MethodId) (q1 : Int64) : entryFrame m #[(.long q1)] 2 = mkF m 0 #[.val (.long q1), .second] [] := by first | (simp [entryFrame, mkF, argsToLocals, Value.category]; done) | rfl
def Q_abs (Z : State) (q1 : Int64) (h0 : Heap) (n0 : Nat) (v : Option Value) (h : Heap) (L : List Loc) : Prop := v = some (.long (own_abs q1)) ∧ Fr n0 L ∧ h = h0
set_option maxRecDepth 65536 in
set_option maxHeartbeats 40000000 in
theorem rm_abs (l : Launch) (Z : State) (a0 : Array Value) (hw : ∀ d ∈ tables_1, d.before a0 Z = true) (ws : List Jvm.Cond) (q1 : Int64) (h0 : Heap) (n0 : Nat) (Z0 : n0 ≤ h0.size) :
    MetFree l (⟨"java/lang/Math", "abs", "(J)J"⟩ : MethodName) (head1 (Jvm.Cond.code (⟨"java/lang/Math", "abs", "(J)J"⟩ : MethodName) jdk_29_method_61_code 2 (some .long) :: ws) ({ frames := 0, cells := 0, slots := 0, locals := 0 } : Room)) (fun a U => a = #[(.long q1)] ∧ Z.Warmed39 U.vm ∧ U.heap = h0) (fun _ _ _ _ _ => True) (fun _ U o U' => ∃ v L, o = .returned v ∧ Q_abs Z q1 h0 n0 v U'.heap L ∧ FrameEnd U o U' L ({ frames := 0, cells := 0, slots := 0, locals := 0 } : Room).cells ({ frames := 0, cells := 0, slots := 0, locals := 0 } : Room).slots) := by
  refine MetFree.of_bodySF (Jvm.Free.JP.mathPlain rfl (by decide +kernel)) hisR ?_
  intro p e s m args below meth c s₁ Bd hml0 hP hK
  obtain ⟨rfl, hZ, hh⟩ := hP
  have hx := Bd.exec
  have hby := Bd.bytes
  have hml : c.maxLocals = 2 := hml0
  have hown : s.vm.findClass "java/lang/Math" = some m.cls := findClass_of_methodNamed Bd.named
  have hnm := (name_of_methodNamed Bd.named Bd.method).1
  have X0 : Stand p l e ({ frames := 0, cells := 0, slots := 0, locals := 0 } : Room) s m #[(.long q1)] below meth c s₁ [] 0 0 := Stand.of_body Bd
  have e0 : s₁.heap = h0 := by rw [← hh, Bd.state]; rfl
  have N0 := Fr.nil n0
  have pre0 : ∀ t, Steps p.tables e below (s₁.setTop (mkF m 0 #[.val (.long q1), .second] [])) t → Steps p.tables e below (s₁.setTop (entryFrame m #[(.long q1)] 2)) t := fun t k => castTop (own_ef_abs m q1) k
  have way1 : ∀ t, Steps p.tables e below (s₁.setTop (mkF m 3 #[.val (.long q1), .second] [(.int (lcmpW q1 (0 : Int64)))])) t → Steps p.tables e below (s₁.setTop (entryFrame m #[(.long q1)] 2)) t := fun t k => pre0 t (by
    show Steps p.tables e below (s₁.setTop (mkF m 0 #[.val (.long q1), .second] [])) _
    refine XS.lloadN X0.here hx rfl (hb hby own_d_abs_0) rfl ?_
    show Steps p.tables e below (s₁.setTop (mkF m 1 #[.val (.long q1), .second] [(.long q1)])) _
    refine XS.lconst X0.here hx rfl (hb hby own_d_abs_1) ?_
    show Steps p.tables e below (s₁.setTop (mkF m 2 #[.val (.long q1), .second] [(.long (0 : Int64)), (.long q1)])) _
    refine XS.lcmp X0.here hx rfl (hb hby own_d_abs_2) rfl ?_
    exact k)
  by_cases hc2 : q1 < (0 : Int64)
  ·
    have way3 : ∀ t, Steps p.tables e below (s₁.setTop (mkF m 12 #[.val (.long q1), .second] [(.long (-q1))])) t → Steps p.tables e below (s₁.setTop (entryFrame m #[(.long q1)] 2)) t := fun t k => way1 t (by
      show Steps p.tables e below (s₁.setTop (mkF m 3 #[.val (.long q1), .second] [(.int (lcmpW q1 (0 : Int64)))])) _
      refine XS.ifNo X0.here hx rfl (hb hby own_d_abs_3) rfl ((if0 _ _).trans (tlt ((lw_lt _ _).mpr hc2)).2.1) ?_
      show Steps p.tables e below (s₁.setTop (mkF m 6 #[.val (.long q1), .second] [])) _
      refine XS.lloadN X0.here hx rfl (hb hby own_d_abs_6) rfl ?_
      show Steps p.tables e below (s₁.setTop (mkF m 7 #[.val (.long q1), .second] [(.long q1)])) _
      refine XS.lneg X0.here hx rfl (hb hby own_d_abs_7) rfl ?_
      show Steps p.tables e below (s₁.setTop (mkF m 8 #[.val (.long q1), .second] [(.long (-q1))])) _
      refine XS.goto X0.here hx rfl (pc0 := 8) (pc' := 12) rfl (hb hby own_d_abs_8) (by decide) (by decide) ?_
      exact k)
    obtain ⟨fs, hr, hrun, hended, hW, hsame⟩ := X0.leave (v := some (.long (-q1))) (fun h => by rw [Bd.returns] at h; cases h)
    refine ⟨_, _, way3 _ ?_, hrun, hended, _, _, rfl, ?_, ⟨_, rfl⟩, hW, hsame.mono (by decide) (by decide)⟩
    · show Steps p.tables e below (s₁.setTop (mkF m 12 #[.val (.long q1), .second] [(.long (-q1))])) _
      jvm_step X0.here [X0.here.top, hx, (hb hby own_d_abs_12), X0.method', Bd.returns, narrow]
      first | (intro acts; rw [hr _ acts rfl rfl rfl]) | rw [hr _ _ rfl rfl rfl]
      exact Steps.refl _
    · show Q_abs Z q1 h0 n0 _ s₁.heap _
      rw [e0]
      exact ⟨by simp [own_abs, hc2], N0, rfl⟩
  ·
    have way4 : ∀ t, Steps p.tables e below (s₁.setTop (mkF m 12 #[.val (.long q1), .second] [(.long q1)])) t → Steps p.tables e below (s₁.setTop (entryFrame m #[(.long q1)] 2)) t := fun t k => way1 t (by
      show Steps p.tables e below (s₁.setTop (mkF m 3 #[.val (.long q1), .second] [(.int (lcmpW q1 (0 : Int64)))])) _
      refine XS.ifYes X0.here hx rfl (pc0 := 3) (pc' := 11) rfl (hb hby own_d_abs_3) rfl ((if0 _ _).trans (flt (fun q => hc2 ((lw_lt _ _).mp q))).2.1) (by decide) (by decide) ?_
      show Steps p.tables e below (s₁.setTop (mkF m 11 #[.val (.long q1), .second] [])) _
      refine XS.lloadN X0.here hx rfl (hb hby own_d_abs_11) rfl ?_
      exact k)
    obtain ⟨fs, hr, hrun, hended, hW, hsame⟩ := X0.leave (v := some (.long q1)) (fun h => by rw [Bd.returns] at h; cases h)
    refine ⟨_, _, way4 _ ?_, hrun, hended, _, _, rfl, ?_, ⟨_, rfl⟩, hW, hsame.mono (by decide) (by decide)⟩
    · show Steps p.tables e below (s₁.setTop (mkF m 12 #[.val (.long q1), .second] [(.long q1)])) _
      jvm_step X0.here [X0.here.top, hx, (hb hby own_d_abs_12), X0.method', Bd.returns, narrow]
      first | (intro acts; rw [hr _ acts rfl rfl rfl]) | rw [hr _ _ rfl rfl rfl]
      exact Steps.refl _
    · show Q_abs Z q1 h0 n0 _ s₁.heap _
      rw [e0]
      exact ⟨by simp [own_abs, hc2], N0, rfl⟩
theorem own_pn0 : plainName "com/example/moorline/moorline/ssh/SshMessage" = true := by first | (simp [plainName, overriddenIn]; done) | decide +kernel
theorem own_d_ke_0 : decode prog_90_method_3_code 0 = .ok (.iload_n 0, 1) := by decide +kernel
theorem own_d_ke_1 : decode prog_90_method_3_code 1 = .ok (.bipush 20, 2) := by decide +kernel
theorem own_d_ke_3 : decode prog_90_method_3_code 3 = .ok (.if_icmp .eq 21, 3) := by decide +kernel
theorem own_d_ke_6 : decode prog_90_method_3_code 6 = .ok (.iload_n 0, 1) := by decide +kernel
theorem own_d_ke_7 : decode prog_90_method_3_code 7 = .ok (.bipush 21, 2) := by decide +kernel
theorem own_d_ke_9 : decode prog_90_method_3_code 9 = .ok (.if_icmp .eq 15, 3) := by decide +kernel
theorem own_d_ke_12 : decode prog_90_method_3_code 12 = .ok (.iload_n 0, 1) := by decide +kernel
theorem own_d_ke_13 : decode prog_90_method_3_code 13 = .ok (.bipush 30, 2) := by decide +kernel
theorem own_d_ke_15 : decode prog_90_method_3_code 15 = .ok (.if_icmp .lt 13, 3) := by decide +kernel
theorem own_d_ke_18 : decode prog_90_method_3_code 18 = .ok (.iload_n 0, 1) := by decide +kernel
theorem own_d_ke_19 : decode prog_90_method_3_code 19 = .ok (.bipush 49, 2) := by decide +kernel
theorem own_d_ke_21 : decode prog_90_method_3_code 21 = .ok (.if_icmp .gt 7, 3) := by decide +kernel
theorem own_d_ke_24 : decode prog_90_method_3_code 24 = .ok (.iconst 1, 1) := by decide +kernel
theorem own_d_ke_25 : decode prog_90_method_3_code 25 = .ok (.goto 4, 3) := by decide +kernel
theorem own_d_ke_28 : decode prog_90_method_3_code 28 = .ok (.iconst 0, 1) := by decide +kernel
theorem own_d_ke_29 : decode prog_90_method_3_code 29 = .ok (.ireturn, 1) := by decide +kernel
theorem own_ef_ke (m : MethodId) (p1 : Int32) : entryFrame m #[(.int p1)] 1 = mkF m 0 #[.val (.int p1)] [] := by first | (simp [entryFrame, mkF, argsToLocals, Value.category]; done) | rfl
def Q_ke (Z : State) (p1 : Int32) (h0 : Heap) (n0 : Nat) (v : Option Value) (h : Heap) (L : List Loc) : Prop := v = some (.int (own_ke p1)) ∧ Fr n0 L ∧ h = h0
set_option maxRecDepth 65536 in
set_option maxHeartbeats 40000000 in
theorem rm_ke (l : Launch) (Z : State) (a0 : Array Value) (hw : ∀ d ∈ tables_1, d.before a0 Z = true) (ws : List Jvm.Cond) (p1 : Int32) (h0 : Heap) (n0 : Nat) (Z0 : n0 ≤ h0.size) :
    MetFree l (⟨"com/example/moorline/moorline/ssh/SshMessage", "isKeyExchange", "(I)Z"⟩ : MethodName) (head1 (Jvm.Cond.code (⟨"com/example/moorline/moorline/ssh/SshMessage", "isKeyExchange", "(I)Z"⟩ : MethodName) prog_90_method_3_code 1 (some .boolean) :: ws) ({ frames := 0, cells := 0, slots := 0, locals := 0 } : Room)) (fun a U => a = #[(.int p1)] ∧ Z.Warmed39 U.vm ∧ U.heap = h0) (fun _ _ _ _ _ => True) (fun _ U o U' => ∃ v L, o = .returned v ∧ Q_ke Z p1 h0 n0 v U'.heap L ∧ FrameEnd U o U' L ({ frames := 0, cells := 0, slots := 0, locals := 0 } : Room).cells ({ frames := 0, cells := 0, slots := 0, locals := 0 } : Room).slots) := by
  refine MetFree.of_bodySF (plainFor_of_name own_pn0) hisR ?_
  intro p e s m args below meth c s₁ Bd hml0 hP hK
  obtain ⟨rfl, hZ, hh⟩ := hP
  have hx := Bd.exec
  have hby := Bd.bytes
  have hml : c.maxLocals = 1 := hml0
  have hown : s.vm.findClass "com/example/moorline/moorline/ssh/SshMessage" = some m.cls := findClass_of_methodNamed Bd.named
  have hnm := (name_of_methodNamed Bd.named Bd.method).1
  have X0 : Stand p l e ({ frames := 0, cells := 0, slots := 0, locals := 0 } : Room) s m #[(.int p1)] below meth c s₁ [] 0 0 := Stand.of_body Bd
  have e0 : s₁.heap = h0 := by rw [← hh, Bd.state]; rfl
  have N0 := Fr.nil n0
  have pre0 : ∀ t, Steps p.tables e below (s₁.setTop (mkF m 0 #[.val (.int p1)] [])) t → Steps p.tables e below (s₁.setTop (entryFrame m #[(.int p1)] 1)) t := fun t k => castTop (own_ef_ke m p1) k
  have way1 : ∀ t, Steps p.tables e below (s₁.setTop (mkF m 3 #[.val (.int p1)] [(.int (20 : Int32)), (.int p1)])) t → Steps p.tables e below (s₁.setTop (entryFrame m #[(.int p1)] 1)) t := fun t k => pre0 t (by
    show Steps p.tables e below (s₁.setTop (mkF m 0 #[.val (.int p1)] [])) _
    refine XS.iloadN X0.here hx rfl (hb hby own_d_ke_0) rfl ?_
    show Steps p.tables e below (s₁.setTop (mkF m 1 #[.val (.int p1)] [(.int p1)])) _
    refine XS.bipush X0.here hx rfl (hb hby own_d_ke_1) ?_
    exact k)
  by_cases hc2 : p1 = (20 : Int32)
  ·
    have way3 : ∀ t, Steps p.tables e below (s₁.setTop (mkF m 29 #[.val (.int p1)] [(.int (1 : Int32))])) t → Steps p.tables e below (s₁.setTop (entryFrame m #[(.int p1)] 1)) t := fun t k => way1 t (by
      show Steps p.tables e below (s₁.setTop (mkF m 3 #[.val (.int p1)] [(.int (20 : Int32)), (.int p1)])) _
      refine XS.icmpYes X0.here hx rfl (pc0 := 3) (pc' := 24) rfl (hb hby own_d_ke_3) rfl (teq hc2).1 (by decide) (by decide) ?_
      show Steps p.tables e below (s₁.setTop (mkF m 24 #[.val (.int p1)] [])) _
      refine XS.iconst X0.here hx rfl (hb hby own_d_ke_24) ?_
      show Steps p.tables e below (s₁.setTop (mkF m 25 #[.val (.int p1)] [(.int (1 : Int32))])) _
      refine XS.goto X0.here hx rfl (pc0 := 25) (pc' := 29) rfl (hb hby own_d_ke_25) (by decide) (by decide) ?_
      exact k)
    obtain ⟨fs, hr, hrun, hended, hW, hsame⟩ := X0.leave (v := some (.int (1 : Int32))) (fun h => by rw [Bd.returns] at h; cases h)
    refine ⟨_, _, way3 _ ?_, hrun, hended, _, _, rfl, ?_, ⟨_, rfl⟩, hW, hsame.mono (by decide) (by decide)⟩
    · show Steps p.tables e below (s₁.setTop (mkF m 29 #[.val (.int p1)] [(.int (1 : Int32))])) _
      exact retN X0 hx (t := .boolean) Bd.returns (by simp) (hb hby own_d_ke_29) hr
    · show Q_ke Z p1 h0 n0 _ s₁.heap _
      rw [e0]
      exact ⟨by simp [own_ke, hc2], N0, rfl⟩
  ·
    have way4 : ∀ t, Steps p.tables e below (s₁.setTop (mkF m 9 #[.val (.int p1)] [(.int (21 : Int32)), (.int p1)])) t → Steps p.tables e below (s₁.setTop (entryFrame m #[(.int p1)] 1)) t := fun t k => way1 t (by
      show Steps p.tables e below (s₁.setTop (mkF m 3 #[.val (.int p1)] [(.int (20 : Int32)), (.int p1)])) _
      refine XS.icmpNo X0.here hx rfl (hb hby own_d_ke_3) rfl (feq hc2).1 ?_
      show Steps p.tables e below (s₁.setTop (mkF m 6 #[.val (.int p1)] [])) _
      refine XS.iloadN X0.here hx rfl (hb hby own_d_ke_6) rfl ?_
      show Steps p.tables e below (s₁.setTop (mkF m 7 #[.val (.int p1)] [(.int p1)])) _
      refine XS.bipush X0.here hx rfl (hb hby own_d_ke_7) ?_
      exact k)
    by_cases hc5 : p1 = (21 : Int32)
    ·
      have way6 : ∀ t, Steps p.tables e below (s₁.setTop (mkF m 29 #[.val (.int p1)] [(.int (1 : Int32))])) t → Steps p.tables e below (s₁.setTop (entryFrame m #[(.int p1)] 1)) t := fun t k => way4 t (by
        show Steps p.tables e below (s₁.setTop (mkF m 9 #[.val (.int p1)] [(.int (21 : Int32)), (.int p1)])) _
        refine XS.icmpYes X0.here hx rfl (pc0 := 9) (pc' := 24) rfl (hb hby own_d_ke_9) rfl (teq hc5).1 (by decide) (by decide) ?_
        show Steps p.tables e below (s₁.setTop (mkF m 24 #[.val (.int p1)] [])) _
        refine XS.iconst X0.here hx rfl (hb hby own_d_ke_24) ?_
        show Steps p.tables e below (s₁.setTop (mkF m 25 #[.val (.int p1)] [(.int (1 : Int32))])) _
        refine XS.goto X0.here hx rfl (pc0 := 25) (pc' := 29) rfl (hb hby own_d_ke_25) (by decide) (by decide) ?_
        exact k)
      obtain ⟨fs, hr, hrun, hended, hW, hsame⟩ := X0.leave (v := some (.int (1 : Int32))) (fun h => by rw [Bd.returns] at h; cases h)
      refine ⟨_, _, way6 _ ?_, hrun, hended, _, _, rfl, ?_, ⟨_, rfl⟩, hW, hsame.mono (by decide) (by decide)⟩
      · show Steps p.tables e below (s₁.setTop (mkF m 29 #[.val (.int p1)] [(.int (1 : Int32))])) _
        exact retN X0 hx (t := .boolean) Bd.returns (by simp) (hb hby own_d_ke_29) hr
      · show Q_ke Z p1 h0 n0 _ s₁.heap _
        rw [e0]
        exact ⟨by simp [own_ke, hc2, hc5], N0, rfl⟩
    ·
      have way7 : ∀ t, Steps p.tables e below (s₁.setTop (mkF m 15 #[.val (.int p1)] [(.int (30 : Int32)), (.int p1)])) t → Steps p.tables e below (s₁.setTop (entryFrame m #[(.int p1)] 1)) t := fun t k => way4 t (by
        show Steps p.tables e below (s₁.setTop (mkF m 9 #[.val (.int p1)] [(.int (21 : Int32)), (.int p1)])) _
        refine XS.icmpNo X0.here hx rfl (hb hby own_d_ke_9) rfl (feq hc5).1 ?_
        show Steps p.tables e below (s₁.setTop (mkF m 12 #[.val (.int p1)] [])) _
        refine XS.iloadN X0.here hx rfl (hb hby own_d_ke_12) rfl ?_
        show Steps p.tables e below (s₁.setTop (mkF m 13 #[.val (.int p1)] [(.int p1)])) _
        refine XS.bipush X0.here hx rfl (hb hby own_d_ke_13) ?_
        exact k)
      by_cases hc8 : p1 < (30 : Int32)
      ·
        have way9 : ∀ t, Steps p.tables e below (s₁.setTop (mkF m 29 #[.val (.int p1)] [(.int (0 : Int32))])) t → Steps p.tables e below (s₁.setTop (entryFrame m #[(.int p1)] 1)) t := fun t k => way7 t (by
          show Steps p.tables e below (s₁.setTop (mkF m 15 #[.val (.int p1)] [(.int (30 : Int32)), (.int p1)])) _
          refine XS.icmpYes X0.here hx rfl (pc0 := 15) (pc' := 28) rfl (hb hby own_d_ke_15) rfl (tlt hc8).1 (by decide) (by decide) ?_
          show Steps p.tables e below (s₁.setTop (mkF m 28 #[.val (.int p1)] [])) _
          refine XS.iconst X0.here hx rfl (hb hby own_d_ke_28) ?_
          exact k)
        obtain ⟨fs, hr, hrun, hended, hW, hsame⟩ := X0.leave (v := some (.int (0 : Int32))) (fun h => by rw [Bd.returns] at h; cases h)
        refine ⟨_, _, way9 _ ?_, hrun, hended, _, _, rfl, ?_, ⟨_, rfl⟩, hW, hsame.mono (by decide) (by decide)⟩
        · show Steps p.tables e below (s₁.setTop (mkF m 29 #[.val (.int p1)] [(.int (0 : Int32))])) _
          exact retN X0 hx (t := .boolean) Bd.returns (by simp) (hb hby own_d_ke_29) hr
        · show Q_ke Z p1 h0 n0 _ s₁.heap _
          rw [e0]
          exact ⟨by simp [own_ke, hc2, hc5, hc8], N0, rfl⟩
      ·
        have way10 : ∀ t, Steps p.tables e below (s₁.setTop (mkF m 21 #[.val (.int p1)] [(.int (49 : Int32)), (.int p1)])) t → Steps p.tables e below (s₁.setTop (entryFrame m #[(.int p1)] 1)) t := fun t k => way7 t (by
          show Steps p.tables e below (s₁.setTop (mkF m 15 #[.val (.int p1)] [(.int (30 : Int32)), (.int p1)])) _
          refine XS.icmpNo X0.here hx rfl (hb hby own_d_ke_15) rfl (flt hc8).1 ?_
          show Steps p.tables e below (s₁.setTop (mkF m 18 #[.val (.int p1)] [])) _
          refine XS.iloadN X0.here hx rfl (hb hby own_d_ke_18) rfl ?_
          show Steps p.tables e below (s₁.setTop (mkF m 19 #[.val (.int p1)] [(.int p1)])) _
          refine XS.bipush X0.here hx rfl (hb hby own_d_ke_19) ?_
          exact k)
        by_cases hc11 : (49 : Int32) < p1
        ·
          have way12 : ∀ t, Steps p.tables e below (s₁.setTop (mkF m 29 #[.val (.int p1)] [(.int (0 : Int32))])) t → Steps p.tables e below (s₁.setTop (entryFrame m #[(.int p1)] 1)) t := fun t k => way10 t (by
            show Steps p.tables e below (s₁.setTop (mkF m 21 #[.val (.int p1)] [(.int (49 : Int32)), (.int p1)])) _
            refine XS.icmpYes X0.here hx rfl (pc0 := 21) (pc' := 28) rfl (hb hby own_d_ke_21) rfl (tlt hc11).2.2.1 (by decide) (by decide) ?_
            show Steps p.tables e below (s₁.setTop (mkF m 28 #[.val (.int p1)] [])) _
            refine XS.iconst X0.here hx rfl (hb hby own_d_ke_28) ?_
            exact k)
          obtain ⟨fs, hr, hrun, hended, hW, hsame⟩ := X0.leave (v := some (.int (0 : Int32))) (fun h => by rw [Bd.returns] at h; cases h)
          refine ⟨_, _, way12 _ ?_, hrun, hended, _, _, rfl, ?_, ⟨_, rfl⟩, hW, hsame.mono (by decide) (by decide)⟩
          · show Steps p.tables e below (s₁.setTop (mkF m 29 #[.val (.int p1)] [(.int (0 : Int32))])) _
            exact retN X0 hx (t := .boolean) Bd.returns (by simp) (hb hby own_d_ke_29) hr
          · show Q_ke Z p1 h0 n0 _ s₁.heap _
            rw [e0]
            exact ⟨by simp [own_ke, hc2, hc5, hc8, hc11], N0, rfl⟩
        ·
          have way13 : ∀ t, Steps p.tables e below (s₁.setTop (mkF m 29 #[.val (.int p1)] [(.int (1 : Int32))])) t → Steps p.tables e below (s₁.setTop (entryFrame m #[(.int p1)] 1)) t := fun t k => way10 t (by
            show Steps p.tables e below (s₁.setTop (mkF m 21 #[.val (.int p1)] [(.int (49 : Int32)), (.int p1)])) _
            refine XS.icmpNo X0.here hx rfl (hb hby own_d_ke_21) rfl (flt hc11).2.2.1 ?_
            show Steps p.tables e below (s₁.setTop (mkF m 24 #[.val (.int p1)] [])) _
            refine XS.iconst X0.here hx rfl (hb hby own_d_ke_24) ?_
            show Steps p.tables e below (s₁.setTop (mkF m 25 #[.val (.int p1)] [(.int (1 : Int32))])) _
            refine XS.goto X0.here hx rfl (pc0 := 25) (pc' := 29) rfl (hb hby own_d_ke_25) (by decide) (by decide) ?_
            exact k)
          obtain ⟨fs, hr, hrun, hended, hW, hsame⟩ := X0.leave (v := some (.int (1 : Int32))) (fun h => by rw [Bd.returns] at h; cases h)
          refine ⟨_, _, way13 _ ?_, hrun, hended, _, _, rfl, ?_, ⟨_, rfl⟩, hW, hsame.mono (by decide) (by decide)⟩
          · show Steps p.tables e below (s₁.setTop (mkF m 29 #[.val (.int p1)] [(.int (1 : Int32))])) _
            exact retN X0 hx (t := .boolean) Bd.returns (by simp) (hb hby own_d_ke_29) hr
          · show Q_ke Z p1 h0 n0 _ s₁.heap _
            rw [e0]
            exact ⟨by simp [own_ke, hc2, hc5, hc8, hc11], N0, rfl⟩
theorem own_pn1 : plainName "com/example/moorline/moorline/ssh/SshMessageIsKeyExchangePinLaw" = true := by first | (simp [plainName, overriddenIn]; done) | decide +kernel
theorem own_pd2 : parseMethodDescriptor "(J)J" = some ⟨[.long], some .long⟩ := by decide +kernel
theorem own_pd3 : parseMethodDescriptor "(I)Z" = some ⟨[.int], some .boolean⟩ := by decide +kernel
theorem own_ef_law (m : MethodId) (p1 : Int32) : entryFrame m #[(.int p1)] maxLocals = mkF m 0 #[.val (.int p1), .unset, .unset, .unset, .unset, .unset] [] := by first | (simp [entryFrame, mkF, argsToLocals, Value.category, maxLocals]; done) | rfl
def Q_law (Z : State) (p1 : Int32) (h0 : Heap) (n0 : Nat) (v : Option Value) (h : Heap) (L : List Loc) : Prop := v = some (.int (1 : Int32)) ∧ Fr n0 L
set_option maxRecDepth 65536 in
set_option maxHeartbeats 40000000 in
theorem rm_law (l : Launch) (Z : State) (a0 : Array Value) (hw : ∀ d ∈ tables_1, d.before a0 Z = true) (ws : List Jvm.Cond) (p1 : Int32) (h0 : Heap) (n0 : Nat) (Z0 : n0 ≤ h0.size) :
    MetFree l x (head1 (Jvm.Cond.code x code maxLocals ret :: ws) room_1) (fun a U => a = #[(.int p1)] ∧ Z.Warmed39 U.vm ∧ U.heap = h0) (fun _ _ _ _ _ => True) (fun _ U o U' => ∃ v L, o = .returned v ∧ Q_law Z p1 h0 n0 v U'.heap L ∧ FrameEnd U o U' L room_1.cells room_1.slots) := by
  refine MetFree.of_bodySF (plainFor_of_name own_pn1) hisR ?_
  intro p e s m args below meth c s₁ Bd hml0 hP hK
  obtain ⟨rfl, hZ, hh⟩ := hP
  have hx := Bd.exec
  have hby := Bd.bytes
  have hml : c.maxLocals = 6 := hml0
  have hown : s.vm.findClass "com/example/moorline/moorline/ssh/SshMessageIsKeyExchangePinLaw" = some m.cls := findClass_of_methodNamed Bd.named
  have hnm := (name_of_methodNamed Bd.named Bd.method).1
  have X0 : Stand p l e room_1 s m #[(.int p1)] below meth c s₁ [] 0 0 := Stand.of_body Bd
  have e0 : s₁.heap = h0 := by rw [← hh, Bd.state]; rfl
  have N0 := Fr.nil n0
  have pre0 : ∀ t, Steps p.tables e below (s₁.setTop (mkF m 0 #[.val (.int p1), .unset, .unset, .unset, .unset, .unset] [])) t → Steps p.tables e below (s₁.setTop (entryFrame m #[(.int p1)] maxLocals)) t := fun t k => castTop (own_ef_law m p1) k
  have way1 : ∀ t, Steps p.tables e below (s₁.setTop (mkF m 6 #[.val (.int p1), .unset, .unset, .unset, .unset, .unset] [(.int (20 : Int32)), (.int (p1 &&& (-2 : Int32)))])) t → Steps p.tables e below (s₁.setTop (entryFrame m #[(.int p1)] maxLocals)) t := fun t k => pre0 t (by
    show Steps p.tables e below (s₁.setTop (mkF m 0 #[.val (.int p1), .unset, .unset, .unset, .unset, .unset] [])) _
    refine XS.iloadN X0.here hx rfl (hb hby at_0) rfl ?_
    show Steps p.tables e below (s₁.setTop (mkF m 1 #[.val (.int p1), .unset, .unset, .unset, .unset, .unset] [(.int p1)])) _
    refine XS.bipush X0.here hx rfl (hb hby at_1) ?_
    show Steps p.tables e below (s₁.setTop (mkF m 3 #[.val (.int p1), .unset, .unset, .unset, .unset, .unset] [(.int (-2 : Int32)), (.int p1)])) _
    refine XS.iand X0.here hx rfl (hb hby at_3) rfl ?_
    show Steps p.tables e below (s₁.setTop (mkF m 4 #[.val (.int p1), .unset, .unset, .unset, .unset, .unset] [(.int (p1 &&& (-2 : Int32)))])) _
    refine XS.bipush X0.here hx rfl (hb hby at_4) ?_
    exact k)
  obtain ⟨v3, hv3⟩ : ∃ z : Int32, z = (if (p1 &&& (-2 : Int32)) = (20 : Int32) then (1 : Int32) else (0 : Int32)) := ⟨_, rfl⟩
  have way4 : ∀ t, Steps p.tables e below (s₁.setTop (mkF m 14 #[.val (.int p1), .unset, .unset, .unset, .unset, .unset] [(.int v3)])) t → Steps p.tables e below (s₁.setTop (entryFrame m #[(.int p1)] maxLocals)) t := fun t k => way1 t (by
    by_cases hj2 : (p1 &&& (-2 : Int32)) = (20 : Int32)
    ·
      show Steps p.tables e below (s₁.setTop (mkF m 6 #[.val (.int p1), .unset, .unset, .unset, .unset, .unset] [(.int (20 : Int32)), (.int (p1 &&& (-2 : Int32)))])) _
      refine XS.icmpNo X0.here hx rfl (hb hby at_6) rfl (teq hj2).2 ?_
      show Steps p.tables e below (s₁.setTop (mkF m 9 #[.val (.int p1), .unset, .unset, .unset, .unset, .unset] [])) _
      refine XS.iconst X0.here hx rfl (hb hby at_9) ?_
      show Steps p.tables e below (s₁.setTop (mkF m 10 #[.val (.int p1), .unset, .unset, .unset, .unset, .unset] [(.int (1 : Int32))])) _
      refine XS.goto X0.here hx rfl (pc0 := 10) (pc' := 14) rfl (hb hby at_10) (by decide) (by decide) ?_
      simp only [hv3, if_pos hj2] at k
      exact k
    ·
      show Steps p.tables e below (s₁.setTop (mkF m 6 #[.val (.int p1), .unset, .unset, .unset, .unset, .unset] [(.int (20 : Int32)), (.int (p1 &&& (-2 : Int32)))])) _
      refine XS.icmpYes X0.here hx rfl (pc0 := 6) (pc' := 13) rfl (hb hby at_6) rfl (feq hj2).2 (by decide) (by decide) ?_
      show Steps p.tables e below (s₁.setTop (mkF m 13 #[.val (.int p1), .unset, .unset, .unset, .unset, .unset] [])) _
      refine XS.iconst X0.here hx rfl (hb hby at_13) ?_
      simp only [hv3, if_neg hj2] at k
      exact k)
  obtain ⟨_, _, ⟨T5, L5, k5, n5⟩, -, X5, ⟨Lc5, hQ5, l5, y5, z5⟩, st5⟩ := Jvm.LawKit.callS X0 hx (y := (⟨"java/lang/Math", "abs", "(J)J"⟩ : MethodName)) hown (mvT hZ (hw _ (List.mem_of_getElem? (i := 2) rfl))) (mvT hZ (hw _ (List.mem_of_getElem? (i := 3) rfl))) (mvT hZ (hw _ (List.mem_of_getElem? (i := 4) rfl))) (mvT hZ (hw _ (List.mem_of_getElem? (i := 5) rfl))) (by decide) (backOf (W := 0) (rm_abs l Z a0 hw [] (((2 : Int64) * (p1.toInt64)) - (79 : Int64))  h0 n0 Z0 ) hZ (hw _ (List.mem_of_getElem? (i := 5) rfl)) (hw _ (List.mem_of_getElem? (i := 4) rfl)) (by decide) (by decide)) (g := (mkF m 27 #[.val (.int p1), .val (.int v3), .val (.long (p1.toInt64)), .second, .unset, .unset] [(.long (((2 : Int64) * (p1.toInt64)) - (79 : Int64)))])) rfl (by rw [hml]; rfl) (argsL := [(.long (((2 : Int64) * (p1.toInt64)) - (79 : Int64)))]) (rest := []) (lenOf own_pd2 rfl) rfl (by show 2 * 0 + _ ≤ _; exact Nat.le_of_eq rfl) (hb hby at_27) (fun _ _ => ⟨rfl, e0, (by decide : 0 + 0 ≤ _), (by decide : 0 + 0 ≤ _)⟩)
  dsimp only [Pt.U, Pt.locs, Pt.cells, Pt.slots] at X5 l5 y5 z5 st5 hQ5
  subst l5 y5 z5
  obtain ⟨rfl, N5q, hh5⟩ := hQ5
  have N5 := Fr.app N0 N5q
  have way6 : ∀ t, Steps p.tables e below (T5.setTop (mkF m 34 #[.val (.int p1), .val (.int v3), .val (.long (p1.toInt64)), .second, .unset, .unset] [(.int (lcmpW (own_abs (((2 : Int64) * (p1.toInt64)) - (79 : Int64))) (19 : Int64)))])) t → Steps p.tables e below (s₁.setTop (entryFrame m #[(.int p1)] maxLocals)) t := fun t k => way4 t (by
    show Steps p.tables e below (s₁.setTop (mkF m 14 #[.val (.int p1), .unset, .unset, .unset, .unset, .unset] [(.int v3)])) _
    refine XS.istoreN X0.here hx rfl (hb hby at_14) rfl (l' := #[.val (.int p1), .val (.int v3), .unset, .unset, .unset, .unset]) rfl ?_
    show Steps p.tables e below (s₁.setTop (mkF m 15 #[.val (.int p1), .val (.int v3), .unset, .unset, .unset, .unset] [])) _
    refine XS.iloadN X0.here hx rfl (hb hby at_15) rfl ?_
    show Steps p.tables e below (s₁.setTop (mkF m 16 #[.val (.int p1), .val (.int v3), .unset, .unset, .unset, .unset] [(.int p1)])) _
    refine XS.i2l X0.here hx rfl (hb hby at_16) rfl ?_
    show Steps p.tables e below (s₁.setTop (mkF m 17 #[.val (.int p1), .val (.int v3), .unset, .unset, .unset, .unset] [(.long (p1.toInt64))])) _
    refine XS.lstoreN X0.here hx rfl (hb hby at_17) rfl (l' := #[.val (.int p1), .val (.int v3), .val (.long (p1.toInt64)), .second, .unset, .unset]) rfl ?_
    show Steps p.tables e below (s₁.setTop (mkF m 18 #[.val (.int p1), .val (.int v3), .val (.long (p1.toInt64)), .second, .unset, .unset] [])) _
    refine X0.ldc2Long hx hown (mvT hZ (hw _ (List.mem_of_getElem? (i := 0) rfl))) (g := (mkF m 18 #[.val (.int p1), .val (.int v3), .val (.long (p1.toInt64)), .second, .unset, .unset] [])) rfl (hb hby at_18) _ ?_
    show Steps p.tables e below (s₁.setTop (mkF m 21 #[.val (.int p1), .val (.int v3), .val (.long (p1.toInt64)), .second, .unset, .unset] [(.long (2 : Int64))])) _
    refine XS.lloadN X0.here hx rfl (hb hby at_21) rfl ?_
    show Steps p.tables e below (s₁.setTop (mkF m 22 #[.val (.int p1), .val (.int v3), .val (.long (p1.toInt64)), .second, .unset, .unset] [(.long (p1.toInt64)), (.long (2 : Int64))])) _
    refine XS.lmul X0.here hx rfl (hb hby at_22) rfl ?_
    show Steps p.tables e below (s₁.setTop (mkF m 23 #[.val (.int p1), .val (.int v3), .val (.long (p1.toInt64)), .second, .unset, .unset] [(.long ((2 : Int64) * (p1.toInt64)))])) _
    refine X0.ldc2Long hx hown (mvT hZ (hw _ (List.mem_of_getElem? (i := 1) rfl))) (g := (mkF m 23 #[.val (.int p1), .val (.int v3), .val (.long (p1.toInt64)), .second, .unset, .unset] [(.long ((2 : Int64) * (p1.toInt64)))])) rfl (hb hby at_23) _ ?_
    show Steps p.tables e below (s₁.setTop (mkF m 26 #[.val (.int p1), .val (.int v3), .val (.long (p1.toInt64)), .second, .unset, .unset] [(.long (79 : Int64)), (.long ((2 : Int64) * (p1.toInt64)))])) _
    refine XS.lsub X0.here hx rfl (hb hby at_26) rfl ?_
    show Steps p.tables e below (s₁.setTop (mkF m 27 #[.val (.int p1), .val (.int v3), .val (.long (p1.toInt64)), .second, .unset, .unset] [(.long (((2 : Int64) * (p1.toInt64)) - (79 : Int64)))])) _
    refine st5 _ ?_
    show Steps p.tables e below (T5.setTop (mkF m 30 #[.val (.int p1), .val (.int v3), .val (.long (p1.toInt64)), .second, .unset, .unset] [(.long (own_abs (((2 : Int64) * (p1.toInt64)) - (79 : Int64))))])) _
    refine X5.ldc2Long hx hown (mvT hZ (hw _ (List.mem_of_getElem? (i := 6) rfl))) (g := (mkF m 30 #[.val (.int p1), .val (.int v3), .val (.long (p1.toInt64)), .second, .unset, .unset] [(.long (own_abs (((2 : Int64) * (p1.toInt64)) - (79 : Int64))))])) rfl (hb hby at_30) _ ?_
    show Steps p.tables e below (T5.setTop (mkF m 33 #[.val (.int p1), .val (.int v3), .val (.long (p1.toInt64)), .second, .unset, .unset] [(.long (19 : Int64)), (.long (own_abs (((2 : Int64) * (p1.toInt64)) - (79 : Int64))))])) _
    refine XS.lcmp X5.here hx rfl (hb hby at_33) rfl ?_
    exact k)
  obtain ⟨v8, hv8⟩ : ∃ z : Int32, z = (if (19 : Int64) < (own_abs (((2 : Int64) * (p1.toInt64)) - (79 : Int64))) then (0 : Int32) else (1 : Int32)) := ⟨_, rfl⟩
  have way9 : ∀ t, Steps p.tables e below (T5.setTop (mkF m 42 #[.val (.int p1), .val (.int v3), .val (.long (p1.toInt64)), .second, .unset, .unset] [(.int v8)])) t → Steps p.tables e below (s₁.setTop (entryFrame m #[(.int p1)] maxLocals)) t := fun t k => way6 t (by
    by_cases hj7 : (19 : Int64) < (own_abs (((2 : Int64) * (p1.toInt64)) - (79 : Int64)))
    ·
      show Steps p.tables e below (T5.setTop (mkF m 34 #[.val (.int p1), .val (.int v3), .val (.long (p1.toInt64)), .second, .unset, .unset] [(.int (lcmpW (own_abs (((2 : Int64) * (p1.toInt64)) - (79 : Int64))) (19 : Int64)))])) _
      refine XS.ifYes X5.here hx rfl (pc0 := 34) (pc' := 41) rfl (hb hby at_34) rfl ((if0 _ _).trans (tlt ((lw_gt _ _).mpr hj7)).2.2.1) (by decide) (by decide) ?_
      show Steps p.tables e below (T5.setTop (mkF m 41 #[.val (.int p1), .val (.int v3), .val (.long (p1.toInt64)), .second, .unset, .unset] [])) _
      refine XS.iconst X5.here hx rfl (hb hby at_41) ?_
      simp only [hv8, if_pos hj7] at k
      exact k
    ·
      show Steps p.tables e below (T5.setTop (mkF m 34 #[.val (.int p1), .val (.int v3), .val (.long (p1.toInt64)), .second, .unset, .unset] [(.int (lcmpW (own_abs (((2 : Int64) * (p1.toInt64)) - (79 : Int64))) (19 : Int64)))])) _
      refine XS.ifNo X5.here hx rfl (hb hby at_34) rfl ((if0 _ _).trans (flt (fun q => hj7 ((lw_gt _ _).mp q))).2.2.1) ?_
      show Steps p.tables e below (T5.setTop (mkF m 37 #[.val (.int p1), .val (.int v3), .val (.long (p1.toInt64)), .second, .unset, .unset] [])) _
      refine XS.iconst X5.here hx rfl (hb hby at_37) ?_
      show Steps p.tables e below (T5.setTop (mkF m 38 #[.val (.int p1), .val (.int v3), .val (.long (p1.toInt64)), .second, .unset, .unset] [(.int (1 : Int32))])) _
      refine XS.goto X5.here hx rfl (pc0 := 38) (pc' := 42) rfl (hb hby at_38) (by decide) (by decide) ?_
      simp only [hv8, if_neg hj7] at k
      exact k)
  have way10 : ∀ t, Steps p.tables e below (T5.setTop (mkF m 45 #[.val (.int p1), .val (.int v3), .val (.long (p1.toInt64)), .second, .val (.int v8), .unset] [(.int v3)])) t → Steps p.tables e below (s₁.setTop (entryFrame m #[(.int p1)] maxLocals)) t := fun t k => way9 t (by
    show Steps p.tables e below (T5.setTop (mkF m 42 #[.val (.int p1), .val (.int v3), .val (.long (p1.toInt64)), .second, .unset, .unset] [(.int v8)])) _
    refine XS.istore X5.here hx rfl (hb hby at_42) rfl (l' := #[.val (.int p1), .val (.int v3), .val (.long (p1.toInt64)), .second, .val (.int v8), .unset]) rfl ?_
    show Steps p.tables e below (T5.setTop (mkF m 44 #[.val (.int p1), .val (.int v3), .val (.long (p1.toInt64)), .second, .val (.int v8), .unset] [])) _
    refine XS.iloadN X5.here hx rfl (hb hby at_44) rfl ?_
    exact k)
  obtain ⟨v13, hv13⟩ : ∃ z : Int32, z = (if v3 = (0 : Int32) then (if v8 = (0 : Int32) then (0 : Int32) else (1 : Int32)) else (1 : Int32)) := ⟨_, rfl⟩
  have way14 : ∀ t, Steps p.tables e below (T5.setTop (mkF m 58 #[.val (.int p1), .val (.int v3), .val (.long (p1.toInt64)), .second, .val (.int v8), .unset] [(.int v13)])) t → Steps p.tables e below (s₁.setTop (entryFrame m #[(.int p1)] maxLocals)) t := fun t k => way10 t (by
    by_cases hj11 : v3 = (0 : Int32)
    ·
      show Steps p.tables e below (T5.setTop (mkF m 45 #[.val (.int p1), .val (.int v3), .val (.long (p1.toInt64)), .second, .val (.int v8), .unset] [(.int v3)])) _
      refine XS.ifNo X5.here hx rfl (hb hby at_45) rfl ((if0 _ _).trans (teq hj11).2) ?_
      show Steps p.tables e below (T5.setTop (mkF m 48 #[.val (.int p1), .val (.int v3), .val (.long (p1.toInt64)), .second, .val (.int v8), .unset] [])) _
      refine XS.iload X5.here hx rfl (hb hby at_48) rfl ?_
      by_cases hj12 : v8 = (0 : Int32)
      ·
        show Steps p.tables e below (T5.setTop (mkF m 50 #[.val (.int p1), .val (.int v3), .val (.long (p1.toInt64)), .second, .val (.int v8), .unset] [(.int v8)])) _
        refine XS.ifYes X5.here hx rfl (pc0 := 50) (pc' := 57) rfl (hb hby at_50) rfl ((if0 _ _).trans (teq hj12).1) (by decide) (by decide) ?_
        show Steps p.tables e below (T5.setTop (mkF m 57 #[.val (.int p1), .val (.int v3), .val (.long (p1.toInt64)), .second, .val (.int v8), .unset] [])) _
        refine XS.iconst X5.here hx rfl (hb hby at_57) ?_
        simp only [hv13, if_pos hj11, if_pos hj12] at k
        exact k
      ·
        show Steps p.tables e below (T5.setTop (mkF m 50 #[.val (.int p1), .val (.int v3), .val (.long (p1.toInt64)), .second, .val (.int v8), .unset] [(.int v8)])) _
        refine XS.ifNo X5.here hx rfl (hb hby at_50) rfl ((if0 _ _).trans (feq hj12).1) ?_
        show Steps p.tables e below (T5.setTop (mkF m 53 #[.val (.int p1), .val (.int v3), .val (.long (p1.toInt64)), .second, .val (.int v8), .unset] [])) _
        refine XS.iconst X5.here hx rfl (hb hby at_53) ?_
        show Steps p.tables e below (T5.setTop (mkF m 54 #[.val (.int p1), .val (.int v3), .val (.long (p1.toInt64)), .second, .val (.int v8), .unset] [(.int (1 : Int32))])) _
        refine XS.goto X5.here hx rfl (pc0 := 54) (pc' := 58) rfl (hb hby at_54) (by decide) (by decide) ?_
        simp only [hv13, if_pos hj11, if_neg hj12] at k
        exact k
    ·
      show Steps p.tables e below (T5.setTop (mkF m 45 #[.val (.int p1), .val (.int v3), .val (.long (p1.toInt64)), .second, .val (.int v8), .unset] [(.int v3)])) _
      refine XS.ifYes X5.here hx rfl (pc0 := 45) (pc' := 53) rfl (hb hby at_45) rfl ((if0 _ _).trans (feq hj11).2) (by decide) (by decide) ?_
      show Steps p.tables e below (T5.setTop (mkF m 53 #[.val (.int p1), .val (.int v3), .val (.long (p1.toInt64)), .second, .val (.int v8), .unset] [])) _
      refine XS.iconst X5.here hx rfl (hb hby at_53) ?_
      show Steps p.tables e below (T5.setTop (mkF m 54 #[.val (.int p1), .val (.int v3), .val (.long (p1.toInt64)), .second, .val (.int v8), .unset] [(.int (1 : Int32))])) _
      refine XS.goto X5.here hx rfl (pc0 := 54) (pc' := 58) rfl (hb hby at_54) (by decide) (by decide) ?_
      simp only [hv13, if_neg hj11] at k
      exact k)
  obtain ⟨_, _, ⟨T15, L15, k15, n15⟩, -, X15, ⟨Lc15, hQ15, l15, y15, z15⟩, st15⟩ := Jvm.LawKit.callS X5 hx (y := (⟨"com/example/moorline/moorline/ssh/SshMessage", "isKeyExchange", "(I)Z"⟩ : MethodName)) hown (mvT hZ (hw _ (List.mem_of_getElem? (i := 7) rfl))) (mvT hZ (hw _ (List.mem_of_getElem? (i := 8) rfl))) (mvT hZ (hw _ (List.mem_of_getElem? (i := 9) rfl))) (mvT hZ (hw _ (List.mem_of_getElem? (i := 10) rfl))) (by decide) (backOf (W := 0) (rm_ke l Z a0 hw [] p1  h0 n0 Z0 ) hZ (hw _ (List.mem_of_getElem? (i := 10) rfl)) (hw _ (List.mem_of_getElem? (i := 9) rfl)) (by decide) (by decide)) (g := (mkF m 61 #[.val (.int p1), .val (.int v3), .val (.long (p1.toInt64)), .second, .val (.int v8), .val (.int v13)] [(.int p1)])) rfl (by rw [hml]; rfl) (argsL := [(.int p1)]) (rest := []) (lenOf own_pd3 rfl) rfl (by show 2 * 0 + _ ≤ _; exact Nat.le_of_eq rfl) (hb hby at_61) (fun _ _ => ⟨rfl, hh5, (by decide : 0 + 0 ≤ _), (by decide : 0 + 0 ≤ _)⟩)
  dsimp only [Pt.U, Pt.locs, Pt.cells, Pt.slots] at X15 l15 y15 z15 st15 hQ15
  subst l15 y15 z15
  obtain ⟨rfl, N15q, hh15⟩ := hQ15
  have N15 := Fr.app N5 N15q
  have way16 : ∀ t, Steps p.tables e below (T15.setTop (mkF m 74 #[.val (.int p1), .val (.int v3), .val (.long (p1.toInt64)), .second, .val (.int v8), .val (.int v13)] [(.int (1 : Int32))])) t → Steps p.tables e below (s₁.setTop (entryFrame m #[(.int p1)] maxLocals)) t := fun t k => way14 t (by
    show Steps p.tables e below (T5.setTop (mkF m 58 #[.val (.int p1), .val (.int v3), .val (.long (p1.toInt64)), .second, .val (.int v8), .unset] [(.int v13)])) _
    refine XS.istore X5.here hx rfl (hb hby at_58) rfl (l' := #[.val (.int p1), .val (.int v3), .val (.long (p1.toInt64)), .second, .val (.int v8), .val (.int v13)]) rfl ?_
    show Steps p.tables e below (T5.setTop (mkF m 60 #[.val (.int p1), .val (.int v3), .val (.long (p1.toInt64)), .second, .val (.int v8), .val (.int v13)] [])) _
    refine XS.iloadN X5.here hx rfl (hb hby at_60) rfl ?_
    show Steps p.tables e below (T5.setTop (mkF m 61 #[.val (.int p1), .val (.int v3), .val (.long (p1.toInt64)), .second, .val (.int v8), .val (.int v13)] [(.int p1)])) _
    refine st15 _ ?_
    show Steps p.tables e below (T15.setTop (mkF m 64 #[.val (.int p1), .val (.int v3), .val (.long (p1.toInt64)), .second, .val (.int v8), .val (.int v13)] [(.int (own_ke p1))])) _
    refine XS.iload X15.here hx rfl (hb hby at_64) rfl ?_
    show Steps p.tables e below (T15.setTop (mkF m 66 #[.val (.int p1), .val (.int v3), .val (.long (p1.toInt64)), .second, .val (.int v8), .val (.int v13)] [(.int v13), (.int (own_ke p1))])) _
    refine XS.icmpNo X15.here hx rfl (hb hby at_66) rfl (teq (own_eq _ _ _ _ hv3 hv8 hv13)).2 ?_
    show Steps p.tables e below (T15.setTop (mkF m 69 #[.val (.int p1), .val (.int v3), .val (.long (p1.toInt64)), .second, .val (.int v8), .val (.int v13)] [])) _
    refine XS.iconst X15.here hx rfl (hb hby at_69) ?_
    show Steps p.tables e below (T15.setTop (mkF m 70 #[.val (.int p1), .val (.int v3), .val (.long (p1.toInt64)), .second, .val (.int v8), .val (.int v13)] [(.int (1 : Int32))])) _
    refine XS.goto X15.here hx rfl (pc0 := 70) (pc' := 74) rfl (hb hby at_70) (by decide) (by decide) ?_
    exact k)
  obtain ⟨fs, hr, hrun, hended, hW, hsame⟩ := X15.leave (v := some (.int (1 : Int32))) (fun h => by rw [Bd.returns] at h; cases h)
  refine ⟨_, _, way16 _ ?_, hrun, hended, _, _, rfl, ?_, ⟨_, rfl⟩, hW, hsame.mono (by decide) (by decide)⟩
  · show Steps p.tables e below (T15.setTop (mkF m 74 #[.val (.int p1), .val (.int v3), .val (.long (p1.toInt64)), .second, .val (.int v8), .val (.int v13)] [(.int (1 : Int32))])) _
    exact retN X15 hx (t := .boolean) Bd.returns (by simp) (hb hby at_74) hr
  · show Q_law Z p1 h0 n0 _ T15.heap _
    rw [hh15]
    exact ⟨rfl, N15⟩
set_option maxRecDepth 65536 in
set_option maxHeartbeats 40000000 in
theorem comes_1 {Post : Tables → Env → Array Value → State → Outcome → State → Prop} (hpost : ∀ tb e args s v u, (limb_1_1.after args s (.returned v) u = true ∧ limb_1_2.after args s (.returned v) u = true ∧ True) → FrameEnd s (.returned v) u (Jvm.fieldLocs frame_1_writes args s ++ Jvm.arrayLocs frame_1_arrays args s ++ Jvm.staticLocs frame_1_statics s) 0 0 → Post tb e args s (.returned v) u) :
    ArmFor flags0 classFile x code maxLocals ret World_1 tables_1 room_1 Calls_1 rest_1 Pre_1 Post := by
  intro l hfl _ _ p e ha hc hk s m args below hf hA hF happ hP
  obtain ⟨hcalls, hrest, hpre⟩ := hP
  obtain ⟨-, -, -, hnamed, -, -, -, hat⟩ := (Spec.applies_iff hf).mp happ
  obtain ⟨hg, hn⟩ := and_e (Cond.before_iff.mp (show (Jvm.Cond.and given_1 narrow_1).before args s = true from hpre))
  obtain ⟨gc, g0⟩ := and_e hg
  have ga0 := g0
  obtain ⟨w0, rfl⟩ : ∃ w0 : Value, args = #[w0] := by
    have hs : args.size = 1 := by simpa [Cond.value, given_1] using gc
    obtain ⟨L⟩ := args
    match L, hs with
    | [w0], _ => exact ⟨w0, rfl⟩
  have hw := fun d (hd : d ∈ tables_1) => atoms_spec (ws := Jvm.Cond.code x code maxLocals ret :: tables_1) hat d (List.mem_cons_of_mem _ hd)
  have hfit : Fit s := fun {y c} hc i hi => by
    obtain ⟨ha, rfl⟩ := Array.getElem?_eq_some_iff.mp hc
    have q := List.all_eq_true.mp ((Array.all_eq_true_iff_forall_mem.mp hF) _ (Array.getElem_mem ha)) i (List.mem_range.mpr hi)
    simpa [Array.getElem?_eq_getElem hi] using q
  obtain ⟨i0, ei0⟩ := is_v ga0
  obtain rfl : w0 = (.int i0) := Option.some.inj ei0
  obtain ⟨n, o, h1, h2, h3, _, L, rfl, ⟨rfl, N⟩, hq⟩ := rm_law l s _ hw tables_1 i0  s.heap s.heap.size (Nat.le_refl _)  p e ha hc hk s m _ below hf ((Spec.applies_iff_loose hf).mp happ).1 ⟨rfl, State.Warmed39.refl s, rfl⟩ trivial
  refine ⟨n, _, h1, h2, h3, hpost _ _ _ _ _ _ ⟨Cond.after_iff.mpr rfl, Cond.after_iff.mpr (eq_i res_at (Term.int_eval (1)) rfl), trivial⟩ ⟨hq.1, hq.2.1, (hq.2.2.sift fun y hy => Or.inr (N y hy)).mono (by decide) (by decide)⟩⟩
theorem main_1_1 : Claimed_1_1 := comes_1 fun _ _ _ _ _ _ h hF => ⟨h.1, hF⟩
theorem main_1_2 : Claimed_1_2 := comes_1 fun _ _ _ _ _ _ h hF => ⟨h.2.1, hF⟩
end Jvm.Pilot.@@N@@
namespace Jvm.Pilot.@@N@@
open Jvm Jvm.ClassFile Sem Op Lib Jvm.Free Jvm.Stand Jvm.Pilot.@@N@@.Jvm.D
/-! MADE BY PROGRAM (witnessworld.py) out of the Statement's table words and the real class files: 10 classes; the members and pool entries that the words name. The judged class is class 1, her method 1. -/
namespace start1
open Jvm.ClassFile
def u (s : String) : CpInfo := .utf8 (stringToUtf16 s)
/-- a pool by its gaps: so many unusable entries, then the entry; so many at the end -/
def gap : Nat → List CpInfo → List CpInfo
  | 0, r => r
  | n + 1, r => .unusable :: gap n r
def poolList (es : List (Nat × CpInfo)) (last : Nat) : List CpInfo := es.foldr (fun e r => gap e.1 (e.2 :: r)) (gap last [])
def pool (es : List (Nat × CpInfo)) (last : Nat) : Array CpInfo := ⟨poolList es last⟩
def fileOf (pool : Array CpInfo) (this : Nat) (attrs : Array Attribute := #[]) (ms : Array MethodInfo := #[]) (fl : Nat := 33) (sup : Nat := 0) (ifs : Array Nat := #[]) (fds : Array FieldInfo := #[]) : ClassFile where
  minorVersion := 0
  majorVersion := 65
  constantPool := pool
  accessFlags := fl
  thisClass := this
  superClass := sup
  interfaces := ifs
  fields := fds
  methods := ms
  attributes := attrs
def plain (name : String) (sup : Option ClassId) : Class where
  name := name
  kind := .ordinary
  loader := none
  accessFlags := 33
  super := sup
  interfaces := #[]
  cf := none
  fields := #[]
  methods := #[]
  instanceTypes := #[]
  staticTypes := #[]
  resolved := #[]
  callSites := []
  init := .initialized
  statics := none
  mirror := none

def pool0 : Array CpInfo := pool [(5, u "<init>"), (0, u "()V"), (1, .class_ 10), (1, u "java/lang/Object")] 113

def k0m0 : Method := { name := "<init>", desc := "()V", sig := { parameters := [], returnType := none }, accessFlags := 1, code := none }
/-- java/lang/Object -/
def k0 : Class := { plain "java/lang/Object" none with
  accessFlags := 33
  interfaces := #[]
  cf := some (fileOf pool0 8 #[] #[{ accessFlags := 1, nameIndex := 5, descriptorIndex := 6, attributes := #[] }] 33 0 #[] #[])
  fields := #[]
  methods := #[k0m0]
  instanceTypes := #[]
  staticTypes := #[]
  resolved := Array.replicate 124 none
  statics := none }

def pool1 : Array CpInfo := pool [(2, .class_ 4), (1, u "java/lang/Object"), (0, u "<init>"), (0, u "()V"), (0, .long 2), (1, .long 79), (1, .methodref 12 13), (0, .class_ 14), (0, .nameAndType 15 16), (0, u "java/lang/Math"), (0, u "abs"), (0, u "(J)J"), (0, .long 19), (1, .methodref 20 21), (0, .class_ 22), (0, .nameAndType 23 24), (0, u "com/example/moorline/moorline/ssh/SshMessage"), (0, u "isKeyExchange"), (0, u "(I)Z"), (0, .class_ 26), (0, u "com/example/moorline/moorline/ssh/SshMessageIsKeyExchangePinLaw"), (2, u "law")] 3

def k1m0 : Method := { name := "<init>", desc := "()V", sig := { parameters := [], returnType := none }, accessFlags := 2, code := none }
def k1c1 : Code := { maxStack := 4, maxLocals := 6, code := code, exceptionTable := #[], attributes := #[] }
def k1m1 : Method := { name := "law", desc := "(I)Z", sig := { parameters := [.int], returnType := some .boolean }, accessFlags := 9, code := some k1c1 }
/-- com/example/moorline/moorline/ssh/SshMessageIsKeyExchangePinLaw -/
def k1 : Class := { plain "com/example/moorline/moorline/ssh/SshMessageIsKeyExchangePinLaw" (some 0) with
  accessFlags := 49
  interfaces := #[]
  cf := some (fileOf pool1 25 #[] #[{ accessFlags := 2, nameIndex := 5, descriptorIndex := 6, attributes := #[] }, { accessFlags := 9, nameIndex := 29, descriptorIndex := 24, attributes := #[] }] 49 2 #[] #[])
  fields := #[]
  methods := #[k1m0, k1m1]
  instanceTypes := #[]
  staticTypes := #[]
  resolved := Array.replicate 33 none
  statics := none }

def pool2 : Array CpInfo := pool [(1, .class_ 2), (0, u "java/lang/Math"), (1, .class_ 6), (1, u "java/lang/Object"), (0, u "<init>"), (0, u "()V"), (89, .class_ 100), (1, u "java/lang/Math$RandomNumberGeneratorHolder"), (23, u "abs"), (0, u "(J)J"), (46, u "negativeZeroFloatBits"), (0, u "J"), (2, u "negativeZeroDoubleBits"), (68, u "$assertionsDisabled"), (0, u "Z"), (91, u "twoToTheDoubleScaleDown"), (0, u "D"), (4, u "twoToTheDoubleScaleUp"), (9, u "E"), (3, u "PI"), (2, u "TAU"), (2, u "DEGREES_TO_RADIANS"), (0, u "RADIANS_TO_DEGREES")] 94

def k2m0 : Method := { name := "<init>", desc := "()V", sig := { parameters := [], returnType := none }, accessFlags := 2, code := none }
def k2c1 : Code := { maxStack := 4, maxLocals := 2, code := jdk_29_method_61_code, exceptionTable := #[], attributes := #[] }
def k2m1 : Method := { name := "abs", desc := "(J)J", sig := { parameters := [.long], returnType := some .long }, accessFlags := 9, code := some k2c1 }
/-- java/lang/Math -/
def k2 : Class := { plain "java/lang/Math" (some 0) with
  accessFlags := 49
  interfaces := #[]
  cf := some (fileOf pool2 1 #[.nestMembers #[98]] #[{ accessFlags := 2, nameIndex := 7, descriptorIndex := 8, attributes := #[] }, { accessFlags := 9, nameIndex := 124, descriptorIndex := 125, attributes := #[] }] 49 4 #[] #[{ accessFlags := 25, nameIndex := 354, descriptorIndex := 339, attributes := #[] }, { accessFlags := 25, nameIndex := 358, descriptorIndex := 339, attributes := #[] }, { accessFlags := 25, nameIndex := 361, descriptorIndex := 339, attributes := #[] }, { accessFlags := 26, nameIndex := 364, descriptorIndex := 339, attributes := #[] }, { accessFlags := 26, nameIndex := 365, descriptorIndex := 339, attributes := #[] }, { accessFlags := 26, nameIndex := 172, descriptorIndex := 173, attributes := #[] }, { accessFlags := 26, nameIndex := 176, descriptorIndex := 173, attributes := #[] }, { accessFlags := 8, nameIndex := 344, descriptorIndex := 339, attributes := #[] }, { accessFlags := 8, nameIndex := 338, descriptorIndex := 339, attributes := #[] }, { accessFlags := 4120, nameIndex := 245, descriptorIndex := 246, attributes := #[] }])
  fields := #[{ name := "E", type := .double, accessFlags := 25, slot := 0, constantValue := 0 }, { name := "PI", type := .double, accessFlags := 25, slot := 1, constantValue := 0 }, { name := "TAU", type := .double, accessFlags := 25, slot := 2, constantValue := 0 }, { name := "DEGREES_TO_RADIANS", type := .double, accessFlags := 26, slot := 3, constantValue := 0 }, { name := "RADIANS_TO_DEGREES", type := .double, accessFlags := 26, slot := 4, constantValue := 0 }, { name := "negativeZeroFloatBits", type := .long, accessFlags := 26, slot := 5, constantValue := 0 }, { name := "negativeZeroDoubleBits", type := .long, accessFlags := 26, slot := 6, constantValue := 0 }, { name := "twoToTheDoubleScaleUp", type := .double, accessFlags := 8, slot := 7, constantValue := 0 }, { name := "twoToTheDoubleScaleDown", type := .double, accessFlags := 8, slot := 8, constantValue := 0 }, { name := "$assertionsDisabled", type := .boolean, accessFlags := 4120, slot := 9, constantValue := 0 }]
  methods := #[k2m0, k2m1]
  instanceTypes := #[]
  staticTypes := #[.double, .double, .double, .double, .double, .long, .long, .double, .double, .boolean]
  resolved := Array.replicate 460 none
  statics := none }

def pool3 : Array CpInfo := pool [(2, .class_ 4), (1, u "java/lang/Object"), (0, u "<init>"), (0, u "()V"), (0, .class_ 8), (0, u "com/example/moorline/moorline/ssh/SshMessage"), (48, u "DISCONNECT"), (0, u "I"), (2, u "IGNORE"), (1, u "UNIMPLEMENTED"), (1, u "DEBUG"), (1, u "SERVICE_REQUEST"), (1, u "SERVICE_ACCEPT"), (1, u "KEXINIT"), (1, u "NEWKEYS"), (1, u "FIRST_KEX_METHOD"), (1, u "LAST_KEX_METHOD"), (1, u "KEX_ECDH_INIT"), (0, u "KEX_ECDH_REPLY"), (1, u "USERAUTH_REQUEST"), (1, u "USERAUTH_FAILURE"), (1, u "USERAUTH_SUCCESS"), (1, u "USERAUTH_BANNER"), (1, u "USERAUTH_PK_OK"), (1, u "FIRST_CONNECTION"), (1, u "LAST_CONNECTION"), (1, u "GLOBAL_REQUEST"), (0, u "REQUEST_FAILURE"), (1, u "CHANNEL_OPEN"), (1, u "CHANNEL_OPEN_CONFIRMATION"), (1, u "CHANNEL_OPEN_FAILURE"), (1, u "CHANNEL_WINDOW_ADJUST"), (1, u "CHANNEL_DATA"), (1, u "CHANNEL_EXTENDED_DATA"), (1, u "CHANNEL_EOF"), (1, u "CHANNEL_CLOSE"), (1, u "CHANNEL_REQUEST"), (1, u "CHANNEL_SUCCESS"), (1, u "CHANNEL_FAILURE"), (4, u "(I)Z"), (1, u "isKeyExchange")] 14

def k3m0 : Method := { name := "<init>", desc := "()V", sig := { parameters := [], returnType := none }, accessFlags := 2, code := none }
def k3c1 : Code := { maxStack := 2, maxLocals := 1, code := prog_90_method_3_code, exceptionTable := #[], attributes := #[] }
def k3m1 : Method := { name := "isKeyExchange", desc := "(I)Z", sig := { parameters := [.int], returnType := some .boolean }, accessFlags := 8, code := some k3c1 }
/-- com/example/moorline/moorline/ssh/SshMessage -/
def k3 : Class := { plain "com/example/moorline/moorline/ssh/SshMessage" (some 0) with
  accessFlags := 48
  interfaces := #[]
  cf := some (fileOf pool3 7 #[] #[{ accessFlags := 2, nameIndex := 5, descriptorIndex := 6, attributes := #[] }, { accessFlags := 8, nameIndex := 126, descriptorIndex := 124, attributes := #[] }] 48 2 #[] #[{ accessFlags := 24, nameIndex := 57, descriptorIndex := 58, attributes := #[] }, { accessFlags := 24, nameIndex := 61, descriptorIndex := 58, attributes := #[] }, { accessFlags := 24, nameIndex := 63, descriptorIndex := 58, attributes := #[] }, { accessFlags := 24, nameIndex := 65, descriptorIndex := 58, attributes := #[] }, { accessFlags := 24, nameIndex := 67, descriptorIndex := 58, attributes := #[] }, { accessFlags := 24, nameIndex := 69, descriptorIndex := 58, attributes := #[] }, { accessFlags := 24, nameIndex := 71, descriptorIndex := 58, attributes := #[] }, { accessFlags := 24, nameIndex := 73, descriptorIndex := 58, attributes := #[] }, { accessFlags := 24, nameIndex := 75, descriptorIndex := 58, attributes := #[] }, { accessFlags := 24, nameIndex := 77, descriptorIndex := 58, attributes := #[] }, { accessFlags := 24, nameIndex := 79, descriptorIndex := 58, attributes := #[] }, { accessFlags := 24, nameIndex := 80, descriptorIndex := 58, attributes := #[] }, { accessFlags := 24, nameIndex := 82, descriptorIndex := 58, attributes := #[] }, { accessFlags := 24, nameIndex := 84, descriptorIndex := 58, attributes := #[] }, { accessFlags := 24, nameIndex := 86, descriptorIndex := 58, attributes := #[] }, { accessFlags := 24, nameIndex := 88, descriptorIndex := 58, attributes := #[] }, { accessFlags := 24, nameIndex := 90, descriptorIndex := 58, attributes := #[] }, { accessFlags := 24, nameIndex := 92, descriptorIndex := 58, attributes := #[] }, { accessFlags := 24, nameIndex := 94, descriptorIndex := 58, attributes := #[] }, { accessFlags := 24, nameIndex := 96, descriptorIndex := 58, attributes := #[] }, { accessFlags := 24, nameIndex := 97, descriptorIndex := 58, attributes := #[] }, { accessFlags := 24, nameIndex := 99, descriptorIndex := 58, attributes := #[] }, { accessFlags := 24, nameIndex := 101, descriptorIndex := 58, attributes := #[] }, { accessFlags := 24, nameIndex := 103, descriptorIndex := 58, attributes := #[] }, { accessFlags := 24, nameIndex := 105, descriptorIndex := 58, attributes := #[] }, { accessFlags := 24, nameIndex := 107, descriptorIndex := 58, attributes := #[] }, { accessFlags := 24, nameIndex := 109, descriptorIndex := 58, attributes := #[] }, { accessFlags := 24, nameIndex := 111, descriptorIndex := 58, attributes := #[] }, { accessFlags := 24, nameIndex := 113, descriptorIndex := 58, attributes := #[] }, { accessFlags := 24, nameIndex := 115, descriptorIndex := 58, attributes := #[] }, { accessFlags := 24, nameIndex := 117, descriptorIndex := 58, attributes := #[] }, { accessFlags := 24, nameIndex := 119, descriptorIndex := 58, attributes := #[] }])
  fields := #[{ name := "DISCONNECT", type := .int, accessFlags := 24, slot := 0, constantValue := 0 }, { name := "IGNORE", type := .int, accessFlags := 24, slot := 1, constantValue := 0 }, { name := "UNIMPLEMENTED", type := .int, accessFlags := 24, slot := 2, constantValue := 0 }, { name := "DEBUG", type := .int, accessFlags := 24, slot := 3, constantValue := 0 }, { name := "SERVICE_REQUEST", type := .int, accessFlags := 24, slot := 4, constantValue := 0 }, { name := "SERVICE_ACCEPT", type := .int, accessFlags := 24, slot := 5, constantValue := 0 }, { name := "KEXINIT", type := .int, accessFlags := 24, slot := 6, constantValue := 0 }, { name := "NEWKEYS", type := .int, accessFlags := 24, slot := 7, constantValue := 0 }, { name := "FIRST_KEX_METHOD", type := .int, accessFlags := 24, slot := 8, constantValue := 0 }, { name := "LAST_KEX_METHOD", type := .int, accessFlags := 24, slot := 9, constantValue := 0 }, { name := "KEX_ECDH_INIT", type := .int, accessFlags := 24, slot := 10, constantValue := 0 }, { name := "KEX_ECDH_REPLY", type := .int, accessFlags := 24, slot := 11, constantValue := 0 }, { name := "USERAUTH_REQUEST", type := .int, accessFlags := 24, slot := 12, constantValue := 0 }, { name := "USERAUTH_FAILURE", type := .int, accessFlags := 24, slot := 13, constantValue := 0 }, { name := "USERAUTH_SUCCESS", type := .int, accessFlags := 24, slot := 14, constantValue := 0 }, { name := "USERAUTH_BANNER", type := .int, accessFlags := 24, slot := 15, constantValue := 0 }, { name := "USERAUTH_PK_OK", type := .int, accessFlags := 24, slot := 16, constantValue := 0 }, { name := "FIRST_CONNECTION", type := .int, accessFlags := 24, slot := 17, constantValue := 0 }, { name := "LAST_CONNECTION", type := .int, accessFlags := 24, slot := 18, constantValue := 0 }, { name := "GLOBAL_REQUEST", type := .int, accessFlags := 24, slot := 19, constantValue := 0 }, { name := "REQUEST_FAILURE", type := .int, accessFlags := 24, slot := 20, constantValue := 0 }, { name := "CHANNEL_OPEN", type := .int, accessFlags := 24, slot := 21, constantValue := 0 }, { name := "CHANNEL_OPEN_CONFIRMATION", type := .int, accessFlags := 24, slot := 22, constantValue := 0 }, { name := "CHANNEL_OPEN_FAILURE", type := .int, accessFlags := 24, slot := 23, constantValue := 0 }, { name := "CHANNEL_WINDOW_ADJUST", type := .int, accessFlags := 24, slot := 24, constantValue := 0 }, { name := "CHANNEL_DATA", type := .int, accessFlags := 24, slot := 25, constantValue := 0 }, { name := "CHANNEL_EXTENDED_DATA", type := .int, accessFlags := 24, slot := 26, constantValue := 0 }, { name := "CHANNEL_EOF", type := .int, accessFlags := 24, slot := 27, constantValue := 0 }, { name := "CHANNEL_CLOSE", type := .int, accessFlags := 24, slot := 28, constantValue := 0 }, { name := "CHANNEL_REQUEST", type := .int, accessFlags := 24, slot := 29, constantValue := 0 }, { name := "CHANNEL_SUCCESS", type := .int, accessFlags := 24, slot := 30, constantValue := 0 }, { name := "CHANNEL_FAILURE", type := .int, accessFlags := 24, slot := 31, constantValue := 0 }]
  methods := #[k3m0, k3m1]
  instanceTypes := #[]
  staticTypes := #[.int, .int, .int, .int, .int, .int, .int, .int, .int, .int, .int, .int, .int, .int, .int, .int, .int, .int, .int, .int, .int, .int, .int, .int, .int, .int, .int, .int, .int, .int, .int, .int]
  resolved := Array.replicate 141 none
  statics := none }

def pool4 : Array CpInfo := pool [(1, u "java/lang/Cloneable"), (0, .class_ 1), (0, u "java/lang/Object"), (0, .class_ 3)] 3

/-- java/lang/Cloneable -/
def k4 : Class := { plain "java/lang/Cloneable" (some 0) with
  accessFlags := 1537
  interfaces := #[]
  cf := some (fileOf pool4 2 #[] #[] 1537 4 #[] #[])
  fields := #[]
  methods := #[]
  instanceTypes := #[]
  staticTypes := #[]
  resolved := Array.replicate 8 none
  statics := none }

def pool5 : Array CpInfo := pool [(1, u "java/io/Serializable"), (0, .class_ 1), (0, u "java/lang/Object"), (0, .class_ 3)] 3

/-- java/io/Serializable -/
def k5 : Class := { plain "java/io/Serializable" (some 0) with
  accessFlags := 1537
  interfaces := #[]
  cf := some (fileOf pool5 2 #[] #[] 1537 4 #[] #[])
  fields := #[]
  methods := #[]
  instanceTypes := #[]
  staticTypes := #[]
  resolved := Array.replicate 8 none
  statics := none }

/-- the primitive byte -/
def k6 : Class := { plain "byte" none with kind := .primitive 'B', accessFlags := 0x411 }
/-- [B -/
def k7 : Class := { plain "[B" (some 0) with kind := .array 6 .byte, interfaces := #[4, 5], accessFlags := 1041 }

/-- the primitive int -/
def k8 : Class := { plain "int" none with kind := .primitive 'I', accessFlags := 0x411 }
/-- [I -/
def k9 : Class := { plain "[I" (some 0) with kind := .array 8 .int, interfaces := #[4, 5], accessFlags := 1041 }

def heap : Heap := #[]
def classes : Array Class := #[k0, k1, k2, k3, k4, k5, k6, k7, k8, k9]
def interned : List (Array UInt16 × Addr) := []
def slotsUsed : Nat := 0
def theMethod : MethodId := ⟨1, 1⟩
def args0 : Array Value := #[.int 32]
def aboutOver (below : List Frame) : State where
  vm := { classes := classes, interned := interned.toArray }
  heap := heap
  slotsUsed := slotsUsed
  threads := #[{ frames := .invoking theMethod args0 :: below }]
def below0 : List Frame := [.native { method := ⟨0, 0⟩, args := #[] }]
def about1 : State := aboutOver below0
def p0 : Program := .bare "" "" ""
def e0 : Env := launch0.env 0 0 0
theorem w_frames : about1.frames = Frame.invoking theMethod args0 :: below0 := rfl
set_option maxRecDepth 65536 in
theorem w_args : argsFit about1.vm theMethod args0 = true := by decide +kernel
set_option maxRecDepth 65536 in
theorem w_heap : heapFits about1 = true := by decide +kernel
set_option maxRecDepth 65536 in
theorem w_runnable : about1.curStatus? = some .runnable := by decide +kernel
set_option maxRecDepth 65536 in
theorem w_alone : about1.alone = true := by decide +kernel
set_option maxRecDepth 65536 in
theorem w_named : about1.methodNamed? x = some theMethod := by decide +kernel
set_option maxRecDepth 65536 in
theorem w_hears : about1.hears theMethod below0 = true := by decide +kernel
set_option maxRecDepth 65536 in
theorem w_ripe : about1.ripe theMethod args0 below0 = true := by decide +kernel
theorem w_running : about1.status = .running := rfl
set_option maxRecDepth 65536 in
theorem w_room : about1.hasRoom e0.platform room_1 = true :=
  launch0.hasRoom_least _ room_1 (by decide +kernel) (by decide +kernel) (by decide +kernel) (by decide +kernel) (by decide +kernel) (by decide +kernel)
theorem allAtoms_all (ts : List Jvm.Cond) (a : Array Jvm.Value) (st : Jvm.State) : (allAtoms ts).before a st = ts.all (fun c => c.before a st) := by
  induction ts with
  | nil => rfl
  | cons c t ih =>
    show (Jvm.Cond.and c (allAtoms t)).before a st = _
    rw [Jvm.Cond.before_and, ih, List.all_cons]
def words1 : List Jvm.Cond := Jvm.Cond.code x code maxLocals ret :: tables_1
/-- a 'code' word, met by the world's own term for the bytes: nothing is compared byte by byte -/
theorem code_word {y : MethodName} {bytes : ByteArray} {mx : Nat} {rt : Option FieldType} {a : Array Value} {s : State} {m : MethodId} {meth : Method} {c : Code} (h1 : s.methodNamed? y = some m) (h2 : s.vm.method? m = some meth) (h3 : meth.code = some c) (h4 : c.code = bytes)
    (h5 : (c.maxLocals == mx && c.exceptionTable.isEmpty && decide (c.maxStack ≤ mostOperands) && decide (meth.sig.returnType = rt) && !meth.locks && decide (parseMethodDescriptor y.desc = some meth.sig)) = true) : (Jvm.Cond.code y bytes mx rt).before a s = true := by
  simp only [Bool.and_eq_true, beq_iff_eq, Bool.not_eq_true', decide_eq_true_eq] at h5
  obtain ⟨⟨⟨⟨⟨g1, g2⟩, g3⟩, g4⟩, g5⟩, g6⟩ := h5
  simp [Cond.before, Cond.holds, Cond.value, h1, h2, h3, h4, g1, g2, g3, g4, g5, g6]
def isCode : Jvm.Cond → Bool
  | .code _ _ _ _ => true
  | _ => false
theorem all_split {L : List Jvm.Cond} {P : Jvm.Cond → Bool} (h1 : L.all (fun c => isCode c || P c) = true) (h2 : ∀ c ∈ L.filter isCode, P c = true) : L.all P = true := by
  refine List.all_eq_true.mpr fun c hc => ?_
  have h := List.all_eq_true.mp h1 c hc
  rcases Bool.eq_false_or_eq_true (isCode c) with hi | hi
  · exact h2 c (List.mem_filter.mpr ⟨hc, hi⟩)
  · simpa [hi] using h
set_option maxRecDepth 65536 in
theorem w_c0 : (Jvm.Cond.code x code maxLocals ret).before args0 about1 = true := code_word (m := ⟨1, 1⟩) (meth := k1m1) (c := k1c1) (by decide +kernel) rfl rfl rfl (by decide +kernel)
set_option maxRecDepth 65536 in
theorem w_c1 : (Jvm.Cond.code ({ cls := "java/lang/Math", name := "abs", desc := "(J)J" } : Jvm.MethodName) jdk_29_method_61_code (2 : Nat) (Option.some Jvm.ClassFile.FieldType.long)).before args0 about1 = true := code_word (m := ⟨2, 1⟩) (meth := k2m1) (c := k2c1) (by decide +kernel) rfl rfl rfl (by decide +kernel)
set_option maxRecDepth 65536 in
theorem w_c2 : (Jvm.Cond.code ({ cls := "com/example/moorline/moorline/ssh/SshMessage", name := "isKeyExchange", desc := "(I)Z" } : Jvm.MethodName) prog_90_method_3_code (1 : Nat) (Option.some Jvm.ClassFile.FieldType.boolean)).before args0 about1 = true := code_word (m := ⟨3, 1⟩) (meth := k3m1) (c := k3c1) (by decide +kernel) rfl rfl rfl (by decide +kernel)
def codes1 : List Jvm.Cond := [Jvm.Cond.code x code maxLocals ret, Jvm.Cond.code ({ cls := "java/lang/Math", name := "abs", desc := "(J)J" } : Jvm.MethodName) jdk_29_method_61_code (2 : Nat) (Option.some Jvm.ClassFile.FieldType.long), Jvm.Cond.code ({ cls := "com/example/moorline/moorline/ssh/SshMessage", name := "isKeyExchange", desc := "(I)Z" } : Jvm.MethodName) prog_90_method_3_code (1 : Nat) (Option.some Jvm.ClassFile.FieldType.boolean)]
set_option maxRecDepth 65536 in
theorem codes_eq : words1.filter isCode = codes1 := rfl
theorem w_codes : ∀ c ∈ words1.filter isCode, c.before args0 about1 = true := by
  rw [codes_eq]
  intro c hc
  simp only [codes1, List.mem_cons, List.not_mem_nil, or_false] at hc
  rcases hc with rfl | rfl | rfl
  · exact w_c0
  · exact w_c1
  · exact w_c2
set_option maxRecDepth 65536 in
theorem w_t1 : words1.all (fun c => isCode c || c.before args0 about1) = true := by decide +kernel
theorem w_tables : (allAtoms (Jvm.Cond.code x code maxLocals ret :: tables_1)).before args0 about1 = true := by
  rw [allAtoms_all]
  show words1.all (fun c => c.before args0 about1) = true
  refine all_split ?_ w_codes
  rw [w_t1]
set_option maxRecDepth 65536 in
theorem w_case : (Jvm.Cond.and given_1 narrow_1).before args0 about1 = true := by decide +kernel
theorem w_applies : (headSpec (Jvm.Cond.code x code maxLocals ret :: tables_1) room_1).applies x e0.platform about1 = true :=
  (Spec.applies_iff w_frames).mpr ⟨w_running, w_runnable, w_alone, w_named, w_hears, w_ripe, w_room, w_tables⟩
theorem atStart : AtStart classFile x code maxLocals ret World_1 tables_1 room_1 Calls_1 rest_1 Pre_1 launch0 p0 e0 about1 theMethod args0 below0 :=
  ⟨lists_1, trivial, launch0.admits_env _ _ _, launch0.least_env, fairChoices_fair.cas, fairChoices_fair.clock, w_frames, w_args, w_heap, w_applies, trivial, trivial, w_case⟩
end start1
theorem witness_1 : WitnessClaimed_1 := ⟨start1.p0, start1.e0, start1.about1, start1.theMethod, start1.args0, start1.below0, start1.atStart⟩
end Jvm.Pilot.@@N@@
