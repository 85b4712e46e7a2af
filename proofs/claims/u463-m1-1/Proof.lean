import JvmDerived
import JvmDerived.Pilot.@@N@@Statement
import JvmDerived.Pilot.@@N@@Code
set_option linter.unusedVariables false
set_option linter.unusedSimpArgs false
namespace Jvm.RoadKit
open Sem ClassFile Op Lib Jvm.Stand Jvm.Free Jvm.LawKit
section New
variable {p : Program} {l : Launch} {e : Env} {R : Room} {s : State} {m : MethodId} {args : Array Value} {below : List Frame} {meth : Method} {c : Code} {T : State} {locs : List Loc} {cells slots : Nat}
theorem retI (X : Stand p l e R s m args below meth c T locs cells slots) (hx : p.tables.exec = Jvm.exec) {pc : Nat} {Ls : Array Slot} {z : Int32} {rest : List Value} (hret : meth.sig.returnType = some .int) (hd : decode c.code pc = .ok (.ireturn, 1)) {fs : List Frame}
    (hl : ∀ (f : JFrame) (acts : List Action), f.method = m → f.locked = none → f.entered = [] → (doReturn e (T.setTop f) acts (some (.int z))).1 = T.setFrames fs) : Steps p.tables e below (T.setTop (mkF m pc Ls (.int z :: rest))) (T.setFrames fs) := by
  have hm' : T.vm.method? m = some meth := X.method'
  have hn : narrow .int (.int z) = .int z := rfl
  show Steps p.tables e below (T.setTop { method := m, pc := pc, locals := Ls, stack := _ :: rest, locked := none }) _
  jvm_step X.here [X.here.top, hx, hd, hm', hret, hn]
  first | (intro acts; rw [hl _ acts rfl rfl rfl]) | rw [hl _ _ rfl rfl rfl]
  exact Steps.refl _
end New
end Jvm.RoadKit
namespace Jvm.Pilot.@@N@@
open Jvm Jvm.ClassFile Sem Op Lib Jvm.Free Jvm.Stand Jvm.LawKit Jvm.RoadKit Bundle Jvm.Pilot.@@N@@.Jvm.D
def own_pick (s b : Int32) (v : Int64) : Int64 := if ((s.toUInt32 >>> (b &&& 31).toUInt32).toInt32 &&& 1) = 0 then v else 9223372036854775807
def own_hit (b : Int32) (v : Int64) : Int32 := if b = 0 then 0 else if v = 9223372036854775807 then 1 else 0
def own_st (q : Int64) (c : Int32) : Int32 := if q = 9223372036854775807 then c + 1 else c
theorem own_n (x : Int32) : ((x &&& 7) % 5) = 0 ∨ ((x &&& 7) % 5) = 1 ∨ ((x &&& 7) % 5) = 2 ∨ ((x &&& 7) % 5) = 3 ∨ ((x &&& 7) % 5) = 4 := by
  have h := c_mask x 7 3 (by decide) (by decide)
  have r := (c_irem (x &&& 7) 5 5 rfl).1 (by omega)
  simp only [← Int32.toInt_inj, show (0 : Int32).toInt = 0 from rfl, show (1 : Int32).toInt = 1 from rfl, show (2 : Int32).toInt = 2 from rfl, show (3 : Int32).toInt = 3 from rfl, show (4 : Int32).toInt = 4 from rfl]
  omega
theorem own_c0 (a b c d : Int64) : (0 : Int32) = ((own_hit 0 a + own_hit 0 b) + own_hit 0 c) + own_hit 0 d := by simp [own_hit]
theorem own_c1 (a b c d : Int64) : own_st a 0 = ((own_hit 1 a + own_hit 0 b) + own_hit 0 c) + own_hit 0 d := by
  unfold own_st own_hit; by_cases h1 : a = 9223372036854775807 <;> simp [h1]
theorem own_c2 (a b c d : Int64) : own_st b (own_st a 0) = ((own_hit 1 a + own_hit 1 b) + own_hit 0 c) + own_hit 0 d := by
  unfold own_st own_hit; by_cases h1 : a = 9223372036854775807 <;> by_cases h2 : b = 9223372036854775807 <;> simp [h1, h2]
theorem own_c3 (a b c d : Int64) : own_st c (own_st b (own_st a 0)) = ((own_hit 1 a + own_hit 1 b) + own_hit 1 c) + own_hit 0 d := by
  unfold own_st own_hit; by_cases h1 : a = 9223372036854775807 <;> by_cases h2 : b = 9223372036854775807 <;> by_cases h3 : c = 9223372036854775807 <;> simp [h1, h2, h3]
theorem own_c4 (a b c d : Int64) : own_st d (own_st c (own_st b (own_st a 0))) = ((own_hit 1 a + own_hit 1 b) + own_hit 1 c) + own_hit 1 d := by
  unfold own_st own_hit; by_cases h1 : a = 9223372036854775807 <;> by_cases h2 : b = 9223372036854775807 <;> by_cases h3 : c = 9223372036854775807 <;> by_cases h4 : d = 9223372036854775807 <;> simp [h1, h2, h3, h4]
theorem own_pn0 : plainName "com/example/netloom/netloom/core/reachability/OmegaSetsOmegaCountPinLaw" = true := by first | (simp [plainName, overriddenIn]; done) | decide +kernel
theorem own_d_pick_0 : decode method_3_code 0 = .ok (.iload_n 0, 1) := by decide +kernel
theorem own_d_pick_1 : decode method_3_code 1 = .ok (.iload_n 1, 1) := by decide +kernel
theorem own_d_pick_2 : decode method_3_code 2 = .ok (.iushr, 1) := by decide +kernel
theorem own_d_pick_3 : decode method_3_code 3 = .ok (.iconst 1, 1) := by decide +kernel
theorem own_d_pick_4 : decode method_3_code 4 = .ok (.iand, 1) := by decide +kernel
theorem own_d_pick_5 : decode method_3_code 5 = .ok (.ifCond .eq 9, 3) := by decide +kernel
theorem own_d_pick_8 : decode method_3_code 8 = .ok (.ldc2_w 25, 3) := by decide +kernel
theorem own_d_pick_11 : decode method_3_code 11 = .ok (.goto 4, 3) := by decide +kernel
theorem own_d_pick_14 : decode method_3_code 14 = .ok (.lload_n 2, 1) := by decide +kernel
theorem own_d_pick_15 : decode method_3_code 15 = .ok (.lreturn, 1) := by decide +kernel
theorem own_ef_pick (m : MethodId) (p1 : Int32) (p2 : Int32) (q3 : Int64) : entryFrame m #[(.int p1), (.int p2), (.long q3)] 4 = mkF m 0 #[.val (.int p1), .val (.int p2), .val (.long q3), .second] [] := by first | (simp [entryFrame, mkF, argsToLocals, Value.category]; done) | rfl
def Q_pick (Z : State) (p1 : Int32) (p2 : Int32) (q3 : Int64) (h0 : Heap) (n0 : Nat) (v : Option Value) (h : Heap) (L : List Loc) : Prop := v = some (.long (own_pick p1 p2 q3)) ∧ Fr n0 L ∧ h = h0
set_option maxRecDepth 65536 in
set_option maxHeartbeats 40000000 in
theorem rm_pick (l : Launch) (Z : State) (a0 : Array Value) (hw : ∀ d ∈ tables_1, d.before a0 Z = true) (ws : List Jvm.Cond) (p1 : Int32) (p2 : Int32) (q3 : Int64) (h0 : Heap) (n0 : Nat) (Z0 : n0 ≤ h0.size) :
    MetFree l (⟨"com/example/netloom/netloom/core/reachability/OmegaSetsOmegaCountPinLaw", "pick", "(IIJ)J"⟩ : MethodName) (head1 (Jvm.Cond.code (⟨"com/example/netloom/netloom/core/reachability/OmegaSetsOmegaCountPinLaw", "pick", "(IIJ)J"⟩ : MethodName) method_3_code 4 (some .long) :: ws) ({ frames := 0, cells := 0, slots := 0, locals := 0 } : Room)) (fun a U => a = #[(.int p1), (.int p2), (.long q3)] ∧ Z.Warmed39 U.vm ∧ U.heap = h0) (fun _ _ _ _ _ => True) (fun _ U o U' => ∃ v L, o = .returned v ∧ Q_pick Z p1 p2 q3 h0 n0 v U'.heap L ∧ FrameEnd U o U' L ({ frames := 0, cells := 0, slots := 0, locals := 0 } : Room).cells ({ frames := 0, cells := 0, slots := 0, locals := 0 } : Room).slots) := by
  refine MetFree.of_bodySF (plainFor_of_name own_pn0) hisR ?_
  intro p e s m args below meth c s₁ Bd hml0 hP hK
  obtain ⟨rfl, hZ, hh⟩ := hP
  have hx := Bd.exec
  have hby := Bd.bytes
  have hml : c.maxLocals = 4 := hml0
  have hown : s.vm.findClass "com/example/netloom/netloom/core/reachability/OmegaSetsOmegaCountPinLaw" = some m.cls := findClass_of_methodNamed Bd.named
  have hnm := (name_of_methodNamed Bd.named Bd.method).1
  have X0 : Stand p l e ({ frames := 0, cells := 0, slots := 0, locals := 0 } : Room) s m #[(.int p1), (.int p2), (.long q3)] below meth c s₁ [] 0 0 := Stand.of_body Bd
  have e0 : s₁.heap = h0 := by rw [← hh, Bd.state]; rfl
  have N0 := Fr.nil n0
  have pre0 : ∀ t, Steps p.tables e below (s₁.setTop (mkF m 0 #[.val (.int p1), .val (.int p2), .val (.long q3), .second] [])) t → Steps p.tables e below (s₁.setTop (entryFrame m #[(.int p1), (.int p2), (.long q3)] 4)) t := fun t k => castTop (own_ef_pick m p1 p2 q3) k
  have way1 : ∀ t, Steps p.tables e below (s₁.setTop (mkF m 5 #[.val (.int p1), .val (.int p2), .val (.long q3), .second] [(.int (((p1.toUInt32 >>> (p2 &&& 31).toUInt32).toInt32) &&& (1 : Int32)))])) t → Steps p.tables e below (s₁.setTop (entryFrame m #[(.int p1), (.int p2), (.long q3)] 4)) t := fun t k => pre0 t (by
    show Steps p.tables e below (s₁.setTop (mkF m 0 #[.val (.int p1), .val (.int p2), .val (.long q3), .second] [])) _
    refine XS.iloadN X0.here hx rfl (hb hby own_d_pick_0) rfl ?_
    show Steps p.tables e below (s₁.setTop (mkF m 1 #[.val (.int p1), .val (.int p2), .val (.long q3), .second] [(.int p1)])) _
    refine XS.iloadN X0.here hx rfl (hb hby own_d_pick_1) rfl ?_
    show Steps p.tables e below (s₁.setTop (mkF m 2 #[.val (.int p1), .val (.int p2), .val (.long q3), .second] [(.int p2), (.int p1)])) _
    refine XS.iushr X0.here hx rfl (hb hby own_d_pick_2) rfl ?_
    show Steps p.tables e below (s₁.setTop (mkF m 3 #[.val (.int p1), .val (.int p2), .val (.long q3), .second] [(.int ((p1.toUInt32 >>> (p2 &&& 31).toUInt32).toInt32))])) _
    refine XS.iconst X0.here hx rfl (hb hby own_d_pick_3) ?_
    show Steps p.tables e below (s₁.setTop (mkF m 4 #[.val (.int p1), .val (.int p2), .val (.long q3), .second] [(.int (1 : Int32)), (.int ((p1.toUInt32 >>> (p2 &&& 31).toUInt32).toInt32))])) _
    refine XS.iand X0.here hx rfl (hb hby own_d_pick_4) rfl ?_
    exact k)
  by_cases hc2 : (((p1.toUInt32 >>> (p2 &&& 31).toUInt32).toInt32) &&& (1 : Int32)) = (0 : Int32)
  ·
    have way3 : ∀ t, Steps p.tables e below (s₁.setTop (mkF m 15 #[.val (.int p1), .val (.int p2), .val (.long q3), .second] [(.long q3)])) t → Steps p.tables e below (s₁.setTop (entryFrame m #[(.int p1), (.int p2), (.long q3)] 4)) t := fun t k => way1 t (by
      show Steps p.tables e below (s₁.setTop (mkF m 5 #[.val (.int p1), .val (.int p2), .val (.long q3), .second] [(.int (((p1.toUInt32 >>> (p2 &&& 31).toUInt32).toInt32) &&& (1 : Int32)))])) _
      refine XS.ifYes X0.here hx rfl (pc0 := 5) (pc' := 14) rfl (hb hby own_d_pick_5) rfl ((if0 _ _).trans (teq hc2).1) (by decide) (by decide) ?_
      show Steps p.tables e below (s₁.setTop (mkF m 14 #[.val (.int p1), .val (.int p2), .val (.long q3), .second] [])) _
      refine XS.lloadN X0.here hx rfl (hb hby own_d_pick_14) rfl ?_
      exact k)
    obtain ⟨fs, hr, hrun, hended, hW, hsame⟩ := X0.leave (v := some (.long q3)) (fun h => by rw [Bd.returns] at h; cases h)
    refine ⟨_, _, way3 _ ?_, hrun, hended, _, _, rfl, ?_, ⟨_, rfl⟩, hW, hsame.mono (by decide) (by decide)⟩
    · show Steps p.tables e below (s₁.setTop (mkF m 15 #[.val (.int p1), .val (.int p2), .val (.long q3), .second] [(.long q3)])) _
      jvm_step X0.here [X0.here.top, hx, (hb hby own_d_pick_15), X0.method', Bd.returns, narrow]
      first | (intro acts; rw [hr _ acts rfl rfl rfl]) | rw [hr _ _ rfl rfl rfl]
      exact Steps.refl _
    · show Q_pick Z p1 p2 q3 h0 n0 _ s₁.heap _
      rw [e0]
      exact ⟨by unfold own_pick; rw [if_pos hc2], N0, rfl⟩
  ·
    have way4 : ∀ t, Steps p.tables e below (s₁.setTop (mkF m 15 #[.val (.int p1), .val (.int p2), .val (.long q3), .second] [(.long (9223372036854775807 : Int64))])) t → Steps p.tables e below (s₁.setTop (entryFrame m #[(.int p1), (.int p2), (.long q3)] 4)) t := fun t k => way1 t (by
      show Steps p.tables e below (s₁.setTop (mkF m 5 #[.val (.int p1), .val (.int p2), .val (.long q3), .second] [(.int (((p1.toUInt32 >>> (p2 &&& 31).toUInt32).toInt32) &&& (1 : Int32)))])) _
      refine XS.ifNo X0.here hx rfl (hb hby own_d_pick_5) rfl ((if0 _ _).trans (feq hc2).1) ?_
      show Steps p.tables e below (s₁.setTop (mkF m 8 #[.val (.int p1), .val (.int p2), .val (.long q3), .second] [])) _
      refine X0.ldc2Long hx hown (mvT hZ (hw _ (List.mem_of_getElem? (i := 12) rfl))) (g := (mkF m 8 #[.val (.int p1), .val (.int p2), .val (.long q3), .second] [])) rfl (hb hby own_d_pick_8) _ ?_
      show Steps p.tables e below (s₁.setTop (mkF m 11 #[.val (.int p1), .val (.int p2), .val (.long q3), .second] [(.long (9223372036854775807 : Int64))])) _
      refine XS.goto X0.here hx rfl (pc0 := 11) (pc' := 15) rfl (hb hby own_d_pick_11) (by decide) (by decide) ?_
      exact k)
    obtain ⟨fs, hr, hrun, hended, hW, hsame⟩ := X0.leave (v := some (.long (9223372036854775807 : Int64))) (fun h => by rw [Bd.returns] at h; cases h)
    refine ⟨_, _, way4 _ ?_, hrun, hended, _, _, rfl, ?_, ⟨_, rfl⟩, hW, hsame.mono (by decide) (by decide)⟩
    · show Steps p.tables e below (s₁.setTop (mkF m 15 #[.val (.int p1), .val (.int p2), .val (.long q3), .second] [(.long (9223372036854775807 : Int64))])) _
      jvm_step X0.here [X0.here.top, hx, (hb hby own_d_pick_15), X0.method', Bd.returns, narrow]
      first | (intro acts; rw [hr _ acts rfl rfl rfl]) | rw [hr _ _ rfl rfl rfl]
      exact Steps.refl _
    · show Q_pick Z p1 p2 q3 h0 n0 _ s₁.heap _
      rw [e0]
      exact ⟨by unfold own_pick; rw [if_neg hc2], N0, rfl⟩
theorem own_d_hit_0 : decode method_4_code 0 = .ok (.iload_n 0, 1) := by decide +kernel
theorem own_d_hit_1 : decode method_4_code 1 = .ok (.ifCond .eq 15, 3) := by decide +kernel
theorem own_d_hit_4 : decode method_4_code 4 = .ok (.lload_n 1, 1) := by decide +kernel
theorem own_d_hit_5 : decode method_4_code 5 = .ok (.ldc2_w 25, 3) := by decide +kernel
theorem own_d_hit_8 : decode method_4_code 8 = .ok (.lcmp, 1) := by decide +kernel
theorem own_d_hit_9 : decode method_4_code 9 = .ok (.ifCond .ne 7, 3) := by decide +kernel
theorem own_d_hit_12 : decode method_4_code 12 = .ok (.iconst 1, 1) := by decide +kernel
theorem own_d_hit_13 : decode method_4_code 13 = .ok (.goto 4, 3) := by decide +kernel
theorem own_d_hit_16 : decode method_4_code 16 = .ok (.iconst 0, 1) := by decide +kernel
theorem own_d_hit_17 : decode method_4_code 17 = .ok (.ireturn, 1) := by decide +kernel
theorem own_ef_hit (m : MethodId) (p1 : Int32) (q2 : Int64) : entryFrame m #[(.int p1), (.long q2)] 3 = mkF m 0 #[.val (.int p1), .val (.long q2), .second] [] := by first | (simp [entryFrame, mkF, argsToLocals, Value.category]; done) | rfl
def Q_hit (Z : State) (p1 : Int32) (q2 : Int64) (h0 : Heap) (n0 : Nat) (v : Option Value) (h : Heap) (L : List Loc) : Prop := v = some (.int (own_hit p1 q2)) ∧ Fr n0 L ∧ h = h0
set_option maxRecDepth 65536 in
set_option maxHeartbeats 40000000 in
theorem rm_hit (l : Launch) (Z : State) (a0 : Array Value) (hw : ∀ d ∈ tables_1, d.before a0 Z = true) (ws : List Jvm.Cond) (p1 : Int32) (q2 : Int64) (h0 : Heap) (n0 : Nat) (Z0 : n0 ≤ h0.size) :
    MetFree l (⟨"com/example/netloom/netloom/core/reachability/OmegaSetsOmegaCountPinLaw", "hit", "(ZJ)I"⟩ : MethodName) (head1 (Jvm.Cond.code (⟨"com/example/netloom/netloom/core/reachability/OmegaSetsOmegaCountPinLaw", "hit", "(ZJ)I"⟩ : MethodName) method_4_code 3 (some .int) :: ws) ({ frames := 0, cells := 0, slots := 0, locals := 0 } : Room)) (fun a U => a = #[(.int p1), (.long q2)] ∧ Z.Warmed39 U.vm ∧ U.heap = h0) (fun _ _ _ _ _ => True) (fun _ U o U' => ∃ v L, o = .returned v ∧ Q_hit Z p1 q2 h0 n0 v U'.heap L ∧ FrameEnd U o U' L ({ frames := 0, cells := 0, slots := 0, locals := 0 } : Room).cells ({ frames := 0, cells := 0, slots := 0, locals := 0 } : Room).slots) := by
  refine MetFree.of_bodySF (plainFor_of_name own_pn0) hisR ?_
  intro p e s m args below meth c s₁ Bd hml0 hP hK
  obtain ⟨rfl, hZ, hh⟩ := hP
  have hx := Bd.exec
  have hby := Bd.bytes
  have hml : c.maxLocals = 3 := hml0
  have hown : s.vm.findClass "com/example/netloom/netloom/core/reachability/OmegaSetsOmegaCountPinLaw" = some m.cls := findClass_of_methodNamed Bd.named
  have hnm := (name_of_methodNamed Bd.named Bd.method).1
  have X0 : Stand p l e ({ frames := 0, cells := 0, slots := 0, locals := 0 } : Room) s m #[(.int p1), (.long q2)] below meth c s₁ [] 0 0 := Stand.of_body Bd
  have e0 : s₁.heap = h0 := by rw [← hh, Bd.state]; rfl
  have N0 := Fr.nil n0
  have pre0 : ∀ t, Steps p.tables e below (s₁.setTop (mkF m 0 #[.val (.int p1), .val (.long q2), .second] [])) t → Steps p.tables e below (s₁.setTop (entryFrame m #[(.int p1), (.long q2)] 3)) t := fun t k => castTop (own_ef_hit m p1 q2) k
  have way1 : ∀ t, Steps p.tables e below (s₁.setTop (mkF m 1 #[.val (.int p1), .val (.long q2), .second] [(.int p1)])) t → Steps p.tables e below (s₁.setTop (entryFrame m #[(.int p1), (.long q2)] 3)) t := fun t k => pre0 t (by
    show Steps p.tables e below (s₁.setTop (mkF m 0 #[.val (.int p1), .val (.long q2), .second] [])) _
    refine XS.iloadN X0.here hx rfl (hb hby own_d_hit_0) rfl ?_
    exact k)
  by_cases hc2 : p1 = (0 : Int32)
  ·
    have way3 : ∀ t, Steps p.tables e below (s₁.setTop (mkF m 17 #[.val (.int p1), .val (.long q2), .second] [(.int (0 : Int32))])) t → Steps p.tables e below (s₁.setTop (entryFrame m #[(.int p1), (.long q2)] 3)) t := fun t k => way1 t (by
      show Steps p.tables e below (s₁.setTop (mkF m 1 #[.val (.int p1), .val (.long q2), .second] [(.int p1)])) _
      refine XS.ifYes X0.here hx rfl (pc0 := 1) (pc' := 16) rfl (hb hby own_d_hit_1) rfl ((if0 _ _).trans (teq hc2).1) (by decide) (by decide) ?_
      show Steps p.tables e below (s₁.setTop (mkF m 16 #[.val (.int p1), .val (.long q2), .second] [])) _
      refine XS.iconst X0.here hx rfl (hb hby own_d_hit_16) ?_
      exact k)
    obtain ⟨fs, hr, hrun, hended, hW, hsame⟩ := X0.leave (v := some (.int (0 : Int32))) (fun h => by rw [Bd.returns] at h; cases h)
    refine ⟨_, _, way3 _ ?_, hrun, hended, _, _, rfl, ?_, ⟨_, rfl⟩, hW, hsame.mono (by decide) (by decide)⟩
    · show Steps p.tables e below (s₁.setTop (mkF m 17 #[.val (.int p1), .val (.long q2), .second] [(.int (0 : Int32))])) _
      exact retI X0 hx Bd.returns (hb hby own_d_hit_17) hr
    · show Q_hit Z p1 q2 h0 n0 _ s₁.heap _
      rw [e0]
      exact ⟨by simp [own_hit, hc2], N0, rfl⟩
  ·
    have way4 : ∀ t, Steps p.tables e below (s₁.setTop (mkF m 9 #[.val (.int p1), .val (.long q2), .second] [(.int (lcmpW q2 (9223372036854775807 : Int64)))])) t → Steps p.tables e below (s₁.setTop (entryFrame m #[(.int p1), (.long q2)] 3)) t := fun t k => way1 t (by
      show Steps p.tables e below (s₁.setTop (mkF m 1 #[.val (.int p1), .val (.long q2), .second] [(.int p1)])) _
      refine XS.ifNo X0.here hx rfl (hb hby own_d_hit_1) rfl ((if0 _ _).trans (feq hc2).1) ?_
      show Steps p.tables e below (s₁.setTop (mkF m 4 #[.val (.int p1), .val (.long q2), .second] [])) _
      refine XS.lloadN X0.here hx rfl (hb hby own_d_hit_4) rfl ?_
      show Steps p.tables e below (s₁.setTop (mkF m 5 #[.val (.int p1), .val (.long q2), .second] [(.long q2)])) _
      refine X0.ldc2Long hx hown (mvT hZ (hw _ (List.mem_of_getElem? (i := 12) rfl))) (g := (mkF m 5 #[.val (.int p1), .val (.long q2), .second] [(.long q2)])) rfl (hb hby own_d_hit_5) _ ?_
      show Steps p.tables e below (s₁.setTop (mkF m 8 #[.val (.int p1), .val (.long q2), .second] [(.long (9223372036854775807 : Int64)), (.long q2)])) _
      refine XS.lcmp X0.here hx rfl (hb hby own_d_hit_8) rfl ?_
      exact k)
    by_cases hc5 : q2 = (9223372036854775807 : Int64)
    ·
      have way6 : ∀ t, Steps p.tables e below (s₁.setTop (mkF m 17 #[.val (.int p1), .val (.long q2), .second] [(.int (1 : Int32))])) t → Steps p.tables e below (s₁.setTop (entryFrame m #[(.int p1), (.long q2)] 3)) t := fun t k => way4 t (by
        show Steps p.tables e below (s₁.setTop (mkF m 9 #[.val (.int p1), .val (.long q2), .second] [(.int (lcmpW q2 (9223372036854775807 : Int64)))])) _
        refine XS.ifNo X0.here hx rfl (hb hby own_d_hit_9) rfl ((if0 _ _).trans (teq ((lw_eq _ _).mpr hc5)).2) ?_
        show Steps p.tables e below (s₁.setTop (mkF m 12 #[.val (.int p1), .val (.long q2), .second] [])) _
        refine XS.iconst X0.here hx rfl (hb hby own_d_hit_12) ?_
        show Steps p.tables e below (s₁.setTop (mkF m 13 #[.val (.int p1), .val (.long q2), .second] [(.int (1 : Int32))])) _
        refine XS.goto X0.here hx rfl (pc0 := 13) (pc' := 17) rfl (hb hby own_d_hit_13) (by decide) (by decide) ?_
        exact k)
      obtain ⟨fs, hr, hrun, hended, hW, hsame⟩ := X0.leave (v := some (.int (1 : Int32))) (fun h => by rw [Bd.returns] at h; cases h)
      refine ⟨_, _, way6 _ ?_, hrun, hended, _, _, rfl, ?_, ⟨_, rfl⟩, hW, hsame.mono (by decide) (by decide)⟩
      · show Steps p.tables e below (s₁.setTop (mkF m 17 #[.val (.int p1), .val (.long q2), .second] [(.int (1 : Int32))])) _
        exact retI X0 hx Bd.returns (hb hby own_d_hit_17) hr
      · show Q_hit Z p1 q2 h0 n0 _ s₁.heap _
        rw [e0]
        exact ⟨by simp [own_hit, hc2, hc5], N0, rfl⟩
    ·
      have way7 : ∀ t, Steps p.tables e below (s₁.setTop (mkF m 17 #[.val (.int p1), .val (.long q2), .second] [(.int (0 : Int32))])) t → Steps p.tables e below (s₁.setTop (entryFrame m #[(.int p1), (.long q2)] 3)) t := fun t k => way4 t (by
        show Steps p.tables e below (s₁.setTop (mkF m 9 #[.val (.int p1), .val (.long q2), .second] [(.int (lcmpW q2 (9223372036854775807 : Int64)))])) _
        refine XS.ifYes X0.here hx rfl (pc0 := 9) (pc' := 16) rfl (hb hby own_d_hit_9) rfl ((if0 _ _).trans (feq (fun q => hc5 ((lw_eq _ _).mp q))).2) (by decide) (by decide) ?_
        show Steps p.tables e below (s₁.setTop (mkF m 16 #[.val (.int p1), .val (.long q2), .second] [])) _
        refine XS.iconst X0.here hx rfl (hb hby own_d_hit_16) ?_
        exact k)
      obtain ⟨fs, hr, hrun, hended, hW, hsame⟩ := X0.leave (v := some (.int (0 : Int32))) (fun h => by rw [Bd.returns] at h; cases h)
      refine ⟨_, _, way7 _ ?_, hrun, hended, _, _, rfl, ?_, ⟨_, rfl⟩, hW, hsame.mono (by decide) (by decide)⟩
      · show Steps p.tables e below (s₁.setTop (mkF m 17 #[.val (.int p1), .val (.long q2), .second] [(.int (0 : Int32))])) _
        exact retI X0 hx Bd.returns (hb hby own_d_hit_17) hr
      · show Q_hit Z p1 q2 h0 n0 _ s₁.heap _
        rw [e0]
        exact ⟨by simp [own_hit, hc2, hc5], N0, rfl⟩
theorem own_pn1 : plainName "com/example/netloom/netloom/core/reachability/OmegaSets" = true := by first | (simp [plainName, overriddenIn]; done) | decide +kernel
theorem own_d_oc0_0 : decode prog_70_method_2_code 0 = .ok (.iconst 0, 1) := by decide +kernel
theorem own_d_oc0_1 : decode prog_70_method_2_code 1 = .ok (.istore_n 1, 1) := by decide +kernel
theorem own_d_oc0_2 : decode prog_70_method_2_code 2 = .ok (.aload_n 0, 1) := by decide +kernel
theorem own_d_oc0_3 : decode prog_70_method_2_code 3 = .ok (.astore_n 2, 1) := by decide +kernel
theorem own_d_oc0_4 : decode prog_70_method_2_code 4 = .ok (.aload_n 2, 1) := by decide +kernel
theorem own_d_oc0_5 : decode prog_70_method_2_code 5 = .ok (.arraylength, 1) := by decide +kernel
theorem own_d_oc0_6 : decode prog_70_method_2_code 6 = .ok (.istore_n 3, 1) := by decide +kernel
theorem own_d_oc0_7 : decode prog_70_method_2_code 7 = .ok (.iconst 0, 1) := by decide +kernel
theorem own_d_oc0_8 : decode prog_70_method_2_code 8 = .ok (.istore 4, 2) := by decide +kernel
theorem own_d_oc0_10 : decode prog_70_method_2_code 10 = .ok (.iload 4, 2) := by decide +kernel
theorem own_d_oc0_12 : decode prog_70_method_2_code 12 = .ok (.iload_n 3, 1) := by decide +kernel
theorem own_d_oc0_13 : decode prog_70_method_2_code 13 = .ok (.if_icmp .ge 27, 3) := by decide +kernel
theorem own_d_oc0_40 : decode prog_70_method_2_code 40 = .ok (.iload_n 1, 1) := by decide +kernel
theorem own_d_oc0_41 : decode prog_70_method_2_code 41 = .ok (.ireturn, 1) := by decide +kernel
theorem own_ef_oc0 (m : MethodId) (a1 : Addr) : entryFrame m #[(.ref a1)] 7 = mkF m 0 #[.val (.ref a1), .unset, .unset, .unset, .unset, .unset, .unset] [] := by first | (simp [entryFrame, mkF, argsToLocals, Value.category]; done) | rfl
def Q_oc0 (Z : State) (a1 : Addr) (kk : ClassId) (h0 : Heap) (n0 : Nat) (v : Option Value) (h : Heap) (L : List Loc) : Prop := v = some (.int (0 : Int32)) ∧ Fr n0 L ∧ h = h0
set_option maxRecDepth 65536 in
set_option maxHeartbeats 40000000 in
theorem rm_oc0 (l : Launch) (Z : State) (a0 : Array Value) (hw : ∀ d ∈ tables_1, d.before a0 Z = true) (ws : List Jvm.Cond) (a1 : Addr) (kk : ClassId) (h0 : Heap) (n0 : Nat) (Z0 : n0 ≤ h0.size) (fV_a1 : Arv Z h0 a1 kk .long (0 : Int32) [] (.long (0 : Int64))) :
    MetFree l (⟨"com/example/netloom/netloom/core/reachability/OmegaSets", "omegaCount", "([J)I"⟩ : MethodName) (head1 (Jvm.Cond.code (⟨"com/example/netloom/netloom/core/reachability/OmegaSets", "omegaCount", "([J)I"⟩ : MethodName) prog_70_method_2_code 7 (some .int) :: ws) ({ frames := 0, cells := 0, slots := 0, locals := 0 } : Room)) (fun a U => a = #[(.ref a1)] ∧ Z.Warmed39 U.vm ∧ U.heap = h0) (fun _ _ _ _ _ => True) (fun _ U o U' => ∃ v L, o = .returned v ∧ Q_oc0 Z a1 kk h0 n0 v U'.heap L ∧ FrameEnd U o U' L ({ frames := 0, cells := 0, slots := 0, locals := 0 } : Room).cells ({ frames := 0, cells := 0, slots := 0, locals := 0 } : Room).slots) := by
  refine MetFree.of_bodySF (plainFor_of_name own_pn1) hisR ?_
  intro p e s m args below meth c s₁ Bd hml0 hP hK
  obtain ⟨rfl, hZ, hh⟩ := hP
  have hx := Bd.exec
  have hby := Bd.bytes
  have hml : c.maxLocals = 7 := hml0
  have hown : s.vm.findClass "com/example/netloom/netloom/core/reachability/OmegaSets" = some m.cls := findClass_of_methodNamed Bd.named
  have hnm := (name_of_methodNamed Bd.named Bd.method).1
  have X0 : Stand p l e ({ frames := 0, cells := 0, slots := 0, locals := 0 } : Room) s m #[(.ref a1)] below meth c s₁ [] 0 0 := Stand.of_body Bd
  have e0 : s₁.heap = h0 := by rw [← hh, Bd.state]; rfl
  have N0 := Fr.nil n0
  have pre0 : ∀ t, Steps p.tables e below (s₁.setTop (mkF m 0 #[.val (.ref a1), .unset, .unset, .unset, .unset, .unset, .unset] [])) t → Steps p.tables e below (s₁.setTop (entryFrame m #[(.ref a1)] 7)) t := fun t k => castTop (own_ef_oc0 m a1) k
  obtain ⟨cl1, Ar1, -, S1, M1, -, -⟩ := id fV_a1
  have way2 : ∀ t, Steps p.tables e below (s₁.setTop (mkF m 41 #[.val (.ref a1), .val (.int (0 : Int32)), .val (.ref a1), .val (.int (0 : Int32)), .val (.int (0 : Int32)), .unset, .unset] [(.int (0 : Int32))])) t → Steps p.tables e below (s₁.setTop (entryFrame m #[(.ref a1)] 7)) t := fun t k => pre0 t (by
    show Steps p.tables e below (s₁.setTop (mkF m 0 #[.val (.ref a1), .unset, .unset, .unset, .unset, .unset, .unset] [])) _
    refine XS.iconst X0.here hx rfl (hb hby own_d_oc0_0) ?_
    show Steps p.tables e below (s₁.setTop (mkF m 1 #[.val (.ref a1), .unset, .unset, .unset, .unset, .unset, .unset] [(.int (0 : Int32))])) _
    refine XS.istoreN X0.here hx rfl (hb hby own_d_oc0_1) rfl (l' := #[.val (.ref a1), .val (.int (0 : Int32)), .unset, .unset, .unset, .unset, .unset]) rfl ?_
    show Steps p.tables e below (s₁.setTop (mkF m 2 #[.val (.ref a1), .val (.int (0 : Int32)), .unset, .unset, .unset, .unset, .unset] [])) _
    refine XS.aloadN X0.here hx rfl (hb hby own_d_oc0_2) rfl rfl ?_
    show Steps p.tables e below (s₁.setTop (mkF m 3 #[.val (.ref a1), .val (.int (0 : Int32)), .unset, .unset, .unset, .unset, .unset] [(.ref a1)])) _
    refine XS.astoreN X0.here hx rfl (hb hby own_d_oc0_3) rfl rfl (l' := #[.val (.ref a1), .val (.int (0 : Int32)), .val (.ref a1), .unset, .unset, .unset, .unset]) rfl ?_
    show Steps p.tables e below (s₁.setTop (mkF m 4 #[.val (.ref a1), .val (.int (0 : Int32)), .val (.ref a1), .unset, .unset, .unset, .unset] [])) _
    refine XS.aloadN X0.here hx rfl (hb hby own_d_oc0_4) rfl rfl ?_
    show Steps p.tables e below (s₁.setTop (mkF m 5 #[.val (.ref a1), .val (.int (0 : Int32)), .val (.ref a1), .unset, .unset, .unset, .unset] [(.ref a1)])) _
    refine X0.arraylength hx (by rw [e0]; exact Ar1.1) (State.isArrayOf_alike hZ.alike Ar1.2.1) (g := (mkF m 5 #[.val (.ref a1), .val (.int (0 : Int32)), .val (.ref a1), .unset, .unset, .unset, .unset] [(.ref a1)])) rfl rfl (hb hby own_d_oc0_5) _ ?_
    rw [len_of S1 M1]
    show Steps p.tables e below (s₁.setTop (mkF m 6 #[.val (.ref a1), .val (.int (0 : Int32)), .val (.ref a1), .unset, .unset, .unset, .unset] [(.int (0 : Int32))])) _
    refine XS.istoreN X0.here hx rfl (hb hby own_d_oc0_6) rfl (l' := #[.val (.ref a1), .val (.int (0 : Int32)), .val (.ref a1), .val (.int (0 : Int32)), .unset, .unset, .unset]) rfl ?_
    show Steps p.tables e below (s₁.setTop (mkF m 7 #[.val (.ref a1), .val (.int (0 : Int32)), .val (.ref a1), .val (.int (0 : Int32)), .unset, .unset, .unset] [])) _
    refine XS.iconst X0.here hx rfl (hb hby own_d_oc0_7) ?_
    show Steps p.tables e below (s₁.setTop (mkF m 8 #[.val (.ref a1), .val (.int (0 : Int32)), .val (.ref a1), .val (.int (0 : Int32)), .unset, .unset, .unset] [(.int (0 : Int32))])) _
    refine XS.istore X0.here hx rfl (hb hby own_d_oc0_8) rfl (l' := #[.val (.ref a1), .val (.int (0 : Int32)), .val (.ref a1), .val (.int (0 : Int32)), .val (.int (0 : Int32)), .unset, .unset]) rfl ?_
    show Steps p.tables e below (s₁.setTop (mkF m 10 #[.val (.ref a1), .val (.int (0 : Int32)), .val (.ref a1), .val (.int (0 : Int32)), .val (.int (0 : Int32)), .unset, .unset] [])) _
    refine XS.iload X0.here hx rfl (hb hby own_d_oc0_10) rfl ?_
    show Steps p.tables e below (s₁.setTop (mkF m 12 #[.val (.ref a1), .val (.int (0 : Int32)), .val (.ref a1), .val (.int (0 : Int32)), .val (.int (0 : Int32)), .unset, .unset] [(.int (0 : Int32))])) _
    refine XS.iloadN X0.here hx rfl (hb hby own_d_oc0_12) rfl ?_
    show Steps p.tables e below (s₁.setTop (mkF m 13 #[.val (.ref a1), .val (.int (0 : Int32)), .val (.ref a1), .val (.int (0 : Int32)), .val (.int (0 : Int32)), .unset, .unset] [(.int (0 : Int32)), (.int (0 : Int32))])) _
    refine XS.icmpYes X0.here hx rfl (pc0 := 13) (pc' := 40) rfl (hb hby own_d_oc0_13) rfl (flt (by decide)).2.1 (by decide) (by decide) ?_
    show Steps p.tables e below (s₁.setTop (mkF m 40 #[.val (.ref a1), .val (.int (0 : Int32)), .val (.ref a1), .val (.int (0 : Int32)), .val (.int (0 : Int32)), .unset, .unset] [])) _
    refine XS.iloadN X0.here hx rfl (hb hby own_d_oc0_40) rfl ?_
    exact k)
  obtain ⟨fs, hr, hrun, hended, hW, hsame⟩ := X0.leave (v := some (.int (0 : Int32))) (fun h => by rw [Bd.returns] at h; cases h)
  refine ⟨_, _, way2 _ ?_, hrun, hended, _, _, rfl, ?_, ⟨_, rfl⟩, hW, hsame.mono (by decide) (by decide)⟩
  · show Steps p.tables e below (s₁.setTop (mkF m 41 #[.val (.ref a1), .val (.int (0 : Int32)), .val (.ref a1), .val (.int (0 : Int32)), .val (.int (0 : Int32)), .unset, .unset] [(.int (0 : Int32))])) _
    exact retI X0 hx Bd.returns (hb hby own_d_oc0_41) hr
  · show Q_oc0 Z a1 kk h0 n0 _ s₁.heap _
    rw [e0]
    exact ⟨by rfl, N0, rfl⟩
theorem own_d_oc1_0 : decode prog_70_method_2_code 0 = .ok (.iconst 0, 1) := by decide +kernel
theorem own_d_oc1_1 : decode prog_70_method_2_code 1 = .ok (.istore_n 1, 1) := by decide +kernel
theorem own_d_oc1_2 : decode prog_70_method_2_code 2 = .ok (.aload_n 0, 1) := by decide +kernel
theorem own_d_oc1_3 : decode prog_70_method_2_code 3 = .ok (.astore_n 2, 1) := by decide +kernel
theorem own_d_oc1_4 : decode prog_70_method_2_code 4 = .ok (.aload_n 2, 1) := by decide +kernel
theorem own_d_oc1_5 : decode prog_70_method_2_code 5 = .ok (.arraylength, 1) := by decide +kernel
theorem own_d_oc1_6 : decode prog_70_method_2_code 6 = .ok (.istore_n 3, 1) := by decide +kernel
theorem own_d_oc1_7 : decode prog_70_method_2_code 7 = .ok (.iconst 0, 1) := by decide +kernel
theorem own_d_oc1_8 : decode prog_70_method_2_code 8 = .ok (.istore 4, 2) := by decide +kernel
theorem own_d_oc1_10 : decode prog_70_method_2_code 10 = .ok (.iload 4, 2) := by decide +kernel
theorem own_d_oc1_12 : decode prog_70_method_2_code 12 = .ok (.iload_n 3, 1) := by decide +kernel
theorem own_d_oc1_13 : decode prog_70_method_2_code 13 = .ok (.if_icmp .ge 27, 3) := by decide +kernel
theorem own_d_oc1_16 : decode prog_70_method_2_code 16 = .ok (.aload_n 2, 1) := by decide +kernel
theorem own_d_oc1_17 : decode prog_70_method_2_code 17 = .ok (.iload 4, 2) := by decide +kernel
theorem own_d_oc1_19 : decode prog_70_method_2_code 19 = .ok (.laload, 1) := by decide +kernel
theorem own_d_oc1_20 : decode prog_70_method_2_code 20 = .ok (.lstore 5, 2) := by decide +kernel
theorem own_d_oc1_22 : decode prog_70_method_2_code 22 = .ok (.lload 5, 2) := by decide +kernel
theorem own_d_oc1_24 : decode prog_70_method_2_code 24 = .ok (.ldc2_w 72, 3) := by decide +kernel
theorem own_d_oc1_27 : decode prog_70_method_2_code 27 = .ok (.lcmp, 1) := by decide +kernel
theorem own_d_oc1_28 : decode prog_70_method_2_code 28 = .ok (.ifCond .ne 6, 3) := by decide +kernel
theorem own_d_oc1_31 : decode prog_70_method_2_code 31 = .ok (.iinc 1 1, 3) := by decide +kernel
theorem own_d_oc1_34 : decode prog_70_method_2_code 34 = .ok (.iinc 4 1, 3) := by decide +kernel
theorem own_d_oc1_37 : decode prog_70_method_2_code 37 = .ok (.goto (-27), 3) := by decide +kernel
theorem own_d_oc1_40 : decode prog_70_method_2_code 40 = .ok (.iload_n 1, 1) := by decide +kernel
theorem own_d_oc1_41 : decode prog_70_method_2_code 41 = .ok (.ireturn, 1) := by decide +kernel
theorem own_ef_oc1 (m : MethodId) (a1 : Addr) : entryFrame m #[(.ref a1)] 7 = mkF m 0 #[.val (.ref a1), .unset, .unset, .unset, .unset, .unset, .unset] [] := by first | (simp [entryFrame, mkF, argsToLocals, Value.category]; done) | rfl
def Q_oc1 (Z : State) (a1 : Addr) (kk : ClassId) (q0 : Int64) (h0 : Heap) (n0 : Nat) (v : Option Value) (h : Heap) (L : List Loc) : Prop := v = some (.int (own_st q0 (0 : Int32))) ∧ Fr n0 L ∧ h = h0
set_option maxRecDepth 65536 in
set_option maxHeartbeats 40000000 in
theorem rm_oc1 (l : Launch) (Z : State) (a0 : Array Value) (hw : ∀ d ∈ tables_1, d.before a0 Z = true) (ws : List Jvm.Cond) (a1 : Addr) (kk : ClassId) (q0 : Int64) (h0 : Heap) (n0 : Nat) (Z0 : n0 ≤ h0.size) (fV_a1 : Arv Z h0 a1 kk .long (1 : Int32) [(.long q0)] (.long (0 : Int64))) :
    MetFree l (⟨"com/example/netloom/netloom/core/reachability/OmegaSets", "omegaCount", "([J)I"⟩ : MethodName) (head1 (Jvm.Cond.code (⟨"com/example/netloom/netloom/core/reachability/OmegaSets", "omegaCount", "([J)I"⟩ : MethodName) prog_70_method_2_code 7 (some .int) :: ws) ({ frames := 0, cells := 0, slots := 0, locals := 0 } : Room)) (fun a U => a = #[(.ref a1)] ∧ Z.Warmed39 U.vm ∧ U.heap = h0) (fun _ _ _ _ _ => True) (fun _ U o U' => ∃ v L, o = .returned v ∧ Q_oc1 Z a1 kk q0 h0 n0 v U'.heap L ∧ FrameEnd U o U' L ({ frames := 0, cells := 0, slots := 0, locals := 0 } : Room).cells ({ frames := 0, cells := 0, slots := 0, locals := 0 } : Room).slots) := by
  refine MetFree.of_bodySF (plainFor_of_name own_pn1) hisR ?_
  intro p e s m args below meth c s₁ Bd hml0 hP hK
  obtain ⟨rfl, hZ, hh⟩ := hP
  have hx := Bd.exec
  have hby := Bd.bytes
  have hml : c.maxLocals = 7 := hml0
  have hown : s.vm.findClass "com/example/netloom/netloom/core/reachability/OmegaSets" = some m.cls := findClass_of_methodNamed Bd.named
  have hnm := (name_of_methodNamed Bd.named Bd.method).1
  have X0 : Stand p l e ({ frames := 0, cells := 0, slots := 0, locals := 0 } : Room) s m #[(.ref a1)] below meth c s₁ [] 0 0 := Stand.of_body Bd
  have e0 : s₁.heap = h0 := by rw [← hh, Bd.state]; rfl
  have N0 := Fr.nil n0
  have pre0 : ∀ t, Steps p.tables e below (s₁.setTop (mkF m 0 #[.val (.ref a1), .unset, .unset, .unset, .unset, .unset, .unset] [])) t → Steps p.tables e below (s₁.setTop (entryFrame m #[(.ref a1)] 7)) t := fun t k => castTop (own_ef_oc1 m a1) k
  obtain ⟨cl1, Ar1, -, S1, M1, -, -⟩ := id fV_a1
  obtain ⟨cl2, Ar2, aq2, S2, M2, H2, G2⟩ := id fV_a1
  have hin2 : ¬ ((0 : Int32) < 0 ∨ cl2.slots.size ≤ ((0 : Int32)).toNatClampNeg) := by rw [S2]; decide
  have hat2 : cl2.slots[((0 : Int32)).toNatClampNeg]? = some (.long q0) := H2 0 (by rw [S2]; decide)
  have way3 : ∀ t, Steps p.tables e below (s₁.setTop (mkF m 28 #[.val (.ref a1), .val (.int (0 : Int32)), .val (.ref a1), .val (.int (1 : Int32)), .val (.int (0 : Int32)), .val (.long q0), .second] [(.int (lcmpW q0 (9223372036854775807 : Int64)))])) t → Steps p.tables e below (s₁.setTop (entryFrame m #[(.ref a1)] 7)) t := fun t k => pre0 t (by
    show Steps p.tables e below (s₁.setTop (mkF m 0 #[.val (.ref a1), .unset, .unset, .unset, .unset, .unset, .unset] [])) _
    refine XS.iconst X0.here hx rfl (hb hby own_d_oc1_0) ?_
    show Steps p.tables e below (s₁.setTop (mkF m 1 #[.val (.ref a1), .unset, .unset, .unset, .unset, .unset, .unset] [(.int (0 : Int32))])) _
    refine XS.istoreN X0.here hx rfl (hb hby own_d_oc1_1) rfl (l' := #[.val (.ref a1), .val (.int (0 : Int32)), .unset, .unset, .unset, .unset, .unset]) rfl ?_
    show Steps p.tables e below (s₁.setTop (mkF m 2 #[.val (.ref a1), .val (.int (0 : Int32)), .unset, .unset, .unset, .unset, .unset] [])) _
    refine XS.aloadN X0.here hx rfl (hb hby own_d_oc1_2) rfl rfl ?_
    show Steps p.tables e below (s₁.setTop (mkF m 3 #[.val (.ref a1), .val (.int (0 : Int32)), .unset, .unset, .unset, .unset, .unset] [(.ref a1)])) _
    refine XS.astoreN X0.here hx rfl (hb hby own_d_oc1_3) rfl rfl (l' := #[.val (.ref a1), .val (.int (0 : Int32)), .val (.ref a1), .unset, .unset, .unset, .unset]) rfl ?_
    show Steps p.tables e below (s₁.setTop (mkF m 4 #[.val (.ref a1), .val (.int (0 : Int32)), .val (.ref a1), .unset, .unset, .unset, .unset] [])) _
    refine XS.aloadN X0.here hx rfl (hb hby own_d_oc1_4) rfl rfl ?_
    show Steps p.tables e below (s₁.setTop (mkF m 5 #[.val (.ref a1), .val (.int (0 : Int32)), .val (.ref a1), .unset, .unset, .unset, .unset] [(.ref a1)])) _
    refine X0.arraylength hx (by rw [e0]; exact Ar1.1) (State.isArrayOf_alike hZ.alike Ar1.2.1) (g := (mkF m 5 #[.val (.ref a1), .val (.int (0 : Int32)), .val (.ref a1), .unset, .unset, .unset, .unset] [(.ref a1)])) rfl rfl (hb hby own_d_oc1_5) _ ?_
    rw [len_of S1 M1]
    show Steps p.tables e below (s₁.setTop (mkF m 6 #[.val (.ref a1), .val (.int (0 : Int32)), .val (.ref a1), .unset, .unset, .unset, .unset] [(.int (1 : Int32))])) _
    refine XS.istoreN X0.here hx rfl (hb hby own_d_oc1_6) rfl (l' := #[.val (.ref a1), .val (.int (0 : Int32)), .val (.ref a1), .val (.int (1 : Int32)), .unset, .unset, .unset]) rfl ?_
    show Steps p.tables e below (s₁.setTop (mkF m 7 #[.val (.ref a1), .val (.int (0 : Int32)), .val (.ref a1), .val (.int (1 : Int32)), .unset, .unset, .unset] [])) _
    refine XS.iconst X0.here hx rfl (hb hby own_d_oc1_7) ?_
    show Steps p.tables e below (s₁.setTop (mkF m 8 #[.val (.ref a1), .val (.int (0 : Int32)), .val (.ref a1), .val (.int (1 : Int32)), .unset, .unset, .unset] [(.int (0 : Int32))])) _
    refine XS.istore X0.here hx rfl (hb hby own_d_oc1_8) rfl (l' := #[.val (.ref a1), .val (.int (0 : Int32)), .val (.ref a1), .val (.int (1 : Int32)), .val (.int (0 : Int32)), .unset, .unset]) rfl ?_
    show Steps p.tables e below (s₁.setTop (mkF m 10 #[.val (.ref a1), .val (.int (0 : Int32)), .val (.ref a1), .val (.int (1 : Int32)), .val (.int (0 : Int32)), .unset, .unset] [])) _
    refine XS.iload X0.here hx rfl (hb hby own_d_oc1_10) rfl ?_
    show Steps p.tables e below (s₁.setTop (mkF m 12 #[.val (.ref a1), .val (.int (0 : Int32)), .val (.ref a1), .val (.int (1 : Int32)), .val (.int (0 : Int32)), .unset, .unset] [(.int (0 : Int32))])) _
    refine XS.iloadN X0.here hx rfl (hb hby own_d_oc1_12) rfl ?_
    show Steps p.tables e below (s₁.setTop (mkF m 13 #[.val (.ref a1), .val (.int (0 : Int32)), .val (.ref a1), .val (.int (1 : Int32)), .val (.int (0 : Int32)), .unset, .unset] [(.int (1 : Int32)), (.int (0 : Int32))])) _
    refine XS.icmpNo X0.here hx rfl (hb hby own_d_oc1_13) rfl (tlt (by decide)).2.1 ?_
    show Steps p.tables e below (s₁.setTop (mkF m 16 #[.val (.ref a1), .val (.int (0 : Int32)), .val (.ref a1), .val (.int (1 : Int32)), .val (.int (0 : Int32)), .unset, .unset] [])) _
    refine XS.aloadN X0.here hx rfl (hb hby own_d_oc1_16) rfl rfl ?_
    show Steps p.tables e below (s₁.setTop (mkF m 17 #[.val (.ref a1), .val (.int (0 : Int32)), .val (.ref a1), .val (.int (1 : Int32)), .val (.int (0 : Int32)), .unset, .unset] [(.ref a1)])) _
    refine XS.iload X0.here hx rfl (hb hby own_d_oc1_17) rfl ?_
    show Steps p.tables e below (s₁.setTop (mkF m 19 #[.val (.ref a1), .val (.int (0 : Int32)), .val (.ref a1), .val (.int (1 : Int32)), .val (.int (0 : Int32)), .unset, .unset] [(.int (0 : Int32)), (.ref a1)])) _
    refine X0.laload hx (j := (0 : Int32)) (v := (.long q0)) (by rw [e0]; exact Ar2.1) (State.isArrayOf_alike hZ.alike Ar2.2.1) Ar2.2.2 hin2 hat2 (g := (mkF m 19 #[.val (.ref a1), .val (.int (0 : Int32)), .val (.ref a1), .val (.int (1 : Int32)), .val (.int (0 : Int32)), .unset, .unset] [(.int (0 : Int32)), (.ref a1)])) rfl rfl (hb hby own_d_oc1_19) _ ?_
    show Steps p.tables e below (s₁.setTop (mkF m 20 #[.val (.ref a1), .val (.int (0 : Int32)), .val (.ref a1), .val (.int (1 : Int32)), .val (.int (0 : Int32)), .unset, .unset] [(.long q0)])) _
    refine XS.lstore X0.here hx rfl (hb hby own_d_oc1_20) rfl (l' := #[.val (.ref a1), .val (.int (0 : Int32)), .val (.ref a1), .val (.int (1 : Int32)), .val (.int (0 : Int32)), .val (.long q0), .second]) rfl ?_
    show Steps p.tables e below (s₁.setTop (mkF m 22 #[.val (.ref a1), .val (.int (0 : Int32)), .val (.ref a1), .val (.int (1 : Int32)), .val (.int (0 : Int32)), .val (.long q0), .second] [])) _
    refine XS.lload X0.here hx rfl (hb hby own_d_oc1_22) rfl ?_
    show Steps p.tables e below (s₁.setTop (mkF m 24 #[.val (.ref a1), .val (.int (0 : Int32)), .val (.ref a1), .val (.int (1 : Int32)), .val (.int (0 : Int32)), .val (.long q0), .second] [(.long q0)])) _
    refine X0.ldc2Long hx hown (mvT hZ (hw _ (List.mem_of_getElem? (i := 13) rfl))) (g := (mkF m 24 #[.val (.ref a1), .val (.int (0 : Int32)), .val (.ref a1), .val (.int (1 : Int32)), .val (.int (0 : Int32)), .val (.long q0), .second] [(.long q0)])) rfl (hb hby own_d_oc1_24) _ ?_
    show Steps p.tables e below (s₁.setTop (mkF m 27 #[.val (.ref a1), .val (.int (0 : Int32)), .val (.ref a1), .val (.int (1 : Int32)), .val (.int (0 : Int32)), .val (.long q0), .second] [(.long (9223372036854775807 : Int64)), (.long q0)])) _
    refine XS.lcmp X0.here hx rfl (hb hby own_d_oc1_27) rfl ?_
    exact k)
  obtain ⟨v5, hv5⟩ : ∃ z : Int32, z = (if q0 = (9223372036854775807 : Int64) then (1 : Int32) else (0 : Int32)) := ⟨_, rfl⟩
  have way6 : ∀ t, Steps p.tables e below (s₁.setTop (mkF m 34 #[.val (.ref a1), .val (.int v5), .val (.ref a1), .val (.int (1 : Int32)), .val (.int (0 : Int32)), .val (.long q0), .second] [])) t → Steps p.tables e below (s₁.setTop (entryFrame m #[(.ref a1)] 7)) t := fun t k => way3 t (by
    by_cases hj4 : q0 = (9223372036854775807 : Int64)
    ·
      show Steps p.tables e below (s₁.setTop (mkF m 28 #[.val (.ref a1), .val (.int (0 : Int32)), .val (.ref a1), .val (.int (1 : Int32)), .val (.int (0 : Int32)), .val (.long q0), .second] [(.int (lcmpW q0 (9223372036854775807 : Int64)))])) _
      refine XS.ifNo X0.here hx rfl (hb hby own_d_oc1_28) rfl ((if0 _ _).trans (teq ((lw_eq _ _).mpr hj4)).2) ?_
      show Steps p.tables e below (s₁.setTop (mkF m 31 #[.val (.ref a1), .val (.int (0 : Int32)), .val (.ref a1), .val (.int (1 : Int32)), .val (.int (0 : Int32)), .val (.long q0), .second] [])) _
      refine XS.iinc X0.here hx rfl (hb hby own_d_oc1_31) rfl (l' := #[.val (.ref a1), .val (.int (1 : Int32)), .val (.ref a1), .val (.int (1 : Int32)), .val (.int (0 : Int32)), .val (.long q0), .second]) rfl ?_
      simp only [hv5, if_pos hj4] at k
      exact k
    ·
      show Steps p.tables e below (s₁.setTop (mkF m 28 #[.val (.ref a1), .val (.int (0 : Int32)), .val (.ref a1), .val (.int (1 : Int32)), .val (.int (0 : Int32)), .val (.long q0), .second] [(.int (lcmpW q0 (9223372036854775807 : Int64)))])) _
      refine XS.ifYes X0.here hx rfl (pc0 := 28) (pc' := 34) rfl (hb hby own_d_oc1_28) rfl ((if0 _ _).trans (feq (fun q => hj4 ((lw_eq _ _).mp q))).2) (by decide) (by decide) ?_
      simp only [hv5, if_neg hj4] at k
      exact k)
  have way7 : ∀ t, Steps p.tables e below (s₁.setTop (mkF m 41 #[.val (.ref a1), .val (.int v5), .val (.ref a1), .val (.int (1 : Int32)), .val (.int (1 : Int32)), .val (.long q0), .second] [(.int v5)])) t → Steps p.tables e below (s₁.setTop (entryFrame m #[(.ref a1)] 7)) t := fun t k => way6 t (by
    show Steps p.tables e below (s₁.setTop (mkF m 34 #[.val (.ref a1), .val (.int v5), .val (.ref a1), .val (.int (1 : Int32)), .val (.int (0 : Int32)), .val (.long q0), .second] [])) _
    refine XS.iinc X0.here hx rfl (hb hby own_d_oc1_34) rfl (l' := #[.val (.ref a1), .val (.int v5), .val (.ref a1), .val (.int (1 : Int32)), .val (.int (1 : Int32)), .val (.long q0), .second]) rfl ?_
    show Steps p.tables e below (s₁.setTop (mkF m 37 #[.val (.ref a1), .val (.int v5), .val (.ref a1), .val (.int (1 : Int32)), .val (.int (1 : Int32)), .val (.long q0), .second] [])) _
    refine XS.goto X0.here hx rfl (pc0 := 37) (pc' := 10) rfl (hb hby own_d_oc1_37) (by decide) (by decide) ?_
    show Steps p.tables e below (s₁.setTop (mkF m 10 #[.val (.ref a1), .val (.int v5), .val (.ref a1), .val (.int (1 : Int32)), .val (.int (1 : Int32)), .val (.long q0), .second] [])) _
    refine XS.iload X0.here hx rfl (hb hby own_d_oc1_10) rfl ?_
    show Steps p.tables e below (s₁.setTop (mkF m 12 #[.val (.ref a1), .val (.int v5), .val (.ref a1), .val (.int (1 : Int32)), .val (.int (1 : Int32)), .val (.long q0), .second] [(.int (1 : Int32))])) _
    refine XS.iloadN X0.here hx rfl (hb hby own_d_oc1_12) rfl ?_
    show Steps p.tables e below (s₁.setTop (mkF m 13 #[.val (.ref a1), .val (.int v5), .val (.ref a1), .val (.int (1 : Int32)), .val (.int (1 : Int32)), .val (.long q0), .second] [(.int (1 : Int32)), (.int (1 : Int32))])) _
    refine XS.icmpYes X0.here hx rfl (pc0 := 13) (pc' := 40) rfl (hb hby own_d_oc1_13) rfl (flt (by decide)).2.1 (by decide) (by decide) ?_
    show Steps p.tables e below (s₁.setTop (mkF m 40 #[.val (.ref a1), .val (.int v5), .val (.ref a1), .val (.int (1 : Int32)), .val (.int (1 : Int32)), .val (.long q0), .second] [])) _
    refine XS.iloadN X0.here hx rfl (hb hby own_d_oc1_40) rfl ?_
    exact k)
  obtain ⟨fs, hr, hrun, hended, hW, hsame⟩ := X0.leave (v := some (.int v5)) (fun h => by rw [Bd.returns] at h; cases h)
  refine ⟨_, _, way7 _ ?_, hrun, hended, _, _, rfl, ?_, ⟨_, rfl⟩, hW, hsame.mono (by decide) (by decide)⟩
  · show Steps p.tables e below (s₁.setTop (mkF m 41 #[.val (.ref a1), .val (.int v5), .val (.ref a1), .val (.int (1 : Int32)), .val (.int (1 : Int32)), .val (.long q0), .second] [(.int v5)])) _
    exact retI X0 hx Bd.returns (hb hby own_d_oc1_41) hr
  · show Q_oc1 Z a1 kk q0 h0 n0 _ s₁.heap _
    rw [e0]
    exact ⟨by subst hv5; rfl, N0, rfl⟩
theorem own_d_oc2_0 : decode prog_70_method_2_code 0 = .ok (.iconst 0, 1) := by decide +kernel
theorem own_d_oc2_1 : decode prog_70_method_2_code 1 = .ok (.istore_n 1, 1) := by decide +kernel
theorem own_d_oc2_2 : decode prog_70_method_2_code 2 = .ok (.aload_n 0, 1) := by decide +kernel
theorem own_d_oc2_3 : decode prog_70_method_2_code 3 = .ok (.astore_n 2, 1) := by decide +kernel
theorem own_d_oc2_4 : decode prog_70_method_2_code 4 = .ok (.aload_n 2, 1) := by decide +kernel
theorem own_d_oc2_5 : decode prog_70_method_2_code 5 = .ok (.arraylength, 1) := by decide +kernel
theorem own_d_oc2_6 : decode prog_70_method_2_code 6 = .ok (.istore_n 3, 1) := by decide +kernel
theorem own_d_oc2_7 : decode prog_70_method_2_code 7 = .ok (.iconst 0, 1) := by decide +kernel
theorem own_d_oc2_8 : decode prog_70_method_2_code 8 = .ok (.istore 4, 2) := by decide +kernel
theorem own_d_oc2_10 : decode prog_70_method_2_code 10 = .ok (.iload 4, 2) := by decide +kernel
theorem own_d_oc2_12 : decode prog_70_method_2_code 12 = .ok (.iload_n 3, 1) := by decide +kernel
theorem own_d_oc2_13 : decode prog_70_method_2_code 13 = .ok (.if_icmp .ge 27, 3) := by decide +kernel
theorem own_d_oc2_16 : decode prog_70_method_2_code 16 = .ok (.aload_n 2, 1) := by decide +kernel
theorem own_d_oc2_17 : decode prog_70_method_2_code 17 = .ok (.iload 4, 2) := by decide +kernel
theorem own_d_oc2_19 : decode prog_70_method_2_code 19 = .ok (.laload, 1) := by decide +kernel
theorem own_d_oc2_20 : decode prog_70_method_2_code 20 = .ok (.lstore 5, 2) := by decide +kernel
theorem own_d_oc2_22 : decode prog_70_method_2_code 22 = .ok (.lload 5, 2) := by decide +kernel
theorem own_d_oc2_24 : decode prog_70_method_2_code 24 = .ok (.ldc2_w 72, 3) := by decide +kernel
theorem own_d_oc2_27 : decode prog_70_method_2_code 27 = .ok (.lcmp, 1) := by decide +kernel
theorem own_d_oc2_28 : decode prog_70_method_2_code 28 = .ok (.ifCond .ne 6, 3) := by decide +kernel
theorem own_d_oc2_31 : decode prog_70_method_2_code 31 = .ok (.iinc 1 1, 3) := by decide +kernel
theorem own_d_oc2_34 : decode prog_70_method_2_code 34 = .ok (.iinc 4 1, 3) := by decide +kernel
theorem own_d_oc2_37 : decode prog_70_method_2_code 37 = .ok (.goto (-27), 3) := by decide +kernel
theorem own_d_oc2_40 : decode prog_70_method_2_code 40 = .ok (.iload_n 1, 1) := by decide +kernel
theorem own_d_oc2_41 : decode prog_70_method_2_code 41 = .ok (.ireturn, 1) := by decide +kernel
theorem own_ef_oc2 (m : MethodId) (a1 : Addr) : entryFrame m #[(.ref a1)] 7 = mkF m 0 #[.val (.ref a1), .unset, .unset, .unset, .unset, .unset, .unset] [] := by first | (simp [entryFrame, mkF, argsToLocals, Value.category]; done) | rfl
def Q_oc2 (Z : State) (a1 : Addr) (kk : ClassId) (q0 : Int64) (q1 : Int64) (h0 : Heap) (n0 : Nat) (v : Option Value) (h : Heap) (L : List Loc) : Prop := v = some (.int (own_st q1 (own_st q0 (0 : Int32)))) ∧ Fr n0 L ∧ h = h0
set_option maxRecDepth 65536 in
set_option maxHeartbeats 40000000 in
theorem rm_oc2 (l : Launch) (Z : State) (a0 : Array Value) (hw : ∀ d ∈ tables_1, d.before a0 Z = true) (ws : List Jvm.Cond) (a1 : Addr) (kk : ClassId) (q0 : Int64) (q1 : Int64) (h0 : Heap) (n0 : Nat) (Z0 : n0 ≤ h0.size) (fV_a1 : Arv Z h0 a1 kk .long (2 : Int32) [(.long q0), (.long q1)] (.long (0 : Int64))) :
    MetFree l (⟨"com/example/netloom/netloom/core/reachability/OmegaSets", "omegaCount", "([J)I"⟩ : MethodName) (head1 (Jvm.Cond.code (⟨"com/example/netloom/netloom/core/reachability/OmegaSets", "omegaCount", "([J)I"⟩ : MethodName) prog_70_method_2_code 7 (some .int) :: ws) ({ frames := 0, cells := 0, slots := 0, locals := 0 } : Room)) (fun a U => a = #[(.ref a1)] ∧ Z.Warmed39 U.vm ∧ U.heap = h0) (fun _ _ _ _ _ => True) (fun _ U o U' => ∃ v L, o = .returned v ∧ Q_oc2 Z a1 kk q0 q1 h0 n0 v U'.heap L ∧ FrameEnd U o U' L ({ frames := 0, cells := 0, slots := 0, locals := 0 } : Room).cells ({ frames := 0, cells := 0, slots := 0, locals := 0 } : Room).slots) := by
  refine MetFree.of_bodySF (plainFor_of_name own_pn1) hisR ?_
  intro p e s m args below meth c s₁ Bd hml0 hP hK
  obtain ⟨rfl, hZ, hh⟩ := hP
  have hx := Bd.exec
  have hby := Bd.bytes
  have hml : c.maxLocals = 7 := hml0
  have hown : s.vm.findClass "com/example/netloom/netloom/core/reachability/OmegaSets" = some m.cls := findClass_of_methodNamed Bd.named
  have hnm := (name_of_methodNamed Bd.named Bd.method).1
  have X0 : Stand p l e ({ frames := 0, cells := 0, slots := 0, locals := 0 } : Room) s m #[(.ref a1)] below meth c s₁ [] 0 0 := Stand.of_body Bd
  have e0 : s₁.heap = h0 := by rw [← hh, Bd.state]; rfl
  have N0 := Fr.nil n0
  have pre0 : ∀ t, Steps p.tables e below (s₁.setTop (mkF m 0 #[.val (.ref a1), .unset, .unset, .unset, .unset, .unset, .unset] [])) t → Steps p.tables e below (s₁.setTop (entryFrame m #[(.ref a1)] 7)) t := fun t k => castTop (own_ef_oc2 m a1) k
  obtain ⟨cl1, Ar1, -, S1, M1, -, -⟩ := id fV_a1
  obtain ⟨cl2, Ar2, aq2, S2, M2, H2, G2⟩ := id fV_a1
  have hin2 : ¬ ((0 : Int32) < 0 ∨ cl2.slots.size ≤ ((0 : Int32)).toNatClampNeg) := by rw [S2]; decide
  have hat2 : cl2.slots[((0 : Int32)).toNatClampNeg]? = some (.long q0) := H2 0 (by rw [S2]; decide)
  have way3 : ∀ t, Steps p.tables e below (s₁.setTop (mkF m 28 #[.val (.ref a1), .val (.int (0 : Int32)), .val (.ref a1), .val (.int (2 : Int32)), .val (.int (0 : Int32)), .val (.long q0), .second] [(.int (lcmpW q0 (9223372036854775807 : Int64)))])) t → Steps p.tables e below (s₁.setTop (entryFrame m #[(.ref a1)] 7)) t := fun t k => pre0 t (by
    show Steps p.tables e below (s₁.setTop (mkF m 0 #[.val (.ref a1), .unset, .unset, .unset, .unset, .unset, .unset] [])) _
    refine XS.iconst X0.here hx rfl (hb hby own_d_oc2_0) ?_
    show Steps p.tables e below (s₁.setTop (mkF m 1 #[.val (.ref a1), .unset, .unset, .unset, .unset, .unset, .unset] [(.int (0 : Int32))])) _
    refine XS.istoreN X0.here hx rfl (hb hby own_d_oc2_1) rfl (l' := #[.val (.ref a1), .val (.int (0 : Int32)), .unset, .unset, .unset, .unset, .unset]) rfl ?_
    show Steps p.tables e below (s₁.setTop (mkF m 2 #[.val (.ref a1), .val (.int (0 : Int32)), .unset, .unset, .unset, .unset, .unset] [])) _
    refine XS.aloadN X0.here hx rfl (hb hby own_d_oc2_2) rfl rfl ?_
    show Steps p.tables e below (s₁.setTop (mkF m 3 #[.val (.ref a1), .val (.int (0 : Int32)), .unset, .unset, .unset, .unset, .unset] [(.ref a1)])) _
    refine XS.astoreN X0.here hx rfl (hb hby own_d_oc2_3) rfl rfl (l' := #[.val (.ref a1), .val (.int (0 : Int32)), .val (.ref a1), .unset, .unset, .unset, .unset]) rfl ?_
    show Steps p.tables e below (s₁.setTop (mkF m 4 #[.val (.ref a1), .val (.int (0 : Int32)), .val (.ref a1), .unset, .unset, .unset, .unset] [])) _
    refine XS.aloadN X0.here hx rfl (hb hby own_d_oc2_4) rfl rfl ?_
    show Steps p.tables e below (s₁.setTop (mkF m 5 #[.val (.ref a1), .val (.int (0 : Int32)), .val (.ref a1), .unset, .unset, .unset, .unset] [(.ref a1)])) _
    refine X0.arraylength hx (by rw [e0]; exact Ar1.1) (State.isArrayOf_alike hZ.alike Ar1.2.1) (g := (mkF m 5 #[.val (.ref a1), .val (.int (0 : Int32)), .val (.ref a1), .unset, .unset, .unset, .unset] [(.ref a1)])) rfl rfl (hb hby own_d_oc2_5) _ ?_
    rw [len_of S1 M1]
    show Steps p.tables e below (s₁.setTop (mkF m 6 #[.val (.ref a1), .val (.int (0 : Int32)), .val (.ref a1), .unset, .unset, .unset, .unset] [(.int (2 : Int32))])) _
    refine XS.istoreN X0.here hx rfl (hb hby own_d_oc2_6) rfl (l' := #[.val (.ref a1), .val (.int (0 : Int32)), .val (.ref a1), .val (.int (2 : Int32)), .unset, .unset, .unset]) rfl ?_
    show Steps p.tables e below (s₁.setTop (mkF m 7 #[.val (.ref a1), .val (.int (0 : Int32)), .val (.ref a1), .val (.int (2 : Int32)), .unset, .unset, .unset] [])) _
    refine XS.iconst X0.here hx rfl (hb hby own_d_oc2_7) ?_
    show Steps p.tables e below (s₁.setTop (mkF m 8 #[.val (.ref a1), .val (.int (0 : Int32)), .val (.ref a1), .val (.int (2 : Int32)), .unset, .unset, .unset] [(.int (0 : Int32))])) _
    refine XS.istore X0.here hx rfl (hb hby own_d_oc2_8) rfl (l' := #[.val (.ref a1), .val (.int (0 : Int32)), .val (.ref a1), .val (.int (2 : Int32)), .val (.int (0 : Int32)), .unset, .unset]) rfl ?_
    show Steps p.tables e below (s₁.setTop (mkF m 10 #[.val (.ref a1), .val (.int (0 : Int32)), .val (.ref a1), .val (.int (2 : Int32)), .val (.int (0 : Int32)), .unset, .unset] [])) _
    refine XS.iload X0.here hx rfl (hb hby own_d_oc2_10) rfl ?_
    show Steps p.tables e below (s₁.setTop (mkF m 12 #[.val (.ref a1), .val (.int (0 : Int32)), .val (.ref a1), .val (.int (2 : Int32)), .val (.int (0 : Int32)), .unset, .unset] [(.int (0 : Int32))])) _
    refine XS.iloadN X0.here hx rfl (hb hby own_d_oc2_12) rfl ?_
    show Steps p.tables e below (s₁.setTop (mkF m 13 #[.val (.ref a1), .val (.int (0 : Int32)), .val (.ref a1), .val (.int (2 : Int32)), .val (.int (0 : Int32)), .unset, .unset] [(.int (2 : Int32)), (.int (0 : Int32))])) _
    refine XS.icmpNo X0.here hx rfl (hb hby own_d_oc2_13) rfl (tlt (by decide)).2.1 ?_
    show Steps p.tables e below (s₁.setTop (mkF m 16 #[.val (.ref a1), .val (.int (0 : Int32)), .val (.ref a1), .val (.int (2 : Int32)), .val (.int (0 : Int32)), .unset, .unset] [])) _
    refine XS.aloadN X0.here hx rfl (hb hby own_d_oc2_16) rfl rfl ?_
    show Steps p.tables e below (s₁.setTop (mkF m 17 #[.val (.ref a1), .val (.int (0 : Int32)), .val (.ref a1), .val (.int (2 : Int32)), .val (.int (0 : Int32)), .unset, .unset] [(.ref a1)])) _
    refine XS.iload X0.here hx rfl (hb hby own_d_oc2_17) rfl ?_
    show Steps p.tables e below (s₁.setTop (mkF m 19 #[.val (.ref a1), .val (.int (0 : Int32)), .val (.ref a1), .val (.int (2 : Int32)), .val (.int (0 : Int32)), .unset, .unset] [(.int (0 : Int32)), (.ref a1)])) _
    refine X0.laload hx (j := (0 : Int32)) (v := (.long q0)) (by rw [e0]; exact Ar2.1) (State.isArrayOf_alike hZ.alike Ar2.2.1) Ar2.2.2 hin2 hat2 (g := (mkF m 19 #[.val (.ref a1), .val (.int (0 : Int32)), .val (.ref a1), .val (.int (2 : Int32)), .val (.int (0 : Int32)), .unset, .unset] [(.int (0 : Int32)), (.ref a1)])) rfl rfl (hb hby own_d_oc2_19) _ ?_
    show Steps p.tables e below (s₁.setTop (mkF m 20 #[.val (.ref a1), .val (.int (0 : Int32)), .val (.ref a1), .val (.int (2 : Int32)), .val (.int (0 : Int32)), .unset, .unset] [(.long q0)])) _
    refine XS.lstore X0.here hx rfl (hb hby own_d_oc2_20) rfl (l' := #[.val (.ref a1), .val (.int (0 : Int32)), .val (.ref a1), .val (.int (2 : Int32)), .val (.int (0 : Int32)), .val (.long q0), .second]) rfl ?_
    show Steps p.tables e below (s₁.setTop (mkF m 22 #[.val (.ref a1), .val (.int (0 : Int32)), .val (.ref a1), .val (.int (2 : Int32)), .val (.int (0 : Int32)), .val (.long q0), .second] [])) _
    refine XS.lload X0.here hx rfl (hb hby own_d_oc2_22) rfl ?_
    show Steps p.tables e below (s₁.setTop (mkF m 24 #[.val (.ref a1), .val (.int (0 : Int32)), .val (.ref a1), .val (.int (2 : Int32)), .val (.int (0 : Int32)), .val (.long q0), .second] [(.long q0)])) _
    refine X0.ldc2Long hx hown (mvT hZ (hw _ (List.mem_of_getElem? (i := 13) rfl))) (g := (mkF m 24 #[.val (.ref a1), .val (.int (0 : Int32)), .val (.ref a1), .val (.int (2 : Int32)), .val (.int (0 : Int32)), .val (.long q0), .second] [(.long q0)])) rfl (hb hby own_d_oc2_24) _ ?_
    show Steps p.tables e below (s₁.setTop (mkF m 27 #[.val (.ref a1), .val (.int (0 : Int32)), .val (.ref a1), .val (.int (2 : Int32)), .val (.int (0 : Int32)), .val (.long q0), .second] [(.long (9223372036854775807 : Int64)), (.long q0)])) _
    refine XS.lcmp X0.here hx rfl (hb hby own_d_oc2_27) rfl ?_
    exact k)
  obtain ⟨v5, hv5⟩ : ∃ z : Int32, z = (if q0 = (9223372036854775807 : Int64) then (1 : Int32) else (0 : Int32)) := ⟨_, rfl⟩
  have way6 : ∀ t, Steps p.tables e below (s₁.setTop (mkF m 34 #[.val (.ref a1), .val (.int v5), .val (.ref a1), .val (.int (2 : Int32)), .val (.int (0 : Int32)), .val (.long q0), .second] [])) t → Steps p.tables e below (s₁.setTop (entryFrame m #[(.ref a1)] 7)) t := fun t k => way3 t (by
    by_cases hj4 : q0 = (9223372036854775807 : Int64)
    ·
      show Steps p.tables e below (s₁.setTop (mkF m 28 #[.val (.ref a1), .val (.int (0 : Int32)), .val (.ref a1), .val (.int (2 : Int32)), .val (.int (0 : Int32)), .val (.long q0), .second] [(.int (lcmpW q0 (9223372036854775807 : Int64)))])) _
      refine XS.ifNo X0.here hx rfl (hb hby own_d_oc2_28) rfl ((if0 _ _).trans (teq ((lw_eq _ _).mpr hj4)).2) ?_
      show Steps p.tables e below (s₁.setTop (mkF m 31 #[.val (.ref a1), .val (.int (0 : Int32)), .val (.ref a1), .val (.int (2 : Int32)), .val (.int (0 : Int32)), .val (.long q0), .second] [])) _
      refine XS.iinc X0.here hx rfl (hb hby own_d_oc2_31) rfl (l' := #[.val (.ref a1), .val (.int (1 : Int32)), .val (.ref a1), .val (.int (2 : Int32)), .val (.int (0 : Int32)), .val (.long q0), .second]) rfl ?_
      simp only [hv5, if_pos hj4] at k
      exact k
    ·
      show Steps p.tables e below (s₁.setTop (mkF m 28 #[.val (.ref a1), .val (.int (0 : Int32)), .val (.ref a1), .val (.int (2 : Int32)), .val (.int (0 : Int32)), .val (.long q0), .second] [(.int (lcmpW q0 (9223372036854775807 : Int64)))])) _
      refine XS.ifYes X0.here hx rfl (pc0 := 28) (pc' := 34) rfl (hb hby own_d_oc2_28) rfl ((if0 _ _).trans (feq (fun q => hj4 ((lw_eq _ _).mp q))).2) (by decide) (by decide) ?_
      simp only [hv5, if_neg hj4] at k
      exact k)
  obtain ⟨cl7, Ar7, aq7, S7, M7, H7, G7⟩ := id fV_a1
  have hin7 : ¬ ((1 : Int32) < 0 ∨ cl7.slots.size ≤ ((1 : Int32)).toNatClampNeg) := by rw [S7]; decide
  have hat7 : cl7.slots[((1 : Int32)).toNatClampNeg]? = some (.long q1) := H7 1 (by rw [S7]; decide)
  have way8 : ∀ t, Steps p.tables e below (s₁.setTop (mkF m 28 #[.val (.ref a1), .val (.int v5), .val (.ref a1), .val (.int (2 : Int32)), .val (.int (1 : Int32)), .val (.long q1), .second] [(.int (lcmpW q1 (9223372036854775807 : Int64)))])) t → Steps p.tables e below (s₁.setTop (entryFrame m #[(.ref a1)] 7)) t := fun t k => way6 t (by
    show Steps p.tables e below (s₁.setTop (mkF m 34 #[.val (.ref a1), .val (.int v5), .val (.ref a1), .val (.int (2 : Int32)), .val (.int (0 : Int32)), .val (.long q0), .second] [])) _
    refine XS.iinc X0.here hx rfl (hb hby own_d_oc2_34) rfl (l' := #[.val (.ref a1), .val (.int v5), .val (.ref a1), .val (.int (2 : Int32)), .val (.int (1 : Int32)), .val (.long q0), .second]) rfl ?_
    show Steps p.tables e below (s₁.setTop (mkF m 37 #[.val (.ref a1), .val (.int v5), .val (.ref a1), .val (.int (2 : Int32)), .val (.int (1 : Int32)), .val (.long q0), .second] [])) _
    refine XS.goto X0.here hx rfl (pc0 := 37) (pc' := 10) rfl (hb hby own_d_oc2_37) (by decide) (by decide) ?_
    show Steps p.tables e below (s₁.setTop (mkF m 10 #[.val (.ref a1), .val (.int v5), .val (.ref a1), .val (.int (2 : Int32)), .val (.int (1 : Int32)), .val (.long q0), .second] [])) _
    refine XS.iload X0.here hx rfl (hb hby own_d_oc2_10) rfl ?_
    show Steps p.tables e below (s₁.setTop (mkF m 12 #[.val (.ref a1), .val (.int v5), .val (.ref a1), .val (.int (2 : Int32)), .val (.int (1 : Int32)), .val (.long q0), .second] [(.int (1 : Int32))])) _
    refine XS.iloadN X0.here hx rfl (hb hby own_d_oc2_12) rfl ?_
    show Steps p.tables e below (s₁.setTop (mkF m 13 #[.val (.ref a1), .val (.int v5), .val (.ref a1), .val (.int (2 : Int32)), .val (.int (1 : Int32)), .val (.long q0), .second] [(.int (2 : Int32)), (.int (1 : Int32))])) _
    refine XS.icmpNo X0.here hx rfl (hb hby own_d_oc2_13) rfl (tlt (by decide)).2.1 ?_
    show Steps p.tables e below (s₁.setTop (mkF m 16 #[.val (.ref a1), .val (.int v5), .val (.ref a1), .val (.int (2 : Int32)), .val (.int (1 : Int32)), .val (.long q0), .second] [])) _
    refine XS.aloadN X0.here hx rfl (hb hby own_d_oc2_16) rfl rfl ?_
    show Steps p.tables e below (s₁.setTop (mkF m 17 #[.val (.ref a1), .val (.int v5), .val (.ref a1), .val (.int (2 : Int32)), .val (.int (1 : Int32)), .val (.long q0), .second] [(.ref a1)])) _
    refine XS.iload X0.here hx rfl (hb hby own_d_oc2_17) rfl ?_
    show Steps p.tables e below (s₁.setTop (mkF m 19 #[.val (.ref a1), .val (.int v5), .val (.ref a1), .val (.int (2 : Int32)), .val (.int (1 : Int32)), .val (.long q0), .second] [(.int (1 : Int32)), (.ref a1)])) _
    refine X0.laload hx (j := (1 : Int32)) (v := (.long q1)) (by rw [e0]; exact Ar7.1) (State.isArrayOf_alike hZ.alike Ar7.2.1) Ar7.2.2 hin7 hat7 (g := (mkF m 19 #[.val (.ref a1), .val (.int v5), .val (.ref a1), .val (.int (2 : Int32)), .val (.int (1 : Int32)), .val (.long q0), .second] [(.int (1 : Int32)), (.ref a1)])) rfl rfl (hb hby own_d_oc2_19) _ ?_
    show Steps p.tables e below (s₁.setTop (mkF m 20 #[.val (.ref a1), .val (.int v5), .val (.ref a1), .val (.int (2 : Int32)), .val (.int (1 : Int32)), .val (.long q0), .second] [(.long q1)])) _
    refine XS.lstore X0.here hx rfl (hb hby own_d_oc2_20) rfl (l' := #[.val (.ref a1), .val (.int v5), .val (.ref a1), .val (.int (2 : Int32)), .val (.int (1 : Int32)), .val (.long q1), .second]) rfl ?_
    show Steps p.tables e below (s₁.setTop (mkF m 22 #[.val (.ref a1), .val (.int v5), .val (.ref a1), .val (.int (2 : Int32)), .val (.int (1 : Int32)), .val (.long q1), .second] [])) _
    refine XS.lload X0.here hx rfl (hb hby own_d_oc2_22) rfl ?_
    show Steps p.tables e below (s₁.setTop (mkF m 24 #[.val (.ref a1), .val (.int v5), .val (.ref a1), .val (.int (2 : Int32)), .val (.int (1 : Int32)), .val (.long q1), .second] [(.long q1)])) _
    refine X0.ldc2Long hx hown (mvT hZ (hw _ (List.mem_of_getElem? (i := 13) rfl))) (g := (mkF m 24 #[.val (.ref a1), .val (.int v5), .val (.ref a1), .val (.int (2 : Int32)), .val (.int (1 : Int32)), .val (.long q1), .second] [(.long q1)])) rfl (hb hby own_d_oc2_24) _ ?_
    show Steps p.tables e below (s₁.setTop (mkF m 27 #[.val (.ref a1), .val (.int v5), .val (.ref a1), .val (.int (2 : Int32)), .val (.int (1 : Int32)), .val (.long q1), .second] [(.long (9223372036854775807 : Int64)), (.long q1)])) _
    refine XS.lcmp X0.here hx rfl (hb hby own_d_oc2_27) rfl ?_
    exact k)
  obtain ⟨v10, hv10⟩ : ∃ z : Int32, z = (if q1 = (9223372036854775807 : Int64) then (v5 + (1 : Int32)) else v5) := ⟨_, rfl⟩
  have way11 : ∀ t, Steps p.tables e below (s₁.setTop (mkF m 34 #[.val (.ref a1), .val (.int v10), .val (.ref a1), .val (.int (2 : Int32)), .val (.int (1 : Int32)), .val (.long q1), .second] [])) t → Steps p.tables e below (s₁.setTop (entryFrame m #[(.ref a1)] 7)) t := fun t k => way8 t (by
    by_cases hj9 : q1 = (9223372036854775807 : Int64)
    ·
      show Steps p.tables e below (s₁.setTop (mkF m 28 #[.val (.ref a1), .val (.int v5), .val (.ref a1), .val (.int (2 : Int32)), .val (.int (1 : Int32)), .val (.long q1), .second] [(.int (lcmpW q1 (9223372036854775807 : Int64)))])) _
      refine XS.ifNo X0.here hx rfl (hb hby own_d_oc2_28) rfl ((if0 _ _).trans (teq ((lw_eq _ _).mpr hj9)).2) ?_
      show Steps p.tables e below (s₁.setTop (mkF m 31 #[.val (.ref a1), .val (.int v5), .val (.ref a1), .val (.int (2 : Int32)), .val (.int (1 : Int32)), .val (.long q1), .second] [])) _
      refine XS.iinc X0.here hx rfl (hb hby own_d_oc2_31) rfl (l' := #[.val (.ref a1), .val (.int (v5 + (1 : Int32))), .val (.ref a1), .val (.int (2 : Int32)), .val (.int (1 : Int32)), .val (.long q1), .second]) rfl ?_
      simp only [hv10, if_pos hj9] at k
      exact k
    ·
      show Steps p.tables e below (s₁.setTop (mkF m 28 #[.val (.ref a1), .val (.int v5), .val (.ref a1), .val (.int (2 : Int32)), .val (.int (1 : Int32)), .val (.long q1), .second] [(.int (lcmpW q1 (9223372036854775807 : Int64)))])) _
      refine XS.ifYes X0.here hx rfl (pc0 := 28) (pc' := 34) rfl (hb hby own_d_oc2_28) rfl ((if0 _ _).trans (feq (fun q => hj9 ((lw_eq _ _).mp q))).2) (by decide) (by decide) ?_
      simp only [hv10, if_neg hj9] at k
      exact k)
  have way12 : ∀ t, Steps p.tables e below (s₁.setTop (mkF m 41 #[.val (.ref a1), .val (.int v10), .val (.ref a1), .val (.int (2 : Int32)), .val (.int (2 : Int32)), .val (.long q1), .second] [(.int v10)])) t → Steps p.tables e below (s₁.setTop (entryFrame m #[(.ref a1)] 7)) t := fun t k => way11 t (by
    show Steps p.tables e below (s₁.setTop (mkF m 34 #[.val (.ref a1), .val (.int v10), .val (.ref a1), .val (.int (2 : Int32)), .val (.int (1 : Int32)), .val (.long q1), .second] [])) _
    refine XS.iinc X0.here hx rfl (hb hby own_d_oc2_34) rfl (l' := #[.val (.ref a1), .val (.int v10), .val (.ref a1), .val (.int (2 : Int32)), .val (.int (2 : Int32)), .val (.long q1), .second]) rfl ?_
    show Steps p.tables e below (s₁.setTop (mkF m 37 #[.val (.ref a1), .val (.int v10), .val (.ref a1), .val (.int (2 : Int32)), .val (.int (2 : Int32)), .val (.long q1), .second] [])) _
    refine XS.goto X0.here hx rfl (pc0 := 37) (pc' := 10) rfl (hb hby own_d_oc2_37) (by decide) (by decide) ?_
    show Steps p.tables e below (s₁.setTop (mkF m 10 #[.val (.ref a1), .val (.int v10), .val (.ref a1), .val (.int (2 : Int32)), .val (.int (2 : Int32)), .val (.long q1), .second] [])) _
    refine XS.iload X0.here hx rfl (hb hby own_d_oc2_10) rfl ?_
    show Steps p.tables e below (s₁.setTop (mkF m 12 #[.val (.ref a1), .val (.int v10), .val (.ref a1), .val (.int (2 : Int32)), .val (.int (2 : Int32)), .val (.long q1), .second] [(.int (2 : Int32))])) _
    refine XS.iloadN X0.here hx rfl (hb hby own_d_oc2_12) rfl ?_
    show Steps p.tables e below (s₁.setTop (mkF m 13 #[.val (.ref a1), .val (.int v10), .val (.ref a1), .val (.int (2 : Int32)), .val (.int (2 : Int32)), .val (.long q1), .second] [(.int (2 : Int32)), (.int (2 : Int32))])) _
    refine XS.icmpYes X0.here hx rfl (pc0 := 13) (pc' := 40) rfl (hb hby own_d_oc2_13) rfl (flt (by decide)).2.1 (by decide) (by decide) ?_
    show Steps p.tables e below (s₁.setTop (mkF m 40 #[.val (.ref a1), .val (.int v10), .val (.ref a1), .val (.int (2 : Int32)), .val (.int (2 : Int32)), .val (.long q1), .second] [])) _
    refine XS.iloadN X0.here hx rfl (hb hby own_d_oc2_40) rfl ?_
    exact k)
  obtain ⟨fs, hr, hrun, hended, hW, hsame⟩ := X0.leave (v := some (.int v10)) (fun h => by rw [Bd.returns] at h; cases h)
  refine ⟨_, _, way12 _ ?_, hrun, hended, _, _, rfl, ?_, ⟨_, rfl⟩, hW, hsame.mono (by decide) (by decide)⟩
  · show Steps p.tables e below (s₁.setTop (mkF m 41 #[.val (.ref a1), .val (.int v10), .val (.ref a1), .val (.int (2 : Int32)), .val (.int (2 : Int32)), .val (.long q1), .second] [(.int v10)])) _
    exact retI X0 hx Bd.returns (hb hby own_d_oc2_41) hr
  · show Q_oc2 Z a1 kk q0 q1 h0 n0 _ s₁.heap _
    rw [e0]
    exact ⟨by subst hv5; subst hv10; rfl, N0, rfl⟩
theorem own_d_oc3_0 : decode prog_70_method_2_code 0 = .ok (.iconst 0, 1) := by decide +kernel
theorem own_d_oc3_1 : decode prog_70_method_2_code 1 = .ok (.istore_n 1, 1) := by decide +kernel
theorem own_d_oc3_2 : decode prog_70_method_2_code 2 = .ok (.aload_n 0, 1) := by decide +kernel
theorem own_d_oc3_3 : decode prog_70_method_2_code 3 = .ok (.astore_n 2, 1) := by decide +kernel
theorem own_d_oc3_4 : decode prog_70_method_2_code 4 = .ok (.aload_n 2, 1) := by decide +kernel
theorem own_d_oc3_5 : decode prog_70_method_2_code 5 = .ok (.arraylength, 1) := by decide +kernel
theorem own_d_oc3_6 : decode prog_70_method_2_code 6 = .ok (.istore_n 3, 1) := by decide +kernel
theorem own_d_oc3_7 : decode prog_70_method_2_code 7 = .ok (.iconst 0, 1) := by decide +kernel
theorem own_d_oc3_8 : decode prog_70_method_2_code 8 = .ok (.istore 4, 2) := by decide +kernel
theorem own_d_oc3_10 : decode prog_70_method_2_code 10 = .ok (.iload 4, 2) := by decide +kernel
theorem own_d_oc3_12 : decode prog_70_method_2_code 12 = .ok (.iload_n 3, 1) := by decide +kernel
theorem own_d_oc3_13 : decode prog_70_method_2_code 13 = .ok (.if_icmp .ge 27, 3) := by decide +kernel
theorem own_d_oc3_16 : decode prog_70_method_2_code 16 = .ok (.aload_n 2, 1) := by decide +kernel
theorem own_d_oc3_17 : decode prog_70_method_2_code 17 = .ok (.iload 4, 2) := by decide +kernel
theorem own_d_oc3_19 : decode prog_70_method_2_code 19 = .ok (.laload, 1) := by decide +kernel
theorem own_d_oc3_20 : decode prog_70_method_2_code 20 = .ok (.lstore 5, 2) := by decide +kernel
theorem own_d_oc3_22 : decode prog_70_method_2_code 22 = .ok (.lload 5, 2) := by decide +kernel
theorem own_d_oc3_24 : decode prog_70_method_2_code 24 = .ok (.ldc2_w 72, 3) := by decide +kernel
theorem own_d_oc3_27 : decode prog_70_method_2_code 27 = .ok (.lcmp, 1) := by decide +kernel
theorem own_d_oc3_28 : decode prog_70_method_2_code 28 = .ok (.ifCond .ne 6, 3) := by decide +kernel
theorem own_d_oc3_31 : decode prog_70_method_2_code 31 = .ok (.iinc 1 1, 3) := by decide +kernel
theorem own_d_oc3_34 : decode prog_70_method_2_code 34 = .ok (.iinc 4 1, 3) := by decide +kernel
theorem own_d_oc3_37 : decode prog_70_method_2_code 37 = .ok (.goto (-27), 3) := by decide +kernel
theorem own_d_oc3_40 : decode prog_70_method_2_code 40 = .ok (.iload_n 1, 1) := by decide +kernel
theorem own_d_oc3_41 : decode prog_70_method_2_code 41 = .ok (.ireturn, 1) := by decide +kernel
theorem own_ef_oc3 (m : MethodId) (a1 : Addr) : entryFrame m #[(.ref a1)] 7 = mkF m 0 #[.val (.ref a1), .unset, .unset, .unset, .unset, .unset, .unset] [] := by first | (simp [entryFrame, mkF, argsToLocals, Value.category]; done) | rfl
def Q_oc3 (Z : State) (a1 : Addr) (kk : ClassId) (q0 : Int64) (q1 : Int64) (q2 : Int64) (h0 : Heap) (n0 : Nat) (v : Option Value) (h : Heap) (L : List Loc) : Prop := v = some (.int (own_st q2 (own_st q1 (own_st q0 (0 : Int32))))) ∧ Fr n0 L ∧ h = h0
set_option maxRecDepth 65536 in
set_option maxHeartbeats 40000000 in
theorem rm_oc3 (l : Launch) (Z : State) (a0 : Array Value) (hw : ∀ d ∈ tables_1, d.before a0 Z = true) (ws : List Jvm.Cond) (a1 : Addr) (kk : ClassId) (q0 : Int64) (q1 : Int64) (q2 : Int64) (h0 : Heap) (n0 : Nat) (Z0 : n0 ≤ h0.size) (fV_a1 : Arv Z h0 a1 kk .long (3 : Int32) [(.long q0), (.long q1), (.long q2)] (.long (0 : Int64))) :
    MetFree l (⟨"com/example/netloom/netloom/core/reachability/OmegaSets", "omegaCount", "([J)I"⟩ : MethodName) (head1 (Jvm.Cond.code (⟨"com/example/netloom/netloom/core/reachability/OmegaSets", "omegaCount", "([J)I"⟩ : MethodName) prog_70_method_2_code 7 (some .int) :: ws) ({ frames := 0, cells := 0, slots := 0, locals := 0 } : Room)) (fun a U => a = #[(.ref a1)] ∧ Z.Warmed39 U.vm ∧ U.heap = h0) (fun _ _ _ _ _ => True) (fun _ U o U' => ∃ v L, o = .returned v ∧ Q_oc3 Z a1 kk q0 q1 q2 h0 n0 v U'.heap L ∧ FrameEnd U o U' L ({ frames := 0, cells := 0, slots := 0, locals := 0 } : Room).cells ({ frames := 0, cells := 0, slots := 0, locals := 0 } : Room).slots) := by
  refine MetFree.of_bodySF (plainFor_of_name own_pn1) hisR ?_
  intro p e s m args below meth c s₁ Bd hml0 hP hK
  obtain ⟨rfl, hZ, hh⟩ := hP
  have hx := Bd.exec
  have hby := Bd.bytes
  have hml : c.maxLocals = 7 := hml0
  have hown : s.vm.findClass "com/example/netloom/netloom/core/reachability/OmegaSets" = some m.cls := findClass_of_methodNamed Bd.named
  have hnm := (name_of_methodNamed Bd.named Bd.method).1
  have X0 : Stand p l e ({ frames := 0, cells := 0, slots := 0, locals := 0 } : Room) s m #[(.ref a1)] below meth c s₁ [] 0 0 := Stand.of_body Bd
  have e0 : s₁.heap = h0 := by rw [← hh, Bd.state]; rfl
  have N0 := Fr.nil n0
  have pre0 : ∀ t, Steps p.tables e below (s₁.setTop (mkF m 0 #[.val (.ref a1), .unset, .unset, .unset, .unset, .unset, .unset] [])) t → Steps p.tables e below (s₁.setTop (entryFrame m #[(.ref a1)] 7)) t := fun t k => castTop (own_ef_oc3 m a1) k
  obtain ⟨cl1, Ar1, -, S1, M1, -, -⟩ := id fV_a1
  obtain ⟨cl2, Ar2, aq2, S2, M2, H2, G2⟩ := id fV_a1
  have hin2 : ¬ ((0 : Int32) < 0 ∨ cl2.slots.size ≤ ((0 : Int32)).toNatClampNeg) := by rw [S2]; decide
  have hat2 : cl2.slots[((0 : Int32)).toNatClampNeg]? = some (.long q0) := H2 0 (by rw [S2]; decide)
  have way3 : ∀ t, Steps p.tables e below (s₁.setTop (mkF m 28 #[.val (.ref a1), .val (.int (0 : Int32)), .val (.ref a1), .val (.int (3 : Int32)), .val (.int (0 : Int32)), .val (.long q0), .second] [(.int (lcmpW q0 (9223372036854775807 : Int64)))])) t → Steps p.tables e below (s₁.setTop (entryFrame m #[(.ref a1)] 7)) t := fun t k => pre0 t (by
    show Steps p.tables e below (s₁.setTop (mkF m 0 #[.val (.ref a1), .unset, .unset, .unset, .unset, .unset, .unset] [])) _
    refine XS.iconst X0.here hx rfl (hb hby own_d_oc3_0) ?_
    show Steps p.tables e below (s₁.setTop (mkF m 1 #[.val (.ref a1), .unset, .unset, .unset, .unset, .unset, .unset] [(.int (0 : Int32))])) _
    refine XS.istoreN X0.here hx rfl (hb hby own_d_oc3_1) rfl (l' := #[.val (.ref a1), .val (.int (0 : Int32)), .unset, .unset, .unset, .unset, .unset]) rfl ?_
    show Steps p.tables e below (s₁.setTop (mkF m 2 #[.val (.ref a1), .val (.int (0 : Int32)), .unset, .unset, .unset, .unset, .unset] [])) _
    refine XS.aloadN X0.here hx rfl (hb hby own_d_oc3_2) rfl rfl ?_
    show Steps p.tables e below (s₁.setTop (mkF m 3 #[.val (.ref a1), .val (.int (0 : Int32)), .unset, .unset, .unset, .unset, .unset] [(.ref a1)])) _
    refine XS.astoreN X0.here hx rfl (hb hby own_d_oc3_3) rfl rfl (l' := #[.val (.ref a1), .val (.int (0 : Int32)), .val (.ref a1), .unset, .unset, .unset, .unset]) rfl ?_
    show Steps p.tables e below (s₁.setTop (mkF m 4 #[.val (.ref a1), .val (.int (0 : Int32)), .val (.ref a1), .unset, .unset, .unset, .unset] [])) _
    refine XS.aloadN X0.here hx rfl (hb hby own_d_oc3_4) rfl rfl ?_
    show Steps p.tables e below (s₁.setTop (mkF m 5 #[.val (.ref a1), .val (.int (0 : Int32)), .val (.ref a1), .unset, .unset, .unset, .unset] [(.ref a1)])) _
    refine X0.arraylength hx (by rw [e0]; exact Ar1.1) (State.isArrayOf_alike hZ.alike Ar1.2.1) (g := (mkF m 5 #[.val (.ref a1), .val (.int (0 : Int32)), .val (.ref a1), .unset, .unset, .unset, .unset] [(.ref a1)])) rfl rfl (hb hby own_d_oc3_5) _ ?_
    rw [len_of S1 M1]
    show Steps p.tables e below (s₁.setTop (mkF m 6 #[.val (.ref a1), .val (.int (0 : Int32)), .val (.ref a1), .unset, .unset, .unset, .unset] [(.int (3 : Int32))])) _
    refine XS.istoreN X0.here hx rfl (hb hby own_d_oc3_6) rfl (l' := #[.val (.ref a1), .val (.int (0 : Int32)), .val (.ref a1), .val (.int (3 : Int32)), .unset, .unset, .unset]) rfl ?_
    show Steps p.tables e below (s₁.setTop (mkF m 7 #[.val (.ref a1), .val (.int (0 : Int32)), .val (.ref a1), .val (.int (3 : Int32)), .unset, .unset, .unset] [])) _
    refine XS.iconst X0.here hx rfl (hb hby own_d_oc3_7) ?_
    show Steps p.tables e below (s₁.setTop (mkF m 8 #[.val (.ref a1), .val (.int (0 : Int32)), .val (.ref a1), .val (.int (3 : Int32)), .unset, .unset, .unset] [(.int (0 : Int32))])) _
    refine XS.istore X0.here hx rfl (hb hby own_d_oc3_8) rfl (l' := #[.val (.ref a1), .val (.int (0 : Int32)), .val (.ref a1), .val (.int (3 : Int32)), .val (.int (0 : Int32)), .unset, .unset]) rfl ?_
    show Steps p.tables e below (s₁.setTop (mkF m 10 #[.val (.ref a1), .val (.int (0 : Int32)), .val (.ref a1), .val (.int (3 : Int32)), .val (.int (0 : Int32)), .unset, .unset] [])) _
    refine XS.iload X0.here hx rfl (hb hby own_d_oc3_10) rfl ?_
    show Steps p.tables e below (s₁.setTop (mkF m 12 #[.val (.ref a1), .val (.int (0 : Int32)), .val (.ref a1), .val (.int (3 : Int32)), .val (.int (0 : Int32)), .unset, .unset] [(.int (0 : Int32))])) _
    refine XS.iloadN X0.here hx rfl (hb hby own_d_oc3_12) rfl ?_
    show Steps p.tables e below (s₁.setTop (mkF m 13 #[.val (.ref a1), .val (.int (0 : Int32)), .val (.ref a1), .val (.int (3 : Int32)), .val (.int (0 : Int32)), .unset, .unset] [(.int (3 : Int32)), (.int (0 : Int32))])) _
    refine XS.icmpNo X0.here hx rfl (hb hby own_d_oc3_13) rfl (tlt (by decide)).2.1 ?_
    show Steps p.tables e below (s₁.setTop (mkF m 16 #[.val (.ref a1), .val (.int (0 : Int32)), .val (.ref a1), .val (.int (3 : Int32)), .val (.int (0 : Int32)), .unset, .unset] [])) _
    refine XS.aloadN X0.here hx rfl (hb hby own_d_oc3_16) rfl rfl ?_
    show Steps p.tables e below (s₁.setTop (mkF m 17 #[.val (.ref a1), .val (.int (0 : Int32)), .val (.ref a1), .val (.int (3 : Int32)), .val (.int (0 : Int32)), .unset, .unset] [(.ref a1)])) _
    refine XS.iload X0.here hx rfl (hb hby own_d_oc3_17) rfl ?_
    show Steps p.tables e below (s₁.setTop (mkF m 19 #[.val (.ref a1), .val (.int (0 : Int32)), .val (.ref a1), .val (.int (3 : Int32)), .val (.int (0 : Int32)), .unset, .unset] [(.int (0 : Int32)), (.ref a1)])) _
    refine X0.laload hx (j := (0 : Int32)) (v := (.long q0)) (by rw [e0]; exact Ar2.1) (State.isArrayOf_alike hZ.alike Ar2.2.1) Ar2.2.2 hin2 hat2 (g := (mkF m 19 #[.val (.ref a1), .val (.int (0 : Int32)), .val (.ref a1), .val (.int (3 : Int32)), .val (.int (0 : Int32)), .unset, .unset] [(.int (0 : Int32)), (.ref a1)])) rfl rfl (hb hby own_d_oc3_19) _ ?_
    show Steps p.tables e below (s₁.setTop (mkF m 20 #[.val (.ref a1), .val (.int (0 : Int32)), .val (.ref a1), .val (.int (3 : Int32)), .val (.int (0 : Int32)), .unset, .unset] [(.long q0)])) _
    refine XS.lstore X0.here hx rfl (hb hby own_d_oc3_20) rfl (l' := #[.val (.ref a1), .val (.int (0 : Int32)), .val (.ref a1), .val (.int (3 : Int32)), .val (.int (0 : Int32)), .val (.long q0), .second]) rfl ?_
    show Steps p.tables e below (s₁.setTop (mkF m 22 #[.val (.ref a1), .val (.int (0 : Int32)), .val (.ref a1), .val (.int (3 : Int32)), .val (.int (0 : Int32)), .val (.long q0), .second] [])) _
    refine XS.lload X0.here hx rfl (hb hby own_d_oc3_22) rfl ?_
    show Steps p.tables e below (s₁.setTop (mkF m 24 #[.val (.ref a1), .val (.int (0 : Int32)), .val (.ref a1), .val (.int (3 : Int32)), .val (.int (0 : Int32)), .val (.long q0), .second] [(.long q0)])) _
    refine X0.ldc2Long hx hown (mvT hZ (hw _ (List.mem_of_getElem? (i := 13) rfl))) (g := (mkF m 24 #[.val (.ref a1), .val (.int (0 : Int32)), .val (.ref a1), .val (.int (3 : Int32)), .val (.int (0 : Int32)), .val (.long q0), .second] [(.long q0)])) rfl (hb hby own_d_oc3_24) _ ?_
    show Steps p.tables e below (s₁.setTop (mkF m 27 #[.val (.ref a1), .val (.int (0 : Int32)), .val (.ref a1), .val (.int (3 : Int32)), .val (.int (0 : Int32)), .val (.long q0), .second] [(.long (9223372036854775807 : Int64)), (.long q0)])) _
    refine XS.lcmp X0.here hx rfl (hb hby own_d_oc3_27) rfl ?_
    exact k)
  obtain ⟨v5, hv5⟩ : ∃ z : Int32, z = (if q0 = (9223372036854775807 : Int64) then (1 : Int32) else (0 : Int32)) := ⟨_, rfl⟩
  have way6 : ∀ t, Steps p.tables e below (s₁.setTop (mkF m 34 #[.val (.ref a1), .val (.int v5), .val (.ref a1), .val (.int (3 : Int32)), .val (.int (0 : Int32)), .val (.long q0), .second] [])) t → Steps p.tables e below (s₁.setTop (entryFrame m #[(.ref a1)] 7)) t := fun t k => way3 t (by
    by_cases hj4 : q0 = (9223372036854775807 : Int64)
    ·
      show Steps p.tables e below (s₁.setTop (mkF m 28 #[.val (.ref a1), .val (.int (0 : Int32)), .val (.ref a1), .val (.int (3 : Int32)), .val (.int (0 : Int32)), .val (.long q0), .second] [(.int (lcmpW q0 (9223372036854775807 : Int64)))])) _
      refine XS.ifNo X0.here hx rfl (hb hby own_d_oc3_28) rfl ((if0 _ _).trans (teq ((lw_eq _ _).mpr hj4)).2) ?_
      show Steps p.tables e below (s₁.setTop (mkF m 31 #[.val (.ref a1), .val (.int (0 : Int32)), .val (.ref a1), .val (.int (3 : Int32)), .val (.int (0 : Int32)), .val (.long q0), .second] [])) _
      refine XS.iinc X0.here hx rfl (hb hby own_d_oc3_31) rfl (l' := #[.val (.ref a1), .val (.int (1 : Int32)), .val (.ref a1), .val (.int (3 : Int32)), .val (.int (0 : Int32)), .val (.long q0), .second]) rfl ?_
      simp only [hv5, if_pos hj4] at k
      exact k
    ·
      show Steps p.tables e below (s₁.setTop (mkF m 28 #[.val (.ref a1), .val (.int (0 : Int32)), .val (.ref a1), .val (.int (3 : Int32)), .val (.int (0 : Int32)), .val (.long q0), .second] [(.int (lcmpW q0 (9223372036854775807 : Int64)))])) _
      refine XS.ifYes X0.here hx rfl (pc0 := 28) (pc' := 34) rfl (hb hby own_d_oc3_28) rfl ((if0 _ _).trans (feq (fun q => hj4 ((lw_eq _ _).mp q))).2) (by decide) (by decide) ?_
      simp only [hv5, if_neg hj4] at k
      exact k)
  obtain ⟨cl7, Ar7, aq7, S7, M7, H7, G7⟩ := id fV_a1
  have hin7 : ¬ ((1 : Int32) < 0 ∨ cl7.slots.size ≤ ((1 : Int32)).toNatClampNeg) := by rw [S7]; decide
  have hat7 : cl7.slots[((1 : Int32)).toNatClampNeg]? = some (.long q1) := H7 1 (by rw [S7]; decide)
  have way8 : ∀ t, Steps p.tables e below (s₁.setTop (mkF m 28 #[.val (.ref a1), .val (.int v5), .val (.ref a1), .val (.int (3 : Int32)), .val (.int (1 : Int32)), .val (.long q1), .second] [(.int (lcmpW q1 (9223372036854775807 : Int64)))])) t → Steps p.tables e below (s₁.setTop (entryFrame m #[(.ref a1)] 7)) t := fun t k => way6 t (by
    show Steps p.tables e below (s₁.setTop (mkF m 34 #[.val (.ref a1), .val (.int v5), .val (.ref a1), .val (.int (3 : Int32)), .val (.int (0 : Int32)), .val (.long q0), .second] [])) _
    refine XS.iinc X0.here hx rfl (hb hby own_d_oc3_34) rfl (l' := #[.val (.ref a1), .val (.int v5), .val (.ref a1), .val (.int (3 : Int32)), .val (.int (1 : Int32)), .val (.long q0), .second]) rfl ?_
    show Steps p.tables e below (s₁.setTop (mkF m 37 #[.val (.ref a1), .val (.int v5), .val (.ref a1), .val (.int (3 : Int32)), .val (.int (1 : Int32)), .val (.long q0), .second] [])) _
    refine XS.goto X0.here hx rfl (pc0 := 37) (pc' := 10) rfl (hb hby own_d_oc3_37) (by decide) (by decide) ?_
    show Steps p.tables e below (s₁.setTop (mkF m 10 #[.val (.ref a1), .val (.int v5), .val (.ref a1), .val (.int (3 : Int32)), .val (.int (1 : Int32)), .val (.long q0), .second] [])) _
    refine XS.iload X0.here hx rfl (hb hby own_d_oc3_10) rfl ?_
    show Steps p.tables e below (s₁.setTop (mkF m 12 #[.val (.ref a1), .val (.int v5), .val (.ref a1), .val (.int (3 : Int32)), .val (.int (1 : Int32)), .val (.long q0), .second] [(.int (1 : Int32))])) _
    refine XS.iloadN X0.here hx rfl (hb hby own_d_oc3_12) rfl ?_
    show Steps p.tables e below (s₁.setTop (mkF m 13 #[.val (.ref a1), .val (.int v5), .val (.ref a1), .val (.int (3 : Int32)), .val (.int (1 : Int32)), .val (.long q0), .second] [(.int (3 : Int32)), (.int (1 : Int32))])) _
    refine XS.icmpNo X0.here hx rfl (hb hby own_d_oc3_13) rfl (tlt (by decide)).2.1 ?_
    show Steps p.tables e below (s₁.setTop (mkF m 16 #[.val (.ref a1), .val (.int v5), .val (.ref a1), .val (.int (3 : Int32)), .val (.int (1 : Int32)), .val (.long q0), .second] [])) _
    refine XS.aloadN X0.here hx rfl (hb hby own_d_oc3_16) rfl rfl ?_
    show Steps p.tables e below (s₁.setTop (mkF m 17 #[.val (.ref a1), .val (.int v5), .val (.ref a1), .val (.int (3 : Int32)), .val (.int (1 : Int32)), .val (.long q0), .second] [(.ref a1)])) _
    refine XS.iload X0.here hx rfl (hb hby own_d_oc3_17) rfl ?_
    show Steps p.tables e below (s₁.setTop (mkF m 19 #[.val (.ref a1), .val (.int v5), .val (.ref a1), .val (.int (3 : Int32)), .val (.int (1 : Int32)), .val (.long q0), .second] [(.int (1 : Int32)), (.ref a1)])) _
    refine X0.laload hx (j := (1 : Int32)) (v := (.long q1)) (by rw [e0]; exact Ar7.1) (State.isArrayOf_alike hZ.alike Ar7.2.1) Ar7.2.2 hin7 hat7 (g := (mkF m 19 #[.val (.ref a1), .val (.int v5), .val (.ref a1), .val (.int (3 : Int32)), .val (.int (1 : Int32)), .val (.long q0), .second] [(.int (1 : Int32)), (.ref a1)])) rfl rfl (hb hby own_d_oc3_19) _ ?_
    show Steps p.tables e below (s₁.setTop (mkF m 20 #[.val (.ref a1), .val (.int v5), .val (.ref a1), .val (.int (3 : Int32)), .val (.int (1 : Int32)), .val (.long q0), .second] [(.long q1)])) _
    refine XS.lstore X0.here hx rfl (hb hby own_d_oc3_20) rfl (l' := #[.val (.ref a1), .val (.int v5), .val (.ref a1), .val (.int (3 : Int32)), .val (.int (1 : Int32)), .val (.long q1), .second]) rfl ?_
    show Steps p.tables e below (s₁.setTop (mkF m 22 #[.val (.ref a1), .val (.int v5), .val (.ref a1), .val (.int (3 : Int32)), .val (.int (1 : Int32)), .val (.long q1), .second] [])) _
    refine XS.lload X0.here hx rfl (hb hby own_d_oc3_22) rfl ?_
    show Steps p.tables e below (s₁.setTop (mkF m 24 #[.val (.ref a1), .val (.int v5), .val (.ref a1), .val (.int (3 : Int32)), .val (.int (1 : Int32)), .val (.long q1), .second] [(.long q1)])) _
    refine X0.ldc2Long hx hown (mvT hZ (hw _ (List.mem_of_getElem? (i := 13) rfl))) (g := (mkF m 24 #[.val (.ref a1), .val (.int v5), .val (.ref a1), .val (.int (3 : Int32)), .val (.int (1 : Int32)), .val (.long q1), .second] [(.long q1)])) rfl (hb hby own_d_oc3_24) _ ?_
    show Steps p.tables e below (s₁.setTop (mkF m 27 #[.val (.ref a1), .val (.int v5), .val (.ref a1), .val (.int (3 : Int32)), .val (.int (1 : Int32)), .val (.long q1), .second] [(.long (9223372036854775807 : Int64)), (.long q1)])) _
    refine XS.lcmp X0.here hx rfl (hb hby own_d_oc3_27) rfl ?_
    exact k)
  obtain ⟨v10, hv10⟩ : ∃ z : Int32, z = (if q1 = (9223372036854775807 : Int64) then (v5 + (1 : Int32)) else v5) := ⟨_, rfl⟩
  have way11 : ∀ t, Steps p.tables e below (s₁.setTop (mkF m 34 #[.val (.ref a1), .val (.int v10), .val (.ref a1), .val (.int (3 : Int32)), .val (.int (1 : Int32)), .val (.long q1), .second] [])) t → Steps p.tables e below (s₁.setTop (entryFrame m #[(.ref a1)] 7)) t := fun t k => way8 t (by
    by_cases hj9 : q1 = (9223372036854775807 : Int64)
    ·
      show Steps p.tables e below (s₁.setTop (mkF m 28 #[.val (.ref a1), .val (.int v5), .val (.ref a1), .val (.int (3 : Int32)), .val (.int (1 : Int32)), .val (.long q1), .second] [(.int (lcmpW q1 (9223372036854775807 : Int64)))])) _
      refine XS.ifNo X0.here hx rfl (hb hby own_d_oc3_28) rfl ((if0 _ _).trans (teq ((lw_eq _ _).mpr hj9)).2) ?_
      show Steps p.tables e below (s₁.setTop (mkF m 31 #[.val (.ref a1), .val (.int v5), .val (.ref a1), .val (.int (3 : Int32)), .val (.int (1 : Int32)), .val (.long q1), .second] [])) _
      refine XS.iinc X0.here hx rfl (hb hby own_d_oc3_31) rfl (l' := #[.val (.ref a1), .val (.int (v5 + (1 : Int32))), .val (.ref a1), .val (.int (3 : Int32)), .val (.int (1 : Int32)), .val (.long q1), .second]) rfl ?_
      simp only [hv10, if_pos hj9] at k
      exact k
    ·
      show Steps p.tables e below (s₁.setTop (mkF m 28 #[.val (.ref a1), .val (.int v5), .val (.ref a1), .val (.int (3 : Int32)), .val (.int (1 : Int32)), .val (.long q1), .second] [(.int (lcmpW q1 (9223372036854775807 : Int64)))])) _
      refine XS.ifYes X0.here hx rfl (pc0 := 28) (pc' := 34) rfl (hb hby own_d_oc3_28) rfl ((if0 _ _).trans (feq (fun q => hj9 ((lw_eq _ _).mp q))).2) (by decide) (by decide) ?_
      simp only [hv10, if_neg hj9] at k
      exact k)
  obtain ⟨cl12, Ar12, aq12, S12, M12, H12, G12⟩ := id fV_a1
  have hin12 : ¬ ((2 : Int32) < 0 ∨ cl12.slots.size ≤ ((2 : Int32)).toNatClampNeg) := by rw [S12]; decide
  have hat12 : cl12.slots[((2 : Int32)).toNatClampNeg]? = some (.long q2) := H12 2 (by rw [S12]; decide)
  have way13 : ∀ t, Steps p.tables e below (s₁.setTop (mkF m 28 #[.val (.ref a1), .val (.int v10), .val (.ref a1), .val (.int (3 : Int32)), .val (.int (2 : Int32)), .val (.long q2), .second] [(.int (lcmpW q2 (9223372036854775807 : Int64)))])) t → Steps p.tables e below (s₁.setTop (entryFrame m #[(.ref a1)] 7)) t := fun t k => way11 t (by
    show Steps p.tables e below (s₁.setTop (mkF m 34 #[.val (.ref a1), .val (.int v10), .val (.ref a1), .val (.int (3 : Int32)), .val (.int (1 : Int32)), .val (.long q1), .second] [])) _
    refine XS.iinc X0.here hx rfl (hb hby own_d_oc3_34) rfl (l' := #[.val (.ref a1), .val (.int v10), .val (.ref a1), .val (.int (3 : Int32)), .val (.int (2 : Int32)), .val (.long q1), .second]) rfl ?_
    show Steps p.tables e below (s₁.setTop (mkF m 37 #[.val (.ref a1), .val (.int v10), .val (.ref a1), .val (.int (3 : Int32)), .val (.int (2 : Int32)), .val (.long q1), .second] [])) _
    refine XS.goto X0.here hx rfl (pc0 := 37) (pc' := 10) rfl (hb hby own_d_oc3_37) (by decide) (by decide) ?_
    show Steps p.tables e below (s₁.setTop (mkF m 10 #[.val (.ref a1), .val (.int v10), .val (.ref a1), .val (.int (3 : Int32)), .val (.int (2 : Int32)), .val (.long q1), .second] [])) _
    refine XS.iload X0.here hx rfl (hb hby own_d_oc3_10) rfl ?_
    show Steps p.tables e below (s₁.setTop (mkF m 12 #[.val (.ref a1), .val (.int v10), .val (.ref a1), .val (.int (3 : Int32)), .val (.int (2 : Int32)), .val (.long q1), .second] [(.int (2 : Int32))])) _
    refine XS.iloadN X0.here hx rfl (hb hby own_d_oc3_12) rfl ?_
    show Steps p.tables e below (s₁.setTop (mkF m 13 #[.val (.ref a1), .val (.int v10), .val (.ref a1), .val (.int (3 : Int32)), .val (.int (2 : Int32)), .val (.long q1), .second] [(.int (3 : Int32)), (.int (2 : Int32))])) _
    refine XS.icmpNo X0.here hx rfl (hb hby own_d_oc3_13) rfl (tlt (by decide)).2.1 ?_
    show Steps p.tables e below (s₁.setTop (mkF m 16 #[.val (.ref a1), .val (.int v10), .val (.ref a1), .val (.int (3 : Int32)), .val (.int (2 : Int32)), .val (.long q1), .second] [])) _
    refine XS.aloadN X0.here hx rfl (hb hby own_d_oc3_16) rfl rfl ?_
    show Steps p.tables e below (s₁.setTop (mkF m 17 #[.val (.ref a1), .val (.int v10), .val (.ref a1), .val (.int (3 : Int32)), .val (.int (2 : Int32)), .val (.long q1), .second] [(.ref a1)])) _
    refine XS.iload X0.here hx rfl (hb hby own_d_oc3_17) rfl ?_
    show Steps p.tables e below (s₁.setTop (mkF m 19 #[.val (.ref a1), .val (.int v10), .val (.ref a1), .val (.int (3 : Int32)), .val (.int (2 : Int32)), .val (.long q1), .second] [(.int (2 : Int32)), (.ref a1)])) _
    refine X0.laload hx (j := (2 : Int32)) (v := (.long q2)) (by rw [e0]; exact Ar12.1) (State.isArrayOf_alike hZ.alike Ar12.2.1) Ar12.2.2 hin12 hat12 (g := (mkF m 19 #[.val (.ref a1), .val (.int v10), .val (.ref a1), .val (.int (3 : Int32)), .val (.int (2 : Int32)), .val (.long q1), .second] [(.int (2 : Int32)), (.ref a1)])) rfl rfl (hb hby own_d_oc3_19) _ ?_
    show Steps p.tables e below (s₁.setTop (mkF m 20 #[.val (.ref a1), .val (.int v10), .val (.ref a1), .val (.int (3 : Int32)), .val (.int (2 : Int32)), .val (.long q1), .second] [(.long q2)])) _
    refine XS.lstore X0.here hx rfl (hb hby own_d_oc3_20) rfl (l' := #[.val (.ref a1), .val (.int v10), .val (.ref a1), .val (.int (3 : Int32)), .val (.int (2 : Int32)), .val (.long q2), .second]) rfl ?_
    show Steps p.tables e below (s₁.setTop (mkF m 22 #[.val (.ref a1), .val (.int v10), .val (.ref a1), .val (.int (3 : Int32)), .val (.int (2 : Int32)), .val (.long q2), .second] [])) _
    refine XS.lload X0.here hx rfl (hb hby own_d_oc3_22) rfl ?_
    show Steps p.tables e below (s₁.setTop (mkF m 24 #[.val (.ref a1), .val (.int v10), .val (.ref a1), .val (.int (3 : Int32)), .val (.int (2 : Int32)), .val (.long q2), .second] [(.long q2)])) _
    refine X0.ldc2Long hx hown (mvT hZ (hw _ (List.mem_of_getElem? (i := 13) rfl))) (g := (mkF m 24 #[.val (.ref a1), .val (.int v10), .val (.ref a1), .val (.int (3 : Int32)), .val (.int (2 : Int32)), .val (.long q2), .second] [(.long q2)])) rfl (hb hby own_d_oc3_24) _ ?_
    show Steps p.tables e below (s₁.setTop (mkF m 27 #[.val (.ref a1), .val (.int v10), .val (.ref a1), .val (.int (3 : Int32)), .val (.int (2 : Int32)), .val (.long q2), .second] [(.long (9223372036854775807 : Int64)), (.long q2)])) _
    refine XS.lcmp X0.here hx rfl (hb hby own_d_oc3_27) rfl ?_
    exact k)
  obtain ⟨v15, hv15⟩ : ∃ z : Int32, z = (if q2 = (9223372036854775807 : Int64) then (v10 + (1 : Int32)) else v10) := ⟨_, rfl⟩
  have way16 : ∀ t, Steps p.tables e below (s₁.setTop (mkF m 34 #[.val (.ref a1), .val (.int v15), .val (.ref a1), .val (.int (3 : Int32)), .val (.int (2 : Int32)), .val (.long q2), .second] [])) t → Steps p.tables e below (s₁.setTop (entryFrame m #[(.ref a1)] 7)) t := fun t k => way13 t (by
    by_cases hj14 : q2 = (9223372036854775807 : Int64)
    ·
      show Steps p.tables e below (s₁.setTop (mkF m 28 #[.val (.ref a1), .val (.int v10), .val (.ref a1), .val (.int (3 : Int32)), .val (.int (2 : Int32)), .val (.long q2), .second] [(.int (lcmpW q2 (9223372036854775807 : Int64)))])) _
      refine XS.ifNo X0.here hx rfl (hb hby own_d_oc3_28) rfl ((if0 _ _).trans (teq ((lw_eq _ _).mpr hj14)).2) ?_
      show Steps p.tables e below (s₁.setTop (mkF m 31 #[.val (.ref a1), .val (.int v10), .val (.ref a1), .val (.int (3 : Int32)), .val (.int (2 : Int32)), .val (.long q2), .second] [])) _
      refine XS.iinc X0.here hx rfl (hb hby own_d_oc3_31) rfl (l' := #[.val (.ref a1), .val (.int (v10 + (1 : Int32))), .val (.ref a1), .val (.int (3 : Int32)), .val (.int (2 : Int32)), .val (.long q2), .second]) rfl ?_
      simp only [hv15, if_pos hj14] at k
      exact k
    ·
      show Steps p.tables e below (s₁.setTop (mkF m 28 #[.val (.ref a1), .val (.int v10), .val (.ref a1), .val (.int (3 : Int32)), .val (.int (2 : Int32)), .val (.long q2), .second] [(.int (lcmpW q2 (9223372036854775807 : Int64)))])) _
      refine XS.ifYes X0.here hx rfl (pc0 := 28) (pc' := 34) rfl (hb hby own_d_oc3_28) rfl ((if0 _ _).trans (feq (fun q => hj14 ((lw_eq _ _).mp q))).2) (by decide) (by decide) ?_
      simp only [hv15, if_neg hj14] at k
      exact k)
  have way17 : ∀ t, Steps p.tables e below (s₁.setTop (mkF m 41 #[.val (.ref a1), .val (.int v15), .val (.ref a1), .val (.int (3 : Int32)), .val (.int (3 : Int32)), .val (.long q2), .second] [(.int v15)])) t → Steps p.tables e below (s₁.setTop (entryFrame m #[(.ref a1)] 7)) t := fun t k => way16 t (by
    show Steps p.tables e below (s₁.setTop (mkF m 34 #[.val (.ref a1), .val (.int v15), .val (.ref a1), .val (.int (3 : Int32)), .val (.int (2 : Int32)), .val (.long q2), .second] [])) _
    refine XS.iinc X0.here hx rfl (hb hby own_d_oc3_34) rfl (l' := #[.val (.ref a1), .val (.int v15), .val (.ref a1), .val (.int (3 : Int32)), .val (.int (3 : Int32)), .val (.long q2), .second]) rfl ?_
    show Steps p.tables e below (s₁.setTop (mkF m 37 #[.val (.ref a1), .val (.int v15), .val (.ref a1), .val (.int (3 : Int32)), .val (.int (3 : Int32)), .val (.long q2), .second] [])) _
    refine XS.goto X0.here hx rfl (pc0 := 37) (pc' := 10) rfl (hb hby own_d_oc3_37) (by decide) (by decide) ?_
    show Steps p.tables e below (s₁.setTop (mkF m 10 #[.val (.ref a1), .val (.int v15), .val (.ref a1), .val (.int (3 : Int32)), .val (.int (3 : Int32)), .val (.long q2), .second] [])) _
    refine XS.iload X0.here hx rfl (hb hby own_d_oc3_10) rfl ?_
    show Steps p.tables e below (s₁.setTop (mkF m 12 #[.val (.ref a1), .val (.int v15), .val (.ref a1), .val (.int (3 : Int32)), .val (.int (3 : Int32)), .val (.long q2), .second] [(.int (3 : Int32))])) _
    refine XS.iloadN X0.here hx rfl (hb hby own_d_oc3_12) rfl ?_
    show Steps p.tables e below (s₁.setTop (mkF m 13 #[.val (.ref a1), .val (.int v15), .val (.ref a1), .val (.int (3 : Int32)), .val (.int (3 : Int32)), .val (.long q2), .second] [(.int (3 : Int32)), (.int (3 : Int32))])) _
    refine XS.icmpYes X0.here hx rfl (pc0 := 13) (pc' := 40) rfl (hb hby own_d_oc3_13) rfl (flt (by decide)).2.1 (by decide) (by decide) ?_
    show Steps p.tables e below (s₁.setTop (mkF m 40 #[.val (.ref a1), .val (.int v15), .val (.ref a1), .val (.int (3 : Int32)), .val (.int (3 : Int32)), .val (.long q2), .second] [])) _
    refine XS.iloadN X0.here hx rfl (hb hby own_d_oc3_40) rfl ?_
    exact k)
  obtain ⟨fs, hr, hrun, hended, hW, hsame⟩ := X0.leave (v := some (.int v15)) (fun h => by rw [Bd.returns] at h; cases h)
  refine ⟨_, _, way17 _ ?_, hrun, hended, _, _, rfl, ?_, ⟨_, rfl⟩, hW, hsame.mono (by decide) (by decide)⟩
  · show Steps p.tables e below (s₁.setTop (mkF m 41 #[.val (.ref a1), .val (.int v15), .val (.ref a1), .val (.int (3 : Int32)), .val (.int (3 : Int32)), .val (.long q2), .second] [(.int v15)])) _
    exact retI X0 hx Bd.returns (hb hby own_d_oc3_41) hr
  · show Q_oc3 Z a1 kk q0 q1 q2 h0 n0 _ s₁.heap _
    rw [e0]
    exact ⟨by subst hv5; subst hv10; subst hv15; rfl, N0, rfl⟩
theorem own_d_oc4_0 : decode prog_70_method_2_code 0 = .ok (.iconst 0, 1) := by decide +kernel
theorem own_d_oc4_1 : decode prog_70_method_2_code 1 = .ok (.istore_n 1, 1) := by decide +kernel
theorem own_d_oc4_2 : decode prog_70_method_2_code 2 = .ok (.aload_n 0, 1) := by decide +kernel
theorem own_d_oc4_3 : decode prog_70_method_2_code 3 = .ok (.astore_n 2, 1) := by decide +kernel
theorem own_d_oc4_4 : decode prog_70_method_2_code 4 = .ok (.aload_n 2, 1) := by decide +kernel
theorem own_d_oc4_5 : decode prog_70_method_2_code 5 = .ok (.arraylength, 1) := by decide +kernel
theorem own_d_oc4_6 : decode prog_70_method_2_code 6 = .ok (.istore_n 3, 1) := by decide +kernel
theorem own_d_oc4_7 : decode prog_70_method_2_code 7 = .ok (.iconst 0, 1) := by decide +kernel
theorem own_d_oc4_8 : decode prog_70_method_2_code 8 = .ok (.istore 4, 2) := by decide +kernel
theorem own_d_oc4_10 : decode prog_70_method_2_code 10 = .ok (.iload 4, 2) := by decide +kernel
theorem own_d_oc4_12 : decode prog_70_method_2_code 12 = .ok (.iload_n 3, 1) := by decide +kernel
theorem own_d_oc4_13 : decode prog_70_method_2_code 13 = .ok (.if_icmp .ge 27, 3) := by decide +kernel
theorem own_d_oc4_16 : decode prog_70_method_2_code 16 = .ok (.aload_n 2, 1) := by decide +kernel
theorem own_d_oc4_17 : decode prog_70_method_2_code 17 = .ok (.iload 4, 2) := by decide +kernel
theorem own_d_oc4_19 : decode prog_70_method_2_code 19 = .ok (.laload, 1) := by decide +kernel
theorem own_d_oc4_20 : decode prog_70_method_2_code 20 = .ok (.lstore 5, 2) := by decide +kernel
theorem own_d_oc4_22 : decode prog_70_method_2_code 22 = .ok (.lload 5, 2) := by decide +kernel
theorem own_d_oc4_24 : decode prog_70_method_2_code 24 = .ok (.ldc2_w 72, 3) := by decide +kernel
theorem own_d_oc4_27 : decode prog_70_method_2_code 27 = .ok (.lcmp, 1) := by decide +kernel
theorem own_d_oc4_28 : decode prog_70_method_2_code 28 = .ok (.ifCond .ne 6, 3) := by decide +kernel
theorem own_d_oc4_31 : decode prog_70_method_2_code 31 = .ok (.iinc 1 1, 3) := by decide +kernel
theorem own_d_oc4_34 : decode prog_70_method_2_code 34 = .ok (.iinc 4 1, 3) := by decide +kernel
theorem own_d_oc4_37 : decode prog_70_method_2_code 37 = .ok (.goto (-27), 3) := by decide +kernel
theorem own_d_oc4_40 : decode prog_70_method_2_code 40 = .ok (.iload_n 1, 1) := by decide +kernel
theorem own_d_oc4_41 : decode prog_70_method_2_code 41 = .ok (.ireturn, 1) := by decide +kernel
theorem own_ef_oc4 (m : MethodId) (a1 : Addr) : entryFrame m #[(.ref a1)] 7 = mkF m 0 #[.val (.ref a1), .unset, .unset, .unset, .unset, .unset, .unset] [] := by first | (simp [entryFrame, mkF, argsToLocals, Value.category]; done) | rfl
def Q_oc4 (Z : State) (a1 : Addr) (kk : ClassId) (q0 : Int64) (q1 : Int64) (q2 : Int64) (q3 : Int64) (h0 : Heap) (n0 : Nat) (v : Option Value) (h : Heap) (L : List Loc) : Prop := v = some (.int (own_st q3 (own_st q2 (own_st q1 (own_st q0 (0 : Int32)))))) ∧ Fr n0 L ∧ h = h0
set_option maxRecDepth 65536 in
set_option maxHeartbeats 40000000 in
theorem rm_oc4 (l : Launch) (Z : State) (a0 : Array Value) (hw : ∀ d ∈ tables_1, d.before a0 Z = true) (ws : List Jvm.Cond) (a1 : Addr) (kk : ClassId) (q0 : Int64) (q1 : Int64) (q2 : Int64) (q3 : Int64) (h0 : Heap) (n0 : Nat) (Z0 : n0 ≤ h0.size) (fV_a1 : Arv Z h0 a1 kk .long (4 : Int32) [(.long q0), (.long q1), (.long q2), (.long q3)] (.long (0 : Int64))) :
    MetFree l (⟨"com/example/netloom/netloom/core/reachability/OmegaSets", "omegaCount", "([J)I"⟩ : MethodName) (head1 (Jvm.Cond.code (⟨"com/example/netloom/netloom/core/reachability/OmegaSets", "omegaCount", "([J)I"⟩ : MethodName) prog_70_method_2_code 7 (some .int) :: ws) ({ frames := 0, cells := 0, slots := 0, locals := 0 } : Room)) (fun a U => a = #[(.ref a1)] ∧ Z.Warmed39 U.vm ∧ U.heap = h0) (fun _ _ _ _ _ => True) (fun _ U o U' => ∃ v L, o = .returned v ∧ Q_oc4 Z a1 kk q0 q1 q2 q3 h0 n0 v U'.heap L ∧ FrameEnd U o U' L ({ frames := 0, cells := 0, slots := 0, locals := 0 } : Room).cells ({ frames := 0, cells := 0, slots := 0, locals := 0 } : Room).slots) := by
  refine MetFree.of_bodySF (plainFor_of_name own_pn1) hisR ?_
  intro p e s m args below meth c s₁ Bd hml0 hP hK
  obtain ⟨rfl, hZ, hh⟩ := hP
  have hx := Bd.exec
  have hby := Bd.bytes
  have hml : c.maxLocals = 7 := hml0
  have hown : s.vm.findClass "com/example/netloom/netloom/core/reachability/OmegaSets" = some m.cls := findClass_of_methodNamed Bd.named
  have hnm := (name_of_methodNamed Bd.named Bd.method).1
  have X0 : Stand p l e ({ frames := 0, cells := 0, slots := 0, locals := 0 } : Room) s m #[(.ref a1)] below meth c s₁ [] 0 0 := Stand.of_body Bd
  have e0 : s₁.heap = h0 := by rw [← hh, Bd.state]; rfl
  have N0 := Fr.nil n0
  have pre0 : ∀ t, Steps p.tables e below (s₁.setTop (mkF m 0 #[.val (.ref a1), .unset, .unset, .unset, .unset, .unset, .unset] [])) t → Steps p.tables e below (s₁.setTop (entryFrame m #[(.ref a1)] 7)) t := fun t k => castTop (own_ef_oc4 m a1) k
  obtain ⟨cl1, Ar1, -, S1, M1, -, -⟩ := id fV_a1
  obtain ⟨cl2, Ar2, aq2, S2, M2, H2, G2⟩ := id fV_a1
  have hin2 : ¬ ((0 : Int32) < 0 ∨ cl2.slots.size ≤ ((0 : Int32)).toNatClampNeg) := by rw [S2]; decide
  have hat2 : cl2.slots[((0 : Int32)).toNatClampNeg]? = some (.long q0) := H2 0 (by rw [S2]; decide)
  have way3 : ∀ t, Steps p.tables e below (s₁.setTop (mkF m 28 #[.val (.ref a1), .val (.int (0 : Int32)), .val (.ref a1), .val (.int (4 : Int32)), .val (.int (0 : Int32)), .val (.long q0), .second] [(.int (lcmpW q0 (9223372036854775807 : Int64)))])) t → Steps p.tables e below (s₁.setTop (entryFrame m #[(.ref a1)] 7)) t := fun t k => pre0 t (by
    show Steps p.tables e below (s₁.setTop (mkF m 0 #[.val (.ref a1), .unset, .unset, .unset, .unset, .unset, .unset] [])) _
    refine XS.iconst X0.here hx rfl (hb hby own_d_oc4_0) ?_
    show Steps p.tables e below (s₁.setTop (mkF m 1 #[.val (.ref a1), .unset, .unset, .unset, .unset, .unset, .unset] [(.int (0 : Int32))])) _
    refine XS.istoreN X0.here hx rfl (hb hby own_d_oc4_1) rfl (l' := #[.val (.ref a1), .val (.int (0 : Int32)), .unset, .unset, .unset, .unset, .unset]) rfl ?_
    show Steps p.tables e below (s₁.setTop (mkF m 2 #[.val (.ref a1), .val (.int (0 : Int32)), .unset, .unset, .unset, .unset, .unset] [])) _
    refine XS.aloadN X0.here hx rfl (hb hby own_d_oc4_2) rfl rfl ?_
    show Steps p.tables e below (s₁.setTop (mkF m 3 #[.val (.ref a1), .val (.int (0 : Int32)), .unset, .unset, .unset, .unset, .unset] [(.ref a1)])) _
    refine XS.astoreN X0.here hx rfl (hb hby own_d_oc4_3) rfl rfl (l' := #[.val (.ref a1), .val (.int (0 : Int32)), .val (.ref a1), .unset, .unset, .unset, .unset]) rfl ?_
    show Steps p.tables e below (s₁.setTop (mkF m 4 #[.val (.ref a1), .val (.int (0 : Int32)), .val (.ref a1), .unset, .unset, .unset, .unset] [])) _
    refine XS.aloadN X0.here hx rfl (hb hby own_d_oc4_4) rfl rfl ?_
    show Steps p.tables e below (s₁.setTop (mkF m 5 #[.val (.ref a1), .val (.int (0 : Int32)), .val (.ref a1), .unset, .unset, .unset, .unset] [(.ref a1)])) _
    refine X0.arraylength hx (by rw [e0]; exact Ar1.1) (State.isArrayOf_alike hZ.alike Ar1.2.1) (g := (mkF m 5 #[.val (.ref a1), .val (.int (0 : Int32)), .val (.ref a1), .unset, .unset, .unset, .unset] [(.ref a1)])) rfl rfl (hb hby own_d_oc4_5) _ ?_
    rw [len_of S1 M1]
    show Steps p.tables e below (s₁.setTop (mkF m 6 #[.val (.ref a1), .val (.int (0 : Int32)), .val (.ref a1), .unset, .unset, .unset, .unset] [(.int (4 : Int32))])) _
    refine XS.istoreN X0.here hx rfl (hb hby own_d_oc4_6) rfl (l' := #[.val (.ref a1), .val (.int (0 : Int32)), .val (.ref a1), .val (.int (4 : Int32)), .unset, .unset, .unset]) rfl ?_
    show Steps p.tables e below (s₁.setTop (mkF m 7 #[.val (.ref a1), .val (.int (0 : Int32)), .val (.ref a1), .val (.int (4 : Int32)), .unset, .unset, .unset] [])) _
    refine XS.iconst X0.here hx rfl (hb hby own_d_oc4_7) ?_
    show Steps p.tables e below (s₁.setTop (mkF m 8 #[.val (.ref a1), .val (.int (0 : Int32)), .val (.ref a1), .val (.int (4 : Int32)), .unset, .unset, .unset] [(.int (0 : Int32))])) _
    refine XS.istore X0.here hx rfl (hb hby own_d_oc4_8) rfl (l' := #[.val (.ref a1), .val (.int (0 : Int32)), .val (.ref a1), .val (.int (4 : Int32)), .val (.int (0 : Int32)), .unset, .unset]) rfl ?_
    show Steps p.tables e below (s₁.setTop (mkF m 10 #[.val (.ref a1), .val (.int (0 : Int32)), .val (.ref a1), .val (.int (4 : Int32)), .val (.int (0 : Int32)), .unset, .unset] [])) _
    refine XS.iload X0.here hx rfl (hb hby own_d_oc4_10) rfl ?_
    show Steps p.tables e below (s₁.setTop (mkF m 12 #[.val (.ref a1), .val (.int (0 : Int32)), .val (.ref a1), .val (.int (4 : Int32)), .val (.int (0 : Int32)), .unset, .unset] [(.int (0 : Int32))])) _
    refine XS.iloadN X0.here hx rfl (hb hby own_d_oc4_12) rfl ?_
    show Steps p.tables e below (s₁.setTop (mkF m 13 #[.val (.ref a1), .val (.int (0 : Int32)), .val (.ref a1), .val (.int (4 : Int32)), .val (.int (0 : Int32)), .unset, .unset] [(.int (4 : Int32)), (.int (0 : Int32))])) _
    refine XS.icmpNo X0.here hx rfl (hb hby own_d_oc4_13) rfl (tlt (by decide)).2.1 ?_
    show Steps p.tables e below (s₁.setTop (mkF m 16 #[.val (.ref a1), .val (.int (0 : Int32)), .val (.ref a1), .val (.int (4 : Int32)), .val (.int (0 : Int32)), .unset, .unset] [])) _
    refine XS.aloadN X0.here hx rfl (hb hby own_d_oc4_16) rfl rfl ?_
    show Steps p.tables e below (s₁.setTop (mkF m 17 #[.val (.ref a1), .val (.int (0 : Int32)), .val (.ref a1), .val (.int (4 : Int32)), .val (.int (0 : Int32)), .unset, .unset] [(.ref a1)])) _
    refine XS.iload X0.here hx rfl (hb hby own_d_oc4_17) rfl ?_
    show Steps p.tables e below (s₁.setTop (mkF m 19 #[.val (.ref a1), .val (.int (0 : Int32)), .val (.ref a1), .val (.int (4 : Int32)), .val (.int (0 : Int32)), .unset, .unset] [(.int (0 : Int32)), (.ref a1)])) _
    refine X0.laload hx (j := (0 : Int32)) (v := (.long q0)) (by rw [e0]; exact Ar2.1) (State.isArrayOf_alike hZ.alike Ar2.2.1) Ar2.2.2 hin2 hat2 (g := (mkF m 19 #[.val (.ref a1), .val (.int (0 : Int32)), .val (.ref a1), .val (.int (4 : Int32)), .val (.int (0 : Int32)), .unset, .unset] [(.int (0 : Int32)), (.ref a1)])) rfl rfl (hb hby own_d_oc4_19) _ ?_
    show Steps p.tables e below (s₁.setTop (mkF m 20 #[.val (.ref a1), .val (.int (0 : Int32)), .val (.ref a1), .val (.int (4 : Int32)), .val (.int (0 : Int32)), .unset, .unset] [(.long q0)])) _
    refine XS.lstore X0.here hx rfl (hb hby own_d_oc4_20) rfl (l' := #[.val (.ref a1), .val (.int (0 : Int32)), .val (.ref a1), .val (.int (4 : Int32)), .val (.int (0 : Int32)), .val (.long q0), .second]) rfl ?_
    show Steps p.tables e below (s₁.setTop (mkF m 22 #[.val (.ref a1), .val (.int (0 : Int32)), .val (.ref a1), .val (.int (4 : Int32)), .val (.int (0 : Int32)), .val (.long q0), .second] [])) _
    refine XS.lload X0.here hx rfl (hb hby own_d_oc4_22) rfl ?_
    show Steps p.tables e below (s₁.setTop (mkF m 24 #[.val (.ref a1), .val (.int (0 : Int32)), .val (.ref a1), .val (.int (4 : Int32)), .val (.int (0 : Int32)), .val (.long q0), .second] [(.long q0)])) _
    refine X0.ldc2Long hx hown (mvT hZ (hw _ (List.mem_of_getElem? (i := 13) rfl))) (g := (mkF m 24 #[.val (.ref a1), .val (.int (0 : Int32)), .val (.ref a1), .val (.int (4 : Int32)), .val (.int (0 : Int32)), .val (.long q0), .second] [(.long q0)])) rfl (hb hby own_d_oc4_24) _ ?_
    show Steps p.tables e below (s₁.setTop (mkF m 27 #[.val (.ref a1), .val (.int (0 : Int32)), .val (.ref a1), .val (.int (4 : Int32)), .val (.int (0 : Int32)), .val (.long q0), .second] [(.long (9223372036854775807 : Int64)), (.long q0)])) _
    refine XS.lcmp X0.here hx rfl (hb hby own_d_oc4_27) rfl ?_
    exact k)
  obtain ⟨v5, hv5⟩ : ∃ z : Int32, z = (if q0 = (9223372036854775807 : Int64) then (1 : Int32) else (0 : Int32)) := ⟨_, rfl⟩
  have way6 : ∀ t, Steps p.tables e below (s₁.setTop (mkF m 34 #[.val (.ref a1), .val (.int v5), .val (.ref a1), .val (.int (4 : Int32)), .val (.int (0 : Int32)), .val (.long q0), .second] [])) t → Steps p.tables e below (s₁.setTop (entryFrame m #[(.ref a1)] 7)) t := fun t k => way3 t (by
    by_cases hj4 : q0 = (9223372036854775807 : Int64)
    ·
      show Steps p.tables e below (s₁.setTop (mkF m 28 #[.val (.ref a1), .val (.int (0 : Int32)), .val (.ref a1), .val (.int (4 : Int32)), .val (.int (0 : Int32)), .val (.long q0), .second] [(.int (lcmpW q0 (9223372036854775807 : Int64)))])) _
      refine XS.ifNo X0.here hx rfl (hb hby own_d_oc4_28) rfl ((if0 _ _).trans (teq ((lw_eq _ _).mpr hj4)).2) ?_
      show Steps p.tables e below (s₁.setTop (mkF m 31 #[.val (.ref a1), .val (.int (0 : Int32)), .val (.ref a1), .val (.int (4 : Int32)), .val (.int (0 : Int32)), .val (.long q0), .second] [])) _
      refine XS.iinc X0.here hx rfl (hb hby own_d_oc4_31) rfl (l' := #[.val (.ref a1), .val (.int (1 : Int32)), .val (.ref a1), .val (.int (4 : Int32)), .val (.int (0 : Int32)), .val (.long q0), .second]) rfl ?_
      simp only [hv5, if_pos hj4] at k
      exact k
    ·
      show Steps p.tables e below (s₁.setTop (mkF m 28 #[.val (.ref a1), .val (.int (0 : Int32)), .val (.ref a1), .val (.int (4 : Int32)), .val (.int (0 : Int32)), .val (.long q0), .second] [(.int (lcmpW q0 (9223372036854775807 : Int64)))])) _
      refine XS.ifYes X0.here hx rfl (pc0 := 28) (pc' := 34) rfl (hb hby own_d_oc4_28) rfl ((if0 _ _).trans (feq (fun q => hj4 ((lw_eq _ _).mp q))).2) (by decide) (by decide) ?_
      simp only [hv5, if_neg hj4] at k
      exact k)
  obtain ⟨cl7, Ar7, aq7, S7, M7, H7, G7⟩ := id fV_a1
  have hin7 : ¬ ((1 : Int32) < 0 ∨ cl7.slots.size ≤ ((1 : Int32)).toNatClampNeg) := by rw [S7]; decide
  have hat7 : cl7.slots[((1 : Int32)).toNatClampNeg]? = some (.long q1) := H7 1 (by rw [S7]; decide)
  have way8 : ∀ t, Steps p.tables e below (s₁.setTop (mkF m 28 #[.val (.ref a1), .val (.int v5), .val (.ref a1), .val (.int (4 : Int32)), .val (.int (1 : Int32)), .val (.long q1), .second] [(.int (lcmpW q1 (9223372036854775807 : Int64)))])) t → Steps p.tables e below (s₁.setTop (entryFrame m #[(.ref a1)] 7)) t := fun t k => way6 t (by
    show Steps p.tables e below (s₁.setTop (mkF m 34 #[.val (.ref a1), .val (.int v5), .val (.ref a1), .val (.int (4 : Int32)), .val (.int (0 : Int32)), .val (.long q0), .second] [])) _
    refine XS.iinc X0.here hx rfl (hb hby own_d_oc4_34) rfl (l' := #[.val (.ref a1), .val (.int v5), .val (.ref a1), .val (.int (4 : Int32)), .val (.int (1 : Int32)), .val (.long q0), .second]) rfl ?_
    show Steps p.tables e below (s₁.setTop (mkF m 37 #[.val (.ref a1), .val (.int v5), .val (.ref a1), .val (.int (4 : Int32)), .val (.int (1 : Int32)), .val (.long q0), .second] [])) _
    refine XS.goto X0.here hx rfl (pc0 := 37) (pc' := 10) rfl (hb hby own_d_oc4_37) (by decide) (by decide) ?_
    show Steps p.tables e below (s₁.setTop (mkF m 10 #[.val (.ref a1), .val (.int v5), .val (.ref a1), .val (.int (4 : Int32)), .val (.int (1 : Int32)), .val (.long q0), .second] [])) _
    refine XS.iload X0.here hx rfl (hb hby own_d_oc4_10) rfl ?_
    show Steps p.tables e below (s₁.setTop (mkF m 12 #[.val (.ref a1), .val (.int v5), .val (.ref a1), .val (.int (4 : Int32)), .val (.int (1 : Int32)), .val (.long q0), .second] [(.int (1 : Int32))])) _
    refine XS.iloadN X0.here hx rfl (hb hby own_d_oc4_12) rfl ?_
    show Steps p.tables e below (s₁.setTop (mkF m 13 #[.val (.ref a1), .val (.int v5), .val (.ref a1), .val (.int (4 : Int32)), .val (.int (1 : Int32)), .val (.long q0), .second] [(.int (4 : Int32)), (.int (1 : Int32))])) _
    refine XS.icmpNo X0.here hx rfl (hb hby own_d_oc4_13) rfl (tlt (by decide)).2.1 ?_
    show Steps p.tables e below (s₁.setTop (mkF m 16 #[.val (.ref a1), .val (.int v5), .val (.ref a1), .val (.int (4 : Int32)), .val (.int (1 : Int32)), .val (.long q0), .second] [])) _
    refine XS.aloadN X0.here hx rfl (hb hby own_d_oc4_16) rfl rfl ?_
    show Steps p.tables e below (s₁.setTop (mkF m 17 #[.val (.ref a1), .val (.int v5), .val (.ref a1), .val (.int (4 : Int32)), .val (.int (1 : Int32)), .val (.long q0), .second] [(.ref a1)])) _
    refine XS.iload X0.here hx rfl (hb hby own_d_oc4_17) rfl ?_
    show Steps p.tables e below (s₁.setTop (mkF m 19 #[.val (.ref a1), .val (.int v5), .val (.ref a1), .val (.int (4 : Int32)), .val (.int (1 : Int32)), .val (.long q0), .second] [(.int (1 : Int32)), (.ref a1)])) _
    refine X0.laload hx (j := (1 : Int32)) (v := (.long q1)) (by rw [e0]; exact Ar7.1) (State.isArrayOf_alike hZ.alike Ar7.2.1) Ar7.2.2 hin7 hat7 (g := (mkF m 19 #[.val (.ref a1), .val (.int v5), .val (.ref a1), .val (.int (4 : Int32)), .val (.int (1 : Int32)), .val (.long q0), .second] [(.int (1 : Int32)), (.ref a1)])) rfl rfl (hb hby own_d_oc4_19) _ ?_
    show Steps p.tables e below (s₁.setTop (mkF m 20 #[.val (.ref a1), .val (.int v5), .val (.ref a1), .val (.int (4 : Int32)), .val (.int (1 : Int32)), .val (.long q0), .second] [(.long q1)])) _
    refine XS.lstore X0.here hx rfl (hb hby own_d_oc4_20) rfl (l' := #[.val (.ref a1), .val (.int v5), .val (.ref a1), .val (.int (4 : Int32)), .val (.int (1 : Int32)), .val (.long q1), .second]) rfl ?_
    show Steps p.tables e below (s₁.setTop (mkF m 22 #[.val (.ref a1), .val (.int v5), .val (.ref a1), .val (.int (4 : Int32)), .val (.int (1 : Int32)), .val (.long q1), .second] [])) _
    refine XS.lload X0.here hx rfl (hb hby own_d_oc4_22) rfl ?_
    show Steps p.tables e below (s₁.setTop (mkF m 24 #[.val (.ref a1), .val (.int v5), .val (.ref a1), .val (.int (4 : Int32)), .val (.int (1 : Int32)), .val (.long q1), .second] [(.long q1)])) _
    refine X0.ldc2Long hx hown (mvT hZ (hw _ (List.mem_of_getElem? (i := 13) rfl))) (g := (mkF m 24 #[.val (.ref a1), .val (.int v5), .val (.ref a1), .val (.int (4 : Int32)), .val (.int (1 : Int32)), .val (.long q1), .second] [(.long q1)])) rfl (hb hby own_d_oc4_24) _ ?_
    show Steps p.tables e below (s₁.setTop (mkF m 27 #[.val (.ref a1), .val (.int v5), .val (.ref a1), .val (.int (4 : Int32)), .val (.int (1 : Int32)), .val (.long q1), .second] [(.long (9223372036854775807 : Int64)), (.long q1)])) _
    refine XS.lcmp X0.here hx rfl (hb hby own_d_oc4_27) rfl ?_
    exact k)
  obtain ⟨v10, hv10⟩ : ∃ z : Int32, z = (if q1 = (9223372036854775807 : Int64) then (v5 + (1 : Int32)) else v5) := ⟨_, rfl⟩
  have way11 : ∀ t, Steps p.tables e below (s₁.setTop (mkF m 34 #[.val (.ref a1), .val (.int v10), .val (.ref a1), .val (.int (4 : Int32)), .val (.int (1 : Int32)), .val (.long q1), .second] [])) t → Steps p.tables e below (s₁.setTop (entryFrame m #[(.ref a1)] 7)) t := fun t k => way8 t (by
    by_cases hj9 : q1 = (9223372036854775807 : Int64)
    ·
      show Steps p.tables e below (s₁.setTop (mkF m 28 #[.val (.ref a1), .val (.int v5), .val (.ref a1), .val (.int (4 : Int32)), .val (.int (1 : Int32)), .val (.long q1), .second] [(.int (lcmpW q1 (9223372036854775807 : Int64)))])) _
      refine XS.ifNo X0.here hx rfl (hb hby own_d_oc4_28) rfl ((if0 _ _).trans (teq ((lw_eq _ _).mpr hj9)).2) ?_
      show Steps p.tables e below (s₁.setTop (mkF m 31 #[.val (.ref a1), .val (.int v5), .val (.ref a1), .val (.int (4 : Int32)), .val (.int (1 : Int32)), .val (.long q1), .second] [])) _
      refine XS.iinc X0.here hx rfl (hb hby own_d_oc4_31) rfl (l' := #[.val (.ref a1), .val (.int (v5 + (1 : Int32))), .val (.ref a1), .val (.int (4 : Int32)), .val (.int (1 : Int32)), .val (.long q1), .second]) rfl ?_
      simp only [hv10, if_pos hj9] at k
      exact k
    ·
      show Steps p.tables e below (s₁.setTop (mkF m 28 #[.val (.ref a1), .val (.int v5), .val (.ref a1), .val (.int (4 : Int32)), .val (.int (1 : Int32)), .val (.long q1), .second] [(.int (lcmpW q1 (9223372036854775807 : Int64)))])) _
      refine XS.ifYes X0.here hx rfl (pc0 := 28) (pc' := 34) rfl (hb hby own_d_oc4_28) rfl ((if0 _ _).trans (feq (fun q => hj9 ((lw_eq _ _).mp q))).2) (by decide) (by decide) ?_
      simp only [hv10, if_neg hj9] at k
      exact k)
  obtain ⟨cl12, Ar12, aq12, S12, M12, H12, G12⟩ := id fV_a1
  have hin12 : ¬ ((2 : Int32) < 0 ∨ cl12.slots.size ≤ ((2 : Int32)).toNatClampNeg) := by rw [S12]; decide
  have hat12 : cl12.slots[((2 : Int32)).toNatClampNeg]? = some (.long q2) := H12 2 (by rw [S12]; decide)
  have way13 : ∀ t, Steps p.tables e below (s₁.setTop (mkF m 28 #[.val (.ref a1), .val (.int v10), .val (.ref a1), .val (.int (4 : Int32)), .val (.int (2 : Int32)), .val (.long q2), .second] [(.int (lcmpW q2 (9223372036854775807 : Int64)))])) t → Steps p.tables e below (s₁.setTop (entryFrame m #[(.ref a1)] 7)) t := fun t k => way11 t (by
    show Steps p.tables e below (s₁.setTop (mkF m 34 #[.val (.ref a1), .val (.int v10), .val (.ref a1), .val (.int (4 : Int32)), .val (.int (1 : Int32)), .val (.long q1), .second] [])) _
    refine XS.iinc X0.here hx rfl (hb hby own_d_oc4_34) rfl (l' := #[.val (.ref a1), .val (.int v10), .val (.ref a1), .val (.int (4 : Int32)), .val (.int (2 : Int32)), .val (.long q1), .second]) rfl ?_
    show Steps p.tables e below (s₁.setTop (mkF m 37 #[.val (.ref a1), .val (.int v10), .val (.ref a1), .val (.int (4 : Int32)), .val (.int (2 : Int32)), .val (.long q1), .second] [])) _
    refine XS.goto X0.here hx rfl (pc0 := 37) (pc' := 10) rfl (hb hby own_d_oc4_37) (by decide) (by decide) ?_
    show Steps p.tables e below (s₁.setTop (mkF m 10 #[.val (.ref a1), .val (.int v10), .val (.ref a1), .val (.int (4 : Int32)), .val (.int (2 : Int32)), .val (.long q1), .second] [])) _
    refine XS.iload X0.here hx rfl (hb hby own_d_oc4_10) rfl ?_
    show Steps p.tables e below (s₁.setTop (mkF m 12 #[.val (.ref a1), .val (.int v10), .val (.ref a1), .val (.int (4 : Int32)), .val (.int (2 : Int32)), .val (.long q1), .second] [(.int (2 : Int32))])) _
    refine XS.iloadN X0.here hx rfl (hb hby own_d_oc4_12) rfl ?_
    show Steps p.tables e below (s₁.setTop (mkF m 13 #[.val (.ref a1), .val (.int v10), .val (.ref a1), .val (.int (4 : Int32)), .val (.int (2 : Int32)), .val (.long q1), .second] [(.int (4 : Int32)), (.int (2 : Int32))])) _
    refine XS.icmpNo X0.here hx rfl (hb hby own_d_oc4_13) rfl (tlt (by decide)).2.1 ?_
    show Steps p.tables e below (s₁.setTop (mkF m 16 #[.val (.ref a1), .val (.int v10), .val (.ref a1), .val (.int (4 : Int32)), .val (.int (2 : Int32)), .val (.long q1), .second] [])) _
    refine XS.aloadN X0.here hx rfl (hb hby own_d_oc4_16) rfl rfl ?_
    show Steps p.tables e below (s₁.setTop (mkF m 17 #[.val (.ref a1), .val (.int v10), .val (.ref a1), .val (.int (4 : Int32)), .val (.int (2 : Int32)), .val (.long q1), .second] [(.ref a1)])) _
    refine XS.iload X0.here hx rfl (hb hby own_d_oc4_17) rfl ?_
    show Steps p.tables e below (s₁.setTop (mkF m 19 #[.val (.ref a1), .val (.int v10), .val (.ref a1), .val (.int (4 : Int32)), .val (.int (2 : Int32)), .val (.long q1), .second] [(.int (2 : Int32)), (.ref a1)])) _
    refine X0.laload hx (j := (2 : Int32)) (v := (.long q2)) (by rw [e0]; exact Ar12.1) (State.isArrayOf_alike hZ.alike Ar12.2.1) Ar12.2.2 hin12 hat12 (g := (mkF m 19 #[.val (.ref a1), .val (.int v10), .val (.ref a1), .val (.int (4 : Int32)), .val (.int (2 : Int32)), .val (.long q1), .second] [(.int (2 : Int32)), (.ref a1)])) rfl rfl (hb hby own_d_oc4_19) _ ?_
    show Steps p.tables e below (s₁.setTop (mkF m 20 #[.val (.ref a1), .val (.int v10), .val (.ref a1), .val (.int (4 : Int32)), .val (.int (2 : Int32)), .val (.long q1), .second] [(.long q2)])) _
    refine XS.lstore X0.here hx rfl (hb hby own_d_oc4_20) rfl (l' := #[.val (.ref a1), .val (.int v10), .val (.ref a1), .val (.int (4 : Int32)), .val (.int (2 : Int32)), .val (.long q2), .second]) rfl ?_
    show Steps p.tables e below (s₁.setTop (mkF m 22 #[.val (.ref a1), .val (.int v10), .val (.ref a1), .val (.int (4 : Int32)), .val (.int (2 : Int32)), .val (.long q2), .second] [])) _
    refine XS.lload X0.here hx rfl (hb hby own_d_oc4_22) rfl ?_
    show Steps p.tables e below (s₁.setTop (mkF m 24 #[.val (.ref a1), .val (.int v10), .val (.ref a1), .val (.int (4 : Int32)), .val (.int (2 : Int32)), .val (.long q2), .second] [(.long q2)])) _
    refine X0.ldc2Long hx hown (mvT hZ (hw _ (List.mem_of_getElem? (i := 13) rfl))) (g := (mkF m 24 #[.val (.ref a1), .val (.int v10), .val (.ref a1), .val (.int (4 : Int32)), .val (.int (2 : Int32)), .val (.long q2), .second] [(.long q2)])) rfl (hb hby own_d_oc4_24) _ ?_
    show Steps p.tables e below (s₁.setTop (mkF m 27 #[.val (.ref a1), .val (.int v10), .val (.ref a1), .val (.int (4 : Int32)), .val (.int (2 : Int32)), .val (.long q2), .second] [(.long (9223372036854775807 : Int64)), (.long q2)])) _
    refine XS.lcmp X0.here hx rfl (hb hby own_d_oc4_27) rfl ?_
    exact k)
  obtain ⟨v15, hv15⟩ : ∃ z : Int32, z = (if q2 = (9223372036854775807 : Int64) then (v10 + (1 : Int32)) else v10) := ⟨_, rfl⟩
  have way16 : ∀ t, Steps p.tables e below (s₁.setTop (mkF m 34 #[.val (.ref a1), .val (.int v15), .val (.ref a1), .val (.int (4 : Int32)), .val (.int (2 : Int32)), .val (.long q2), .second] [])) t → Steps p.tables e below (s₁.setTop (entryFrame m #[(.ref a1)] 7)) t := fun t k => way13 t (by
    by_cases hj14 : q2 = (9223372036854775807 : Int64)
    ·
      show Steps p.tables e below (s₁.setTop (mkF m 28 #[.val (.ref a1), .val (.int v10), .val (.ref a1), .val (.int (4 : Int32)), .val (.int (2 : Int32)), .val (.long q2), .second] [(.int (lcmpW q2 (9223372036854775807 : Int64)))])) _
      refine XS.ifNo X0.here hx rfl (hb hby own_d_oc4_28) rfl ((if0 _ _).trans (teq ((lw_eq _ _).mpr hj14)).2) ?_
      show Steps p.tables e below (s₁.setTop (mkF m 31 #[.val (.ref a1), .val (.int v10), .val (.ref a1), .val (.int (4 : Int32)), .val (.int (2 : Int32)), .val (.long q2), .second] [])) _
      refine XS.iinc X0.here hx rfl (hb hby own_d_oc4_31) rfl (l' := #[.val (.ref a1), .val (.int (v10 + (1 : Int32))), .val (.ref a1), .val (.int (4 : Int32)), .val (.int (2 : Int32)), .val (.long q2), .second]) rfl ?_
      simp only [hv15, if_pos hj14] at k
      exact k
    ·
      show Steps p.tables e below (s₁.setTop (mkF m 28 #[.val (.ref a1), .val (.int v10), .val (.ref a1), .val (.int (4 : Int32)), .val (.int (2 : Int32)), .val (.long q2), .second] [(.int (lcmpW q2 (9223372036854775807 : Int64)))])) _
      refine XS.ifYes X0.here hx rfl (pc0 := 28) (pc' := 34) rfl (hb hby own_d_oc4_28) rfl ((if0 _ _).trans (feq (fun q => hj14 ((lw_eq _ _).mp q))).2) (by decide) (by decide) ?_
      simp only [hv15, if_neg hj14] at k
      exact k)
  obtain ⟨cl17, Ar17, aq17, S17, M17, H17, G17⟩ := id fV_a1
  have hin17 : ¬ ((3 : Int32) < 0 ∨ cl17.slots.size ≤ ((3 : Int32)).toNatClampNeg) := by rw [S17]; decide
  have hat17 : cl17.slots[((3 : Int32)).toNatClampNeg]? = some (.long q3) := H17 3 (by rw [S17]; decide)
  have way18 : ∀ t, Steps p.tables e below (s₁.setTop (mkF m 28 #[.val (.ref a1), .val (.int v15), .val (.ref a1), .val (.int (4 : Int32)), .val (.int (3 : Int32)), .val (.long q3), .second] [(.int (lcmpW q3 (9223372036854775807 : Int64)))])) t → Steps p.tables e below (s₁.setTop (entryFrame m #[(.ref a1)] 7)) t := fun t k => way16 t (by
    show Steps p.tables e below (s₁.setTop (mkF m 34 #[.val (.ref a1), .val (.int v15), .val (.ref a1), .val (.int (4 : Int32)), .val (.int (2 : Int32)), .val (.long q2), .second] [])) _
    refine XS.iinc X0.here hx rfl (hb hby own_d_oc4_34) rfl (l' := #[.val (.ref a1), .val (.int v15), .val (.ref a1), .val (.int (4 : Int32)), .val (.int (3 : Int32)), .val (.long q2), .second]) rfl ?_
    show Steps p.tables e below (s₁.setTop (mkF m 37 #[.val (.ref a1), .val (.int v15), .val (.ref a1), .val (.int (4 : Int32)), .val (.int (3 : Int32)), .val (.long q2), .second] [])) _
    refine XS.goto X0.here hx rfl (pc0 := 37) (pc' := 10) rfl (hb hby own_d_oc4_37) (by decide) (by decide) ?_
    show Steps p.tables e below (s₁.setTop (mkF m 10 #[.val (.ref a1), .val (.int v15), .val (.ref a1), .val (.int (4 : Int32)), .val (.int (3 : Int32)), .val (.long q2), .second] [])) _
    refine XS.iload X0.here hx rfl (hb hby own_d_oc4_10) rfl ?_
    show Steps p.tables e below (s₁.setTop (mkF m 12 #[.val (.ref a1), .val (.int v15), .val (.ref a1), .val (.int (4 : Int32)), .val (.int (3 : Int32)), .val (.long q2), .second] [(.int (3 : Int32))])) _
    refine XS.iloadN X0.here hx rfl (hb hby own_d_oc4_12) rfl ?_
    show Steps p.tables e below (s₁.setTop (mkF m 13 #[.val (.ref a1), .val (.int v15), .val (.ref a1), .val (.int (4 : Int32)), .val (.int (3 : Int32)), .val (.long q2), .second] [(.int (4 : Int32)), (.int (3 : Int32))])) _
    refine XS.icmpNo X0.here hx rfl (hb hby own_d_oc4_13) rfl (tlt (by decide)).2.1 ?_
    show Steps p.tables e below (s₁.setTop (mkF m 16 #[.val (.ref a1), .val (.int v15), .val (.ref a1), .val (.int (4 : Int32)), .val (.int (3 : Int32)), .val (.long q2), .second] [])) _
    refine XS.aloadN X0.here hx rfl (hb hby own_d_oc4_16) rfl rfl ?_
    show Steps p.tables e below (s₁.setTop (mkF m 17 #[.val (.ref a1), .val (.int v15), .val (.ref a1), .val (.int (4 : Int32)), .val (.int (3 : Int32)), .val (.long q2), .second] [(.ref a1)])) _
    refine XS.iload X0.here hx rfl (hb hby own_d_oc4_17) rfl ?_
    show Steps p.tables e below (s₁.setTop (mkF m 19 #[.val (.ref a1), .val (.int v15), .val (.ref a1), .val (.int (4 : Int32)), .val (.int (3 : Int32)), .val (.long q2), .second] [(.int (3 : Int32)), (.ref a1)])) _
    refine X0.laload hx (j := (3 : Int32)) (v := (.long q3)) (by rw [e0]; exact Ar17.1) (State.isArrayOf_alike hZ.alike Ar17.2.1) Ar17.2.2 hin17 hat17 (g := (mkF m 19 #[.val (.ref a1), .val (.int v15), .val (.ref a1), .val (.int (4 : Int32)), .val (.int (3 : Int32)), .val (.long q2), .second] [(.int (3 : Int32)), (.ref a1)])) rfl rfl (hb hby own_d_oc4_19) _ ?_
    show Steps p.tables e below (s₁.setTop (mkF m 20 #[.val (.ref a1), .val (.int v15), .val (.ref a1), .val (.int (4 : Int32)), .val (.int (3 : Int32)), .val (.long q2), .second] [(.long q3)])) _
    refine XS.lstore X0.here hx rfl (hb hby own_d_oc4_20) rfl (l' := #[.val (.ref a1), .val (.int v15), .val (.ref a1), .val (.int (4 : Int32)), .val (.int (3 : Int32)), .val (.long q3), .second]) rfl ?_
    show Steps p.tables e below (s₁.setTop (mkF m 22 #[.val (.ref a1), .val (.int v15), .val (.ref a1), .val (.int (4 : Int32)), .val (.int (3 : Int32)), .val (.long q3), .second] [])) _
    refine XS.lload X0.here hx rfl (hb hby own_d_oc4_22) rfl ?_
    show Steps p.tables e below (s₁.setTop (mkF m 24 #[.val (.ref a1), .val (.int v15), .val (.ref a1), .val (.int (4 : Int32)), .val (.int (3 : Int32)), .val (.long q3), .second] [(.long q3)])) _
    refine X0.ldc2Long hx hown (mvT hZ (hw _ (List.mem_of_getElem? (i := 13) rfl))) (g := (mkF m 24 #[.val (.ref a1), .val (.int v15), .val (.ref a1), .val (.int (4 : Int32)), .val (.int (3 : Int32)), .val (.long q3), .second] [(.long q3)])) rfl (hb hby own_d_oc4_24) _ ?_
    show Steps p.tables e below (s₁.setTop (mkF m 27 #[.val (.ref a1), .val (.int v15), .val (.ref a1), .val (.int (4 : Int32)), .val (.int (3 : Int32)), .val (.long q3), .second] [(.long (9223372036854775807 : Int64)), (.long q3)])) _
    refine XS.lcmp X0.here hx rfl (hb hby own_d_oc4_27) rfl ?_
    exact k)
  obtain ⟨v20, hv20⟩ : ∃ z : Int32, z = (if q3 = (9223372036854775807 : Int64) then (v15 + (1 : Int32)) else v15) := ⟨_, rfl⟩
  have way21 : ∀ t, Steps p.tables e below (s₁.setTop (mkF m 34 #[.val (.ref a1), .val (.int v20), .val (.ref a1), .val (.int (4 : Int32)), .val (.int (3 : Int32)), .val (.long q3), .second] [])) t → Steps p.tables e below (s₁.setTop (entryFrame m #[(.ref a1)] 7)) t := fun t k => way18 t (by
    by_cases hj19 : q3 = (9223372036854775807 : Int64)
    ·
      show Steps p.tables e below (s₁.setTop (mkF m 28 #[.val (.ref a1), .val (.int v15), .val (.ref a1), .val (.int (4 : Int32)), .val (.int (3 : Int32)), .val (.long q3), .second] [(.int (lcmpW q3 (9223372036854775807 : Int64)))])) _
      refine XS.ifNo X0.here hx rfl (hb hby own_d_oc4_28) rfl ((if0 _ _).trans (teq ((lw_eq _ _).mpr hj19)).2) ?_
      show Steps p.tables e below (s₁.setTop (mkF m 31 #[.val (.ref a1), .val (.int v15), .val (.ref a1), .val (.int (4 : Int32)), .val (.int (3 : Int32)), .val (.long q3), .second] [])) _
      refine XS.iinc X0.here hx rfl (hb hby own_d_oc4_31) rfl (l' := #[.val (.ref a1), .val (.int (v15 + (1 : Int32))), .val (.ref a1), .val (.int (4 : Int32)), .val (.int (3 : Int32)), .val (.long q3), .second]) rfl ?_
      simp only [hv20, if_pos hj19] at k
      exact k
    ·
      show Steps p.tables e below (s₁.setTop (mkF m 28 #[.val (.ref a1), .val (.int v15), .val (.ref a1), .val (.int (4 : Int32)), .val (.int (3 : Int32)), .val (.long q3), .second] [(.int (lcmpW q3 (9223372036854775807 : Int64)))])) _
      refine XS.ifYes X0.here hx rfl (pc0 := 28) (pc' := 34) rfl (hb hby own_d_oc4_28) rfl ((if0 _ _).trans (feq (fun q => hj19 ((lw_eq _ _).mp q))).2) (by decide) (by decide) ?_
      simp only [hv20, if_neg hj19] at k
      exact k)
  have way22 : ∀ t, Steps p.tables e below (s₁.setTop (mkF m 41 #[.val (.ref a1), .val (.int v20), .val (.ref a1), .val (.int (4 : Int32)), .val (.int (4 : Int32)), .val (.long q3), .second] [(.int v20)])) t → Steps p.tables e below (s₁.setTop (entryFrame m #[(.ref a1)] 7)) t := fun t k => way21 t (by
    show Steps p.tables e below (s₁.setTop (mkF m 34 #[.val (.ref a1), .val (.int v20), .val (.ref a1), .val (.int (4 : Int32)), .val (.int (3 : Int32)), .val (.long q3), .second] [])) _
    refine XS.iinc X0.here hx rfl (hb hby own_d_oc4_34) rfl (l' := #[.val (.ref a1), .val (.int v20), .val (.ref a1), .val (.int (4 : Int32)), .val (.int (4 : Int32)), .val (.long q3), .second]) rfl ?_
    show Steps p.tables e below (s₁.setTop (mkF m 37 #[.val (.ref a1), .val (.int v20), .val (.ref a1), .val (.int (4 : Int32)), .val (.int (4 : Int32)), .val (.long q3), .second] [])) _
    refine XS.goto X0.here hx rfl (pc0 := 37) (pc' := 10) rfl (hb hby own_d_oc4_37) (by decide) (by decide) ?_
    show Steps p.tables e below (s₁.setTop (mkF m 10 #[.val (.ref a1), .val (.int v20), .val (.ref a1), .val (.int (4 : Int32)), .val (.int (4 : Int32)), .val (.long q3), .second] [])) _
    refine XS.iload X0.here hx rfl (hb hby own_d_oc4_10) rfl ?_
    show Steps p.tables e below (s₁.setTop (mkF m 12 #[.val (.ref a1), .val (.int v20), .val (.ref a1), .val (.int (4 : Int32)), .val (.int (4 : Int32)), .val (.long q3), .second] [(.int (4 : Int32))])) _
    refine XS.iloadN X0.here hx rfl (hb hby own_d_oc4_12) rfl ?_
    show Steps p.tables e below (s₁.setTop (mkF m 13 #[.val (.ref a1), .val (.int v20), .val (.ref a1), .val (.int (4 : Int32)), .val (.int (4 : Int32)), .val (.long q3), .second] [(.int (4 : Int32)), (.int (4 : Int32))])) _
    refine XS.icmpYes X0.here hx rfl (pc0 := 13) (pc' := 40) rfl (hb hby own_d_oc4_13) rfl (flt (by decide)).2.1 (by decide) (by decide) ?_
    show Steps p.tables e below (s₁.setTop (mkF m 40 #[.val (.ref a1), .val (.int v20), .val (.ref a1), .val (.int (4 : Int32)), .val (.int (4 : Int32)), .val (.long q3), .second] [])) _
    refine XS.iloadN X0.here hx rfl (hb hby own_d_oc4_40) rfl ?_
    exact k)
  obtain ⟨fs, hr, hrun, hended, hW, hsame⟩ := X0.leave (v := some (.int v20)) (fun h => by rw [Bd.returns] at h; cases h)
  refine ⟨_, _, way22 _ ?_, hrun, hended, _, _, rfl, ?_, ⟨_, rfl⟩, hW, hsame.mono (by decide) (by decide)⟩
  · show Steps p.tables e below (s₁.setTop (mkF m 41 #[.val (.ref a1), .val (.int v20), .val (.ref a1), .val (.int (4 : Int32)), .val (.int (4 : Int32)), .val (.long q3), .second] [(.int v20)])) _
    exact retI X0 hx Bd.returns (hb hby own_d_oc4_41) hr
  · show Q_oc4 Z a1 kk q0 q1 q2 q3 h0 n0 _ s₁.heap _
    rw [e0]
    exact ⟨by subst hv5; subst hv10; subst hv15; subst hv20; rfl, N0, rfl⟩
theorem own_pd2 : parseMethodDescriptor "(IIJ)J" = some ⟨[.int, .int, .long], some .long⟩ := by decide +kernel
theorem own_pd3 : parseMethodDescriptor "(ZJ)I" = some ⟨[.boolean, .long], some .int⟩ := by decide +kernel
theorem own_pd4 : parseMethodDescriptor "([J)I" = some ⟨[(.array .long)], some .int⟩ := by decide +kernel
theorem own_ef_law (m : MethodId) (p1 : Int32) (q1 : Int64) (q2 : Int64) (q3 : Int64) (q4 : Int64) : entryFrame m #[(.int p1), (.long q1), (.long q2), (.long q3), (.long q4)] maxLocals = mkF m 0 #[.val (.int p1), .val (.long q1), .second, .val (.long q2), .second, .val (.long q3), .second, .val (.long q4), .second, .unset, .unset, .unset, .unset, .unset, .unset, .unset, .unset, .unset, .unset, .unset] [] := by first | (simp [entryFrame, mkF, argsToLocals, Value.category, maxLocals]; done) | rfl
def Q_law (Z : State) (p1 : Int32) (q1 : Int64) (q2 : Int64) (q3 : Int64) (q4 : Int64) (h0 : Heap) (n0 : Nat) (v : Option Value) (h : Heap) (L : List Loc) : Prop := v = some (.int (1 : Int32)) ∧ Fr n0 L
set_option maxRecDepth 65536 in
set_option maxHeartbeats 40000000 in
theorem rm_law (l : Launch) (Z : State) (a0 : Array Value) (hw : ∀ d ∈ tables_1, d.before a0 Z = true) (ws : List Jvm.Cond) (p1 : Int32) (q1 : Int64) (q2 : Int64) (q3 : Int64) (q4 : Int64) (h0 : Heap) (n0 : Nat) (Z0 : n0 ≤ h0.size) :
    MetFree l x (head1 (Jvm.Cond.code x code maxLocals ret :: ws) room_1) (fun a U => a = #[(.int p1), (.long q1), (.long q2), (.long q3), (.long q4)] ∧ Z.Warmed39 U.vm ∧ U.heap = h0) (fun _ _ _ _ _ => True) (fun _ U o U' => ∃ v L, o = .returned v ∧ Q_law Z p1 q1 q2 q3 q4 h0 n0 v U'.heap L ∧ FrameEnd U o U' L room_1.cells room_1.slots) := by
  refine MetFree.of_bodySF (plainFor_of_name own_pn0) hisR ?_
  intro p e s m args below meth c s₁ Bd hml0 hP hK
  obtain ⟨rfl, hZ, hh⟩ := hP
  have hx := Bd.exec
  have hby := Bd.bytes
  have hml : c.maxLocals = 20 := hml0
  have hown : s.vm.findClass "com/example/netloom/netloom/core/reachability/OmegaSetsOmegaCountPinLaw" = some m.cls := findClass_of_methodNamed Bd.named
  have hnm := (name_of_methodNamed Bd.named Bd.method).1
  have X0 : Stand p l e room_1 s m #[(.int p1), (.long q1), (.long q2), (.long q3), (.long q4)] below meth c s₁ [] 0 0 := Stand.of_body Bd
  have e0 : s₁.heap = h0 := by rw [← hh, Bd.state]; rfl
  have N0 := Fr.nil n0
  have pre0 : ∀ t, Steps p.tables e below (s₁.setTop (mkF m 0 #[.val (.int p1), .val (.long q1), .second, .val (.long q2), .second, .val (.long q3), .second, .val (.long q4), .second, .unset, .unset, .unset, .unset, .unset, .unset, .unset, .unset, .unset, .unset, .unset] [])) t → Steps p.tables e below (s₁.setTop (entryFrame m #[(.int p1), (.long q1), (.long q2), (.long q3), (.long q4)] maxLocals)) t := fun t k => castTop (own_ef_law m p1 q1 q2 q3 q4) k
  have way1 : ∀ t, Steps p.tables e below (s₁.setTop (mkF m 6 #[.val (.int p1), .val (.long q1), .second, .val (.long q2), .second, .val (.long q3), .second, .val (.long q4), .second, .unset, .unset, .unset, .unset, .unset, .unset, .unset, .unset, .unset, .unset, .unset] [(.int ((p1 &&& (7 : Int32)) % (5 : Int32)))])) t → Steps p.tables e below (s₁.setTop (entryFrame m #[(.int p1), (.long q1), (.long q2), (.long q3), (.long q4)] maxLocals)) t := fun t k => pre0 t (by
    show Steps p.tables e below (s₁.setTop (mkF m 0 #[.val (.int p1), .val (.long q1), .second, .val (.long q2), .second, .val (.long q3), .second, .val (.long q4), .second, .unset, .unset, .unset, .unset, .unset, .unset, .unset, .unset, .unset, .unset, .unset] [])) _
    refine XS.iloadN X0.here hx rfl (hb hby at_0) rfl ?_
    show Steps p.tables e below (s₁.setTop (mkF m 1 #[.val (.int p1), .val (.long q1), .second, .val (.long q2), .second, .val (.long q3), .second, .val (.long q4), .second, .unset, .unset, .unset, .unset, .unset, .unset, .unset, .unset, .unset, .unset, .unset] [(.int p1)])) _
    refine XS.bipush X0.here hx rfl (hb hby at_1) ?_
    show Steps p.tables e below (s₁.setTop (mkF m 3 #[.val (.int p1), .val (.long q1), .second, .val (.long q2), .second, .val (.long q3), .second, .val (.long q4), .second, .unset, .unset, .unset, .unset, .unset, .unset, .unset, .unset, .unset, .unset, .unset] [(.int (7 : Int32)), (.int p1)])) _
    refine XS.iand X0.here hx rfl (hb hby at_3) rfl ?_
    show Steps p.tables e below (s₁.setTop (mkF m 4 #[.val (.int p1), .val (.long q1), .second, .val (.long q2), .second, .val (.long q3), .second, .val (.long q4), .second, .unset, .unset, .unset, .unset, .unset, .unset, .unset, .unset, .unset, .unset, .unset] [(.int (p1 &&& (7 : Int32)))])) _
    refine XS.iconst X0.here hx rfl (hb hby at_4) ?_
    show Steps p.tables e below (s₁.setTop (mkF m 5 #[.val (.int p1), .val (.long q1), .second, .val (.long q2), .second, .val (.long q3), .second, .val (.long q4), .second, .unset, .unset, .unset, .unset, .unset, .unset, .unset, .unset, .unset, .unset, .unset] [(.int (5 : Int32)), (.int (p1 &&& (7 : Int32)))])) _
    refine iremM (g := (mkF m 5 #[.val (.int p1), .val (.long q1), .second, .val (.long q2), .second, .val (.long q3), .second, .val (.long q4), .second, .unset, .unset, .unset, .unset, .unset, .unset, .unset, .unset, .unset, .unset, .unset] [(.int (5 : Int32)), (.int (p1 &&& (7 : Int32)))])) X0 hx rfl (hb hby at_5) rfl (by decide) ?_
    exact k)
  obtain ⟨u2, hu2⟩ : ∃ z : Int32, z = ((p1 &&& (7 : Int32)) % (5 : Int32)) := ⟨_, rfl⟩
  rw [← hu2] at way1
  obtain ⟨_, _, ⟨T3, L3, k3, n3⟩, -, X3, ⟨Lc3, hQ3, l3, y3, z3⟩, st3⟩ := Jvm.LawKit.callS X0 hx (y := (⟨"com/example/netloom/netloom/core/reachability/OmegaSetsOmegaCountPinLaw", "pick", "(IIJ)J"⟩ : MethodName)) hown (mvT hZ (hw _ (List.mem_of_getElem? (i := 0) rfl))) (mvT hZ (hw _ (List.mem_of_getElem? (i := 1) rfl))) (mvT hZ (hw _ (List.mem_of_getElem? (i := 2) rfl))) (mvT hZ (hw _ (List.mem_of_getElem? (i := 3) rfl))) (by decide) (backOf (W := 0) (rm_pick l Z a0 hw [] p1 (3 : Int32) q1  h0 n0 Z0 ) hZ (hw _ (List.mem_of_getElem? (i := 3) rfl)) (hw _ (List.mem_of_getElem? (i := 2) rfl)) (by decide) (by decide)) (g := (mkF m 11 #[.val (.int p1), .val (.long q1), .second, .val (.long q2), .second, .val (.long q3), .second, .val (.long q4), .second, .val (.int u2), .unset, .unset, .unset, .unset, .unset, .unset, .unset, .unset, .unset, .unset] [(.long q1), (.int (3 : Int32)), (.int p1)])) rfl (by rw [hml]; rfl) (argsL := [(.int p1), (.int (3 : Int32)), (.long q1)]) (rest := []) (lenOf own_pd2 rfl) rfl (by show 2 * 0 + _ ≤ _; exact Nat.le_of_eq rfl) (hb hby at_11) (fun _ _ => ⟨rfl, e0, (by decide : 0 + 0 ≤ _), (by decide : 0 + 0 ≤ _)⟩)
  dsimp only [Pt.U, Pt.locs, Pt.cells, Pt.slots] at X3 l3 y3 z3 st3 hQ3
  subst l3 y3 z3
  obtain ⟨rfl, N3q, hh3⟩ := hQ3
  have N3 := Fr.app N0 N3q
  have way4 : ∀ t, Steps p.tables e below (T3.setTop (mkF m 14 #[.val (.int p1), .val (.long q1), .second, .val (.long q2), .second, .val (.long q3), .second, .val (.long q4), .second, .val (.int u2), .unset, .unset, .unset, .unset, .unset, .unset, .unset, .unset, .unset, .unset] [(.long (own_pick p1 (3 : Int32) q1))])) t → Steps p.tables e below (s₁.setTop (entryFrame m #[(.int p1), (.long q1), (.long q2), (.long q3), (.long q4)] maxLocals)) t := fun t k => way1 t (by
    show Steps p.tables e below (s₁.setTop (mkF m 6 #[.val (.int p1), .val (.long q1), .second, .val (.long q2), .second, .val (.long q3), .second, .val (.long q4), .second, .unset, .unset, .unset, .unset, .unset, .unset, .unset, .unset, .unset, .unset, .unset] [(.int u2)])) _
    refine XS.istore X0.here hx rfl (hb hby at_6) rfl (l' := #[.val (.int p1), .val (.long q1), .second, .val (.long q2), .second, .val (.long q3), .second, .val (.long q4), .second, .val (.int u2), .unset, .unset, .unset, .unset, .unset, .unset, .unset, .unset, .unset, .unset]) rfl ?_
    show Steps p.tables e below (s₁.setTop (mkF m 8 #[.val (.int p1), .val (.long q1), .second, .val (.long q2), .second, .val (.long q3), .second, .val (.long q4), .second, .val (.int u2), .unset, .unset, .unset, .unset, .unset, .unset, .unset, .unset, .unset, .unset] [])) _
    refine XS.iloadN X0.here hx rfl (hb hby at_8) rfl ?_
    show Steps p.tables e below (s₁.setTop (mkF m 9 #[.val (.int p1), .val (.long q1), .second, .val (.long q2), .second, .val (.long q3), .second, .val (.long q4), .second, .val (.int u2), .unset, .unset, .unset, .unset, .unset, .unset, .unset, .unset, .unset, .unset] [(.int p1)])) _
    refine XS.iconst X0.here hx rfl (hb hby at_9) ?_
    show Steps p.tables e below (s₁.setTop (mkF m 10 #[.val (.int p1), .val (.long q1), .second, .val (.long q2), .second, .val (.long q3), .second, .val (.long q4), .second, .val (.int u2), .unset, .unset, .unset, .unset, .unset, .unset, .unset, .unset, .unset, .unset] [(.int (3 : Int32)), (.int p1)])) _
    refine XS.lloadN X0.here hx rfl (hb hby at_10) rfl ?_
    show Steps p.tables e below (s₁.setTop (mkF m 11 #[.val (.int p1), .val (.long q1), .second, .val (.long q2), .second, .val (.long q3), .second, .val (.long q4), .second, .val (.int u2), .unset, .unset, .unset, .unset, .unset, .unset, .unset, .unset, .unset, .unset] [(.long q1), (.int (3 : Int32)), (.int p1)])) _
    refine st3 _ ?_
    exact k)
  obtain ⟨u5, hu5⟩ : ∃ z : Int64, z = (own_pick p1 (3 : Int32) q1) := ⟨_, rfl⟩
  rw [← hu5] at way4
  obtain ⟨_, _, ⟨T6, L6, k6, n6⟩, -, X6, ⟨Lc6, hQ6, l6, y6, z6⟩, st6⟩ := Jvm.LawKit.callS X3 hx (y := (⟨"com/example/netloom/netloom/core/reachability/OmegaSetsOmegaCountPinLaw", "pick", "(IIJ)J"⟩ : MethodName)) hown (mvT hZ (hw _ (List.mem_of_getElem? (i := 0) rfl))) (mvT hZ (hw _ (List.mem_of_getElem? (i := 1) rfl))) (mvT hZ (hw _ (List.mem_of_getElem? (i := 2) rfl))) (mvT hZ (hw _ (List.mem_of_getElem? (i := 3) rfl))) (by decide) (backOf (W := 0) (rm_pick l Z a0 hw [] p1 (4 : Int32) q2  h0 n0 Z0 ) hZ (hw _ (List.mem_of_getElem? (i := 3) rfl)) (hw _ (List.mem_of_getElem? (i := 2) rfl)) (by decide) (by decide)) (g := (mkF m 19 #[.val (.int p1), .val (.long q1), .second, .val (.long q2), .second, .val (.long q3), .second, .val (.long q4), .second, .val (.int u2), .val (.long u5), .second, .unset, .unset, .unset, .unset, .unset, .unset, .unset, .unset] [(.long q2), (.int (4 : Int32)), (.int p1)])) rfl (by rw [hml]; rfl) (argsL := [(.int p1), (.int (4 : Int32)), (.long q2)]) (rest := []) (lenOf own_pd2 rfl) rfl (by show 2 * 0 + _ ≤ _; exact Nat.le_of_eq rfl) (hb hby at_19) (fun _ _ => ⟨rfl, hh3, (by decide : 0 + 0 ≤ _), (by decide : 0 + 0 ≤ _)⟩)
  dsimp only [Pt.U, Pt.locs, Pt.cells, Pt.slots] at X6 l6 y6 z6 st6 hQ6
  subst l6 y6 z6
  obtain ⟨rfl, N6q, hh6⟩ := hQ6
  have N6 := Fr.app N3 N6q
  have way7 : ∀ t, Steps p.tables e below (T6.setTop (mkF m 22 #[.val (.int p1), .val (.long q1), .second, .val (.long q2), .second, .val (.long q3), .second, .val (.long q4), .second, .val (.int u2), .val (.long u5), .second, .unset, .unset, .unset, .unset, .unset, .unset, .unset, .unset] [(.long (own_pick p1 (4 : Int32) q2))])) t → Steps p.tables e below (s₁.setTop (entryFrame m #[(.int p1), (.long q1), (.long q2), (.long q3), (.long q4)] maxLocals)) t := fun t k => way4 t (by
    show Steps p.tables e below (T3.setTop (mkF m 14 #[.val (.int p1), .val (.long q1), .second, .val (.long q2), .second, .val (.long q3), .second, .val (.long q4), .second, .val (.int u2), .unset, .unset, .unset, .unset, .unset, .unset, .unset, .unset, .unset, .unset] [(.long u5)])) _
    refine XS.lstore X3.here hx rfl (hb hby at_14) rfl (l' := #[.val (.int p1), .val (.long q1), .second, .val (.long q2), .second, .val (.long q3), .second, .val (.long q4), .second, .val (.int u2), .val (.long u5), .second, .unset, .unset, .unset, .unset, .unset, .unset, .unset, .unset]) rfl ?_
    show Steps p.tables e below (T3.setTop (mkF m 16 #[.val (.int p1), .val (.long q1), .second, .val (.long q2), .second, .val (.long q3), .second, .val (.long q4), .second, .val (.int u2), .val (.long u5), .second, .unset, .unset, .unset, .unset, .unset, .unset, .unset, .unset] [])) _
    refine XS.iloadN X3.here hx rfl (hb hby at_16) rfl ?_
    show Steps p.tables e below (T3.setTop (mkF m 17 #[.val (.int p1), .val (.long q1), .second, .val (.long q2), .second, .val (.long q3), .second, .val (.long q4), .second, .val (.int u2), .val (.long u5), .second, .unset, .unset, .unset, .unset, .unset, .unset, .unset, .unset] [(.int p1)])) _
    refine XS.iconst X3.here hx rfl (hb hby at_17) ?_
    show Steps p.tables e below (T3.setTop (mkF m 18 #[.val (.int p1), .val (.long q1), .second, .val (.long q2), .second, .val (.long q3), .second, .val (.long q4), .second, .val (.int u2), .val (.long u5), .second, .unset, .unset, .unset, .unset, .unset, .unset, .unset, .unset] [(.int (4 : Int32)), (.int p1)])) _
    refine XS.lloadN X3.here hx rfl (hb hby at_18) rfl ?_
    show Steps p.tables e below (T3.setTop (mkF m 19 #[.val (.int p1), .val (.long q1), .second, .val (.long q2), .second, .val (.long q3), .second, .val (.long q4), .second, .val (.int u2), .val (.long u5), .second, .unset, .unset, .unset, .unset, .unset, .unset, .unset, .unset] [(.long q2), (.int (4 : Int32)), (.int p1)])) _
    refine st6 _ ?_
    exact k)
  obtain ⟨u8, hu8⟩ : ∃ z : Int64, z = (own_pick p1 (4 : Int32) q2) := ⟨_, rfl⟩
  rw [← hu8] at way7
  obtain ⟨_, _, ⟨T9, L9, k9, n9⟩, -, X9, ⟨Lc9, hQ9, l9, y9, z9⟩, st9⟩ := Jvm.LawKit.callS X6 hx (y := (⟨"com/example/netloom/netloom/core/reachability/OmegaSetsOmegaCountPinLaw", "pick", "(IIJ)J"⟩ : MethodName)) hown (mvT hZ (hw _ (List.mem_of_getElem? (i := 0) rfl))) (mvT hZ (hw _ (List.mem_of_getElem? (i := 1) rfl))) (mvT hZ (hw _ (List.mem_of_getElem? (i := 2) rfl))) (mvT hZ (hw _ (List.mem_of_getElem? (i := 3) rfl))) (by decide) (backOf (W := 0) (rm_pick l Z a0 hw [] p1 (5 : Int32) q3  h0 n0 Z0 ) hZ (hw _ (List.mem_of_getElem? (i := 3) rfl)) (hw _ (List.mem_of_getElem? (i := 2) rfl)) (by decide) (by decide)) (g := (mkF m 28 #[.val (.int p1), .val (.long q1), .second, .val (.long q2), .second, .val (.long q3), .second, .val (.long q4), .second, .val (.int u2), .val (.long u5), .second, .val (.long u8), .second, .unset, .unset, .unset, .unset, .unset, .unset] [(.long q3), (.int (5 : Int32)), (.int p1)])) rfl (by rw [hml]; rfl) (argsL := [(.int p1), (.int (5 : Int32)), (.long q3)]) (rest := []) (lenOf own_pd2 rfl) rfl (by show 2 * 0 + _ ≤ _; exact Nat.le_of_eq rfl) (hb hby at_28) (fun _ _ => ⟨rfl, hh6, (by decide : 0 + 0 ≤ _), (by decide : 0 + 0 ≤ _)⟩)
  dsimp only [Pt.U, Pt.locs, Pt.cells, Pt.slots] at X9 l9 y9 z9 st9 hQ9
  subst l9 y9 z9
  obtain ⟨rfl, N9q, hh9⟩ := hQ9
  have N9 := Fr.app N6 N9q
  have way10 : ∀ t, Steps p.tables e below (T9.setTop (mkF m 31 #[.val (.int p1), .val (.long q1), .second, .val (.long q2), .second, .val (.long q3), .second, .val (.long q4), .second, .val (.int u2), .val (.long u5), .second, .val (.long u8), .second, .unset, .unset, .unset, .unset, .unset, .unset] [(.long (own_pick p1 (5 : Int32) q3))])) t → Steps p.tables e below (s₁.setTop (entryFrame m #[(.int p1), (.long q1), (.long q2), (.long q3), (.long q4)] maxLocals)) t := fun t k => way7 t (by
    show Steps p.tables e below (T6.setTop (mkF m 22 #[.val (.int p1), .val (.long q1), .second, .val (.long q2), .second, .val (.long q3), .second, .val (.long q4), .second, .val (.int u2), .val (.long u5), .second, .unset, .unset, .unset, .unset, .unset, .unset, .unset, .unset] [(.long u8)])) _
    refine XS.lstore X6.here hx rfl (hb hby at_22) rfl (l' := #[.val (.int p1), .val (.long q1), .second, .val (.long q2), .second, .val (.long q3), .second, .val (.long q4), .second, .val (.int u2), .val (.long u5), .second, .val (.long u8), .second, .unset, .unset, .unset, .unset, .unset, .unset]) rfl ?_
    show Steps p.tables e below (T6.setTop (mkF m 24 #[.val (.int p1), .val (.long q1), .second, .val (.long q2), .second, .val (.long q3), .second, .val (.long q4), .second, .val (.int u2), .val (.long u5), .second, .val (.long u8), .second, .unset, .unset, .unset, .unset, .unset, .unset] [])) _
    refine XS.iloadN X6.here hx rfl (hb hby at_24) rfl ?_
    show Steps p.tables e below (T6.setTop (mkF m 25 #[.val (.int p1), .val (.long q1), .second, .val (.long q2), .second, .val (.long q3), .second, .val (.long q4), .second, .val (.int u2), .val (.long u5), .second, .val (.long u8), .second, .unset, .unset, .unset, .unset, .unset, .unset] [(.int p1)])) _
    refine XS.iconst X6.here hx rfl (hb hby at_25) ?_
    show Steps p.tables e below (T6.setTop (mkF m 26 #[.val (.int p1), .val (.long q1), .second, .val (.long q2), .second, .val (.long q3), .second, .val (.long q4), .second, .val (.int u2), .val (.long u5), .second, .val (.long u8), .second, .unset, .unset, .unset, .unset, .unset, .unset] [(.int (5 : Int32)), (.int p1)])) _
    refine XS.lload X6.here hx rfl (hb hby at_26) rfl ?_
    show Steps p.tables e below (T6.setTop (mkF m 28 #[.val (.int p1), .val (.long q1), .second, .val (.long q2), .second, .val (.long q3), .second, .val (.long q4), .second, .val (.int u2), .val (.long u5), .second, .val (.long u8), .second, .unset, .unset, .unset, .unset, .unset, .unset] [(.long q3), (.int (5 : Int32)), (.int p1)])) _
    refine st9 _ ?_
    exact k)
  obtain ⟨u11, hu11⟩ : ∃ z : Int64, z = (own_pick p1 (5 : Int32) q3) := ⟨_, rfl⟩
  rw [← hu11] at way10
  obtain ⟨_, _, ⟨T12, L12, k12, n12⟩, -, X12, ⟨Lc12, hQ12, l12, y12, z12⟩, st12⟩ := Jvm.LawKit.callS X9 hx (y := (⟨"com/example/netloom/netloom/core/reachability/OmegaSetsOmegaCountPinLaw", "pick", "(IIJ)J"⟩ : MethodName)) hown (mvT hZ (hw _ (List.mem_of_getElem? (i := 0) rfl))) (mvT hZ (hw _ (List.mem_of_getElem? (i := 1) rfl))) (mvT hZ (hw _ (List.mem_of_getElem? (i := 2) rfl))) (mvT hZ (hw _ (List.mem_of_getElem? (i := 3) rfl))) (by decide) (backOf (W := 0) (rm_pick l Z a0 hw [] p1 (6 : Int32) q4  h0 n0 Z0 ) hZ (hw _ (List.mem_of_getElem? (i := 3) rfl)) (hw _ (List.mem_of_getElem? (i := 2) rfl)) (by decide) (by decide)) (g := (mkF m 38 #[.val (.int p1), .val (.long q1), .second, .val (.long q2), .second, .val (.long q3), .second, .val (.long q4), .second, .val (.int u2), .val (.long u5), .second, .val (.long u8), .second, .val (.long u11), .second, .unset, .unset, .unset, .unset] [(.long q4), (.int (6 : Int32)), (.int p1)])) rfl (by rw [hml]; rfl) (argsL := [(.int p1), (.int (6 : Int32)), (.long q4)]) (rest := []) (lenOf own_pd2 rfl) rfl (by show 2 * 0 + _ ≤ _; exact Nat.le_of_eq rfl) (hb hby at_38) (fun _ _ => ⟨rfl, hh9, (by decide : 0 + 0 ≤ _), (by decide : 0 + 0 ≤ _)⟩)
  dsimp only [Pt.U, Pt.locs, Pt.cells, Pt.slots] at X12 l12 y12 z12 st12 hQ12
  subst l12 y12 z12
  obtain ⟨rfl, N12q, hh12⟩ := hQ12
  have N12 := Fr.app N9 N12q
  have way13 : ∀ t, Steps p.tables e below (T12.setTop (mkF m 41 #[.val (.int p1), .val (.long q1), .second, .val (.long q2), .second, .val (.long q3), .second, .val (.long q4), .second, .val (.int u2), .val (.long u5), .second, .val (.long u8), .second, .val (.long u11), .second, .unset, .unset, .unset, .unset] [(.long (own_pick p1 (6 : Int32) q4))])) t → Steps p.tables e below (s₁.setTop (entryFrame m #[(.int p1), (.long q1), (.long q2), (.long q3), (.long q4)] maxLocals)) t := fun t k => way10 t (by
    show Steps p.tables e below (T9.setTop (mkF m 31 #[.val (.int p1), .val (.long q1), .second, .val (.long q2), .second, .val (.long q3), .second, .val (.long q4), .second, .val (.int u2), .val (.long u5), .second, .val (.long u8), .second, .unset, .unset, .unset, .unset, .unset, .unset] [(.long u11)])) _
    refine XS.lstore X9.here hx rfl (hb hby at_31) rfl (l' := #[.val (.int p1), .val (.long q1), .second, .val (.long q2), .second, .val (.long q3), .second, .val (.long q4), .second, .val (.int u2), .val (.long u5), .second, .val (.long u8), .second, .val (.long u11), .second, .unset, .unset, .unset, .unset]) rfl ?_
    show Steps p.tables e below (T9.setTop (mkF m 33 #[.val (.int p1), .val (.long q1), .second, .val (.long q2), .second, .val (.long q3), .second, .val (.long q4), .second, .val (.int u2), .val (.long u5), .second, .val (.long u8), .second, .val (.long u11), .second, .unset, .unset, .unset, .unset] [])) _
    refine XS.iloadN X9.here hx rfl (hb hby at_33) rfl ?_
    show Steps p.tables e below (T9.setTop (mkF m 34 #[.val (.int p1), .val (.long q1), .second, .val (.long q2), .second, .val (.long q3), .second, .val (.long q4), .second, .val (.int u2), .val (.long u5), .second, .val (.long u8), .second, .val (.long u11), .second, .unset, .unset, .unset, .unset] [(.int p1)])) _
    refine XS.bipush X9.here hx rfl (hb hby at_34) ?_
    show Steps p.tables e below (T9.setTop (mkF m 36 #[.val (.int p1), .val (.long q1), .second, .val (.long q2), .second, .val (.long q3), .second, .val (.long q4), .second, .val (.int u2), .val (.long u5), .second, .val (.long u8), .second, .val (.long u11), .second, .unset, .unset, .unset, .unset] [(.int (6 : Int32)), (.int p1)])) _
    refine XS.lload X9.here hx rfl (hb hby at_36) rfl ?_
    show Steps p.tables e below (T9.setTop (mkF m 38 #[.val (.int p1), .val (.long q1), .second, .val (.long q2), .second, .val (.long q3), .second, .val (.long q4), .second, .val (.int u2), .val (.long u5), .second, .val (.long u8), .second, .val (.long u11), .second, .unset, .unset, .unset, .unset] [(.long q4), (.int (6 : Int32)), (.int p1)])) _
    refine st12 _ ?_
    exact k)
  obtain ⟨u14, hu14⟩ : ∃ z : Int64, z = (own_pick p1 (6 : Int32) q4) := ⟨_, rfl⟩
  rw [← hu14] at way13
  have way15 : ∀ t, Steps p.tables e below (T12.setTop (mkF m 43 #[.val (.int p1), .val (.long q1), .second, .val (.long q2), .second, .val (.long q3), .second, .val (.long q4), .second, .val (.int u2), .val (.long u5), .second, .val (.long u8), .second, .val (.long u11), .second, .val (.long u14), .second, .unset, .unset] [])) t → Steps p.tables e below (s₁.setTop (entryFrame m #[(.int p1), (.long q1), (.long q2), (.long q3), (.long q4)] maxLocals)) t := fun t k => way13 t (by
    show Steps p.tables e below (T12.setTop (mkF m 41 #[.val (.int p1), .val (.long q1), .second, .val (.long q2), .second, .val (.long q3), .second, .val (.long q4), .second, .val (.int u2), .val (.long u5), .second, .val (.long u8), .second, .val (.long u11), .second, .unset, .unset, .unset, .unset] [(.long u14)])) _
    refine XS.lstore X12.here hx rfl (hb hby at_41) rfl (l' := #[.val (.int p1), .val (.long q1), .second, .val (.long q2), .second, .val (.long q3), .second, .val (.long q4), .second, .val (.int u2), .val (.long u5), .second, .val (.long u8), .second, .val (.long u11), .second, .val (.long u14), .second, .unset, .unset]) rfl ?_
    exact k)
  have h5 : u2 = (0 : Int32) ∨ u2 = (1 : Int32) ∨ u2 = (2 : Int32) ∨ u2 = (3 : Int32) ∨ u2 = (4 : Int32) := by rw [hu2]; exact own_n p1
  clear hu2
  rcases h5 with rfl | rfl | rfl | rfl | rfl
  ·
    obtain ⟨T16, h16, k16, X16, e16, E16, A16, st16⟩ := newP X12 hx hZ (hw _ (List.mem_of_getElem? (i := 4) rfl)) hh12 (g := (mkF m 45 #[.val (.int p1), .val (.long q1), .second, .val (.long q2), .second, .val (.long q3), .second, .val (.long q4), .second, .val (.int (0 : Int32)), .val (.long u5), .second, .val (.long u8), .second, .val (.long u11), .second, .val (.long u14), .second, .unset, .unset] [(.int (0 : Int32))])) rfl (hb hby at_45) rfl (by decide) (cap := 0) (by decide) (by decide) (by decide) (by decide)
    obtain ⟨b16, g16⟩ : ∃ z, z = h0.size := ⟨_, rfl⟩
    rw [← g16] at A16 st16
    have sz_b16 : h0.size ≤ b16 := Nat.le_trans (Keep.refl h0 []).1 (Nat.le_of_eq g16.symm)
    have g_b16 : n0 ≤ b16 := Nat.le_trans Z0 sz_b16
    have K16 : Keep h0 h16 [] := (Keep.refl h0 []).ext E16
    have V16 : Arv Z h16 b16 k16 .long (0 : Int32) [] (.long (0 : Int64)) := Arv.new A16 (by decide)
    obtain ⟨_, _, ⟨T17, L17, k17, n17⟩, -, X17, ⟨Lc17, hQ17, l17, y17, z17⟩, st17⟩ := Jvm.LawKit.callS X16 hx (y := (⟨"com/example/netloom/netloom/core/reachability/OmegaSetsOmegaCountPinLaw", "hit", "(ZJ)I"⟩ : MethodName)) hown (mvT hZ (hw _ (List.mem_of_getElem? (i := 5) rfl))) (mvT hZ (hw _ (List.mem_of_getElem? (i := 6) rfl))) (mvT hZ (hw _ (List.mem_of_getElem? (i := 2) rfl))) (mvT hZ (hw _ (List.mem_of_getElem? (i := 7) rfl))) (by decide) (backOf (W := 0) (rm_hit l Z a0 hw [] (0 : Int32) u5  h16 n0 (Nat.le_trans Z0 K16.1) ) hZ (hw _ (List.mem_of_getElem? (i := 7) rfl)) (hw _ (List.mem_of_getElem? (i := 2) rfl)) (by decide) (by decide)) (g := (mkF m 108 #[.val (.int p1), .val (.long q1), .second, .val (.long q2), .second, .val (.long q3), .second, .val (.long q4), .second, .val (.int (0 : Int32)), .val (.long u5), .second, .val (.long u8), .second, .val (.long u11), .second, .val (.long u14), .second, .val (.ref b16), .unset] [(.long u5), (.int (0 : Int32))])) rfl (by rw [hml]; rfl) (argsL := [(.int (0 : Int32)), (.long u5)]) (rest := []) (lenOf own_pd3 rfl) rfl (by show 2 * 0 + _ ≤ _; exact Nat.le_of_eq rfl) (hb hby at_108) (fun _ _ => ⟨rfl, e16, (by decide : 1 + 0 ≤ _), (by decide : 0 + 0 ≤ _)⟩)
    dsimp only [Pt.U, Pt.locs, Pt.cells, Pt.slots] at X17 l17 y17 z17 st17 hQ17
    subst l17 y17 z17
    obtain ⟨rfl, N17q, hh17⟩ := hQ17
    have N17 := Fr.app N12 N17q
    obtain ⟨_, _, ⟨T18, L18, k18, n18⟩, -, X18, ⟨Lc18, hQ18, l18, y18, z18⟩, st18⟩ := Jvm.LawKit.callS X17 hx (y := (⟨"com/example/netloom/netloom/core/reachability/OmegaSetsOmegaCountPinLaw", "hit", "(ZJ)I"⟩ : MethodName)) hown (mvT hZ (hw _ (List.mem_of_getElem? (i := 5) rfl))) (mvT hZ (hw _ (List.mem_of_getElem? (i := 6) rfl))) (mvT hZ (hw _ (List.mem_of_getElem? (i := 2) rfl))) (mvT hZ (hw _ (List.mem_of_getElem? (i := 7) rfl))) (by decide) (backOf (W := 1) (rm_hit l Z a0 hw [] (0 : Int32) u8  h16 n0 (Nat.le_trans Z0 K16.1) ) hZ (hw _ (List.mem_of_getElem? (i := 7) rfl)) (hw _ (List.mem_of_getElem? (i := 2) rfl)) (by decide) (by decide)) (g := (mkF m 124 #[.val (.int p1), .val (.long q1), .second, .val (.long q2), .second, .val (.long q3), .second, .val (.long q4), .second, .val (.int (0 : Int32)), .val (.long u5), .second, .val (.long u8), .second, .val (.long u11), .second, .val (.long u14), .second, .val (.ref b16), .unset] [(.long u8), (.int (0 : Int32)), (.int (own_hit (0 : Int32) u5))])) rfl (by rw [hml]; rfl) (argsL := [(.int (0 : Int32)), (.long u8)]) (rest := [(.int (own_hit (0 : Int32) u5))]) (lenOf own_pd3 rfl) rfl (by show 2 * 0 + _ ≤ _; exact Nat.le_of_eq rfl) (hb hby at_124) (fun _ _ => ⟨rfl, hh17, (by decide : 1 + 0 ≤ _), (by decide : 0 + 0 ≤ _)⟩)
    dsimp only [Pt.U, Pt.locs, Pt.cells, Pt.slots] at X18 l18 y18 z18 st18 hQ18
    subst l18 y18 z18
    obtain ⟨rfl, N18q, hh18⟩ := hQ18
    have N18 := Fr.app N17 N18q
    obtain ⟨_, _, ⟨T19, L19, k19, n19⟩, -, X19, ⟨Lc19, hQ19, l19, y19, z19⟩, st19⟩ := Jvm.LawKit.callS X18 hx (y := (⟨"com/example/netloom/netloom/core/reachability/OmegaSetsOmegaCountPinLaw", "hit", "(ZJ)I"⟩ : MethodName)) hown (mvT hZ (hw _ (List.mem_of_getElem? (i := 5) rfl))) (mvT hZ (hw _ (List.mem_of_getElem? (i := 6) rfl))) (mvT hZ (hw _ (List.mem_of_getElem? (i := 2) rfl))) (mvT hZ (hw _ (List.mem_of_getElem? (i := 7) rfl))) (by decide) (backOf (W := 1) (rm_hit l Z a0 hw [] (0 : Int32) u11  h16 n0 (Nat.le_trans Z0 K16.1) ) hZ (hw _ (List.mem_of_getElem? (i := 7) rfl)) (hw _ (List.mem_of_getElem? (i := 2) rfl)) (by decide) (by decide)) (g := (mkF m 141 #[.val (.int p1), .val (.long q1), .second, .val (.long q2), .second, .val (.long q3), .second, .val (.long q4), .second, .val (.int (0 : Int32)), .val (.long u5), .second, .val (.long u8), .second, .val (.long u11), .second, .val (.long u14), .second, .val (.ref b16), .unset] [(.long u11), (.int (0 : Int32)), (.int ((own_hit (0 : Int32) u5) + (own_hit (0 : Int32) u8)))])) rfl (by rw [hml]; rfl) (argsL := [(.int (0 : Int32)), (.long u11)]) (rest := [(.int ((own_hit (0 : Int32) u5) + (own_hit (0 : Int32) u8)))]) (lenOf own_pd3 rfl) rfl (by show 2 * 0 + _ ≤ _; exact Nat.le_of_eq rfl) (hb hby at_141) (fun _ _ => ⟨rfl, hh18, (by decide : 1 + 0 ≤ _), (by decide : 0 + 0 ≤ _)⟩)
    dsimp only [Pt.U, Pt.locs, Pt.cells, Pt.slots] at X19 l19 y19 z19 st19 hQ19
    subst l19 y19 z19
    obtain ⟨rfl, N19q, hh19⟩ := hQ19
    have N19 := Fr.app N18 N19q
    obtain ⟨_, _, ⟨T20, L20, k20, n20⟩, -, X20, ⟨Lc20, hQ20, l20, y20, z20⟩, st20⟩ := Jvm.LawKit.callS X19 hx (y := (⟨"com/example/netloom/netloom/core/reachability/OmegaSetsOmegaCountPinLaw", "hit", "(ZJ)I"⟩ : MethodName)) hown (mvT hZ (hw _ (List.mem_of_getElem? (i := 5) rfl))) (mvT hZ (hw _ (List.mem_of_getElem? (i := 6) rfl))) (mvT hZ (hw _ (List.mem_of_getElem? (i := 2) rfl))) (mvT hZ (hw _ (List.mem_of_getElem? (i := 7) rfl))) (by decide) (backOf (W := 1) (rm_hit l Z a0 hw [] (0 : Int32) u14  h16 n0 (Nat.le_trans Z0 K16.1) ) hZ (hw _ (List.mem_of_getElem? (i := 7) rfl)) (hw _ (List.mem_of_getElem? (i := 2) rfl)) (by decide) (by decide)) (g := (mkF m 158 #[.val (.int p1), .val (.long q1), .second, .val (.long q2), .second, .val (.long q3), .second, .val (.long q4), .second, .val (.int (0 : Int32)), .val (.long u5), .second, .val (.long u8), .second, .val (.long u11), .second, .val (.long u14), .second, .val (.ref b16), .unset] [(.long u14), (.int (0 : Int32)), (.int (((own_hit (0 : Int32) u5) + (own_hit (0 : Int32) u8)) + (own_hit (0 : Int32) u11)))])) rfl (by rw [hml]; rfl) (argsL := [(.int (0 : Int32)), (.long u14)]) (rest := [(.int (((own_hit (0 : Int32) u5) + (own_hit (0 : Int32) u8)) + (own_hit (0 : Int32) u11)))]) (lenOf own_pd3 rfl) rfl (by show 2 * 0 + _ ≤ _; exact Nat.le_of_eq rfl) (hb hby at_158) (fun _ _ => ⟨rfl, hh19, (by decide : 1 + 0 ≤ _), (by decide : 0 + 0 ≤ _)⟩)
    dsimp only [Pt.U, Pt.locs, Pt.cells, Pt.slots] at X20 l20 y20 z20 st20 hQ20
    subst l20 y20 z20
    obtain ⟨rfl, N20q, hh20⟩ := hQ20
    have N20 := Fr.app N19 N20q
    obtain ⟨_, _, ⟨T21, L21, k21, n21⟩, -, X21, ⟨Lc21, hQ21, l21, y21, z21⟩, st21⟩ := Jvm.LawKit.callS X20 hx (y := (⟨"com/example/netloom/netloom/core/reachability/OmegaSets", "omegaCount", "([J)I"⟩ : MethodName)) hown (mvT hZ (hw _ (List.mem_of_getElem? (i := 8) rfl))) (mvT hZ (hw _ (List.mem_of_getElem? (i := 9) rfl))) (mvT hZ (hw _ (List.mem_of_getElem? (i := 10) rfl))) (mvT hZ (hw _ (List.mem_of_getElem? (i := 11) rfl))) (by decide) (backOf (W := 0) (rm_oc0 l Z a0 hw [] b16 k16  h16 n0 (Nat.le_trans Z0 K16.1) V16) hZ (hw _ (List.mem_of_getElem? (i := 11) rfl)) (hw _ (List.mem_of_getElem? (i := 10) rfl)) (by decide) (by decide)) (g := (mkF m 166 #[.val (.int p1), .val (.long q1), .second, .val (.long q2), .second, .val (.long q3), .second, .val (.long q4), .second, .val (.int (0 : Int32)), .val (.long u5), .second, .val (.long u8), .second, .val (.long u11), .second, .val (.long u14), .second, .val (.ref b16), .val (.int ((((own_hit (0 : Int32) u5) + (own_hit (0 : Int32) u8)) + (own_hit (0 : Int32) u11)) + (own_hit (0 : Int32) u14)))] [(.ref b16)])) rfl (by rw [hml]; rfl) (argsL := [(.ref b16)]) (rest := []) (lenOf own_pd4 rfl) rfl (by show 2 * 0 + _ ≤ _; exact Nat.le_of_eq rfl) (hb hby at_166) (fun _ _ => ⟨rfl, hh20, (by decide : 1 + 0 ≤ _), (by decide : 0 + 0 ≤ _)⟩)
    dsimp only [Pt.U, Pt.locs, Pt.cells, Pt.slots] at X21 l21 y21 z21 st21 hQ21
    subst l21 y21 z21
    obtain ⟨rfl, N21q, hh21⟩ := hQ21
    have N21 := Fr.app N20 N21q
    have way22 : ∀ t, Steps p.tables e below (T21.setTop (mkF m 179 #[.val (.int p1), .val (.long q1), .second, .val (.long q2), .second, .val (.long q3), .second, .val (.long q4), .second, .val (.int (0 : Int32)), .val (.long u5), .second, .val (.long u8), .second, .val (.long u11), .second, .val (.long u14), .second, .val (.ref b16), .val (.int ((((own_hit (0 : Int32) u5) + (own_hit (0 : Int32) u8)) + (own_hit (0 : Int32) u11)) + (own_hit (0 : Int32) u14)))] [(.int (1 : Int32))])) t → Steps p.tables e below (s₁.setTop (entryFrame m #[(.int p1), (.long q1), (.long q2), (.long q3), (.long q4)] maxLocals)) t := fun t k => way15 t (by
      show Steps p.tables e below (T12.setTop (mkF m 43 #[.val (.int p1), .val (.long q1), .second, .val (.long q2), .second, .val (.long q3), .second, .val (.long q4), .second, .val (.int (0 : Int32)), .val (.long u5), .second, .val (.long u8), .second, .val (.long u11), .second, .val (.long u14), .second, .unset, .unset] [])) _
      refine XS.iload X12.here hx rfl (hb hby at_43) rfl ?_
      show Steps p.tables e below (T12.setTop (mkF m 45 #[.val (.int p1), .val (.long q1), .second, .val (.long q2), .second, .val (.long q3), .second, .val (.long q4), .second, .val (.int (0 : Int32)), .val (.long u5), .second, .val (.long u8), .second, .val (.long u11), .second, .val (.long u14), .second, .unset, .unset] [(.int (0 : Int32))])) _
      refine st16 _ ?_
      show Steps p.tables e below (T16.setTop (mkF m 47 #[.val (.int p1), .val (.long q1), .second, .val (.long q2), .second, .val (.long q3), .second, .val (.long q4), .second, .val (.int (0 : Int32)), .val (.long u5), .second, .val (.long u8), .second, .val (.long u11), .second, .val (.long u14), .second, .unset, .unset] [(.ref b16)])) _
      refine XS.astore X16.here hx rfl (hb hby at_47) rfl rfl (l' := #[.val (.int p1), .val (.long q1), .second, .val (.long q2), .second, .val (.long q3), .second, .val (.long q4), .second, .val (.int (0 : Int32)), .val (.long u5), .second, .val (.long u8), .second, .val (.long u11), .second, .val (.long u14), .second, .val (.ref b16), .unset]) rfl ?_
      show Steps p.tables e below (T16.setTop (mkF m 49 #[.val (.int p1), .val (.long q1), .second, .val (.long q2), .second, .val (.long q3), .second, .val (.long q4), .second, .val (.int (0 : Int32)), .val (.long u5), .second, .val (.long u8), .second, .val (.long u11), .second, .val (.long u14), .second, .val (.ref b16), .unset] [])) _
      refine XS.iload X16.here hx rfl (hb hby at_49) rfl ?_
      show Steps p.tables e below (T16.setTop (mkF m 51 #[.val (.int p1), .val (.long q1), .second, .val (.long q2), .second, .val (.long q3), .second, .val (.long q4), .second, .val (.int (0 : Int32)), .val (.long u5), .second, .val (.long u8), .second, .val (.long u11), .second, .val (.long u14), .second, .val (.ref b16), .unset] [(.int (0 : Int32))])) _
      refine XS.ifYes X16.here hx rfl (pc0 := 51) (pc' := 60) rfl (hb hby at_51) rfl ((if0 _ _).trans (flt (by decide)).2.2.2) (by decide) (by decide) ?_
      show Steps p.tables e below (T16.setTop (mkF m 60 #[.val (.int p1), .val (.long q1), .second, .val (.long q2), .second, .val (.long q3), .second, .val (.long q4), .second, .val (.int (0 : Int32)), .val (.long u5), .second, .val (.long u8), .second, .val (.long u11), .second, .val (.long u14), .second, .val (.ref b16), .unset] [])) _
      refine XS.iload X16.here hx rfl (hb hby at_60) rfl ?_
      show Steps p.tables e below (T16.setTop (mkF m 62 #[.val (.int p1), .val (.long q1), .second, .val (.long q2), .second, .val (.long q3), .second, .val (.long q4), .second, .val (.int (0 : Int32)), .val (.long u5), .second, .val (.long u8), .second, .val (.long u11), .second, .val (.long u14), .second, .val (.ref b16), .unset] [(.int (0 : Int32))])) _
      refine XS.iconst X16.here hx rfl (hb hby at_62) ?_
      show Steps p.tables e below (T16.setTop (mkF m 63 #[.val (.int p1), .val (.long q1), .second, .val (.long q2), .second, .val (.long q3), .second, .val (.long q4), .second, .val (.int (0 : Int32)), .val (.long u5), .second, .val (.long u8), .second, .val (.long u11), .second, .val (.long u14), .second, .val (.ref b16), .unset] [(.int (1 : Int32)), (.int (0 : Int32))])) _
      refine XS.icmpYes X16.here hx rfl (pc0 := 63) (pc' := 72) rfl (hb hby at_63) rfl (flt (by decide)).2.2.2 (by decide) (by decide) ?_
      show Steps p.tables e below (T16.setTop (mkF m 72 #[.val (.int p1), .val (.long q1), .second, .val (.long q2), .second, .val (.long q3), .second, .val (.long q4), .second, .val (.int (0 : Int32)), .val (.long u5), .second, .val (.long u8), .second, .val (.long u11), .second, .val (.long u14), .second, .val (.ref b16), .unset] [])) _
      refine XS.iload X16.here hx rfl (hb hby at_72) rfl ?_
      show Steps p.tables e below (T16.setTop (mkF m 74 #[.val (.int p1), .val (.long q1), .second, .val (.long q2), .second, .val (.long q3), .second, .val (.long q4), .second, .val (.int (0 : Int32)), .val (.long u5), .second, .val (.long u8), .second, .val (.long u11), .second, .val (.long u14), .second, .val (.ref b16), .unset] [(.int (0 : Int32))])) _
      refine XS.iconst X16.here hx rfl (hb hby at_74) ?_
      show Steps p.tables e below (T16.setTop (mkF m 75 #[.val (.int p1), .val (.long q1), .second, .val (.long q2), .second, .val (.long q3), .second, .val (.long q4), .second, .val (.int (0 : Int32)), .val (.long u5), .second, .val (.long u8), .second, .val (.long u11), .second, .val (.long u14), .second, .val (.ref b16), .unset] [(.int (2 : Int32)), (.int (0 : Int32))])) _
      refine XS.icmpYes X16.here hx rfl (pc0 := 75) (pc' := 84) rfl (hb hby at_75) rfl (flt (by decide)).2.2.2 (by decide) (by decide) ?_
      show Steps p.tables e below (T16.setTop (mkF m 84 #[.val (.int p1), .val (.long q1), .second, .val (.long q2), .second, .val (.long q3), .second, .val (.long q4), .second, .val (.int (0 : Int32)), .val (.long u5), .second, .val (.long u8), .second, .val (.long u11), .second, .val (.long u14), .second, .val (.ref b16), .unset] [])) _
      refine XS.iload X16.here hx rfl (hb hby at_84) rfl ?_
      show Steps p.tables e below (T16.setTop (mkF m 86 #[.val (.int p1), .val (.long q1), .second, .val (.long q2), .second, .val (.long q3), .second, .val (.long q4), .second, .val (.int (0 : Int32)), .val (.long u5), .second, .val (.long u8), .second, .val (.long u11), .second, .val (.long u14), .second, .val (.ref b16), .unset] [(.int (0 : Int32))])) _
      refine XS.iconst X16.here hx rfl (hb hby at_86) ?_
      show Steps p.tables e below (T16.setTop (mkF m 87 #[.val (.int p1), .val (.long q1), .second, .val (.long q2), .second, .val (.long q3), .second, .val (.long q4), .second, .val (.int (0 : Int32)), .val (.long u5), .second, .val (.long u8), .second, .val (.long u11), .second, .val (.long u14), .second, .val (.ref b16), .unset] [(.int (3 : Int32)), (.int (0 : Int32))])) _
      refine XS.icmpYes X16.here hx rfl (pc0 := 87) (pc' := 96) rfl (hb hby at_87) rfl (flt (by decide)).2.2.2 (by decide) (by decide) ?_
      show Steps p.tables e below (T16.setTop (mkF m 96 #[.val (.int p1), .val (.long q1), .second, .val (.long q2), .second, .val (.long q3), .second, .val (.long q4), .second, .val (.int (0 : Int32)), .val (.long u5), .second, .val (.long u8), .second, .val (.long u11), .second, .val (.long u14), .second, .val (.ref b16), .unset] [])) _
      refine XS.iload X16.here hx rfl (hb hby at_96) rfl ?_
      show Steps p.tables e below (T16.setTop (mkF m 98 #[.val (.int p1), .val (.long q1), .second, .val (.long q2), .second, .val (.long q3), .second, .val (.long q4), .second, .val (.int (0 : Int32)), .val (.long u5), .second, .val (.long u8), .second, .val (.long u11), .second, .val (.long u14), .second, .val (.ref b16), .unset] [(.int (0 : Int32))])) _
      refine XS.ifYes X16.here hx rfl (pc0 := 98) (pc' := 105) rfl (hb hby at_98) rfl ((if0 _ _).trans (flt (by decide)).2.2.2) (by decide) (by decide) ?_
      show Steps p.tables e below (T16.setTop (mkF m 105 #[.val (.int p1), .val (.long q1), .second, .val (.long q2), .second, .val (.long q3), .second, .val (.long q4), .second, .val (.int (0 : Int32)), .val (.long u5), .second, .val (.long u8), .second, .val (.long u11), .second, .val (.long u14), .second, .val (.ref b16), .unset] [])) _
      refine XS.iconst X16.here hx rfl (hb hby at_105) ?_
      show Steps p.tables e below (T16.setTop (mkF m 106 #[.val (.int p1), .val (.long q1), .second, .val (.long q2), .second, .val (.long q3), .second, .val (.long q4), .second, .val (.int (0 : Int32)), .val (.long u5), .second, .val (.long u8), .second, .val (.long u11), .second, .val (.long u14), .second, .val (.ref b16), .unset] [(.int (0 : Int32))])) _
      refine XS.lload X16.here hx rfl (hb hby at_106) rfl ?_
      show Steps p.tables e below (T16.setTop (mkF m 108 #[.val (.int p1), .val (.long q1), .second, .val (.long q2), .second, .val (.long q3), .second, .val (.long q4), .second, .val (.int (0 : Int32)), .val (.long u5), .second, .val (.long u8), .second, .val (.long u11), .second, .val (.long u14), .second, .val (.ref b16), .unset] [(.long u5), (.int (0 : Int32))])) _
      refine st17 _ ?_
      show Steps p.tables e below (T17.setTop (mkF m 111 #[.val (.int p1), .val (.long q1), .second, .val (.long q2), .second, .val (.long q3), .second, .val (.long q4), .second, .val (.int (0 : Int32)), .val (.long u5), .second, .val (.long u8), .second, .val (.long u11), .second, .val (.long u14), .second, .val (.ref b16), .unset] [(.int (own_hit (0 : Int32) u5))])) _
      refine XS.iload X17.here hx rfl (hb hby at_111) rfl ?_
      show Steps p.tables e below (T17.setTop (mkF m 113 #[.val (.int p1), .val (.long q1), .second, .val (.long q2), .second, .val (.long q3), .second, .val (.long q4), .second, .val (.int (0 : Int32)), .val (.long u5), .second, .val (.long u8), .second, .val (.long u11), .second, .val (.long u14), .second, .val (.ref b16), .unset] [(.int (0 : Int32)), (.int (own_hit (0 : Int32) u5))])) _
      refine XS.iconst X17.here hx rfl (hb hby at_113) ?_
      show Steps p.tables e below (T17.setTop (mkF m 114 #[.val (.int p1), .val (.long q1), .second, .val (.long q2), .second, .val (.long q3), .second, .val (.long q4), .second, .val (.int (0 : Int32)), .val (.long u5), .second, .val (.long u8), .second, .val (.long u11), .second, .val (.long u14), .second, .val (.ref b16), .unset] [(.int (1 : Int32)), (.int (0 : Int32)), (.int (own_hit (0 : Int32) u5))])) _
      refine XS.icmpYes X17.here hx rfl (pc0 := 114) (pc' := 121) rfl (hb hby at_114) rfl (flt (by decide)).2.2.2 (by decide) (by decide) ?_
      show Steps p.tables e below (T17.setTop (mkF m 121 #[.val (.int p1), .val (.long q1), .second, .val (.long q2), .second, .val (.long q3), .second, .val (.long q4), .second, .val (.int (0 : Int32)), .val (.long u5), .second, .val (.long u8), .second, .val (.long u11), .second, .val (.long u14), .second, .val (.ref b16), .unset] [(.int (own_hit (0 : Int32) u5))])) _
      refine XS.iconst X17.here hx rfl (hb hby at_121) ?_
      show Steps p.tables e below (T17.setTop (mkF m 122 #[.val (.int p1), .val (.long q1), .second, .val (.long q2), .second, .val (.long q3), .second, .val (.long q4), .second, .val (.int (0 : Int32)), .val (.long u5), .second, .val (.long u8), .second, .val (.long u11), .second, .val (.long u14), .second, .val (.ref b16), .unset] [(.int (0 : Int32)), (.int (own_hit (0 : Int32) u5))])) _
      refine XS.lload X17.here hx rfl (hb hby at_122) rfl ?_
      show Steps p.tables e below (T17.setTop (mkF m 124 #[.val (.int p1), .val (.long q1), .second, .val (.long q2), .second, .val (.long q3), .second, .val (.long q4), .second, .val (.int (0 : Int32)), .val (.long u5), .second, .val (.long u8), .second, .val (.long u11), .second, .val (.long u14), .second, .val (.ref b16), .unset] [(.long u8), (.int (0 : Int32)), (.int (own_hit (0 : Int32) u5))])) _
      refine st18 _ ?_
      show Steps p.tables e below (T18.setTop (mkF m 127 #[.val (.int p1), .val (.long q1), .second, .val (.long q2), .second, .val (.long q3), .second, .val (.long q4), .second, .val (.int (0 : Int32)), .val (.long u5), .second, .val (.long u8), .second, .val (.long u11), .second, .val (.long u14), .second, .val (.ref b16), .unset] [(.int (own_hit (0 : Int32) u8)), (.int (own_hit (0 : Int32) u5))])) _
      refine XS.iadd X18.here hx rfl (hb hby at_127) rfl ?_
      show Steps p.tables e below (T18.setTop (mkF m 128 #[.val (.int p1), .val (.long q1), .second, .val (.long q2), .second, .val (.long q3), .second, .val (.long q4), .second, .val (.int (0 : Int32)), .val (.long u5), .second, .val (.long u8), .second, .val (.long u11), .second, .val (.long u14), .second, .val (.ref b16), .unset] [(.int ((own_hit (0 : Int32) u5) + (own_hit (0 : Int32) u8)))])) _
      refine XS.iload X18.here hx rfl (hb hby at_128) rfl ?_
      show Steps p.tables e below (T18.setTop (mkF m 130 #[.val (.int p1), .val (.long q1), .second, .val (.long q2), .second, .val (.long q3), .second, .val (.long q4), .second, .val (.int (0 : Int32)), .val (.long u5), .second, .val (.long u8), .second, .val (.long u11), .second, .val (.long u14), .second, .val (.ref b16), .unset] [(.int (0 : Int32)), (.int ((own_hit (0 : Int32) u5) + (own_hit (0 : Int32) u8)))])) _
      refine XS.iconst X18.here hx rfl (hb hby at_130) ?_
      show Steps p.tables e below (T18.setTop (mkF m 131 #[.val (.int p1), .val (.long q1), .second, .val (.long q2), .second, .val (.long q3), .second, .val (.long q4), .second, .val (.int (0 : Int32)), .val (.long u5), .second, .val (.long u8), .second, .val (.long u11), .second, .val (.long u14), .second, .val (.ref b16), .unset] [(.int (2 : Int32)), (.int (0 : Int32)), (.int ((own_hit (0 : Int32) u5) + (own_hit (0 : Int32) u8)))])) _
      refine XS.icmpYes X18.here hx rfl (pc0 := 131) (pc' := 138) rfl (hb hby at_131) rfl (flt (by decide)).2.2.2 (by decide) (by decide) ?_
      show Steps p.tables e below (T18.setTop (mkF m 138 #[.val (.int p1), .val (.long q1), .second, .val (.long q2), .second, .val (.long q3), .second, .val (.long q4), .second, .val (.int (0 : Int32)), .val (.long u5), .second, .val (.long u8), .second, .val (.long u11), .second, .val (.long u14), .second, .val (.ref b16), .unset] [(.int ((own_hit (0 : Int32) u5) + (own_hit (0 : Int32) u8)))])) _
      refine XS.iconst X18.here hx rfl (hb hby at_138) ?_
      show Steps p.tables e below (T18.setTop (mkF m 139 #[.val (.int p1), .val (.long q1), .second, .val (.long q2), .second, .val (.long q3), .second, .val (.long q4), .second, .val (.int (0 : Int32)), .val (.long u5), .second, .val (.long u8), .second, .val (.long u11), .second, .val (.long u14), .second, .val (.ref b16), .unset] [(.int (0 : Int32)), (.int ((own_hit (0 : Int32) u5) + (own_hit (0 : Int32) u8)))])) _
      refine XS.lload X18.here hx rfl (hb hby at_139) rfl ?_
      show Steps p.tables e below (T18.setTop (mkF m 141 #[.val (.int p1), .val (.long q1), .second, .val (.long q2), .second, .val (.long q3), .second, .val (.long q4), .second, .val (.int (0 : Int32)), .val (.long u5), .second, .val (.long u8), .second, .val (.long u11), .second, .val (.long u14), .second, .val (.ref b16), .unset] [(.long u11), (.int (0 : Int32)), (.int ((own_hit (0 : Int32) u5) + (own_hit (0 : Int32) u8)))])) _
      refine st19 _ ?_
      show Steps p.tables e below (T19.setTop (mkF m 144 #[.val (.int p1), .val (.long q1), .second, .val (.long q2), .second, .val (.long q3), .second, .val (.long q4), .second, .val (.int (0 : Int32)), .val (.long u5), .second, .val (.long u8), .second, .val (.long u11), .second, .val (.long u14), .second, .val (.ref b16), .unset] [(.int (own_hit (0 : Int32) u11)), (.int ((own_hit (0 : Int32) u5) + (own_hit (0 : Int32) u8)))])) _
      refine XS.iadd X19.here hx rfl (hb hby at_144) rfl ?_
      show Steps p.tables e below (T19.setTop (mkF m 145 #[.val (.int p1), .val (.long q1), .second, .val (.long q2), .second, .val (.long q3), .second, .val (.long q4), .second, .val (.int (0 : Int32)), .val (.long u5), .second, .val (.long u8), .second, .val (.long u11), .second, .val (.long u14), .second, .val (.ref b16), .unset] [(.int (((own_hit (0 : Int32) u5) + (own_hit (0 : Int32) u8)) + (own_hit (0 : Int32) u11)))])) _
      refine XS.iload X19.here hx rfl (hb hby at_145) rfl ?_
      show Steps p.tables e below (T19.setTop (mkF m 147 #[.val (.int p1), .val (.long q1), .second, .val (.long q2), .second, .val (.long q3), .second, .val (.long q4), .second, .val (.int (0 : Int32)), .val (.long u5), .second, .val (.long u8), .second, .val (.long u11), .second, .val (.long u14), .second, .val (.ref b16), .unset] [(.int (0 : Int32)), (.int (((own_hit (0 : Int32) u5) + (own_hit (0 : Int32) u8)) + (own_hit (0 : Int32) u11)))])) _
      refine XS.iconst X19.here hx rfl (hb hby at_147) ?_
      show Steps p.tables e below (T19.setTop (mkF m 148 #[.val (.int p1), .val (.long q1), .second, .val (.long q2), .second, .val (.long q3), .second, .val (.long q4), .second, .val (.int (0 : Int32)), .val (.long u5), .second, .val (.long u8), .second, .val (.long u11), .second, .val (.long u14), .second, .val (.ref b16), .unset] [(.int (3 : Int32)), (.int (0 : Int32)), (.int (((own_hit (0 : Int32) u5) + (own_hit (0 : Int32) u8)) + (own_hit (0 : Int32) u11)))])) _
      refine XS.icmpYes X19.here hx rfl (pc0 := 148) (pc' := 155) rfl (hb hby at_148) rfl (flt (by decide)).2.2.2 (by decide) (by decide) ?_
      show Steps p.tables e below (T19.setTop (mkF m 155 #[.val (.int p1), .val (.long q1), .second, .val (.long q2), .second, .val (.long q3), .second, .val (.long q4), .second, .val (.int (0 : Int32)), .val (.long u5), .second, .val (.long u8), .second, .val (.long u11), .second, .val (.long u14), .second, .val (.ref b16), .unset] [(.int (((own_hit (0 : Int32) u5) + (own_hit (0 : Int32) u8)) + (own_hit (0 : Int32) u11)))])) _
      refine XS.iconst X19.here hx rfl (hb hby at_155) ?_
      show Steps p.tables e below (T19.setTop (mkF m 156 #[.val (.int p1), .val (.long q1), .second, .val (.long q2), .second, .val (.long q3), .second, .val (.long q4), .second, .val (.int (0 : Int32)), .val (.long u5), .second, .val (.long u8), .second, .val (.long u11), .second, .val (.long u14), .second, .val (.ref b16), .unset] [(.int (0 : Int32)), (.int (((own_hit (0 : Int32) u5) + (own_hit (0 : Int32) u8)) + (own_hit (0 : Int32) u11)))])) _
      refine XS.lload X19.here hx rfl (hb hby at_156) rfl ?_
      show Steps p.tables e below (T19.setTop (mkF m 158 #[.val (.int p1), .val (.long q1), .second, .val (.long q2), .second, .val (.long q3), .second, .val (.long q4), .second, .val (.int (0 : Int32)), .val (.long u5), .second, .val (.long u8), .second, .val (.long u11), .second, .val (.long u14), .second, .val (.ref b16), .unset] [(.long u14), (.int (0 : Int32)), (.int (((own_hit (0 : Int32) u5) + (own_hit (0 : Int32) u8)) + (own_hit (0 : Int32) u11)))])) _
      refine st20 _ ?_
      show Steps p.tables e below (T20.setTop (mkF m 161 #[.val (.int p1), .val (.long q1), .second, .val (.long q2), .second, .val (.long q3), .second, .val (.long q4), .second, .val (.int (0 : Int32)), .val (.long u5), .second, .val (.long u8), .second, .val (.long u11), .second, .val (.long u14), .second, .val (.ref b16), .unset] [(.int (own_hit (0 : Int32) u14)), (.int (((own_hit (0 : Int32) u5) + (own_hit (0 : Int32) u8)) + (own_hit (0 : Int32) u11)))])) _
      refine XS.iadd X20.here hx rfl (hb hby at_161) rfl ?_
      show Steps p.tables e below (T20.setTop (mkF m 162 #[.val (.int p1), .val (.long q1), .second, .val (.long q2), .second, .val (.long q3), .second, .val (.long q4), .second, .val (.int (0 : Int32)), .val (.long u5), .second, .val (.long u8), .second, .val (.long u11), .second, .val (.long u14), .second, .val (.ref b16), .unset] [(.int ((((own_hit (0 : Int32) u5) + (own_hit (0 : Int32) u8)) + (own_hit (0 : Int32) u11)) + (own_hit (0 : Int32) u14)))])) _
      refine XS.istore X20.here hx rfl (hb hby at_162) rfl (l' := #[.val (.int p1), .val (.long q1), .second, .val (.long q2), .second, .val (.long q3), .second, .val (.long q4), .second, .val (.int (0 : Int32)), .val (.long u5), .second, .val (.long u8), .second, .val (.long u11), .second, .val (.long u14), .second, .val (.ref b16), .val (.int ((((own_hit (0 : Int32) u5) + (own_hit (0 : Int32) u8)) + (own_hit (0 : Int32) u11)) + (own_hit (0 : Int32) u14)))]) rfl ?_
      show Steps p.tables e below (T20.setTop (mkF m 164 #[.val (.int p1), .val (.long q1), .second, .val (.long q2), .second, .val (.long q3), .second, .val (.long q4), .second, .val (.int (0 : Int32)), .val (.long u5), .second, .val (.long u8), .second, .val (.long u11), .second, .val (.long u14), .second, .val (.ref b16), .val (.int ((((own_hit (0 : Int32) u5) + (own_hit (0 : Int32) u8)) + (own_hit (0 : Int32) u11)) + (own_hit (0 : Int32) u14)))] [])) _
      refine XS.aload X20.here hx rfl (hb hby at_164) rfl rfl ?_
      show Steps p.tables e below (T20.setTop (mkF m 166 #[.val (.int p1), .val (.long q1), .second, .val (.long q2), .second, .val (.long q3), .second, .val (.long q4), .second, .val (.int (0 : Int32)), .val (.long u5), .second, .val (.long u8), .second, .val (.long u11), .second, .val (.long u14), .second, .val (.ref b16), .val (.int ((((own_hit (0 : Int32) u5) + (own_hit (0 : Int32) u8)) + (own_hit (0 : Int32) u11)) + (own_hit (0 : Int32) u14)))] [(.ref b16)])) _
      refine st21 _ ?_
      show Steps p.tables e below (T21.setTop (mkF m 169 #[.val (.int p1), .val (.long q1), .second, .val (.long q2), .second, .val (.long q3), .second, .val (.long q4), .second, .val (.int (0 : Int32)), .val (.long u5), .second, .val (.long u8), .second, .val (.long u11), .second, .val (.long u14), .second, .val (.ref b16), .val (.int ((((own_hit (0 : Int32) u5) + (own_hit (0 : Int32) u8)) + (own_hit (0 : Int32) u11)) + (own_hit (0 : Int32) u14)))] [(.int (0 : Int32))])) _
      refine XS.iload X21.here hx rfl (hb hby at_169) rfl ?_
      show Steps p.tables e below (T21.setTop (mkF m 171 #[.val (.int p1), .val (.long q1), .second, .val (.long q2), .second, .val (.long q3), .second, .val (.long q4), .second, .val (.int (0 : Int32)), .val (.long u5), .second, .val (.long u8), .second, .val (.long u11), .second, .val (.long u14), .second, .val (.ref b16), .val (.int ((((own_hit (0 : Int32) u5) + (own_hit (0 : Int32) u8)) + (own_hit (0 : Int32) u11)) + (own_hit (0 : Int32) u14)))] [(.int ((((own_hit (0 : Int32) u5) + (own_hit (0 : Int32) u8)) + (own_hit (0 : Int32) u11)) + (own_hit (0 : Int32) u14))), (.int (0 : Int32))])) _
      refine XS.icmpNo X21.here hx rfl (hb hby at_171) rfl (teq (own_c0 u5 u8 u11 u14)).2 ?_
      show Steps p.tables e below (T21.setTop (mkF m 174 #[.val (.int p1), .val (.long q1), .second, .val (.long q2), .second, .val (.long q3), .second, .val (.long q4), .second, .val (.int (0 : Int32)), .val (.long u5), .second, .val (.long u8), .second, .val (.long u11), .second, .val (.long u14), .second, .val (.ref b16), .val (.int ((((own_hit (0 : Int32) u5) + (own_hit (0 : Int32) u8)) + (own_hit (0 : Int32) u11)) + (own_hit (0 : Int32) u14)))] [])) _
      refine XS.iconst X21.here hx rfl (hb hby at_174) ?_
      show Steps p.tables e below (T21.setTop (mkF m 175 #[.val (.int p1), .val (.long q1), .second, .val (.long q2), .second, .val (.long q3), .second, .val (.long q4), .second, .val (.int (0 : Int32)), .val (.long u5), .second, .val (.long u8), .second, .val (.long u11), .second, .val (.long u14), .second, .val (.ref b16), .val (.int ((((own_hit (0 : Int32) u5) + (own_hit (0 : Int32) u8)) + (own_hit (0 : Int32) u11)) + (own_hit (0 : Int32) u14)))] [(.int (1 : Int32))])) _
      refine XS.goto X21.here hx rfl (pc0 := 175) (pc' := 179) rfl (hb hby at_175) (by decide) (by decide) ?_
      exact k)
    obtain ⟨fs, hr, hrun, hended, hW, hsame⟩ := X21.leave (v := some (.int (1 : Int32))) (fun h => by rw [Bd.returns] at h; cases h)
    refine ⟨_, _, way22 _ ?_, hrun, hended, _, _, rfl, ?_, ⟨_, rfl⟩, hW, hsame.mono (by decide) (by decide)⟩
    · show Steps p.tables e below (T21.setTop (mkF m 179 #[.val (.int p1), .val (.long q1), .second, .val (.long q2), .second, .val (.long q3), .second, .val (.long q4), .second, .val (.int (0 : Int32)), .val (.long u5), .second, .val (.long u8), .second, .val (.long u11), .second, .val (.long u14), .second, .val (.ref b16), .val (.int ((((own_hit (0 : Int32) u5) + (own_hit (0 : Int32) u8)) + (own_hit (0 : Int32) u11)) + (own_hit (0 : Int32) u14)))] [(.int (1 : Int32))])) _
      exact retN X21 hx (t := .boolean) Bd.returns (by simp) (hb hby at_179) hr
    · show Q_law Z p1 q1 q2 q3 q4 h0 n0 _ T21.heap _
      rw [hh21]
      exact ⟨rfl, N21⟩
  ·
    obtain ⟨T23, h23, k23, X23, e23, E23, A23, st23⟩ := newP X12 hx hZ (hw _ (List.mem_of_getElem? (i := 4) rfl)) hh12 (g := (mkF m 45 #[.val (.int p1), .val (.long q1), .second, .val (.long q2), .second, .val (.long q3), .second, .val (.long q4), .second, .val (.int (1 : Int32)), .val (.long u5), .second, .val (.long u8), .second, .val (.long u11), .second, .val (.long u14), .second, .unset, .unset] [(.int (1 : Int32))])) rfl (hb hby at_45) rfl (by decide) (cap := 1) (by decide) (by decide) (by decide) (by decide)
    obtain ⟨b23, g23⟩ : ∃ z, z = h0.size := ⟨_, rfl⟩
    rw [← g23] at A23 st23
    have sz_b23 : h0.size ≤ b23 := Nat.le_trans (Keep.refl h0 []).1 (Nat.le_of_eq g23.symm)
    have g_b23 : n0 ≤ b23 := Nat.le_trans Z0 sz_b23
    have K23 : Keep h0 h23 [] := (Keep.refl h0 []).ext E23
    have V23 : Arv Z h23 b23 k23 .long (1 : Int32) [(.long (0 : Int64))] (.long (0 : Int64)) := (Arv.new A23 (by decide)).pad (pad_rep [] (.long (0 : Int64)) 1)
    obtain ⟨cl24, Ar24, aq24, S24, M24, H24, G24⟩ := id V23
    have hin24 : ¬ ((0 : Int32) < 0 ∨ cl24.slots.size ≤ ((0 : Int32)).toNatClampNeg) := by rw [S24]; decide
    obtain ⟨T24, h24, X24, e24, W24, st24⟩ := stJ X23 hx hZ e23 Ar24 (j := (0 : Int32)) hin24 (g := (mkF m 59 #[.val (.int p1), .val (.long q1), .second, .val (.long q2), .second, .val (.long q3), .second, .val (.long q4), .second, .val (.int (1 : Int32)), .val (.long u5), .second, .val (.long u8), .second, .val (.long u11), .second, .val (.long u14), .second, .val (.ref b23), .unset] [(.long u5), (.int (0 : Int32)), (.ref b23)])) rfl rfl (hb hby at_59)
    have K24 : Keep h0 h24 [] := K23.wr W24 (Or.inr sz_b23)
    have N24 := Fr.snoc X24 N12 g_b23
    have V24 : Arv Z h24 b23 k23 .long (1 : Int32) [(.long u5)] (.long (0 : Int64)) := Arv.set Ar24 aq24 S24 M24 H24 G24 rfl W24 0 rfl (Nat.le_of_ble_eq_true rfl)
    obtain ⟨_, _, ⟨T25, L25, k25, n25⟩, -, X25, ⟨Lc25, hQ25, l25, y25, z25⟩, st25⟩ := Jvm.LawKit.callS X24 hx (y := (⟨"com/example/netloom/netloom/core/reachability/OmegaSetsOmegaCountPinLaw", "hit", "(ZJ)I"⟩ : MethodName)) hown (mvT hZ (hw _ (List.mem_of_getElem? (i := 5) rfl))) (mvT hZ (hw _ (List.mem_of_getElem? (i := 6) rfl))) (mvT hZ (hw _ (List.mem_of_getElem? (i := 2) rfl))) (mvT hZ (hw _ (List.mem_of_getElem? (i := 7) rfl))) (by decide) (backOf (W := 0) (rm_hit l Z a0 hw [] (1 : Int32) u5  h24 n0 (Nat.le_trans Z0 K24.1) ) hZ (hw _ (List.mem_of_getElem? (i := 7) rfl)) (hw _ (List.mem_of_getElem? (i := 2) rfl)) (by decide) (by decide)) (g := (mkF m 108 #[.val (.int p1), .val (.long q1), .second, .val (.long q2), .second, .val (.long q3), .second, .val (.long q4), .second, .val (.int (1 : Int32)), .val (.long u5), .second, .val (.long u8), .second, .val (.long u11), .second, .val (.long u14), .second, .val (.ref b23), .unset] [(.long u5), (.int (1 : Int32))])) rfl (by rw [hml]; rfl) (argsL := [(.int (1 : Int32)), (.long u5)]) (rest := []) (lenOf own_pd3 rfl) rfl (by show 2 * 0 + _ ≤ _; exact Nat.le_of_eq rfl) (hb hby at_108) (fun _ _ => ⟨rfl, e24, (by decide : 1 + 0 ≤ _), (by decide : 1 + 0 ≤ _)⟩)
    dsimp only [Pt.U, Pt.locs, Pt.cells, Pt.slots] at X25 l25 y25 z25 st25 hQ25
    subst l25 y25 z25
    obtain ⟨rfl, N25q, hh25⟩ := hQ25
    have N25 := Fr.app N24 N25q
    obtain ⟨_, _, ⟨T26, L26, k26, n26⟩, -, X26, ⟨Lc26, hQ26, l26, y26, z26⟩, st26⟩ := Jvm.LawKit.callS X25 hx (y := (⟨"com/example/netloom/netloom/core/reachability/OmegaSetsOmegaCountPinLaw", "hit", "(ZJ)I"⟩ : MethodName)) hown (mvT hZ (hw _ (List.mem_of_getElem? (i := 5) rfl))) (mvT hZ (hw _ (List.mem_of_getElem? (i := 6) rfl))) (mvT hZ (hw _ (List.mem_of_getElem? (i := 2) rfl))) (mvT hZ (hw _ (List.mem_of_getElem? (i := 7) rfl))) (by decide) (backOf (W := 1) (rm_hit l Z a0 hw [] (0 : Int32) u8  h24 n0 (Nat.le_trans Z0 K24.1) ) hZ (hw _ (List.mem_of_getElem? (i := 7) rfl)) (hw _ (List.mem_of_getElem? (i := 2) rfl)) (by decide) (by decide)) (g := (mkF m 124 #[.val (.int p1), .val (.long q1), .second, .val (.long q2), .second, .val (.long q3), .second, .val (.long q4), .second, .val (.int (1 : Int32)), .val (.long u5), .second, .val (.long u8), .second, .val (.long u11), .second, .val (.long u14), .second, .val (.ref b23), .unset] [(.long u8), (.int (0 : Int32)), (.int (own_hit (1 : Int32) u5))])) rfl (by rw [hml]; rfl) (argsL := [(.int (0 : Int32)), (.long u8)]) (rest := [(.int (own_hit (1 : Int32) u5))]) (lenOf own_pd3 rfl) rfl (by show 2 * 0 + _ ≤ _; exact Nat.le_of_eq rfl) (hb hby at_124) (fun _ _ => ⟨rfl, hh25, (by decide : 1 + 0 ≤ _), (by decide : 1 + 0 ≤ _)⟩)
    dsimp only [Pt.U, Pt.locs, Pt.cells, Pt.slots] at X26 l26 y26 z26 st26 hQ26
    subst l26 y26 z26
    obtain ⟨rfl, N26q, hh26⟩ := hQ26
    have N26 := Fr.app N25 N26q
    obtain ⟨_, _, ⟨T27, L27, k27, n27⟩, -, X27, ⟨Lc27, hQ27, l27, y27, z27⟩, st27⟩ := Jvm.LawKit.callS X26 hx (y := (⟨"com/example/netloom/netloom/core/reachability/OmegaSetsOmegaCountPinLaw", "hit", "(ZJ)I"⟩ : MethodName)) hown (mvT hZ (hw _ (List.mem_of_getElem? (i := 5) rfl))) (mvT hZ (hw _ (List.mem_of_getElem? (i := 6) rfl))) (mvT hZ (hw _ (List.mem_of_getElem? (i := 2) rfl))) (mvT hZ (hw _ (List.mem_of_getElem? (i := 7) rfl))) (by decide) (backOf (W := 1) (rm_hit l Z a0 hw [] (0 : Int32) u11  h24 n0 (Nat.le_trans Z0 K24.1) ) hZ (hw _ (List.mem_of_getElem? (i := 7) rfl)) (hw _ (List.mem_of_getElem? (i := 2) rfl)) (by decide) (by decide)) (g := (mkF m 141 #[.val (.int p1), .val (.long q1), .second, .val (.long q2), .second, .val (.long q3), .second, .val (.long q4), .second, .val (.int (1 : Int32)), .val (.long u5), .second, .val (.long u8), .second, .val (.long u11), .second, .val (.long u14), .second, .val (.ref b23), .unset] [(.long u11), (.int (0 : Int32)), (.int ((own_hit (1 : Int32) u5) + (own_hit (0 : Int32) u8)))])) rfl (by rw [hml]; rfl) (argsL := [(.int (0 : Int32)), (.long u11)]) (rest := [(.int ((own_hit (1 : Int32) u5) + (own_hit (0 : Int32) u8)))]) (lenOf own_pd3 rfl) rfl (by show 2 * 0 + _ ≤ _; exact Nat.le_of_eq rfl) (hb hby at_141) (fun _ _ => ⟨rfl, hh26, (by decide : 1 + 0 ≤ _), (by decide : 1 + 0 ≤ _)⟩)
    dsimp only [Pt.U, Pt.locs, Pt.cells, Pt.slots] at X27 l27 y27 z27 st27 hQ27
    subst l27 y27 z27
    obtain ⟨rfl, N27q, hh27⟩ := hQ27
    have N27 := Fr.app N26 N27q
    obtain ⟨_, _, ⟨T28, L28, k28, n28⟩, -, X28, ⟨Lc28, hQ28, l28, y28, z28⟩, st28⟩ := Jvm.LawKit.callS X27 hx (y := (⟨"com/example/netloom/netloom/core/reachability/OmegaSetsOmegaCountPinLaw", "hit", "(ZJ)I"⟩ : MethodName)) hown (mvT hZ (hw _ (List.mem_of_getElem? (i := 5) rfl))) (mvT hZ (hw _ (List.mem_of_getElem? (i := 6) rfl))) (mvT hZ (hw _ (List.mem_of_getElem? (i := 2) rfl))) (mvT hZ (hw _ (List.mem_of_getElem? (i := 7) rfl))) (by decide) (backOf (W := 1) (rm_hit l Z a0 hw [] (0 : Int32) u14  h24 n0 (Nat.le_trans Z0 K24.1) ) hZ (hw _ (List.mem_of_getElem? (i := 7) rfl)) (hw _ (List.mem_of_getElem? (i := 2) rfl)) (by decide) (by decide)) (g := (mkF m 158 #[.val (.int p1), .val (.long q1), .second, .val (.long q2), .second, .val (.long q3), .second, .val (.long q4), .second, .val (.int (1 : Int32)), .val (.long u5), .second, .val (.long u8), .second, .val (.long u11), .second, .val (.long u14), .second, .val (.ref b23), .unset] [(.long u14), (.int (0 : Int32)), (.int (((own_hit (1 : Int32) u5) + (own_hit (0 : Int32) u8)) + (own_hit (0 : Int32) u11)))])) rfl (by rw [hml]; rfl) (argsL := [(.int (0 : Int32)), (.long u14)]) (rest := [(.int (((own_hit (1 : Int32) u5) + (own_hit (0 : Int32) u8)) + (own_hit (0 : Int32) u11)))]) (lenOf own_pd3 rfl) rfl (by show 2 * 0 + _ ≤ _; exact Nat.le_of_eq rfl) (hb hby at_158) (fun _ _ => ⟨rfl, hh27, (by decide : 1 + 0 ≤ _), (by decide : 1 + 0 ≤ _)⟩)
    dsimp only [Pt.U, Pt.locs, Pt.cells, Pt.slots] at X28 l28 y28 z28 st28 hQ28
    subst l28 y28 z28
    obtain ⟨rfl, N28q, hh28⟩ := hQ28
    have N28 := Fr.app N27 N28q
    obtain ⟨_, _, ⟨T29, L29, k29, n29⟩, -, X29, ⟨Lc29, hQ29, l29, y29, z29⟩, st29⟩ := Jvm.LawKit.callS X28 hx (y := (⟨"com/example/netloom/netloom/core/reachability/OmegaSets", "omegaCount", "([J)I"⟩ : MethodName)) hown (mvT hZ (hw _ (List.mem_of_getElem? (i := 8) rfl))) (mvT hZ (hw _ (List.mem_of_getElem? (i := 9) rfl))) (mvT hZ (hw _ (List.mem_of_getElem? (i := 10) rfl))) (mvT hZ (hw _ (List.mem_of_getElem? (i := 11) rfl))) (by decide) (backOf (W := 0) (rm_oc1 l Z a0 hw [] b23 k23 u5 h24 n0 (Nat.le_trans Z0 K24.1) V24) hZ (hw _ (List.mem_of_getElem? (i := 11) rfl)) (hw _ (List.mem_of_getElem? (i := 10) rfl)) (by decide) (by decide)) (g := (mkF m 166 #[.val (.int p1), .val (.long q1), .second, .val (.long q2), .second, .val (.long q3), .second, .val (.long q4), .second, .val (.int (1 : Int32)), .val (.long u5), .second, .val (.long u8), .second, .val (.long u11), .second, .val (.long u14), .second, .val (.ref b23), .val (.int ((((own_hit (1 : Int32) u5) + (own_hit (0 : Int32) u8)) + (own_hit (0 : Int32) u11)) + (own_hit (0 : Int32) u14)))] [(.ref b23)])) rfl (by rw [hml]; rfl) (argsL := [(.ref b23)]) (rest := []) (lenOf own_pd4 rfl) rfl (by show 2 * 0 + _ ≤ _; exact Nat.le_of_eq rfl) (hb hby at_166) (fun _ _ => ⟨rfl, hh28, (by decide : 1 + 0 ≤ _), (by decide : 1 + 0 ≤ _)⟩)
    dsimp only [Pt.U, Pt.locs, Pt.cells, Pt.slots] at X29 l29 y29 z29 st29 hQ29
    subst l29 y29 z29
    obtain ⟨rfl, N29q, hh29⟩ := hQ29
    have N29 := Fr.app N28 N29q
    have way30 : ∀ t, Steps p.tables e below (T29.setTop (mkF m 179 #[.val (.int p1), .val (.long q1), .second, .val (.long q2), .second, .val (.long q3), .second, .val (.long q4), .second, .val (.int (1 : Int32)), .val (.long u5), .second, .val (.long u8), .second, .val (.long u11), .second, .val (.long u14), .second, .val (.ref b23), .val (.int ((((own_hit (1 : Int32) u5) + (own_hit (0 : Int32) u8)) + (own_hit (0 : Int32) u11)) + (own_hit (0 : Int32) u14)))] [(.int (1 : Int32))])) t → Steps p.tables e below (s₁.setTop (entryFrame m #[(.int p1), (.long q1), (.long q2), (.long q3), (.long q4)] maxLocals)) t := fun t k => way15 t (by
      show Steps p.tables e below (T12.setTop (mkF m 43 #[.val (.int p1), .val (.long q1), .second, .val (.long q2), .second, .val (.long q3), .second, .val (.long q4), .second, .val (.int (1 : Int32)), .val (.long u5), .second, .val (.long u8), .second, .val (.long u11), .second, .val (.long u14), .second, .unset, .unset] [])) _
      refine XS.iload X12.here hx rfl (hb hby at_43) rfl ?_
      show Steps p.tables e below (T12.setTop (mkF m 45 #[.val (.int p1), .val (.long q1), .second, .val (.long q2), .second, .val (.long q3), .second, .val (.long q4), .second, .val (.int (1 : Int32)), .val (.long u5), .second, .val (.long u8), .second, .val (.long u11), .second, .val (.long u14), .second, .unset, .unset] [(.int (1 : Int32))])) _
      refine st23 _ ?_
      show Steps p.tables e below (T23.setTop (mkF m 47 #[.val (.int p1), .val (.long q1), .second, .val (.long q2), .second, .val (.long q3), .second, .val (.long q4), .second, .val (.int (1 : Int32)), .val (.long u5), .second, .val (.long u8), .second, .val (.long u11), .second, .val (.long u14), .second, .unset, .unset] [(.ref b23)])) _
      refine XS.astore X23.here hx rfl (hb hby at_47) rfl rfl (l' := #[.val (.int p1), .val (.long q1), .second, .val (.long q2), .second, .val (.long q3), .second, .val (.long q4), .second, .val (.int (1 : Int32)), .val (.long u5), .second, .val (.long u8), .second, .val (.long u11), .second, .val (.long u14), .second, .val (.ref b23), .unset]) rfl ?_
      show Steps p.tables e below (T23.setTop (mkF m 49 #[.val (.int p1), .val (.long q1), .second, .val (.long q2), .second, .val (.long q3), .second, .val (.long q4), .second, .val (.int (1 : Int32)), .val (.long u5), .second, .val (.long u8), .second, .val (.long u11), .second, .val (.long u14), .second, .val (.ref b23), .unset] [])) _
      refine XS.iload X23.here hx rfl (hb hby at_49) rfl ?_
      show Steps p.tables e below (T23.setTop (mkF m 51 #[.val (.int p1), .val (.long q1), .second, .val (.long q2), .second, .val (.long q3), .second, .val (.long q4), .second, .val (.int (1 : Int32)), .val (.long u5), .second, .val (.long u8), .second, .val (.long u11), .second, .val (.long u14), .second, .val (.ref b23), .unset] [(.int (1 : Int32))])) _
      refine XS.ifNo X23.here hx rfl (hb hby at_51) rfl ((if0 _ _).trans (tlt (by decide)).2.2.2) ?_
      show Steps p.tables e below (T23.setTop (mkF m 54 #[.val (.int p1), .val (.long q1), .second, .val (.long q2), .second, .val (.long q3), .second, .val (.long q4), .second, .val (.int (1 : Int32)), .val (.long u5), .second, .val (.long u8), .second, .val (.long u11), .second, .val (.long u14), .second, .val (.ref b23), .unset] [])) _
      refine XS.aload X23.here hx rfl (hb hby at_54) rfl rfl ?_
      show Steps p.tables e below (T23.setTop (mkF m 56 #[.val (.int p1), .val (.long q1), .second, .val (.long q2), .second, .val (.long q3), .second, .val (.long q4), .second, .val (.int (1 : Int32)), .val (.long u5), .second, .val (.long u8), .second, .val (.long u11), .second, .val (.long u14), .second, .val (.ref b23), .unset] [(.ref b23)])) _
      refine XS.iconst X23.here hx rfl (hb hby at_56) ?_
      show Steps p.tables e below (T23.setTop (mkF m 57 #[.val (.int p1), .val (.long q1), .second, .val (.long q2), .second, .val (.long q3), .second, .val (.long q4), .second, .val (.int (1 : Int32)), .val (.long u5), .second, .val (.long u8), .second, .val (.long u11), .second, .val (.long u14), .second, .val (.ref b23), .unset] [(.int (0 : Int32)), (.ref b23)])) _
      refine XS.lload X23.here hx rfl (hb hby at_57) rfl ?_
      show Steps p.tables e below (T23.setTop (mkF m 59 #[.val (.int p1), .val (.long q1), .second, .val (.long q2), .second, .val (.long q3), .second, .val (.long q4), .second, .val (.int (1 : Int32)), .val (.long u5), .second, .val (.long u8), .second, .val (.long u11), .second, .val (.long u14), .second, .val (.ref b23), .unset] [(.long u5), (.int (0 : Int32)), (.ref b23)])) _
      refine st24 _ ?_
      show Steps p.tables e below (T24.setTop (mkF m 60 #[.val (.int p1), .val (.long q1), .second, .val (.long q2), .second, .val (.long q3), .second, .val (.long q4), .second, .val (.int (1 : Int32)), .val (.long u5), .second, .val (.long u8), .second, .val (.long u11), .second, .val (.long u14), .second, .val (.ref b23), .unset] [])) _
      refine XS.iload X24.here hx rfl (hb hby at_60) rfl ?_
      show Steps p.tables e below (T24.setTop (mkF m 62 #[.val (.int p1), .val (.long q1), .second, .val (.long q2), .second, .val (.long q3), .second, .val (.long q4), .second, .val (.int (1 : Int32)), .val (.long u5), .second, .val (.long u8), .second, .val (.long u11), .second, .val (.long u14), .second, .val (.ref b23), .unset] [(.int (1 : Int32))])) _
      refine XS.iconst X24.here hx rfl (hb hby at_62) ?_
      show Steps p.tables e below (T24.setTop (mkF m 63 #[.val (.int p1), .val (.long q1), .second, .val (.long q2), .second, .val (.long q3), .second, .val (.long q4), .second, .val (.int (1 : Int32)), .val (.long u5), .second, .val (.long u8), .second, .val (.long u11), .second, .val (.long u14), .second, .val (.ref b23), .unset] [(.int (1 : Int32)), (.int (1 : Int32))])) _
      refine XS.icmpYes X24.here hx rfl (pc0 := 63) (pc' := 72) rfl (hb hby at_63) rfl (flt (by decide)).2.2.2 (by decide) (by decide) ?_
      show Steps p.tables e below (T24.setTop (mkF m 72 #[.val (.int p1), .val (.long q1), .second, .val (.long q2), .second, .val (.long q3), .second, .val (.long q4), .second, .val (.int (1 : Int32)), .val (.long u5), .second, .val (.long u8), .second, .val (.long u11), .second, .val (.long u14), .second, .val (.ref b23), .unset] [])) _
      refine XS.iload X24.here hx rfl (hb hby at_72) rfl ?_
      show Steps p.tables e below (T24.setTop (mkF m 74 #[.val (.int p1), .val (.long q1), .second, .val (.long q2), .second, .val (.long q3), .second, .val (.long q4), .second, .val (.int (1 : Int32)), .val (.long u5), .second, .val (.long u8), .second, .val (.long u11), .second, .val (.long u14), .second, .val (.ref b23), .unset] [(.int (1 : Int32))])) _
      refine XS.iconst X24.here hx rfl (hb hby at_74) ?_
      show Steps p.tables e below (T24.setTop (mkF m 75 #[.val (.int p1), .val (.long q1), .second, .val (.long q2), .second, .val (.long q3), .second, .val (.long q4), .second, .val (.int (1 : Int32)), .val (.long u5), .second, .val (.long u8), .second, .val (.long u11), .second, .val (.long u14), .second, .val (.ref b23), .unset] [(.int (2 : Int32)), (.int (1 : Int32))])) _
      refine XS.icmpYes X24.here hx rfl (pc0 := 75) (pc' := 84) rfl (hb hby at_75) rfl (flt (by decide)).2.2.2 (by decide) (by decide) ?_
      show Steps p.tables e below (T24.setTop (mkF m 84 #[.val (.int p1), .val (.long q1), .second, .val (.long q2), .second, .val (.long q3), .second, .val (.long q4), .second, .val (.int (1 : Int32)), .val (.long u5), .second, .val (.long u8), .second, .val (.long u11), .second, .val (.long u14), .second, .val (.ref b23), .unset] [])) _
      refine XS.iload X24.here hx rfl (hb hby at_84) rfl ?_
      show Steps p.tables e below (T24.setTop (mkF m 86 #[.val (.int p1), .val (.long q1), .second, .val (.long q2), .second, .val (.long q3), .second, .val (.long q4), .second, .val (.int (1 : Int32)), .val (.long u5), .second, .val (.long u8), .second, .val (.long u11), .second, .val (.long u14), .second, .val (.ref b23), .unset] [(.int (1 : Int32))])) _
      refine XS.iconst X24.here hx rfl (hb hby at_86) ?_
      show Steps p.tables e below (T24.setTop (mkF m 87 #[.val (.int p1), .val (.long q1), .second, .val (.long q2), .second, .val (.long q3), .second, .val (.long q4), .second, .val (.int (1 : Int32)), .val (.long u5), .second, .val (.long u8), .second, .val (.long u11), .second, .val (.long u14), .second, .val (.ref b23), .unset] [(.int (3 : Int32)), (.int (1 : Int32))])) _
      refine XS.icmpYes X24.here hx rfl (pc0 := 87) (pc' := 96) rfl (hb hby at_87) rfl (flt (by decide)).2.2.2 (by decide) (by decide) ?_
      show Steps p.tables e below (T24.setTop (mkF m 96 #[.val (.int p1), .val (.long q1), .second, .val (.long q2), .second, .val (.long q3), .second, .val (.long q4), .second, .val (.int (1 : Int32)), .val (.long u5), .second, .val (.long u8), .second, .val (.long u11), .second, .val (.long u14), .second, .val (.ref b23), .unset] [])) _
      refine XS.iload X24.here hx rfl (hb hby at_96) rfl ?_
      show Steps p.tables e below (T24.setTop (mkF m 98 #[.val (.int p1), .val (.long q1), .second, .val (.long q2), .second, .val (.long q3), .second, .val (.long q4), .second, .val (.int (1 : Int32)), .val (.long u5), .second, .val (.long u8), .second, .val (.long u11), .second, .val (.long u14), .second, .val (.ref b23), .unset] [(.int (1 : Int32))])) _
      refine XS.ifNo X24.here hx rfl (hb hby at_98) rfl ((if0 _ _).trans (tlt (by decide)).2.2.2) ?_
      show Steps p.tables e below (T24.setTop (mkF m 101 #[.val (.int p1), .val (.long q1), .second, .val (.long q2), .second, .val (.long q3), .second, .val (.long q4), .second, .val (.int (1 : Int32)), .val (.long u5), .second, .val (.long u8), .second, .val (.long u11), .second, .val (.long u14), .second, .val (.ref b23), .unset] [])) _
      refine XS.iconst X24.here hx rfl (hb hby at_101) ?_
      show Steps p.tables e below (T24.setTop (mkF m 102 #[.val (.int p1), .val (.long q1), .second, .val (.long q2), .second, .val (.long q3), .second, .val (.long q4), .second, .val (.int (1 : Int32)), .val (.long u5), .second, .val (.long u8), .second, .val (.long u11), .second, .val (.long u14), .second, .val (.ref b23), .unset] [(.int (1 : Int32))])) _
      refine XS.goto X24.here hx rfl (pc0 := 102) (pc' := 106) rfl (hb hby at_102) (by decide) (by decide) ?_
      show Steps p.tables e below (T24.setTop (mkF m 106 #[.val (.int p1), .val (.long q1), .second, .val (.long q2), .second, .val (.long q3), .second, .val (.long q4), .second, .val (.int (1 : Int32)), .val (.long u5), .second, .val (.long u8), .second, .val (.long u11), .second, .val (.long u14), .second, .val (.ref b23), .unset] [(.int (1 : Int32))])) _
      refine XS.lload X24.here hx rfl (hb hby at_106) rfl ?_
      show Steps p.tables e below (T24.setTop (mkF m 108 #[.val (.int p1), .val (.long q1), .second, .val (.long q2), .second, .val (.long q3), .second, .val (.long q4), .second, .val (.int (1 : Int32)), .val (.long u5), .second, .val (.long u8), .second, .val (.long u11), .second, .val (.long u14), .second, .val (.ref b23), .unset] [(.long u5), (.int (1 : Int32))])) _
      refine st25 _ ?_
      show Steps p.tables e below (T25.setTop (mkF m 111 #[.val (.int p1), .val (.long q1), .second, .val (.long q2), .second, .val (.long q3), .second, .val (.long q4), .second, .val (.int (1 : Int32)), .val (.long u5), .second, .val (.long u8), .second, .val (.long u11), .second, .val (.long u14), .second, .val (.ref b23), .unset] [(.int (own_hit (1 : Int32) u5))])) _
      refine XS.iload X25.here hx rfl (hb hby at_111) rfl ?_
      show Steps p.tables e below (T25.setTop (mkF m 113 #[.val (.int p1), .val (.long q1), .second, .val (.long q2), .second, .val (.long q3), .second, .val (.long q4), .second, .val (.int (1 : Int32)), .val (.long u5), .second, .val (.long u8), .second, .val (.long u11), .second, .val (.long u14), .second, .val (.ref b23), .unset] [(.int (1 : Int32)), (.int (own_hit (1 : Int32) u5))])) _
      refine XS.iconst X25.here hx rfl (hb hby at_113) ?_
      show Steps p.tables e below (T25.setTop (mkF m 114 #[.val (.int p1), .val (.long q1), .second, .val (.long q2), .second, .val (.long q3), .second, .val (.long q4), .second, .val (.int (1 : Int32)), .val (.long u5), .second, .val (.long u8), .second, .val (.long u11), .second, .val (.long u14), .second, .val (.ref b23), .unset] [(.int (1 : Int32)), (.int (1 : Int32)), (.int (own_hit (1 : Int32) u5))])) _
      refine XS.icmpYes X25.here hx rfl (pc0 := 114) (pc' := 121) rfl (hb hby at_114) rfl (flt (by decide)).2.2.2 (by decide) (by decide) ?_
      show Steps p.tables e below (T25.setTop (mkF m 121 #[.val (.int p1), .val (.long q1), .second, .val (.long q2), .second, .val (.long q3), .second, .val (.long q4), .second, .val (.int (1 : Int32)), .val (.long u5), .second, .val (.long u8), .second, .val (.long u11), .second, .val (.long u14), .second, .val (.ref b23), .unset] [(.int (own_hit (1 : Int32) u5))])) _
      refine XS.iconst X25.here hx rfl (hb hby at_121) ?_
      show Steps p.tables e below (T25.setTop (mkF m 122 #[.val (.int p1), .val (.long q1), .second, .val (.long q2), .second, .val (.long q3), .second, .val (.long q4), .second, .val (.int (1 : Int32)), .val (.long u5), .second, .val (.long u8), .second, .val (.long u11), .second, .val (.long u14), .second, .val (.ref b23), .unset] [(.int (0 : Int32)), (.int (own_hit (1 : Int32) u5))])) _
      refine XS.lload X25.here hx rfl (hb hby at_122) rfl ?_
      show Steps p.tables e below (T25.setTop (mkF m 124 #[.val (.int p1), .val (.long q1), .second, .val (.long q2), .second, .val (.long q3), .second, .val (.long q4), .second, .val (.int (1 : Int32)), .val (.long u5), .second, .val (.long u8), .second, .val (.long u11), .second, .val (.long u14), .second, .val (.ref b23), .unset] [(.long u8), (.int (0 : Int32)), (.int (own_hit (1 : Int32) u5))])) _
      refine st26 _ ?_
      show Steps p.tables e below (T26.setTop (mkF m 127 #[.val (.int p1), .val (.long q1), .second, .val (.long q2), .second, .val (.long q3), .second, .val (.long q4), .second, .val (.int (1 : Int32)), .val (.long u5), .second, .val (.long u8), .second, .val (.long u11), .second, .val (.long u14), .second, .val (.ref b23), .unset] [(.int (own_hit (0 : Int32) u8)), (.int (own_hit (1 : Int32) u5))])) _
      refine XS.iadd X26.here hx rfl (hb hby at_127) rfl ?_
      show Steps p.tables e below (T26.setTop (mkF m 128 #[.val (.int p1), .val (.long q1), .second, .val (.long q2), .second, .val (.long q3), .second, .val (.long q4), .second, .val (.int (1 : Int32)), .val (.long u5), .second, .val (.long u8), .second, .val (.long u11), .second, .val (.long u14), .second, .val (.ref b23), .unset] [(.int ((own_hit (1 : Int32) u5) + (own_hit (0 : Int32) u8)))])) _
      refine XS.iload X26.here hx rfl (hb hby at_128) rfl ?_
      show Steps p.tables e below (T26.setTop (mkF m 130 #[.val (.int p1), .val (.long q1), .second, .val (.long q2), .second, .val (.long q3), .second, .val (.long q4), .second, .val (.int (1 : Int32)), .val (.long u5), .second, .val (.long u8), .second, .val (.long u11), .second, .val (.long u14), .second, .val (.ref b23), .unset] [(.int (1 : Int32)), (.int ((own_hit (1 : Int32) u5) + (own_hit (0 : Int32) u8)))])) _
      refine XS.iconst X26.here hx rfl (hb hby at_130) ?_
      show Steps p.tables e below (T26.setTop (mkF m 131 #[.val (.int p1), .val (.long q1), .second, .val (.long q2), .second, .val (.long q3), .second, .val (.long q4), .second, .val (.int (1 : Int32)), .val (.long u5), .second, .val (.long u8), .second, .val (.long u11), .second, .val (.long u14), .second, .val (.ref b23), .unset] [(.int (2 : Int32)), (.int (1 : Int32)), (.int ((own_hit (1 : Int32) u5) + (own_hit (0 : Int32) u8)))])) _
      refine XS.icmpYes X26.here hx rfl (pc0 := 131) (pc' := 138) rfl (hb hby at_131) rfl (flt (by decide)).2.2.2 (by decide) (by decide) ?_
      show Steps p.tables e below (T26.setTop (mkF m 138 #[.val (.int p1), .val (.long q1), .second, .val (.long q2), .second, .val (.long q3), .second, .val (.long q4), .second, .val (.int (1 : Int32)), .val (.long u5), .second, .val (.long u8), .second, .val (.long u11), .second, .val (.long u14), .second, .val (.ref b23), .unset] [(.int ((own_hit (1 : Int32) u5) + (own_hit (0 : Int32) u8)))])) _
      refine XS.iconst X26.here hx rfl (hb hby at_138) ?_
      show Steps p.tables e below (T26.setTop (mkF m 139 #[.val (.int p1), .val (.long q1), .second, .val (.long q2), .second, .val (.long q3), .second, .val (.long q4), .second, .val (.int (1 : Int32)), .val (.long u5), .second, .val (.long u8), .second, .val (.long u11), .second, .val (.long u14), .second, .val (.ref b23), .unset] [(.int (0 : Int32)), (.int ((own_hit (1 : Int32) u5) + (own_hit (0 : Int32) u8)))])) _
      refine XS.lload X26.here hx rfl (hb hby at_139) rfl ?_
      show Steps p.tables e below (T26.setTop (mkF m 141 #[.val (.int p1), .val (.long q1), .second, .val (.long q2), .second, .val (.long q3), .second, .val (.long q4), .second, .val (.int (1 : Int32)), .val (.long u5), .second, .val (.long u8), .second, .val (.long u11), .second, .val (.long u14), .second, .val (.ref b23), .unset] [(.long u11), (.int (0 : Int32)), (.int ((own_hit (1 : Int32) u5) + (own_hit (0 : Int32) u8)))])) _
      refine st27 _ ?_
      show Steps p.tables e below (T27.setTop (mkF m 144 #[.val (.int p1), .val (.long q1), .second, .val (.long q2), .second, .val (.long q3), .second, .val (.long q4), .second, .val (.int (1 : Int32)), .val (.long u5), .second, .val (.long u8), .second, .val (.long u11), .second, .val (.long u14), .second, .val (.ref b23), .unset] [(.int (own_hit (0 : Int32) u11)), (.int ((own_hit (1 : Int32) u5) + (own_hit (0 : Int32) u8)))])) _
      refine XS.iadd X27.here hx rfl (hb hby at_144) rfl ?_
      show Steps p.tables e below (T27.setTop (mkF m 145 #[.val (.int p1), .val (.long q1), .second, .val (.long q2), .second, .val (.long q3), .second, .val (.long q4), .second, .val (.int (1 : Int32)), .val (.long u5), .second, .val (.long u8), .second, .val (.long u11), .second, .val (.long u14), .second, .val (.ref b23), .unset] [(.int (((own_hit (1 : Int32) u5) + (own_hit (0 : Int32) u8)) + (own_hit (0 : Int32) u11)))])) _
      refine XS.iload X27.here hx rfl (hb hby at_145) rfl ?_
      show Steps p.tables e below (T27.setTop (mkF m 147 #[.val (.int p1), .val (.long q1), .second, .val (.long q2), .second, .val (.long q3), .second, .val (.long q4), .second, .val (.int (1 : Int32)), .val (.long u5), .second, .val (.long u8), .second, .val (.long u11), .second, .val (.long u14), .second, .val (.ref b23), .unset] [(.int (1 : Int32)), (.int (((own_hit (1 : Int32) u5) + (own_hit (0 : Int32) u8)) + (own_hit (0 : Int32) u11)))])) _
      refine XS.iconst X27.here hx rfl (hb hby at_147) ?_
      show Steps p.tables e below (T27.setTop (mkF m 148 #[.val (.int p1), .val (.long q1), .second, .val (.long q2), .second, .val (.long q3), .second, .val (.long q4), .second, .val (.int (1 : Int32)), .val (.long u5), .second, .val (.long u8), .second, .val (.long u11), .second, .val (.long u14), .second, .val (.ref b23), .unset] [(.int (3 : Int32)), (.int (1 : Int32)), (.int (((own_hit (1 : Int32) u5) + (own_hit (0 : Int32) u8)) + (own_hit (0 : Int32) u11)))])) _
      refine XS.icmpYes X27.here hx rfl (pc0 := 148) (pc' := 155) rfl (hb hby at_148) rfl (flt (by decide)).2.2.2 (by decide) (by decide) ?_
      show Steps p.tables e below (T27.setTop (mkF m 155 #[.val (.int p1), .val (.long q1), .second, .val (.long q2), .second, .val (.long q3), .second, .val (.long q4), .second, .val (.int (1 : Int32)), .val (.long u5), .second, .val (.long u8), .second, .val (.long u11), .second, .val (.long u14), .second, .val (.ref b23), .unset] [(.int (((own_hit (1 : Int32) u5) + (own_hit (0 : Int32) u8)) + (own_hit (0 : Int32) u11)))])) _
      refine XS.iconst X27.here hx rfl (hb hby at_155) ?_
      show Steps p.tables e below (T27.setTop (mkF m 156 #[.val (.int p1), .val (.long q1), .second, .val (.long q2), .second, .val (.long q3), .second, .val (.long q4), .second, .val (.int (1 : Int32)), .val (.long u5), .second, .val (.long u8), .second, .val (.long u11), .second, .val (.long u14), .second, .val (.ref b23), .unset] [(.int (0 : Int32)), (.int (((own_hit (1 : Int32) u5) + (own_hit (0 : Int32) u8)) + (own_hit (0 : Int32) u11)))])) _
      refine XS.lload X27.here hx rfl (hb hby at_156) rfl ?_
      show Steps p.tables e below (T27.setTop (mkF m 158 #[.val (.int p1), .val (.long q1), .second, .val (.long q2), .second, .val (.long q3), .second, .val (.long q4), .second, .val (.int (1 : Int32)), .val (.long u5), .second, .val (.long u8), .second, .val (.long u11), .second, .val (.long u14), .second, .val (.ref b23), .unset] [(.long u14), (.int (0 : Int32)), (.int (((own_hit (1 : Int32) u5) + (own_hit (0 : Int32) u8)) + (own_hit (0 : Int32) u11)))])) _
      refine st28 _ ?_
      show Steps p.tables e below (T28.setTop (mkF m 161 #[.val (.int p1), .val (.long q1), .second, .val (.long q2), .second, .val (.long q3), .second, .val (.long q4), .second, .val (.int (1 : Int32)), .val (.long u5), .second, .val (.long u8), .second, .val (.long u11), .second, .val (.long u14), .second, .val (.ref b23), .unset] [(.int (own_hit (0 : Int32) u14)), (.int (((own_hit (1 : Int32) u5) + (own_hit (0 : Int32) u8)) + (own_hit (0 : Int32) u11)))])) _
      refine XS.iadd X28.here hx rfl (hb hby at_161) rfl ?_
      show Steps p.tables e below (T28.setTop (mkF m 162 #[.val (.int p1), .val (.long q1), .second, .val (.long q2), .second, .val (.long q3), .second, .val (.long q4), .second, .val (.int (1 : Int32)), .val (.long u5), .second, .val (.long u8), .second, .val (.long u11), .second, .val (.long u14), .second, .val (.ref b23), .unset] [(.int ((((own_hit (1 : Int32) u5) + (own_hit (0 : Int32) u8)) + (own_hit (0 : Int32) u11)) + (own_hit (0 : Int32) u14)))])) _
      refine XS.istore X28.here hx rfl (hb hby at_162) rfl (l' := #[.val (.int p1), .val (.long q1), .second, .val (.long q2), .second, .val (.long q3), .second, .val (.long q4), .second, .val (.int (1 : Int32)), .val (.long u5), .second, .val (.long u8), .second, .val (.long u11), .second, .val (.long u14), .second, .val (.ref b23), .val (.int ((((own_hit (1 : Int32) u5) + (own_hit (0 : Int32) u8)) + (own_hit (0 : Int32) u11)) + (own_hit (0 : Int32) u14)))]) rfl ?_
      show Steps p.tables e below (T28.setTop (mkF m 164 #[.val (.int p1), .val (.long q1), .second, .val (.long q2), .second, .val (.long q3), .second, .val (.long q4), .second, .val (.int (1 : Int32)), .val (.long u5), .second, .val (.long u8), .second, .val (.long u11), .second, .val (.long u14), .second, .val (.ref b23), .val (.int ((((own_hit (1 : Int32) u5) + (own_hit (0 : Int32) u8)) + (own_hit (0 : Int32) u11)) + (own_hit (0 : Int32) u14)))] [])) _
      refine XS.aload X28.here hx rfl (hb hby at_164) rfl rfl ?_
      show Steps p.tables e below (T28.setTop (mkF m 166 #[.val (.int p1), .val (.long q1), .second, .val (.long q2), .second, .val (.long q3), .second, .val (.long q4), .second, .val (.int (1 : Int32)), .val (.long u5), .second, .val (.long u8), .second, .val (.long u11), .second, .val (.long u14), .second, .val (.ref b23), .val (.int ((((own_hit (1 : Int32) u5) + (own_hit (0 : Int32) u8)) + (own_hit (0 : Int32) u11)) + (own_hit (0 : Int32) u14)))] [(.ref b23)])) _
      refine st29 _ ?_
      show Steps p.tables e below (T29.setTop (mkF m 169 #[.val (.int p1), .val (.long q1), .second, .val (.long q2), .second, .val (.long q3), .second, .val (.long q4), .second, .val (.int (1 : Int32)), .val (.long u5), .second, .val (.long u8), .second, .val (.long u11), .second, .val (.long u14), .second, .val (.ref b23), .val (.int ((((own_hit (1 : Int32) u5) + (own_hit (0 : Int32) u8)) + (own_hit (0 : Int32) u11)) + (own_hit (0 : Int32) u14)))] [(.int (own_st u5 (0 : Int32)))])) _
      refine XS.iload X29.here hx rfl (hb hby at_169) rfl ?_
      show Steps p.tables e below (T29.setTop (mkF m 171 #[.val (.int p1), .val (.long q1), .second, .val (.long q2), .second, .val (.long q3), .second, .val (.long q4), .second, .val (.int (1 : Int32)), .val (.long u5), .second, .val (.long u8), .second, .val (.long u11), .second, .val (.long u14), .second, .val (.ref b23), .val (.int ((((own_hit (1 : Int32) u5) + (own_hit (0 : Int32) u8)) + (own_hit (0 : Int32) u11)) + (own_hit (0 : Int32) u14)))] [(.int ((((own_hit (1 : Int32) u5) + (own_hit (0 : Int32) u8)) + (own_hit (0 : Int32) u11)) + (own_hit (0 : Int32) u14))), (.int (own_st u5 (0 : Int32)))])) _
      refine XS.icmpNo X29.here hx rfl (hb hby at_171) rfl (teq (own_c1 u5 u8 u11 u14)).2 ?_
      show Steps p.tables e below (T29.setTop (mkF m 174 #[.val (.int p1), .val (.long q1), .second, .val (.long q2), .second, .val (.long q3), .second, .val (.long q4), .second, .val (.int (1 : Int32)), .val (.long u5), .second, .val (.long u8), .second, .val (.long u11), .second, .val (.long u14), .second, .val (.ref b23), .val (.int ((((own_hit (1 : Int32) u5) + (own_hit (0 : Int32) u8)) + (own_hit (0 : Int32) u11)) + (own_hit (0 : Int32) u14)))] [])) _
      refine XS.iconst X29.here hx rfl (hb hby at_174) ?_
      show Steps p.tables e below (T29.setTop (mkF m 175 #[.val (.int p1), .val (.long q1), .second, .val (.long q2), .second, .val (.long q3), .second, .val (.long q4), .second, .val (.int (1 : Int32)), .val (.long u5), .second, .val (.long u8), .second, .val (.long u11), .second, .val (.long u14), .second, .val (.ref b23), .val (.int ((((own_hit (1 : Int32) u5) + (own_hit (0 : Int32) u8)) + (own_hit (0 : Int32) u11)) + (own_hit (0 : Int32) u14)))] [(.int (1 : Int32))])) _
      refine XS.goto X29.here hx rfl (pc0 := 175) (pc' := 179) rfl (hb hby at_175) (by decide) (by decide) ?_
      exact k)
    obtain ⟨fs, hr, hrun, hended, hW, hsame⟩ := X29.leave (v := some (.int (1 : Int32))) (fun h => by rw [Bd.returns] at h; cases h)
    refine ⟨_, _, way30 _ ?_, hrun, hended, _, _, rfl, ?_, ⟨_, rfl⟩, hW, hsame.mono (by decide) (by decide)⟩
    · show Steps p.tables e below (T29.setTop (mkF m 179 #[.val (.int p1), .val (.long q1), .second, .val (.long q2), .second, .val (.long q3), .second, .val (.long q4), .second, .val (.int (1 : Int32)), .val (.long u5), .second, .val (.long u8), .second, .val (.long u11), .second, .val (.long u14), .second, .val (.ref b23), .val (.int ((((own_hit (1 : Int32) u5) + (own_hit (0 : Int32) u8)) + (own_hit (0 : Int32) u11)) + (own_hit (0 : Int32) u14)))] [(.int (1 : Int32))])) _
      exact retN X29 hx (t := .boolean) Bd.returns (by simp) (hb hby at_179) hr
    · show Q_law Z p1 q1 q2 q3 q4 h0 n0 _ T29.heap _
      rw [hh29]
      exact ⟨rfl, N29⟩
  ·
    obtain ⟨T31, h31, k31, X31, e31, E31, A31, st31⟩ := newP X12 hx hZ (hw _ (List.mem_of_getElem? (i := 4) rfl)) hh12 (g := (mkF m 45 #[.val (.int p1), .val (.long q1), .second, .val (.long q2), .second, .val (.long q3), .second, .val (.long q4), .second, .val (.int (2 : Int32)), .val (.long u5), .second, .val (.long u8), .second, .val (.long u11), .second, .val (.long u14), .second, .unset, .unset] [(.int (2 : Int32))])) rfl (hb hby at_45) rfl (by decide) (cap := 2) (by decide) (by decide) (by decide) (by decide)
    obtain ⟨b31, g31⟩ : ∃ z, z = h0.size := ⟨_, rfl⟩
    rw [← g31] at A31 st31
    have sz_b31 : h0.size ≤ b31 := Nat.le_trans (Keep.refl h0 []).1 (Nat.le_of_eq g31.symm)
    have g_b31 : n0 ≤ b31 := Nat.le_trans Z0 sz_b31
    have K31 : Keep h0 h31 [] := (Keep.refl h0 []).ext E31
    have V31 : Arv Z h31 b31 k31 .long (2 : Int32) [(.long (0 : Int64)), (.long (0 : Int64))] (.long (0 : Int64)) := (Arv.new A31 (by decide)).pad (pad_rep [] (.long (0 : Int64)) 2)
    obtain ⟨cl32, Ar32, aq32, S32, M32, H32, G32⟩ := id V31
    have hin32 : ¬ ((0 : Int32) < 0 ∨ cl32.slots.size ≤ ((0 : Int32)).toNatClampNeg) := by rw [S32]; decide
    obtain ⟨T32, h32, X32, e32, W32, st32⟩ := stJ X31 hx hZ e31 Ar32 (j := (0 : Int32)) hin32 (g := (mkF m 59 #[.val (.int p1), .val (.long q1), .second, .val (.long q2), .second, .val (.long q3), .second, .val (.long q4), .second, .val (.int (2 : Int32)), .val (.long u5), .second, .val (.long u8), .second, .val (.long u11), .second, .val (.long u14), .second, .val (.ref b31), .unset] [(.long u5), (.int (0 : Int32)), (.ref b31)])) rfl rfl (hb hby at_59)
    have K32 : Keep h0 h32 [] := K31.wr W32 (Or.inr sz_b31)
    have N32 := Fr.snoc X32 N12 g_b31
    have V32 : Arv Z h32 b31 k31 .long (2 : Int32) [(.long u5), (.long (0 : Int64))] (.long (0 : Int64)) := Arv.set Ar32 aq32 S32 M32 H32 G32 rfl W32 0 rfl (Nat.le_of_ble_eq_true rfl)
    obtain ⟨cl33, Ar33, aq33, S33, M33, H33, G33⟩ := id V32
    have hin33 : ¬ ((1 : Int32) < 0 ∨ cl33.slots.size ≤ ((1 : Int32)).toNatClampNeg) := by rw [S33]; decide
    obtain ⟨T33, h33, X33, e33, W33, st33⟩ := stJ X32 hx hZ e32 Ar33 (j := (1 : Int32)) hin33 (g := (mkF m 71 #[.val (.int p1), .val (.long q1), .second, .val (.long q2), .second, .val (.long q3), .second, .val (.long q4), .second, .val (.int (2 : Int32)), .val (.long u5), .second, .val (.long u8), .second, .val (.long u11), .second, .val (.long u14), .second, .val (.ref b31), .unset] [(.long u8), (.int (1 : Int32)), (.ref b31)])) rfl rfl (hb hby at_71)
    have K33 : Keep h0 h33 [] := K32.wr W33 (Or.inr sz_b31)
    have N33 := Fr.snoc X33 N32 g_b31
    have V33 : Arv Z h33 b31 k31 .long (2 : Int32) [(.long u5), (.long u8)] (.long (0 : Int64)) := Arv.set Ar33 aq33 S33 M33 H33 G33 rfl W33 1 rfl (Nat.le_of_ble_eq_true rfl)
    obtain ⟨_, _, ⟨T34, L34, k34, n34⟩, -, X34, ⟨Lc34, hQ34, l34, y34, z34⟩, st34⟩ := Jvm.LawKit.callS X33 hx (y := (⟨"com/example/netloom/netloom/core/reachability/OmegaSetsOmegaCountPinLaw", "hit", "(ZJ)I"⟩ : MethodName)) hown (mvT hZ (hw _ (List.mem_of_getElem? (i := 5) rfl))) (mvT hZ (hw _ (List.mem_of_getElem? (i := 6) rfl))) (mvT hZ (hw _ (List.mem_of_getElem? (i := 2) rfl))) (mvT hZ (hw _ (List.mem_of_getElem? (i := 7) rfl))) (by decide) (backOf (W := 0) (rm_hit l Z a0 hw [] (1 : Int32) u5  h33 n0 (Nat.le_trans Z0 K33.1) ) hZ (hw _ (List.mem_of_getElem? (i := 7) rfl)) (hw _ (List.mem_of_getElem? (i := 2) rfl)) (by decide) (by decide)) (g := (mkF m 108 #[.val (.int p1), .val (.long q1), .second, .val (.long q2), .second, .val (.long q3), .second, .val (.long q4), .second, .val (.int (2 : Int32)), .val (.long u5), .second, .val (.long u8), .second, .val (.long u11), .second, .val (.long u14), .second, .val (.ref b31), .unset] [(.long u5), (.int (1 : Int32))])) rfl (by rw [hml]; rfl) (argsL := [(.int (1 : Int32)), (.long u5)]) (rest := []) (lenOf own_pd3 rfl) rfl (by show 2 * 0 + _ ≤ _; exact Nat.le_of_eq rfl) (hb hby at_108) (fun _ _ => ⟨rfl, e33, (by decide : 1 + 0 ≤ _), (by decide : 2 + 0 ≤ _)⟩)
    dsimp only [Pt.U, Pt.locs, Pt.cells, Pt.slots] at X34 l34 y34 z34 st34 hQ34
    subst l34 y34 z34
    obtain ⟨rfl, N34q, hh34⟩ := hQ34
    have N34 := Fr.app N33 N34q
    obtain ⟨_, _, ⟨T35, L35, k35, n35⟩, -, X35, ⟨Lc35, hQ35, l35, y35, z35⟩, st35⟩ := Jvm.LawKit.callS X34 hx (y := (⟨"com/example/netloom/netloom/core/reachability/OmegaSetsOmegaCountPinLaw", "hit", "(ZJ)I"⟩ : MethodName)) hown (mvT hZ (hw _ (List.mem_of_getElem? (i := 5) rfl))) (mvT hZ (hw _ (List.mem_of_getElem? (i := 6) rfl))) (mvT hZ (hw _ (List.mem_of_getElem? (i := 2) rfl))) (mvT hZ (hw _ (List.mem_of_getElem? (i := 7) rfl))) (by decide) (backOf (W := 1) (rm_hit l Z a0 hw [] (1 : Int32) u8  h33 n0 (Nat.le_trans Z0 K33.1) ) hZ (hw _ (List.mem_of_getElem? (i := 7) rfl)) (hw _ (List.mem_of_getElem? (i := 2) rfl)) (by decide) (by decide)) (g := (mkF m 124 #[.val (.int p1), .val (.long q1), .second, .val (.long q2), .second, .val (.long q3), .second, .val (.long q4), .second, .val (.int (2 : Int32)), .val (.long u5), .second, .val (.long u8), .second, .val (.long u11), .second, .val (.long u14), .second, .val (.ref b31), .unset] [(.long u8), (.int (1 : Int32)), (.int (own_hit (1 : Int32) u5))])) rfl (by rw [hml]; rfl) (argsL := [(.int (1 : Int32)), (.long u8)]) (rest := [(.int (own_hit (1 : Int32) u5))]) (lenOf own_pd3 rfl) rfl (by show 2 * 0 + _ ≤ _; exact Nat.le_of_eq rfl) (hb hby at_124) (fun _ _ => ⟨rfl, hh34, (by decide : 1 + 0 ≤ _), (by decide : 2 + 0 ≤ _)⟩)
    dsimp only [Pt.U, Pt.locs, Pt.cells, Pt.slots] at X35 l35 y35 z35 st35 hQ35
    subst l35 y35 z35
    obtain ⟨rfl, N35q, hh35⟩ := hQ35
    have N35 := Fr.app N34 N35q
    obtain ⟨_, _, ⟨T36, L36, k36, n36⟩, -, X36, ⟨Lc36, hQ36, l36, y36, z36⟩, st36⟩ := Jvm.LawKit.callS X35 hx (y := (⟨"com/example/netloom/netloom/core/reachability/OmegaSetsOmegaCountPinLaw", "hit", "(ZJ)I"⟩ : MethodName)) hown (mvT hZ (hw _ (List.mem_of_getElem? (i := 5) rfl))) (mvT hZ (hw _ (List.mem_of_getElem? (i := 6) rfl))) (mvT hZ (hw _ (List.mem_of_getElem? (i := 2) rfl))) (mvT hZ (hw _ (List.mem_of_getElem? (i := 7) rfl))) (by decide) (backOf (W := 1) (rm_hit l Z a0 hw [] (0 : Int32) u11  h33 n0 (Nat.le_trans Z0 K33.1) ) hZ (hw _ (List.mem_of_getElem? (i := 7) rfl)) (hw _ (List.mem_of_getElem? (i := 2) rfl)) (by decide) (by decide)) (g := (mkF m 141 #[.val (.int p1), .val (.long q1), .second, .val (.long q2), .second, .val (.long q3), .second, .val (.long q4), .second, .val (.int (2 : Int32)), .val (.long u5), .second, .val (.long u8), .second, .val (.long u11), .second, .val (.long u14), .second, .val (.ref b31), .unset] [(.long u11), (.int (0 : Int32)), (.int ((own_hit (1 : Int32) u5) + (own_hit (1 : Int32) u8)))])) rfl (by rw [hml]; rfl) (argsL := [(.int (0 : Int32)), (.long u11)]) (rest := [(.int ((own_hit (1 : Int32) u5) + (own_hit (1 : Int32) u8)))]) (lenOf own_pd3 rfl) rfl (by show 2 * 0 + _ ≤ _; exact Nat.le_of_eq rfl) (hb hby at_141) (fun _ _ => ⟨rfl, hh35, (by decide : 1 + 0 ≤ _), (by decide : 2 + 0 ≤ _)⟩)
    dsimp only [Pt.U, Pt.locs, Pt.cells, Pt.slots] at X36 l36 y36 z36 st36 hQ36
    subst l36 y36 z36
    obtain ⟨rfl, N36q, hh36⟩ := hQ36
    have N36 := Fr.app N35 N36q
    obtain ⟨_, _, ⟨T37, L37, k37, n37⟩, -, X37, ⟨Lc37, hQ37, l37, y37, z37⟩, st37⟩ := Jvm.LawKit.callS X36 hx (y := (⟨"com/example/netloom/netloom/core/reachability/OmegaSetsOmegaCountPinLaw", "hit", "(ZJ)I"⟩ : MethodName)) hown (mvT hZ (hw _ (List.mem_of_getElem? (i := 5) rfl))) (mvT hZ (hw _ (List.mem_of_getElem? (i := 6) rfl))) (mvT hZ (hw _ (List.mem_of_getElem? (i := 2) rfl))) (mvT hZ (hw _ (List.mem_of_getElem? (i := 7) rfl))) (by decide) (backOf (W := 1) (rm_hit l Z a0 hw [] (0 : Int32) u14  h33 n0 (Nat.le_trans Z0 K33.1) ) hZ (hw _ (List.mem_of_getElem? (i := 7) rfl)) (hw _ (List.mem_of_getElem? (i := 2) rfl)) (by decide) (by decide)) (g := (mkF m 158 #[.val (.int p1), .val (.long q1), .second, .val (.long q2), .second, .val (.long q3), .second, .val (.long q4), .second, .val (.int (2 : Int32)), .val (.long u5), .second, .val (.long u8), .second, .val (.long u11), .second, .val (.long u14), .second, .val (.ref b31), .unset] [(.long u14), (.int (0 : Int32)), (.int (((own_hit (1 : Int32) u5) + (own_hit (1 : Int32) u8)) + (own_hit (0 : Int32) u11)))])) rfl (by rw [hml]; rfl) (argsL := [(.int (0 : Int32)), (.long u14)]) (rest := [(.int (((own_hit (1 : Int32) u5) + (own_hit (1 : Int32) u8)) + (own_hit (0 : Int32) u11)))]) (lenOf own_pd3 rfl) rfl (by show 2 * 0 + _ ≤ _; exact Nat.le_of_eq rfl) (hb hby at_158) (fun _ _ => ⟨rfl, hh36, (by decide : 1 + 0 ≤ _), (by decide : 2 + 0 ≤ _)⟩)
    dsimp only [Pt.U, Pt.locs, Pt.cells, Pt.slots] at X37 l37 y37 z37 st37 hQ37
    subst l37 y37 z37
    obtain ⟨rfl, N37q, hh37⟩ := hQ37
    have N37 := Fr.app N36 N37q
    obtain ⟨_, _, ⟨T38, L38, k38, n38⟩, -, X38, ⟨Lc38, hQ38, l38, y38, z38⟩, st38⟩ := Jvm.LawKit.callS X37 hx (y := (⟨"com/example/netloom/netloom/core/reachability/OmegaSets", "omegaCount", "([J)I"⟩ : MethodName)) hown (mvT hZ (hw _ (List.mem_of_getElem? (i := 8) rfl))) (mvT hZ (hw _ (List.mem_of_getElem? (i := 9) rfl))) (mvT hZ (hw _ (List.mem_of_getElem? (i := 10) rfl))) (mvT hZ (hw _ (List.mem_of_getElem? (i := 11) rfl))) (by decide) (backOf (W := 0) (rm_oc2 l Z a0 hw [] b31 k31 u5 u8 h33 n0 (Nat.le_trans Z0 K33.1) V33) hZ (hw _ (List.mem_of_getElem? (i := 11) rfl)) (hw _ (List.mem_of_getElem? (i := 10) rfl)) (by decide) (by decide)) (g := (mkF m 166 #[.val (.int p1), .val (.long q1), .second, .val (.long q2), .second, .val (.long q3), .second, .val (.long q4), .second, .val (.int (2 : Int32)), .val (.long u5), .second, .val (.long u8), .second, .val (.long u11), .second, .val (.long u14), .second, .val (.ref b31), .val (.int ((((own_hit (1 : Int32) u5) + (own_hit (1 : Int32) u8)) + (own_hit (0 : Int32) u11)) + (own_hit (0 : Int32) u14)))] [(.ref b31)])) rfl (by rw [hml]; rfl) (argsL := [(.ref b31)]) (rest := []) (lenOf own_pd4 rfl) rfl (by show 2 * 0 + _ ≤ _; exact Nat.le_of_eq rfl) (hb hby at_166) (fun _ _ => ⟨rfl, hh37, (by decide : 1 + 0 ≤ _), (by decide : 2 + 0 ≤ _)⟩)
    dsimp only [Pt.U, Pt.locs, Pt.cells, Pt.slots] at X38 l38 y38 z38 st38 hQ38
    subst l38 y38 z38
    obtain ⟨rfl, N38q, hh38⟩ := hQ38
    have N38 := Fr.app N37 N38q
    have way39 : ∀ t, Steps p.tables e below (T38.setTop (mkF m 179 #[.val (.int p1), .val (.long q1), .second, .val (.long q2), .second, .val (.long q3), .second, .val (.long q4), .second, .val (.int (2 : Int32)), .val (.long u5), .second, .val (.long u8), .second, .val (.long u11), .second, .val (.long u14), .second, .val (.ref b31), .val (.int ((((own_hit (1 : Int32) u5) + (own_hit (1 : Int32) u8)) + (own_hit (0 : Int32) u11)) + (own_hit (0 : Int32) u14)))] [(.int (1 : Int32))])) t → Steps p.tables e below (s₁.setTop (entryFrame m #[(.int p1), (.long q1), (.long q2), (.long q3), (.long q4)] maxLocals)) t := fun t k => way15 t (by
      show Steps p.tables e below (T12.setTop (mkF m 43 #[.val (.int p1), .val (.long q1), .second, .val (.long q2), .second, .val (.long q3), .second, .val (.long q4), .second, .val (.int (2 : Int32)), .val (.long u5), .second, .val (.long u8), .second, .val (.long u11), .second, .val (.long u14), .second, .unset, .unset] [])) _
      refine XS.iload X12.here hx rfl (hb hby at_43) rfl ?_
      show Steps p.tables e below (T12.setTop (mkF m 45 #[.val (.int p1), .val (.long q1), .second, .val (.long q2), .second, .val (.long q3), .second, .val (.long q4), .second, .val (.int (2 : Int32)), .val (.long u5), .second, .val (.long u8), .second, .val (.long u11), .second, .val (.long u14), .second, .unset, .unset] [(.int (2 : Int32))])) _
      refine st31 _ ?_
      show Steps p.tables e below (T31.setTop (mkF m 47 #[.val (.int p1), .val (.long q1), .second, .val (.long q2), .second, .val (.long q3), .second, .val (.long q4), .second, .val (.int (2 : Int32)), .val (.long u5), .second, .val (.long u8), .second, .val (.long u11), .second, .val (.long u14), .second, .unset, .unset] [(.ref b31)])) _
      refine XS.astore X31.here hx rfl (hb hby at_47) rfl rfl (l' := #[.val (.int p1), .val (.long q1), .second, .val (.long q2), .second, .val (.long q3), .second, .val (.long q4), .second, .val (.int (2 : Int32)), .val (.long u5), .second, .val (.long u8), .second, .val (.long u11), .second, .val (.long u14), .second, .val (.ref b31), .unset]) rfl ?_
      show Steps p.tables e below (T31.setTop (mkF m 49 #[.val (.int p1), .val (.long q1), .second, .val (.long q2), .second, .val (.long q3), .second, .val (.long q4), .second, .val (.int (2 : Int32)), .val (.long u5), .second, .val (.long u8), .second, .val (.long u11), .second, .val (.long u14), .second, .val (.ref b31), .unset] [])) _
      refine XS.iload X31.here hx rfl (hb hby at_49) rfl ?_
      show Steps p.tables e below (T31.setTop (mkF m 51 #[.val (.int p1), .val (.long q1), .second, .val (.long q2), .second, .val (.long q3), .second, .val (.long q4), .second, .val (.int (2 : Int32)), .val (.long u5), .second, .val (.long u8), .second, .val (.long u11), .second, .val (.long u14), .second, .val (.ref b31), .unset] [(.int (2 : Int32))])) _
      refine XS.ifNo X31.here hx rfl (hb hby at_51) rfl ((if0 _ _).trans (tlt (by decide)).2.2.2) ?_
      show Steps p.tables e below (T31.setTop (mkF m 54 #[.val (.int p1), .val (.long q1), .second, .val (.long q2), .second, .val (.long q3), .second, .val (.long q4), .second, .val (.int (2 : Int32)), .val (.long u5), .second, .val (.long u8), .second, .val (.long u11), .second, .val (.long u14), .second, .val (.ref b31), .unset] [])) _
      refine XS.aload X31.here hx rfl (hb hby at_54) rfl rfl ?_
      show Steps p.tables e below (T31.setTop (mkF m 56 #[.val (.int p1), .val (.long q1), .second, .val (.long q2), .second, .val (.long q3), .second, .val (.long q4), .second, .val (.int (2 : Int32)), .val (.long u5), .second, .val (.long u8), .second, .val (.long u11), .second, .val (.long u14), .second, .val (.ref b31), .unset] [(.ref b31)])) _
      refine XS.iconst X31.here hx rfl (hb hby at_56) ?_
      show Steps p.tables e below (T31.setTop (mkF m 57 #[.val (.int p1), .val (.long q1), .second, .val (.long q2), .second, .val (.long q3), .second, .val (.long q4), .second, .val (.int (2 : Int32)), .val (.long u5), .second, .val (.long u8), .second, .val (.long u11), .second, .val (.long u14), .second, .val (.ref b31), .unset] [(.int (0 : Int32)), (.ref b31)])) _
      refine XS.lload X31.here hx rfl (hb hby at_57) rfl ?_
      show Steps p.tables e below (T31.setTop (mkF m 59 #[.val (.int p1), .val (.long q1), .second, .val (.long q2), .second, .val (.long q3), .second, .val (.long q4), .second, .val (.int (2 : Int32)), .val (.long u5), .second, .val (.long u8), .second, .val (.long u11), .second, .val (.long u14), .second, .val (.ref b31), .unset] [(.long u5), (.int (0 : Int32)), (.ref b31)])) _
      refine st32 _ ?_
      show Steps p.tables e below (T32.setTop (mkF m 60 #[.val (.int p1), .val (.long q1), .second, .val (.long q2), .second, .val (.long q3), .second, .val (.long q4), .second, .val (.int (2 : Int32)), .val (.long u5), .second, .val (.long u8), .second, .val (.long u11), .second, .val (.long u14), .second, .val (.ref b31), .unset] [])) _
      refine XS.iload X32.here hx rfl (hb hby at_60) rfl ?_
      show Steps p.tables e below (T32.setTop (mkF m 62 #[.val (.int p1), .val (.long q1), .second, .val (.long q2), .second, .val (.long q3), .second, .val (.long q4), .second, .val (.int (2 : Int32)), .val (.long u5), .second, .val (.long u8), .second, .val (.long u11), .second, .val (.long u14), .second, .val (.ref b31), .unset] [(.int (2 : Int32))])) _
      refine XS.iconst X32.here hx rfl (hb hby at_62) ?_
      show Steps p.tables e below (T32.setTop (mkF m 63 #[.val (.int p1), .val (.long q1), .second, .val (.long q2), .second, .val (.long q3), .second, .val (.long q4), .second, .val (.int (2 : Int32)), .val (.long u5), .second, .val (.long u8), .second, .val (.long u11), .second, .val (.long u14), .second, .val (.ref b31), .unset] [(.int (1 : Int32)), (.int (2 : Int32))])) _
      refine XS.icmpNo X32.here hx rfl (hb hby at_63) rfl (tlt (by decide)).2.2.2 ?_
      show Steps p.tables e below (T32.setTop (mkF m 66 #[.val (.int p1), .val (.long q1), .second, .val (.long q2), .second, .val (.long q3), .second, .val (.long q4), .second, .val (.int (2 : Int32)), .val (.long u5), .second, .val (.long u8), .second, .val (.long u11), .second, .val (.long u14), .second, .val (.ref b31), .unset] [])) _
      refine XS.aload X32.here hx rfl (hb hby at_66) rfl rfl ?_
      show Steps p.tables e below (T32.setTop (mkF m 68 #[.val (.int p1), .val (.long q1), .second, .val (.long q2), .second, .val (.long q3), .second, .val (.long q4), .second, .val (.int (2 : Int32)), .val (.long u5), .second, .val (.long u8), .second, .val (.long u11), .second, .val (.long u14), .second, .val (.ref b31), .unset] [(.ref b31)])) _
      refine XS.iconst X32.here hx rfl (hb hby at_68) ?_
      show Steps p.tables e below (T32.setTop (mkF m 69 #[.val (.int p1), .val (.long q1), .second, .val (.long q2), .second, .val (.long q3), .second, .val (.long q4), .second, .val (.int (2 : Int32)), .val (.long u5), .second, .val (.long u8), .second, .val (.long u11), .second, .val (.long u14), .second, .val (.ref b31), .unset] [(.int (1 : Int32)), (.ref b31)])) _
      refine XS.lload X32.here hx rfl (hb hby at_69) rfl ?_
      show Steps p.tables e below (T32.setTop (mkF m 71 #[.val (.int p1), .val (.long q1), .second, .val (.long q2), .second, .val (.long q3), .second, .val (.long q4), .second, .val (.int (2 : Int32)), .val (.long u5), .second, .val (.long u8), .second, .val (.long u11), .second, .val (.long u14), .second, .val (.ref b31), .unset] [(.long u8), (.int (1 : Int32)), (.ref b31)])) _
      refine st33 _ ?_
      show Steps p.tables e below (T33.setTop (mkF m 72 #[.val (.int p1), .val (.long q1), .second, .val (.long q2), .second, .val (.long q3), .second, .val (.long q4), .second, .val (.int (2 : Int32)), .val (.long u5), .second, .val (.long u8), .second, .val (.long u11), .second, .val (.long u14), .second, .val (.ref b31), .unset] [])) _
      refine XS.iload X33.here hx rfl (hb hby at_72) rfl ?_
      show Steps p.tables e below (T33.setTop (mkF m 74 #[.val (.int p1), .val (.long q1), .second, .val (.long q2), .second, .val (.long q3), .second, .val (.long q4), .second, .val (.int (2 : Int32)), .val (.long u5), .second, .val (.long u8), .second, .val (.long u11), .second, .val (.long u14), .second, .val (.ref b31), .unset] [(.int (2 : Int32))])) _
      refine XS.iconst X33.here hx rfl (hb hby at_74) ?_
      show Steps p.tables e below (T33.setTop (mkF m 75 #[.val (.int p1), .val (.long q1), .second, .val (.long q2), .second, .val (.long q3), .second, .val (.long q4), .second, .val (.int (2 : Int32)), .val (.long u5), .second, .val (.long u8), .second, .val (.long u11), .second, .val (.long u14), .second, .val (.ref b31), .unset] [(.int (2 : Int32)), (.int (2 : Int32))])) _
      refine XS.icmpYes X33.here hx rfl (pc0 := 75) (pc' := 84) rfl (hb hby at_75) rfl (flt (by decide)).2.2.2 (by decide) (by decide) ?_
      show Steps p.tables e below (T33.setTop (mkF m 84 #[.val (.int p1), .val (.long q1), .second, .val (.long q2), .second, .val (.long q3), .second, .val (.long q4), .second, .val (.int (2 : Int32)), .val (.long u5), .second, .val (.long u8), .second, .val (.long u11), .second, .val (.long u14), .second, .val (.ref b31), .unset] [])) _
      refine XS.iload X33.here hx rfl (hb hby at_84) rfl ?_
      show Steps p.tables e below (T33.setTop (mkF m 86 #[.val (.int p1), .val (.long q1), .second, .val (.long q2), .second, .val (.long q3), .second, .val (.long q4), .second, .val (.int (2 : Int32)), .val (.long u5), .second, .val (.long u8), .second, .val (.long u11), .second, .val (.long u14), .second, .val (.ref b31), .unset] [(.int (2 : Int32))])) _
      refine XS.iconst X33.here hx rfl (hb hby at_86) ?_
      show Steps p.tables e below (T33.setTop (mkF m 87 #[.val (.int p1), .val (.long q1), .second, .val (.long q2), .second, .val (.long q3), .second, .val (.long q4), .second, .val (.int (2 : Int32)), .val (.long u5), .second, .val (.long u8), .second, .val (.long u11), .second, .val (.long u14), .second, .val (.ref b31), .unset] [(.int (3 : Int32)), (.int (2 : Int32))])) _
      refine XS.icmpYes X33.here hx rfl (pc0 := 87) (pc' := 96) rfl (hb hby at_87) rfl (flt (by decide)).2.2.2 (by decide) (by decide) ?_
      show Steps p.tables e below (T33.setTop (mkF m 96 #[.val (.int p1), .val (.long q1), .second, .val (.long q2), .second, .val (.long q3), .second, .val (.long q4), .second, .val (.int (2 : Int32)), .val (.long u5), .second, .val (.long u8), .second, .val (.long u11), .second, .val (.long u14), .second, .val (.ref b31), .unset] [])) _
      refine XS.iload X33.here hx rfl (hb hby at_96) rfl ?_
      show Steps p.tables e below (T33.setTop (mkF m 98 #[.val (.int p1), .val (.long q1), .second, .val (.long q2), .second, .val (.long q3), .second, .val (.long q4), .second, .val (.int (2 : Int32)), .val (.long u5), .second, .val (.long u8), .second, .val (.long u11), .second, .val (.long u14), .second, .val (.ref b31), .unset] [(.int (2 : Int32))])) _
      refine XS.ifNo X33.here hx rfl (hb hby at_98) rfl ((if0 _ _).trans (tlt (by decide)).2.2.2) ?_
      show Steps p.tables e below (T33.setTop (mkF m 101 #[.val (.int p1), .val (.long q1), .second, .val (.long q2), .second, .val (.long q3), .second, .val (.long q4), .second, .val (.int (2 : Int32)), .val (.long u5), .second, .val (.long u8), .second, .val (.long u11), .second, .val (.long u14), .second, .val (.ref b31), .unset] [])) _
      refine XS.iconst X33.here hx rfl (hb hby at_101) ?_
      show Steps p.tables e below (T33.setTop (mkF m 102 #[.val (.int p1), .val (.long q1), .second, .val (.long q2), .second, .val (.long q3), .second, .val (.long q4), .second, .val (.int (2 : Int32)), .val (.long u5), .second, .val (.long u8), .second, .val (.long u11), .second, .val (.long u14), .second, .val (.ref b31), .unset] [(.int (1 : Int32))])) _
      refine XS.goto X33.here hx rfl (pc0 := 102) (pc' := 106) rfl (hb hby at_102) (by decide) (by decide) ?_
      show Steps p.tables e below (T33.setTop (mkF m 106 #[.val (.int p1), .val (.long q1), .second, .val (.long q2), .second, .val (.long q3), .second, .val (.long q4), .second, .val (.int (2 : Int32)), .val (.long u5), .second, .val (.long u8), .second, .val (.long u11), .second, .val (.long u14), .second, .val (.ref b31), .unset] [(.int (1 : Int32))])) _
      refine XS.lload X33.here hx rfl (hb hby at_106) rfl ?_
      show Steps p.tables e below (T33.setTop (mkF m 108 #[.val (.int p1), .val (.long q1), .second, .val (.long q2), .second, .val (.long q3), .second, .val (.long q4), .second, .val (.int (2 : Int32)), .val (.long u5), .second, .val (.long u8), .second, .val (.long u11), .second, .val (.long u14), .second, .val (.ref b31), .unset] [(.long u5), (.int (1 : Int32))])) _
      refine st34 _ ?_
      show Steps p.tables e below (T34.setTop (mkF m 111 #[.val (.int p1), .val (.long q1), .second, .val (.long q2), .second, .val (.long q3), .second, .val (.long q4), .second, .val (.int (2 : Int32)), .val (.long u5), .second, .val (.long u8), .second, .val (.long u11), .second, .val (.long u14), .second, .val (.ref b31), .unset] [(.int (own_hit (1 : Int32) u5))])) _
      refine XS.iload X34.here hx rfl (hb hby at_111) rfl ?_
      show Steps p.tables e below (T34.setTop (mkF m 113 #[.val (.int p1), .val (.long q1), .second, .val (.long q2), .second, .val (.long q3), .second, .val (.long q4), .second, .val (.int (2 : Int32)), .val (.long u5), .second, .val (.long u8), .second, .val (.long u11), .second, .val (.long u14), .second, .val (.ref b31), .unset] [(.int (2 : Int32)), (.int (own_hit (1 : Int32) u5))])) _
      refine XS.iconst X34.here hx rfl (hb hby at_113) ?_
      show Steps p.tables e below (T34.setTop (mkF m 114 #[.val (.int p1), .val (.long q1), .second, .val (.long q2), .second, .val (.long q3), .second, .val (.long q4), .second, .val (.int (2 : Int32)), .val (.long u5), .second, .val (.long u8), .second, .val (.long u11), .second, .val (.long u14), .second, .val (.ref b31), .unset] [(.int (1 : Int32)), (.int (2 : Int32)), (.int (own_hit (1 : Int32) u5))])) _
      refine XS.icmpNo X34.here hx rfl (hb hby at_114) rfl (tlt (by decide)).2.2.2 ?_
      show Steps p.tables e below (T34.setTop (mkF m 117 #[.val (.int p1), .val (.long q1), .second, .val (.long q2), .second, .val (.long q3), .second, .val (.long q4), .second, .val (.int (2 : Int32)), .val (.long u5), .second, .val (.long u8), .second, .val (.long u11), .second, .val (.long u14), .second, .val (.ref b31), .unset] [(.int (own_hit (1 : Int32) u5))])) _
      refine XS.iconst X34.here hx rfl (hb hby at_117) ?_
      show Steps p.tables e below (T34.setTop (mkF m 118 #[.val (.int p1), .val (.long q1), .second, .val (.long q2), .second, .val (.long q3), .second, .val (.long q4), .second, .val (.int (2 : Int32)), .val (.long u5), .second, .val (.long u8), .second, .val (.long u11), .second, .val (.long u14), .second, .val (.ref b31), .unset] [(.int (1 : Int32)), (.int (own_hit (1 : Int32) u5))])) _
      refine XS.goto X34.here hx rfl (pc0 := 118) (pc' := 122) rfl (hb hby at_118) (by decide) (by decide) ?_
      show Steps p.tables e below (T34.setTop (mkF m 122 #[.val (.int p1), .val (.long q1), .second, .val (.long q2), .second, .val (.long q3), .second, .val (.long q4), .second, .val (.int (2 : Int32)), .val (.long u5), .second, .val (.long u8), .second, .val (.long u11), .second, .val (.long u14), .second, .val (.ref b31), .unset] [(.int (1 : Int32)), (.int (own_hit (1 : Int32) u5))])) _
      refine XS.lload X34.here hx rfl (hb hby at_122) rfl ?_
      show Steps p.tables e below (T34.setTop (mkF m 124 #[.val (.int p1), .val (.long q1), .second, .val (.long q2), .second, .val (.long q3), .second, .val (.long q4), .second, .val (.int (2 : Int32)), .val (.long u5), .second, .val (.long u8), .second, .val (.long u11), .second, .val (.long u14), .second, .val (.ref b31), .unset] [(.long u8), (.int (1 : Int32)), (.int (own_hit (1 : Int32) u5))])) _
      refine st35 _ ?_
      show Steps p.tables e below (T35.setTop (mkF m 127 #[.val (.int p1), .val (.long q1), .second, .val (.long q2), .second, .val (.long q3), .second, .val (.long q4), .second, .val (.int (2 : Int32)), .val (.long u5), .second, .val (.long u8), .second, .val (.long u11), .second, .val (.long u14), .second, .val (.ref b31), .unset] [(.int (own_hit (1 : Int32) u8)), (.int (own_hit (1 : Int32) u5))])) _
      refine XS.iadd X35.here hx rfl (hb hby at_127) rfl ?_
      show Steps p.tables e below (T35.setTop (mkF m 128 #[.val (.int p1), .val (.long q1), .second, .val (.long q2), .second, .val (.long q3), .second, .val (.long q4), .second, .val (.int (2 : Int32)), .val (.long u5), .second, .val (.long u8), .second, .val (.long u11), .second, .val (.long u14), .second, .val (.ref b31), .unset] [(.int ((own_hit (1 : Int32) u5) + (own_hit (1 : Int32) u8)))])) _
      refine XS.iload X35.here hx rfl (hb hby at_128) rfl ?_
      show Steps p.tables e below (T35.setTop (mkF m 130 #[.val (.int p1), .val (.long q1), .second, .val (.long q2), .second, .val (.long q3), .second, .val (.long q4), .second, .val (.int (2 : Int32)), .val (.long u5), .second, .val (.long u8), .second, .val (.long u11), .second, .val (.long u14), .second, .val (.ref b31), .unset] [(.int (2 : Int32)), (.int ((own_hit (1 : Int32) u5) + (own_hit (1 : Int32) u8)))])) _
      refine XS.iconst X35.here hx rfl (hb hby at_130) ?_
      show Steps p.tables e below (T35.setTop (mkF m 131 #[.val (.int p1), .val (.long q1), .second, .val (.long q2), .second, .val (.long q3), .second, .val (.long q4), .second, .val (.int (2 : Int32)), .val (.long u5), .second, .val (.long u8), .second, .val (.long u11), .second, .val (.long u14), .second, .val (.ref b31), .unset] [(.int (2 : Int32)), (.int (2 : Int32)), (.int ((own_hit (1 : Int32) u5) + (own_hit (1 : Int32) u8)))])) _
      refine XS.icmpYes X35.here hx rfl (pc0 := 131) (pc' := 138) rfl (hb hby at_131) rfl (flt (by decide)).2.2.2 (by decide) (by decide) ?_
      show Steps p.tables e below (T35.setTop (mkF m 138 #[.val (.int p1), .val (.long q1), .second, .val (.long q2), .second, .val (.long q3), .second, .val (.long q4), .second, .val (.int (2 : Int32)), .val (.long u5), .second, .val (.long u8), .second, .val (.long u11), .second, .val (.long u14), .second, .val (.ref b31), .unset] [(.int ((own_hit (1 : Int32) u5) + (own_hit (1 : Int32) u8)))])) _
      refine XS.iconst X35.here hx rfl (hb hby at_138) ?_
      show Steps p.tables e below (T35.setTop (mkF m 139 #[.val (.int p1), .val (.long q1), .second, .val (.long q2), .second, .val (.long q3), .second, .val (.long q4), .second, .val (.int (2 : Int32)), .val (.long u5), .second, .val (.long u8), .second, .val (.long u11), .second, .val (.long u14), .second, .val (.ref b31), .unset] [(.int (0 : Int32)), (.int ((own_hit (1 : Int32) u5) + (own_hit (1 : Int32) u8)))])) _
      refine XS.lload X35.here hx rfl (hb hby at_139) rfl ?_
      show Steps p.tables e below (T35.setTop (mkF m 141 #[.val (.int p1), .val (.long q1), .second, .val (.long q2), .second, .val (.long q3), .second, .val (.long q4), .second, .val (.int (2 : Int32)), .val (.long u5), .second, .val (.long u8), .second, .val (.long u11), .second, .val (.long u14), .second, .val (.ref b31), .unset] [(.long u11), (.int (0 : Int32)), (.int ((own_hit (1 : Int32) u5) + (own_hit (1 : Int32) u8)))])) _
      refine st36 _ ?_
      show Steps p.tables e below (T36.setTop (mkF m 144 #[.val (.int p1), .val (.long q1), .second, .val (.long q2), .second, .val (.long q3), .second, .val (.long q4), .second, .val (.int (2 : Int32)), .val (.long u5), .second, .val (.long u8), .second, .val (.long u11), .second, .val (.long u14), .second, .val (.ref b31), .unset] [(.int (own_hit (0 : Int32) u11)), (.int ((own_hit (1 : Int32) u5) + (own_hit (1 : Int32) u8)))])) _
      refine XS.iadd X36.here hx rfl (hb hby at_144) rfl ?_
      show Steps p.tables e below (T36.setTop (mkF m 145 #[.val (.int p1), .val (.long q1), .second, .val (.long q2), .second, .val (.long q3), .second, .val (.long q4), .second, .val (.int (2 : Int32)), .val (.long u5), .second, .val (.long u8), .second, .val (.long u11), .second, .val (.long u14), .second, .val (.ref b31), .unset] [(.int (((own_hit (1 : Int32) u5) + (own_hit (1 : Int32) u8)) + (own_hit (0 : Int32) u11)))])) _
      refine XS.iload X36.here hx rfl (hb hby at_145) rfl ?_
      show Steps p.tables e below (T36.setTop (mkF m 147 #[.val (.int p1), .val (.long q1), .second, .val (.long q2), .second, .val (.long q3), .second, .val (.long q4), .second, .val (.int (2 : Int32)), .val (.long u5), .second, .val (.long u8), .second, .val (.long u11), .second, .val (.long u14), .second, .val (.ref b31), .unset] [(.int (2 : Int32)), (.int (((own_hit (1 : Int32) u5) + (own_hit (1 : Int32) u8)) + (own_hit (0 : Int32) u11)))])) _
      refine XS.iconst X36.here hx rfl (hb hby at_147) ?_
      show Steps p.tables e below (T36.setTop (mkF m 148 #[.val (.int p1), .val (.long q1), .second, .val (.long q2), .second, .val (.long q3), .second, .val (.long q4), .second, .val (.int (2 : Int32)), .val (.long u5), .second, .val (.long u8), .second, .val (.long u11), .second, .val (.long u14), .second, .val (.ref b31), .unset] [(.int (3 : Int32)), (.int (2 : Int32)), (.int (((own_hit (1 : Int32) u5) + (own_hit (1 : Int32) u8)) + (own_hit (0 : Int32) u11)))])) _
      refine XS.icmpYes X36.here hx rfl (pc0 := 148) (pc' := 155) rfl (hb hby at_148) rfl (flt (by decide)).2.2.2 (by decide) (by decide) ?_
      show Steps p.tables e below (T36.setTop (mkF m 155 #[.val (.int p1), .val (.long q1), .second, .val (.long q2), .second, .val (.long q3), .second, .val (.long q4), .second, .val (.int (2 : Int32)), .val (.long u5), .second, .val (.long u8), .second, .val (.long u11), .second, .val (.long u14), .second, .val (.ref b31), .unset] [(.int (((own_hit (1 : Int32) u5) + (own_hit (1 : Int32) u8)) + (own_hit (0 : Int32) u11)))])) _
      refine XS.iconst X36.here hx rfl (hb hby at_155) ?_
      show Steps p.tables e below (T36.setTop (mkF m 156 #[.val (.int p1), .val (.long q1), .second, .val (.long q2), .second, .val (.long q3), .second, .val (.long q4), .second, .val (.int (2 : Int32)), .val (.long u5), .second, .val (.long u8), .second, .val (.long u11), .second, .val (.long u14), .second, .val (.ref b31), .unset] [(.int (0 : Int32)), (.int (((own_hit (1 : Int32) u5) + (own_hit (1 : Int32) u8)) + (own_hit (0 : Int32) u11)))])) _
      refine XS.lload X36.here hx rfl (hb hby at_156) rfl ?_
      show Steps p.tables e below (T36.setTop (mkF m 158 #[.val (.int p1), .val (.long q1), .second, .val (.long q2), .second, .val (.long q3), .second, .val (.long q4), .second, .val (.int (2 : Int32)), .val (.long u5), .second, .val (.long u8), .second, .val (.long u11), .second, .val (.long u14), .second, .val (.ref b31), .unset] [(.long u14), (.int (0 : Int32)), (.int (((own_hit (1 : Int32) u5) + (own_hit (1 : Int32) u8)) + (own_hit (0 : Int32) u11)))])) _
      refine st37 _ ?_
      show Steps p.tables e below (T37.setTop (mkF m 161 #[.val (.int p1), .val (.long q1), .second, .val (.long q2), .second, .val (.long q3), .second, .val (.long q4), .second, .val (.int (2 : Int32)), .val (.long u5), .second, .val (.long u8), .second, .val (.long u11), .second, .val (.long u14), .second, .val (.ref b31), .unset] [(.int (own_hit (0 : Int32) u14)), (.int (((own_hit (1 : Int32) u5) + (own_hit (1 : Int32) u8)) + (own_hit (0 : Int32) u11)))])) _
      refine XS.iadd X37.here hx rfl (hb hby at_161) rfl ?_
      show Steps p.tables e below (T37.setTop (mkF m 162 #[.val (.int p1), .val (.long q1), .second, .val (.long q2), .second, .val (.long q3), .second, .val (.long q4), .second, .val (.int (2 : Int32)), .val (.long u5), .second, .val (.long u8), .second, .val (.long u11), .second, .val (.long u14), .second, .val (.ref b31), .unset] [(.int ((((own_hit (1 : Int32) u5) + (own_hit (1 : Int32) u8)) + (own_hit (0 : Int32) u11)) + (own_hit (0 : Int32) u14)))])) _
      refine XS.istore X37.here hx rfl (hb hby at_162) rfl (l' := #[.val (.int p1), .val (.long q1), .second, .val (.long q2), .second, .val (.long q3), .second, .val (.long q4), .second, .val (.int (2 : Int32)), .val (.long u5), .second, .val (.long u8), .second, .val (.long u11), .second, .val (.long u14), .second, .val (.ref b31), .val (.int ((((own_hit (1 : Int32) u5) + (own_hit (1 : Int32) u8)) + (own_hit (0 : Int32) u11)) + (own_hit (0 : Int32) u14)))]) rfl ?_
      show Steps p.tables e below (T37.setTop (mkF m 164 #[.val (.int p1), .val (.long q1), .second, .val (.long q2), .second, .val (.long q3), .second, .val (.long q4), .second, .val (.int (2 : Int32)), .val (.long u5), .second, .val (.long u8), .second, .val (.long u11), .second, .val (.long u14), .second, .val (.ref b31), .val (.int ((((own_hit (1 : Int32) u5) + (own_hit (1 : Int32) u8)) + (own_hit (0 : Int32) u11)) + (own_hit (0 : Int32) u14)))] [])) _
      refine XS.aload X37.here hx rfl (hb hby at_164) rfl rfl ?_
      show Steps p.tables e below (T37.setTop (mkF m 166 #[.val (.int p1), .val (.long q1), .second, .val (.long q2), .second, .val (.long q3), .second, .val (.long q4), .second, .val (.int (2 : Int32)), .val (.long u5), .second, .val (.long u8), .second, .val (.long u11), .second, .val (.long u14), .second, .val (.ref b31), .val (.int ((((own_hit (1 : Int32) u5) + (own_hit (1 : Int32) u8)) + (own_hit (0 : Int32) u11)) + (own_hit (0 : Int32) u14)))] [(.ref b31)])) _
      refine st38 _ ?_
      show Steps p.tables e below (T38.setTop (mkF m 169 #[.val (.int p1), .val (.long q1), .second, .val (.long q2), .second, .val (.long q3), .second, .val (.long q4), .second, .val (.int (2 : Int32)), .val (.long u5), .second, .val (.long u8), .second, .val (.long u11), .second, .val (.long u14), .second, .val (.ref b31), .val (.int ((((own_hit (1 : Int32) u5) + (own_hit (1 : Int32) u8)) + (own_hit (0 : Int32) u11)) + (own_hit (0 : Int32) u14)))] [(.int (own_st u8 (own_st u5 (0 : Int32))))])) _
      refine XS.iload X38.here hx rfl (hb hby at_169) rfl ?_
      show Steps p.tables e below (T38.setTop (mkF m 171 #[.val (.int p1), .val (.long q1), .second, .val (.long q2), .second, .val (.long q3), .second, .val (.long q4), .second, .val (.int (2 : Int32)), .val (.long u5), .second, .val (.long u8), .second, .val (.long u11), .second, .val (.long u14), .second, .val (.ref b31), .val (.int ((((own_hit (1 : Int32) u5) + (own_hit (1 : Int32) u8)) + (own_hit (0 : Int32) u11)) + (own_hit (0 : Int32) u14)))] [(.int ((((own_hit (1 : Int32) u5) + (own_hit (1 : Int32) u8)) + (own_hit (0 : Int32) u11)) + (own_hit (0 : Int32) u14))), (.int (own_st u8 (own_st u5 (0 : Int32))))])) _
      refine XS.icmpNo X38.here hx rfl (hb hby at_171) rfl (teq (own_c2 u5 u8 u11 u14)).2 ?_
      show Steps p.tables e below (T38.setTop (mkF m 174 #[.val (.int p1), .val (.long q1), .second, .val (.long q2), .second, .val (.long q3), .second, .val (.long q4), .second, .val (.int (2 : Int32)), .val (.long u5), .second, .val (.long u8), .second, .val (.long u11), .second, .val (.long u14), .second, .val (.ref b31), .val (.int ((((own_hit (1 : Int32) u5) + (own_hit (1 : Int32) u8)) + (own_hit (0 : Int32) u11)) + (own_hit (0 : Int32) u14)))] [])) _
      refine XS.iconst X38.here hx rfl (hb hby at_174) ?_
      show Steps p.tables e below (T38.setTop (mkF m 175 #[.val (.int p1), .val (.long q1), .second, .val (.long q2), .second, .val (.long q3), .second, .val (.long q4), .second, .val (.int (2 : Int32)), .val (.long u5), .second, .val (.long u8), .second, .val (.long u11), .second, .val (.long u14), .second, .val (.ref b31), .val (.int ((((own_hit (1 : Int32) u5) + (own_hit (1 : Int32) u8)) + (own_hit (0 : Int32) u11)) + (own_hit (0 : Int32) u14)))] [(.int (1 : Int32))])) _
      refine XS.goto X38.here hx rfl (pc0 := 175) (pc' := 179) rfl (hb hby at_175) (by decide) (by decide) ?_
      exact k)
    obtain ⟨fs, hr, hrun, hended, hW, hsame⟩ := X38.leave (v := some (.int (1 : Int32))) (fun h => by rw [Bd.returns] at h; cases h)
    refine ⟨_, _, way39 _ ?_, hrun, hended, _, _, rfl, ?_, ⟨_, rfl⟩, hW, hsame.mono (by decide) (by decide)⟩
    · show Steps p.tables e below (T38.setTop (mkF m 179 #[.val (.int p1), .val (.long q1), .second, .val (.long q2), .second, .val (.long q3), .second, .val (.long q4), .second, .val (.int (2 : Int32)), .val (.long u5), .second, .val (.long u8), .second, .val (.long u11), .second, .val (.long u14), .second, .val (.ref b31), .val (.int ((((own_hit (1 : Int32) u5) + (own_hit (1 : Int32) u8)) + (own_hit (0 : Int32) u11)) + (own_hit (0 : Int32) u14)))] [(.int (1 : Int32))])) _
      exact retN X38 hx (t := .boolean) Bd.returns (by simp) (hb hby at_179) hr
    · show Q_law Z p1 q1 q2 q3 q4 h0 n0 _ T38.heap _
      rw [hh38]
      exact ⟨rfl, N38⟩
  ·
    obtain ⟨T40, h40, k40, X40, e40, E40, A40, st40⟩ := newP X12 hx hZ (hw _ (List.mem_of_getElem? (i := 4) rfl)) hh12 (g := (mkF m 45 #[.val (.int p1), .val (.long q1), .second, .val (.long q2), .second, .val (.long q3), .second, .val (.long q4), .second, .val (.int (3 : Int32)), .val (.long u5), .second, .val (.long u8), .second, .val (.long u11), .second, .val (.long u14), .second, .unset, .unset] [(.int (3 : Int32))])) rfl (hb hby at_45) rfl (by decide) (cap := 3) (by decide) (by decide) (by decide) (by decide)
    obtain ⟨b40, g40⟩ : ∃ z, z = h0.size := ⟨_, rfl⟩
    rw [← g40] at A40 st40
    have sz_b40 : h0.size ≤ b40 := Nat.le_trans (Keep.refl h0 []).1 (Nat.le_of_eq g40.symm)
    have g_b40 : n0 ≤ b40 := Nat.le_trans Z0 sz_b40
    have K40 : Keep h0 h40 [] := (Keep.refl h0 []).ext E40
    have V40 : Arv Z h40 b40 k40 .long (3 : Int32) [(.long (0 : Int64)), (.long (0 : Int64)), (.long (0 : Int64))] (.long (0 : Int64)) := (Arv.new A40 (by decide)).pad (pad_rep [] (.long (0 : Int64)) 3)
    obtain ⟨cl41, Ar41, aq41, S41, M41, H41, G41⟩ := id V40
    have hin41 : ¬ ((0 : Int32) < 0 ∨ cl41.slots.size ≤ ((0 : Int32)).toNatClampNeg) := by rw [S41]; decide
    obtain ⟨T41, h41, X41, e41, W41, st41⟩ := stJ X40 hx hZ e40 Ar41 (j := (0 : Int32)) hin41 (g := (mkF m 59 #[.val (.int p1), .val (.long q1), .second, .val (.long q2), .second, .val (.long q3), .second, .val (.long q4), .second, .val (.int (3 : Int32)), .val (.long u5), .second, .val (.long u8), .second, .val (.long u11), .second, .val (.long u14), .second, .val (.ref b40), .unset] [(.long u5), (.int (0 : Int32)), (.ref b40)])) rfl rfl (hb hby at_59)
    have K41 : Keep h0 h41 [] := K40.wr W41 (Or.inr sz_b40)
    have N41 := Fr.snoc X41 N12 g_b40
    have V41 : Arv Z h41 b40 k40 .long (3 : Int32) [(.long u5), (.long (0 : Int64)), (.long (0 : Int64))] (.long (0 : Int64)) := Arv.set Ar41 aq41 S41 M41 H41 G41 rfl W41 0 rfl (Nat.le_of_ble_eq_true rfl)
    obtain ⟨cl42, Ar42, aq42, S42, M42, H42, G42⟩ := id V41
    have hin42 : ¬ ((1 : Int32) < 0 ∨ cl42.slots.size ≤ ((1 : Int32)).toNatClampNeg) := by rw [S42]; decide
    obtain ⟨T42, h42, X42, e42, W42, st42⟩ := stJ X41 hx hZ e41 Ar42 (j := (1 : Int32)) hin42 (g := (mkF m 71 #[.val (.int p1), .val (.long q1), .second, .val (.long q2), .second, .val (.long q3), .second, .val (.long q4), .second, .val (.int (3 : Int32)), .val (.long u5), .second, .val (.long u8), .second, .val (.long u11), .second, .val (.long u14), .second, .val (.ref b40), .unset] [(.long u8), (.int (1 : Int32)), (.ref b40)])) rfl rfl (hb hby at_71)
    have K42 : Keep h0 h42 [] := K41.wr W42 (Or.inr sz_b40)
    have N42 := Fr.snoc X42 N41 g_b40
    have V42 : Arv Z h42 b40 k40 .long (3 : Int32) [(.long u5), (.long u8), (.long (0 : Int64))] (.long (0 : Int64)) := Arv.set Ar42 aq42 S42 M42 H42 G42 rfl W42 1 rfl (Nat.le_of_ble_eq_true rfl)
    obtain ⟨cl43, Ar43, aq43, S43, M43, H43, G43⟩ := id V42
    have hin43 : ¬ ((2 : Int32) < 0 ∨ cl43.slots.size ≤ ((2 : Int32)).toNatClampNeg) := by rw [S43]; decide
    obtain ⟨T43, h43, X43, e43, W43, st43⟩ := stJ X42 hx hZ e42 Ar43 (j := (2 : Int32)) hin43 (g := (mkF m 83 #[.val (.int p1), .val (.long q1), .second, .val (.long q2), .second, .val (.long q3), .second, .val (.long q4), .second, .val (.int (3 : Int32)), .val (.long u5), .second, .val (.long u8), .second, .val (.long u11), .second, .val (.long u14), .second, .val (.ref b40), .unset] [(.long u11), (.int (2 : Int32)), (.ref b40)])) rfl rfl (hb hby at_83)
    have K43 : Keep h0 h43 [] := K42.wr W43 (Or.inr sz_b40)
    have N43 := Fr.snoc X43 N42 g_b40
    have V43 : Arv Z h43 b40 k40 .long (3 : Int32) [(.long u5), (.long u8), (.long u11)] (.long (0 : Int64)) := Arv.set Ar43 aq43 S43 M43 H43 G43 rfl W43 2 rfl (Nat.le_of_ble_eq_true rfl)
    obtain ⟨_, _, ⟨T44, L44, k44, n44⟩, -, X44, ⟨Lc44, hQ44, l44, y44, z44⟩, st44⟩ := Jvm.LawKit.callS X43 hx (y := (⟨"com/example/netloom/netloom/core/reachability/OmegaSetsOmegaCountPinLaw", "hit", "(ZJ)I"⟩ : MethodName)) hown (mvT hZ (hw _ (List.mem_of_getElem? (i := 5) rfl))) (mvT hZ (hw _ (List.mem_of_getElem? (i := 6) rfl))) (mvT hZ (hw _ (List.mem_of_getElem? (i := 2) rfl))) (mvT hZ (hw _ (List.mem_of_getElem? (i := 7) rfl))) (by decide) (backOf (W := 0) (rm_hit l Z a0 hw [] (1 : Int32) u5  h43 n0 (Nat.le_trans Z0 K43.1) ) hZ (hw _ (List.mem_of_getElem? (i := 7) rfl)) (hw _ (List.mem_of_getElem? (i := 2) rfl)) (by decide) (by decide)) (g := (mkF m 108 #[.val (.int p1), .val (.long q1), .second, .val (.long q2), .second, .val (.long q3), .second, .val (.long q4), .second, .val (.int (3 : Int32)), .val (.long u5), .second, .val (.long u8), .second, .val (.long u11), .second, .val (.long u14), .second, .val (.ref b40), .unset] [(.long u5), (.int (1 : Int32))])) rfl (by rw [hml]; rfl) (argsL := [(.int (1 : Int32)), (.long u5)]) (rest := []) (lenOf own_pd3 rfl) rfl (by show 2 * 0 + _ ≤ _; exact Nat.le_of_eq rfl) (hb hby at_108) (fun _ _ => ⟨rfl, e43, (by decide : 1 + 0 ≤ _), (by decide : 3 + 0 ≤ _)⟩)
    dsimp only [Pt.U, Pt.locs, Pt.cells, Pt.slots] at X44 l44 y44 z44 st44 hQ44
    subst l44 y44 z44
    obtain ⟨rfl, N44q, hh44⟩ := hQ44
    have N44 := Fr.app N43 N44q
    obtain ⟨_, _, ⟨T45, L45, k45, n45⟩, -, X45, ⟨Lc45, hQ45, l45, y45, z45⟩, st45⟩ := Jvm.LawKit.callS X44 hx (y := (⟨"com/example/netloom/netloom/core/reachability/OmegaSetsOmegaCountPinLaw", "hit", "(ZJ)I"⟩ : MethodName)) hown (mvT hZ (hw _ (List.mem_of_getElem? (i := 5) rfl))) (mvT hZ (hw _ (List.mem_of_getElem? (i := 6) rfl))) (mvT hZ (hw _ (List.mem_of_getElem? (i := 2) rfl))) (mvT hZ (hw _ (List.mem_of_getElem? (i := 7) rfl))) (by decide) (backOf (W := 1) (rm_hit l Z a0 hw [] (1 : Int32) u8  h43 n0 (Nat.le_trans Z0 K43.1) ) hZ (hw _ (List.mem_of_getElem? (i := 7) rfl)) (hw _ (List.mem_of_getElem? (i := 2) rfl)) (by decide) (by decide)) (g := (mkF m 124 #[.val (.int p1), .val (.long q1), .second, .val (.long q2), .second, .val (.long q3), .second, .val (.long q4), .second, .val (.int (3 : Int32)), .val (.long u5), .second, .val (.long u8), .second, .val (.long u11), .second, .val (.long u14), .second, .val (.ref b40), .unset] [(.long u8), (.int (1 : Int32)), (.int (own_hit (1 : Int32) u5))])) rfl (by rw [hml]; rfl) (argsL := [(.int (1 : Int32)), (.long u8)]) (rest := [(.int (own_hit (1 : Int32) u5))]) (lenOf own_pd3 rfl) rfl (by show 2 * 0 + _ ≤ _; exact Nat.le_of_eq rfl) (hb hby at_124) (fun _ _ => ⟨rfl, hh44, (by decide : 1 + 0 ≤ _), (by decide : 3 + 0 ≤ _)⟩)
    dsimp only [Pt.U, Pt.locs, Pt.cells, Pt.slots] at X45 l45 y45 z45 st45 hQ45
    subst l45 y45 z45
    obtain ⟨rfl, N45q, hh45⟩ := hQ45
    have N45 := Fr.app N44 N45q
    obtain ⟨_, _, ⟨T46, L46, k46, n46⟩, -, X46, ⟨Lc46, hQ46, l46, y46, z46⟩, st46⟩ := Jvm.LawKit.callS X45 hx (y := (⟨"com/example/netloom/netloom/core/reachability/OmegaSetsOmegaCountPinLaw", "hit", "(ZJ)I"⟩ : MethodName)) hown (mvT hZ (hw _ (List.mem_of_getElem? (i := 5) rfl))) (mvT hZ (hw _ (List.mem_of_getElem? (i := 6) rfl))) (mvT hZ (hw _ (List.mem_of_getElem? (i := 2) rfl))) (mvT hZ (hw _ (List.mem_of_getElem? (i := 7) rfl))) (by decide) (backOf (W := 1) (rm_hit l Z a0 hw [] (1 : Int32) u11  h43 n0 (Nat.le_trans Z0 K43.1) ) hZ (hw _ (List.mem_of_getElem? (i := 7) rfl)) (hw _ (List.mem_of_getElem? (i := 2) rfl)) (by decide) (by decide)) (g := (mkF m 141 #[.val (.int p1), .val (.long q1), .second, .val (.long q2), .second, .val (.long q3), .second, .val (.long q4), .second, .val (.int (3 : Int32)), .val (.long u5), .second, .val (.long u8), .second, .val (.long u11), .second, .val (.long u14), .second, .val (.ref b40), .unset] [(.long u11), (.int (1 : Int32)), (.int ((own_hit (1 : Int32) u5) + (own_hit (1 : Int32) u8)))])) rfl (by rw [hml]; rfl) (argsL := [(.int (1 : Int32)), (.long u11)]) (rest := [(.int ((own_hit (1 : Int32) u5) + (own_hit (1 : Int32) u8)))]) (lenOf own_pd3 rfl) rfl (by show 2 * 0 + _ ≤ _; exact Nat.le_of_eq rfl) (hb hby at_141) (fun _ _ => ⟨rfl, hh45, (by decide : 1 + 0 ≤ _), (by decide : 3 + 0 ≤ _)⟩)
    dsimp only [Pt.U, Pt.locs, Pt.cells, Pt.slots] at X46 l46 y46 z46 st46 hQ46
    subst l46 y46 z46
    obtain ⟨rfl, N46q, hh46⟩ := hQ46
    have N46 := Fr.app N45 N46q
    obtain ⟨_, _, ⟨T47, L47, k47, n47⟩, -, X47, ⟨Lc47, hQ47, l47, y47, z47⟩, st47⟩ := Jvm.LawKit.callS X46 hx (y := (⟨"com/example/netloom/netloom/core/reachability/OmegaSetsOmegaCountPinLaw", "hit", "(ZJ)I"⟩ : MethodName)) hown (mvT hZ (hw _ (List.mem_of_getElem? (i := 5) rfl))) (mvT hZ (hw _ (List.mem_of_getElem? (i := 6) rfl))) (mvT hZ (hw _ (List.mem_of_getElem? (i := 2) rfl))) (mvT hZ (hw _ (List.mem_of_getElem? (i := 7) rfl))) (by decide) (backOf (W := 1) (rm_hit l Z a0 hw [] (0 : Int32) u14  h43 n0 (Nat.le_trans Z0 K43.1) ) hZ (hw _ (List.mem_of_getElem? (i := 7) rfl)) (hw _ (List.mem_of_getElem? (i := 2) rfl)) (by decide) (by decide)) (g := (mkF m 158 #[.val (.int p1), .val (.long q1), .second, .val (.long q2), .second, .val (.long q3), .second, .val (.long q4), .second, .val (.int (3 : Int32)), .val (.long u5), .second, .val (.long u8), .second, .val (.long u11), .second, .val (.long u14), .second, .val (.ref b40), .unset] [(.long u14), (.int (0 : Int32)), (.int (((own_hit (1 : Int32) u5) + (own_hit (1 : Int32) u8)) + (own_hit (1 : Int32) u11)))])) rfl (by rw [hml]; rfl) (argsL := [(.int (0 : Int32)), (.long u14)]) (rest := [(.int (((own_hit (1 : Int32) u5) + (own_hit (1 : Int32) u8)) + (own_hit (1 : Int32) u11)))]) (lenOf own_pd3 rfl) rfl (by show 2 * 0 + _ ≤ _; exact Nat.le_of_eq rfl) (hb hby at_158) (fun _ _ => ⟨rfl, hh46, (by decide : 1 + 0 ≤ _), (by decide : 3 + 0 ≤ _)⟩)
    dsimp only [Pt.U, Pt.locs, Pt.cells, Pt.slots] at X47 l47 y47 z47 st47 hQ47
    subst l47 y47 z47
    obtain ⟨rfl, N47q, hh47⟩ := hQ47
    have N47 := Fr.app N46 N47q
    obtain ⟨_, _, ⟨T48, L48, k48, n48⟩, -, X48, ⟨Lc48, hQ48, l48, y48, z48⟩, st48⟩ := Jvm.LawKit.callS X47 hx (y := (⟨"com/example/netloom/netloom/core/reachability/OmegaSets", "omegaCount", "([J)I"⟩ : MethodName)) hown (mvT hZ (hw _ (List.mem_of_getElem? (i := 8) rfl))) (mvT hZ (hw _ (List.mem_of_getElem? (i := 9) rfl))) (mvT hZ (hw _ (List.mem_of_getElem? (i := 10) rfl))) (mvT hZ (hw _ (List.mem_of_getElem? (i := 11) rfl))) (by decide) (backOf (W := 0) (rm_oc3 l Z a0 hw [] b40 k40 u5 u8 u11 h43 n0 (Nat.le_trans Z0 K43.1) V43) hZ (hw _ (List.mem_of_getElem? (i := 11) rfl)) (hw _ (List.mem_of_getElem? (i := 10) rfl)) (by decide) (by decide)) (g := (mkF m 166 #[.val (.int p1), .val (.long q1), .second, .val (.long q2), .second, .val (.long q3), .second, .val (.long q4), .second, .val (.int (3 : Int32)), .val (.long u5), .second, .val (.long u8), .second, .val (.long u11), .second, .val (.long u14), .second, .val (.ref b40), .val (.int ((((own_hit (1 : Int32) u5) + (own_hit (1 : Int32) u8)) + (own_hit (1 : Int32) u11)) + (own_hit (0 : Int32) u14)))] [(.ref b40)])) rfl (by rw [hml]; rfl) (argsL := [(.ref b40)]) (rest := []) (lenOf own_pd4 rfl) rfl (by show 2 * 0 + _ ≤ _; exact Nat.le_of_eq rfl) (hb hby at_166) (fun _ _ => ⟨rfl, hh47, (by decide : 1 + 0 ≤ _), (by decide : 3 + 0 ≤ _)⟩)
    dsimp only [Pt.U, Pt.locs, Pt.cells, Pt.slots] at X48 l48 y48 z48 st48 hQ48
    subst l48 y48 z48
    obtain ⟨rfl, N48q, hh48⟩ := hQ48
    have N48 := Fr.app N47 N48q
    have way49 : ∀ t, Steps p.tables e below (T48.setTop (mkF m 179 #[.val (.int p1), .val (.long q1), .second, .val (.long q2), .second, .val (.long q3), .second, .val (.long q4), .second, .val (.int (3 : Int32)), .val (.long u5), .second, .val (.long u8), .second, .val (.long u11), .second, .val (.long u14), .second, .val (.ref b40), .val (.int ((((own_hit (1 : Int32) u5) + (own_hit (1 : Int32) u8)) + (own_hit (1 : Int32) u11)) + (own_hit (0 : Int32) u14)))] [(.int (1 : Int32))])) t → Steps p.tables e below (s₁.setTop (entryFrame m #[(.int p1), (.long q1), (.long q2), (.long q3), (.long q4)] maxLocals)) t := fun t k => way15 t (by
      show Steps p.tables e below (T12.setTop (mkF m 43 #[.val (.int p1), .val (.long q1), .second, .val (.long q2), .second, .val (.long q3), .second, .val (.long q4), .second, .val (.int (3 : Int32)), .val (.long u5), .second, .val (.long u8), .second, .val (.long u11), .second, .val (.long u14), .second, .unset, .unset] [])) _
      refine XS.iload X12.here hx rfl (hb hby at_43) rfl ?_
      show Steps p.tables e below (T12.setTop (mkF m 45 #[.val (.int p1), .val (.long q1), .second, .val (.long q2), .second, .val (.long q3), .second, .val (.long q4), .second, .val (.int (3 : Int32)), .val (.long u5), .second, .val (.long u8), .second, .val (.long u11), .second, .val (.long u14), .second, .unset, .unset] [(.int (3 : Int32))])) _
      refine st40 _ ?_
      show Steps p.tables e below (T40.setTop (mkF m 47 #[.val (.int p1), .val (.long q1), .second, .val (.long q2), .second, .val (.long q3), .second, .val (.long q4), .second, .val (.int (3 : Int32)), .val (.long u5), .second, .val (.long u8), .second, .val (.long u11), .second, .val (.long u14), .second, .unset, .unset] [(.ref b40)])) _
      refine XS.astore X40.here hx rfl (hb hby at_47) rfl rfl (l' := #[.val (.int p1), .val (.long q1), .second, .val (.long q2), .second, .val (.long q3), .second, .val (.long q4), .second, .val (.int (3 : Int32)), .val (.long u5), .second, .val (.long u8), .second, .val (.long u11), .second, .val (.long u14), .second, .val (.ref b40), .unset]) rfl ?_
      show Steps p.tables e below (T40.setTop (mkF m 49 #[.val (.int p1), .val (.long q1), .second, .val (.long q2), .second, .val (.long q3), .second, .val (.long q4), .second, .val (.int (3 : Int32)), .val (.long u5), .second, .val (.long u8), .second, .val (.long u11), .second, .val (.long u14), .second, .val (.ref b40), .unset] [])) _
      refine XS.iload X40.here hx rfl (hb hby at_49) rfl ?_
      show Steps p.tables e below (T40.setTop (mkF m 51 #[.val (.int p1), .val (.long q1), .second, .val (.long q2), .second, .val (.long q3), .second, .val (.long q4), .second, .val (.int (3 : Int32)), .val (.long u5), .second, .val (.long u8), .second, .val (.long u11), .second, .val (.long u14), .second, .val (.ref b40), .unset] [(.int (3 : Int32))])) _
      refine XS.ifNo X40.here hx rfl (hb hby at_51) rfl ((if0 _ _).trans (tlt (by decide)).2.2.2) ?_
      show Steps p.tables e below (T40.setTop (mkF m 54 #[.val (.int p1), .val (.long q1), .second, .val (.long q2), .second, .val (.long q3), .second, .val (.long q4), .second, .val (.int (3 : Int32)), .val (.long u5), .second, .val (.long u8), .second, .val (.long u11), .second, .val (.long u14), .second, .val (.ref b40), .unset] [])) _
      refine XS.aload X40.here hx rfl (hb hby at_54) rfl rfl ?_
      show Steps p.tables e below (T40.setTop (mkF m 56 #[.val (.int p1), .val (.long q1), .second, .val (.long q2), .second, .val (.long q3), .second, .val (.long q4), .second, .val (.int (3 : Int32)), .val (.long u5), .second, .val (.long u8), .second, .val (.long u11), .second, .val (.long u14), .second, .val (.ref b40), .unset] [(.ref b40)])) _
      refine XS.iconst X40.here hx rfl (hb hby at_56) ?_
      show Steps p.tables e below (T40.setTop (mkF m 57 #[.val (.int p1), .val (.long q1), .second, .val (.long q2), .second, .val (.long q3), .second, .val (.long q4), .second, .val (.int (3 : Int32)), .val (.long u5), .second, .val (.long u8), .second, .val (.long u11), .second, .val (.long u14), .second, .val (.ref b40), .unset] [(.int (0 : Int32)), (.ref b40)])) _
      refine XS.lload X40.here hx rfl (hb hby at_57) rfl ?_
      show Steps p.tables e below (T40.setTop (mkF m 59 #[.val (.int p1), .val (.long q1), .second, .val (.long q2), .second, .val (.long q3), .second, .val (.long q4), .second, .val (.int (3 : Int32)), .val (.long u5), .second, .val (.long u8), .second, .val (.long u11), .second, .val (.long u14), .second, .val (.ref b40), .unset] [(.long u5), (.int (0 : Int32)), (.ref b40)])) _
      refine st41 _ ?_
      show Steps p.tables e below (T41.setTop (mkF m 60 #[.val (.int p1), .val (.long q1), .second, .val (.long q2), .second, .val (.long q3), .second, .val (.long q4), .second, .val (.int (3 : Int32)), .val (.long u5), .second, .val (.long u8), .second, .val (.long u11), .second, .val (.long u14), .second, .val (.ref b40), .unset] [])) _
      refine XS.iload X41.here hx rfl (hb hby at_60) rfl ?_
      show Steps p.tables e below (T41.setTop (mkF m 62 #[.val (.int p1), .val (.long q1), .second, .val (.long q2), .second, .val (.long q3), .second, .val (.long q4), .second, .val (.int (3 : Int32)), .val (.long u5), .second, .val (.long u8), .second, .val (.long u11), .second, .val (.long u14), .second, .val (.ref b40), .unset] [(.int (3 : Int32))])) _
      refine XS.iconst X41.here hx rfl (hb hby at_62) ?_
      show Steps p.tables e below (T41.setTop (mkF m 63 #[.val (.int p1), .val (.long q1), .second, .val (.long q2), .second, .val (.long q3), .second, .val (.long q4), .second, .val (.int (3 : Int32)), .val (.long u5), .second, .val (.long u8), .second, .val (.long u11), .second, .val (.long u14), .second, .val (.ref b40), .unset] [(.int (1 : Int32)), (.int (3 : Int32))])) _
      refine XS.icmpNo X41.here hx rfl (hb hby at_63) rfl (tlt (by decide)).2.2.2 ?_
      show Steps p.tables e below (T41.setTop (mkF m 66 #[.val (.int p1), .val (.long q1), .second, .val (.long q2), .second, .val (.long q3), .second, .val (.long q4), .second, .val (.int (3 : Int32)), .val (.long u5), .second, .val (.long u8), .second, .val (.long u11), .second, .val (.long u14), .second, .val (.ref b40), .unset] [])) _
      refine XS.aload X41.here hx rfl (hb hby at_66) rfl rfl ?_
      show Steps p.tables e below (T41.setTop (mkF m 68 #[.val (.int p1), .val (.long q1), .second, .val (.long q2), .second, .val (.long q3), .second, .val (.long q4), .second, .val (.int (3 : Int32)), .val (.long u5), .second, .val (.long u8), .second, .val (.long u11), .second, .val (.long u14), .second, .val (.ref b40), .unset] [(.ref b40)])) _
      refine XS.iconst X41.here hx rfl (hb hby at_68) ?_
      show Steps p.tables e below (T41.setTop (mkF m 69 #[.val (.int p1), .val (.long q1), .second, .val (.long q2), .second, .val (.long q3), .second, .val (.long q4), .second, .val (.int (3 : Int32)), .val (.long u5), .second, .val (.long u8), .second, .val (.long u11), .second, .val (.long u14), .second, .val (.ref b40), .unset] [(.int (1 : Int32)), (.ref b40)])) _
      refine XS.lload X41.here hx rfl (hb hby at_69) rfl ?_
      show Steps p.tables e below (T41.setTop (mkF m 71 #[.val (.int p1), .val (.long q1), .second, .val (.long q2), .second, .val (.long q3), .second, .val (.long q4), .second, .val (.int (3 : Int32)), .val (.long u5), .second, .val (.long u8), .second, .val (.long u11), .second, .val (.long u14), .second, .val (.ref b40), .unset] [(.long u8), (.int (1 : Int32)), (.ref b40)])) _
      refine st42 _ ?_
      show Steps p.tables e below (T42.setTop (mkF m 72 #[.val (.int p1), .val (.long q1), .second, .val (.long q2), .second, .val (.long q3), .second, .val (.long q4), .second, .val (.int (3 : Int32)), .val (.long u5), .second, .val (.long u8), .second, .val (.long u11), .second, .val (.long u14), .second, .val (.ref b40), .unset] [])) _
      refine XS.iload X42.here hx rfl (hb hby at_72) rfl ?_
      show Steps p.tables e below (T42.setTop (mkF m 74 #[.val (.int p1), .val (.long q1), .second, .val (.long q2), .second, .val (.long q3), .second, .val (.long q4), .second, .val (.int (3 : Int32)), .val (.long u5), .second, .val (.long u8), .second, .val (.long u11), .second, .val (.long u14), .second, .val (.ref b40), .unset] [(.int (3 : Int32))])) _
      refine XS.iconst X42.here hx rfl (hb hby at_74) ?_
      show Steps p.tables e below (T42.setTop (mkF m 75 #[.val (.int p1), .val (.long q1), .second, .val (.long q2), .second, .val (.long q3), .second, .val (.long q4), .second, .val (.int (3 : Int32)), .val (.long u5), .second, .val (.long u8), .second, .val (.long u11), .second, .val (.long u14), .second, .val (.ref b40), .unset] [(.int (2 : Int32)), (.int (3 : Int32))])) _
      refine XS.icmpNo X42.here hx rfl (hb hby at_75) rfl (tlt (by decide)).2.2.2 ?_
      show Steps p.tables e below (T42.setTop (mkF m 78 #[.val (.int p1), .val (.long q1), .second, .val (.long q2), .second, .val (.long q3), .second, .val (.long q4), .second, .val (.int (3 : Int32)), .val (.long u5), .second, .val (.long u8), .second, .val (.long u11), .second, .val (.long u14), .second, .val (.ref b40), .unset] [])) _
      refine XS.aload X42.here hx rfl (hb hby at_78) rfl rfl ?_
      show Steps p.tables e below (T42.setTop (mkF m 80 #[.val (.int p1), .val (.long q1), .second, .val (.long q2), .second, .val (.long q3), .second, .val (.long q4), .second, .val (.int (3 : Int32)), .val (.long u5), .second, .val (.long u8), .second, .val (.long u11), .second, .val (.long u14), .second, .val (.ref b40), .unset] [(.ref b40)])) _
      refine XS.iconst X42.here hx rfl (hb hby at_80) ?_
      show Steps p.tables e below (T42.setTop (mkF m 81 #[.val (.int p1), .val (.long q1), .second, .val (.long q2), .second, .val (.long q3), .second, .val (.long q4), .second, .val (.int (3 : Int32)), .val (.long u5), .second, .val (.long u8), .second, .val (.long u11), .second, .val (.long u14), .second, .val (.ref b40), .unset] [(.int (2 : Int32)), (.ref b40)])) _
      refine XS.lload X42.here hx rfl (hb hby at_81) rfl ?_
      show Steps p.tables e below (T42.setTop (mkF m 83 #[.val (.int p1), .val (.long q1), .second, .val (.long q2), .second, .val (.long q3), .second, .val (.long q4), .second, .val (.int (3 : Int32)), .val (.long u5), .second, .val (.long u8), .second, .val (.long u11), .second, .val (.long u14), .second, .val (.ref b40), .unset] [(.long u11), (.int (2 : Int32)), (.ref b40)])) _
      refine st43 _ ?_
      show Steps p.tables e below (T43.setTop (mkF m 84 #[.val (.int p1), .val (.long q1), .second, .val (.long q2), .second, .val (.long q3), .second, .val (.long q4), .second, .val (.int (3 : Int32)), .val (.long u5), .second, .val (.long u8), .second, .val (.long u11), .second, .val (.long u14), .second, .val (.ref b40), .unset] [])) _
      refine XS.iload X43.here hx rfl (hb hby at_84) rfl ?_
      show Steps p.tables e below (T43.setTop (mkF m 86 #[.val (.int p1), .val (.long q1), .second, .val (.long q2), .second, .val (.long q3), .second, .val (.long q4), .second, .val (.int (3 : Int32)), .val (.long u5), .second, .val (.long u8), .second, .val (.long u11), .second, .val (.long u14), .second, .val (.ref b40), .unset] [(.int (3 : Int32))])) _
      refine XS.iconst X43.here hx rfl (hb hby at_86) ?_
      show Steps p.tables e below (T43.setTop (mkF m 87 #[.val (.int p1), .val (.long q1), .second, .val (.long q2), .second, .val (.long q3), .second, .val (.long q4), .second, .val (.int (3 : Int32)), .val (.long u5), .second, .val (.long u8), .second, .val (.long u11), .second, .val (.long u14), .second, .val (.ref b40), .unset] [(.int (3 : Int32)), (.int (3 : Int32))])) _
      refine XS.icmpYes X43.here hx rfl (pc0 := 87) (pc' := 96) rfl (hb hby at_87) rfl (flt (by decide)).2.2.2 (by decide) (by decide) ?_
      show Steps p.tables e below (T43.setTop (mkF m 96 #[.val (.int p1), .val (.long q1), .second, .val (.long q2), .second, .val (.long q3), .second, .val (.long q4), .second, .val (.int (3 : Int32)), .val (.long u5), .second, .val (.long u8), .second, .val (.long u11), .second, .val (.long u14), .second, .val (.ref b40), .unset] [])) _
      refine XS.iload X43.here hx rfl (hb hby at_96) rfl ?_
      show Steps p.tables e below (T43.setTop (mkF m 98 #[.val (.int p1), .val (.long q1), .second, .val (.long q2), .second, .val (.long q3), .second, .val (.long q4), .second, .val (.int (3 : Int32)), .val (.long u5), .second, .val (.long u8), .second, .val (.long u11), .second, .val (.long u14), .second, .val (.ref b40), .unset] [(.int (3 : Int32))])) _
      refine XS.ifNo X43.here hx rfl (hb hby at_98) rfl ((if0 _ _).trans (tlt (by decide)).2.2.2) ?_
      show Steps p.tables e below (T43.setTop (mkF m 101 #[.val (.int p1), .val (.long q1), .second, .val (.long q2), .second, .val (.long q3), .second, .val (.long q4), .second, .val (.int (3 : Int32)), .val (.long u5), .second, .val (.long u8), .second, .val (.long u11), .second, .val (.long u14), .second, .val (.ref b40), .unset] [])) _
      refine XS.iconst X43.here hx rfl (hb hby at_101) ?_
      show Steps p.tables e below (T43.setTop (mkF m 102 #[.val (.int p1), .val (.long q1), .second, .val (.long q2), .second, .val (.long q3), .second, .val (.long q4), .second, .val (.int (3 : Int32)), .val (.long u5), .second, .val (.long u8), .second, .val (.long u11), .second, .val (.long u14), .second, .val (.ref b40), .unset] [(.int (1 : Int32))])) _
      refine XS.goto X43.here hx rfl (pc0 := 102) (pc' := 106) rfl (hb hby at_102) (by decide) (by decide) ?_
      show Steps p.tables e below (T43.setTop (mkF m 106 #[.val (.int p1), .val (.long q1), .second, .val (.long q2), .second, .val (.long q3), .second, .val (.long q4), .second, .val (.int (3 : Int32)), .val (.long u5), .second, .val (.long u8), .second, .val (.long u11), .second, .val (.long u14), .second, .val (.ref b40), .unset] [(.int (1 : Int32))])) _
      refine XS.lload X43.here hx rfl (hb hby at_106) rfl ?_
      show Steps p.tables e below (T43.setTop (mkF m 108 #[.val (.int p1), .val (.long q1), .second, .val (.long q2), .second, .val (.long q3), .second, .val (.long q4), .second, .val (.int (3 : Int32)), .val (.long u5), .second, .val (.long u8), .second, .val (.long u11), .second, .val (.long u14), .second, .val (.ref b40), .unset] [(.long u5), (.int (1 : Int32))])) _
      refine st44 _ ?_
      show Steps p.tables e below (T44.setTop (mkF m 111 #[.val (.int p1), .val (.long q1), .second, .val (.long q2), .second, .val (.long q3), .second, .val (.long q4), .second, .val (.int (3 : Int32)), .val (.long u5), .second, .val (.long u8), .second, .val (.long u11), .second, .val (.long u14), .second, .val (.ref b40), .unset] [(.int (own_hit (1 : Int32) u5))])) _
      refine XS.iload X44.here hx rfl (hb hby at_111) rfl ?_
      show Steps p.tables e below (T44.setTop (mkF m 113 #[.val (.int p1), .val (.long q1), .second, .val (.long q2), .second, .val (.long q3), .second, .val (.long q4), .second, .val (.int (3 : Int32)), .val (.long u5), .second, .val (.long u8), .second, .val (.long u11), .second, .val (.long u14), .second, .val (.ref b40), .unset] [(.int (3 : Int32)), (.int (own_hit (1 : Int32) u5))])) _
      refine XS.iconst X44.here hx rfl (hb hby at_113) ?_
      show Steps p.tables e below (T44.setTop (mkF m 114 #[.val (.int p1), .val (.long q1), .second, .val (.long q2), .second, .val (.long q3), .second, .val (.long q4), .second, .val (.int (3 : Int32)), .val (.long u5), .second, .val (.long u8), .second, .val (.long u11), .second, .val (.long u14), .second, .val (.ref b40), .unset] [(.int (1 : Int32)), (.int (3 : Int32)), (.int (own_hit (1 : Int32) u5))])) _
      refine XS.icmpNo X44.here hx rfl (hb hby at_114) rfl (tlt (by decide)).2.2.2 ?_
      show Steps p.tables e below (T44.setTop (mkF m 117 #[.val (.int p1), .val (.long q1), .second, .val (.long q2), .second, .val (.long q3), .second, .val (.long q4), .second, .val (.int (3 : Int32)), .val (.long u5), .second, .val (.long u8), .second, .val (.long u11), .second, .val (.long u14), .second, .val (.ref b40), .unset] [(.int (own_hit (1 : Int32) u5))])) _
      refine XS.iconst X44.here hx rfl (hb hby at_117) ?_
      show Steps p.tables e below (T44.setTop (mkF m 118 #[.val (.int p1), .val (.long q1), .second, .val (.long q2), .second, .val (.long q3), .second, .val (.long q4), .second, .val (.int (3 : Int32)), .val (.long u5), .second, .val (.long u8), .second, .val (.long u11), .second, .val (.long u14), .second, .val (.ref b40), .unset] [(.int (1 : Int32)), (.int (own_hit (1 : Int32) u5))])) _
      refine XS.goto X44.here hx rfl (pc0 := 118) (pc' := 122) rfl (hb hby at_118) (by decide) (by decide) ?_
      show Steps p.tables e below (T44.setTop (mkF m 122 #[.val (.int p1), .val (.long q1), .second, .val (.long q2), .second, .val (.long q3), .second, .val (.long q4), .second, .val (.int (3 : Int32)), .val (.long u5), .second, .val (.long u8), .second, .val (.long u11), .second, .val (.long u14), .second, .val (.ref b40), .unset] [(.int (1 : Int32)), (.int (own_hit (1 : Int32) u5))])) _
      refine XS.lload X44.here hx rfl (hb hby at_122) rfl ?_
      show Steps p.tables e below (T44.setTop (mkF m 124 #[.val (.int p1), .val (.long q1), .second, .val (.long q2), .second, .val (.long q3), .second, .val (.long q4), .second, .val (.int (3 : Int32)), .val (.long u5), .second, .val (.long u8), .second, .val (.long u11), .second, .val (.long u14), .second, .val (.ref b40), .unset] [(.long u8), (.int (1 : Int32)), (.int (own_hit (1 : Int32) u5))])) _
      refine st45 _ ?_
      show Steps p.tables e below (T45.setTop (mkF m 127 #[.val (.int p1), .val (.long q1), .second, .val (.long q2), .second, .val (.long q3), .second, .val (.long q4), .second, .val (.int (3 : Int32)), .val (.long u5), .second, .val (.long u8), .second, .val (.long u11), .second, .val (.long u14), .second, .val (.ref b40), .unset] [(.int (own_hit (1 : Int32) u8)), (.int (own_hit (1 : Int32) u5))])) _
      refine XS.iadd X45.here hx rfl (hb hby at_127) rfl ?_
      show Steps p.tables e below (T45.setTop (mkF m 128 #[.val (.int p1), .val (.long q1), .second, .val (.long q2), .second, .val (.long q3), .second, .val (.long q4), .second, .val (.int (3 : Int32)), .val (.long u5), .second, .val (.long u8), .second, .val (.long u11), .second, .val (.long u14), .second, .val (.ref b40), .unset] [(.int ((own_hit (1 : Int32) u5) + (own_hit (1 : Int32) u8)))])) _
      refine XS.iload X45.here hx rfl (hb hby at_128) rfl ?_
      show Steps p.tables e below (T45.setTop (mkF m 130 #[.val (.int p1), .val (.long q1), .second, .val (.long q2), .second, .val (.long q3), .second, .val (.long q4), .second, .val (.int (3 : Int32)), .val (.long u5), .second, .val (.long u8), .second, .val (.long u11), .second, .val (.long u14), .second, .val (.ref b40), .unset] [(.int (3 : Int32)), (.int ((own_hit (1 : Int32) u5) + (own_hit (1 : Int32) u8)))])) _
      refine XS.iconst X45.here hx rfl (hb hby at_130) ?_
      show Steps p.tables e below (T45.setTop (mkF m 131 #[.val (.int p1), .val (.long q1), .second, .val (.long q2), .second, .val (.long q3), .second, .val (.long q4), .second, .val (.int (3 : Int32)), .val (.long u5), .second, .val (.long u8), .second, .val (.long u11), .second, .val (.long u14), .second, .val (.ref b40), .unset] [(.int (2 : Int32)), (.int (3 : Int32)), (.int ((own_hit (1 : Int32) u5) + (own_hit (1 : Int32) u8)))])) _
      refine XS.icmpNo X45.here hx rfl (hb hby at_131) rfl (tlt (by decide)).2.2.2 ?_
      show Steps p.tables e below (T45.setTop (mkF m 134 #[.val (.int p1), .val (.long q1), .second, .val (.long q2), .second, .val (.long q3), .second, .val (.long q4), .second, .val (.int (3 : Int32)), .val (.long u5), .second, .val (.long u8), .second, .val (.long u11), .second, .val (.long u14), .second, .val (.ref b40), .unset] [(.int ((own_hit (1 : Int32) u5) + (own_hit (1 : Int32) u8)))])) _
      refine XS.iconst X45.here hx rfl (hb hby at_134) ?_
      show Steps p.tables e below (T45.setTop (mkF m 135 #[.val (.int p1), .val (.long q1), .second, .val (.long q2), .second, .val (.long q3), .second, .val (.long q4), .second, .val (.int (3 : Int32)), .val (.long u5), .second, .val (.long u8), .second, .val (.long u11), .second, .val (.long u14), .second, .val (.ref b40), .unset] [(.int (1 : Int32)), (.int ((own_hit (1 : Int32) u5) + (own_hit (1 : Int32) u8)))])) _
      refine XS.goto X45.here hx rfl (pc0 := 135) (pc' := 139) rfl (hb hby at_135) (by decide) (by decide) ?_
      show Steps p.tables e below (T45.setTop (mkF m 139 #[.val (.int p1), .val (.long q1), .second, .val (.long q2), .second, .val (.long q3), .second, .val (.long q4), .second, .val (.int (3 : Int32)), .val (.long u5), .second, .val (.long u8), .second, .val (.long u11), .second, .val (.long u14), .second, .val (.ref b40), .unset] [(.int (1 : Int32)), (.int ((own_hit (1 : Int32) u5) + (own_hit (1 : Int32) u8)))])) _
      refine XS.lload X45.here hx rfl (hb hby at_139) rfl ?_
      show Steps p.tables e below (T45.setTop (mkF m 141 #[.val (.int p1), .val (.long q1), .second, .val (.long q2), .second, .val (.long q3), .second, .val (.long q4), .second, .val (.int (3 : Int32)), .val (.long u5), .second, .val (.long u8), .second, .val (.long u11), .second, .val (.long u14), .second, .val (.ref b40), .unset] [(.long u11), (.int (1 : Int32)), (.int ((own_hit (1 : Int32) u5) + (own_hit (1 : Int32) u8)))])) _
      refine st46 _ ?_
      show Steps p.tables e below (T46.setTop (mkF m 144 #[.val (.int p1), .val (.long q1), .second, .val (.long q2), .second, .val (.long q3), .second, .val (.long q4), .second, .val (.int (3 : Int32)), .val (.long u5), .second, .val (.long u8), .second, .val (.long u11), .second, .val (.long u14), .second, .val (.ref b40), .unset] [(.int (own_hit (1 : Int32) u11)), (.int ((own_hit (1 : Int32) u5) + (own_hit (1 : Int32) u8)))])) _
      refine XS.iadd X46.here hx rfl (hb hby at_144) rfl ?_
      show Steps p.tables e below (T46.setTop (mkF m 145 #[.val (.int p1), .val (.long q1), .second, .val (.long q2), .second, .val (.long q3), .second, .val (.long q4), .second, .val (.int (3 : Int32)), .val (.long u5), .second, .val (.long u8), .second, .val (.long u11), .second, .val (.long u14), .second, .val (.ref b40), .unset] [(.int (((own_hit (1 : Int32) u5) + (own_hit (1 : Int32) u8)) + (own_hit (1 : Int32) u11)))])) _
      refine XS.iload X46.here hx rfl (hb hby at_145) rfl ?_
      show Steps p.tables e below (T46.setTop (mkF m 147 #[.val (.int p1), .val (.long q1), .second, .val (.long q2), .second, .val (.long q3), .second, .val (.long q4), .second, .val (.int (3 : Int32)), .val (.long u5), .second, .val (.long u8), .second, .val (.long u11), .second, .val (.long u14), .second, .val (.ref b40), .unset] [(.int (3 : Int32)), (.int (((own_hit (1 : Int32) u5) + (own_hit (1 : Int32) u8)) + (own_hit (1 : Int32) u11)))])) _
      refine XS.iconst X46.here hx rfl (hb hby at_147) ?_
      show Steps p.tables e below (T46.setTop (mkF m 148 #[.val (.int p1), .val (.long q1), .second, .val (.long q2), .second, .val (.long q3), .second, .val (.long q4), .second, .val (.int (3 : Int32)), .val (.long u5), .second, .val (.long u8), .second, .val (.long u11), .second, .val (.long u14), .second, .val (.ref b40), .unset] [(.int (3 : Int32)), (.int (3 : Int32)), (.int (((own_hit (1 : Int32) u5) + (own_hit (1 : Int32) u8)) + (own_hit (1 : Int32) u11)))])) _
      refine XS.icmpYes X46.here hx rfl (pc0 := 148) (pc' := 155) rfl (hb hby at_148) rfl (flt (by decide)).2.2.2 (by decide) (by decide) ?_
      show Steps p.tables e below (T46.setTop (mkF m 155 #[.val (.int p1), .val (.long q1), .second, .val (.long q2), .second, .val (.long q3), .second, .val (.long q4), .second, .val (.int (3 : Int32)), .val (.long u5), .second, .val (.long u8), .second, .val (.long u11), .second, .val (.long u14), .second, .val (.ref b40), .unset] [(.int (((own_hit (1 : Int32) u5) + (own_hit (1 : Int32) u8)) + (own_hit (1 : Int32) u11)))])) _
      refine XS.iconst X46.here hx rfl (hb hby at_155) ?_
      show Steps p.tables e below (T46.setTop (mkF m 156 #[.val (.int p1), .val (.long q1), .second, .val (.long q2), .second, .val (.long q3), .second, .val (.long q4), .second, .val (.int (3 : Int32)), .val (.long u5), .second, .val (.long u8), .second, .val (.long u11), .second, .val (.long u14), .second, .val (.ref b40), .unset] [(.int (0 : Int32)), (.int (((own_hit (1 : Int32) u5) + (own_hit (1 : Int32) u8)) + (own_hit (1 : Int32) u11)))])) _
      refine XS.lload X46.here hx rfl (hb hby at_156) rfl ?_
      show Steps p.tables e below (T46.setTop (mkF m 158 #[.val (.int p1), .val (.long q1), .second, .val (.long q2), .second, .val (.long q3), .second, .val (.long q4), .second, .val (.int (3 : Int32)), .val (.long u5), .second, .val (.long u8), .second, .val (.long u11), .second, .val (.long u14), .second, .val (.ref b40), .unset] [(.long u14), (.int (0 : Int32)), (.int (((own_hit (1 : Int32) u5) + (own_hit (1 : Int32) u8)) + (own_hit (1 : Int32) u11)))])) _
      refine st47 _ ?_
      show Steps p.tables e below (T47.setTop (mkF m 161 #[.val (.int p1), .val (.long q1), .second, .val (.long q2), .second, .val (.long q3), .second, .val (.long q4), .second, .val (.int (3 : Int32)), .val (.long u5), .second, .val (.long u8), .second, .val (.long u11), .second, .val (.long u14), .second, .val (.ref b40), .unset] [(.int (own_hit (0 : Int32) u14)), (.int (((own_hit (1 : Int32) u5) + (own_hit (1 : Int32) u8)) + (own_hit (1 : Int32) u11)))])) _
      refine XS.iadd X47.here hx rfl (hb hby at_161) rfl ?_
      show Steps p.tables e below (T47.setTop (mkF m 162 #[.val (.int p1), .val (.long q1), .second, .val (.long q2), .second, .val (.long q3), .second, .val (.long q4), .second, .val (.int (3 : Int32)), .val (.long u5), .second, .val (.long u8), .second, .val (.long u11), .second, .val (.long u14), .second, .val (.ref b40), .unset] [(.int ((((own_hit (1 : Int32) u5) + (own_hit (1 : Int32) u8)) + (own_hit (1 : Int32) u11)) + (own_hit (0 : Int32) u14)))])) _
      refine XS.istore X47.here hx rfl (hb hby at_162) rfl (l' := #[.val (.int p1), .val (.long q1), .second, .val (.long q2), .second, .val (.long q3), .second, .val (.long q4), .second, .val (.int (3 : Int32)), .val (.long u5), .second, .val (.long u8), .second, .val (.long u11), .second, .val (.long u14), .second, .val (.ref b40), .val (.int ((((own_hit (1 : Int32) u5) + (own_hit (1 : Int32) u8)) + (own_hit (1 : Int32) u11)) + (own_hit (0 : Int32) u14)))]) rfl ?_
      show Steps p.tables e below (T47.setTop (mkF m 164 #[.val (.int p1), .val (.long q1), .second, .val (.long q2), .second, .val (.long q3), .second, .val (.long q4), .second, .val (.int (3 : Int32)), .val (.long u5), .second, .val (.long u8), .second, .val (.long u11), .second, .val (.long u14), .second, .val (.ref b40), .val (.int ((((own_hit (1 : Int32) u5) + (own_hit (1 : Int32) u8)) + (own_hit (1 : Int32) u11)) + (own_hit (0 : Int32) u14)))] [])) _
      refine XS.aload X47.here hx rfl (hb hby at_164) rfl rfl ?_
      show Steps p.tables e below (T47.setTop (mkF m 166 #[.val (.int p1), .val (.long q1), .second, .val (.long q2), .second, .val (.long q3), .second, .val (.long q4), .second, .val (.int (3 : Int32)), .val (.long u5), .second, .val (.long u8), .second, .val (.long u11), .second, .val (.long u14), .second, .val (.ref b40), .val (.int ((((own_hit (1 : Int32) u5) + (own_hit (1 : Int32) u8)) + (own_hit (1 : Int32) u11)) + (own_hit (0 : Int32) u14)))] [(.ref b40)])) _
      refine st48 _ ?_
      show Steps p.tables e below (T48.setTop (mkF m 169 #[.val (.int p1), .val (.long q1), .second, .val (.long q2), .second, .val (.long q3), .second, .val (.long q4), .second, .val (.int (3 : Int32)), .val (.long u5), .second, .val (.long u8), .second, .val (.long u11), .second, .val (.long u14), .second, .val (.ref b40), .val (.int ((((own_hit (1 : Int32) u5) + (own_hit (1 : Int32) u8)) + (own_hit (1 : Int32) u11)) + (own_hit (0 : Int32) u14)))] [(.int (own_st u11 (own_st u8 (own_st u5 (0 : Int32)))))])) _
      refine XS.iload X48.here hx rfl (hb hby at_169) rfl ?_
      show Steps p.tables e below (T48.setTop (mkF m 171 #[.val (.int p1), .val (.long q1), .second, .val (.long q2), .second, .val (.long q3), .second, .val (.long q4), .second, .val (.int (3 : Int32)), .val (.long u5), .second, .val (.long u8), .second, .val (.long u11), .second, .val (.long u14), .second, .val (.ref b40), .val (.int ((((own_hit (1 : Int32) u5) + (own_hit (1 : Int32) u8)) + (own_hit (1 : Int32) u11)) + (own_hit (0 : Int32) u14)))] [(.int ((((own_hit (1 : Int32) u5) + (own_hit (1 : Int32) u8)) + (own_hit (1 : Int32) u11)) + (own_hit (0 : Int32) u14))), (.int (own_st u11 (own_st u8 (own_st u5 (0 : Int32)))))])) _
      refine XS.icmpNo X48.here hx rfl (hb hby at_171) rfl (teq (own_c3 u5 u8 u11 u14)).2 ?_
      show Steps p.tables e below (T48.setTop (mkF m 174 #[.val (.int p1), .val (.long q1), .second, .val (.long q2), .second, .val (.long q3), .second, .val (.long q4), .second, .val (.int (3 : Int32)), .val (.long u5), .second, .val (.long u8), .second, .val (.long u11), .second, .val (.long u14), .second, .val (.ref b40), .val (.int ((((own_hit (1 : Int32) u5) + (own_hit (1 : Int32) u8)) + (own_hit (1 : Int32) u11)) + (own_hit (0 : Int32) u14)))] [])) _
      refine XS.iconst X48.here hx rfl (hb hby at_174) ?_
      show Steps p.tables e below (T48.setTop (mkF m 175 #[.val (.int p1), .val (.long q1), .second, .val (.long q2), .second, .val (.long q3), .second, .val (.long q4), .second, .val (.int (3 : Int32)), .val (.long u5), .second, .val (.long u8), .second, .val (.long u11), .second, .val (.long u14), .second, .val (.ref b40), .val (.int ((((own_hit (1 : Int32) u5) + (own_hit (1 : Int32) u8)) + (own_hit (1 : Int32) u11)) + (own_hit (0 : Int32) u14)))] [(.int (1 : Int32))])) _
      refine XS.goto X48.here hx rfl (pc0 := 175) (pc' := 179) rfl (hb hby at_175) (by decide) (by decide) ?_
      exact k)
    obtain ⟨fs, hr, hrun, hended, hW, hsame⟩ := X48.leave (v := some (.int (1 : Int32))) (fun h => by rw [Bd.returns] at h; cases h)
    refine ⟨_, _, way49 _ ?_, hrun, hended, _, _, rfl, ?_, ⟨_, rfl⟩, hW, hsame.mono (by decide) (by decide)⟩
    · show Steps p.tables e below (T48.setTop (mkF m 179 #[.val (.int p1), .val (.long q1), .second, .val (.long q2), .second, .val (.long q3), .second, .val (.long q4), .second, .val (.int (3 : Int32)), .val (.long u5), .second, .val (.long u8), .second, .val (.long u11), .second, .val (.long u14), .second, .val (.ref b40), .val (.int ((((own_hit (1 : Int32) u5) + (own_hit (1 : Int32) u8)) + (own_hit (1 : Int32) u11)) + (own_hit (0 : Int32) u14)))] [(.int (1 : Int32))])) _
      exact retN X48 hx (t := .boolean) Bd.returns (by simp) (hb hby at_179) hr
    · show Q_law Z p1 q1 q2 q3 q4 h0 n0 _ T48.heap _
      rw [hh48]
      exact ⟨rfl, N48⟩
  ·
    obtain ⟨T50, h50, k50, X50, e50, E50, A50, st50⟩ := newP X12 hx hZ (hw _ (List.mem_of_getElem? (i := 4) rfl)) hh12 (g := (mkF m 45 #[.val (.int p1), .val (.long q1), .second, .val (.long q2), .second, .val (.long q3), .second, .val (.long q4), .second, .val (.int (4 : Int32)), .val (.long u5), .second, .val (.long u8), .second, .val (.long u11), .second, .val (.long u14), .second, .unset, .unset] [(.int (4 : Int32))])) rfl (hb hby at_45) rfl (by decide) (cap := 4) (by decide) (by decide) (by decide) (by decide)
    obtain ⟨b50, g50⟩ : ∃ z, z = h0.size := ⟨_, rfl⟩
    rw [← g50] at A50 st50
    have sz_b50 : h0.size ≤ b50 := Nat.le_trans (Keep.refl h0 []).1 (Nat.le_of_eq g50.symm)
    have g_b50 : n0 ≤ b50 := Nat.le_trans Z0 sz_b50
    have K50 : Keep h0 h50 [] := (Keep.refl h0 []).ext E50
    have V50 : Arv Z h50 b50 k50 .long (4 : Int32) [(.long (0 : Int64)), (.long (0 : Int64)), (.long (0 : Int64)), (.long (0 : Int64))] (.long (0 : Int64)) := (Arv.new A50 (by decide)).pad (pad_rep [] (.long (0 : Int64)) 4)
    obtain ⟨cl51, Ar51, aq51, S51, M51, H51, G51⟩ := id V50
    have hin51 : ¬ ((0 : Int32) < 0 ∨ cl51.slots.size ≤ ((0 : Int32)).toNatClampNeg) := by rw [S51]; decide
    obtain ⟨T51, h51, X51, e51, W51, st51⟩ := stJ X50 hx hZ e50 Ar51 (j := (0 : Int32)) hin51 (g := (mkF m 59 #[.val (.int p1), .val (.long q1), .second, .val (.long q2), .second, .val (.long q3), .second, .val (.long q4), .second, .val (.int (4 : Int32)), .val (.long u5), .second, .val (.long u8), .second, .val (.long u11), .second, .val (.long u14), .second, .val (.ref b50), .unset] [(.long u5), (.int (0 : Int32)), (.ref b50)])) rfl rfl (hb hby at_59)
    have K51 : Keep h0 h51 [] := K50.wr W51 (Or.inr sz_b50)
    have N51 := Fr.snoc X51 N12 g_b50
    have V51 : Arv Z h51 b50 k50 .long (4 : Int32) [(.long u5), (.long (0 : Int64)), (.long (0 : Int64)), (.long (0 : Int64))] (.long (0 : Int64)) := Arv.set Ar51 aq51 S51 M51 H51 G51 rfl W51 0 rfl (Nat.le_of_ble_eq_true rfl)
    obtain ⟨cl52, Ar52, aq52, S52, M52, H52, G52⟩ := id V51
    have hin52 : ¬ ((1 : Int32) < 0 ∨ cl52.slots.size ≤ ((1 : Int32)).toNatClampNeg) := by rw [S52]; decide
    obtain ⟨T52, h52, X52, e52, W52, st52⟩ := stJ X51 hx hZ e51 Ar52 (j := (1 : Int32)) hin52 (g := (mkF m 71 #[.val (.int p1), .val (.long q1), .second, .val (.long q2), .second, .val (.long q3), .second, .val (.long q4), .second, .val (.int (4 : Int32)), .val (.long u5), .second, .val (.long u8), .second, .val (.long u11), .second, .val (.long u14), .second, .val (.ref b50), .unset] [(.long u8), (.int (1 : Int32)), (.ref b50)])) rfl rfl (hb hby at_71)
    have K52 : Keep h0 h52 [] := K51.wr W52 (Or.inr sz_b50)
    have N52 := Fr.snoc X52 N51 g_b50
    have V52 : Arv Z h52 b50 k50 .long (4 : Int32) [(.long u5), (.long u8), (.long (0 : Int64)), (.long (0 : Int64))] (.long (0 : Int64)) := Arv.set Ar52 aq52 S52 M52 H52 G52 rfl W52 1 rfl (Nat.le_of_ble_eq_true rfl)
    obtain ⟨cl53, Ar53, aq53, S53, M53, H53, G53⟩ := id V52
    have hin53 : ¬ ((2 : Int32) < 0 ∨ cl53.slots.size ≤ ((2 : Int32)).toNatClampNeg) := by rw [S53]; decide
    obtain ⟨T53, h53, X53, e53, W53, st53⟩ := stJ X52 hx hZ e52 Ar53 (j := (2 : Int32)) hin53 (g := (mkF m 83 #[.val (.int p1), .val (.long q1), .second, .val (.long q2), .second, .val (.long q3), .second, .val (.long q4), .second, .val (.int (4 : Int32)), .val (.long u5), .second, .val (.long u8), .second, .val (.long u11), .second, .val (.long u14), .second, .val (.ref b50), .unset] [(.long u11), (.int (2 : Int32)), (.ref b50)])) rfl rfl (hb hby at_83)
    have K53 : Keep h0 h53 [] := K52.wr W53 (Or.inr sz_b50)
    have N53 := Fr.snoc X53 N52 g_b50
    have V53 : Arv Z h53 b50 k50 .long (4 : Int32) [(.long u5), (.long u8), (.long u11), (.long (0 : Int64))] (.long (0 : Int64)) := Arv.set Ar53 aq53 S53 M53 H53 G53 rfl W53 2 rfl (Nat.le_of_ble_eq_true rfl)
    obtain ⟨cl54, Ar54, aq54, S54, M54, H54, G54⟩ := id V53
    have hin54 : ¬ ((3 : Int32) < 0 ∨ cl54.slots.size ≤ ((3 : Int32)).toNatClampNeg) := by rw [S54]; decide
    obtain ⟨T54, h54, X54, e54, W54, st54⟩ := stJ X53 hx hZ e53 Ar54 (j := (3 : Int32)) hin54 (g := (mkF m 95 #[.val (.int p1), .val (.long q1), .second, .val (.long q2), .second, .val (.long q3), .second, .val (.long q4), .second, .val (.int (4 : Int32)), .val (.long u5), .second, .val (.long u8), .second, .val (.long u11), .second, .val (.long u14), .second, .val (.ref b50), .unset] [(.long u14), (.int (3 : Int32)), (.ref b50)])) rfl rfl (hb hby at_95)
    have K54 : Keep h0 h54 [] := K53.wr W54 (Or.inr sz_b50)
    have N54 := Fr.snoc X54 N53 g_b50
    have V54 : Arv Z h54 b50 k50 .long (4 : Int32) [(.long u5), (.long u8), (.long u11), (.long u14)] (.long (0 : Int64)) := Arv.set Ar54 aq54 S54 M54 H54 G54 rfl W54 3 rfl (Nat.le_of_ble_eq_true rfl)
    obtain ⟨_, _, ⟨T55, L55, k55, n55⟩, -, X55, ⟨Lc55, hQ55, l55, y55, z55⟩, st55⟩ := Jvm.LawKit.callS X54 hx (y := (⟨"com/example/netloom/netloom/core/reachability/OmegaSetsOmegaCountPinLaw", "hit", "(ZJ)I"⟩ : MethodName)) hown (mvT hZ (hw _ (List.mem_of_getElem? (i := 5) rfl))) (mvT hZ (hw _ (List.mem_of_getElem? (i := 6) rfl))) (mvT hZ (hw _ (List.mem_of_getElem? (i := 2) rfl))) (mvT hZ (hw _ (List.mem_of_getElem? (i := 7) rfl))) (by decide) (backOf (W := 0) (rm_hit l Z a0 hw [] (1 : Int32) u5  h54 n0 (Nat.le_trans Z0 K54.1) ) hZ (hw _ (List.mem_of_getElem? (i := 7) rfl)) (hw _ (List.mem_of_getElem? (i := 2) rfl)) (by decide) (by decide)) (g := (mkF m 108 #[.val (.int p1), .val (.long q1), .second, .val (.long q2), .second, .val (.long q3), .second, .val (.long q4), .second, .val (.int (4 : Int32)), .val (.long u5), .second, .val (.long u8), .second, .val (.long u11), .second, .val (.long u14), .second, .val (.ref b50), .unset] [(.long u5), (.int (1 : Int32))])) rfl (by rw [hml]; rfl) (argsL := [(.int (1 : Int32)), (.long u5)]) (rest := []) (lenOf own_pd3 rfl) rfl (by show 2 * 0 + _ ≤ _; exact Nat.le_of_eq rfl) (hb hby at_108) (fun _ _ => ⟨rfl, e54, (by decide : 1 + 0 ≤ _), (by decide : 4 + 0 ≤ _)⟩)
    dsimp only [Pt.U, Pt.locs, Pt.cells, Pt.slots] at X55 l55 y55 z55 st55 hQ55
    subst l55 y55 z55
    obtain ⟨rfl, N55q, hh55⟩ := hQ55
    have N55 := Fr.app N54 N55q
    obtain ⟨_, _, ⟨T56, L56, k56, n56⟩, -, X56, ⟨Lc56, hQ56, l56, y56, z56⟩, st56⟩ := Jvm.LawKit.callS X55 hx (y := (⟨"com/example/netloom/netloom/core/reachability/OmegaSetsOmegaCountPinLaw", "hit", "(ZJ)I"⟩ : MethodName)) hown (mvT hZ (hw _ (List.mem_of_getElem? (i := 5) rfl))) (mvT hZ (hw _ (List.mem_of_getElem? (i := 6) rfl))) (mvT hZ (hw _ (List.mem_of_getElem? (i := 2) rfl))) (mvT hZ (hw _ (List.mem_of_getElem? (i := 7) rfl))) (by decide) (backOf (W := 1) (rm_hit l Z a0 hw [] (1 : Int32) u8  h54 n0 (Nat.le_trans Z0 K54.1) ) hZ (hw _ (List.mem_of_getElem? (i := 7) rfl)) (hw _ (List.mem_of_getElem? (i := 2) rfl)) (by decide) (by decide)) (g := (mkF m 124 #[.val (.int p1), .val (.long q1), .second, .val (.long q2), .second, .val (.long q3), .second, .val (.long q4), .second, .val (.int (4 : Int32)), .val (.long u5), .second, .val (.long u8), .second, .val (.long u11), .second, .val (.long u14), .second, .val (.ref b50), .unset] [(.long u8), (.int (1 : Int32)), (.int (own_hit (1 : Int32) u5))])) rfl (by rw [hml]; rfl) (argsL := [(.int (1 : Int32)), (.long u8)]) (rest := [(.int (own_hit (1 : Int32) u5))]) (lenOf own_pd3 rfl) rfl (by show 2 * 0 + _ ≤ _; exact Nat.le_of_eq rfl) (hb hby at_124) (fun _ _ => ⟨rfl, hh55, (by decide : 1 + 0 ≤ _), (by decide : 4 + 0 ≤ _)⟩)
    dsimp only [Pt.U, Pt.locs, Pt.cells, Pt.slots] at X56 l56 y56 z56 st56 hQ56
    subst l56 y56 z56
    obtain ⟨rfl, N56q, hh56⟩ := hQ56
    have N56 := Fr.app N55 N56q
    obtain ⟨_, _, ⟨T57, L57, k57, n57⟩, -, X57, ⟨Lc57, hQ57, l57, y57, z57⟩, st57⟩ := Jvm.LawKit.callS X56 hx (y := (⟨"com/example/netloom/netloom/core/reachability/OmegaSetsOmegaCountPinLaw", "hit", "(ZJ)I"⟩ : MethodName)) hown (mvT hZ (hw _ (List.mem_of_getElem? (i := 5) rfl))) (mvT hZ (hw _ (List.mem_of_getElem? (i := 6) rfl))) (mvT hZ (hw _ (List.mem_of_getElem? (i := 2) rfl))) (mvT hZ (hw _ (List.mem_of_getElem? (i := 7) rfl))) (by decide) (backOf (W := 1) (rm_hit l Z a0 hw [] (1 : Int32) u11  h54 n0 (Nat.le_trans Z0 K54.1) ) hZ (hw _ (List.mem_of_getElem? (i := 7) rfl)) (hw _ (List.mem_of_getElem? (i := 2) rfl)) (by decide) (by decide)) (g := (mkF m 141 #[.val (.int p1), .val (.long q1), .second, .val (.long q2), .second, .val (.long q3), .second, .val (.long q4), .second, .val (.int (4 : Int32)), .val (.long u5), .second, .val (.long u8), .second, .val (.long u11), .second, .val (.long u14), .second, .val (.ref b50), .unset] [(.long u11), (.int (1 : Int32)), (.int ((own_hit (1 : Int32) u5) + (own_hit (1 : Int32) u8)))])) rfl (by rw [hml]; rfl) (argsL := [(.int (1 : Int32)), (.long u11)]) (rest := [(.int ((own_hit (1 : Int32) u5) + (own_hit (1 : Int32) u8)))]) (lenOf own_pd3 rfl) rfl (by show 2 * 0 + _ ≤ _; exact Nat.le_of_eq rfl) (hb hby at_141) (fun _ _ => ⟨rfl, hh56, (by decide : 1 + 0 ≤ _), (by decide : 4 + 0 ≤ _)⟩)
    dsimp only [Pt.U, Pt.locs, Pt.cells, Pt.slots] at X57 l57 y57 z57 st57 hQ57
    subst l57 y57 z57
    obtain ⟨rfl, N57q, hh57⟩ := hQ57
    have N57 := Fr.app N56 N57q
    obtain ⟨_, _, ⟨T58, L58, k58, n58⟩, -, X58, ⟨Lc58, hQ58, l58, y58, z58⟩, st58⟩ := Jvm.LawKit.callS X57 hx (y := (⟨"com/example/netloom/netloom/core/reachability/OmegaSetsOmegaCountPinLaw", "hit", "(ZJ)I"⟩ : MethodName)) hown (mvT hZ (hw _ (List.mem_of_getElem? (i := 5) rfl))) (mvT hZ (hw _ (List.mem_of_getElem? (i := 6) rfl))) (mvT hZ (hw _ (List.mem_of_getElem? (i := 2) rfl))) (mvT hZ (hw _ (List.mem_of_getElem? (i := 7) rfl))) (by decide) (backOf (W := 1) (rm_hit l Z a0 hw [] (1 : Int32) u14  h54 n0 (Nat.le_trans Z0 K54.1) ) hZ (hw _ (List.mem_of_getElem? (i := 7) rfl)) (hw _ (List.mem_of_getElem? (i := 2) rfl)) (by decide) (by decide)) (g := (mkF m 158 #[.val (.int p1), .val (.long q1), .second, .val (.long q2), .second, .val (.long q3), .second, .val (.long q4), .second, .val (.int (4 : Int32)), .val (.long u5), .second, .val (.long u8), .second, .val (.long u11), .second, .val (.long u14), .second, .val (.ref b50), .unset] [(.long u14), (.int (1 : Int32)), (.int (((own_hit (1 : Int32) u5) + (own_hit (1 : Int32) u8)) + (own_hit (1 : Int32) u11)))])) rfl (by rw [hml]; rfl) (argsL := [(.int (1 : Int32)), (.long u14)]) (rest := [(.int (((own_hit (1 : Int32) u5) + (own_hit (1 : Int32) u8)) + (own_hit (1 : Int32) u11)))]) (lenOf own_pd3 rfl) rfl (by show 2 * 0 + _ ≤ _; exact Nat.le_of_eq rfl) (hb hby at_158) (fun _ _ => ⟨rfl, hh57, (by decide : 1 + 0 ≤ _), (by decide : 4 + 0 ≤ _)⟩)
    dsimp only [Pt.U, Pt.locs, Pt.cells, Pt.slots] at X58 l58 y58 z58 st58 hQ58
    subst l58 y58 z58
    obtain ⟨rfl, N58q, hh58⟩ := hQ58
    have N58 := Fr.app N57 N58q
    obtain ⟨_, _, ⟨T59, L59, k59, n59⟩, -, X59, ⟨Lc59, hQ59, l59, y59, z59⟩, st59⟩ := Jvm.LawKit.callS X58 hx (y := (⟨"com/example/netloom/netloom/core/reachability/OmegaSets", "omegaCount", "([J)I"⟩ : MethodName)) hown (mvT hZ (hw _ (List.mem_of_getElem? (i := 8) rfl))) (mvT hZ (hw _ (List.mem_of_getElem? (i := 9) rfl))) (mvT hZ (hw _ (List.mem_of_getElem? (i := 10) rfl))) (mvT hZ (hw _ (List.mem_of_getElem? (i := 11) rfl))) (by decide) (backOf (W := 0) (rm_oc4 l Z a0 hw [] b50 k50 u5 u8 u11 u14 h54 n0 (Nat.le_trans Z0 K54.1) V54) hZ (hw _ (List.mem_of_getElem? (i := 11) rfl)) (hw _ (List.mem_of_getElem? (i := 10) rfl)) (by decide) (by decide)) (g := (mkF m 166 #[.val (.int p1), .val (.long q1), .second, .val (.long q2), .second, .val (.long q3), .second, .val (.long q4), .second, .val (.int (4 : Int32)), .val (.long u5), .second, .val (.long u8), .second, .val (.long u11), .second, .val (.long u14), .second, .val (.ref b50), .val (.int ((((own_hit (1 : Int32) u5) + (own_hit (1 : Int32) u8)) + (own_hit (1 : Int32) u11)) + (own_hit (1 : Int32) u14)))] [(.ref b50)])) rfl (by rw [hml]; rfl) (argsL := [(.ref b50)]) (rest := []) (lenOf own_pd4 rfl) rfl (by show 2 * 0 + _ ≤ _; exact Nat.le_of_eq rfl) (hb hby at_166) (fun _ _ => ⟨rfl, hh58, (by decide : 1 + 0 ≤ _), (by decide : 4 + 0 ≤ _)⟩)
    dsimp only [Pt.U, Pt.locs, Pt.cells, Pt.slots] at X59 l59 y59 z59 st59 hQ59
    subst l59 y59 z59
    obtain ⟨rfl, N59q, hh59⟩ := hQ59
    have N59 := Fr.app N58 N59q
    have way60 : ∀ t, Steps p.tables e below (T59.setTop (mkF m 179 #[.val (.int p1), .val (.long q1), .second, .val (.long q2), .second, .val (.long q3), .second, .val (.long q4), .second, .val (.int (4 : Int32)), .val (.long u5), .second, .val (.long u8), .second, .val (.long u11), .second, .val (.long u14), .second, .val (.ref b50), .val (.int ((((own_hit (1 : Int32) u5) + (own_hit (1 : Int32) u8)) + (own_hit (1 : Int32) u11)) + (own_hit (1 : Int32) u14)))] [(.int (1 : Int32))])) t → Steps p.tables e below (s₁.setTop (entryFrame m #[(.int p1), (.long q1), (.long q2), (.long q3), (.long q4)] maxLocals)) t := fun t k => way15 t (by
      show Steps p.tables e below (T12.setTop (mkF m 43 #[.val (.int p1), .val (.long q1), .second, .val (.long q2), .second, .val (.long q3), .second, .val (.long q4), .second, .val (.int (4 : Int32)), .val (.long u5), .second, .val (.long u8), .second, .val (.long u11), .second, .val (.long u14), .second, .unset, .unset] [])) _
      refine XS.iload X12.here hx rfl (hb hby at_43) rfl ?_
      show Steps p.tables e below (T12.setTop (mkF m 45 #[.val (.int p1), .val (.long q1), .second, .val (.long q2), .second, .val (.long q3), .second, .val (.long q4), .second, .val (.int (4 : Int32)), .val (.long u5), .second, .val (.long u8), .second, .val (.long u11), .second, .val (.long u14), .second, .unset, .unset] [(.int (4 : Int32))])) _
      refine st50 _ ?_
      show Steps p.tables e below (T50.setTop (mkF m 47 #[.val (.int p1), .val (.long q1), .second, .val (.long q2), .second, .val (.long q3), .second, .val (.long q4), .second, .val (.int (4 : Int32)), .val (.long u5), .second, .val (.long u8), .second, .val (.long u11), .second, .val (.long u14), .second, .unset, .unset] [(.ref b50)])) _
      refine XS.astore X50.here hx rfl (hb hby at_47) rfl rfl (l' := #[.val (.int p1), .val (.long q1), .second, .val (.long q2), .second, .val (.long q3), .second, .val (.long q4), .second, .val (.int (4 : Int32)), .val (.long u5), .second, .val (.long u8), .second, .val (.long u11), .second, .val (.long u14), .second, .val (.ref b50), .unset]) rfl ?_
      show Steps p.tables e below (T50.setTop (mkF m 49 #[.val (.int p1), .val (.long q1), .second, .val (.long q2), .second, .val (.long q3), .second, .val (.long q4), .second, .val (.int (4 : Int32)), .val (.long u5), .second, .val (.long u8), .second, .val (.long u11), .second, .val (.long u14), .second, .val (.ref b50), .unset] [])) _
      refine XS.iload X50.here hx rfl (hb hby at_49) rfl ?_
      show Steps p.tables e below (T50.setTop (mkF m 51 #[.val (.int p1), .val (.long q1), .second, .val (.long q2), .second, .val (.long q3), .second, .val (.long q4), .second, .val (.int (4 : Int32)), .val (.long u5), .second, .val (.long u8), .second, .val (.long u11), .second, .val (.long u14), .second, .val (.ref b50), .unset] [(.int (4 : Int32))])) _
      refine XS.ifNo X50.here hx rfl (hb hby at_51) rfl ((if0 _ _).trans (tlt (by decide)).2.2.2) ?_
      show Steps p.tables e below (T50.setTop (mkF m 54 #[.val (.int p1), .val (.long q1), .second, .val (.long q2), .second, .val (.long q3), .second, .val (.long q4), .second, .val (.int (4 : Int32)), .val (.long u5), .second, .val (.long u8), .second, .val (.long u11), .second, .val (.long u14), .second, .val (.ref b50), .unset] [])) _
      refine XS.aload X50.here hx rfl (hb hby at_54) rfl rfl ?_
      show Steps p.tables e below (T50.setTop (mkF m 56 #[.val (.int p1), .val (.long q1), .second, .val (.long q2), .second, .val (.long q3), .second, .val (.long q4), .second, .val (.int (4 : Int32)), .val (.long u5), .second, .val (.long u8), .second, .val (.long u11), .second, .val (.long u14), .second, .val (.ref b50), .unset] [(.ref b50)])) _
      refine XS.iconst X50.here hx rfl (hb hby at_56) ?_
      show Steps p.tables e below (T50.setTop (mkF m 57 #[.val (.int p1), .val (.long q1), .second, .val (.long q2), .second, .val (.long q3), .second, .val (.long q4), .second, .val (.int (4 : Int32)), .val (.long u5), .second, .val (.long u8), .second, .val (.long u11), .second, .val (.long u14), .second, .val (.ref b50), .unset] [(.int (0 : Int32)), (.ref b50)])) _
      refine XS.lload X50.here hx rfl (hb hby at_57) rfl ?_
      show Steps p.tables e below (T50.setTop (mkF m 59 #[.val (.int p1), .val (.long q1), .second, .val (.long q2), .second, .val (.long q3), .second, .val (.long q4), .second, .val (.int (4 : Int32)), .val (.long u5), .second, .val (.long u8), .second, .val (.long u11), .second, .val (.long u14), .second, .val (.ref b50), .unset] [(.long u5), (.int (0 : Int32)), (.ref b50)])) _
      refine st51 _ ?_
      show Steps p.tables e below (T51.setTop (mkF m 60 #[.val (.int p1), .val (.long q1), .second, .val (.long q2), .second, .val (.long q3), .second, .val (.long q4), .second, .val (.int (4 : Int32)), .val (.long u5), .second, .val (.long u8), .second, .val (.long u11), .second, .val (.long u14), .second, .val (.ref b50), .unset] [])) _
      refine XS.iload X51.here hx rfl (hb hby at_60) rfl ?_
      show Steps p.tables e below (T51.setTop (mkF m 62 #[.val (.int p1), .val (.long q1), .second, .val (.long q2), .second, .val (.long q3), .second, .val (.long q4), .second, .val (.int (4 : Int32)), .val (.long u5), .second, .val (.long u8), .second, .val (.long u11), .second, .val (.long u14), .second, .val (.ref b50), .unset] [(.int (4 : Int32))])) _
      refine XS.iconst X51.here hx rfl (hb hby at_62) ?_
      show Steps p.tables e below (T51.setTop (mkF m 63 #[.val (.int p1), .val (.long q1), .second, .val (.long q2), .second, .val (.long q3), .second, .val (.long q4), .second, .val (.int (4 : Int32)), .val (.long u5), .second, .val (.long u8), .second, .val (.long u11), .second, .val (.long u14), .second, .val (.ref b50), .unset] [(.int (1 : Int32)), (.int (4 : Int32))])) _
      refine XS.icmpNo X51.here hx rfl (hb hby at_63) rfl (tlt (by decide)).2.2.2 ?_
      show Steps p.tables e below (T51.setTop (mkF m 66 #[.val (.int p1), .val (.long q1), .second, .val (.long q2), .second, .val (.long q3), .second, .val (.long q4), .second, .val (.int (4 : Int32)), .val (.long u5), .second, .val (.long u8), .second, .val (.long u11), .second, .val (.long u14), .second, .val (.ref b50), .unset] [])) _
      refine XS.aload X51.here hx rfl (hb hby at_66) rfl rfl ?_
      show Steps p.tables e below (T51.setTop (mkF m 68 #[.val (.int p1), .val (.long q1), .second, .val (.long q2), .second, .val (.long q3), .second, .val (.long q4), .second, .val (.int (4 : Int32)), .val (.long u5), .second, .val (.long u8), .second, .val (.long u11), .second, .val (.long u14), .second, .val (.ref b50), .unset] [(.ref b50)])) _
      refine XS.iconst X51.here hx rfl (hb hby at_68) ?_
      show Steps p.tables e below (T51.setTop (mkF m 69 #[.val (.int p1), .val (.long q1), .second, .val (.long q2), .second, .val (.long q3), .second, .val (.long q4), .second, .val (.int (4 : Int32)), .val (.long u5), .second, .val (.long u8), .second, .val (.long u11), .second, .val (.long u14), .second, .val (.ref b50), .unset] [(.int (1 : Int32)), (.ref b50)])) _
      refine XS.lload X51.here hx rfl (hb hby at_69) rfl ?_
      show Steps p.tables e below (T51.setTop (mkF m 71 #[.val (.int p1), .val (.long q1), .second, .val (.long q2), .second, .val (.long q3), .second, .val (.long q4), .second, .val (.int (4 : Int32)), .val (.long u5), .second, .val (.long u8), .second, .val (.long u11), .second, .val (.long u14), .second, .val (.ref b50), .unset] [(.long u8), (.int (1 : Int32)), (.ref b50)])) _
      refine st52 _ ?_
      show Steps p.tables e below (T52.setTop (mkF m 72 #[.val (.int p1), .val (.long q1), .second, .val (.long q2), .second, .val (.long q3), .second, .val (.long q4), .second, .val (.int (4 : Int32)), .val (.long u5), .second, .val (.long u8), .second, .val (.long u11), .second, .val (.long u14), .second, .val (.ref b50), .unset] [])) _
      refine XS.iload X52.here hx rfl (hb hby at_72) rfl ?_
      show Steps p.tables e below (T52.setTop (mkF m 74 #[.val (.int p1), .val (.long q1), .second, .val (.long q2), .second, .val (.long q3), .second, .val (.long q4), .second, .val (.int (4 : Int32)), .val (.long u5), .second, .val (.long u8), .second, .val (.long u11), .second, .val (.long u14), .second, .val (.ref b50), .unset] [(.int (4 : Int32))])) _
      refine XS.iconst X52.here hx rfl (hb hby at_74) ?_
      show Steps p.tables e below (T52.setTop (mkF m 75 #[.val (.int p1), .val (.long q1), .second, .val (.long q2), .second, .val (.long q3), .second, .val (.long q4), .second, .val (.int (4 : Int32)), .val (.long u5), .second, .val (.long u8), .second, .val (.long u11), .second, .val (.long u14), .second, .val (.ref b50), .unset] [(.int (2 : Int32)), (.int (4 : Int32))])) _
      refine XS.icmpNo X52.here hx rfl (hb hby at_75) rfl (tlt (by decide)).2.2.2 ?_
      show Steps p.tables e below (T52.setTop (mkF m 78 #[.val (.int p1), .val (.long q1), .second, .val (.long q2), .second, .val (.long q3), .second, .val (.long q4), .second, .val (.int (4 : Int32)), .val (.long u5), .second, .val (.long u8), .second, .val (.long u11), .second, .val (.long u14), .second, .val (.ref b50), .unset] [])) _
      refine XS.aload X52.here hx rfl (hb hby at_78) rfl rfl ?_
      show Steps p.tables e below (T52.setTop (mkF m 80 #[.val (.int p1), .val (.long q1), .second, .val (.long q2), .second, .val (.long q3), .second, .val (.long q4), .second, .val (.int (4 : Int32)), .val (.long u5), .second, .val (.long u8), .second, .val (.long u11), .second, .val (.long u14), .second, .val (.ref b50), .unset] [(.ref b50)])) _
      refine XS.iconst X52.here hx rfl (hb hby at_80) ?_
      show Steps p.tables e below (T52.setTop (mkF m 81 #[.val (.int p1), .val (.long q1), .second, .val (.long q2), .second, .val (.long q3), .second, .val (.long q4), .second, .val (.int (4 : Int32)), .val (.long u5), .second, .val (.long u8), .second, .val (.long u11), .second, .val (.long u14), .second, .val (.ref b50), .unset] [(.int (2 : Int32)), (.ref b50)])) _
      refine XS.lload X52.here hx rfl (hb hby at_81) rfl ?_
      show Steps p.tables e below (T52.setTop (mkF m 83 #[.val (.int p1), .val (.long q1), .second, .val (.long q2), .second, .val (.long q3), .second, .val (.long q4), .second, .val (.int (4 : Int32)), .val (.long u5), .second, .val (.long u8), .second, .val (.long u11), .second, .val (.long u14), .second, .val (.ref b50), .unset] [(.long u11), (.int (2 : Int32)), (.ref b50)])) _
      refine st53 _ ?_
      show Steps p.tables e below (T53.setTop (mkF m 84 #[.val (.int p1), .val (.long q1), .second, .val (.long q2), .second, .val (.long q3), .second, .val (.long q4), .second, .val (.int (4 : Int32)), .val (.long u5), .second, .val (.long u8), .second, .val (.long u11), .second, .val (.long u14), .second, .val (.ref b50), .unset] [])) _
      refine XS.iload X53.here hx rfl (hb hby at_84) rfl ?_
      show Steps p.tables e below (T53.setTop (mkF m 86 #[.val (.int p1), .val (.long q1), .second, .val (.long q2), .second, .val (.long q3), .second, .val (.long q4), .second, .val (.int (4 : Int32)), .val (.long u5), .second, .val (.long u8), .second, .val (.long u11), .second, .val (.long u14), .second, .val (.ref b50), .unset] [(.int (4 : Int32))])) _
      refine XS.iconst X53.here hx rfl (hb hby at_86) ?_
      show Steps p.tables e below (T53.setTop (mkF m 87 #[.val (.int p1), .val (.long q1), .second, .val (.long q2), .second, .val (.long q3), .second, .val (.long q4), .second, .val (.int (4 : Int32)), .val (.long u5), .second, .val (.long u8), .second, .val (.long u11), .second, .val (.long u14), .second, .val (.ref b50), .unset] [(.int (3 : Int32)), (.int (4 : Int32))])) _
      refine XS.icmpNo X53.here hx rfl (hb hby at_87) rfl (tlt (by decide)).2.2.2 ?_
      show Steps p.tables e below (T53.setTop (mkF m 90 #[.val (.int p1), .val (.long q1), .second, .val (.long q2), .second, .val (.long q3), .second, .val (.long q4), .second, .val (.int (4 : Int32)), .val (.long u5), .second, .val (.long u8), .second, .val (.long u11), .second, .val (.long u14), .second, .val (.ref b50), .unset] [])) _
      refine XS.aload X53.here hx rfl (hb hby at_90) rfl rfl ?_
      show Steps p.tables e below (T53.setTop (mkF m 92 #[.val (.int p1), .val (.long q1), .second, .val (.long q2), .second, .val (.long q3), .second, .val (.long q4), .second, .val (.int (4 : Int32)), .val (.long u5), .second, .val (.long u8), .second, .val (.long u11), .second, .val (.long u14), .second, .val (.ref b50), .unset] [(.ref b50)])) _
      refine XS.iconst X53.here hx rfl (hb hby at_92) ?_
      show Steps p.tables e below (T53.setTop (mkF m 93 #[.val (.int p1), .val (.long q1), .second, .val (.long q2), .second, .val (.long q3), .second, .val (.long q4), .second, .val (.int (4 : Int32)), .val (.long u5), .second, .val (.long u8), .second, .val (.long u11), .second, .val (.long u14), .second, .val (.ref b50), .unset] [(.int (3 : Int32)), (.ref b50)])) _
      refine XS.lload X53.here hx rfl (hb hby at_93) rfl ?_
      show Steps p.tables e below (T53.setTop (mkF m 95 #[.val (.int p1), .val (.long q1), .second, .val (.long q2), .second, .val (.long q3), .second, .val (.long q4), .second, .val (.int (4 : Int32)), .val (.long u5), .second, .val (.long u8), .second, .val (.long u11), .second, .val (.long u14), .second, .val (.ref b50), .unset] [(.long u14), (.int (3 : Int32)), (.ref b50)])) _
      refine st54 _ ?_
      show Steps p.tables e below (T54.setTop (mkF m 96 #[.val (.int p1), .val (.long q1), .second, .val (.long q2), .second, .val (.long q3), .second, .val (.long q4), .second, .val (.int (4 : Int32)), .val (.long u5), .second, .val (.long u8), .second, .val (.long u11), .second, .val (.long u14), .second, .val (.ref b50), .unset] [])) _
      refine XS.iload X54.here hx rfl (hb hby at_96) rfl ?_
      show Steps p.tables e below (T54.setTop (mkF m 98 #[.val (.int p1), .val (.long q1), .second, .val (.long q2), .second, .val (.long q3), .second, .val (.long q4), .second, .val (.int (4 : Int32)), .val (.long u5), .second, .val (.long u8), .second, .val (.long u11), .second, .val (.long u14), .second, .val (.ref b50), .unset] [(.int (4 : Int32))])) _
      refine XS.ifNo X54.here hx rfl (hb hby at_98) rfl ((if0 _ _).trans (tlt (by decide)).2.2.2) ?_
      show Steps p.tables e below (T54.setTop (mkF m 101 #[.val (.int p1), .val (.long q1), .second, .val (.long q2), .second, .val (.long q3), .second, .val (.long q4), .second, .val (.int (4 : Int32)), .val (.long u5), .second, .val (.long u8), .second, .val (.long u11), .second, .val (.long u14), .second, .val (.ref b50), .unset] [])) _
      refine XS.iconst X54.here hx rfl (hb hby at_101) ?_
      show Steps p.tables e below (T54.setTop (mkF m 102 #[.val (.int p1), .val (.long q1), .second, .val (.long q2), .second, .val (.long q3), .second, .val (.long q4), .second, .val (.int (4 : Int32)), .val (.long u5), .second, .val (.long u8), .second, .val (.long u11), .second, .val (.long u14), .second, .val (.ref b50), .unset] [(.int (1 : Int32))])) _
      refine XS.goto X54.here hx rfl (pc0 := 102) (pc' := 106) rfl (hb hby at_102) (by decide) (by decide) ?_
      show Steps p.tables e below (T54.setTop (mkF m 106 #[.val (.int p1), .val (.long q1), .second, .val (.long q2), .second, .val (.long q3), .second, .val (.long q4), .second, .val (.int (4 : Int32)), .val (.long u5), .second, .val (.long u8), .second, .val (.long u11), .second, .val (.long u14), .second, .val (.ref b50), .unset] [(.int (1 : Int32))])) _
      refine XS.lload X54.here hx rfl (hb hby at_106) rfl ?_
      show Steps p.tables e below (T54.setTop (mkF m 108 #[.val (.int p1), .val (.long q1), .second, .val (.long q2), .second, .val (.long q3), .second, .val (.long q4), .second, .val (.int (4 : Int32)), .val (.long u5), .second, .val (.long u8), .second, .val (.long u11), .second, .val (.long u14), .second, .val (.ref b50), .unset] [(.long u5), (.int (1 : Int32))])) _
      refine st55 _ ?_
      show Steps p.tables e below (T55.setTop (mkF m 111 #[.val (.int p1), .val (.long q1), .second, .val (.long q2), .second, .val (.long q3), .second, .val (.long q4), .second, .val (.int (4 : Int32)), .val (.long u5), .second, .val (.long u8), .second, .val (.long u11), .second, .val (.long u14), .second, .val (.ref b50), .unset] [(.int (own_hit (1 : Int32) u5))])) _
      refine XS.iload X55.here hx rfl (hb hby at_111) rfl ?_
      show Steps p.tables e below (T55.setTop (mkF m 113 #[.val (.int p1), .val (.long q1), .second, .val (.long q2), .second, .val (.long q3), .second, .val (.long q4), .second, .val (.int (4 : Int32)), .val (.long u5), .second, .val (.long u8), .second, .val (.long u11), .second, .val (.long u14), .second, .val (.ref b50), .unset] [(.int (4 : Int32)), (.int (own_hit (1 : Int32) u5))])) _
      refine XS.iconst X55.here hx rfl (hb hby at_113) ?_
      show Steps p.tables e below (T55.setTop (mkF m 114 #[.val (.int p1), .val (.long q1), .second, .val (.long q2), .second, .val (.long q3), .second, .val (.long q4), .second, .val (.int (4 : Int32)), .val (.long u5), .second, .val (.long u8), .second, .val (.long u11), .second, .val (.long u14), .second, .val (.ref b50), .unset] [(.int (1 : Int32)), (.int (4 : Int32)), (.int (own_hit (1 : Int32) u5))])) _
      refine XS.icmpNo X55.here hx rfl (hb hby at_114) rfl (tlt (by decide)).2.2.2 ?_
      show Steps p.tables e below (T55.setTop (mkF m 117 #[.val (.int p1), .val (.long q1), .second, .val (.long q2), .second, .val (.long q3), .second, .val (.long q4), .second, .val (.int (4 : Int32)), .val (.long u5), .second, .val (.long u8), .second, .val (.long u11), .second, .val (.long u14), .second, .val (.ref b50), .unset] [(.int (own_hit (1 : Int32) u5))])) _
      refine XS.iconst X55.here hx rfl (hb hby at_117) ?_
      show Steps p.tables e below (T55.setTop (mkF m 118 #[.val (.int p1), .val (.long q1), .second, .val (.long q2), .second, .val (.long q3), .second, .val (.long q4), .second, .val (.int (4 : Int32)), .val (.long u5), .second, .val (.long u8), .second, .val (.long u11), .second, .val (.long u14), .second, .val (.ref b50), .unset] [(.int (1 : Int32)), (.int (own_hit (1 : Int32) u5))])) _
      refine XS.goto X55.here hx rfl (pc0 := 118) (pc' := 122) rfl (hb hby at_118) (by decide) (by decide) ?_
      show Steps p.tables e below (T55.setTop (mkF m 122 #[.val (.int p1), .val (.long q1), .second, .val (.long q2), .second, .val (.long q3), .second, .val (.long q4), .second, .val (.int (4 : Int32)), .val (.long u5), .second, .val (.long u8), .second, .val (.long u11), .second, .val (.long u14), .second, .val (.ref b50), .unset] [(.int (1 : Int32)), (.int (own_hit (1 : Int32) u5))])) _
      refine XS.lload X55.here hx rfl (hb hby at_122) rfl ?_
      show Steps p.tables e below (T55.setTop (mkF m 124 #[.val (.int p1), .val (.long q1), .second, .val (.long q2), .second, .val (.long q3), .second, .val (.long q4), .second, .val (.int (4 : Int32)), .val (.long u5), .second, .val (.long u8), .second, .val (.long u11), .second, .val (.long u14), .second, .val (.ref b50), .unset] [(.long u8), (.int (1 : Int32)), (.int (own_hit (1 : Int32) u5))])) _
      refine st56 _ ?_
      show Steps p.tables e below (T56.setTop (mkF m 127 #[.val (.int p1), .val (.long q1), .second, .val (.long q2), .second, .val (.long q3), .second, .val (.long q4), .second, .val (.int (4 : Int32)), .val (.long u5), .second, .val (.long u8), .second, .val (.long u11), .second, .val (.long u14), .second, .val (.ref b50), .unset] [(.int (own_hit (1 : Int32) u8)), (.int (own_hit (1 : Int32) u5))])) _
      refine XS.iadd X56.here hx rfl (hb hby at_127) rfl ?_
      show Steps p.tables e below (T56.setTop (mkF m 128 #[.val (.int p1), .val (.long q1), .second, .val (.long q2), .second, .val (.long q3), .second, .val (.long q4), .second, .val (.int (4 : Int32)), .val (.long u5), .second, .val (.long u8), .second, .val (.long u11), .second, .val (.long u14), .second, .val (.ref b50), .unset] [(.int ((own_hit (1 : Int32) u5) + (own_hit (1 : Int32) u8)))])) _
      refine XS.iload X56.here hx rfl (hb hby at_128) rfl ?_
      show Steps p.tables e below (T56.setTop (mkF m 130 #[.val (.int p1), .val (.long q1), .second, .val (.long q2), .second, .val (.long q3), .second, .val (.long q4), .second, .val (.int (4 : Int32)), .val (.long u5), .second, .val (.long u8), .second, .val (.long u11), .second, .val (.long u14), .second, .val (.ref b50), .unset] [(.int (4 : Int32)), (.int ((own_hit (1 : Int32) u5) + (own_hit (1 : Int32) u8)))])) _
      refine XS.iconst X56.here hx rfl (hb hby at_130) ?_
      show Steps p.tables e below (T56.setTop (mkF m 131 #[.val (.int p1), .val (.long q1), .second, .val (.long q2), .second, .val (.long q3), .second, .val (.long q4), .second, .val (.int (4 : Int32)), .val (.long u5), .second, .val (.long u8), .second, .val (.long u11), .second, .val (.long u14), .second, .val (.ref b50), .unset] [(.int (2 : Int32)), (.int (4 : Int32)), (.int ((own_hit (1 : Int32) u5) + (own_hit (1 : Int32) u8)))])) _
      refine XS.icmpNo X56.here hx rfl (hb hby at_131) rfl (tlt (by decide)).2.2.2 ?_
      show Steps p.tables e below (T56.setTop (mkF m 134 #[.val (.int p1), .val (.long q1), .second, .val (.long q2), .second, .val (.long q3), .second, .val (.long q4), .second, .val (.int (4 : Int32)), .val (.long u5), .second, .val (.long u8), .second, .val (.long u11), .second, .val (.long u14), .second, .val (.ref b50), .unset] [(.int ((own_hit (1 : Int32) u5) + (own_hit (1 : Int32) u8)))])) _
      refine XS.iconst X56.here hx rfl (hb hby at_134) ?_
      show Steps p.tables e below (T56.setTop (mkF m 135 #[.val (.int p1), .val (.long q1), .second, .val (.long q2), .second, .val (.long q3), .second, .val (.long q4), .second, .val (.int (4 : Int32)), .val (.long u5), .second, .val (.long u8), .second, .val (.long u11), .second, .val (.long u14), .second, .val (.ref b50), .unset] [(.int (1 : Int32)), (.int ((own_hit (1 : Int32) u5) + (own_hit (1 : Int32) u8)))])) _
      refine XS.goto X56.here hx rfl (pc0 := 135) (pc' := 139) rfl (hb hby at_135) (by decide) (by decide) ?_
      show Steps p.tables e below (T56.setTop (mkF m 139 #[.val (.int p1), .val (.long q1), .second, .val (.long q2), .second, .val (.long q3), .second, .val (.long q4), .second, .val (.int (4 : Int32)), .val (.long u5), .second, .val (.long u8), .second, .val (.long u11), .second, .val (.long u14), .second, .val (.ref b50), .unset] [(.int (1 : Int32)), (.int ((own_hit (1 : Int32) u5) + (own_hit (1 : Int32) u8)))])) _
      refine XS.lload X56.here hx rfl (hb hby at_139) rfl ?_
      show Steps p.tables e below (T56.setTop (mkF m 141 #[.val (.int p1), .val (.long q1), .second, .val (.long q2), .second, .val (.long q3), .second, .val (.long q4), .second, .val (.int (4 : Int32)), .val (.long u5), .second, .val (.long u8), .second, .val (.long u11), .second, .val (.long u14), .second, .val (.ref b50), .unset] [(.long u11), (.int (1 : Int32)), (.int ((own_hit (1 : Int32) u5) + (own_hit (1 : Int32) u8)))])) _
      refine st57 _ ?_
      show Steps p.tables e below (T57.setTop (mkF m 144 #[.val (.int p1), .val (.long q1), .second, .val (.long q2), .second, .val (.long q3), .second, .val (.long q4), .second, .val (.int (4 : Int32)), .val (.long u5), .second, .val (.long u8), .second, .val (.long u11), .second, .val (.long u14), .second, .val (.ref b50), .unset] [(.int (own_hit (1 : Int32) u11)), (.int ((own_hit (1 : Int32) u5) + (own_hit (1 : Int32) u8)))])) _
      refine XS.iadd X57.here hx rfl (hb hby at_144) rfl ?_
      show Steps p.tables e below (T57.setTop (mkF m 145 #[.val (.int p1), .val (.long q1), .second, .val (.long q2), .second, .val (.long q3), .second, .val (.long q4), .second, .val (.int (4 : Int32)), .val (.long u5), .second, .val (.long u8), .second, .val (.long u11), .second, .val (.long u14), .second, .val (.ref b50), .unset] [(.int (((own_hit (1 : Int32) u5) + (own_hit (1 : Int32) u8)) + (own_hit (1 : Int32) u11)))])) _
      refine XS.iload X57.here hx rfl (hb hby at_145) rfl ?_
      show Steps p.tables e below (T57.setTop (mkF m 147 #[.val (.int p1), .val (.long q1), .second, .val (.long q2), .second, .val (.long q3), .second, .val (.long q4), .second, .val (.int (4 : Int32)), .val (.long u5), .second, .val (.long u8), .second, .val (.long u11), .second, .val (.long u14), .second, .val (.ref b50), .unset] [(.int (4 : Int32)), (.int (((own_hit (1 : Int32) u5) + (own_hit (1 : Int32) u8)) + (own_hit (1 : Int32) u11)))])) _
      refine XS.iconst X57.here hx rfl (hb hby at_147) ?_
      show Steps p.tables e below (T57.setTop (mkF m 148 #[.val (.int p1), .val (.long q1), .second, .val (.long q2), .second, .val (.long q3), .second, .val (.long q4), .second, .val (.int (4 : Int32)), .val (.long u5), .second, .val (.long u8), .second, .val (.long u11), .second, .val (.long u14), .second, .val (.ref b50), .unset] [(.int (3 : Int32)), (.int (4 : Int32)), (.int (((own_hit (1 : Int32) u5) + (own_hit (1 : Int32) u8)) + (own_hit (1 : Int32) u11)))])) _
      refine XS.icmpNo X57.here hx rfl (hb hby at_148) rfl (tlt (by decide)).2.2.2 ?_
      show Steps p.tables e below (T57.setTop (mkF m 151 #[.val (.int p1), .val (.long q1), .second, .val (.long q2), .second, .val (.long q3), .second, .val (.long q4), .second, .val (.int (4 : Int32)), .val (.long u5), .second, .val (.long u8), .second, .val (.long u11), .second, .val (.long u14), .second, .val (.ref b50), .unset] [(.int (((own_hit (1 : Int32) u5) + (own_hit (1 : Int32) u8)) + (own_hit (1 : Int32) u11)))])) _
      refine XS.iconst X57.here hx rfl (hb hby at_151) ?_
      show Steps p.tables e below (T57.setTop (mkF m 152 #[.val (.int p1), .val (.long q1), .second, .val (.long q2), .second, .val (.long q3), .second, .val (.long q4), .second, .val (.int (4 : Int32)), .val (.long u5), .second, .val (.long u8), .second, .val (.long u11), .second, .val (.long u14), .second, .val (.ref b50), .unset] [(.int (1 : Int32)), (.int (((own_hit (1 : Int32) u5) + (own_hit (1 : Int32) u8)) + (own_hit (1 : Int32) u11)))])) _
      refine XS.goto X57.here hx rfl (pc0 := 152) (pc' := 156) rfl (hb hby at_152) (by decide) (by decide) ?_
      show Steps p.tables e below (T57.setTop (mkF m 156 #[.val (.int p1), .val (.long q1), .second, .val (.long q2), .second, .val (.long q3), .second, .val (.long q4), .second, .val (.int (4 : Int32)), .val (.long u5), .second, .val (.long u8), .second, .val (.long u11), .second, .val (.long u14), .second, .val (.ref b50), .unset] [(.int (1 : Int32)), (.int (((own_hit (1 : Int32) u5) + (own_hit (1 : Int32) u8)) + (own_hit (1 : Int32) u11)))])) _
      refine XS.lload X57.here hx rfl (hb hby at_156) rfl ?_
      show Steps p.tables e below (T57.setTop (mkF m 158 #[.val (.int p1), .val (.long q1), .second, .val (.long q2), .second, .val (.long q3), .second, .val (.long q4), .second, .val (.int (4 : Int32)), .val (.long u5), .second, .val (.long u8), .second, .val (.long u11), .second, .val (.long u14), .second, .val (.ref b50), .unset] [(.long u14), (.int (1 : Int32)), (.int (((own_hit (1 : Int32) u5) + (own_hit (1 : Int32) u8)) + (own_hit (1 : Int32) u11)))])) _
      refine st58 _ ?_
      show Steps p.tables e below (T58.setTop (mkF m 161 #[.val (.int p1), .val (.long q1), .second, .val (.long q2), .second, .val (.long q3), .second, .val (.long q4), .second, .val (.int (4 : Int32)), .val (.long u5), .second, .val (.long u8), .second, .val (.long u11), .second, .val (.long u14), .second, .val (.ref b50), .unset] [(.int (own_hit (1 : Int32) u14)), (.int (((own_hit (1 : Int32) u5) + (own_hit (1 : Int32) u8)) + (own_hit (1 : Int32) u11)))])) _
      refine XS.iadd X58.here hx rfl (hb hby at_161) rfl ?_
      show Steps p.tables e below (T58.setTop (mkF m 162 #[.val (.int p1), .val (.long q1), .second, .val (.long q2), .second, .val (.long q3), .second, .val (.long q4), .second, .val (.int (4 : Int32)), .val (.long u5), .second, .val (.long u8), .second, .val (.long u11), .second, .val (.long u14), .second, .val (.ref b50), .unset] [(.int ((((own_hit (1 : Int32) u5) + (own_hit (1 : Int32) u8)) + (own_hit (1 : Int32) u11)) + (own_hit (1 : Int32) u14)))])) _
      refine XS.istore X58.here hx rfl (hb hby at_162) rfl (l' := #[.val (.int p1), .val (.long q1), .second, .val (.long q2), .second, .val (.long q3), .second, .val (.long q4), .second, .val (.int (4 : Int32)), .val (.long u5), .second, .val (.long u8), .second, .val (.long u11), .second, .val (.long u14), .second, .val (.ref b50), .val (.int ((((own_hit (1 : Int32) u5) + (own_hit (1 : Int32) u8)) + (own_hit (1 : Int32) u11)) + (own_hit (1 : Int32) u14)))]) rfl ?_
      show Steps p.tables e below (T58.setTop (mkF m 164 #[.val (.int p1), .val (.long q1), .second, .val (.long q2), .second, .val (.long q3), .second, .val (.long q4), .second, .val (.int (4 : Int32)), .val (.long u5), .second, .val (.long u8), .second, .val (.long u11), .second, .val (.long u14), .second, .val (.ref b50), .val (.int ((((own_hit (1 : Int32) u5) + (own_hit (1 : Int32) u8)) + (own_hit (1 : Int32) u11)) + (own_hit (1 : Int32) u14)))] [])) _
      refine XS.aload X58.here hx rfl (hb hby at_164) rfl rfl ?_
      show Steps p.tables e below (T58.setTop (mkF m 166 #[.val (.int p1), .val (.long q1), .second, .val (.long q2), .second, .val (.long q3), .second, .val (.long q4), .second, .val (.int (4 : Int32)), .val (.long u5), .second, .val (.long u8), .second, .val (.long u11), .second, .val (.long u14), .second, .val (.ref b50), .val (.int ((((own_hit (1 : Int32) u5) + (own_hit (1 : Int32) u8)) + (own_hit (1 : Int32) u11)) + (own_hit (1 : Int32) u14)))] [(.ref b50)])) _
      refine st59 _ ?_
      show Steps p.tables e below (T59.setTop (mkF m 169 #[.val (.int p1), .val (.long q1), .second, .val (.long q2), .second, .val (.long q3), .second, .val (.long q4), .second, .val (.int (4 : Int32)), .val (.long u5), .second, .val (.long u8), .second, .val (.long u11), .second, .val (.long u14), .second, .val (.ref b50), .val (.int ((((own_hit (1 : Int32) u5) + (own_hit (1 : Int32) u8)) + (own_hit (1 : Int32) u11)) + (own_hit (1 : Int32) u14)))] [(.int (own_st u14 (own_st u11 (own_st u8 (own_st u5 (0 : Int32))))))])) _
      refine XS.iload X59.here hx rfl (hb hby at_169) rfl ?_
      show Steps p.tables e below (T59.setTop (mkF m 171 #[.val (.int p1), .val (.long q1), .second, .val (.long q2), .second, .val (.long q3), .second, .val (.long q4), .second, .val (.int (4 : Int32)), .val (.long u5), .second, .val (.long u8), .second, .val (.long u11), .second, .val (.long u14), .second, .val (.ref b50), .val (.int ((((own_hit (1 : Int32) u5) + (own_hit (1 : Int32) u8)) + (own_hit (1 : Int32) u11)) + (own_hit (1 : Int32) u14)))] [(.int ((((own_hit (1 : Int32) u5) + (own_hit (1 : Int32) u8)) + (own_hit (1 : Int32) u11)) + (own_hit (1 : Int32) u14))), (.int (own_st u14 (own_st u11 (own_st u8 (own_st u5 (0 : Int32))))))])) _
      refine XS.icmpNo X59.here hx rfl (hb hby at_171) rfl (teq (own_c4 u5 u8 u11 u14)).2 ?_
      show Steps p.tables e below (T59.setTop (mkF m 174 #[.val (.int p1), .val (.long q1), .second, .val (.long q2), .second, .val (.long q3), .second, .val (.long q4), .second, .val (.int (4 : Int32)), .val (.long u5), .second, .val (.long u8), .second, .val (.long u11), .second, .val (.long u14), .second, .val (.ref b50), .val (.int ((((own_hit (1 : Int32) u5) + (own_hit (1 : Int32) u8)) + (own_hit (1 : Int32) u11)) + (own_hit (1 : Int32) u14)))] [])) _
      refine XS.iconst X59.here hx rfl (hb hby at_174) ?_
      show Steps p.tables e below (T59.setTop (mkF m 175 #[.val (.int p1), .val (.long q1), .second, .val (.long q2), .second, .val (.long q3), .second, .val (.long q4), .second, .val (.int (4 : Int32)), .val (.long u5), .second, .val (.long u8), .second, .val (.long u11), .second, .val (.long u14), .second, .val (.ref b50), .val (.int ((((own_hit (1 : Int32) u5) + (own_hit (1 : Int32) u8)) + (own_hit (1 : Int32) u11)) + (own_hit (1 : Int32) u14)))] [(.int (1 : Int32))])) _
      refine XS.goto X59.here hx rfl (pc0 := 175) (pc' := 179) rfl (hb hby at_175) (by decide) (by decide) ?_
      exact k)
    obtain ⟨fs, hr, hrun, hended, hW, hsame⟩ := X59.leave (v := some (.int (1 : Int32))) (fun h => by rw [Bd.returns] at h; cases h)
    refine ⟨_, _, way60 _ ?_, hrun, hended, _, _, rfl, ?_, ⟨_, rfl⟩, hW, hsame.mono (by decide) (by decide)⟩
    · show Steps p.tables e below (T59.setTop (mkF m 179 #[.val (.int p1), .val (.long q1), .second, .val (.long q2), .second, .val (.long q3), .second, .val (.long q4), .second, .val (.int (4 : Int32)), .val (.long u5), .second, .val (.long u8), .second, .val (.long u11), .second, .val (.long u14), .second, .val (.ref b50), .val (.int ((((own_hit (1 : Int32) u5) + (own_hit (1 : Int32) u8)) + (own_hit (1 : Int32) u11)) + (own_hit (1 : Int32) u14)))] [(.int (1 : Int32))])) _
      exact retN X59 hx (t := .boolean) Bd.returns (by simp) (hb hby at_179) hr
    · show Q_law Z p1 q1 q2 q3 q4 h0 n0 _ T59.heap _
      rw [hh59]
      exact ⟨rfl, N59⟩
set_option maxRecDepth 65536 in
set_option maxHeartbeats 40000000 in
theorem comes_1 {Post : Tables → Env → Array Value → State → Outcome → State → Prop} (hpost : ∀ tb e args s v u, (limb_1_1.after args s (.returned v) u = true ∧ limb_1_2.after args s (.returned v) u = true ∧ True) → FrameEnd s (.returned v) u (Jvm.fieldLocs frame_1_writes args s ++ Jvm.arrayLocs frame_1_arrays args s ++ Jvm.staticLocs frame_1_statics s) 16 128 → Post tb e args s (.returned v) u) :
    ArmFor flags0 classFile x code maxLocals ret World_1 tables_1 room_1 Calls_1 rest_1 Pre_1 Post := by
  intro l hfl _ _ p e ha hc hk s m args below hf hA hF happ hP
  obtain ⟨hcalls, hrest, hpre⟩ := hP
  obtain ⟨-, -, -, hnamed, -, -, -, hat⟩ := (Spec.applies_iff hf).mp happ
  obtain ⟨hg, hn⟩ := and_e (Cond.before_iff.mp (show (Jvm.Cond.and given_1 narrow_1).before args s = true from hpre))
  obtain ⟨gc, g0⟩ := and_e hg
  obtain ⟨ga0, g1⟩ := and_e g0
  obtain ⟨ga1, g2⟩ := and_e g1
  obtain ⟨ga2, g3⟩ := and_e g2
  obtain ⟨ga3, g4⟩ := and_e g3
  have ga4 := g4
  obtain ⟨w0, w1, w2, w3, w4, rfl⟩ : ∃ w0 w1 w2 w3 w4 : Value, args = #[w0, w1, w2, w3, w4] := by
    have hs : args.size = 5 := by simpa [Cond.value, given_1] using gc
    obtain ⟨L⟩ := args
    match L, hs with
    | [w0, w1, w2, w3, w4], _ => exact ⟨w0, w1, w2, w3, w4, rfl⟩
  have hw := fun d (hd : d ∈ tables_1) => atoms_spec (ws := Jvm.Cond.code x code maxLocals ret :: tables_1) hat d (List.mem_cons_of_mem _ hd)
  have hfit : Fit s := fun {y c} hc i hi => by
    obtain ⟨ha, rfl⟩ := Array.getElem?_eq_some_iff.mp hc
    have q := List.all_eq_true.mp ((Array.all_eq_true_iff_forall_mem.mp hF) _ (Array.getElem_mem ha)) i (List.mem_range.mpr hi)
    simpa [Array.getElem?_eq_getElem hi] using q
  obtain ⟨i0, ei0⟩ := is_v ga0
  obtain rfl : w0 = (.int i0) := Option.some.inj ei0
  obtain ⟨i1, ei1⟩ := isL_v ga1
  obtain rfl : w1 = (.long i1) := Option.some.inj ei1
  obtain ⟨i2, ei2⟩ := isL_v ga2
  obtain rfl : w2 = (.long i2) := Option.some.inj ei2
  obtain ⟨i3, ei3⟩ := isL_v ga3
  obtain rfl : w3 = (.long i3) := Option.some.inj ei3
  obtain ⟨i4, ei4⟩ := isL_v ga4
  obtain rfl : w4 = (.long i4) := Option.some.inj ei4
  obtain ⟨n, o, h1, h2, h3, _, L, rfl, ⟨rfl, N⟩, hq⟩ := rm_law l s _ hw tables_1 i0 i1 i2 i3 i4  s.heap s.heap.size (Nat.le_refl _)  p e ha hc hk s m _ below hf ((Spec.applies_iff_loose hf).mp happ).1 ⟨rfl, State.Warmed39.refl s, rfl⟩ trivial
  refine ⟨n, _, h1, h2, h3, hpost _ _ _ _ _ _ ⟨Cond.after_iff.mpr rfl, Cond.after_iff.mpr (eq_i res_at (Term.int_eval (1)) rfl), trivial⟩ ⟨hq.1, hq.2.1, (hq.2.2.sift fun y hy => Or.inr (N y hy)).mono (by decide) (by decide)⟩⟩
theorem main_1_1 : Claimed_1_1 := comes_1 fun _ _ _ _ _ _ h hF => ⟨h.1, hF⟩
theorem main_1_2 : Claimed_1_2 := comes_1 fun _ _ _ _ _ _ h hF => ⟨h.2.1, hF⟩
end Jvm.Pilot.@@N@@
namespace Jvm.Pilot.@@N@@
open Jvm Jvm.ClassFile Sem Op Lib Jvm.Free Jvm.Stand Jvm.Pilot.@@N@@.Jvm.D
/-! MADE BY PROGRAM (witnessworld.py) out of the Statement's table words and the real class files: 11 classes; the members and pool entries that the words name. The judged class is class 1, her method 1. -/
namespace start1
open Jvm.ClassFile
def u (s : String) : CpInfo := .utf8 (stringToUtf16 s)
/-- a pool by its gaps: so many unusable entries, then the entry; so many at the end -/
def gap : Nat → List CpInfo → List CpInfo
  | 0, r => r
  | n + 1, r => .unusable :: gap n r
def poolList (es : List (Nat × CpInfo)) (last : Nat) : List CpInfo := es.foldr (fun e r => gap e.1 (e.2 :: r)) (gap last [])
def pool (es : List (Nat × CpInfo)) (last : Nat) : Array CpInfo := ⟨poolList es last⟩
def fileOf (pool : Array CpInfo) (this : Nat) (attrs : Array Attribute := #[]) (ms : Array MethodInfo := #[]) (fl : Nat := 33) (sup : Nat := 0) (ifs : Array Nat := #[]) (fds : Array FieldInfo := #[]) : ClassFile where
  minorVersion := 0
  majorVersion := 65
  constantPool := pool
  accessFlags := fl
  thisClass := this
  superClass := sup
  interfaces := ifs
  fields := fds
  methods := ms
  attributes := attrs
def plain (name : String) (sup : Option ClassId) : Class where
  name := name
  kind := .ordinary
  loader := none
  accessFlags := 33
  super := sup
  interfaces := #[]
  cf := none
  fields := #[]
  methods := #[]
  instanceTypes := #[]
  staticTypes := #[]
  resolved := #[]
  callSites := []
  init := .initialized
  statics := none
  mirror := none

def pool0 : Array CpInfo := pool [(5, u "<init>"), (0, u "()V"), (1, .class_ 10), (1, u "java/lang/Object")] 113

def k0m0 : Method := { name := "<init>", desc := "()V", sig := { parameters := [], returnType := none }, accessFlags := 1, code := none }
/-- java/lang/Object -/
def k0 : Class := { plain "java/lang/Object" none with
  accessFlags := 33
  interfaces := #[]
  cf := some (fileOf pool0 8 #[] #[{ accessFlags := 1, nameIndex := 5, descriptorIndex := 6, attributes := #[] }] 33 0 #[] #[])
  fields := #[]
  methods := #[k0m0]
  instanceTypes := #[]
  staticTypes := #[]
  resolved := Array.replicate 124 none
  statics := none }

def pool1 : Array CpInfo := pool [(2, .class_ 4), (1, u "java/lang/Object"), (0, u "<init>"), (0, u "()V"), (0, .methodref 8 9), (0, .class_ 10), (0, .nameAndType 11 12), (0, u "com/example/netloom/netloom/core/reachability/OmegaSetsOmegaCountPinLaw"), (0, u "pick"), (0, u "(IIJ)J"), (0, .methodref 8 14), (0, .nameAndType 15 16), (0, u "hit"), (0, u "(ZJ)I"), (0, .methodref 18 19), (0, .class_ 20), (0, .nameAndType 21 22), (0, u "com/example/netloom/netloom/core/reachability/OmegaSets"), (0, u "omegaCount"), (0, u "([J)I"), (2, .long 9223372036854775807), (3, u "law"), (0, u "(IJJJJ)Z")] 5

def k1m0 : Method := { name := "<init>", desc := "()V", sig := { parameters := [], returnType := none }, accessFlags := 1, code := none }
def k1c1 : Code := { maxStack := 4, maxLocals := 20, code := code, exceptionTable := #[], attributes := #[] }
def k1m1 : Method := { name := "law", desc := "(IJJJJ)Z", sig := { parameters := [.int, .long, .long, .long, .long], returnType := some .boolean }, accessFlags := 9, code := some k1c1 }
def k1c2 : Code := { maxStack := 2, maxLocals := 4, code := method_3_code, exceptionTable := #[], attributes := #[] }
def k1m2 : Method := { name := "pick", desc := "(IIJ)J", sig := { parameters := [.int, .int, .long], returnType := some .long }, accessFlags := 10, code := some k1c2 }
def k1c3 : Code := { maxStack := 4, maxLocals := 3, code := method_4_code, exceptionTable := #[], attributes := #[] }
def k1m3 : Method := { name := "hit", desc := "(ZJ)I", sig := { parameters := [.boolean, .long], returnType := some .int }, accessFlags := 10, code := some k1c3 }
/-- com/example/netloom/netloom/core/reachability/OmegaSetsOmegaCountPinLaw -/
def k1 : Class := { plain "com/example/netloom/netloom/core/reachability/OmegaSetsOmegaCountPinLaw" (some 0) with
  accessFlags := 49
  interfaces := #[]
  cf := some (fileOf pool1 8 #[] #[{ accessFlags := 1, nameIndex := 5, descriptorIndex := 6, attributes := #[] }, { accessFlags := 9, nameIndex := 29, descriptorIndex := 30, attributes := #[] }, { accessFlags := 10, nameIndex := 11, descriptorIndex := 12, attributes := #[] }, { accessFlags := 10, nameIndex := 15, descriptorIndex := 16, attributes := #[] }] 49 2 #[] #[])
  fields := #[]
  methods := #[k1m0, k1m1, k1m2, k1m3]
  instanceTypes := #[]
  staticTypes := #[]
  resolved := Array.replicate 36 none
  statics := none }

def pool2 : Array CpInfo := pool [(4, .class_ 6), (1, u "java/lang/Object"), (6, .class_ 15), (1, u "com/example/netloom/netloom/core/reachability/OmegaSets"), (0, u "byKey"), (0, u "Ljava/util/Map;"), (5, u "bySize"), (0, u "Ljava/util/List;"), (5, u "union"), (0, u "Ljava/util/BitSet;"), (4, u "earned"), (0, u "J"), (2, u "markings"), (0, u "Lcom/example/netloom/netloom/core/reachability/MarkingSet;"), (4, u "width"), (3, u "I"), (2, u "words"), (2, u "widened"), (0, u "[J"), (9, u "placeKeys"), (4, .long 9223372036854775807), (19, .class_ 93), (0, u "com/example/netloom/netloom/core/reachability/OmegaSets$OmegaSet"), (51, u "([J)I"), (66, u "OMEGA"), (1, u "ALLOWANCE"), (0, u "SEED"), (7, u "omegaCount")] 10

def k2c0 : Code := { maxStack := 4, maxLocals := 7, code := prog_70_method_2_code, exceptionTable := #[], attributes := #[] }
def k2m0 : Method := { name := "omegaCount", desc := "([J)I", sig := { parameters := [(.array .long)], returnType := some .int }, accessFlags := 8, code := some k2c0 }
/-- com/example/netloom/netloom/core/reachability/OmegaSets -/
def k2 : Class := { plain "com/example/netloom/netloom/core/reachability/OmegaSets" (some 0) with
  accessFlags := 32
  interfaces := #[]
  cf := some (fileOf pool2 13 #[.nestMembers #[92]] #[{ accessFlags := 8, nameIndex := 223, descriptorIndex := 145, attributes := #[] }] 32 4 #[] #[{ accessFlags := 24, nameIndex := 212, descriptorIndex := 37, attributes := #[] }, { accessFlags := 26, nameIndex := 214, descriptorIndex := 37, attributes := #[] }, { accessFlags := 26, nameIndex := 215, descriptorIndex := 37, attributes := #[] }, { accessFlags := 18, nameIndex := 40, descriptorIndex := 41, attributes := #[] }, { accessFlags := 18, nameIndex := 46, descriptorIndex := 50, attributes := #[] }, { accessFlags := 18, nameIndex := 53, descriptorIndex := 50, attributes := #[] }, { accessFlags := 18, nameIndex := 67, descriptorIndex := 57, attributes := #[] }, { accessFlags := 18, nameIndex := 16, descriptorIndex := 17, attributes := #[] }, { accessFlags := 18, nameIndex := 23, descriptorIndex := 24, attributes := #[] }, { accessFlags := 18, nameIndex := 30, descriptorIndex := 31, attributes := #[] }, { accessFlags := 2, nameIndex := 36, descriptorIndex := 37, attributes := #[] }, { accessFlags := 18, nameIndex := 56, descriptorIndex := 57, attributes := #[] }])
  fields := #[{ name := "OMEGA", type := .long, accessFlags := 24, slot := 0, constantValue := 0 }, { name := "ALLOWANCE", type := .long, accessFlags := 26, slot := 1, constantValue := 0 }, { name := "SEED", type := .long, accessFlags := 26, slot := 2, constantValue := 0 }, { name := "markings", type := (.object "com/example/netloom/netloom/core/reachability/MarkingSet"), accessFlags := 18, slot := 0, constantValue := 0 }, { name := "width", type := .int, accessFlags := 18, slot := 1, constantValue := 0 }, { name := "words", type := .int, accessFlags := 18, slot := 2, constantValue := 0 }, { name := "placeKeys", type := (.array .long), accessFlags := 18, slot := 3, constantValue := 0 }, { name := "byKey", type := (.object "java/util/Map"), accessFlags := 18, slot := 4, constantValue := 0 }, { name := "bySize", type := (.object "java/util/List"), accessFlags := 18, slot := 5, constantValue := 0 }, { name := "union", type := (.object "java/util/BitSet"), accessFlags := 18, slot := 6, constantValue := 0 }, { name := "earned", type := .long, accessFlags := 2, slot := 7, constantValue := 0 }, { name := "widened", type := (.array .long), accessFlags := 18, slot := 8, constantValue := 0 }]
  methods := #[k2m0]
  instanceTypes := #[(.object "com/example/netloom/netloom/core/reachability/MarkingSet"), .int, .int, (.array .long), (.object "java/util/Map"), (.object "java/util/List"), (.object "java/util/BitSet"), .long, (.array .long)]
  staticTypes := #[.long, .long, .long]
  resolved := Array.replicate 234 none
  statics := none }

def pool3 : Array CpInfo := pool [(1, u "java/lang/Cloneable"), (0, .class_ 1), (0, u "java/lang/Object"), (0, .class_ 3)] 3

/-- java/lang/Cloneable -/
def k3 : Class := { plain "java/lang/Cloneable" (some 0) with
  accessFlags := 1537
  interfaces := #[]
  cf := some (fileOf pool3 2 #[] #[] 1537 4 #[] #[])
  fields := #[]
  methods := #[]
  instanceTypes := #[]
  staticTypes := #[]
  resolved := Array.replicate 8 none
  statics := none }

def pool4 : Array CpInfo := pool [(1, u "java/io/Serializable"), (0, .class_ 1), (0, u "java/lang/Object"), (0, .class_ 3)] 3

/-- java/io/Serializable -/
def k4 : Class := { plain "java/io/Serializable" (some 0) with
  accessFlags := 1537
  interfaces := #[]
  cf := some (fileOf pool4 2 #[] #[] 1537 4 #[] #[])
  fields := #[]
  methods := #[]
  instanceTypes := #[]
  staticTypes := #[]
  resolved := Array.replicate 8 none
  statics := none }

/-- the primitive byte -/
def k5 : Class := { plain "byte" none with kind := .primitive 'B', accessFlags := 0x411 }
/-- [B -/
def k6 : Class := { plain "[B" (some 0) with kind := .array 5 .byte, interfaces := #[3, 4], accessFlags := 1041 }

/-- the primitive int -/
def k7 : Class := { plain "int" none with kind := .primitive 'I', accessFlags := 0x411 }
/-- [I -/
def k8 : Class := { plain "[I" (some 0) with kind := .array 7 .int, interfaces := #[3, 4], accessFlags := 1041 }

/-- the primitive long -/
def k9 : Class := { plain "long" none with kind := .primitive 'J', accessFlags := 0x411 }
/-- [J -/
def k10 : Class := { plain "[J" (some 0) with kind := .array 9 .long, interfaces := #[3, 4], accessFlags := 1041 }

def heap : Heap := #[]
def classes : Array Class := #[k0, k1, k2, k3, k4, k5, k6, k7, k8, k9, k10]
def interned : List (Array UInt16 × Addr) := []
def slotsUsed : Nat := 0
def theMethod : MethodId := ⟨1, 1⟩
def args0 : Array Value := #[.int 4, .long 5, .long 9, .long 7, .long 8]
def aboutOver (below : List Frame) : State where
  vm := { classes := classes, interned := interned.toArray }
  heap := heap
  slotsUsed := slotsUsed
  threads := #[{ frames := .invoking theMethod args0 :: below }]
def below0 : List Frame := [.native { method := ⟨0, 0⟩, args := #[] }]
def about1 : State := aboutOver below0
def p0 : Program := .bare "" "" ""
def e0 : Env := launch0.env 0 0 0
theorem w_frames : about1.frames = Frame.invoking theMethod args0 :: below0 := rfl
set_option maxRecDepth 65536 in
theorem w_args : argsFit about1.vm theMethod args0 = true := by decide +kernel
set_option maxRecDepth 65536 in
theorem w_heap : heapFits about1 = true := by decide +kernel
set_option maxRecDepth 65536 in
theorem w_runnable : about1.curStatus? = some .runnable := by decide +kernel
set_option maxRecDepth 65536 in
theorem w_alone : about1.alone = true := by decide +kernel
set_option maxRecDepth 65536 in
theorem w_named : about1.methodNamed? x = some theMethod := by decide +kernel
set_option maxRecDepth 65536 in
theorem w_hears : about1.hears theMethod below0 = true := by decide +kernel
set_option maxRecDepth 65536 in
theorem w_ripe : about1.ripe theMethod args0 below0 = true := by decide +kernel
theorem w_running : about1.status = .running := rfl
set_option maxRecDepth 65536 in
theorem w_room : about1.hasRoom e0.platform room_1 = true :=
  launch0.hasRoom_least _ room_1 (by decide +kernel) (by decide +kernel) (by decide +kernel) (by decide +kernel) (by decide +kernel) (by decide +kernel)
theorem allAtoms_all (ts : List Jvm.Cond) (a : Array Jvm.Value) (st : Jvm.State) : (allAtoms ts).before a st = ts.all (fun c => c.before a st) := by
  induction ts with
  | nil => rfl
  | cons c t ih =>
    show (Jvm.Cond.and c (allAtoms t)).before a st = _
    rw [Jvm.Cond.before_and, ih, List.all_cons]
def words1 : List Jvm.Cond := Jvm.Cond.code x code maxLocals ret :: tables_1
/-- a 'code' word, met by the world's own term for the bytes: nothing is compared byte by byte -/
theorem code_word {y : MethodName} {bytes : ByteArray} {mx : Nat} {rt : Option FieldType} {a : Array Value} {s : State} {m : MethodId} {meth : Method} {c : Code} (h1 : s.methodNamed? y = some m) (h2 : s.vm.method? m = some meth) (h3 : meth.code = some c) (h4 : c.code = bytes)
    (h5 : (c.maxLocals == mx && c.exceptionTable.isEmpty && decide (c.maxStack ≤ mostOperands) && decide (meth.sig.returnType = rt) && !meth.locks && decide (parseMethodDescriptor y.desc = some meth.sig)) = true) : (Jvm.Cond.code y bytes mx rt).before a s = true := by
  simp only [Bool.and_eq_true, beq_iff_eq, Bool.not_eq_true', decide_eq_true_eq] at h5
  obtain ⟨⟨⟨⟨⟨g1, g2⟩, g3⟩, g4⟩, g5⟩, g6⟩ := h5
  simp [Cond.before, Cond.holds, Cond.value, h1, h2, h3, h4, g1, g2, g3, g4, g5, g6]
def isCode : Jvm.Cond → Bool
  | .code _ _ _ _ => true
  | _ => false
theorem all_split {L : List Jvm.Cond} {P : Jvm.Cond → Bool} (h1 : L.all (fun c => isCode c || P c) = true) (h2 : ∀ c ∈ L.filter isCode, P c = true) : L.all P = true := by
  refine List.all_eq_true.mpr fun c hc => ?_
  have h := List.all_eq_true.mp h1 c hc
  rcases Bool.eq_false_or_eq_true (isCode c) with hi | hi
  · exact h2 c (List.mem_filter.mpr ⟨hc, hi⟩)
  · simpa [hi] using h
set_option maxRecDepth 65536 in
theorem w_c0 : (Jvm.Cond.code x code maxLocals ret).before args0 about1 = true := code_word (m := ⟨1, 1⟩) (meth := k1m1) (c := k1c1) (by decide +kernel) rfl rfl rfl (by decide +kernel)
set_option maxRecDepth 65536 in
theorem w_c1 : (Jvm.Cond.code ({ cls := "com/example/netloom/netloom/core/reachability/OmegaSetsOmegaCountPinLaw", name := "pick", desc := "(IIJ)J" } : Jvm.MethodName) method_3_code (4 : Nat) (Option.some Jvm.ClassFile.FieldType.long)).before args0 about1 = true := code_word (m := ⟨1, 2⟩) (meth := k1m2) (c := k1c2) (by decide +kernel) rfl rfl rfl (by decide +kernel)
set_option maxRecDepth 65536 in
theorem w_c2 : (Jvm.Cond.code ({ cls := "com/example/netloom/netloom/core/reachability/OmegaSetsOmegaCountPinLaw", name := "hit", desc := "(ZJ)I" } : Jvm.MethodName) method_4_code (3 : Nat) (Option.some Jvm.ClassFile.FieldType.int)).before args0 about1 = true := code_word (m := ⟨1, 3⟩) (meth := k1m3) (c := k1c3) (by decide +kernel) rfl rfl rfl (by decide +kernel)
set_option maxRecDepth 65536 in
theorem w_c3 : (Jvm.Cond.code ({ cls := "com/example/netloom/netloom/core/reachability/OmegaSets", name := "omegaCount", desc := "([J)I" } : Jvm.MethodName) prog_70_method_2_code (7 : Nat) (Option.some Jvm.ClassFile.FieldType.int)).before args0 about1 = true := code_word (m := ⟨2, 0⟩) (meth := k2m0) (c := k2c0) (by decide +kernel) rfl rfl rfl (by decide +kernel)
def codes1 : List Jvm.Cond := [Jvm.Cond.code x code maxLocals ret, Jvm.Cond.code ({ cls := "com/example/netloom/netloom/core/reachability/OmegaSetsOmegaCountPinLaw", name := "pick", desc := "(IIJ)J" } : Jvm.MethodName) method_3_code (4 : Nat) (Option.some Jvm.ClassFile.FieldType.long), Jvm.Cond.code ({ cls := "com/example/netloom/netloom/core/reachability/OmegaSetsOmegaCountPinLaw", name := "hit", desc := "(ZJ)I" } : Jvm.MethodName) method_4_code (3 : Nat) (Option.some Jvm.ClassFile.FieldType.int), Jvm.Cond.code ({ cls := "com/example/netloom/netloom/core/reachability/OmegaSets", name := "omegaCount", desc := "([J)I" } : Jvm.MethodName) prog_70_method_2_code (7 : Nat) (Option.some Jvm.ClassFile.FieldType.int)]
set_option maxRecDepth 65536 in
theorem codes_eq : words1.filter isCode = codes1 := rfl
theorem w_codes : ∀ c ∈ words1.filter isCode, c.before args0 about1 = true := by
  rw [codes_eq]
  intro c hc
  simp only [codes1, List.mem_cons, List.not_mem_nil, or_false] at hc
  rcases hc with rfl | rfl | rfl | rfl
  · exact w_c0
  · exact w_c1
  · exact w_c2
  · exact w_c3
set_option maxRecDepth 65536 in
theorem w_t1 : words1.all (fun c => isCode c || c.before args0 about1) = true := by decide +kernel
theorem w_tables : (allAtoms (Jvm.Cond.code x code maxLocals ret :: tables_1)).before args0 about1 = true := by
  rw [allAtoms_all]
  show words1.all (fun c => c.before args0 about1) = true
  refine all_split ?_ w_codes
  rw [w_t1]
set_option maxRecDepth 65536 in
theorem w_case : (Jvm.Cond.and given_1 narrow_1).before args0 about1 = true := by decide +kernel
theorem w_applies : (headSpec (Jvm.Cond.code x code maxLocals ret :: tables_1) room_1).applies x e0.platform about1 = true :=
  (Spec.applies_iff w_frames).mpr ⟨w_running, w_runnable, w_alone, w_named, w_hears, w_ripe, w_room, w_tables⟩
theorem atStart : AtStart classFile x code maxLocals ret World_1 tables_1 room_1 Calls_1 rest_1 Pre_1 launch0 p0 e0 about1 theMethod args0 below0 :=
  ⟨lists_1, trivial, launch0.admits_env _ _ _, launch0.least_env, fairChoices_fair.cas, fairChoices_fair.clock, w_frames, w_args, w_heap, w_applies, trivial, trivial, w_case⟩
end start1
theorem witness_1 : WitnessClaimed_1 := ⟨start1.p0, start1.e0, start1.about1, start1.theMethod, start1.args0, start1.below0, start1.atStart⟩
end Jvm.Pilot.@@N@@
