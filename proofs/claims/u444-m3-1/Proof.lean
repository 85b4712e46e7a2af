import JvmDerived
import JvmDerived.Pilot.@@N@@Statement
import JvmDerived.Pilot.@@N@@Code
set_option linter.unusedVariables false
set_option linter.unusedSimpArgs false
namespace Jvm.RoadKit
open Sem ClassFile Op Lib Jvm.Stand Jvm.Free Jvm.LawKit
section New
variable {p : Program} {l : Launch} {e : Env} {R : Room} {s : State} {m : MethodId} {args : Array Value} {below : List Frame} {meth : Method} {c : Code} {T : State} {locs : List Loc} {cells slots : Nat}
theorem retI (X : Stand p l e R s m args below meth c T locs cells slots) (hx : p.tables.exec = Jvm.exec) {pc : Nat} {Ls : Array Slot} {z : Int32} {rest : List Value} (hret : meth.sig.returnType = some .int) (hd : decode c.code pc = .ok (.ireturn, 1)) {fs : List Frame}
    (hl : ∀ (f : JFrame) (acts : List Action), f.method = m → f.locked = none → f.entered = [] → (doReturn e (T.setTop f) acts (some (.int z))).1 = T.setFrames fs) : Steps p.tables e below (T.setTop (mkF m pc Ls (.int z :: rest))) (T.setFrames fs) := by
  have hm' : T.vm.method? m = some meth := X.method'
  have hn : narrow .int (.int z) = .int z := rfl
  show Steps p.tables e below (T.setTop { method := m, pc := pc, locals := Ls, stack := _ :: rest, locked := none }) _
  jvm_step X.here [X.here.top, hx, hd, hm', hret, hn]
  first | (intro acts; rw [hl _ acts rfl rfl rfl]) | rw [hl _ _ rfl rfl rfl]
  exact Steps.refl _
end New
end Jvm.RoadKit
namespace Jvm.Pilot.@@N@@
open Jvm Jvm.ClassFile Sem Op Lib Jvm.Free Jvm.Stand Jvm.LawKit Jvm.RoadKit Bundle Jvm.Pilot.@@N@@.Jvm.D
theorem own_eqv {a : Term} {k : Int32} {args : Array Value} {s : State} (h : (Jvm.Cond.eq a (.int k)).value args s none s [] = some true) : a.eval args s none [] s = some (.int k) := by
  obtain ⟨x, y, hx, hy, -, kyx⟩ := cmp_v (Or.inl h)
  obtain rfl : y = .int k := by simpa [Term.eval] using hy.symm
  obtain ⟨z, rfl⟩ := kyx
  have e : z = k := by simpa [Cond.value, hx, Term.eval] using h
  rw [hx, e]
theorem own_eqvL {a : Term} {k : Int64} {args : Array Value} {s : State} (h : (Jvm.Cond.eq a (.long k)).value args s none s [] = some true) : a.eval args s none [] s = some (.long k) := by
  obtain ⟨x, y, hx, hy, -, kyx⟩ := cmp_v (Or.inl h)
  obtain rfl : y = .long k := by simpa [Term.eval] using hy.symm
  obtain ⟨z, rfl⟩ := kyx
  have e : z = k := by simpa [Cond.value, hx, Term.eval] using h
  rw [hx, e]
theorem own_ne {Z : State} {a b : Addr} {C n d : String} {i j : Int32} (h1 : Z.fieldOf? a C n d = some (.int i)) (h2 : Z.fieldOf? b C n d = some (.int j)) (hij : i ≠ j) : a ≠ b := fun e => by
  subst e
  rw [h1] at h2
  exact hij (Value.int.inj (Option.some.inj h2))
theorem own_pn0 : plainName "com/example/cogwell/cogwell/TransactionAttribute" = true := by first | (simp [plainName, overriddenIn]; done) | decide +kernel
theorem own_d_votes_0 : decode prog_29_method_5_code 0 = .ok (.aload_n 0, 1) := by decide +kernel
theorem own_d_votes_1 : decode prog_29_method_5_code 1 = .ok (.getstatic 16, 3) := by decide +kernel
theorem own_d_votes_4 : decode prog_29_method_5_code 4 = .ok (.if_acmp .eq 7, 3) := by decide +kernel
theorem own_d_votes_7 : decode prog_29_method_5_code 7 = .ok (.iconst 1, 1) := by decide +kernel
theorem own_d_votes_8 : decode prog_29_method_5_code 8 = .ok (.goto 4, 3) := by decide +kernel
theorem own_d_votes_11 : decode prog_29_method_5_code 11 = .ok (.iconst 0, 1) := by decide +kernel
theorem own_d_votes_12 : decode prog_29_method_5_code 12 = .ok (.ireturn, 1) := by decide +kernel
theorem own_ef_votes (m : MethodId) (a1 : Addr) : entryFrame m #[(.ref a1)] 1 = mkF m 0 #[.val (.ref a1)] [] := by first | (simp [entryFrame, mkF, argsToLocals, Value.category]; done) | rfl
def Q_votes (Z : State) (a1 : Addr) (d : Addr) (h0 : Heap) (n0 : Nat) (v : Option Value) (h : Heap) (L : List Loc) : Prop := v = some (.int (if a1 = d then (0 : Int32) else (1 : Int32))) ∧ Fr n0 L ∧ h = h0
set_option maxRecDepth 65536 in
set_option maxHeartbeats 40000000 in
theorem rm_votes (l : Launch) (Z : State) (a0 : Array Value) (hw : ∀ d ∈ tables_1, d.before a0 Z = true) (ws : List Jvm.Cond) (a1 : Addr) (d : Addr) (h0 : Heap) (n0 : Nat) (Z0 : n0 ≤ h0.size) (fS_TransactionAttribute_DISABLED : Sta Z h0 "com/example/cogwell/cogwell/TransactionAttribute" "DISABLED" "Lcom/example/cogwell/cogwell/TransactionAttribute;" (.ref d)) :
    MetFree l (⟨"com/example/cogwell/cogwell/TransactionAttribute", "votes", "()Z"⟩ : MethodName) (head1 (Jvm.Cond.code (⟨"com/example/cogwell/cogwell/TransactionAttribute", "votes", "()Z"⟩ : MethodName) prog_29_method_5_code 1 (some .boolean) :: ws) ({ frames := 0, cells := 0, slots := 0, locals := 0 } : Room)) (fun a U => a = #[(.ref a1)] ∧ Z.Warmed39 U.vm ∧ U.heap = h0) (fun _ _ _ _ _ => True) (fun _ U o U' => ∃ v L, o = .returned v ∧ Q_votes Z a1 d h0 n0 v U'.heap L ∧ FrameEnd U o U' L ({ frames := 0, cells := 0, slots := 0, locals := 0 } : Room).cells ({ frames := 0, cells := 0, slots := 0, locals := 0 } : Room).slots) := by
  refine MetFree.of_bodySF (plainFor_of_name own_pn0) hisR ?_
  intro p e s m args below meth c s₁ Bd hml0 hP hK
  obtain ⟨rfl, hZ, hh⟩ := hP
  have hx := Bd.exec
  have hby := Bd.bytes
  have hml : c.maxLocals = 1 := hml0
  have hown : s.vm.findClass "com/example/cogwell/cogwell/TransactionAttribute" = some m.cls := findClass_of_methodNamed Bd.named
  have hnm := (name_of_methodNamed Bd.named Bd.method).1
  have X0 : Stand p l e ({ frames := 0, cells := 0, slots := 0, locals := 0 } : Room) s m #[(.ref a1)] below meth c s₁ [] 0 0 := Stand.of_body Bd
  have e0 : s₁.heap = h0 := by rw [← hh, Bd.state]; rfl
  have N0 := Fr.nil n0
  have pre0 : ∀ t, Steps p.tables e below (s₁.setTop (mkF m 0 #[.val (.ref a1)] [])) t → Steps p.tables e below (s₁.setTop (entryFrame m #[(.ref a1)] 1)) t := fun t k => castTop (own_ef_votes m a1) k
  obtain ⟨T1, X1, e1, st1⟩ := getS2 X0 hx hZ hown (host := "") (Or.inl (hw _ (List.mem_of_getElem? (i := 9) rfl))) Via.refl e0 fS_TransactionAttribute_DISABLED (g := (mkF m 1 #[.val (.ref a1)] [(.ref a1)])) rfl (hb hby own_d_votes_1)
  have way2 : ∀ t, Steps p.tables e below (T1.setTop (mkF m 4 #[.val (.ref a1)] [(.ref d), (.ref a1)])) t → Steps p.tables e below (s₁.setTop (entryFrame m #[(.ref a1)] 1)) t := fun t k => pre0 t (by
    show Steps p.tables e below (s₁.setTop (mkF m 0 #[.val (.ref a1)] [])) _
    refine XS.aloadN X0.here hx rfl (hb hby own_d_votes_0) rfl rfl ?_
    show Steps p.tables e below (s₁.setTop (mkF m 1 #[.val (.ref a1)] [(.ref a1)])) _
    refine st1 _ ?_
    exact k)
  by_cases hc3 : a1 = d
  ·
    have way4 : ∀ t, Steps p.tables e below (T1.setTop (mkF m 12 #[.val (.ref a1)] [(.int (0 : Int32))])) t → Steps p.tables e below (s₁.setTop (entryFrame m #[(.ref a1)] 1)) t := fun t k => way2 t (by
      show Steps p.tables e below (T1.setTop (mkF m 4 #[.val (.ref a1)] [(.ref d), (.ref a1)])) _
      refine Jvm.RoadKit.acmp (g := (mkF m 4 #[.val (.ref a1)] [(.ref d), (.ref a1)])) X1 hx rfl rfl rfl (pc0 := 4) (pc' := 11) (same := true) rfl (hb hby own_d_votes_4) rfl (decide_eq_true (congrArg Value.ref hc3)) (by decide) (by decide) ?_
      show Steps p.tables e below (T1.setTop (mkF m 11 #[.val (.ref a1)] [])) _
      refine XS.iconst X1.here hx rfl (hb hby own_d_votes_11) ?_
      exact k)
    obtain ⟨fs, hr, hrun, hended, hW, hsame⟩ := X1.leave (v := some (.int (0 : Int32))) (fun h => by rw [Bd.returns] at h; cases h)
    refine ⟨_, _, way4 _ ?_, hrun, hended, _, _, rfl, ?_, ⟨_, rfl⟩, hW, hsame.mono (by decide) (by decide)⟩
    · show Steps p.tables e below (T1.setTop (mkF m 12 #[.val (.ref a1)] [(.int (0 : Int32))])) _
      exact retN X1 hx (t := .boolean) Bd.returns (by simp) (hb hby own_d_votes_12) hr
    · show Q_votes Z a1 d h0 n0 _ T1.heap _
      rw [e1]
      exact ⟨by simp [hc3], N0, rfl⟩
  ·
    have way5 : ∀ t, Steps p.tables e below (T1.setTop (mkF m 12 #[.val (.ref a1)] [(.int (1 : Int32))])) t → Steps p.tables e below (s₁.setTop (entryFrame m #[(.ref a1)] 1)) t := fun t k => way2 t (by
      show Steps p.tables e below (T1.setTop (mkF m 4 #[.val (.ref a1)] [(.ref d), (.ref a1)])) _
      refine Jvm.RoadKit.acmp (g := (mkF m 4 #[.val (.ref a1)] [(.ref d), (.ref a1)])) X1 hx rfl rfl rfl (pc0 := 4) (pc' := 7) (same := false) rfl (hb hby own_d_votes_4) rfl (decide_eq_false fun q => hc3 (Value.ref.inj q)) (by decide) (by decide) ?_
      show Steps p.tables e below (T1.setTop (mkF m 7 #[.val (.ref a1)] [])) _
      refine XS.iconst X1.here hx rfl (hb hby own_d_votes_7) ?_
      show Steps p.tables e below (T1.setTop (mkF m 8 #[.val (.ref a1)] [(.int (1 : Int32))])) _
      refine XS.goto X1.here hx rfl (pc0 := 8) (pc' := 12) rfl (hb hby own_d_votes_8) (by decide) (by decide) ?_
      exact k)
    obtain ⟨fs, hr, hrun, hended, hW, hsame⟩ := X1.leave (v := some (.int (1 : Int32))) (fun h => by rw [Bd.returns] at h; cases h)
    refine ⟨_, _, way5 _ ?_, hrun, hended, _, _, rfl, ?_, ⟨_, rfl⟩, hW, hsame.mono (by decide) (by decide)⟩
    · show Steps p.tables e below (T1.setTop (mkF m 12 #[.val (.ref a1)] [(.int (1 : Int32))])) _
      exact retN X1 hx (t := .boolean) Bd.returns (by simp) (hb hby own_d_votes_12) hr
    · show Q_votes Z a1 d h0 n0 _ T1.heap _
      rw [e1]
      exact ⟨by simp [hc3], N0, rfl⟩
theorem own_pn1 : plainName "com/example/cogwell/cogwell/TransactionAttributeVotesPinLaw" = true := by first | (simp [plainName, overriddenIn]; done) | decide +kernel
theorem own_pd2 : parseMethodDescriptor "()Z" = some ⟨[], some .boolean⟩ := by decide +kernel
theorem own_ef_law (m : MethodId) (p1 : Int32) : entryFrame m #[(.int p1)] maxLocals = mkF m 0 #[.val (.int p1), .unset, .unset, .unset] [] := by first | (simp [entryFrame, mkF, argsToLocals, Value.category, maxLocals]; done) | rfl
def Q_law (Z : State) (p1 : Int32) (r0 : Addr) (r1 : Addr) (r2 : Addr) (r3 : Addr) (r4 : Addr) (h0 : Heap) (n0 : Nat) (v : Option Value) (h : Heap) (L : List Loc) : Prop := v = some (.int (1 : Int32)) ∧ Fr n0 L
set_option maxRecDepth 65536 in
set_option maxHeartbeats 40000000 in
theorem rm_law (l : Launch) (Z : State) (a0 : Array Value) (hw : ∀ d ∈ tables_1, d.before a0 Z = true) (ws : List Jvm.Cond) (p1 : Int32) (r0 : Addr) (r1 : Addr) (r2 : Addr) (r3 : Addr) (r4 : Addr) (h0 : Heap) (n0 : Nat) (Z0 : n0 ≤ h0.size) (dn0 : ¬ (r0 = r4)) (dn1 : ¬ (r1 = r4)) (dn2 : ¬ (r2 = r4)) (dn3 : ¬ (r3 = r4)) (fS_TransactionAttribute_REQUIRED : Sta Z h0 "com/example/cogwell/cogwell/TransactionAttribute" "REQUIRED" "Lcom/example/cogwell/cogwell/TransactionAttribute;" (.ref r0)) (fS_TransactionAttribute_REQUIRES_NEW : Sta Z h0 "com/example/cogwell/cogwell/TransactionAttribute" "REQUIRES_NEW" "Lcom/example/cogwell/cogwell/TransactionAttribute;" (.ref r1)) (fS_TransactionAttribute_SUPPORTED : Sta Z h0 "com/example/cogwell/cogwell/TransactionAttribute" "SUPPORTED" "Lcom/example/cogwell/cogwell/TransactionAttribute;" (.ref r2)) (fS_TransactionAttribute_NOT_SUPPORTED : Sta Z h0 "com/example/cogwell/cogwell/TransactionAttribute" "NOT_SUPPORTED" "Lcom/example/cogwell/cogwell/TransactionAttribute;" (.ref r3)) (fS_TransactionAttribute_DISABLED : Sta Z h0 "com/example/cogwell/cogwell/TransactionAttribute" "DISABLED" "Lcom/example/cogwell/cogwell/TransactionAttribute;" (.ref r4)) (fE_r0 : Exa Z h0 r0 "com/example/cogwell/cogwell/TransactionAttribute") (fE_r1 : Exa Z h0 r1 "com/example/cogwell/cogwell/TransactionAttribute") (fE_r2 : Exa Z h0 r2 "com/example/cogwell/cogwell/TransactionAttribute") (fE_r3 : Exa Z h0 r3 "com/example/cogwell/cogwell/TransactionAttribute") (fE_r4 : Exa Z h0 r4 "com/example/cogwell/cogwell/TransactionAttribute") :
    MetFree l x (head1 (Jvm.Cond.code x code maxLocals ret :: ws) room_1) (fun a U => a = #[(.int p1)] ∧ Z.Warmed39 U.vm ∧ U.heap = h0) (fun _ _ _ _ _ => True) (fun _ U o U' => ∃ v L, o = .returned v ∧ Q_law Z p1 r0 r1 r2 r3 r4 h0 n0 v U'.heap L ∧ FrameEnd U o U' L room_1.cells room_1.slots) := by
  refine MetFree.of_bodySF (plainFor_of_name own_pn1) hisR ?_
  intro p e s m args below meth c s₁ Bd hml0 hP hK
  obtain ⟨rfl, hZ, hh⟩ := hP
  have hx := Bd.exec
  have hby := Bd.bytes
  have hml : c.maxLocals = 4 := hml0
  have hown : s.vm.findClass "com/example/cogwell/cogwell/TransactionAttributeVotesPinLaw" = some m.cls := findClass_of_methodNamed Bd.named
  have hnm := (name_of_methodNamed Bd.named Bd.method).1
  have X0 : Stand p l e room_1 s m #[(.int p1)] below meth c s₁ [] 0 0 := Stand.of_body Bd
  have e0 : s₁.heap = h0 := by rw [← hh, Bd.state]; rfl
  have N0 := Fr.nil n0
  have pre0 : ∀ t, Steps p.tables e below (s₁.setTop (mkF m 0 #[.val (.int p1), .unset, .unset, .unset] [])) t → Steps p.tables e below (s₁.setTop (entryFrame m #[(.int p1)] maxLocals)) t := fun t k => castTop (own_ef_law m p1) k
  have way1 : ∀ t, Steps p.tables e below (s₁.setTop (mkF m 6 #[.val (.int p1), .unset, .unset, .unset] [(.int ((p1 &&& (2147483647 : Int32)) % (5 : Int32)))])) t → Steps p.tables e below (s₁.setTop (entryFrame m #[(.int p1)] maxLocals)) t := fun t k => pre0 t (by
    show Steps p.tables e below (s₁.setTop (mkF m 0 #[.val (.int p1), .unset, .unset, .unset] [])) _
    refine XS.iloadN X0.here hx rfl (hb hby at_0) rfl ?_
    show Steps p.tables e below (s₁.setTop (mkF m 1 #[.val (.int p1), .unset, .unset, .unset] [(.int p1)])) _
    refine X0.ldcInt hx hown (mvT hZ (hw _ (List.mem_of_getElem? (i := 0) rfl))) (g := (mkF m 1 #[.val (.int p1), .unset, .unset, .unset] [(.int p1)])) rfl (hb hby at_1) _ ?_
    show Steps p.tables e below (s₁.setTop (mkF m 3 #[.val (.int p1), .unset, .unset, .unset] [(.int (2147483647 : Int32)), (.int p1)])) _
    refine XS.iand X0.here hx rfl (hb hby at_3) rfl ?_
    show Steps p.tables e below (s₁.setTop (mkF m 4 #[.val (.int p1), .unset, .unset, .unset] [(.int (p1 &&& (2147483647 : Int32)))])) _
    refine XS.iconst X0.here hx rfl (hb hby at_4) ?_
    show Steps p.tables e below (s₁.setTop (mkF m 5 #[.val (.int p1), .unset, .unset, .unset] [(.int (5 : Int32)), (.int (p1 &&& (2147483647 : Int32)))])) _
    refine iremM (g := (mkF m 5 #[.val (.int p1), .unset, .unset, .unset] [(.int (5 : Int32)), (.int (p1 &&& (2147483647 : Int32)))])) X0 hx rfl (hb hby at_5) rfl (by decide) ?_
    exact k)
  obtain ⟨u2, hu2⟩ : ∃ z : Int32, z = ((p1 &&& (2147483647 : Int32)) % (5 : Int32)) := ⟨_, rfl⟩
  rw [← hu2] at way1
  have way3 : ∀ t, Steps p.tables e below (s₁.setTop (mkF m 8 #[.val (.int p1), .val (.int u2), .unset, .unset] [(.int u2)])) t → Steps p.tables e below (s₁.setTop (entryFrame m #[(.int p1)] maxLocals)) t := fun t k => way1 t (by
    show Steps p.tables e below (s₁.setTop (mkF m 6 #[.val (.int p1), .unset, .unset, .unset] [(.int u2)])) _
    refine XS.istoreN X0.here hx rfl (hb hby at_6) rfl (l' := #[.val (.int p1), .val (.int u2), .unset, .unset]) rfl ?_
    show Steps p.tables e below (s₁.setTop (mkF m 7 #[.val (.int p1), .val (.int u2), .unset, .unset] [])) _
    refine XS.iloadN X0.here hx rfl (hb hby at_7) rfl ?_
    exact k)
  by_cases hc4 : u2 = (0 : Int32)
  ·
    obtain ⟨T5, X5, e5, st5⟩ := getS2 X0 hx hZ hown (host := "") (Or.inl (hw _ (List.mem_of_getElem? (i := 1) rfl))) Via.refl e0 fS_TransactionAttribute_REQUIRED (g := (mkF m 11 #[.val (.int p1), .val (.int u2), .unset, .unset] [])) rfl (hb hby at_11)
    obtain ⟨cq6, kq6, q6a, q6b, q6c⟩ := isOf hZ e5 fE_r0
    obtain ⟨_, _, ⟨T6, L6, k6, n6⟩, -, X6, ⟨Lc6, hQ6, l6, y6, z6⟩, st6⟩ := X5.virtualBack hx (y := (⟨"com/example/cogwell/cogwell/TransactionAttribute", "votes", "()Z"⟩ : MethodName)) (z := (⟨"com/example/cogwell/cogwell/TransactionAttribute", "votes", "()Z"⟩ : MethodName)) hown (mvT hZ (hw _ (List.mem_of_getElem? (i := 4) rfl))) (mvT hZ (hw _ (List.mem_of_getElem? (i := 5) rfl))) (notFace_of_selects (args := #[]) (mvT hZ (hw _ (List.mem_of_getElem? (i := 7) rfl)))) (mvT hZ (hw _ (List.mem_of_getElem? (i := 7) rfl))) (mvT hZ (hw _ (List.mem_of_getElem? (i := 6) rfl))) (by decide) (backOf (W := 0) (rm_votes l Z a0 hw [] r0 r4 h0 n0 Z0 fS_TransactionAttribute_DISABLED) hZ (hw _ (List.mem_of_getElem? (i := 8) rfl)) (hw _ (List.mem_of_getElem? (i := 2) rfl)) (by decide) (by decide)) q6a q6c (g := (mkF m 69 #[.val (.int p1), .val (.int u2), .val (.ref r0), .val (.int (1 : Int32))] [(.ref r0)])) rfl (by rw [hml]; rfl) (Steps.refl _) (argsL := []) (rest := []) (lenOf own_pd2 rfl) rfl (by show 2 * 0 + _ ≤ _; exact Nat.le_of_eq rfl) (hb hby at_69) (fun _ _ => ⟨rfl, e5, (by decide : 0 + 0 ≤ _), (by decide : 0 + 0 ≤ _)⟩)
    dsimp only [Pt.U, Pt.locs, Pt.cells, Pt.slots] at X6 l6 y6 z6 st6 hQ6
    subst l6 y6 z6
    obtain ⟨rfl, N6q, hh6⟩ := hQ6
    have N6 := Fr.app N0 N6q
    have way7 : ∀ t, Steps p.tables e below (T6.setTop (mkF m 81 #[.val (.int p1), .val (.int u2), .val (.ref r0), .val (.int (1 : Int32))] [(.int (1 : Int32))])) t → Steps p.tables e below (s₁.setTop (entryFrame m #[(.int p1)] maxLocals)) t := fun t k => way3 t (by
      show Steps p.tables e below (s₁.setTop (mkF m 8 #[.val (.int p1), .val (.int u2), .unset, .unset] [(.int u2)])) _
      refine XS.ifNo X0.here hx rfl (hb hby at_8) rfl ((if0 _ _).trans (teq hc4).2) ?_
      show Steps p.tables e below (s₁.setTop (mkF m 11 #[.val (.int p1), .val (.int u2), .unset, .unset] [])) _
      refine st5 _ ?_
      show Steps p.tables e below (T5.setTop (mkF m 14 #[.val (.int p1), .val (.int u2), .unset, .unset] [(.ref r0)])) _
      refine XS.astoreN X5.here hx rfl (hb hby at_14) rfl rfl (l' := #[.val (.int p1), .val (.int u2), .val (.ref r0), .unset]) rfl ?_
      show Steps p.tables e below (T5.setTop (mkF m 15 #[.val (.int p1), .val (.int u2), .val (.ref r0), .unset] [])) _
      refine XS.iconst X5.here hx rfl (hb hby at_15) ?_
      show Steps p.tables e below (T5.setTop (mkF m 16 #[.val (.int p1), .val (.int u2), .val (.ref r0), .unset] [(.int (1 : Int32))])) _
      refine XS.istoreN X5.here hx rfl (hb hby at_16) rfl (l' := #[.val (.int p1), .val (.int u2), .val (.ref r0), .val (.int (1 : Int32))]) rfl ?_
      show Steps p.tables e below (T5.setTop (mkF m 17 #[.val (.int p1), .val (.int u2), .val (.ref r0), .val (.int (1 : Int32))] [])) _
      refine XS.goto X5.here hx rfl (pc0 := 17) (pc' := 68) rfl (hb hby at_17) (by decide) (by decide) ?_
      show Steps p.tables e below (T5.setTop (mkF m 68 #[.val (.int p1), .val (.int u2), .val (.ref r0), .val (.int (1 : Int32))] [])) _
      refine XS.aloadN X5.here hx rfl (hb hby at_68) rfl rfl ?_
      show Steps p.tables e below (T5.setTop (mkF m 69 #[.val (.int p1), .val (.int u2), .val (.ref r0), .val (.int (1 : Int32))] [(.ref r0)])) _
      refine st6.trans ?_
      show Steps p.tables e below (T6.setTop (mkF m 72 #[.val (.int p1), .val (.int u2), .val (.ref r0), .val (.int (1 : Int32))] [(.int (if r0 = r4 then (0 : Int32) else (1 : Int32)))])) _
      refine XS.iloadN X6.here hx rfl (hb hby at_72) rfl ?_
      show Steps p.tables e below (T6.setTop (mkF m 73 #[.val (.int p1), .val (.int u2), .val (.ref r0), .val (.int (1 : Int32))] [(.int (1 : Int32)), (.int (if r0 = r4 then (0 : Int32) else (1 : Int32)))])) _
      refine XS.icmpNo X6.here hx rfl (hb hby at_73) rfl (teq (if_neg dn0)).2 ?_
      show Steps p.tables e below (T6.setTop (mkF m 76 #[.val (.int p1), .val (.int u2), .val (.ref r0), .val (.int (1 : Int32))] [])) _
      refine XS.iconst X6.here hx rfl (hb hby at_76) ?_
      show Steps p.tables e below (T6.setTop (mkF m 77 #[.val (.int p1), .val (.int u2), .val (.ref r0), .val (.int (1 : Int32))] [(.int (1 : Int32))])) _
      refine XS.goto X6.here hx rfl (pc0 := 77) (pc' := 81) rfl (hb hby at_77) (by decide) (by decide) ?_
      exact k)
    obtain ⟨fs, hr, hrun, hended, hW, hsame⟩ := X6.leave (v := some (.int (1 : Int32))) (fun h => by rw [Bd.returns] at h; cases h)
    refine ⟨_, _, way7 _ ?_, hrun, hended, _, _, rfl, ?_, ⟨_, rfl⟩, hW, hsame.mono (by decide) (by decide)⟩
    · show Steps p.tables e below (T6.setTop (mkF m 81 #[.val (.int p1), .val (.int u2), .val (.ref r0), .val (.int (1 : Int32))] [(.int (1 : Int32))])) _
      exact retN X6 hx (t := .boolean) Bd.returns (by simp) (hb hby at_81) hr
    · show Q_law Z p1 r0 r1 r2 r3 r4 h0 n0 _ T6.heap _
      rw [hh6]
      exact ⟨rfl, N6⟩
  ·
    have way8 : ∀ t, Steps p.tables e below (s₁.setTop (mkF m 22 #[.val (.int p1), .val (.int u2), .unset, .unset] [(.int (1 : Int32)), (.int u2)])) t → Steps p.tables e below (s₁.setTop (entryFrame m #[(.int p1)] maxLocals)) t := fun t k => way3 t (by
      show Steps p.tables e below (s₁.setTop (mkF m 8 #[.val (.int p1), .val (.int u2), .unset, .unset] [(.int u2)])) _
      refine XS.ifYes X0.here hx rfl (pc0 := 8) (pc' := 20) rfl (hb hby at_8) rfl ((if0 _ _).trans (feq hc4).2) (by decide) (by decide) ?_
      show Steps p.tables e below (s₁.setTop (mkF m 20 #[.val (.int p1), .val (.int u2), .unset, .unset] [])) _
      refine XS.iloadN X0.here hx rfl (hb hby at_20) rfl ?_
      show Steps p.tables e below (s₁.setTop (mkF m 21 #[.val (.int p1), .val (.int u2), .unset, .unset] [(.int u2)])) _
      refine XS.iconst X0.here hx rfl (hb hby at_21) ?_
      exact k)
    by_cases hc9 : u2 = (1 : Int32)
    ·
      obtain ⟨T10, X10, e10, st10⟩ := getS2 X0 hx hZ hown (host := "") (Or.inl (hw _ (List.mem_of_getElem? (i := 13) rfl))) Via.refl e0 fS_TransactionAttribute_REQUIRES_NEW (g := (mkF m 25 #[.val (.int p1), .val (.int u2), .unset, .unset] [])) rfl (hb hby at_25)
      obtain ⟨cq11, kq11, q11a, q11b, q11c⟩ := isOf hZ e10 fE_r1
      obtain ⟨_, _, ⟨T11, L11, k11, n11⟩, -, X11, ⟨Lc11, hQ11, l11, y11, z11⟩, st11⟩ := X10.virtualBack hx (y := (⟨"com/example/cogwell/cogwell/TransactionAttribute", "votes", "()Z"⟩ : MethodName)) (z := (⟨"com/example/cogwell/cogwell/TransactionAttribute", "votes", "()Z"⟩ : MethodName)) hown (mvT hZ (hw _ (List.mem_of_getElem? (i := 4) rfl))) (mvT hZ (hw _ (List.mem_of_getElem? (i := 5) rfl))) (notFace_of_selects (args := #[]) (mvT hZ (hw _ (List.mem_of_getElem? (i := 7) rfl)))) (mvT hZ (hw _ (List.mem_of_getElem? (i := 7) rfl))) (mvT hZ (hw _ (List.mem_of_getElem? (i := 6) rfl))) (by decide) (backOf (W := 0) (rm_votes l Z a0 hw [] r1 r4 h0 n0 Z0 fS_TransactionAttribute_DISABLED) hZ (hw _ (List.mem_of_getElem? (i := 8) rfl)) (hw _ (List.mem_of_getElem? (i := 2) rfl)) (by decide) (by decide)) q11a q11c (g := (mkF m 69 #[.val (.int p1), .val (.int u2), .val (.ref r1), .val (.int (1 : Int32))] [(.ref r1)])) rfl (by rw [hml]; rfl) (Steps.refl _) (argsL := []) (rest := []) (lenOf own_pd2 rfl) rfl (by show 2 * 0 + _ ≤ _; exact Nat.le_of_eq rfl) (hb hby at_69) (fun _ _ => ⟨rfl, e10, (by decide : 0 + 0 ≤ _), (by decide : 0 + 0 ≤ _)⟩)
      dsimp only [Pt.U, Pt.locs, Pt.cells, Pt.slots] at X11 l11 y11 z11 st11 hQ11
      subst l11 y11 z11
      obtain ⟨rfl, N11q, hh11⟩ := hQ11
      have N11 := Fr.app N0 N11q
      have way12 : ∀ t, Steps p.tables e below (T11.setTop (mkF m 81 #[.val (.int p1), .val (.int u2), .val (.ref r1), .val (.int (1 : Int32))] [(.int (1 : Int32))])) t → Steps p.tables e below (s₁.setTop (entryFrame m #[(.int p1)] maxLocals)) t := fun t k => way8 t (by
        show Steps p.tables e below (s₁.setTop (mkF m 22 #[.val (.int p1), .val (.int u2), .unset, .unset] [(.int (1 : Int32)), (.int u2)])) _
        refine XS.icmpNo X0.here hx rfl (hb hby at_22) rfl (teq hc9).2 ?_
        show Steps p.tables e below (s₁.setTop (mkF m 25 #[.val (.int p1), .val (.int u2), .unset, .unset] [])) _
        refine st10 _ ?_
        show Steps p.tables e below (T10.setTop (mkF m 28 #[.val (.int p1), .val (.int u2), .unset, .unset] [(.ref r1)])) _
        refine XS.astoreN X10.here hx rfl (hb hby at_28) rfl rfl (l' := #[.val (.int p1), .val (.int u2), .val (.ref r1), .unset]) rfl ?_
        show Steps p.tables e below (T10.setTop (mkF m 29 #[.val (.int p1), .val (.int u2), .val (.ref r1), .unset] [])) _
        refine XS.iconst X10.here hx rfl (hb hby at_29) ?_
        show Steps p.tables e below (T10.setTop (mkF m 30 #[.val (.int p1), .val (.int u2), .val (.ref r1), .unset] [(.int (1 : Int32))])) _
        refine XS.istoreN X10.here hx rfl (hb hby at_30) rfl (l' := #[.val (.int p1), .val (.int u2), .val (.ref r1), .val (.int (1 : Int32))]) rfl ?_
        show Steps p.tables e below (T10.setTop (mkF m 31 #[.val (.int p1), .val (.int u2), .val (.ref r1), .val (.int (1 : Int32))] [])) _
        refine XS.goto X10.here hx rfl (pc0 := 31) (pc' := 68) rfl (hb hby at_31) (by decide) (by decide) ?_
        show Steps p.tables e below (T10.setTop (mkF m 68 #[.val (.int p1), .val (.int u2), .val (.ref r1), .val (.int (1 : Int32))] [])) _
        refine XS.aloadN X10.here hx rfl (hb hby at_68) rfl rfl ?_
        show Steps p.tables e below (T10.setTop (mkF m 69 #[.val (.int p1), .val (.int u2), .val (.ref r1), .val (.int (1 : Int32))] [(.ref r1)])) _
        refine st11.trans ?_
        show Steps p.tables e below (T11.setTop (mkF m 72 #[.val (.int p1), .val (.int u2), .val (.ref r1), .val (.int (1 : Int32))] [(.int (if r1 = r4 then (0 : Int32) else (1 : Int32)))])) _
        refine XS.iloadN X11.here hx rfl (hb hby at_72) rfl ?_
        show Steps p.tables e below (T11.setTop (mkF m 73 #[.val (.int p1), .val (.int u2), .val (.ref r1), .val (.int (1 : Int32))] [(.int (1 : Int32)), (.int (if r1 = r4 then (0 : Int32) else (1 : Int32)))])) _
        refine XS.icmpNo X11.here hx rfl (hb hby at_73) rfl (teq (if_neg dn1)).2 ?_
        show Steps p.tables e below (T11.setTop (mkF m 76 #[.val (.int p1), .val (.int u2), .val (.ref r1), .val (.int (1 : Int32))] [])) _
        refine XS.iconst X11.here hx rfl (hb hby at_76) ?_
        show Steps p.tables e below (T11.setTop (mkF m 77 #[.val (.int p1), .val (.int u2), .val (.ref r1), .val (.int (1 : Int32))] [(.int (1 : Int32))])) _
        refine XS.goto X11.here hx rfl (pc0 := 77) (pc' := 81) rfl (hb hby at_77) (by decide) (by decide) ?_
        exact k)
      obtain ⟨fs, hr, hrun, hended, hW, hsame⟩ := X11.leave (v := some (.int (1 : Int32))) (fun h => by rw [Bd.returns] at h; cases h)
      refine ⟨_, _, way12 _ ?_, hrun, hended, _, _, rfl, ?_, ⟨_, rfl⟩, hW, hsame.mono (by decide) (by decide)⟩
      · show Steps p.tables e below (T11.setTop (mkF m 81 #[.val (.int p1), .val (.int u2), .val (.ref r1), .val (.int (1 : Int32))] [(.int (1 : Int32))])) _
        exact retN X11 hx (t := .boolean) Bd.returns (by simp) (hb hby at_81) hr
      · show Q_law Z p1 r0 r1 r2 r3 r4 h0 n0 _ T11.heap _
        rw [hh11]
        exact ⟨rfl, N11⟩
    ·
      have way13 : ∀ t, Steps p.tables e below (s₁.setTop (mkF m 36 #[.val (.int p1), .val (.int u2), .unset, .unset] [(.int (2 : Int32)), (.int u2)])) t → Steps p.tables e below (s₁.setTop (entryFrame m #[(.int p1)] maxLocals)) t := fun t k => way8 t (by
        show Steps p.tables e below (s₁.setTop (mkF m 22 #[.val (.int p1), .val (.int u2), .unset, .unset] [(.int (1 : Int32)), (.int u2)])) _
        refine XS.icmpYes X0.here hx rfl (pc0 := 22) (pc' := 34) rfl (hb hby at_22) rfl (feq hc9).2 (by decide) (by decide) ?_
        show Steps p.tables e below (s₁.setTop (mkF m 34 #[.val (.int p1), .val (.int u2), .unset, .unset] [])) _
        refine XS.iloadN X0.here hx rfl (hb hby at_34) rfl ?_
        show Steps p.tables e below (s₁.setTop (mkF m 35 #[.val (.int p1), .val (.int u2), .unset, .unset] [(.int u2)])) _
        refine XS.iconst X0.here hx rfl (hb hby at_35) ?_
        exact k)
      by_cases hc14 : u2 = (2 : Int32)
      ·
        obtain ⟨T15, X15, e15, st15⟩ := getS2 X0 hx hZ hown (host := "") (Or.inl (hw _ (List.mem_of_getElem? (i := 16) rfl))) Via.refl e0 fS_TransactionAttribute_SUPPORTED (g := (mkF m 39 #[.val (.int p1), .val (.int u2), .unset, .unset] [])) rfl (hb hby at_39)
        obtain ⟨cq16, kq16, q16a, q16b, q16c⟩ := isOf hZ e15 fE_r2
        obtain ⟨_, _, ⟨T16, L16, k16, n16⟩, -, X16, ⟨Lc16, hQ16, l16, y16, z16⟩, st16⟩ := X15.virtualBack hx (y := (⟨"com/example/cogwell/cogwell/TransactionAttribute", "votes", "()Z"⟩ : MethodName)) (z := (⟨"com/example/cogwell/cogwell/TransactionAttribute", "votes", "()Z"⟩ : MethodName)) hown (mvT hZ (hw _ (List.mem_of_getElem? (i := 4) rfl))) (mvT hZ (hw _ (List.mem_of_getElem? (i := 5) rfl))) (notFace_of_selects (args := #[]) (mvT hZ (hw _ (List.mem_of_getElem? (i := 7) rfl)))) (mvT hZ (hw _ (List.mem_of_getElem? (i := 7) rfl))) (mvT hZ (hw _ (List.mem_of_getElem? (i := 6) rfl))) (by decide) (backOf (W := 0) (rm_votes l Z a0 hw [] r2 r4 h0 n0 Z0 fS_TransactionAttribute_DISABLED) hZ (hw _ (List.mem_of_getElem? (i := 8) rfl)) (hw _ (List.mem_of_getElem? (i := 2) rfl)) (by decide) (by decide)) q16a q16c (g := (mkF m 69 #[.val (.int p1), .val (.int u2), .val (.ref r2), .val (.int (1 : Int32))] [(.ref r2)])) rfl (by rw [hml]; rfl) (Steps.refl _) (argsL := []) (rest := []) (lenOf own_pd2 rfl) rfl (by show 2 * 0 + _ ≤ _; exact Nat.le_of_eq rfl) (hb hby at_69) (fun _ _ => ⟨rfl, e15, (by decide : 0 + 0 ≤ _), (by decide : 0 + 0 ≤ _)⟩)
        dsimp only [Pt.U, Pt.locs, Pt.cells, Pt.slots] at X16 l16 y16 z16 st16 hQ16
        subst l16 y16 z16
        obtain ⟨rfl, N16q, hh16⟩ := hQ16
        have N16 := Fr.app N0 N16q
        have way17 : ∀ t, Steps p.tables e below (T16.setTop (mkF m 81 #[.val (.int p1), .val (.int u2), .val (.ref r2), .val (.int (1 : Int32))] [(.int (1 : Int32))])) t → Steps p.tables e below (s₁.setTop (entryFrame m #[(.int p1)] maxLocals)) t := fun t k => way13 t (by
          show Steps p.tables e below (s₁.setTop (mkF m 36 #[.val (.int p1), .val (.int u2), .unset, .unset] [(.int (2 : Int32)), (.int u2)])) _
          refine XS.icmpNo X0.here hx rfl (hb hby at_36) rfl (teq hc14).2 ?_
          show Steps p.tables e below (s₁.setTop (mkF m 39 #[.val (.int p1), .val (.int u2), .unset, .unset] [])) _
          refine st15 _ ?_
          show Steps p.tables e below (T15.setTop (mkF m 42 #[.val (.int p1), .val (.int u2), .unset, .unset] [(.ref r2)])) _
          refine XS.astoreN X15.here hx rfl (hb hby at_42) rfl rfl (l' := #[.val (.int p1), .val (.int u2), .val (.ref r2), .unset]) rfl ?_
          show Steps p.tables e below (T15.setTop (mkF m 43 #[.val (.int p1), .val (.int u2), .val (.ref r2), .unset] [])) _
          refine XS.iconst X15.here hx rfl (hb hby at_43) ?_
          show Steps p.tables e below (T15.setTop (mkF m 44 #[.val (.int p1), .val (.int u2), .val (.ref r2), .unset] [(.int (1 : Int32))])) _
          refine XS.istoreN X15.here hx rfl (hb hby at_44) rfl (l' := #[.val (.int p1), .val (.int u2), .val (.ref r2), .val (.int (1 : Int32))]) rfl ?_
          show Steps p.tables e below (T15.setTop (mkF m 45 #[.val (.int p1), .val (.int u2), .val (.ref r2), .val (.int (1 : Int32))] [])) _
          refine XS.goto X15.here hx rfl (pc0 := 45) (pc' := 68) rfl (hb hby at_45) (by decide) (by decide) ?_
          show Steps p.tables e below (T15.setTop (mkF m 68 #[.val (.int p1), .val (.int u2), .val (.ref r2), .val (.int (1 : Int32))] [])) _
          refine XS.aloadN X15.here hx rfl (hb hby at_68) rfl rfl ?_
          show Steps p.tables e below (T15.setTop (mkF m 69 #[.val (.int p1), .val (.int u2), .val (.ref r2), .val (.int (1 : Int32))] [(.ref r2)])) _
          refine st16.trans ?_
          show Steps p.tables e below (T16.setTop (mkF m 72 #[.val (.int p1), .val (.int u2), .val (.ref r2), .val (.int (1 : Int32))] [(.int (if r2 = r4 then (0 : Int32) else (1 : Int32)))])) _
          refine XS.iloadN X16.here hx rfl (hb hby at_72) rfl ?_
          show Steps p.tables e below (T16.setTop (mkF m 73 #[.val (.int p1), .val (.int u2), .val (.ref r2), .val (.int (1 : Int32))] [(.int (1 : Int32)), (.int (if r2 = r4 then (0 : Int32) else (1 : Int32)))])) _
          refine XS.icmpNo X16.here hx rfl (hb hby at_73) rfl (teq (if_neg dn2)).2 ?_
          show Steps p.tables e below (T16.setTop (mkF m 76 #[.val (.int p1), .val (.int u2), .val (.ref r2), .val (.int (1 : Int32))] [])) _
          refine XS.iconst X16.here hx rfl (hb hby at_76) ?_
          show Steps p.tables e below (T16.setTop (mkF m 77 #[.val (.int p1), .val (.int u2), .val (.ref r2), .val (.int (1 : Int32))] [(.int (1 : Int32))])) _
          refine XS.goto X16.here hx rfl (pc0 := 77) (pc' := 81) rfl (hb hby at_77) (by decide) (by decide) ?_
          exact k)
        obtain ⟨fs, hr, hrun, hended, hW, hsame⟩ := X16.leave (v := some (.int (1 : Int32))) (fun h => by rw [Bd.returns] at h; cases h)
        refine ⟨_, _, way17 _ ?_, hrun, hended, _, _, rfl, ?_, ⟨_, rfl⟩, hW, hsame.mono (by decide) (by decide)⟩
        · show Steps p.tables e below (T16.setTop (mkF m 81 #[.val (.int p1), .val (.int u2), .val (.ref r2), .val (.int (1 : Int32))] [(.int (1 : Int32))])) _
          exact retN X16 hx (t := .boolean) Bd.returns (by simp) (hb hby at_81) hr
        · show Q_law Z p1 r0 r1 r2 r3 r4 h0 n0 _ T16.heap _
          rw [hh16]
          exact ⟨rfl, N16⟩
      ·
        have way18 : ∀ t, Steps p.tables e below (s₁.setTop (mkF m 50 #[.val (.int p1), .val (.int u2), .unset, .unset] [(.int (3 : Int32)), (.int u2)])) t → Steps p.tables e below (s₁.setTop (entryFrame m #[(.int p1)] maxLocals)) t := fun t k => way13 t (by
          show Steps p.tables e below (s₁.setTop (mkF m 36 #[.val (.int p1), .val (.int u2), .unset, .unset] [(.int (2 : Int32)), (.int u2)])) _
          refine XS.icmpYes X0.here hx rfl (pc0 := 36) (pc' := 48) rfl (hb hby at_36) rfl (feq hc14).2 (by decide) (by decide) ?_
          show Steps p.tables e below (s₁.setTop (mkF m 48 #[.val (.int p1), .val (.int u2), .unset, .unset] [])) _
          refine XS.iloadN X0.here hx rfl (hb hby at_48) rfl ?_
          show Steps p.tables e below (s₁.setTop (mkF m 49 #[.val (.int p1), .val (.int u2), .unset, .unset] [(.int u2)])) _
          refine XS.iconst X0.here hx rfl (hb hby at_49) ?_
          exact k)
        by_cases hc19 : u2 = (3 : Int32)
        ·
          obtain ⟨T20, X20, e20, st20⟩ := getS2 X0 hx hZ hown (host := "") (Or.inl (hw _ (List.mem_of_getElem? (i := 11) rfl))) Via.refl e0 fS_TransactionAttribute_NOT_SUPPORTED (g := (mkF m 53 #[.val (.int p1), .val (.int u2), .unset, .unset] [])) rfl (hb hby at_53)
          obtain ⟨cq21, kq21, q21a, q21b, q21c⟩ := isOf hZ e20 fE_r3
          obtain ⟨_, _, ⟨T21, L21, k21, n21⟩, -, X21, ⟨Lc21, hQ21, l21, y21, z21⟩, st21⟩ := X20.virtualBack hx (y := (⟨"com/example/cogwell/cogwell/TransactionAttribute", "votes", "()Z"⟩ : MethodName)) (z := (⟨"com/example/cogwell/cogwell/TransactionAttribute", "votes", "()Z"⟩ : MethodName)) hown (mvT hZ (hw _ (List.mem_of_getElem? (i := 4) rfl))) (mvT hZ (hw _ (List.mem_of_getElem? (i := 5) rfl))) (notFace_of_selects (args := #[]) (mvT hZ (hw _ (List.mem_of_getElem? (i := 7) rfl)))) (mvT hZ (hw _ (List.mem_of_getElem? (i := 7) rfl))) (mvT hZ (hw _ (List.mem_of_getElem? (i := 6) rfl))) (by decide) (backOf (W := 0) (rm_votes l Z a0 hw [] r3 r4 h0 n0 Z0 fS_TransactionAttribute_DISABLED) hZ (hw _ (List.mem_of_getElem? (i := 8) rfl)) (hw _ (List.mem_of_getElem? (i := 2) rfl)) (by decide) (by decide)) q21a q21c (g := (mkF m 69 #[.val (.int p1), .val (.int u2), .val (.ref r3), .val (.int (1 : Int32))] [(.ref r3)])) rfl (by rw [hml]; rfl) (Steps.refl _) (argsL := []) (rest := []) (lenOf own_pd2 rfl) rfl (by show 2 * 0 + _ ≤ _; exact Nat.le_of_eq rfl) (hb hby at_69) (fun _ _ => ⟨rfl, e20, (by decide : 0 + 0 ≤ _), (by decide : 0 + 0 ≤ _)⟩)
          dsimp only [Pt.U, Pt.locs, Pt.cells, Pt.slots] at X21 l21 y21 z21 st21 hQ21
          subst l21 y21 z21
          obtain ⟨rfl, N21q, hh21⟩ := hQ21
          have N21 := Fr.app N0 N21q
          have way22 : ∀ t, Steps p.tables e below (T21.setTop (mkF m 81 #[.val (.int p1), .val (.int u2), .val (.ref r3), .val (.int (1 : Int32))] [(.int (1 : Int32))])) t → Steps p.tables e below (s₁.setTop (entryFrame m #[(.int p1)] maxLocals)) t := fun t k => way18 t (by
            show Steps p.tables e below (s₁.setTop (mkF m 50 #[.val (.int p1), .val (.int u2), .unset, .unset] [(.int (3 : Int32)), (.int u2)])) _
            refine XS.icmpNo X0.here hx rfl (hb hby at_50) rfl (teq hc19).2 ?_
            show Steps p.tables e below (s₁.setTop (mkF m 53 #[.val (.int p1), .val (.int u2), .unset, .unset] [])) _
            refine st20 _ ?_
            show Steps p.tables e below (T20.setTop (mkF m 56 #[.val (.int p1), .val (.int u2), .unset, .unset] [(.ref r3)])) _
            refine XS.astoreN X20.here hx rfl (hb hby at_56) rfl rfl (l' := #[.val (.int p1), .val (.int u2), .val (.ref r3), .unset]) rfl ?_
            show Steps p.tables e below (T20.setTop (mkF m 57 #[.val (.int p1), .val (.int u2), .val (.ref r3), .unset] [])) _
            refine XS.iconst X20.here hx rfl (hb hby at_57) ?_
            show Steps p.tables e below (T20.setTop (mkF m 58 #[.val (.int p1), .val (.int u2), .val (.ref r3), .unset] [(.int (1 : Int32))])) _
            refine XS.istoreN X20.here hx rfl (hb hby at_58) rfl (l' := #[.val (.int p1), .val (.int u2), .val (.ref r3), .val (.int (1 : Int32))]) rfl ?_
            show Steps p.tables e below (T20.setTop (mkF m 59 #[.val (.int p1), .val (.int u2), .val (.ref r3), .val (.int (1 : Int32))] [])) _
            refine XS.goto X20.here hx rfl (pc0 := 59) (pc' := 68) rfl (hb hby at_59) (by decide) (by decide) ?_
            show Steps p.tables e below (T20.setTop (mkF m 68 #[.val (.int p1), .val (.int u2), .val (.ref r3), .val (.int (1 : Int32))] [])) _
            refine XS.aloadN X20.here hx rfl (hb hby at_68) rfl rfl ?_
            show Steps p.tables e below (T20.setTop (mkF m 69 #[.val (.int p1), .val (.int u2), .val (.ref r3), .val (.int (1 : Int32))] [(.ref r3)])) _
            refine st21.trans ?_
            show Steps p.tables e below (T21.setTop (mkF m 72 #[.val (.int p1), .val (.int u2), .val (.ref r3), .val (.int (1 : Int32))] [(.int (if r3 = r4 then (0 : Int32) else (1 : Int32)))])) _
            refine XS.iloadN X21.here hx rfl (hb hby at_72) rfl ?_
            show Steps p.tables e below (T21.setTop (mkF m 73 #[.val (.int p1), .val (.int u2), .val (.ref r3), .val (.int (1 : Int32))] [(.int (1 : Int32)), (.int (if r3 = r4 then (0 : Int32) else (1 : Int32)))])) _
            refine XS.icmpNo X21.here hx rfl (hb hby at_73) rfl (teq (if_neg dn3)).2 ?_
            show Steps p.tables e below (T21.setTop (mkF m 76 #[.val (.int p1), .val (.int u2), .val (.ref r3), .val (.int (1 : Int32))] [])) _
            refine XS.iconst X21.here hx rfl (hb hby at_76) ?_
            show Steps p.tables e below (T21.setTop (mkF m 77 #[.val (.int p1), .val (.int u2), .val (.ref r3), .val (.int (1 : Int32))] [(.int (1 : Int32))])) _
            refine XS.goto X21.here hx rfl (pc0 := 77) (pc' := 81) rfl (hb hby at_77) (by decide) (by decide) ?_
            exact k)
          obtain ⟨fs, hr, hrun, hended, hW, hsame⟩ := X21.leave (v := some (.int (1 : Int32))) (fun h => by rw [Bd.returns] at h; cases h)
          refine ⟨_, _, way22 _ ?_, hrun, hended, _, _, rfl, ?_, ⟨_, rfl⟩, hW, hsame.mono (by decide) (by decide)⟩
          · show Steps p.tables e below (T21.setTop (mkF m 81 #[.val (.int p1), .val (.int u2), .val (.ref r3), .val (.int (1 : Int32))] [(.int (1 : Int32))])) _
            exact retN X21 hx (t := .boolean) Bd.returns (by simp) (hb hby at_81) hr
          · show Q_law Z p1 r0 r1 r2 r3 r4 h0 n0 _ T21.heap _
            rw [hh21]
            exact ⟨rfl, N21⟩
        ·
          obtain ⟨T23, X23, e23, st23⟩ := getS2 X0 hx hZ hown (host := "") (Or.inl (hw _ (List.mem_of_getElem? (i := 15) rfl))) Via.refl e0 fS_TransactionAttribute_DISABLED (g := (mkF m 62 #[.val (.int p1), .val (.int u2), .unset, .unset] [])) rfl (hb hby at_62)
          obtain ⟨cq24, kq24, q24a, q24b, q24c⟩ := isOf hZ e23 fE_r4
          obtain ⟨_, _, ⟨T24, L24, k24, n24⟩, -, X24, ⟨Lc24, hQ24, l24, y24, z24⟩, st24⟩ := X23.virtualBack hx (y := (⟨"com/example/cogwell/cogwell/TransactionAttribute", "votes", "()Z"⟩ : MethodName)) (z := (⟨"com/example/cogwell/cogwell/TransactionAttribute", "votes", "()Z"⟩ : MethodName)) hown (mvT hZ (hw _ (List.mem_of_getElem? (i := 4) rfl))) (mvT hZ (hw _ (List.mem_of_getElem? (i := 5) rfl))) (notFace_of_selects (args := #[]) (mvT hZ (hw _ (List.mem_of_getElem? (i := 7) rfl)))) (mvT hZ (hw _ (List.mem_of_getElem? (i := 7) rfl))) (mvT hZ (hw _ (List.mem_of_getElem? (i := 6) rfl))) (by decide) (backOf (W := 0) (rm_votes l Z a0 hw [] r4 r4 h0 n0 Z0 fS_TransactionAttribute_DISABLED) hZ (hw _ (List.mem_of_getElem? (i := 8) rfl)) (hw _ (List.mem_of_getElem? (i := 2) rfl)) (by decide) (by decide)) q24a q24c (g := (mkF m 69 #[.val (.int p1), .val (.int u2), .val (.ref r4), .val (.int (0 : Int32))] [(.ref r4)])) rfl (by rw [hml]; rfl) (Steps.refl _) (argsL := []) (rest := []) (lenOf own_pd2 rfl) rfl (by show 2 * 0 + _ ≤ _; exact Nat.le_of_eq rfl) (hb hby at_69) (fun _ _ => ⟨rfl, e23, (by decide : 0 + 0 ≤ _), (by decide : 0 + 0 ≤ _)⟩)
          dsimp only [Pt.U, Pt.locs, Pt.cells, Pt.slots] at X24 l24 y24 z24 st24 hQ24
          subst l24 y24 z24
          obtain ⟨rfl, N24q, hh24⟩ := hQ24
          have N24 := Fr.app N0 N24q
          have way25 : ∀ t, Steps p.tables e below (T24.setTop (mkF m 81 #[.val (.int p1), .val (.int u2), .val (.ref r4), .val (.int (0 : Int32))] [(.int (1 : Int32))])) t → Steps p.tables e below (s₁.setTop (entryFrame m #[(.int p1)] maxLocals)) t := fun t k => way18 t (by
            show Steps p.tables e below (s₁.setTop (mkF m 50 #[.val (.int p1), .val (.int u2), .unset, .unset] [(.int (3 : Int32)), (.int u2)])) _
            refine XS.icmpYes X0.here hx rfl (pc0 := 50) (pc' := 62) rfl (hb hby at_50) rfl (feq hc19).2 (by decide) (by decide) ?_
            show Steps p.tables e below (s₁.setTop (mkF m 62 #[.val (.int p1), .val (.int u2), .unset, .unset] [])) _
            refine st23 _ ?_
            show Steps p.tables e below (T23.setTop (mkF m 65 #[.val (.int p1), .val (.int u2), .unset, .unset] [(.ref r4)])) _
            refine XS.astoreN X23.here hx rfl (hb hby at_65) rfl rfl (l' := #[.val (.int p1), .val (.int u2), .val (.ref r4), .unset]) rfl ?_
            show Steps p.tables e below (T23.setTop (mkF m 66 #[.val (.int p1), .val (.int u2), .val (.ref r4), .unset] [])) _
            refine XS.iconst X23.here hx rfl (hb hby at_66) ?_
            show Steps p.tables e below (T23.setTop (mkF m 67 #[.val (.int p1), .val (.int u2), .val (.ref r4), .unset] [(.int (0 : Int32))])) _
            refine XS.istoreN X23.here hx rfl (hb hby at_67) rfl (l' := #[.val (.int p1), .val (.int u2), .val (.ref r4), .val (.int (0 : Int32))]) rfl ?_
            show Steps p.tables e below (T23.setTop (mkF m 68 #[.val (.int p1), .val (.int u2), .val (.ref r4), .val (.int (0 : Int32))] [])) _
            refine XS.aloadN X23.here hx rfl (hb hby at_68) rfl rfl ?_
            show Steps p.tables e below (T23.setTop (mkF m 69 #[.val (.int p1), .val (.int u2), .val (.ref r4), .val (.int (0 : Int32))] [(.ref r4)])) _
            refine st24.trans ?_
            show Steps p.tables e below (T24.setTop (mkF m 72 #[.val (.int p1), .val (.int u2), .val (.ref r4), .val (.int (0 : Int32))] [(.int (if r4 = r4 then (0 : Int32) else (1 : Int32)))])) _
            refine XS.iloadN X24.here hx rfl (hb hby at_72) rfl ?_
            show Steps p.tables e below (T24.setTop (mkF m 73 #[.val (.int p1), .val (.int u2), .val (.ref r4), .val (.int (0 : Int32))] [(.int (0 : Int32)), (.int (if r4 = r4 then (0 : Int32) else (1 : Int32)))])) _
            refine XS.icmpNo X24.here hx rfl (hb hby at_73) rfl (teq (if_pos rfl)).2 ?_
            show Steps p.tables e below (T24.setTop (mkF m 76 #[.val (.int p1), .val (.int u2), .val (.ref r4), .val (.int (0 : Int32))] [])) _
            refine XS.iconst X24.here hx rfl (hb hby at_76) ?_
            show Steps p.tables e below (T24.setTop (mkF m 77 #[.val (.int p1), .val (.int u2), .val (.ref r4), .val (.int (0 : Int32))] [(.int (1 : Int32))])) _
            refine XS.goto X24.here hx rfl (pc0 := 77) (pc' := 81) rfl (hb hby at_77) (by decide) (by decide) ?_
            exact k)
          obtain ⟨fs, hr, hrun, hended, hW, hsame⟩ := X24.leave (v := some (.int (1 : Int32))) (fun h => by rw [Bd.returns] at h; cases h)
          refine ⟨_, _, way25 _ ?_, hrun, hended, _, _, rfl, ?_, ⟨_, rfl⟩, hW, hsame.mono (by decide) (by decide)⟩
          · show Steps p.tables e below (T24.setTop (mkF m 81 #[.val (.int p1), .val (.int u2), .val (.ref r4), .val (.int (0 : Int32))] [(.int (1 : Int32))])) _
            exact retN X24 hx (t := .boolean) Bd.returns (by simp) (hb hby at_81) hr
          · show Q_law Z p1 r0 r1 r2 r3 r4 h0 n0 _ T24.heap _
            rw [hh24]
            exact ⟨rfl, N24⟩
set_option maxRecDepth 65536 in
set_option maxHeartbeats 40000000 in
theorem comes_1 {Post : Tables → Env → Array Value → State → Outcome → State → Prop} (hpost : ∀ tb e args s v u, (limb_1_1.after args s (.returned v) u = true ∧ limb_1_2.after args s (.returned v) u = true ∧ True) → FrameEnd s (.returned v) u (Jvm.fieldLocs frame_1_writes args s ++ Jvm.arrayLocs frame_1_arrays args s ++ Jvm.staticLocs frame_1_statics s) 0 0 → Post tb e args s (.returned v) u) :
    ArmFor flags0 classFile x code maxLocals ret World_1 tables_1 room_1 Calls_1 rest_1 Pre_1 Post := by
  intro l hfl _ _ p e ha hc hk s m args below hf hA hF happ hP
  obtain ⟨hcalls, hrest, hpre⟩ := hP
  obtain ⟨-, -, -, hnamed, -, -, -, hat⟩ := (Spec.applies_iff hf).mp happ
  obtain ⟨hg, hn⟩ := and_e (Cond.before_iff.mp (show (Jvm.Cond.and given_1 narrow_1).before args s = true from hpre))
  obtain ⟨gc, g0⟩ := and_e hg
  have ga0 := g0
  obtain ⟨w0, rfl⟩ : ∃ w0 : Value, args = #[w0] := by
    have hs : args.size = 1 := by simpa [Cond.value, given_1] using gc
    obtain ⟨L⟩ := args
    match L, hs with
    | [w0], _ => exact ⟨w0, rfl⟩
  have hw := fun d (hd : d ∈ tables_1) => atoms_spec (ws := Jvm.Cond.code x code maxLocals ret :: tables_1) hat d (List.mem_cons_of_mem _ hd)
  have hfit : Fit s := fun {y c} hc i hi => by
    obtain ⟨ha, rfl⟩ := Array.getElem?_eq_some_iff.mp hc
    have q := List.all_eq_true.mp ((Array.all_eq_true_iff_forall_mem.mp hF) _ (Array.getElem_mem ha)) i (List.mem_range.mpr hi)
    simpa [Array.getElem?_eq_getElem hi] using q
  obtain ⟨i0, ei0⟩ := is_v ga0
  obtain rfl : w0 = (.int i0) := Option.some.inj ei0
  obtain ⟨hn0, hn⟩ := and_e hn
  obtain ⟨hn1, hn⟩ := and_e hn
  obtain ⟨hn2, hn⟩ := and_e hn
  obtain ⟨hn3, hn⟩ := and_e hn
  obtain ⟨hn4, hn⟩ := and_e hn
  obtain ⟨hn5, hn⟩ := and_e hn
  obtain ⟨hn6, hn⟩ := and_e hn
  obtain ⟨hn7, hn⟩ := and_e hn
  obtain ⟨hn8, hn⟩ := and_e hn
  have hn9 := hn
  obtain ⟨r0, ev0⟩ := exa_v hn0
  have E0 := Exa.start ev0 hn0
  have S0 := Sta.start ev0 (Or.inr ⟨(hw _ (List.mem_of_getElem? (i := 2) rfl)), (hw _ (List.mem_of_getElem? (i := 3) rfl))⟩)
  have o0 := (fld_at ev0).symm.trans (own_eqv hn2)
  obtain ⟨r1, ev1⟩ := exa_v hn6
  have E1 := Exa.start ev1 hn6
  have S1 := Sta.start ev1 (Or.inr ⟨(hw _ (List.mem_of_getElem? (i := 2) rfl)), (hw _ (List.mem_of_getElem? (i := 14) rfl))⟩)
  have o1 := (fld_at ev1).symm.trans (own_eqv hn7)
  obtain ⟨r2, ev2⟩ := exa_v hn8
  have E2 := Exa.start ev2 hn8
  have S2 := Sta.start ev2 (Or.inr ⟨(hw _ (List.mem_of_getElem? (i := 2) rfl)), (hw _ (List.mem_of_getElem? (i := 17) rfl))⟩)
  have o2 := (fld_at ev2).symm.trans (own_eqv hn9)
  obtain ⟨r3, ev3⟩ := exa_v hn4
  have E3 := Exa.start ev3 hn4
  have S3 := Sta.start ev3 (Or.inr ⟨(hw _ (List.mem_of_getElem? (i := 2) rfl)), (hw _ (List.mem_of_getElem? (i := 12) rfl))⟩)
  have o3 := (fld_at ev3).symm.trans (own_eqv hn5)
  obtain ⟨r4, ev4⟩ := exa_v hn1
  have E4 := Exa.start ev4 hn1
  have S4 := Sta.start ev4 (Or.inr ⟨(hw _ (List.mem_of_getElem? (i := 2) rfl)), (hw _ (List.mem_of_getElem? (i := 10) rfl))⟩)
  have o4 := (fld_at ev4).symm.trans (own_eqv hn3)
  obtain ⟨n, o, h1, h2, h3, _, L, rfl, ⟨rfl, N⟩, hq⟩ := rm_law l s _ hw tables_1 i0 r0 r1 r2 r3 r4 s.heap s.heap.size (Nat.le_refl _) (own_ne o0 o4 (by decide)) (own_ne o1 o4 (by decide)) (own_ne o2 o4 (by decide)) (own_ne o3 o4 (by decide)) S0 S1 S2 S3 S4 E0 E1 E2 E3 E4 p e ha hc hk s m _ below hf ((Spec.applies_iff_loose hf).mp happ).1 ⟨rfl, State.Warmed39.refl s, rfl⟩ trivial
  refine ⟨n, _, h1, h2, h3, hpost _ _ _ _ _ _ ⟨Cond.after_iff.mpr rfl, Cond.after_iff.mpr (eq_i res_at (Term.int_eval (1)) rfl), trivial⟩ ⟨hq.1, hq.2.1, (hq.2.2.sift fun y hy => Or.inr (N y hy)).mono (by decide) (by decide)⟩⟩
theorem main_1_1 : Claimed_1_1 := comes_1 fun _ _ _ _ _ _ h hF => ⟨h.1, hF⟩
theorem main_1_2 : Claimed_1_2 := comes_1 fun _ _ _ _ _ _ h hF => ⟨h.2.1, hF⟩
end Jvm.Pilot.@@N@@
namespace Jvm.Pilot.@@N@@
open Jvm Jvm.ClassFile Sem Op Lib Jvm.Free Jvm.Stand Jvm.Pilot.@@N@@.Jvm.D
/-! MADE BY PROGRAM (witnessworld.py) out of the Statement's table words and the real class files: 12 classes; the members and pool entries that the words name. The judged class is class 1, her method 1. -/
namespace start1
open Jvm.ClassFile
def u (s : String) : CpInfo := .utf8 (stringToUtf16 s)
/-- a pool by its gaps: so many unusable entries, then the entry; so many at the end -/
def gap : Nat → List CpInfo → List CpInfo
  | 0, r => r
  | n + 1, r => .unusable :: gap n r
def poolList (es : List (Nat × CpInfo)) (last : Nat) : List CpInfo := es.foldr (fun e r => gap e.1 (e.2 :: r)) (gap last [])
def pool (es : List (Nat × CpInfo)) (last : Nat) : Array CpInfo := ⟨poolList es last⟩
def fileOf (pool : Array CpInfo) (this : Nat) (attrs : Array Attribute := #[]) (ms : Array MethodInfo := #[]) (fl : Nat := 33) (sup : Nat := 0) (ifs : Array Nat := #[]) (fds : Array FieldInfo := #[]) : ClassFile where
  minorVersion := 0
  majorVersion := 65
  constantPool := pool
  accessFlags := fl
  thisClass := this
  superClass := sup
  interfaces := ifs
  fields := fds
  methods := ms
  attributes := attrs
def plain (name : String) (sup : Option ClassId) : Class where
  name := name
  kind := .ordinary
  loader := none
  accessFlags := 33
  super := sup
  interfaces := #[]
  cf := none
  fields := #[]
  methods := #[]
  instanceTypes := #[]
  staticTypes := #[]
  resolved := #[]
  callSites := []
  init := .initialized
  statics := none
  mirror := none

def pool0 : Array CpInfo := pool [(5, u "<init>"), (0, u "()V"), (1, .class_ 10), (1, u "java/lang/Object")] 113

def k0m0 : Method := { name := "<init>", desc := "()V", sig := { parameters := [], returnType := none }, accessFlags := 1, code := none }
/-- java/lang/Object -/
def k0 : Class := { plain "java/lang/Object" none with
  accessFlags := 33
  interfaces := #[]
  cf := some (fileOf pool0 8 #[] #[{ accessFlags := 1, nameIndex := 5, descriptorIndex := 6, attributes := #[] }] 33 0 #[] #[])
  fields := #[]
  methods := #[k0m0]
  instanceTypes := #[]
  staticTypes := #[]
  resolved := Array.replicate 124 none
  statics := none }

def pool1 : Array CpInfo := pool [(2, .class_ 4), (1, u "java/lang/Object"), (0, u "<init>"), (0, u "()V"), (0, .integer 2147483647), (0, .fieldref 9 10), (0, .class_ 11), (0, .nameAndType 12 13), (0, u "com/example/cogwell/cogwell/TransactionAttribute"), (0, u "REQUIRED"), (0, u "Lcom/example/cogwell/cogwell/TransactionAttribute;"), (0, .fieldref 9 15), (0, .nameAndType 16 13), (0, u "REQUIRES_NEW"), (0, .fieldref 9 18), (0, .nameAndType 19 13), (0, u "SUPPORTED"), (0, .fieldref 9 21), (0, .nameAndType 22 13), (0, u "NOT_SUPPORTED"), (0, .fieldref 9 24), (0, .nameAndType 25 13), (0, u "DISABLED"), (0, .methodref 9 27), (0, .nameAndType 28 29), (0, u "votes"), (0, u "()Z"), (0, .class_ 31), (0, u "com/example/cogwell/cogwell/TransactionAttributeVotesPinLaw"), (2, u "law"), (0, u "(I)Z")] 3

def k1m0 : Method := { name := "<init>", desc := "()V", sig := { parameters := [], returnType := none }, accessFlags := 1, code := none }
def k1c1 : Code := { maxStack := 2, maxLocals := 4, code := code, exceptionTable := #[], attributes := #[] }
def k1m1 : Method := { name := "law", desc := "(I)Z", sig := { parameters := [.int], returnType := some .boolean }, accessFlags := 9, code := some k1c1 }
/-- com/example/cogwell/cogwell/TransactionAttributeVotesPinLaw -/
def k1 : Class := { plain "com/example/cogwell/cogwell/TransactionAttributeVotesPinLaw" (some 0) with
  accessFlags := 49
  interfaces := #[]
  cf := some (fileOf pool1 30 #[] #[{ accessFlags := 1, nameIndex := 5, descriptorIndex := 6, attributes := #[] }, { accessFlags := 9, nameIndex := 34, descriptorIndex := 35, attributes := #[] }] 49 2 #[] #[])
  fields := #[]
  methods := #[k1m0, k1m1]
  instanceTypes := #[]
  staticTypes := #[]
  resolved := Array.replicate 39 none
  statics := none }

def pool2 : Array CpInfo := pool [(1, .class_ 2), (0, u "java/lang/constant/Constable"), (0, .class_ 4), (0, u "java/lang/Object")] 6

/-- java/lang/constant/Constable -/
def k2 : Class := { plain "java/lang/constant/Constable" (some 0) with
  accessFlags := 1537
  interfaces := #[]
  cf := some (fileOf pool2 1 #[] #[] 1537 3 #[] #[])
  fields := #[]
  methods := #[]
  instanceTypes := #[]
  staticTypes := #[]
  resolved := Array.replicate 11 none
  statics := none }

def pool3 : Array CpInfo := pool [(1, .class_ 2), (0, u "java/lang/Comparable"), (0, .class_ 4), (0, u "java/lang/Object")] 7

/-- java/lang/Comparable -/
def k3 : Class := { plain "java/lang/Comparable" (some 0) with
  accessFlags := 1537
  interfaces := #[]
  cf := some (fileOf pool3 1 #[] #[] 1537 3 #[] #[])
  fields := #[]
  methods := #[]
  instanceTypes := #[]
  staticTypes := #[]
  resolved := Array.replicate 12 none
  statics := none }

def pool4 : Array CpInfo := pool [(1, .class_ 2), (0, u "java/io/Serializable"), (0, .class_ 4), (0, u "java/lang/Object")] 2

/-- java/io/Serializable -/
def k4 : Class := { plain "java/io/Serializable" (some 0) with
  accessFlags := 1537
  interfaces := #[]
  cf := some (fileOf pool4 1 #[] #[] 1537 3 #[] #[])
  fields := #[]
  methods := #[]
  instanceTypes := #[]
  staticTypes := #[]
  resolved := Array.replicate 7 none
  statics := none }

def pool5 : Array CpInfo := pool [(2, .class_ 4), (1, u "java/lang/Enum"), (0, u "name"), (0, u "Ljava/lang/String;"), (2, u "ordinal"), (0, u "I"), (1, .class_ 14), (1, u "java/lang/Object"), (4, u "hash"), (86, .class_ 108), (1, u "java/lang/Enum$EnumDesc"), (2, .class_ 112), (0, u "java/lang/constant/Constable"), (0, .class_ 114), (0, u "java/lang/Comparable"), (0, .class_ 116), (0, u "java/io/Serializable")] 87

/-- java/lang/Enum -/
def k5 : Class := { plain "java/lang/Enum" (some 0) with
  accessFlags := 1057
  interfaces := #[2, 3, 4]
  cf := some (fileOf pool5 2 #[.nestMembers #[106]] #[] 1057 12 #[111, 113, 115] #[{ accessFlags := 18, nameIndex := 5, descriptorIndex := 6, attributes := #[] }, { accessFlags := 18, nameIndex := 9, descriptorIndex := 10, attributes := #[] }, { accessFlags := 2, nameIndex := 19, descriptorIndex := 10, attributes := #[] }])
  fields := #[{ name := "name", type := (.object "java/lang/String"), accessFlags := 18, slot := 0, constantValue := 0 }, { name := "ordinal", type := .int, accessFlags := 18, slot := 1, constantValue := 0 }, { name := "hash", type := .int, accessFlags := 2, slot := 2, constantValue := 0 }]
  methods := #[]
  instanceTypes := #[(.object "java/lang/String"), .int, .int]
  staticTypes := #[]
  resolved := Array.replicate 204 none
  statics := none }

def pool6 : Array CpInfo := pool [(1, .class_ 2), (0, u "com/example/cogwell/cogwell/TransactionAttribute"), (2, u "REQUIRED"), (0, u "Lcom/example/cogwell/cogwell/TransactionAttribute;"), (2, u "REQUIRES_NEW"), (2, u "SUPPORTED"), (2, u "NOT_SUPPORTED"), (0, .fieldref 1 17), (0, .nameAndType 18 6), (0, u "DISABLED"), (2, u "$VALUES"), (0, u "[Lcom/example/cogwell/cogwell/TransactionAttribute;"), (6, .class_ 31), (1, u "java/lang/Enum"), (8, u "catalogName"), (0, u "Ljava/lang/String;"), (10, .class_ 54), (1, u "com/example/cogwell/cogwell/TransactionAttribute$Placement"), (88, u "votes"), (0, u "()Z")] 42

def k6c0 : Code := { maxStack := 2, maxLocals := 1, code := prog_29_method_5_code, exceptionTable := #[], attributes := #[] }
def k6m0 : Method := { name := "votes", desc := "()Z", sig := { parameters := [], returnType := some .boolean }, accessFlags := 0, code := some k6c0 }
/-- com/example/cogwell/cogwell/TransactionAttribute -/
def k6 : Class := { plain "com/example/cogwell/cogwell/TransactionAttribute" (some 5) with
  accessFlags := 16432
  interfaces := #[]
  cf := some (fileOf pool6 1 #[.nestMembers #[52]] #[{ accessFlags := 0, nameIndex := 143, descriptorIndex := 144, attributes := #[] }] 16432 29 #[] #[{ accessFlags := 16409, nameIndex := 5, descriptorIndex := 6, attributes := #[] }, { accessFlags := 16409, nameIndex := 9, descriptorIndex := 6, attributes := #[] }, { accessFlags := 16409, nameIndex := 12, descriptorIndex := 6, attributes := #[] }, { accessFlags := 16409, nameIndex := 15, descriptorIndex := 6, attributes := #[] }, { accessFlags := 16409, nameIndex := 18, descriptorIndex := 6, attributes := #[] }, { accessFlags := 18, nameIndex := 40, descriptorIndex := 41, attributes := #[] }, { accessFlags := 4122, nameIndex := 21, descriptorIndex := 22, attributes := #[] }])
  fields := #[{ name := "REQUIRED", type := (.object "com/example/cogwell/cogwell/TransactionAttribute"), accessFlags := 16409, slot := 0, constantValue := 0 }, { name := "REQUIRES_NEW", type := (.object "com/example/cogwell/cogwell/TransactionAttribute"), accessFlags := 16409, slot := 1, constantValue := 0 }, { name := "SUPPORTED", type := (.object "com/example/cogwell/cogwell/TransactionAttribute"), accessFlags := 16409, slot := 2, constantValue := 0 }, { name := "NOT_SUPPORTED", type := (.object "com/example/cogwell/cogwell/TransactionAttribute"), accessFlags := 16409, slot := 3, constantValue := 0 }, { name := "DISABLED", type := (.object "com/example/cogwell/cogwell/TransactionAttribute"), accessFlags := 16409, slot := 4, constantValue := 0 }, { name := "catalogName", type := (.object "java/lang/String"), accessFlags := 18, slot := 3, constantValue := 0 }, { name := "$VALUES", type := (.array (.object "com/example/cogwell/cogwell/TransactionAttribute")), accessFlags := 4122, slot := 5, constantValue := 0 }]
  methods := #[k6m0]
  instanceTypes := #[(.object "java/lang/String"), .int, .int, (.object "java/lang/String")]
  staticTypes := #[(.object "com/example/cogwell/cogwell/TransactionAttribute"), (.object "com/example/cogwell/cogwell/TransactionAttribute"), (.object "com/example/cogwell/cogwell/TransactionAttribute"), (.object "com/example/cogwell/cogwell/TransactionAttribute"), (.object "com/example/cogwell/cogwell/TransactionAttribute"), (.array (.object "com/example/cogwell/cogwell/TransactionAttribute"))]
  resolved := Array.replicate 187 none
  statics := some 0 }

def pool7 : Array CpInfo := pool [(1, u "java/lang/Cloneable"), (0, .class_ 1), (0, u "java/lang/Object"), (0, .class_ 3)] 3

/-- java/lang/Cloneable -/
def k7 : Class := { plain "java/lang/Cloneable" (some 0) with
  accessFlags := 1537
  interfaces := #[]
  cf := some (fileOf pool7 2 #[] #[] 1537 4 #[] #[])
  fields := #[]
  methods := #[]
  instanceTypes := #[]
  staticTypes := #[]
  resolved := Array.replicate 8 none
  statics := none }

/-- the primitive byte -/
def k8 : Class := { plain "byte" none with kind := .primitive 'B', accessFlags := 0x411 }
/-- [B -/
def k9 : Class := { plain "[B" (some 0) with kind := .array 8 .byte, interfaces := #[7, 4], accessFlags := 1041 }

/-- the primitive int -/
def k10 : Class := { plain "int" none with kind := .primitive 'I', accessFlags := 0x411 }
/-- [I -/
def k11 : Class := { plain "[I" (some 0) with kind := .array 10 .int, interfaces := #[7, 4], accessFlags := 1041 }

def heap : Heap := #[{ cls := 6, slots := #[.ref 1, .ref 2, .ref 3, .ref 4, .ref 5, .null], vm := .statics 6 },
  { cls := 6, slots := #[.null, .int 0, .int 0, .null], vm := .none },
  { cls := 6, slots := #[.null, .int 1, .int 0, .null], vm := .none },
  { cls := 6, slots := #[.null, .int 2, .int 0, .null], vm := .none },
  { cls := 6, slots := #[.null, .int 3, .int 0, .null], vm := .none },
  { cls := 6, slots := #[.null, .int 4, .int 0, .null], vm := .none }]
def classes : Array Class := #[k0, k1, k2, k3, k4, k5, k6, k7, k8, k9, k10, k11]
def interned : List (Array UInt16 × Addr) := []
def slotsUsed : Nat := 26
def theMethod : MethodId := ⟨1, 1⟩
def args0 : Array Value := #[.int 5]
def aboutOver (below : List Frame) : State where
  vm := { classes := classes, interned := interned.toArray }
  heap := heap
  slotsUsed := slotsUsed
  threads := #[{ frames := .invoking theMethod args0 :: below }]
def below0 : List Frame := [.native { method := ⟨0, 0⟩, args := #[] }]
def about1 : State := aboutOver below0
def p0 : Program := .bare "" "" ""
def e0 : Env := launch0.env 0 0 0
theorem w_frames : about1.frames = Frame.invoking theMethod args0 :: below0 := rfl
set_option maxRecDepth 65536 in
theorem w_args : argsFit about1.vm theMethod args0 = true := by decide +kernel
set_option maxRecDepth 65536 in
theorem w_heap : heapFits about1 = true := by decide +kernel
set_option maxRecDepth 65536 in
theorem w_runnable : about1.curStatus? = some .runnable := by decide +kernel
set_option maxRecDepth 65536 in
theorem w_alone : about1.alone = true := by decide +kernel
set_option maxRecDepth 65536 in
theorem w_named : about1.methodNamed? x = some theMethod := by decide +kernel
set_option maxRecDepth 65536 in
theorem w_hears : about1.hears theMethod below0 = true := by decide +kernel
set_option maxRecDepth 65536 in
theorem w_ripe : about1.ripe theMethod args0 below0 = true := by decide +kernel
theorem w_running : about1.status = .running := rfl
set_option maxRecDepth 65536 in
theorem w_room : about1.hasRoom e0.platform room_1 = true :=
  launch0.hasRoom_least _ room_1 (by decide +kernel) (by decide +kernel) (by decide +kernel) (by decide +kernel) (by decide +kernel) (by decide +kernel)
theorem allAtoms_all (ts : List Jvm.Cond) (a : Array Jvm.Value) (st : Jvm.State) : (allAtoms ts).before a st = ts.all (fun c => c.before a st) := by
  induction ts with
  | nil => rfl
  | cons c t ih =>
    show (Jvm.Cond.and c (allAtoms t)).before a st = _
    rw [Jvm.Cond.before_and, ih, List.all_cons]
def words1 : List Jvm.Cond := Jvm.Cond.code x code maxLocals ret :: tables_1
/-- a 'code' word, met by the world's own term for the bytes: nothing is compared byte by byte -/
theorem code_word {y : MethodName} {bytes : ByteArray} {mx : Nat} {rt : Option FieldType} {a : Array Value} {s : State} {m : MethodId} {meth : Method} {c : Code} (h1 : s.methodNamed? y = some m) (h2 : s.vm.method? m = some meth) (h3 : meth.code = some c) (h4 : c.code = bytes)
    (h5 : (c.maxLocals == mx && c.exceptionTable.isEmpty && decide (c.maxStack ≤ mostOperands) && decide (meth.sig.returnType = rt) && !meth.locks && decide (parseMethodDescriptor y.desc = some meth.sig)) = true) : (Jvm.Cond.code y bytes mx rt).before a s = true := by
  simp only [Bool.and_eq_true, beq_iff_eq, Bool.not_eq_true', decide_eq_true_eq] at h5
  obtain ⟨⟨⟨⟨⟨g1, g2⟩, g3⟩, g4⟩, g5⟩, g6⟩ := h5
  simp [Cond.before, Cond.holds, Cond.value, h1, h2, h3, h4, g1, g2, g3, g4, g5, g6]
def isCode : Jvm.Cond → Bool
  | .code _ _ _ _ => true
  | _ => false
theorem all_split {L : List Jvm.Cond} {P : Jvm.Cond → Bool} (h1 : L.all (fun c => isCode c || P c) = true) (h2 : ∀ c ∈ L.filter isCode, P c = true) : L.all P = true := by
  refine List.all_eq_true.mpr fun c hc => ?_
  have h := List.all_eq_true.mp h1 c hc
  rcases Bool.eq_false_or_eq_true (isCode c) with hi | hi
  · exact h2 c (List.mem_filter.mpr ⟨hc, hi⟩)
  · simpa [hi] using h
set_option maxRecDepth 65536 in
theorem w_c0 : (Jvm.Cond.code x code maxLocals ret).before args0 about1 = true := code_word (m := ⟨1, 1⟩) (meth := k1m1) (c := k1c1) (by decide +kernel) rfl rfl rfl (by decide +kernel)
set_option maxRecDepth 65536 in
theorem w_c1 : (Jvm.Cond.code ({ cls := "com/example/cogwell/cogwell/TransactionAttribute", name := "votes", desc := "()Z" } : Jvm.MethodName) prog_29_method_5_code (1 : Nat) (Option.some Jvm.ClassFile.FieldType.boolean)).before args0 about1 = true := code_word (m := ⟨6, 0⟩) (meth := k6m0) (c := k6c0) (by decide +kernel) rfl rfl rfl (by decide +kernel)
def codes1 : List Jvm.Cond := [Jvm.Cond.code x code maxLocals ret, Jvm.Cond.code ({ cls := "com/example/cogwell/cogwell/TransactionAttribute", name := "votes", desc := "()Z" } : Jvm.MethodName) prog_29_method_5_code (1 : Nat) (Option.some Jvm.ClassFile.FieldType.boolean)]
set_option maxRecDepth 65536 in
theorem codes_eq : words1.filter isCode = codes1 := rfl
theorem w_codes : ∀ c ∈ words1.filter isCode, c.before args0 about1 = true := by
  rw [codes_eq]
  intro c hc
  simp only [codes1, List.mem_cons, List.not_mem_nil, or_false] at hc
  rcases hc with rfl | rfl
  · exact w_c0
  · exact w_c1
set_option maxRecDepth 65536 in
theorem w_t1 : words1.all (fun c => isCode c || c.before args0 about1) = true := by decide +kernel
theorem w_tables : (allAtoms (Jvm.Cond.code x code maxLocals ret :: tables_1)).before args0 about1 = true := by
  rw [allAtoms_all]
  show words1.all (fun c => c.before args0 about1) = true
  refine all_split ?_ w_codes
  rw [w_t1]
set_option maxRecDepth 65536 in
theorem w_case : (Jvm.Cond.and given_1 narrow_1).before args0 about1 = true := by decide +kernel
theorem w_applies : (headSpec (Jvm.Cond.code x code maxLocals ret :: tables_1) room_1).applies x e0.platform about1 = true :=
  (Spec.applies_iff w_frames).mpr ⟨w_running, w_runnable, w_alone, w_named, w_hears, w_ripe, w_room, w_tables⟩
theorem atStart : AtStart classFile x code maxLocals ret World_1 tables_1 room_1 Calls_1 rest_1 Pre_1 launch0 p0 e0 about1 theMethod args0 below0 :=
  ⟨lists_1, trivial, launch0.admits_env _ _ _, launch0.least_env, fairChoices_fair.cas, fairChoices_fair.clock, w_frames, w_args, w_heap, w_applies, trivial, trivial, w_case⟩
end start1
theorem witness_1 : WitnessClaimed_1 := ⟨start1.p0, start1.e0, start1.about1, start1.theMethod, start1.args0, start1.below0, start1.atStart⟩
end Jvm.Pilot.@@N@@
