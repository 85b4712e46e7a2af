import JvmDerived
import JvmDerived.Pilot.@@N@@Statement
import JvmDerived.Pilot.@@N@@Code
set_option linter.unusedVariables false
set_option linter.unusedSimpArgs false
namespace Jvm.RoadKit
open Sem ClassFile Op Lib Jvm.Stand Jvm.Free Jvm.LawKit
section New
variable {p : Program} {l : Launch} {e : Env} {R : Room} {s : State} {m : MethodId} {args : Array Value} {below : List Frame} {meth : Method} {c : Code} {T : State} {locs : List Loc} {cells slots : Nat}
theorem retI (X : Stand p l e R s m args below meth c T locs cells slots) (hx : p.tables.exec = Jvm.exec) {pc : Nat} {Ls : Array Slot} {z : Int32} {rest : List Value} (hret : meth.sig.returnType = some .int) (hd : decode c.code pc = .ok (.ireturn, 1)) {fs : List Frame}
    (hl : ∀ (f : JFrame) (acts : List Action), f.method = m → f.locked = none → f.entered = [] → (doReturn e (T.setTop f) acts (some (.int z))).1 = T.setFrames fs) : Steps p.tables e below (T.setTop (mkF m pc Ls (.int z :: rest))) (T.setFrames fs) := by
  have hm' : T.vm.method? m = some meth := X.method'
  have hn : narrow .int (.int z) = .int z := rfl
  show Steps p.tables e below (T.setTop { method := m, pc := pc, locals := Ls, stack := _ :: rest, locked := none }) _
  jvm_step X.here [X.here.top, hx, hd, hm', hret, hn]
  first | (intro acts; rw [hl _ acts rfl rfl rfl]) | rw [hl _ _ rfl rfl rfl]
  exact Steps.refl _
end New
end Jvm.RoadKit
namespace Jvm.Pilot.@@N@@
open Jvm Jvm.ClassFile Sem Op Lib Jvm.Free Jvm.Stand Jvm.LawKit Jvm.RoadKit Bundle Jvm.Pilot.@@N@@.Jvm.D
theorem own_pn0 : plainName "com/example/basketwright/basketwright/PriceHistory$Day" = true := by first | (simp [plainName, overriddenIn]; done) | decide +kernel
theorem own_d_init_0 : decode prog_24_method_1_code 0 = .ok (.aload_n 0, 1) := by decide +kernel
theorem own_d_init_1 : decode prog_24_method_1_code 1 = .ok (.invokespecial 3, 3) := by decide +kernel
theorem own_d_init_4 : decode prog_24_method_1_code 4 = .ok (.aload_n 0, 1) := by decide +kernel
theorem own_d_init_5 : decode prog_24_method_1_code 5 = .ok (.iconst 0, 1) := by decide +kernel
theorem own_d_init_6 : decode prog_24_method_1_code 6 = .ok (.newarray .long, 2) := by decide +kernel
theorem own_d_init_8 : decode prog_24_method_1_code 8 = .ok (.putfield 9, 3) := by decide +kernel
theorem own_d_init_11 : decode prog_24_method_1_code 11 = .ok (.aload_n 0, 1) := by decide +kernel
theorem own_d_init_12 : decode prog_24_method_1_code 12 = .ok (.iconst 0, 1) := by decide +kernel
theorem own_d_init_13 : decode prog_24_method_1_code 13 = .ok (.newarray .int, 2) := by decide +kernel
theorem own_d_init_15 : decode prog_24_method_1_code 15 = .ok (.putfield 15, 3) := by decide +kernel
theorem own_d_init_18 : decode prog_24_method_1_code 18 = .ok (.return_, 1) := by decide +kernel
theorem own_ef_init (m : MethodId) (a1 : Addr) : entryFrame m #[(.ref a1)] 1 = mkF m 0 #[.val (.ref a1)] [] := by first | (simp [entryFrame, mkF, argsToLocals, Value.category]; done) | rfl
def Q_init (Z : State) (a1 : Addr) (h0 : Heap) (n0 : Nat) (v : Option Value) (h : Heap) (L : List Loc) : Prop := v = none ∧ Fr n0 L ∧ Keep h0 h [a1] ∧ Exa Z h a1 "com/example/basketwright/basketwright/PriceHistory$Day" ∧ Fld Z h a1 "com/example/basketwright/basketwright/PriceHistory$Day" "base" "I" (.int (0 : Int32)) ∧ ∃ (b : Addr) (k : ClassId), h0.size ≤ b ∧ Fld Z h a1 "com/example/basketwright/basketwright/PriceHistory$Day" "scales" "[I" (.ref b) ∧ Arv Z h b k .int (0 : Int32) [] (.int (0 : Int32))
set_option maxRecDepth 65536 in
set_option maxHeartbeats 40000000 in
theorem rm_init (l : Launch) (Z : State) (a0 : Array Value) (hw : ∀ d ∈ tables_1, d.before a0 Z = true) (ws : List Jvm.Cond) (a1 : Addr) (h0 : Heap) (n0 : Nat) (Z0 : n0 ≤ h0.size) (g_a1 : n0 ≤ a1) (fE_a1 : Exa Z h0 a1 "com/example/basketwright/basketwright/PriceHistory$Day") (fF_a1_base : Fld Z h0 a1 "com/example/basketwright/basketwright/PriceHistory$Day" "base" "I" (.int (0 : Int32))) (fF_a1_scales : Fld Z h0 a1 "com/example/basketwright/basketwright/PriceHistory$Day" "scales" "[I" .null) (fF_a1_unscaled : Fld Z h0 a1 "com/example/basketwright/basketwright/PriceHistory$Day" "unscaled" "[J" .null) :
    MetFree l (⟨"com/example/basketwright/basketwright/PriceHistory$Day", "<init>", "()V"⟩ : MethodName) (head1 (Jvm.Cond.code (⟨"com/example/basketwright/basketwright/PriceHistory$Day", "<init>", "()V"⟩ : MethodName) prog_24_method_1_code 1 none :: ws) ({ frames := 1, cells := 2, slots := 0, locals := 12 } : Room)) (fun a U => a = #[(.ref a1)] ∧ Z.Warmed39 U.vm ∧ U.heap = h0) (fun _ _ _ _ _ => True) (fun _ U o U' => ∃ v L, o = .returned v ∧ Q_init Z a1 h0 n0 v U'.heap L ∧ FrameEnd U o U' L ({ frames := 1, cells := 2, slots := 0, locals := 12 } : Room).cells ({ frames := 1, cells := 2, slots := 0, locals := 12 } : Room).slots) := by
  refine MetFree.of_bodySF (plainFor_of_name own_pn0) hisR ?_
  intro p e s m args below meth c s₁ Bd hml0 hP hK
  obtain ⟨rfl, hZ, hh⟩ := hP
  have hx := Bd.exec
  have hby := Bd.bytes
  have hml : c.maxLocals = 1 := hml0
  have hown : s.vm.findClass "com/example/basketwright/basketwright/PriceHistory$Day" = some m.cls := findClass_of_methodNamed Bd.named
  have hnm := (name_of_methodNamed Bd.named Bd.method).1
  have X0 : Stand p l e ({ frames := 1, cells := 2, slots := 0, locals := 12 } : Room) s m #[(.ref a1)] below meth c s₁ [] 0 0 := Stand.of_body Bd
  have e0 : s₁.heap = h0 := by rw [← hh, Bd.state]; rfl
  have N0 := Fr.nil n0
  have pre0 : ∀ t, Steps p.tables e below (s₁.setTop (mkF m 0 #[.val (.ref a1)] [])) t → Steps p.tables e below (s₁.setTop (entryFrame m #[(.ref a1)] 1)) t := fun t k => castTop (own_ef_init m a1) k
  obtain ⟨T1, X1, e1, st1⟩ := initO X0 hx hZ hown (hw _ (List.mem_of_getElem? (i := 6) rfl)) (hw _ (List.mem_of_getElem? (i := 7) rfl)) (hw _ (List.mem_of_getElem? (i := 8) rfl)) e0 (g := (mkF m 1 #[.val (.ref a1)] [(.ref a1)])) rfl (by rw [hml]; rfl) rfl (hb hby own_d_init_1) (by decide) (W := 0) (by show 2 * 0 + _ ≤ _; exact Nat.le_of_eq rfl) (by decide)
  obtain ⟨T2, h2, k2, X2, e2, E2, A2, st2⟩ := newP X1 hx hZ (hw _ (List.mem_of_getElem? (i := 9) rfl)) e1 (g := (mkF m 6 #[.val (.ref a1)] [(.int (0 : Int32)), (.ref a1)])) rfl (hb hby own_d_init_6) rfl (by decide) (cap := 0) (by decide) (by decide) (by decide) (by decide)
  obtain ⟨b2, g2⟩ : ∃ z, z = h0.size := ⟨_, rfl⟩
  rw [← g2] at A2 st2
  have ne_a1_b2 : a1 ≠ b2 := Nat.ne_of_lt (Nat.lt_of_lt_of_le fE_a1.lt (Nat.le_of_eq g2.symm))
  have sz_b2 : h0.size ≤ b2 := Nat.le_trans (Keep.refl h0 [a1]).1 (Nat.le_of_eq g2.symm)
  have g_b2 : n0 ≤ b2 := Nat.le_trans Z0 sz_b2
  have K2 : Keep h0 h2 [a1] := (Keep.refl h0 [a1]).ext E2
  have V2 : Arv Z h2 b2 k2 .long (0 : Int32) [] (.long (0 : Int64)) := Arv.new A2 (by decide)
  have F4 : Exa Z h2 a1 "com/example/basketwright/basketwright/PriceHistory$Day" := (fE_a1.ext E2)
  have F5 : Fld Z h2 a1 "com/example/basketwright/basketwright/PriceHistory$Day" "unscaled" "[J" .null := (fF_a1_unscaled.ext E2)
  obtain ⟨T3, h3, X3, e3, W3, st3⟩ := putF X2 hx hZ hown (host := "") (Or.inl (hw _ (List.mem_of_getElem? (i := 10) rfl))) Via.refl e2 F5 F4 (Or.inl (hw _ (List.mem_of_getElem? (i := 11) rfl))) (hw _ (List.mem_of_getElem? (i := 1) rfl)) (ty := (.array .long)) (by decide) rfl rfl (g := (mkF m 8 #[.val (.ref a1)] [(.ref b2), (.ref a1)])) rfl rfl (hb hby own_d_init_8)
  have K3 : Keep h0 h3 [a1] := K2.wr W3 (Or.inl (List.mem_of_getElem? (i := 0) rfl))
  have N3 := Fr.snoc X3 N0 g_a1
  have Fw3 : Fld Z h3 a1 "com/example/basketwright/basketwright/PriceHistory$Day" "unscaled" "[J" (.ref b2) := F5.same W3
  obtain ⟨T6, h6, k6, X6, e6, E6, A6, st6⟩ := newP X3 hx hZ (hw _ (List.mem_of_getElem? (i := 12) rfl)) e3 (g := (mkF m 13 #[.val (.ref a1)] [(.int (0 : Int32)), (.ref a1)])) rfl (hb hby own_d_init_13) rfl (by decide) (cap := 0) (by decide) (by decide) (by decide) (by decide)
  obtain ⟨b6, g6⟩ : ∃ z, z = h3.size := ⟨_, rfl⟩
  rw [← g6] at A6 st6
  have F7 : Exa Z h3 a1 "com/example/basketwright/basketwright/PriceHistory$Day" := (F4.wr W3)
  have ne_a1_b6 : a1 ≠ b6 := Nat.ne_of_lt (Nat.lt_of_lt_of_le F7.lt (Nat.le_of_eq g6.symm))
  have F8 : Arv Z h3 b2 k2 .long (0 : Int32) [] (.long (0 : Int64)) := (V2.other W3 (Ne.symm ne_a1_b2))
  have ne_b2_b6 : b2 ≠ b6 := Nat.ne_of_lt (Nat.lt_of_lt_of_le F8.lt (Nat.le_of_eq g6.symm))
  have sz_b6 : h0.size ≤ b6 := Nat.le_trans K3.1 (Nat.le_of_eq g6.symm)
  have g_b6 : n0 ≤ b6 := Nat.le_trans Z0 sz_b6
  have K6 : Keep h0 h6 [a1] := K3.ext E6
  have V6 : Arv Z h6 b6 k6 .int (0 : Int32) [] (.int (0 : Int32)) := Arv.new A6 (by decide)
  have F10 : Exa Z h6 a1 "com/example/basketwright/basketwright/PriceHistory$Day" := (F7.ext E6)
  have F11 : Fld Z h6 a1 "com/example/basketwright/basketwright/PriceHistory$Day" "scales" "[I" .null := (((fF_a1_scales.ext E2).other W3 (Or.inr (slot_ne (Or.inl (hw _ (List.mem_of_getElem? (i := 14) rfl))) (Or.inl (hw _ (List.mem_of_getElem? (i := 11) rfl))) (by decide) (t := (.array .int)) (t' := (.array .long)) (by decide) (by decide)))).ext E6)
  obtain ⟨T9, h9, X9, e9, W9, st9⟩ := putF X6 hx hZ hown (host := "") (Or.inl (hw _ (List.mem_of_getElem? (i := 13) rfl))) Via.refl e6 F11 F10 (Or.inl (hw _ (List.mem_of_getElem? (i := 14) rfl))) (hw _ (List.mem_of_getElem? (i := 1) rfl)) (ty := (.array .int)) (by decide) rfl rfl (g := (mkF m 15 #[.val (.ref a1)] [(.ref b6), (.ref a1)])) rfl rfl (hb hby own_d_init_15)
  have K9 : Keep h0 h9 [a1] := K6.wr W9 (Or.inl (List.mem_of_getElem? (i := 0) rfl))
  have N9 := Fr.snoc X9 N3 g_a1
  have Fw9 : Fld Z h9 a1 "com/example/basketwright/basketwright/PriceHistory$Day" "scales" "[I" (.ref b6) := F11.same W9
  have way12 : ∀ t, Steps p.tables e below (T9.setTop (mkF m 18 #[.val (.ref a1)] [])) t → Steps p.tables e below (s₁.setTop (entryFrame m #[(.ref a1)] 1)) t := fun t k => pre0 t (by
    show Steps p.tables e below (s₁.setTop (mkF m 0 #[.val (.ref a1)] [])) _
    refine XS.aloadN X0.here hx rfl (hb hby own_d_init_0) rfl rfl ?_
    show Steps p.tables e below (s₁.setTop (mkF m 1 #[.val (.ref a1)] [(.ref a1)])) _
    refine st1 _ ?_
    show Steps p.tables e below (T1.setTop (mkF m 4 #[.val (.ref a1)] [])) _
    refine XS.aloadN X1.here hx rfl (hb hby own_d_init_4) rfl rfl ?_
    show Steps p.tables e below (T1.setTop (mkF m 5 #[.val (.ref a1)] [(.ref a1)])) _
    refine XS.iconst X1.here hx rfl (hb hby own_d_init_5) ?_
    show Steps p.tables e below (T1.setTop (mkF m 6 #[.val (.ref a1)] [(.int (0 : Int32)), (.ref a1)])) _
    refine st2 _ ?_
    show Steps p.tables e below (T2.setTop (mkF m 8 #[.val (.ref a1)] [(.ref b2), (.ref a1)])) _
    refine st3 _ ?_
    show Steps p.tables e below (T3.setTop (mkF m 11 #[.val (.ref a1)] [])) _
    refine XS.aloadN X3.here hx rfl (hb hby own_d_init_11) rfl rfl ?_
    show Steps p.tables e below (T3.setTop (mkF m 12 #[.val (.ref a1)] [(.ref a1)])) _
    refine XS.iconst X3.here hx rfl (hb hby own_d_init_12) ?_
    show Steps p.tables e below (T3.setTop (mkF m 13 #[.val (.ref a1)] [(.int (0 : Int32)), (.ref a1)])) _
    refine st6 _ ?_
    show Steps p.tables e below (T6.setTop (mkF m 15 #[.val (.ref a1)] [(.ref b6), (.ref a1)])) _
    refine st9 _ ?_
    exact k)
  obtain ⟨fs, hr, hrun, hended, hW, hsame⟩ := X9.leave (v := none) (fun _ => rfl)
  refine ⟨_, _, way12 _ ?_, hrun, hended, _, _, rfl, ?_, ⟨_, rfl⟩, hW, hsame.mono (by decide) (by decide)⟩
  · show Steps p.tables e below (T9.setTop (mkF m 18 #[.val (.ref a1)] [])) _
    exact X9.returnOut hx Bd.returns (hb hby own_d_init_18) hr
  · show Q_init Z a1 h0 n0 _ T9.heap _
    rw [e9]
    have F13 : Exa Z h9 a1 "com/example/basketwright/basketwright/PriceHistory$Day" := (F10.wr W9)
    have F14 : Fld Z h9 a1 "com/example/basketwright/basketwright/PriceHistory$Day" "base" "I" (.int (0 : Int32)) := ((((fF_a1_base.ext E2).other W3 (Or.inr (slot_ne (Or.inl (hw _ (List.mem_of_getElem? (i := 21) rfl))) (Or.inl (hw _ (List.mem_of_getElem? (i := 11) rfl))) (by decide) (t := .int) (t' := (.array .long)) (by decide) (by decide)))).ext E6).other W9 (Or.inr (slot_ne (Or.inl (hw _ (List.mem_of_getElem? (i := 21) rfl))) (Or.inl (hw _ (List.mem_of_getElem? (i := 14) rfl))) (by decide) (t := .int) (t' := (.array .int)) (by decide) (by decide))))
    have F15 : Arv Z h9 b6 k6 .int (0 : Int32) [] (.int (0 : Int32)) := (V6.other W9 (Ne.symm ne_a1_b6))
    exact ⟨rfl, N9, K9, F13, F14, b6, k6, sz_b6, Fw9, F15⟩
theorem own_d_scale_0 : decode prog_24_method_7_code 0 = .ok (.iload_n 1, 1) := by decide +kernel
theorem own_d_scale_1 : decode prog_24_method_7_code 1 = .ok (.aload_n 0, 1) := by decide +kernel
theorem own_d_scale_2 : decode prog_24_method_7_code 2 = .ok (.getfield 72, 3) := by decide +kernel
theorem own_d_scale_5 : decode prog_24_method_7_code 5 = .ok (.isub, 1) := by decide +kernel
theorem own_d_scale_6 : decode prog_24_method_7_code 6 = .ok (.istore_n 2, 1) := by decide +kernel
theorem own_d_scale_7 : decode prog_24_method_7_code 7 = .ok (.iload_n 2, 1) := by decide +kernel
theorem own_d_scale_8 : decode prog_24_method_7_code 8 = .ok (.ifCond .lt 21, 3) := by decide +kernel
theorem own_d_scale_11 : decode prog_24_method_7_code 11 = .ok (.iload_n 2, 1) := by decide +kernel
theorem own_d_scale_12 : decode prog_24_method_7_code 12 = .ok (.aload_n 0, 1) := by decide +kernel
theorem own_d_scale_13 : decode prog_24_method_7_code 13 = .ok (.getfield 15, 3) := by decide +kernel
theorem own_d_scale_16 : decode prog_24_method_7_code 16 = .ok (.arraylength, 1) := by decide +kernel
theorem own_d_scale_17 : decode prog_24_method_7_code 17 = .ok (.if_icmp .ge 12, 3) := by decide +kernel
theorem own_d_scale_29 : decode prog_24_method_7_code 29 = .ok (.ldc 132, 2) := by decide +kernel
theorem own_d_scale_31 : decode prog_24_method_7_code 31 = .ok (.ireturn, 1) := by decide +kernel
theorem own_ef_scale (m : MethodId) (a1 : Addr) (p2 : Int32) : entryFrame m #[(.ref a1), (.int p2)] 3 = mkF m 0 #[.val (.ref a1), .val (.int p2), .unset] [] := by first | (simp [entryFrame, mkF, argsToLocals, Value.category]; done) | rfl
def Q_scale (Z : State) (a1 : Addr) (p2 : Int32) (b : Addr) (kk : ClassId) (h0 : Heap) (n0 : Nat) (v : Option Value) (h : Heap) (L : List Loc) : Prop := v = some (.int (-2147483648 : Int32)) ∧ Fr n0 L ∧ h = h0
set_option maxRecDepth 65536 in
set_option maxHeartbeats 40000000 in
theorem rm_scale (l : Launch) (Z : State) (a0 : Array Value) (hw : ∀ d ∈ tables_1, d.before a0 Z = true) (ws : List Jvm.Cond) (a1 : Addr) (p2 : Int32) (b : Addr) (kk : ClassId) (h0 : Heap) (n0 : Nat) (Z0 : n0 ≤ h0.size) (fF_a1_base : Fld Z h0 a1 "com/example/basketwright/basketwright/PriceHistory$Day" "base" "I" (.int (0 : Int32))) (fF_a1_scales : Fld Z h0 a1 "com/example/basketwright/basketwright/PriceHistory$Day" "scales" "[I" (.ref b)) (fV_b : Arv Z h0 b kk .int (0 : Int32) [] (.int (0 : Int32))) :
    MetFree l (⟨"com/example/basketwright/basketwright/PriceHistory$Day", "scale", "(I)I"⟩ : MethodName) (head1 (Jvm.Cond.code (⟨"com/example/basketwright/basketwright/PriceHistory$Day", "scale", "(I)I"⟩ : MethodName) prog_24_method_7_code 3 (some .int) :: ws) ({ frames := 0, cells := 0, slots := 0, locals := 0 } : Room)) (fun a U => a = #[(.ref a1), (.int p2)] ∧ Z.Warmed39 U.vm ∧ U.heap = h0) (fun _ _ _ _ _ => True) (fun _ U o U' => ∃ v L, o = .returned v ∧ Q_scale Z a1 p2 b kk h0 n0 v U'.heap L ∧ FrameEnd U o U' L ({ frames := 0, cells := 0, slots := 0, locals := 0 } : Room).cells ({ frames := 0, cells := 0, slots := 0, locals := 0 } : Room).slots) := by
  refine MetFree.of_bodySF (plainFor_of_name own_pn0) hisR ?_
  intro p e s m args below meth c s₁ Bd hml0 hP hK
  obtain ⟨rfl, hZ, hh⟩ := hP
  have hx := Bd.exec
  have hby := Bd.bytes
  have hml : c.maxLocals = 3 := hml0
  have hown : s.vm.findClass "com/example/basketwright/basketwright/PriceHistory$Day" = some m.cls := findClass_of_methodNamed Bd.named
  have hnm := (name_of_methodNamed Bd.named Bd.method).1
  have X0 : Stand p l e ({ frames := 0, cells := 0, slots := 0, locals := 0 } : Room) s m #[(.ref a1), (.int p2)] below meth c s₁ [] 0 0 := Stand.of_body Bd
  have e0 : s₁.heap = h0 := by rw [← hh, Bd.state]; rfl
  have N0 := Fr.nil n0
  have pre0 : ∀ t, Steps p.tables e below (s₁.setTop (mkF m 0 #[.val (.ref a1), .val (.int p2), .unset] [])) t → Steps p.tables e below (s₁.setTop (entryFrame m #[(.ref a1), (.int p2)] 3)) t := fun t k => castTop (own_ef_scale m a1 p2) k
  obtain ⟨T1, X1, e1, st1⟩ := getF X0 hx hZ hown (host := "") (Or.inl (hw _ (List.mem_of_getElem? (i := 20) rfl))) Via.refl e0 fF_a1_base (g := (mkF m 2 #[.val (.ref a1), .val (.int p2), .unset] [(.ref a1), (.int p2)])) rfl rfl (hb hby own_d_scale_2)
  have way2 : ∀ t, Steps p.tables e below (T1.setTop (mkF m 8 #[.val (.ref a1), .val (.int p2), .val (.int (p2 - (0 : Int32)))] [(.int (p2 - (0 : Int32)))])) t → Steps p.tables e below (s₁.setTop (entryFrame m #[(.ref a1), (.int p2)] 3)) t := fun t k => pre0 t (by
    show Steps p.tables e below (s₁.setTop (mkF m 0 #[.val (.ref a1), .val (.int p2), .unset] [])) _
    refine XS.iloadN X0.here hx rfl (hb hby own_d_scale_0) rfl ?_
    show Steps p.tables e below (s₁.setTop (mkF m 1 #[.val (.ref a1), .val (.int p2), .unset] [(.int p2)])) _
    refine XS.aloadN X0.here hx rfl (hb hby own_d_scale_1) rfl rfl ?_
    show Steps p.tables e below (s₁.setTop (mkF m 2 #[.val (.ref a1), .val (.int p2), .unset] [(.ref a1), (.int p2)])) _
    refine st1 _ ?_
    show Steps p.tables e below (T1.setTop (mkF m 5 #[.val (.ref a1), .val (.int p2), .unset] [(.int (0 : Int32)), (.int p2)])) _
    refine XS.isub X1.here hx rfl (hb hby own_d_scale_5) rfl ?_
    show Steps p.tables e below (T1.setTop (mkF m 6 #[.val (.ref a1), .val (.int p2), .unset] [(.int (p2 - (0 : Int32)))])) _
    refine XS.istoreN X1.here hx rfl (hb hby own_d_scale_6) rfl (l' := #[.val (.ref a1), .val (.int p2), .val (.int (p2 - (0 : Int32)))]) rfl ?_
    show Steps p.tables e below (T1.setTop (mkF m 7 #[.val (.ref a1), .val (.int p2), .val (.int (p2 - (0 : Int32)))] [])) _
    refine XS.iloadN X1.here hx rfl (hb hby own_d_scale_7) rfl ?_
    exact k)
  by_cases hc3 : (p2 - (0 : Int32)) < (0 : Int32)
  ·
    have way4 : ∀ t, Steps p.tables e below (T1.setTop (mkF m 31 #[.val (.ref a1), .val (.int p2), .val (.int (p2 - (0 : Int32)))] [(.int (-2147483648 : Int32))])) t → Steps p.tables e below (s₁.setTop (entryFrame m #[(.ref a1), (.int p2)] 3)) t := fun t k => way2 t (by
      show Steps p.tables e below (T1.setTop (mkF m 8 #[.val (.ref a1), .val (.int p2), .val (.int (p2 - (0 : Int32)))] [(.int (p2 - (0 : Int32)))])) _
      refine XS.ifYes X1.here hx rfl (pc0 := 8) (pc' := 29) rfl (hb hby own_d_scale_8) rfl ((if0 _ _).trans (tlt hc3).1) (by decide) (by decide) ?_
      show Steps p.tables e below (T1.setTop (mkF m 29 #[.val (.ref a1), .val (.int p2), .val (.int (p2 - (0 : Int32)))] [])) _
      refine X1.ldcInt hx hown (mvT hZ (hw _ (List.mem_of_getElem? (i := 22) rfl))) (g := (mkF m 29 #[.val (.ref a1), .val (.int p2), .val (.int (p2 - (0 : Int32)))] [])) rfl (hb hby own_d_scale_29) _ ?_
      exact k)
    obtain ⟨fs, hr, hrun, hended, hW, hsame⟩ := X1.leave (v := some (.int (-2147483648 : Int32))) (fun h => by rw [Bd.returns] at h; cases h)
    refine ⟨_, _, way4 _ ?_, hrun, hended, _, _, rfl, ?_, ⟨_, rfl⟩, hW, hsame.mono (by decide) (by decide)⟩
    · show Steps p.tables e below (T1.setTop (mkF m 31 #[.val (.ref a1), .val (.int p2), .val (.int (p2 - (0 : Int32)))] [(.int (-2147483648 : Int32))])) _
      exact retI X1 hx Bd.returns (hb hby own_d_scale_31) hr
    · show Q_scale Z a1 p2 b kk h0 n0 _ T1.heap _
      rw [e1]
      exact ⟨rfl, N0, rfl⟩
  ·
    obtain ⟨T5, X5, e5, st5⟩ := getF X1 hx hZ hown (host := "") (Or.inl (hw _ (List.mem_of_getElem? (i := 13) rfl))) Via.refl e1 fF_a1_scales (g := (mkF m 13 #[.val (.ref a1), .val (.int p2), .val (.int (p2 - (0 : Int32)))] [(.ref a1), (.int (p2 - (0 : Int32)))])) rfl rfl (hb hby own_d_scale_13)
    obtain ⟨cl6, Ar6, -, S6, M6, -, -⟩ := fV_b
    have way7 : ∀ t, Steps p.tables e below (T5.setTop (mkF m 31 #[.val (.ref a1), .val (.int p2), .val (.int (p2 - (0 : Int32)))] [(.int (-2147483648 : Int32))])) t → Steps p.tables e below (s₁.setTop (entryFrame m #[(.ref a1), (.int p2)] 3)) t := fun t k => way2 t (by
      show Steps p.tables e below (T1.setTop (mkF m 8 #[.val (.ref a1), .val (.int p2), .val (.int (p2 - (0 : Int32)))] [(.int (p2 - (0 : Int32)))])) _
      refine XS.ifNo X1.here hx rfl (hb hby own_d_scale_8) rfl ((if0 _ _).trans (flt hc3).1) ?_
      show Steps p.tables e below (T1.setTop (mkF m 11 #[.val (.ref a1), .val (.int p2), .val (.int (p2 - (0 : Int32)))] [])) _
      refine XS.iloadN X1.here hx rfl (hb hby own_d_scale_11) rfl ?_
      show Steps p.tables e below (T1.setTop (mkF m 12 #[.val (.ref a1), .val (.int p2), .val (.int (p2 - (0 : Int32)))] [(.int (p2 - (0 : Int32)))])) _
      refine XS.aloadN X1.here hx rfl (hb hby own_d_scale_12) rfl rfl ?_
      show Steps p.tables e below (T1.setTop (mkF m 13 #[.val (.ref a1), .val (.int p2), .val (.int (p2 - (0 : Int32)))] [(.ref a1), (.int (p2 - (0 : Int32)))])) _
      refine st5 _ ?_
      show Steps p.tables e below (T5.setTop (mkF m 16 #[.val (.ref a1), .val (.int p2), .val (.int (p2 - (0 : Int32)))] [(.ref b), (.int (p2 - (0 : Int32)))])) _
      refine X5.arraylength hx (by rw [e5]; exact Ar6.1) (State.isArrayOf_alike hZ.alike Ar6.2.1) (g := (mkF m 16 #[.val (.ref a1), .val (.int p2), .val (.int (p2 - (0 : Int32)))] [(.ref b), (.int (p2 - (0 : Int32)))])) rfl rfl (hb hby own_d_scale_16) _ ?_
      rw [len_of S6 M6]
      show Steps p.tables e below (T5.setTop (mkF m 17 #[.val (.ref a1), .val (.int p2), .val (.int (p2 - (0 : Int32)))] [(.int (0 : Int32)), (.int (p2 - (0 : Int32)))])) _
      refine XS.icmpYes X5.here hx rfl (pc0 := 17) (pc' := 29) rfl (hb hby own_d_scale_17) rfl (flt hc3).2.1 (by decide) (by decide) ?_
      show Steps p.tables e below (T5.setTop (mkF m 29 #[.val (.ref a1), .val (.int p2), .val (.int (p2 - (0 : Int32)))] [])) _
      refine X5.ldcInt hx hown (mvT hZ (hw _ (List.mem_of_getElem? (i := 22) rfl))) (g := (mkF m 29 #[.val (.ref a1), .val (.int p2), .val (.int (p2 - (0 : Int32)))] [])) rfl (hb hby own_d_scale_29) _ ?_
      exact k)
    obtain ⟨fs, hr, hrun, hended, hW, hsame⟩ := X5.leave (v := some (.int (-2147483648 : Int32))) (fun h => by rw [Bd.returns] at h; cases h)
    refine ⟨_, _, way7 _ ?_, hrun, hended, _, _, rfl, ?_, ⟨_, rfl⟩, hW, hsame.mono (by decide) (by decide)⟩
    · show Steps p.tables e below (T5.setTop (mkF m 31 #[.val (.ref a1), .val (.int p2), .val (.int (p2 - (0 : Int32)))] [(.int (-2147483648 : Int32))])) _
      exact retI X5 hx Bd.returns (hb hby own_d_scale_31) hr
    · show Q_scale Z a1 p2 b kk h0 n0 _ T5.heap _
      rw [e5]
      exact ⟨rfl, N0, rfl⟩
theorem own_pn1 : plainName "com/example/basketwright/basketwright/DayScalePinLaw" = true := by first | (simp [plainName, overriddenIn]; done) | decide +kernel
theorem own_pd2 : parseMethodDescriptor "()V" = some ⟨[], none⟩ := by decide +kernel
theorem own_pd3 : parseMethodDescriptor "(I)I" = some ⟨[.int], some .int⟩ := by decide +kernel
theorem own_ef_law (m : MethodId) (p1 : Int32) (p2 : Int32) : entryFrame m #[(.int p1), (.int p2)] maxLocals = mkF m 0 #[.val (.int p1), .val (.int p2), .unset, .unset, .unset, .unset, .unset] [] := by first | (simp [entryFrame, mkF, argsToLocals, Value.category, maxLocals]; done) | rfl
def Q_law (Z : State) (p1 : Int32) (p2 : Int32) (h0 : Heap) (n0 : Nat) (v : Option Value) (h : Heap) (L : List Loc) : Prop := v = some (.int (1 : Int32)) ∧ Fr n0 L
set_option maxRecDepth 65536 in
set_option maxHeartbeats 40000000 in
theorem rm_law (l : Launch) (Z : State) (a0 : Array Value) (hw : ∀ d ∈ tables_1, d.before a0 Z = true) (ws : List Jvm.Cond) (p1 : Int32) (p2 : Int32) (h0 : Heap) (n0 : Nat) (Z0 : n0 ≤ h0.size) :
    MetFree l x (head1 (Jvm.Cond.code x code maxLocals ret :: ws) room_1) (fun a U => a = #[(.int p1), (.int p2)] ∧ Z.Warmed39 U.vm ∧ U.heap = h0) (fun _ _ _ _ _ => True) (fun _ U o U' => ∃ v L, o = .returned v ∧ Q_law Z p1 p2 h0 n0 v U'.heap L ∧ FrameEnd U o U' L room_1.cells room_1.slots) := by
  refine MetFree.of_bodySF (plainFor_of_name own_pn1) hisR ?_
  intro p e s m args below meth c s₁ Bd hml0 hP hK
  obtain ⟨rfl, hZ, hh⟩ := hP
  have hx := Bd.exec
  have hby := Bd.bytes
  have hml : c.maxLocals = 7 := hml0
  have hown : s.vm.findClass "com/example/basketwright/basketwright/DayScalePinLaw" = some m.cls := findClass_of_methodNamed Bd.named
  have hnm := (name_of_methodNamed Bd.named Bd.method).1
  have X0 : Stand p l e room_1 s m #[(.int p1), (.int p2)] below meth c s₁ [] 0 0 := Stand.of_body Bd
  have e0 : s₁.heap = h0 := by rw [← hh, Bd.state]; rfl
  have N0 := Fr.nil n0
  have pre0 : ∀ t, Steps p.tables e below (s₁.setTop (mkF m 0 #[.val (.int p1), .val (.int p2), .unset, .unset, .unset, .unset, .unset] [])) t → Steps p.tables e below (s₁.setTop (entryFrame m #[(.int p1), (.int p2)] maxLocals)) t := fun t k => castTop (own_ef_law m p1 p2) k
  obtain ⟨T1, h1, X1, e1, E1, A1, D1, -, st1⟩ := newO X0 hx hZ hown (hw _ (List.mem_of_getElem? (i := 0) rfl)) (hw _ (List.mem_of_getElem? (i := 1) rfl)) (hw _ (List.mem_of_getElem? (i := 2) rfl)) e0 (g := (mkF m 0 #[.val (.int p1), .val (.int p2), .unset, .unset, .unset, .unset, .unset] [])) rfl (hb hby at_0) (by decide) (by decide)
  obtain ⟨b1, g1⟩ : ∃ z, z = h0.size := ⟨_, rfl⟩
  rw [← g1] at A1 D1 st1
  have sz_b1 : h0.size ≤ b1 := Nat.le_trans (Keep.refl h0 []).1 (Nat.le_of_eq g1.symm)
  have g_b1 : n0 ≤ b1 := Nat.le_trans Z0 sz_b1
  have K1 : Keep h0 h1 [] := (Keep.refl h0 []).ext E1
  have F1_11 : Fld Z h1 b1 "com/example/basketwright/basketwright/PriceHistory$Day" "unscaled" "[J" .null := D1 (Or.inl (hw _ (List.mem_of_getElem? (i := 11) rfl))) (ty := (.array .long)) (by decide)
  have F1_14 : Fld Z h1 b1 "com/example/basketwright/basketwright/PriceHistory$Day" "scales" "[I" .null := D1 (Or.inl (hw _ (List.mem_of_getElem? (i := 14) rfl))) (ty := (.array .int)) (by decide)
  have F1_21 : Fld Z h1 b1 "com/example/basketwright/basketwright/PriceHistory$Day" "base" "I" (.int (0 : Int32)) := D1 (Or.inl (hw _ (List.mem_of_getElem? (i := 21) rfl))) (ty := .int) (by decide)
  obtain ⟨_, _, ⟨T2, L2, k2, n2⟩, -, X2, ⟨Lc2, hQ2, l2, y2, z2⟩, st2⟩ := X1.specialBack hx (y := (⟨"com/example/basketwright/basketwright/PriceHistory$Day", "<init>", "()V"⟩ : MethodName)) rfl hown (mvT hZ (hw _ (List.mem_of_getElem? (i := 3) rfl))) (mvT hZ (hw _ (List.mem_of_getElem? (i := 4) rfl))) (mvT hZ (hw _ (List.mem_of_getElem? (i := 5) rfl))) (by decide) (backOf (W := 1) (rm_init l Z a0 hw [] b1 h1 n0 (Nat.le_trans Z0 K1.1) g_b1 A1 F1_21 F1_14 F1_11) hZ (hw _ (List.mem_of_getElem? (i := 5) rfl)) (hw _ (List.mem_of_getElem? (i := 2) rfl)) (by decide) (by decide)) (g := (mkF m 4 #[.val (.int p1), .val (.int p2), .unset, .unset, .unset, .unset, .unset] [(.ref b1), (.ref b1)])) rfl (by rw [hml]; rfl) (Steps.refl _) (a := b1) (argsL := []) (rest := [(.ref b1)]) (lenOf own_pd2 rfl) rfl (by show 2 * 0 + _ ≤ _; exact Nat.le_of_eq rfl) (hb hby at_4) (fun _ _ => ⟨rfl, e1, (by decide : 1 + 2 ≤ _), (by decide : 5 + 0 ≤ _)⟩)
  dsimp only [Pt.U, Pt.locs, Pt.cells, Pt.slots] at X2 l2 y2 z2 st2 hQ2
  subst l2 y2 z2
  obtain ⟨rfl, N2q, Kc2, Ec2, Fb2, bb2, kk2, sb2, Fs2, Vv2⟩ := hQ2
  have N2 := Fr.app N0 N2q
  have ne_b1_bb2 : b1 ≠ bb2 := Nat.ne_of_lt (Nat.lt_of_lt_of_le A1.lt sb2)
  have sz_bb2 : h0.size ≤ bb2 := Nat.le_trans K1.1 sb2
  have g_bb2 : n0 ≤ bb2 := Nat.le_trans Z0 sz_bb2
  have K2 : Keep h0 T2.heap [] := K1.trans Kc2 (fun x hx => by cases List.mem_singleton.mp hx; exact Or.inr sz_b1)
  have F4 : Exa Z T2.heap b1 "com/example/basketwright/basketwright/PriceHistory$Day" := (A1.keep Kc2)
  obtain ⟨cq3, kq3, q3a, q3b, q3c⟩ := isOf hZ rfl F4
  obtain ⟨_, _, ⟨T3, L3, k3, n3⟩, -, X3, ⟨Lc3, hQ3, l3, y3, z3⟩, st3⟩ := X2.virtualBack hx (y := (⟨"com/example/basketwright/basketwright/PriceHistory$Day", "scale", "(I)I"⟩ : MethodName)) (z := (⟨"com/example/basketwright/basketwright/PriceHistory$Day", "scale", "(I)I"⟩ : MethodName)) hown (mvT hZ (hw _ (List.mem_of_getElem? (i := 15) rfl))) (mvT hZ (hw _ (List.mem_of_getElem? (i := 16) rfl))) (notFace_of_selects (args := #[]) (mvT hZ (hw _ (List.mem_of_getElem? (i := 18) rfl)))) (mvT hZ (hw _ (List.mem_of_getElem? (i := 18) rfl))) (mvT hZ (hw _ (List.mem_of_getElem? (i := 17) rfl))) (by decide) (backOf (W := 0) (rm_scale l Z a0 hw [] b1 p1 bb2 kk2 T2.heap n0 (Nat.le_trans Z0 K2.1) Fb2 Fs2 Vv2) hZ (hw _ (List.mem_of_getElem? (i := 19) rfl)) (hw _ (List.mem_of_getElem? (i := 2) rfl)) (by decide) (by decide)) q3a q3c (g := (mkF m 10 #[.val (.int p1), .val (.int p2), .val (.ref b1), .unset, .unset, .unset, .unset] [(.int p1), (.ref b1)])) rfl (by rw [hml]; rfl) (Steps.refl _) (argsL := [(.int p1)]) (rest := []) (lenOf own_pd3 rfl) rfl (by show 2 * 0 + _ ≤ _; exact Nat.le_of_eq rfl) (hb hby at_10) (fun _ _ => ⟨rfl, rfl, (by decide : 3 + 0 ≤ _), (by decide : 5 + 0 ≤ _)⟩)
  dsimp only [Pt.U, Pt.locs, Pt.cells, Pt.slots] at X3 l3 y3 z3 st3 hQ3
  subst l3 y3 z3
  obtain ⟨rfl, N3q, hh3⟩ := hQ3
  have N3 := Fr.app N2 N3q
  obtain ⟨cq5, kq5, q5a, q5b, q5c⟩ := isOf hZ hh3 F4
  obtain ⟨_, _, ⟨T5, L5, k5, n5⟩, -, X5, ⟨Lc5, hQ5, l5, y5, z5⟩, st5⟩ := X3.virtualBack hx (y := (⟨"com/example/basketwright/basketwright/PriceHistory$Day", "scale", "(I)I"⟩ : MethodName)) (z := (⟨"com/example/basketwright/basketwright/PriceHistory$Day", "scale", "(I)I"⟩ : MethodName)) hown (mvT hZ (hw _ (List.mem_of_getElem? (i := 15) rfl))) (mvT hZ (hw _ (List.mem_of_getElem? (i := 16) rfl))) (notFace_of_selects (args := #[]) (mvT hZ (hw _ (List.mem_of_getElem? (i := 18) rfl)))) (mvT hZ (hw _ (List.mem_of_getElem? (i := 18) rfl))) (mvT hZ (hw _ (List.mem_of_getElem? (i := 17) rfl))) (by decide) (backOf (W := 0) (rm_scale l Z a0 hw [] b1 p2 bb2 kk2 T2.heap n0 (Nat.le_trans Z0 K2.1) Fb2 Fs2 Vv2) hZ (hw _ (List.mem_of_getElem? (i := 19) rfl)) (hw _ (List.mem_of_getElem? (i := 2) rfl)) (by decide) (by decide)) q5a q5c (g := (mkF m 16 #[.val (.int p1), .val (.int p2), .val (.ref b1), .val (.int (-2147483648 : Int32)), .unset, .unset, .unset] [(.int p2), (.ref b1)])) rfl (by rw [hml]; rfl) (Steps.refl _) (argsL := [(.int p2)]) (rest := []) (lenOf own_pd3 rfl) rfl (by show 2 * 0 + _ ≤ _; exact Nat.le_of_eq rfl) (hb hby at_16) (fun _ _ => ⟨rfl, hh3, (by decide : 3 + 0 ≤ _), (by decide : 5 + 0 ≤ _)⟩)
  dsimp only [Pt.U, Pt.locs, Pt.cells, Pt.slots] at X5 l5 y5 z5 st5 hQ5
  subst l5 y5 z5
  obtain ⟨rfl, N5q, hh5⟩ := hQ5
  have N5 := Fr.app N3 N5q
  obtain ⟨cq6, kq6, q6a, q6b, q6c⟩ := isOf hZ hh5 F4
  obtain ⟨_, _, ⟨T6, L6, k6, n6⟩, -, X6, ⟨Lc6, hQ6, l6, y6, z6⟩, st6⟩ := X5.virtualBack hx (y := (⟨"com/example/basketwright/basketwright/PriceHistory$Day", "scale", "(I)I"⟩ : MethodName)) (z := (⟨"com/example/basketwright/basketwright/PriceHistory$Day", "scale", "(I)I"⟩ : MethodName)) hown (mvT hZ (hw _ (List.mem_of_getElem? (i := 15) rfl))) (mvT hZ (hw _ (List.mem_of_getElem? (i := 16) rfl))) (notFace_of_selects (args := #[]) (mvT hZ (hw _ (List.mem_of_getElem? (i := 18) rfl)))) (mvT hZ (hw _ (List.mem_of_getElem? (i := 18) rfl))) (mvT hZ (hw _ (List.mem_of_getElem? (i := 17) rfl))) (by decide) (backOf (W := 0) (rm_scale l Z a0 hw [] b1 (-1 : Int32) bb2 kk2 T2.heap n0 (Nat.le_trans Z0 K2.1) Fb2 Fs2 Vv2) hZ (hw _ (List.mem_of_getElem? (i := 19) rfl)) (hw _ (List.mem_of_getElem? (i := 2) rfl)) (by decide) (by decide)) q6a q6c (g := (mkF m 23 #[.val (.int p1), .val (.int p2), .val (.ref b1), .val (.int (-2147483648 : Int32)), .val (.int (-2147483648 : Int32)), .unset, .unset] [(.int (-1 : Int32)), (.ref b1)])) rfl (by rw [hml]; rfl) (Steps.refl _) (argsL := [(.int (-1 : Int32))]) (rest := []) (lenOf own_pd3 rfl) rfl (by show 2 * 0 + _ ≤ _; exact Nat.le_of_eq rfl) (hb hby at_23) (fun _ _ => ⟨rfl, hh5, (by decide : 3 + 0 ≤ _), (by decide : 5 + 0 ≤ _)⟩)
  dsimp only [Pt.U, Pt.locs, Pt.cells, Pt.slots] at X6 l6 y6 z6 st6 hQ6
  subst l6 y6 z6
  obtain ⟨rfl, N6q, hh6⟩ := hQ6
  have N6 := Fr.app N5 N6q
  obtain ⟨cq7, kq7, q7a, q7b, q7c⟩ := isOf hZ hh6 F4
  obtain ⟨_, _, ⟨T7, L7, k7, n7⟩, -, X7, ⟨Lc7, hQ7, l7, y7, z7⟩, st7⟩ := X6.virtualBack hx (y := (⟨"com/example/basketwright/basketwright/PriceHistory$Day", "scale", "(I)I"⟩ : MethodName)) (z := (⟨"com/example/basketwright/basketwright/PriceHistory$Day", "scale", "(I)I"⟩ : MethodName)) hown (mvT hZ (hw _ (List.mem_of_getElem? (i := 15) rfl))) (mvT hZ (hw _ (List.mem_of_getElem? (i := 16) rfl))) (notFace_of_selects (args := #[]) (mvT hZ (hw _ (List.mem_of_getElem? (i := 18) rfl)))) (mvT hZ (hw _ (List.mem_of_getElem? (i := 18) rfl))) (mvT hZ (hw _ (List.mem_of_getElem? (i := 17) rfl))) (by decide) (backOf (W := 0) (rm_scale l Z a0 hw [] b1 (0 : Int32) bb2 kk2 T2.heap n0 (Nat.le_trans Z0 K2.1) Fb2 Fs2 Vv2) hZ (hw _ (List.mem_of_getElem? (i := 19) rfl)) (hw _ (List.mem_of_getElem? (i := 2) rfl)) (by decide) (by decide)) q7a q7c (g := (mkF m 30 #[.val (.int p1), .val (.int p2), .val (.ref b1), .val (.int (-2147483648 : Int32)), .val (.int (-2147483648 : Int32)), .val (.int (-2147483648 : Int32)), .unset] [(.int (0 : Int32)), (.ref b1)])) rfl (by rw [hml]; rfl) (Steps.refl _) (argsL := [(.int (0 : Int32))]) (rest := []) (lenOf own_pd3 rfl) rfl (by show 2 * 0 + _ ≤ _; exact Nat.le_of_eq rfl) (hb hby at_30) (fun _ _ => ⟨rfl, hh6, (by decide : 3 + 0 ≤ _), (by decide : 5 + 0 ≤ _)⟩)
  dsimp only [Pt.U, Pt.locs, Pt.cells, Pt.slots] at X7 l7 y7 z7 st7 hQ7
  subst l7 y7 z7
  obtain ⟨rfl, N7q, hh7⟩ := hQ7
  have N7 := Fr.app N6 N7q
  have way8 : ∀ t, Steps p.tables e below (T7.setTop (mkF m 67 #[.val (.int p1), .val (.int p2), .val (.ref b1), .val (.int (-2147483648 : Int32)), .val (.int (-2147483648 : Int32)), .val (.int (-2147483648 : Int32)), .val (.int (-2147483648 : Int32))] [(.int (1 : Int32))])) t → Steps p.tables e below (s₁.setTop (entryFrame m #[(.int p1), (.int p2)] maxLocals)) t := fun t k => pre0 t (by
    show Steps p.tables e below (s₁.setTop (mkF m 0 #[.val (.int p1), .val (.int p2), .unset, .unset, .unset, .unset, .unset] [])) _
    refine st1 _ ?_
    show Steps p.tables e below (T1.setTop (mkF m 3 #[.val (.int p1), .val (.int p2), .unset, .unset, .unset, .unset, .unset] [(.ref b1)])) _
    refine XS.dup X1.here hx rfl (hb hby at_3) rfl rfl ?_
    show Steps p.tables e below (T1.setTop (mkF m 4 #[.val (.int p1), .val (.int p2), .unset, .unset, .unset, .unset, .unset] [(.ref b1), (.ref b1)])) _
    refine st2.trans ?_
    show Steps p.tables e below (T2.setTop (mkF m 7 #[.val (.int p1), .val (.int p2), .unset, .unset, .unset, .unset, .unset] [(.ref b1)])) _
    refine XS.astoreN X2.here hx rfl (hb hby at_7) rfl rfl (l' := #[.val (.int p1), .val (.int p2), .val (.ref b1), .unset, .unset, .unset, .unset]) rfl ?_
    show Steps p.tables e below (T2.setTop (mkF m 8 #[.val (.int p1), .val (.int p2), .val (.ref b1), .unset, .unset, .unset, .unset] [])) _
    refine XS.aloadN X2.here hx rfl (hb hby at_8) rfl rfl ?_
    show Steps p.tables e below (T2.setTop (mkF m 9 #[.val (.int p1), .val (.int p2), .val (.ref b1), .unset, .unset, .unset, .unset] [(.ref b1)])) _
    refine XS.iloadN X2.here hx rfl (hb hby at_9) rfl ?_
    show Steps p.tables e below (T2.setTop (mkF m 10 #[.val (.int p1), .val (.int p2), .val (.ref b1), .unset, .unset, .unset, .unset] [(.int p1), (.ref b1)])) _
    refine st3.trans ?_
    show Steps p.tables e below (T3.setTop (mkF m 13 #[.val (.int p1), .val (.int p2), .val (.ref b1), .unset, .unset, .unset, .unset] [(.int (-2147483648 : Int32))])) _
    refine XS.istoreN X3.here hx rfl (hb hby at_13) rfl (l' := #[.val (.int p1), .val (.int p2), .val (.ref b1), .val (.int (-2147483648 : Int32)), .unset, .unset, .unset]) rfl ?_
    show Steps p.tables e below (T3.setTop (mkF m 14 #[.val (.int p1), .val (.int p2), .val (.ref b1), .val (.int (-2147483648 : Int32)), .unset, .unset, .unset] [])) _
    refine XS.aloadN X3.here hx rfl (hb hby at_14) rfl rfl ?_
    show Steps p.tables e below (T3.setTop (mkF m 15 #[.val (.int p1), .val (.int p2), .val (.ref b1), .val (.int (-2147483648 : Int32)), .unset, .unset, .unset] [(.ref b1)])) _
    refine XS.iloadN X3.here hx rfl (hb hby at_15) rfl ?_
    show Steps p.tables e below (T3.setTop (mkF m 16 #[.val (.int p1), .val (.int p2), .val (.ref b1), .val (.int (-2147483648 : Int32)), .unset, .unset, .unset] [(.int p2), (.ref b1)])) _
    refine st5.trans ?_
    show Steps p.tables e below (T5.setTop (mkF m 19 #[.val (.int p1), .val (.int p2), .val (.ref b1), .val (.int (-2147483648 : Int32)), .unset, .unset, .unset] [(.int (-2147483648 : Int32))])) _
    refine XS.istore X5.here hx rfl (hb hby at_19) rfl (l' := #[.val (.int p1), .val (.int p2), .val (.ref b1), .val (.int (-2147483648 : Int32)), .val (.int (-2147483648 : Int32)), .unset, .unset]) rfl ?_
    show Steps p.tables e below (T5.setTop (mkF m 21 #[.val (.int p1), .val (.int p2), .val (.ref b1), .val (.int (-2147483648 : Int32)), .val (.int (-2147483648 : Int32)), .unset, .unset] [])) _
    refine XS.aloadN X5.here hx rfl (hb hby at_21) rfl rfl ?_
    show Steps p.tables e below (T5.setTop (mkF m 22 #[.val (.int p1), .val (.int p2), .val (.ref b1), .val (.int (-2147483648 : Int32)), .val (.int (-2147483648 : Int32)), .unset, .unset] [(.ref b1)])) _
    refine XS.iconst X5.here hx rfl (hb hby at_22) ?_
    show Steps p.tables e below (T5.setTop (mkF m 23 #[.val (.int p1), .val (.int p2), .val (.ref b1), .val (.int (-2147483648 : Int32)), .val (.int (-2147483648 : Int32)), .unset, .unset] [(.int (-1 : Int32)), (.ref b1)])) _
    refine st6.trans ?_
    show Steps p.tables e below (T6.setTop (mkF m 26 #[.val (.int p1), .val (.int p2), .val (.ref b1), .val (.int (-2147483648 : Int32)), .val (.int (-2147483648 : Int32)), .unset, .unset] [(.int (-2147483648 : Int32))])) _
    refine XS.istore X6.here hx rfl (hb hby at_26) rfl (l' := #[.val (.int p1), .val (.int p2), .val (.ref b1), .val (.int (-2147483648 : Int32)), .val (.int (-2147483648 : Int32)), .val (.int (-2147483648 : Int32)), .unset]) rfl ?_
    show Steps p.tables e below (T6.setTop (mkF m 28 #[.val (.int p1), .val (.int p2), .val (.ref b1), .val (.int (-2147483648 : Int32)), .val (.int (-2147483648 : Int32)), .val (.int (-2147483648 : Int32)), .unset] [])) _
    refine XS.aloadN X6.here hx rfl (hb hby at_28) rfl rfl ?_
    show Steps p.tables e below (T6.setTop (mkF m 29 #[.val (.int p1), .val (.int p2), .val (.ref b1), .val (.int (-2147483648 : Int32)), .val (.int (-2147483648 : Int32)), .val (.int (-2147483648 : Int32)), .unset] [(.ref b1)])) _
    refine XS.iconst X6.here hx rfl (hb hby at_29) ?_
    show Steps p.tables e below (T6.setTop (mkF m 30 #[.val (.int p1), .val (.int p2), .val (.ref b1), .val (.int (-2147483648 : Int32)), .val (.int (-2147483648 : Int32)), .val (.int (-2147483648 : Int32)), .unset] [(.int (0 : Int32)), (.ref b1)])) _
    refine st7.trans ?_
    show Steps p.tables e below (T7.setTop (mkF m 33 #[.val (.int p1), .val (.int p2), .val (.ref b1), .val (.int (-2147483648 : Int32)), .val (.int (-2147483648 : Int32)), .val (.int (-2147483648 : Int32)), .unset] [(.int (-2147483648 : Int32))])) _
    refine XS.istore X7.here hx rfl (hb hby at_33) rfl (l' := #[.val (.int p1), .val (.int p2), .val (.ref b1), .val (.int (-2147483648 : Int32)), .val (.int (-2147483648 : Int32)), .val (.int (-2147483648 : Int32)), .val (.int (-2147483648 : Int32))]) rfl ?_
    show Steps p.tables e below (T7.setTop (mkF m 35 #[.val (.int p1), .val (.int p2), .val (.ref b1), .val (.int (-2147483648 : Int32)), .val (.int (-2147483648 : Int32)), .val (.int (-2147483648 : Int32)), .val (.int (-2147483648 : Int32))] [])) _
    refine XS.iloadN X7.here hx rfl (hb hby at_35) rfl ?_
    show Steps p.tables e below (T7.setTop (mkF m 36 #[.val (.int p1), .val (.int p2), .val (.ref b1), .val (.int (-2147483648 : Int32)), .val (.int (-2147483648 : Int32)), .val (.int (-2147483648 : Int32)), .val (.int (-2147483648 : Int32))] [(.int (-2147483648 : Int32))])) _
    refine X7.ldcInt hx hown (mvT hZ (hw _ (List.mem_of_getElem? (i := 23) rfl))) (g := (mkF m 36 #[.val (.int p1), .val (.int p2), .val (.ref b1), .val (.int (-2147483648 : Int32)), .val (.int (-2147483648 : Int32)), .val (.int (-2147483648 : Int32)), .val (.int (-2147483648 : Int32))] [(.int (-2147483648 : Int32))])) rfl (hb hby at_36) _ ?_
    show Steps p.tables e below (T7.setTop (mkF m 38 #[.val (.int p1), .val (.int p2), .val (.ref b1), .val (.int (-2147483648 : Int32)), .val (.int (-2147483648 : Int32)), .val (.int (-2147483648 : Int32)), .val (.int (-2147483648 : Int32))] [(.int (-2147483648 : Int32)), (.int (-2147483648 : Int32))])) _
    refine XS.icmpNo X7.here hx rfl (hb hby at_38) rfl (teq (by decide)).2 ?_
    show Steps p.tables e below (T7.setTop (mkF m 41 #[.val (.int p1), .val (.int p2), .val (.ref b1), .val (.int (-2147483648 : Int32)), .val (.int (-2147483648 : Int32)), .val (.int (-2147483648 : Int32)), .val (.int (-2147483648 : Int32))] [])) _
    refine XS.iload X7.here hx rfl (hb hby at_41) rfl ?_
    show Steps p.tables e below (T7.setTop (mkF m 43 #[.val (.int p1), .val (.int p2), .val (.ref b1), .val (.int (-2147483648 : Int32)), .val (.int (-2147483648 : Int32)), .val (.int (-2147483648 : Int32)), .val (.int (-2147483648 : Int32))] [(.int (-2147483648 : Int32))])) _
    refine X7.ldcInt hx hown (mvT hZ (hw _ (List.mem_of_getElem? (i := 23) rfl))) (g := (mkF m 43 #[.val (.int p1), .val (.int p2), .val (.ref b1), .val (.int (-2147483648 : Int32)), .val (.int (-2147483648 : Int32)), .val (.int (-2147483648 : Int32)), .val (.int (-2147483648 : Int32))] [(.int (-2147483648 : Int32))])) rfl (hb hby at_43) _ ?_
    show Steps p.tables e below (T7.setTop (mkF m 45 #[.val (.int p1), .val (.int p2), .val (.ref b1), .val (.int (-2147483648 : Int32)), .val (.int (-2147483648 : Int32)), .val (.int (-2147483648 : Int32)), .val (.int (-2147483648 : Int32))] [(.int (-2147483648 : Int32)), (.int (-2147483648 : Int32))])) _
    refine XS.icmpNo X7.here hx rfl (hb hby at_45) rfl (teq (by decide)).2 ?_
    show Steps p.tables e below (T7.setTop (mkF m 48 #[.val (.int p1), .val (.int p2), .val (.ref b1), .val (.int (-2147483648 : Int32)), .val (.int (-2147483648 : Int32)), .val (.int (-2147483648 : Int32)), .val (.int (-2147483648 : Int32))] [])) _
    refine XS.iload X7.here hx rfl (hb hby at_48) rfl ?_
    show Steps p.tables e below (T7.setTop (mkF m 50 #[.val (.int p1), .val (.int p2), .val (.ref b1), .val (.int (-2147483648 : Int32)), .val (.int (-2147483648 : Int32)), .val (.int (-2147483648 : Int32)), .val (.int (-2147483648 : Int32))] [(.int (-2147483648 : Int32))])) _
    refine X7.ldcInt hx hown (mvT hZ (hw _ (List.mem_of_getElem? (i := 23) rfl))) (g := (mkF m 50 #[.val (.int p1), .val (.int p2), .val (.ref b1), .val (.int (-2147483648 : Int32)), .val (.int (-2147483648 : Int32)), .val (.int (-2147483648 : Int32)), .val (.int (-2147483648 : Int32))] [(.int (-2147483648 : Int32))])) rfl (hb hby at_50) _ ?_
    show Steps p.tables e below (T7.setTop (mkF m 52 #[.val (.int p1), .val (.int p2), .val (.ref b1), .val (.int (-2147483648 : Int32)), .val (.int (-2147483648 : Int32)), .val (.int (-2147483648 : Int32)), .val (.int (-2147483648 : Int32))] [(.int (-2147483648 : Int32)), (.int (-2147483648 : Int32))])) _
    refine XS.icmpNo X7.here hx rfl (hb hby at_52) rfl (teq (by decide)).2 ?_
    show Steps p.tables e below (T7.setTop (mkF m 55 #[.val (.int p1), .val (.int p2), .val (.ref b1), .val (.int (-2147483648 : Int32)), .val (.int (-2147483648 : Int32)), .val (.int (-2147483648 : Int32)), .val (.int (-2147483648 : Int32))] [])) _
    refine XS.iload X7.here hx rfl (hb hby at_55) rfl ?_
    show Steps p.tables e below (T7.setTop (mkF m 57 #[.val (.int p1), .val (.int p2), .val (.ref b1), .val (.int (-2147483648 : Int32)), .val (.int (-2147483648 : Int32)), .val (.int (-2147483648 : Int32)), .val (.int (-2147483648 : Int32))] [(.int (-2147483648 : Int32))])) _
    refine X7.ldcInt hx hown (mvT hZ (hw _ (List.mem_of_getElem? (i := 23) rfl))) (g := (mkF m 57 #[.val (.int p1), .val (.int p2), .val (.ref b1), .val (.int (-2147483648 : Int32)), .val (.int (-2147483648 : Int32)), .val (.int (-2147483648 : Int32)), .val (.int (-2147483648 : Int32))] [(.int (-2147483648 : Int32))])) rfl (hb hby at_57) _ ?_
    show Steps p.tables e below (T7.setTop (mkF m 59 #[.val (.int p1), .val (.int p2), .val (.ref b1), .val (.int (-2147483648 : Int32)), .val (.int (-2147483648 : Int32)), .val (.int (-2147483648 : Int32)), .val (.int (-2147483648 : Int32))] [(.int (-2147483648 : Int32)), (.int (-2147483648 : Int32))])) _
    refine XS.icmpNo X7.here hx rfl (hb hby at_59) rfl (teq (by decide)).2 ?_
    show Steps p.tables e below (T7.setTop (mkF m 62 #[.val (.int p1), .val (.int p2), .val (.ref b1), .val (.int (-2147483648 : Int32)), .val (.int (-2147483648 : Int32)), .val (.int (-2147483648 : Int32)), .val (.int (-2147483648 : Int32))] [])) _
    refine XS.iconst X7.here hx rfl (hb hby at_62) ?_
    show Steps p.tables e below (T7.setTop (mkF m 63 #[.val (.int p1), .val (.int p2), .val (.ref b1), .val (.int (-2147483648 : Int32)), .val (.int (-2147483648 : Int32)), .val (.int (-2147483648 : Int32)), .val (.int (-2147483648 : Int32))] [(.int (1 : Int32))])) _
    refine XS.goto X7.here hx rfl (pc0 := 63) (pc' := 67) rfl (hb hby at_63) (by decide) (by decide) ?_
    exact k)
  obtain ⟨fs, hr, hrun, hended, hW, hsame⟩ := X7.leave (v := some (.int (1 : Int32))) (fun h => by rw [Bd.returns] at h; cases h)
  refine ⟨_, _, way8 _ ?_, hrun, hended, _, _, rfl, ?_, ⟨_, rfl⟩, hW, hsame.mono (by decide) (by decide)⟩
  · show Steps p.tables e below (T7.setTop (mkF m 67 #[.val (.int p1), .val (.int p2), .val (.ref b1), .val (.int (-2147483648 : Int32)), .val (.int (-2147483648 : Int32)), .val (.int (-2147483648 : Int32)), .val (.int (-2147483648 : Int32))] [(.int (1 : Int32))])) _
    exact retN X7 hx (t := .boolean) Bd.returns (by simp) (hb hby at_67) hr
  · show Q_law Z p1 p2 h0 n0 _ T7.heap _
    rw [hh7]
    exact ⟨rfl, N7⟩
set_option maxRecDepth 65536 in
set_option maxHeartbeats 40000000 in
theorem comes_1 {Post : Tables → Env → Array Value → State → Outcome → State → Prop} (hpost : ∀ tb e args s v u, (limb_1_1.after args s (.returned v) u = true ∧ limb_1_2.after args s (.returned v) u = true ∧ True) → FrameEnd s (.returned v) u (Jvm.fieldLocs frame_1_writes args s ++ Jvm.arrayLocs frame_1_arrays args s ++ Jvm.staticLocs frame_1_statics s) 16 128 → Post tb e args s (.returned v) u) :
    ArmFor flags0 classFile x code maxLocals ret World_1 tables_1 room_1 Calls_1 rest_1 Pre_1 Post := by
  intro l hfl _ _ p e ha hc hk s m args below hf hA hF happ hP
  obtain ⟨hcalls, hrest, hpre⟩ := hP
  obtain ⟨-, -, -, hnamed, -, -, -, hat⟩ := (Spec.applies_iff hf).mp happ
  obtain ⟨hg, hn⟩ := and_e (Cond.before_iff.mp (show (Jvm.Cond.and given_1 narrow_1).before args s = true from hpre))
  obtain ⟨gc, g0⟩ := and_e hg
  obtain ⟨ga0, g1⟩ := and_e g0
  have ga1 := g1
  obtain ⟨w0, w1, rfl⟩ : ∃ w0 w1 : Value, args = #[w0, w1] := by
    have hs : args.size = 2 := by simpa [Cond.value, given_1] using gc
    obtain ⟨L⟩ := args
    match L, hs with
    | [w0, w1], _ => exact ⟨w0, w1, rfl⟩
  have hw := fun d (hd : d ∈ tables_1) => atoms_spec (ws := Jvm.Cond.code x code maxLocals ret :: tables_1) hat d (List.mem_cons_of_mem _ hd)
  have hfit : Fit s := fun {y c} hc i hi => by
    obtain ⟨ha, rfl⟩ := Array.getElem?_eq_some_iff.mp hc
    have q := List.all_eq_true.mp ((Array.all_eq_true_iff_forall_mem.mp hF) _ (Array.getElem_mem ha)) i (List.mem_range.mpr hi)
    simpa [Array.getElem?_eq_getElem hi] using q
  obtain ⟨i0, ei0⟩ := is_v ga0
  obtain rfl : w0 = (.int i0) := Option.some.inj ei0
  obtain ⟨i1, ei1⟩ := is_v ga1
  obtain rfl : w1 = (.int i1) := Option.some.inj ei1
  obtain ⟨n, o, h1, h2, h3, _, L, rfl, ⟨rfl, N⟩, hq⟩ := rm_law l s _ hw tables_1 i0 i1  s.heap s.heap.size (Nat.le_refl _)  p e ha hc hk s m _ below hf ((Spec.applies_iff_loose hf).mp happ).1 ⟨rfl, State.Warmed39.refl s, rfl⟩ trivial
  refine ⟨n, _, h1, h2, h3, hpost _ _ _ _ _ _ ⟨Cond.after_iff.mpr rfl, Cond.after_iff.mpr (eq_i res_at (Term.int_eval (1)) rfl), trivial⟩ ⟨hq.1, hq.2.1, (hq.2.2.sift fun y hy => Or.inr (N y hy)).mono (by decide) (by decide)⟩⟩
theorem main_1_1 : Claimed_1_1 := comes_1 fun _ _ _ _ _ _ h hF => ⟨h.1, hF⟩
theorem main_1_2 : Claimed_1_2 := comes_1 fun _ _ _ _ _ _ h hF => ⟨h.2.1, hF⟩
end Jvm.Pilot.@@N@@
namespace Jvm.Pilot.@@N@@
open Jvm Jvm.ClassFile Sem Op Lib Jvm.Free Jvm.Stand Jvm.Pilot.@@N@@.Jvm.D
/-! MADE BY PROGRAM (witnessworld.py) out of the Statement's table words and the real class files: 11 classes; the members and pool entries that the words name. The judged class is class 1, her method 1. -/
namespace start1
open Jvm.ClassFile
def u (s : String) : CpInfo := .utf8 (stringToUtf16 s)
/-- a pool by its gaps: so many unusable entries, then the entry; so many at the end -/
def gap : Nat → List CpInfo → List CpInfo
  | 0, r => r
  | n + 1, r => .unusable :: gap n r
def poolList (es : List (Nat × CpInfo)) (last : Nat) : List CpInfo := es.foldr (fun e r => gap e.1 (e.2 :: r)) (gap last [])
def pool (es : List (Nat × CpInfo)) (last : Nat) : Array CpInfo := ⟨poolList es last⟩
def fileOf (pool : Array CpInfo) (this : Nat) (attrs : Array Attribute := #[]) (ms : Array MethodInfo := #[]) (fl : Nat := 33) (sup : Nat := 0) (ifs : Array Nat := #[]) (fds : Array FieldInfo := #[]) : ClassFile where
  minorVersion := 0
  majorVersion := 65
  constantPool := pool
  accessFlags := fl
  thisClass := this
  superClass := sup
  interfaces := ifs
  fields := fds
  methods := ms
  attributes := attrs
def plain (name : String) (sup : Option ClassId) : Class where
  name := name
  kind := .ordinary
  loader := none
  accessFlags := 33
  super := sup
  interfaces := #[]
  cf := none
  fields := #[]
  methods := #[]
  instanceTypes := #[]
  staticTypes := #[]
  resolved := #[]
  callSites := []
  init := .initialized
  statics := none
  mirror := none

def pool0 : Array CpInfo := pool [(5, u "<init>"), (0, u "()V"), (1, .class_ 10), (1, u "java/lang/Object")] 113

def k0c0 : Code := { maxStack := 0, maxLocals := 1, code := object_method_1_code, exceptionTable := #[], attributes := #[] }
def k0m0 : Method := { name := "<init>", desc := "()V", sig := { parameters := [], returnType := none }, accessFlags := 1, code := some k0c0 }
/-- java/lang/Object -/
def k0 : Class := { plain "java/lang/Object" none with
  accessFlags := 33
  interfaces := #[]
  cf := some (fileOf pool0 8 #[] #[{ accessFlags := 1, nameIndex := 5, descriptorIndex := 6, attributes := #[] }] 33 0 #[] #[])
  fields := #[]
  methods := #[k0m0]
  instanceTypes := #[]
  staticTypes := #[]
  resolved := Array.replicate 124 none
  statics := none }

def pool1 : Array CpInfo := pool [(2, .class_ 4), (0, .nameAndType 5 6), (0, u "java/lang/Object"), (0, u "<init>"), (0, u "()V"), (0, .class_ 8), (0, u "com/example/basketwright/basketwright/PriceHistory$Day"), (0, .methodref 7 3), (0, .methodref 7 11), (0, .nameAndType 12 13), (0, u "scale"), (0, u "(I)I"), (2, .integer 2147483648), (0, .class_ 18), (0, u "com/example/basketwright/basketwright/DayScalePinLaw"), (2, u "law"), (0, u "(II)Z")] 7

def k1m0 : Method := { name := "<init>", desc := "()V", sig := { parameters := [], returnType := none }, accessFlags := 1, code := none }
def k1c1 : Code := { maxStack := 2, maxLocals := 7, code := code, exceptionTable := #[], attributes := #[] }
def k1m1 : Method := { name := "law", desc := "(II)Z", sig := { parameters := [.int, .int], returnType := some .boolean }, accessFlags := 9, code := some k1c1 }
/-- com/example/basketwright/basketwright/DayScalePinLaw -/
def k1 : Class := { plain "com/example/basketwright/basketwright/DayScalePinLaw" (some 0) with
  accessFlags := 49
  interfaces := #[]
  cf := some (fileOf pool1 17 #[] #[{ accessFlags := 1, nameIndex := 5, descriptorIndex := 6, attributes := #[] }, { accessFlags := 9, nameIndex := 21, descriptorIndex := 22, attributes := #[] }] 49 2 #[] #[])
  fields := #[]
  methods := #[k1m0, k1m1]
  instanceTypes := #[]
  staticTypes := #[]
  resolved := Array.replicate 30 none
  statics := none }

def pool2 : Array CpInfo := pool [(3, .methodref 4 5), (0, .class_ 6), (0, .nameAndType 7 8), (0, u "java/lang/Object"), (0, u "<init>"), (0, u "()V"), (0, .fieldref 10 11), (0, .class_ 12), (0, .nameAndType 13 14), (0, u "com/example/basketwright/basketwright/PriceHistory$Day"), (0, u "unscaled"), (0, u "[J"), (0, .fieldref 10 16), (0, .nameAndType 17 18), (0, u "scales"), (0, u "[I"), (23, u "scale"), (6, u "elsewhere"), (0, u "Ljava/util/Map;"), (15, u "count"), (0, u "I"), (4, .fieldref 10 73), (0, .nameAndType 74 67), (0, u "base"), (57, .integer 2147483648), (18, u "(I)I"), (17, u "NONE"), (0, u "Lcom/example/basketwright/basketwright/PriceHistory$Day;"), (0, u "ELSEWHERE"), (1, u "SLACK"), (15, .class_ 190), (0, u "com/example/basketwright/basketwright/PriceHistory")] 3

def k2c0 : Code := { maxStack := 2, maxLocals := 1, code := prog_24_method_1_code, exceptionTable := #[], attributes := #[] }
def k2m0 : Method := { name := "<init>", desc := "()V", sig := { parameters := [], returnType := none }, accessFlags := 0, code := some k2c0 }
def k2c1 : Code := { maxStack := 2, maxLocals := 3, code := prog_24_method_7_code, exceptionTable := #[], attributes := #[] }
def k2m1 : Method := { name := "scale", desc := "(I)I", sig := { parameters := [.int], returnType := some .int }, accessFlags := 0, code := some k2c1 }
/-- com/example/basketwright/basketwright/PriceHistory$Day -/
def k2 : Class := { plain "com/example/basketwright/basketwright/PriceHistory$Day" (some 0) with
  accessFlags := 48
  interfaces := #[]
  cf := some (fileOf pool2 10 #[.nestHost 189] #[{ accessFlags := 0, nameIndex := 7, descriptorIndex := 8, attributes := #[] }, { accessFlags := 0, nameIndex := 42, descriptorIndex := 151, attributes := #[] }] 48 4 #[] #[{ accessFlags := 24, nameIndex := 169, descriptorIndex := 170, attributes := #[] }, { accessFlags := 24, nameIndex := 171, descriptorIndex := 67, attributes := #[] }, { accessFlags := 26, nameIndex := 173, descriptorIndex := 67, attributes := #[] }, { accessFlags := 2, nameIndex := 74, descriptorIndex := 67, attributes := #[] }, { accessFlags := 2, nameIndex := 13, descriptorIndex := 14, attributes := #[] }, { accessFlags := 2, nameIndex := 17, descriptorIndex := 18, attributes := #[] }, { accessFlags := 2, nameIndex := 49, descriptorIndex := 50, attributes := #[] }, { accessFlags := 2, nameIndex := 66, descriptorIndex := 67, attributes := #[] }])
  fields := #[{ name := "NONE", type := (.object "com/example/basketwright/basketwright/PriceHistory$Day"), accessFlags := 24, slot := 0, constantValue := 0 }, { name := "ELSEWHERE", type := .int, accessFlags := 24, slot := 1, constantValue := 0 }, { name := "SLACK", type := .int, accessFlags := 26, slot := 2, constantValue := 0 }, { name := "base", type := .int, accessFlags := 2, slot := 0, constantValue := 0 }, { name := "unscaled", type := (.array .long), accessFlags := 2, slot := 1, constantValue := 0 }, { name := "scales", type := (.array .int), accessFlags := 2, slot := 2, constantValue := 0 }, { name := "elsewhere", type := (.object "java/util/Map"), accessFlags := 2, slot := 3, constantValue := 0 }, { name := "count", type := .int, accessFlags := 2, slot := 4, constantValue := 0 }]
  methods := #[k2m0, k2m1]
  instanceTypes := #[.int, (.array .long), (.array .int), (.object "java/util/Map"), .int]
  staticTypes := #[(.object "com/example/basketwright/basketwright/PriceHistory$Day"), .int, .int]
  resolved := Array.replicate 194 none
  statics := none }

def pool3 : Array CpInfo := pool [(1, u "java/lang/Cloneable"), (0, .class_ 1), (0, u "java/lang/Object"), (0, .class_ 3)] 3

/-- java/lang/Cloneable -/
def k3 : Class := { plain "java/lang/Cloneable" (some 0) with
  accessFlags := 1537
  interfaces := #[]
  cf := some (fileOf pool3 2 #[] #[] 1537 4 #[] #[])
  fields := #[]
  methods := #[]
  instanceTypes := #[]
  staticTypes := #[]
  resolved := Array.replicate 8 none
  statics := none }

def pool4 : Array CpInfo := pool [(1, u "java/io/Serializable"), (0, .class_ 1), (0, u "java/lang/Object"), (0, .class_ 3)] 3

/-- java/io/Serializable -/
def k4 : Class := { plain "java/io/Serializable" (some 0) with
  accessFlags := 1537
  interfaces := #[]
  cf := some (fileOf pool4 2 #[] #[] 1537 4 #[] #[])
  fields := #[]
  methods := #[]
  instanceTypes := #[]
  staticTypes := #[]
  resolved := Array.replicate 8 none
  statics := none }

/-- the primitive byte -/
def k5 : Class := { plain "byte" none with kind := .primitive 'B', accessFlags := 0x411 }
/-- [B -/
def k6 : Class := { plain "[B" (some 0) with kind := .array 5 .byte, interfaces := #[3, 4], accessFlags := 1041 }

/-- the primitive int -/
def k7 : Class := { plain "int" none with kind := .primitive 'I', accessFlags := 0x411 }
/-- [I -/
def k8 : Class := { plain "[I" (some 0) with kind := .array 7 .int, interfaces := #[3, 4], accessFlags := 1041 }

/-- the primitive long -/
def k9 : Class := { plain "long" none with kind := .primitive 'J', accessFlags := 0x411 }
/-- [J -/
def k10 : Class := { plain "[J" (some 0) with kind := .array 9 .long, interfaces := #[3, 4], accessFlags := 1041 }

def heap : Heap := #[]
def classes : Array Class := #[k0, k1, k2, k3, k4, k5, k6, k7, k8, k9, k10]
def interned : List (Array UInt16 × Addr) := []
def slotsUsed : Nat := 0
def theMethod : MethodId := ⟨1, 1⟩
def args0 : Array Value := #[.int 5, .int 7]
def aboutOver (below : List Frame) : State where
  vm := { classes := classes, interned := interned.toArray }
  heap := heap
  slotsUsed := slotsUsed
  threads := #[{ frames := .invoking theMethod args0 :: below }]
def below0 : List Frame := [.native { method := ⟨0, 0⟩, args := #[] }]
def about1 : State := aboutOver below0
def p0 : Program := .bare "" "" ""
def e0 : Env := launch0.env 0 0 0
theorem w_frames : about1.frames = Frame.invoking theMethod args0 :: below0 := rfl
set_option maxRecDepth 65536 in
theorem w_args : argsFit about1.vm theMethod args0 = true := by decide +kernel
set_option maxRecDepth 65536 in
theorem w_heap : heapFits about1 = true := by decide +kernel
set_option maxRecDepth 65536 in
theorem w_runnable : about1.curStatus? = some .runnable := by decide +kernel
set_option maxRecDepth 65536 in
theorem w_alone : about1.alone = true := by decide +kernel
set_option maxRecDepth 65536 in
theorem w_named : about1.methodNamed? x = some theMethod := by decide +kernel
set_option maxRecDepth 65536 in
theorem w_hears : about1.hears theMethod below0 = true := by decide +kernel
set_option maxRecDepth 65536 in
theorem w_ripe : about1.ripe theMethod args0 below0 = true := by decide +kernel
theorem w_running : about1.status = .running := rfl
set_option maxRecDepth 65536 in
theorem w_room : about1.hasRoom e0.platform room_1 = true :=
  launch0.hasRoom_least _ room_1 (by decide +kernel) (by decide +kernel) (by decide +kernel) (by decide +kernel) (by decide +kernel) (by decide +kernel)
theorem allAtoms_all (ts : List Jvm.Cond) (a : Array Jvm.Value) (st : Jvm.State) : (allAtoms ts).before a st = ts.all (fun c => c.before a st) := by
  induction ts with
  | nil => rfl
  | cons c t ih =>
    show (Jvm.Cond.and c (allAtoms t)).before a st = _
    rw [Jvm.Cond.before_and, ih, List.all_cons]
def words1 : List Jvm.Cond := Jvm.Cond.code x code maxLocals ret :: tables_1
/-- a 'code' word, met by the world's own term for the bytes: nothing is compared byte by byte -/
theorem code_word {y : MethodName} {bytes : ByteArray} {mx : Nat} {rt : Option FieldType} {a : Array Value} {s : State} {m : MethodId} {meth : Method} {c : Code} (h1 : s.methodNamed? y = some m) (h2 : s.vm.method? m = some meth) (h3 : meth.code = some c) (h4 : c.code = bytes)
    (h5 : (c.maxLocals == mx && c.exceptionTable.isEmpty && decide (c.maxStack ≤ mostOperands) && decide (meth.sig.returnType = rt) && !meth.locks && decide (parseMethodDescriptor y.desc = some meth.sig)) = true) : (Jvm.Cond.code y bytes mx rt).before a s = true := by
  simp only [Bool.and_eq_true, beq_iff_eq, Bool.not_eq_true', decide_eq_true_eq] at h5
  obtain ⟨⟨⟨⟨⟨g1, g2⟩, g3⟩, g4⟩, g5⟩, g6⟩ := h5
  simp [Cond.before, Cond.holds, Cond.value, h1, h2, h3, h4, g1, g2, g3, g4, g5, g6]
def isCode : Jvm.Cond → Bool
  | .code _ _ _ _ => true
  | _ => false
theorem all_split {L : List Jvm.Cond} {P : Jvm.Cond → Bool} (h1 : L.all (fun c => isCode c || P c) = true) (h2 : ∀ c ∈ L.filter isCode, P c = true) : L.all P = true := by
  refine List.all_eq_true.mpr fun c hc => ?_
  have h := List.all_eq_true.mp h1 c hc
  rcases Bool.eq_false_or_eq_true (isCode c) with hi | hi
  · exact h2 c (List.mem_filter.mpr ⟨hc, hi⟩)
  · simpa [hi] using h
set_option maxRecDepth 65536 in
theorem w_c0 : (Jvm.Cond.code x code maxLocals ret).before args0 about1 = true := code_word (m := ⟨1, 1⟩) (meth := k1m1) (c := k1c1) (by decide +kernel) rfl rfl rfl (by decide +kernel)
set_option maxRecDepth 65536 in
theorem w_c1 : (Jvm.Cond.code ({ cls := "com/example/basketwright/basketwright/PriceHistory$Day", name := "<init>", desc := "()V" } : Jvm.MethodName) prog_24_method_1_code (1 : Nat) (Option.none : Option Jvm.ClassFile.FieldType)).before args0 about1 = true := code_word (m := ⟨2, 0⟩) (meth := k2m0) (c := k2c0) (by decide +kernel) rfl rfl rfl (by decide +kernel)
set_option maxRecDepth 65536 in
theorem w_c2 : (Jvm.Cond.code ({ cls := "java/lang/Object", name := "<init>", desc := "()V" } : Jvm.MethodName) object_method_1_code (1 : Nat) (Option.none : Option Jvm.ClassFile.FieldType)).before args0 about1 = true := code_word (m := ⟨0, 0⟩) (meth := k0m0) (c := k0c0) (by decide +kernel) rfl rfl rfl (by decide +kernel)
set_option maxRecDepth 65536 in
theorem w_c3 : (Jvm.Cond.code ({ cls := "com/example/basketwright/basketwright/PriceHistory$Day", name := "scale", desc := "(I)I" } : Jvm.MethodName) prog_24_method_7_code (3 : Nat) (Option.some Jvm.ClassFile.FieldType.int)).before args0 about1 = true := code_word (m := ⟨2, 1⟩) (meth := k2m1) (c := k2c1) (by decide +kernel) rfl rfl rfl (by decide +kernel)
def codes1 : List Jvm.Cond := [Jvm.Cond.code x code maxLocals ret, Jvm.Cond.code ({ cls := "com/example/basketwright/basketwright/PriceHistory$Day", name := "<init>", desc := "()V" } : Jvm.MethodName) prog_24_method_1_code (1 : Nat) (Option.none : Option Jvm.ClassFile.FieldType), Jvm.Cond.code ({ cls := "java/lang/Object", name := "<init>", desc := "()V" } : Jvm.MethodName) object_method_1_code (1 : Nat) (Option.none : Option Jvm.ClassFile.FieldType), Jvm.Cond.code ({ cls := "com/example/basketwright/basketwright/PriceHistory$Day", name := "scale", desc := "(I)I" } : Jvm.MethodName) prog_24_method_7_code (3 : Nat) (Option.some Jvm.ClassFile.FieldType.int)]
set_option maxRecDepth 65536 in
theorem codes_eq : words1.filter isCode = codes1 := rfl
theorem w_codes : ∀ c ∈ words1.filter isCode, c.before args0 about1 = true := by
  rw [codes_eq]
  intro c hc
  simp only [codes1, List.mem_cons, List.not_mem_nil, or_false] at hc
  rcases hc with rfl | rfl | rfl | rfl
  · exact w_c0
  · exact w_c1
  · exact w_c2
  · exact w_c3
set_option maxRecDepth 65536 in
theorem w_t1 : (words1.take 24).all (fun c => isCode c || c.before args0 about1) = true := by decide +kernel
set_option maxRecDepth 65536 in
theorem w_t2 : (words1.drop 24).all (fun c => isCode c || c.before args0 about1) = true := by decide +kernel
theorem w_tables : (allAtoms (Jvm.Cond.code x code maxLocals ret :: tables_1)).before args0 about1 = true := by
  rw [allAtoms_all]
  show words1.all (fun c => c.before args0 about1) = true
  refine all_split ?_ w_codes
  rw [← List.take_append_drop 24 words1, List.all_append, w_t1, w_t2]
  rfl
set_option maxRecDepth 65536 in
theorem w_case : (Jvm.Cond.and given_1 narrow_1).before args0 about1 = true := by decide +kernel
theorem w_applies : (headSpec (Jvm.Cond.code x code maxLocals ret :: tables_1) room_1).applies x e0.platform about1 = true :=
  (Spec.applies_iff w_frames).mpr ⟨w_running, w_runnable, w_alone, w_named, w_hears, w_ripe, w_room, w_tables⟩
theorem atStart : AtStart classFile x code maxLocals ret World_1 tables_1 room_1 Calls_1 rest_1 Pre_1 launch0 p0 e0 about1 theMethod args0 below0 :=
  ⟨lists_1, trivial, launch0.admits_env _ _ _, launch0.least_env, fairChoices_fair.cas, fairChoices_fair.clock, w_frames, w_args, w_heap, w_applies, trivial, trivial, w_case⟩
end start1
theorem witness_1 : WitnessClaimed_1 := ⟨start1.p0, start1.e0, start1.about1, start1.theMethod, start1.args0, start1.below0, start1.atStart⟩
end Jvm.Pilot.@@N@@
