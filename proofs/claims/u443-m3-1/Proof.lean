import JvmDerived
import JvmDerived.Pilot.@@N@@Statement
import JvmDerived.Pilot.@@N@@Code
set_option linter.unusedVariables false
set_option linter.unusedSimpArgs false
namespace Jvm.RoadKit
open Sem ClassFile Op Lib Jvm.Stand Jvm.Free Jvm.LawKit
section New
variable {p : Program} {l : Launch} {e : Env} {R : Room} {s : State} {m : MethodId} {args : Array Value} {below : List Frame} {meth : Method} {c : Code} {T : State} {locs : List Loc} {cells slots : Nat}
theorem retI (X : Stand p l e R s m args below meth c T locs cells slots) (hx : p.tables.exec = Jvm.exec) {pc : Nat} {Ls : Array Slot} {z : Int32} {rest : List Value} (hret : meth.sig.returnType = some .int) (hd : decode c.code pc = .ok (.ireturn, 1)) {fs : List Frame}
    (hl : ∀ (f : JFrame) (acts : List Action), f.method = m → f.locked = none → f.entered = [] → (doReturn e (T.setTop f) acts (some (.int z))).1 = T.setFrames fs) : Steps p.tables e below (T.setTop (mkF m pc Ls (.int z :: rest))) (T.setFrames fs) := by
  have hm' : T.vm.method? m = some meth := X.method'
  have hn : narrow .int (.int z) = .int z := rfl
  show Steps p.tables e below (T.setTop { method := m, pc := pc, locals := Ls, stack := _ :: rest, locked := none }) _
  jvm_step X.here [X.here.top, hx, hd, hm', hret, hn]
  first | (intro acts; rw [hl _ acts rfl rfl rfl]) | rw [hl _ _ rfl rfl rfl]
  exact Steps.refl _
end New
end Jvm.RoadKit
namespace Jvm.Pilot.@@N@@
open Jvm Jvm.ClassFile Sem Op Lib Jvm.Free Jvm.Stand Jvm.LawKit Jvm.RoadKit Bundle Jvm.Pilot.@@N@@.Jvm.D
theorem own_eqv {a : Term} {k : Int32} {args : Array Value} {s : State} (h : (Jvm.Cond.eq a (.int k)).value args s none s [] = some true) : a.eval args s none [] s = some (.int k) := by
  obtain ⟨x, y, hx, hy, -, kyx⟩ := cmp_v (Or.inl h)
  obtain rfl : y = .int k := by simpa [Term.eval] using hy.symm
  obtain ⟨z, rfl⟩ := kyx
  have e : z = k := by simpa [Cond.value, hx, Term.eval] using h
  rw [hx, e]
theorem own_eqvL {a : Term} {k : Int64} {args : Array Value} {s : State} (h : (Jvm.Cond.eq a (.long k)).value args s none s [] = some true) : a.eval args s none [] s = some (.long k) := by
  obtain ⟨x, y, hx, hy, -, kyx⟩ := cmp_v (Or.inl h)
  obtain rfl : y = .long k := by simpa [Term.eval] using hy.symm
  obtain ⟨z, rfl⟩ := kyx
  have e : z = k := by simpa [Cond.value, hx, Term.eval] using h
  rw [hx, e]
theorem own_ne {Z : State} {a b : Addr} {C n d : String} {i j : Int32} (h1 : Z.fieldOf? a C n d = some (.int i)) (h2 : Z.fieldOf? b C n d = some (.int j)) (hij : i ≠ j) : a ≠ b := fun e => by
  subst e
  rw [h1] at h2
  exact hij (Value.int.inj (Option.some.inj h2))
def own_pick (k : Int32) (r0 r1 r2 r3 r4 r5 r6 r7 r8 r9 r10 r11 r12 r13 : Addr) : Addr := if k = 0 then r0 else if k = 1 then r1 else if k = 2 then r2 else if k = 3 then r3 else if k = 4 then r4 else if k = 5 then r5 else if k = 6 then r6 else if k = 7 then r7 else if k = 8 then r8 else if k = 9 then r9 else if k = 10 then r10 else if k = 11 then r11 else if k = 12 then r12 else r13
def own_log (a r1 r0 : Addr) : Int32 := if a = r1 then 1 else if a = r0 then 1 else 0
theorem own_ite {P : Addr → Prop} {c : Prop} [Decidable c] {a b : Addr} (ha : P a) (hb : P b) : P (if c then a else b) := by
  by_cases h : c
  · rw [if_pos h]; exact ha
  · rw [if_neg h]; exact hb
theorem own_pick_all {P : Addr → Prop} {k : Int32} {r0 r1 r2 r3 r4 r5 r6 r7 r8 r9 r10 r11 r12 r13 : Addr} (h0 : P r0) (h1 : P r1) (h2 : P r2) (h3 : P r3) (h4 : P r4) (h5 : P r5) (h6 : P r6) (h7 : P r7) (h8 : P r8) (h9 : P r9) (h10 : P r10) (h11 : P r11) (h12 : P r12) (h13 : P r13) : P (own_pick k r0 r1 r2 r3 r4 r5 r6 r7 r8 r9 r10 r11 r12 r13) := own_ite h0 (own_ite h1 (own_ite h2 (own_ite h3 (own_ite h4 (own_ite h5 (own_ite h6 (own_ite h7 (own_ite h8 (own_ite h9 (own_ite h10 (own_ite h11 (own_ite h12 (h13)))))))))))))
theorem own_main {k : Int32} {r0 r1 r2 r3 r4 r5 r6 r7 r8 r9 r10 r11 r12 r13 : Addr} (n2 : r2 ≠ r0) (m2 : r2 ≠ r1) (n3 : r3 ≠ r0) (m3 : r3 ≠ r1) (n4 : r4 ≠ r0) (m4 : r4 ≠ r1) (n5 : r5 ≠ r0) (m5 : r5 ≠ r1) (n6 : r6 ≠ r0) (m6 : r6 ≠ r1) (n7 : r7 ≠ r0) (m7 : r7 ≠ r1) (n8 : r8 ≠ r0) (m8 : r8 ≠ r1) (n9 : r9 ≠ r0) (m9 : r9 ≠ r1) (n10 : r10 ≠ r0) (m10 : r10 ≠ r1) (n11 : r11 ≠ r0) (m11 : r11 ≠ r1) (n12 : r12 ≠ r0) (m12 : r12 ≠ r1) (n13 : r13 ≠ r0) (m13 : r13 ≠ r1) : own_log (own_pick k r0 r1 r2 r3 r4 r5 r6 r7 r8 r9 r10 r11 r12 r13) r1 r0 = if k = 0 then 1 else if k = 1 then 1 else 0 := by
  by_cases e0 : k = 0
  · subst e0
    have : own_pick 0 r0 r1 r2 r3 r4 r5 r6 r7 r8 r9 r10 r11 r12 r13 = r0 := by simp [own_pick]
    rw [this, if_pos rfl]; unfold own_log; split <;> simp
  rw [if_neg e0]
  by_cases e1 : k = 1
  · subst e1
    have : own_pick 1 r0 r1 r2 r3 r4 r5 r6 r7 r8 r9 r10 r11 r12 r13 = r1 := by simp [own_pick]
    rw [this, if_pos rfl]; unfold own_log; simp
  rw [if_neg e1]
  have h : own_pick k r0 r1 r2 r3 r4 r5 r6 r7 r8 r9 r10 r11 r12 r13 ≠ r0 ∧ own_pick k r0 r1 r2 r3 r4 r5 r6 r7 r8 r9 r10 r11 r12 r13 ≠ r1 := by
    unfold own_pick
    rw [if_neg e0, if_neg e1]
    exact own_ite (P := fun a => a ≠ r0 ∧ a ≠ r1) ⟨n2, m2⟩ (own_ite (P := fun a => a ≠ r0 ∧ a ≠ r1) ⟨n3, m3⟩ (own_ite (P := fun a => a ≠ r0 ∧ a ≠ r1) ⟨n4, m4⟩ (own_ite (P := fun a => a ≠ r0 ∧ a ≠ r1) ⟨n5, m5⟩ (own_ite (P := fun a => a ≠ r0 ∧ a ≠ r1) ⟨n6, m6⟩ (own_ite (P := fun a => a ≠ r0 ∧ a ≠ r1) ⟨n7, m7⟩ (own_ite (P := fun a => a ≠ r0 ∧ a ≠ r1) ⟨n8, m8⟩ (own_ite (P := fun a => a ≠ r0 ∧ a ≠ r1) ⟨n9, m9⟩ (own_ite (P := fun a => a ≠ r0 ∧ a ≠ r1) ⟨n10, m10⟩ (own_ite (P := fun a => a ≠ r0 ∧ a ≠ r1) ⟨n11, m11⟩ (own_ite (P := fun a => a ≠ r0 ∧ a ≠ r1) ⟨n12, m12⟩ (⟨n13, m13⟩)))))))))))
  unfold own_log
  rw [if_neg h.2, if_neg h.1]
theorem own_pn0 : plainName "com/example/tierwright/tierwright/lang/OperatorIsLogicalPinLaw" = true := by first | (simp [plainName, overriddenIn]; done) | decide +kernel
theorem own_d_pick_0 : decode method_2_code 0 = .ok (.iload_n 0, 1) := by decide +kernel
theorem own_d_pick_1 : decode method_2_code 1 = .ok (.ifCond .ne 7, 3) := by decide +kernel
theorem own_d_pick_4 : decode method_2_code 4 = .ok (.getstatic 7, 3) := by decide +kernel
theorem own_d_pick_7 : decode method_2_code 7 = .ok (.areturn, 1) := by decide +kernel
theorem own_d_pick_8 : decode method_2_code 8 = .ok (.iload_n 0, 1) := by decide +kernel
theorem own_d_pick_9 : decode method_2_code 9 = .ok (.iconst 1, 1) := by decide +kernel
theorem own_d_pick_10 : decode method_2_code 10 = .ok (.if_icmp .ne 7, 3) := by decide +kernel
theorem own_d_pick_13 : decode method_2_code 13 = .ok (.getstatic 13, 3) := by decide +kernel
theorem own_d_pick_16 : decode method_2_code 16 = .ok (.areturn, 1) := by decide +kernel
theorem own_d_pick_17 : decode method_2_code 17 = .ok (.iload_n 0, 1) := by decide +kernel
theorem own_d_pick_18 : decode method_2_code 18 = .ok (.iconst 2, 1) := by decide +kernel
theorem own_d_pick_19 : decode method_2_code 19 = .ok (.if_icmp .ne 7, 3) := by decide +kernel
theorem own_d_pick_22 : decode method_2_code 22 = .ok (.getstatic 16, 3) := by decide +kernel
theorem own_d_pick_25 : decode method_2_code 25 = .ok (.areturn, 1) := by decide +kernel
theorem own_d_pick_26 : decode method_2_code 26 = .ok (.iload_n 0, 1) := by decide +kernel
theorem own_d_pick_27 : decode method_2_code 27 = .ok (.iconst 3, 1) := by decide +kernel
theorem own_d_pick_28 : decode method_2_code 28 = .ok (.if_icmp .ne 7, 3) := by decide +kernel
theorem own_d_pick_31 : decode method_2_code 31 = .ok (.getstatic 19, 3) := by decide +kernel
theorem own_d_pick_34 : decode method_2_code 34 = .ok (.areturn, 1) := by decide +kernel
theorem own_d_pick_35 : decode method_2_code 35 = .ok (.iload_n 0, 1) := by decide +kernel
theorem own_d_pick_36 : decode method_2_code 36 = .ok (.iconst 4, 1) := by decide +kernel
theorem own_d_pick_37 : decode method_2_code 37 = .ok (.if_icmp .ne 7, 3) := by decide +kernel
theorem own_d_pick_40 : decode method_2_code 40 = .ok (.getstatic 22, 3) := by decide +kernel
theorem own_d_pick_43 : decode method_2_code 43 = .ok (.areturn, 1) := by decide +kernel
theorem own_d_pick_44 : decode method_2_code 44 = .ok (.iload_n 0, 1) := by decide +kernel
theorem own_d_pick_45 : decode method_2_code 45 = .ok (.iconst 5, 1) := by decide +kernel
theorem own_d_pick_46 : decode method_2_code 46 = .ok (.if_icmp .ne 7, 3) := by decide +kernel
theorem own_d_pick_49 : decode method_2_code 49 = .ok (.getstatic 25, 3) := by decide +kernel
theorem own_d_pick_52 : decode method_2_code 52 = .ok (.areturn, 1) := by decide +kernel
theorem own_d_pick_53 : decode method_2_code 53 = .ok (.iload_n 0, 1) := by decide +kernel
theorem own_d_pick_54 : decode method_2_code 54 = .ok (.bipush 6, 2) := by decide +kernel
theorem own_d_pick_56 : decode method_2_code 56 = .ok (.if_icmp .ne 7, 3) := by decide +kernel
theorem own_d_pick_59 : decode method_2_code 59 = .ok (.getstatic 28, 3) := by decide +kernel
theorem own_d_pick_62 : decode method_2_code 62 = .ok (.areturn, 1) := by decide +kernel
theorem own_d_pick_63 : decode method_2_code 63 = .ok (.iload_n 0, 1) := by decide +kernel
theorem own_d_pick_64 : decode method_2_code 64 = .ok (.bipush 7, 2) := by decide +kernel
theorem own_d_pick_66 : decode method_2_code 66 = .ok (.if_icmp .ne 7, 3) := by decide +kernel
theorem own_d_pick_69 : decode method_2_code 69 = .ok (.getstatic 31, 3) := by decide +kernel
theorem own_d_pick_72 : decode method_2_code 72 = .ok (.areturn, 1) := by decide +kernel
theorem own_d_pick_73 : decode method_2_code 73 = .ok (.iload_n 0, 1) := by decide +kernel
theorem own_d_pick_74 : decode method_2_code 74 = .ok (.bipush 8, 2) := by decide +kernel
theorem own_d_pick_76 : decode method_2_code 76 = .ok (.if_icmp .ne 7, 3) := by decide +kernel
theorem own_d_pick_79 : decode method_2_code 79 = .ok (.getstatic 34, 3) := by decide +kernel
theorem own_d_pick_82 : decode method_2_code 82 = .ok (.areturn, 1) := by decide +kernel
theorem own_d_pick_83 : decode method_2_code 83 = .ok (.iload_n 0, 1) := by decide +kernel
theorem own_d_pick_84 : decode method_2_code 84 = .ok (.bipush 9, 2) := by decide +kernel
theorem own_d_pick_86 : decode method_2_code 86 = .ok (.if_icmp .ne 7, 3) := by decide +kernel
theorem own_d_pick_89 : decode method_2_code 89 = .ok (.getstatic 37, 3) := by decide +kernel
theorem own_d_pick_92 : decode method_2_code 92 = .ok (.areturn, 1) := by decide +kernel
theorem own_d_pick_93 : decode method_2_code 93 = .ok (.iload_n 0, 1) := by decide +kernel
theorem own_d_pick_94 : decode method_2_code 94 = .ok (.bipush 10, 2) := by decide +kernel
theorem own_d_pick_96 : decode method_2_code 96 = .ok (.if_icmp .ne 7, 3) := by decide +kernel
theorem own_d_pick_99 : decode method_2_code 99 = .ok (.getstatic 40, 3) := by decide +kernel
theorem own_d_pick_102 : decode method_2_code 102 = .ok (.areturn, 1) := by decide +kernel
theorem own_d_pick_103 : decode method_2_code 103 = .ok (.iload_n 0, 1) := by decide +kernel
theorem own_d_pick_104 : decode method_2_code 104 = .ok (.bipush 11, 2) := by decide +kernel
theorem own_d_pick_106 : decode method_2_code 106 = .ok (.if_icmp .ne 7, 3) := by decide +kernel
theorem own_d_pick_109 : decode method_2_code 109 = .ok (.getstatic 43, 3) := by decide +kernel
theorem own_d_pick_112 : decode method_2_code 112 = .ok (.areturn, 1) := by decide +kernel
theorem own_d_pick_113 : decode method_2_code 113 = .ok (.iload_n 0, 1) := by decide +kernel
theorem own_d_pick_114 : decode method_2_code 114 = .ok (.bipush 12, 2) := by decide +kernel
theorem own_d_pick_116 : decode method_2_code 116 = .ok (.if_icmp .ne 7, 3) := by decide +kernel
theorem own_d_pick_119 : decode method_2_code 119 = .ok (.getstatic 46, 3) := by decide +kernel
theorem own_d_pick_122 : decode method_2_code 122 = .ok (.areturn, 1) := by decide +kernel
theorem own_d_pick_123 : decode method_2_code 123 = .ok (.getstatic 49, 3) := by decide +kernel
theorem own_d_pick_126 : decode method_2_code 126 = .ok (.areturn, 1) := by decide +kernel
theorem own_ef_pick (m : MethodId) (p1 : Int32) : entryFrame m #[(.int p1)] 1 = mkF m 0 #[.val (.int p1)] [] := by first | (simp [entryFrame, mkF, argsToLocals, Value.category]; done) | rfl
def Q_pick (Z : State) (p1 : Int32) (r0 : Addr) (r1 : Addr) (r2 : Addr) (r3 : Addr) (r4 : Addr) (r5 : Addr) (r6 : Addr) (r7 : Addr) (r8 : Addr) (r9 : Addr) (r10 : Addr) (r11 : Addr) (r12 : Addr) (r13 : Addr) (h0 : Heap) (n0 : Nat) (v : Option Value) (h : Heap) (L : List Loc) : Prop := v = some (.ref (own_pick p1 r0 r1 r2 r3 r4 r5 r6 r7 r8 r9 r10 r11 r12 r13)) ∧ Fr n0 L ∧ h = h0
set_option maxRecDepth 65536 in
set_option maxHeartbeats 40000000 in
theorem rm_pick (l : Launch) (Z : State) (a0 : Array Value) (hw : ∀ d ∈ tables_1, d.before a0 Z = true) (ws : List Jvm.Cond) (p1 : Int32) (r0 : Addr) (r1 : Addr) (r2 : Addr) (r3 : Addr) (r4 : Addr) (r5 : Addr) (r6 : Addr) (r7 : Addr) (r8 : Addr) (r9 : Addr) (r10 : Addr) (r11 : Addr) (r12 : Addr) (r13 : Addr) (h0 : Heap) (n0 : Nat) (Z0 : n0 ≤ h0.size) (fS_Expression_Operator_OR : Sta Z h0 "com/example/tierwright/tierwright/lang/Expression$Operator" "OR" "Lcom/example/tierwright/tierwright/lang/Expression$Operator;" (.ref r0)) (fS_Expression_Operator_AND : Sta Z h0 "com/example/tierwright/tierwright/lang/Expression$Operator" "AND" "Lcom/example/tierwright/tierwright/lang/Expression$Operator;" (.ref r1)) (fS_Expression_Operator_EQUAL : Sta Z h0 "com/example/tierwright/tierwright/lang/Expression$Operator" "EQUAL" "Lcom/example/tierwright/tierwright/lang/Expression$Operator;" (.ref r2)) (fS_Expression_Operator_NOT_EQUAL : Sta Z h0 "com/example/tierwright/tierwright/lang/Expression$Operator" "NOT_EQUAL" "Lcom/example/tierwright/tierwright/lang/Expression$Operator;" (.ref r3)) (fS_Expression_Operator_LESS : Sta Z h0 "com/example/tierwright/tierwright/lang/Expression$Operator" "LESS" "Lcom/example/tierwright/tierwright/lang/Expression$Operator;" (.ref r4)) (fS_Expression_Operator_GREATER : Sta Z h0 "com/example/tierwright/tierwright/lang/Expression$Operator" "GREATER" "Lcom/example/tierwright/tierwright/lang/Expression$Operator;" (.ref r5)) (fS_Expression_Operator_LESS_OR_EQUAL : Sta Z h0 "com/example/tierwright/tierwright/lang/Expression$Operator" "LESS_OR_EQUAL" "Lcom/example/tierwright/tierwright/lang/Expression$Operator;" (.ref r6)) (fS_Expression_Operator_GREATER_OR_EQUAL : Sta Z h0 "com/example/tierwright/tierwright/lang/Expression$Operator" "GREATER_OR_EQUAL" "Lcom/example/tierwright/tierwright/lang/Expression$Operator;" (.ref r7)) (fS_Expression_Operator_PLUS : Sta Z h0 "com/example/tierwright/tierwright/lang/Expression$Operator" "PLUS" "Lcom/example/tierwright/tierwright/lang/Expression$Operator;" (.ref r8)) (fS_Expression_Operator_MINUS : Sta Z h0 "com/example/tierwright/tierwright/lang/Expression$Operator" "MINUS" "Lcom/example/tierwright/tierwright/lang/Expression$Operator;" (.ref r9)) (fS_Expression_Operator_JOIN : Sta Z h0 "com/example/tierwright/tierwright/lang/Expression$Operator" "JOIN" "Lcom/example/tierwright/tierwright/lang/Expression$Operator;" (.ref r10)) (fS_Expression_Operator_TIMES : Sta Z h0 "com/example/tierwright/tierwright/lang/Expression$Operator" "TIMES" "Lcom/example/tierwright/tierwright/lang/Expression$Operator;" (.ref r11)) (fS_Expression_Operator_DIVIDE : Sta Z h0 "com/example/tierwright/tierwright/lang/Expression$Operator" "DIVIDE" "Lcom/example/tierwright/tierwright/lang/Expression$Operator;" (.ref r12)) (fS_Expression_Operator_NOT : Sta Z h0 "com/example/tierwright/tierwright/lang/Expression$Operator" "NOT" "Lcom/example/tierwright/tierwright/lang/Expression$Operator;" (.ref r13)) :
    MetFree l (⟨"com/example/tierwright/tierwright/lang/OperatorIsLogicalPinLaw", "pick", "(I)Lcom/example/tierwright/tierwright/lang/Expression$Operator;"⟩ : MethodName) (head1 (Jvm.Cond.code (⟨"com/example/tierwright/tierwright/lang/OperatorIsLogicalPinLaw", "pick", "(I)Lcom/example/tierwright/tierwright/lang/Expression$Operator;"⟩ : MethodName) method_2_code 1 (some (.object "com/example/tierwright/tierwright/lang/Expression$Operator")) :: ws) ({ frames := 0, cells := 0, slots := 0, locals := 0 } : Room)) (fun a U => a = #[(.int p1)] ∧ Z.Warmed39 U.vm ∧ U.heap = h0) (fun _ _ _ _ _ => True) (fun _ U o U' => ∃ v L, o = .returned v ∧ Q_pick Z p1 r0 r1 r2 r3 r4 r5 r6 r7 r8 r9 r10 r11 r12 r13 h0 n0 v U'.heap L ∧ FrameEnd U o U' L ({ frames := 0, cells := 0, slots := 0, locals := 0 } : Room).cells ({ frames := 0, cells := 0, slots := 0, locals := 0 } : Room).slots) := by
  refine MetFree.of_bodySF (plainFor_of_name own_pn0) hisR ?_
  intro p e s m args below meth c s₁ Bd hml0 hP hK
  obtain ⟨rfl, hZ, hh⟩ := hP
  have hx := Bd.exec
  have hby := Bd.bytes
  have hml : c.maxLocals = 1 := hml0
  have hown : s.vm.findClass "com/example/tierwright/tierwright/lang/OperatorIsLogicalPinLaw" = some m.cls := findClass_of_methodNamed Bd.named
  have hnm := (name_of_methodNamed Bd.named Bd.method).1
  have X0 : Stand p l e ({ frames := 0, cells := 0, slots := 0, locals := 0 } : Room) s m #[(.int p1)] below meth c s₁ [] 0 0 := Stand.of_body Bd
  have e0 : s₁.heap = h0 := by rw [← hh, Bd.state]; rfl
  have N0 := Fr.nil n0
  have pre0 : ∀ t, Steps p.tables e below (s₁.setTop (mkF m 0 #[.val (.int p1)] [])) t → Steps p.tables e below (s₁.setTop (entryFrame m #[(.int p1)] 1)) t := fun t k => castTop (own_ef_pick m p1) k
  have way1 : ∀ t, Steps p.tables e below (s₁.setTop (mkF m 1 #[.val (.int p1)] [(.int p1)])) t → Steps p.tables e below (s₁.setTop (entryFrame m #[(.int p1)] 1)) t := fun t k => pre0 t (by
    show Steps p.tables e below (s₁.setTop (mkF m 0 #[.val (.int p1)] [])) _
    refine XS.iloadN X0.here hx rfl (hb hby own_d_pick_0) rfl ?_
    exact k)
  by_cases hc2 : p1 = (0 : Int32)
  ·
    obtain ⟨T3, X3, e3, st3⟩ := getS2 X0 hx hZ hown (host := "") (Or.inl (hw _ (List.mem_of_getElem? (i := 5) rfl))) Via.refl e0 fS_Expression_Operator_OR (g := (mkF m 4 #[.val (.int p1)] [])) rfl (hb hby own_d_pick_4)
    have way4 : ∀ t, Steps p.tables e below (T3.setTop (mkF m 7 #[.val (.int p1)] [(.ref r0)])) t → Steps p.tables e below (s₁.setTop (entryFrame m #[(.int p1)] 1)) t := fun t k => way1 t (by
      show Steps p.tables e below (s₁.setTop (mkF m 1 #[.val (.int p1)] [(.int p1)])) _
      refine XS.ifNo X0.here hx rfl (hb hby own_d_pick_1) rfl ((if0 _ _).trans (teq hc2).2) ?_
      show Steps p.tables e below (s₁.setTop (mkF m 4 #[.val (.int p1)] [])) _
      refine st3 _ ?_
      exact k)
    obtain ⟨fs, hr, hrun, hended, hW, hsame⟩ := X3.leave (v := some (.ref r0)) (fun h => by rw [Bd.returns] at h; cases h)
    refine ⟨_, _, way4 _ ?_, hrun, hended, _, _, rfl, ?_, ⟨_, rfl⟩, hW, hsame.mono (by decide) (by decide)⟩
    · show Steps p.tables e below (T3.setTop (mkF m 7 #[.val (.int p1)] [(.ref r0)])) _
      jvm_step X3.here [X3.here.top, hx, (hb hby own_d_pick_7), X3.method', Bd.returns, Value.isRef, FieldType.isReference]
      first | (intro acts; rw [hr _ acts rfl rfl rfl]) | rw [hr _ _ rfl rfl rfl]
      exact Steps.refl _
    · show Q_pick Z p1 r0 r1 r2 r3 r4 r5 r6 r7 r8 r9 r10 r11 r12 r13 h0 n0 _ T3.heap _
      rw [e3]
      exact ⟨by simp [own_pick, hc2], N0, rfl⟩
  ·
    have way5 : ∀ t, Steps p.tables e below (s₁.setTop (mkF m 10 #[.val (.int p1)] [(.int (1 : Int32)), (.int p1)])) t → Steps p.tables e below (s₁.setTop (entryFrame m #[(.int p1)] 1)) t := fun t k => way1 t (by
      show Steps p.tables e below (s₁.setTop (mkF m 1 #[.val (.int p1)] [(.int p1)])) _
      refine XS.ifYes X0.here hx rfl (pc0 := 1) (pc' := 8) rfl (hb hby own_d_pick_1) rfl ((if0 _ _).trans (feq hc2).2) (by decide) (by decide) ?_
      show Steps p.tables e below (s₁.setTop (mkF m 8 #[.val (.int p1)] [])) _
      refine XS.iloadN X0.here hx rfl (hb hby own_d_pick_8) rfl ?_
      show Steps p.tables e below (s₁.setTop (mkF m 9 #[.val (.int p1)] [(.int p1)])) _
      refine XS.iconst X0.here hx rfl (hb hby own_d_pick_9) ?_
      exact k)
    by_cases hc6 : p1 = (1 : Int32)
    ·
      obtain ⟨T7, X7, e7, st7⟩ := getS2 X0 hx hZ hown (host := "") (Or.inl (hw _ (List.mem_of_getElem? (i := 34) rfl))) Via.refl e0 fS_Expression_Operator_AND (g := (mkF m 13 #[.val (.int p1)] [])) rfl (hb hby own_d_pick_13)
      have way8 : ∀ t, Steps p.tables e below (T7.setTop (mkF m 16 #[.val (.int p1)] [(.ref r1)])) t → Steps p.tables e below (s₁.setTop (entryFrame m #[(.int p1)] 1)) t := fun t k => way5 t (by
        show Steps p.tables e below (s₁.setTop (mkF m 10 #[.val (.int p1)] [(.int (1 : Int32)), (.int p1)])) _
        refine XS.icmpNo X0.here hx rfl (hb hby own_d_pick_10) rfl (teq hc6).2 ?_
        show Steps p.tables e below (s₁.setTop (mkF m 13 #[.val (.int p1)] [])) _
        refine st7 _ ?_
        exact k)
      obtain ⟨fs, hr, hrun, hended, hW, hsame⟩ := X7.leave (v := some (.ref r1)) (fun h => by rw [Bd.returns] at h; cases h)
      refine ⟨_, _, way8 _ ?_, hrun, hended, _, _, rfl, ?_, ⟨_, rfl⟩, hW, hsame.mono (by decide) (by decide)⟩
      · show Steps p.tables e below (T7.setTop (mkF m 16 #[.val (.int p1)] [(.ref r1)])) _
        jvm_step X7.here [X7.here.top, hx, (hb hby own_d_pick_16), X7.method', Bd.returns, Value.isRef, FieldType.isReference]
        first | (intro acts; rw [hr _ acts rfl rfl rfl]) | rw [hr _ _ rfl rfl rfl]
        exact Steps.refl _
      · show Q_pick Z p1 r0 r1 r2 r3 r4 r5 r6 r7 r8 r9 r10 r11 r12 r13 h0 n0 _ T7.heap _
        rw [e7]
        exact ⟨by simp [own_pick, hc2, hc6], N0, rfl⟩
    ·
      have way9 : ∀ t, Steps p.tables e below (s₁.setTop (mkF m 19 #[.val (.int p1)] [(.int (2 : Int32)), (.int p1)])) t → Steps p.tables e below (s₁.setTop (entryFrame m #[(.int p1)] 1)) t := fun t k => way5 t (by
        show Steps p.tables e below (s₁.setTop (mkF m 10 #[.val (.int p1)] [(.int (1 : Int32)), (.int p1)])) _
        refine XS.icmpYes X0.here hx rfl (pc0 := 10) (pc' := 17) rfl (hb hby own_d_pick_10) rfl (feq hc6).2 (by decide) (by decide) ?_
        show Steps p.tables e below (s₁.setTop (mkF m 17 #[.val (.int p1)] [])) _
        refine XS.iloadN X0.here hx rfl (hb hby own_d_pick_17) rfl ?_
        show Steps p.tables e below (s₁.setTop (mkF m 18 #[.val (.int p1)] [(.int p1)])) _
        refine XS.iconst X0.here hx rfl (hb hby own_d_pick_18) ?_
        exact k)
      by_cases hc10 : p1 = (2 : Int32)
      ·
        obtain ⟨T11, X11, e11, st11⟩ := getS2 X0 hx hZ hown (host := "") (Or.inl (hw _ (List.mem_of_getElem? (i := 26) rfl))) Via.refl e0 fS_Expression_Operator_EQUAL (g := (mkF m 22 #[.val (.int p1)] [])) rfl (hb hby own_d_pick_22)
        have way12 : ∀ t, Steps p.tables e below (T11.setTop (mkF m 25 #[.val (.int p1)] [(.ref r2)])) t → Steps p.tables e below (s₁.setTop (entryFrame m #[(.int p1)] 1)) t := fun t k => way9 t (by
          show Steps p.tables e below (s₁.setTop (mkF m 19 #[.val (.int p1)] [(.int (2 : Int32)), (.int p1)])) _
          refine XS.icmpNo X0.here hx rfl (hb hby own_d_pick_19) rfl (teq hc10).2 ?_
          show Steps p.tables e below (s₁.setTop (mkF m 22 #[.val (.int p1)] [])) _
          refine st11 _ ?_
          exact k)
        obtain ⟨fs, hr, hrun, hended, hW, hsame⟩ := X11.leave (v := some (.ref r2)) (fun h => by rw [Bd.returns] at h; cases h)
        refine ⟨_, _, way12 _ ?_, hrun, hended, _, _, rfl, ?_, ⟨_, rfl⟩, hW, hsame.mono (by decide) (by decide)⟩
        · show Steps p.tables e below (T11.setTop (mkF m 25 #[.val (.int p1)] [(.ref r2)])) _
          jvm_step X11.here [X11.here.top, hx, (hb hby own_d_pick_25), X11.method', Bd.returns, Value.isRef, FieldType.isReference]
          first | (intro acts; rw [hr _ acts rfl rfl rfl]) | rw [hr _ _ rfl rfl rfl]
          exact Steps.refl _
        · show Q_pick Z p1 r0 r1 r2 r3 r4 r5 r6 r7 r8 r9 r10 r11 r12 r13 h0 n0 _ T11.heap _
          rw [e11]
          exact ⟨by simp [own_pick, hc2, hc6, hc10], N0, rfl⟩
      ·
        have way13 : ∀ t, Steps p.tables e below (s₁.setTop (mkF m 28 #[.val (.int p1)] [(.int (3 : Int32)), (.int p1)])) t → Steps p.tables e below (s₁.setTop (entryFrame m #[(.int p1)] 1)) t := fun t k => way9 t (by
          show Steps p.tables e below (s₁.setTop (mkF m 19 #[.val (.int p1)] [(.int (2 : Int32)), (.int p1)])) _
          refine XS.icmpYes X0.here hx rfl (pc0 := 19) (pc' := 26) rfl (hb hby own_d_pick_19) rfl (feq hc10).2 (by decide) (by decide) ?_
          show Steps p.tables e below (s₁.setTop (mkF m 26 #[.val (.int p1)] [])) _
          refine XS.iloadN X0.here hx rfl (hb hby own_d_pick_26) rfl ?_
          show Steps p.tables e below (s₁.setTop (mkF m 27 #[.val (.int p1)] [(.int p1)])) _
          refine XS.iconst X0.here hx rfl (hb hby own_d_pick_27) ?_
          exact k)
        by_cases hc14 : p1 = (3 : Int32)
        ·
          obtain ⟨T15, X15, e15, st15⟩ := getS2 X0 hx hZ hown (host := "") (Or.inl (hw _ (List.mem_of_getElem? (i := 16) rfl))) Via.refl e0 fS_Expression_Operator_NOT_EQUAL (g := (mkF m 31 #[.val (.int p1)] [])) rfl (hb hby own_d_pick_31)
          have way16 : ∀ t, Steps p.tables e below (T15.setTop (mkF m 34 #[.val (.int p1)] [(.ref r3)])) t → Steps p.tables e below (s₁.setTop (entryFrame m #[(.int p1)] 1)) t := fun t k => way13 t (by
            show Steps p.tables e below (s₁.setTop (mkF m 28 #[.val (.int p1)] [(.int (3 : Int32)), (.int p1)])) _
            refine XS.icmpNo X0.here hx rfl (hb hby own_d_pick_28) rfl (teq hc14).2 ?_
            show Steps p.tables e below (s₁.setTop (mkF m 31 #[.val (.int p1)] [])) _
            refine st15 _ ?_
            exact k)
          obtain ⟨fs, hr, hrun, hended, hW, hsame⟩ := X15.leave (v := some (.ref r3)) (fun h => by rw [Bd.returns] at h; cases h)
          refine ⟨_, _, way16 _ ?_, hrun, hended, _, _, rfl, ?_, ⟨_, rfl⟩, hW, hsame.mono (by decide) (by decide)⟩
          · show Steps p.tables e below (T15.setTop (mkF m 34 #[.val (.int p1)] [(.ref r3)])) _
            jvm_step X15.here [X15.here.top, hx, (hb hby own_d_pick_34), X15.method', Bd.returns, Value.isRef, FieldType.isReference]
            first | (intro acts; rw [hr _ acts rfl rfl rfl]) | rw [hr _ _ rfl rfl rfl]
            exact Steps.refl _
          · show Q_pick Z p1 r0 r1 r2 r3 r4 r5 r6 r7 r8 r9 r10 r11 r12 r13 h0 n0 _ T15.heap _
            rw [e15]
            exact ⟨by simp [own_pick, hc2, hc6, hc10, hc14], N0, rfl⟩
        ·
          have way17 : ∀ t, Steps p.tables e below (s₁.setTop (mkF m 37 #[.val (.int p1)] [(.int (4 : Int32)), (.int p1)])) t → Steps p.tables e below (s₁.setTop (entryFrame m #[(.int p1)] 1)) t := fun t k => way13 t (by
            show Steps p.tables e below (s₁.setTop (mkF m 28 #[.val (.int p1)] [(.int (3 : Int32)), (.int p1)])) _
            refine XS.icmpYes X0.here hx rfl (pc0 := 28) (pc' := 35) rfl (hb hby own_d_pick_28) rfl (feq hc14).2 (by decide) (by decide) ?_
            show Steps p.tables e below (s₁.setTop (mkF m 35 #[.val (.int p1)] [])) _
            refine XS.iloadN X0.here hx rfl (hb hby own_d_pick_35) rfl ?_
            show Steps p.tables e below (s₁.setTop (mkF m 36 #[.val (.int p1)] [(.int p1)])) _
            refine XS.iconst X0.here hx rfl (hb hby own_d_pick_36) ?_
            exact k)
          by_cases hc18 : p1 = (4 : Int32)
          ·
            obtain ⟨T19, X19, e19, st19⟩ := getS2 X0 hx hZ hown (host := "") (Or.inl (hw _ (List.mem_of_getElem? (i := 22) rfl))) Via.refl e0 fS_Expression_Operator_LESS (g := (mkF m 40 #[.val (.int p1)] [])) rfl (hb hby own_d_pick_40)
            have way20 : ∀ t, Steps p.tables e below (T19.setTop (mkF m 43 #[.val (.int p1)] [(.ref r4)])) t → Steps p.tables e below (s₁.setTop (entryFrame m #[(.int p1)] 1)) t := fun t k => way17 t (by
              show Steps p.tables e below (s₁.setTop (mkF m 37 #[.val (.int p1)] [(.int (4 : Int32)), (.int p1)])) _
              refine XS.icmpNo X0.here hx rfl (hb hby own_d_pick_37) rfl (teq hc18).2 ?_
              show Steps p.tables e below (s₁.setTop (mkF m 40 #[.val (.int p1)] [])) _
              refine st19 _ ?_
              exact k)
            obtain ⟨fs, hr, hrun, hended, hW, hsame⟩ := X19.leave (v := some (.ref r4)) (fun h => by rw [Bd.returns] at h; cases h)
            refine ⟨_, _, way20 _ ?_, hrun, hended, _, _, rfl, ?_, ⟨_, rfl⟩, hW, hsame.mono (by decide) (by decide)⟩
            · show Steps p.tables e below (T19.setTop (mkF m 43 #[.val (.int p1)] [(.ref r4)])) _
              jvm_step X19.here [X19.here.top, hx, (hb hby own_d_pick_43), X19.method', Bd.returns, Value.isRef, FieldType.isReference]
              first | (intro acts; rw [hr _ acts rfl rfl rfl]) | rw [hr _ _ rfl rfl rfl]
              exact Steps.refl _
            · show Q_pick Z p1 r0 r1 r2 r3 r4 r5 r6 r7 r8 r9 r10 r11 r12 r13 h0 n0 _ T19.heap _
              rw [e19]
              exact ⟨by simp [own_pick, hc2, hc6, hc10, hc14, hc18], N0, rfl⟩
          ·
            have way21 : ∀ t, Steps p.tables e below (s₁.setTop (mkF m 46 #[.val (.int p1)] [(.int (5 : Int32)), (.int p1)])) t → Steps p.tables e below (s₁.setTop (entryFrame m #[(.int p1)] 1)) t := fun t k => way17 t (by
              show Steps p.tables e below (s₁.setTop (mkF m 37 #[.val (.int p1)] [(.int (4 : Int32)), (.int p1)])) _
              refine XS.icmpYes X0.here hx rfl (pc0 := 37) (pc' := 44) rfl (hb hby own_d_pick_37) rfl (feq hc18).2 (by decide) (by decide) ?_
              show Steps p.tables e below (s₁.setTop (mkF m 44 #[.val (.int p1)] [])) _
              refine XS.iloadN X0.here hx rfl (hb hby own_d_pick_44) rfl ?_
              show Steps p.tables e below (s₁.setTop (mkF m 45 #[.val (.int p1)] [(.int p1)])) _
              refine XS.iconst X0.here hx rfl (hb hby own_d_pick_45) ?_
              exact k)
            by_cases hc22 : p1 = (5 : Int32)
            ·
              obtain ⟨T23, X23, e23, st23⟩ := getS2 X0 hx hZ hown (host := "") (Or.inl (hw _ (List.mem_of_getElem? (i := 37) rfl))) Via.refl e0 fS_Expression_Operator_GREATER (g := (mkF m 49 #[.val (.int p1)] [])) rfl (hb hby own_d_pick_49)
              have way24 : ∀ t, Steps p.tables e below (T23.setTop (mkF m 52 #[.val (.int p1)] [(.ref r5)])) t → Steps p.tables e below (s₁.setTop (entryFrame m #[(.int p1)] 1)) t := fun t k => way21 t (by
                show Steps p.tables e below (s₁.setTop (mkF m 46 #[.val (.int p1)] [(.int (5 : Int32)), (.int p1)])) _
                refine XS.icmpNo X0.here hx rfl (hb hby own_d_pick_46) rfl (teq hc22).2 ?_
                show Steps p.tables e below (s₁.setTop (mkF m 49 #[.val (.int p1)] [])) _
                refine st23 _ ?_
                exact k)
              obtain ⟨fs, hr, hrun, hended, hW, hsame⟩ := X23.leave (v := some (.ref r5)) (fun h => by rw [Bd.returns] at h; cases h)
              refine ⟨_, _, way24 _ ?_, hrun, hended, _, _, rfl, ?_, ⟨_, rfl⟩, hW, hsame.mono (by decide) (by decide)⟩
              · show Steps p.tables e below (T23.setTop (mkF m 52 #[.val (.int p1)] [(.ref r5)])) _
                jvm_step X23.here [X23.here.top, hx, (hb hby own_d_pick_52), X23.method', Bd.returns, Value.isRef, FieldType.isReference]
                first | (intro acts; rw [hr _ acts rfl rfl rfl]) | rw [hr _ _ rfl rfl rfl]
                exact Steps.refl _
              · show Q_pick Z p1 r0 r1 r2 r3 r4 r5 r6 r7 r8 r9 r10 r11 r12 r13 h0 n0 _ T23.heap _
                rw [e23]
                exact ⟨by simp [own_pick, hc2, hc6, hc10, hc14, hc18, hc22], N0, rfl⟩
            ·
              have way25 : ∀ t, Steps p.tables e below (s₁.setTop (mkF m 56 #[.val (.int p1)] [(.int (6 : Int32)), (.int p1)])) t → Steps p.tables e below (s₁.setTop (entryFrame m #[(.int p1)] 1)) t := fun t k => way21 t (by
                show Steps p.tables e below (s₁.setTop (mkF m 46 #[.val (.int p1)] [(.int (5 : Int32)), (.int p1)])) _
                refine XS.icmpYes X0.here hx rfl (pc0 := 46) (pc' := 53) rfl (hb hby own_d_pick_46) rfl (feq hc22).2 (by decide) (by decide) ?_
                show Steps p.tables e below (s₁.setTop (mkF m 53 #[.val (.int p1)] [])) _
                refine XS.iloadN X0.here hx rfl (hb hby own_d_pick_53) rfl ?_
                show Steps p.tables e below (s₁.setTop (mkF m 54 #[.val (.int p1)] [(.int p1)])) _
                refine XS.bipush X0.here hx rfl (hb hby own_d_pick_54) ?_
                exact k)
              by_cases hc26 : p1 = (6 : Int32)
              ·
                obtain ⟨T27, X27, e27, st27⟩ := getS2 X0 hx hZ hown (host := "") (Or.inl (hw _ (List.mem_of_getElem? (i := 39) rfl))) Via.refl e0 fS_Expression_Operator_LESS_OR_EQUAL (g := (mkF m 59 #[.val (.int p1)] [])) rfl (hb hby own_d_pick_59)
                have way28 : ∀ t, Steps p.tables e below (T27.setTop (mkF m 62 #[.val (.int p1)] [(.ref r6)])) t → Steps p.tables e below (s₁.setTop (entryFrame m #[(.int p1)] 1)) t := fun t k => way25 t (by
                  show Steps p.tables e below (s₁.setTop (mkF m 56 #[.val (.int p1)] [(.int (6 : Int32)), (.int p1)])) _
                  refine XS.icmpNo X0.here hx rfl (hb hby own_d_pick_56) rfl (teq hc26).2 ?_
                  show Steps p.tables e below (s₁.setTop (mkF m 59 #[.val (.int p1)] [])) _
                  refine st27 _ ?_
                  exact k)
                obtain ⟨fs, hr, hrun, hended, hW, hsame⟩ := X27.leave (v := some (.ref r6)) (fun h => by rw [Bd.returns] at h; cases h)
                refine ⟨_, _, way28 _ ?_, hrun, hended, _, _, rfl, ?_, ⟨_, rfl⟩, hW, hsame.mono (by decide) (by decide)⟩
                · show Steps p.tables e below (T27.setTop (mkF m 62 #[.val (.int p1)] [(.ref r6)])) _
                  jvm_step X27.here [X27.here.top, hx, (hb hby own_d_pick_62), X27.method', Bd.returns, Value.isRef, FieldType.isReference]
                  first | (intro acts; rw [hr _ acts rfl rfl rfl]) | rw [hr _ _ rfl rfl rfl]
                  exact Steps.refl _
                · show Q_pick Z p1 r0 r1 r2 r3 r4 r5 r6 r7 r8 r9 r10 r11 r12 r13 h0 n0 _ T27.heap _
                  rw [e27]
                  exact ⟨by simp [own_pick, hc2, hc6, hc10, hc14, hc18, hc22, hc26], N0, rfl⟩
              ·
                have way29 : ∀ t, Steps p.tables e below (s₁.setTop (mkF m 66 #[.val (.int p1)] [(.int (7 : Int32)), (.int p1)])) t → Steps p.tables e below (s₁.setTop (entryFrame m #[(.int p1)] 1)) t := fun t k => way25 t (by
                  show Steps p.tables e below (s₁.setTop (mkF m 56 #[.val (.int p1)] [(.int (6 : Int32)), (.int p1)])) _
                  refine XS.icmpYes X0.here hx rfl (pc0 := 56) (pc' := 63) rfl (hb hby own_d_pick_56) rfl (feq hc26).2 (by decide) (by decide) ?_
                  show Steps p.tables e below (s₁.setTop (mkF m 63 #[.val (.int p1)] [])) _
                  refine XS.iloadN X0.here hx rfl (hb hby own_d_pick_63) rfl ?_
                  show Steps p.tables e below (s₁.setTop (mkF m 64 #[.val (.int p1)] [(.int p1)])) _
                  refine XS.bipush X0.here hx rfl (hb hby own_d_pick_64) ?_
                  exact k)
                by_cases hc30 : p1 = (7 : Int32)
                ·
                  obtain ⟨T31, X31, e31, st31⟩ := getS2 X0 hx hZ hown (host := "") (Or.inl (hw _ (List.mem_of_getElem? (i := 24) rfl))) Via.refl e0 fS_Expression_Operator_GREATER_OR_EQUAL (g := (mkF m 69 #[.val (.int p1)] [])) rfl (hb hby own_d_pick_69)
                  have way32 : ∀ t, Steps p.tables e below (T31.setTop (mkF m 72 #[.val (.int p1)] [(.ref r7)])) t → Steps p.tables e below (s₁.setTop (entryFrame m #[(.int p1)] 1)) t := fun t k => way29 t (by
                    show Steps p.tables e below (s₁.setTop (mkF m 66 #[.val (.int p1)] [(.int (7 : Int32)), (.int p1)])) _
                    refine XS.icmpNo X0.here hx rfl (hb hby own_d_pick_66) rfl (teq hc30).2 ?_
                    show Steps p.tables e below (s₁.setTop (mkF m 69 #[.val (.int p1)] [])) _
                    refine st31 _ ?_
                    exact k)
                  obtain ⟨fs, hr, hrun, hended, hW, hsame⟩ := X31.leave (v := some (.ref r7)) (fun h => by rw [Bd.returns] at h; cases h)
                  refine ⟨_, _, way32 _ ?_, hrun, hended, _, _, rfl, ?_, ⟨_, rfl⟩, hW, hsame.mono (by decide) (by decide)⟩
                  · show Steps p.tables e below (T31.setTop (mkF m 72 #[.val (.int p1)] [(.ref r7)])) _
                    jvm_step X31.here [X31.here.top, hx, (hb hby own_d_pick_72), X31.method', Bd.returns, Value.isRef, FieldType.isReference]
                    first | (intro acts; rw [hr _ acts rfl rfl rfl]) | rw [hr _ _ rfl rfl rfl]
                    exact Steps.refl _
                  · show Q_pick Z p1 r0 r1 r2 r3 r4 r5 r6 r7 r8 r9 r10 r11 r12 r13 h0 n0 _ T31.heap _
                    rw [e31]
                    exact ⟨by simp [own_pick, hc2, hc6, hc10, hc14, hc18, hc22, hc26, hc30], N0, rfl⟩
                ·
                  have way33 : ∀ t, Steps p.tables e below (s₁.setTop (mkF m 76 #[.val (.int p1)] [(.int (8 : Int32)), (.int p1)])) t → Steps p.tables e below (s₁.setTop (entryFrame m #[(.int p1)] 1)) t := fun t k => way29 t (by
                    show Steps p.tables e below (s₁.setTop (mkF m 66 #[.val (.int p1)] [(.int (7 : Int32)), (.int p1)])) _
                    refine XS.icmpYes X0.here hx rfl (pc0 := 66) (pc' := 73) rfl (hb hby own_d_pick_66) rfl (feq hc30).2 (by decide) (by decide) ?_
                    show Steps p.tables e below (s₁.setTop (mkF m 73 #[.val (.int p1)] [])) _
                    refine XS.iloadN X0.here hx rfl (hb hby own_d_pick_73) rfl ?_
                    show Steps p.tables e below (s₁.setTop (mkF m 74 #[.val (.int p1)] [(.int p1)])) _
                    refine XS.bipush X0.here hx rfl (hb hby own_d_pick_74) ?_
                    exact k)
                  by_cases hc34 : p1 = (8 : Int32)
                  ·
                    obtain ⟨T35, X35, e35, st35⟩ := getS2 X0 hx hZ hown (host := "") (Or.inl (hw _ (List.mem_of_getElem? (i := 32) rfl))) Via.refl e0 fS_Expression_Operator_PLUS (g := (mkF m 79 #[.val (.int p1)] [])) rfl (hb hby own_d_pick_79)
                    have way36 : ∀ t, Steps p.tables e below (T35.setTop (mkF m 82 #[.val (.int p1)] [(.ref r8)])) t → Steps p.tables e below (s₁.setTop (entryFrame m #[(.int p1)] 1)) t := fun t k => way33 t (by
                      show Steps p.tables e below (s₁.setTop (mkF m 76 #[.val (.int p1)] [(.int (8 : Int32)), (.int p1)])) _
                      refine XS.icmpNo X0.here hx rfl (hb hby own_d_pick_76) rfl (teq hc34).2 ?_
                      show Steps p.tables e below (s₁.setTop (mkF m 79 #[.val (.int p1)] [])) _
                      refine st35 _ ?_
                      exact k)
                    obtain ⟨fs, hr, hrun, hended, hW, hsame⟩ := X35.leave (v := some (.ref r8)) (fun h => by rw [Bd.returns] at h; cases h)
                    refine ⟨_, _, way36 _ ?_, hrun, hended, _, _, rfl, ?_, ⟨_, rfl⟩, hW, hsame.mono (by decide) (by decide)⟩
                    · show Steps p.tables e below (T35.setTop (mkF m 82 #[.val (.int p1)] [(.ref r8)])) _
                      jvm_step X35.here [X35.here.top, hx, (hb hby own_d_pick_82), X35.method', Bd.returns, Value.isRef, FieldType.isReference]
                      first | (intro acts; rw [hr _ acts rfl rfl rfl]) | rw [hr _ _ rfl rfl rfl]
                      exact Steps.refl _
                    · show Q_pick Z p1 r0 r1 r2 r3 r4 r5 r6 r7 r8 r9 r10 r11 r12 r13 h0 n0 _ T35.heap _
                      rw [e35]
                      exact ⟨by simp [own_pick, hc2, hc6, hc10, hc14, hc18, hc22, hc26, hc30, hc34], N0, rfl⟩
                  ·
                    have way37 : ∀ t, Steps p.tables e below (s₁.setTop (mkF m 86 #[.val (.int p1)] [(.int (9 : Int32)), (.int p1)])) t → Steps p.tables e below (s₁.setTop (entryFrame m #[(.int p1)] 1)) t := fun t k => way33 t (by
                      show Steps p.tables e below (s₁.setTop (mkF m 76 #[.val (.int p1)] [(.int (8 : Int32)), (.int p1)])) _
                      refine XS.icmpYes X0.here hx rfl (pc0 := 76) (pc' := 83) rfl (hb hby own_d_pick_76) rfl (feq hc34).2 (by decide) (by decide) ?_
                      show Steps p.tables e below (s₁.setTop (mkF m 83 #[.val (.int p1)] [])) _
                      refine XS.iloadN X0.here hx rfl (hb hby own_d_pick_83) rfl ?_
                      show Steps p.tables e below (s₁.setTop (mkF m 84 #[.val (.int p1)] [(.int p1)])) _
                      refine XS.bipush X0.here hx rfl (hb hby own_d_pick_84) ?_
                      exact k)
                    by_cases hc38 : p1 = (9 : Int32)
                    ·
                      obtain ⟨T39, X39, e39, st39⟩ := getS2 X0 hx hZ hown (host := "") (Or.inl (hw _ (List.mem_of_getElem? (i := 35) rfl))) Via.refl e0 fS_Expression_Operator_MINUS (g := (mkF m 89 #[.val (.int p1)] [])) rfl (hb hby own_d_pick_89)
                      have way40 : ∀ t, Steps p.tables e below (T39.setTop (mkF m 92 #[.val (.int p1)] [(.ref r9)])) t → Steps p.tables e below (s₁.setTop (entryFrame m #[(.int p1)] 1)) t := fun t k => way37 t (by
                        show Steps p.tables e below (s₁.setTop (mkF m 86 #[.val (.int p1)] [(.int (9 : Int32)), (.int p1)])) _
                        refine XS.icmpNo X0.here hx rfl (hb hby own_d_pick_86) rfl (teq hc38).2 ?_
                        show Steps p.tables e below (s₁.setTop (mkF m 89 #[.val (.int p1)] [])) _
                        refine st39 _ ?_
                        exact k)
                      obtain ⟨fs, hr, hrun, hended, hW, hsame⟩ := X39.leave (v := some (.ref r9)) (fun h => by rw [Bd.returns] at h; cases h)
                      refine ⟨_, _, way40 _ ?_, hrun, hended, _, _, rfl, ?_, ⟨_, rfl⟩, hW, hsame.mono (by decide) (by decide)⟩
                      · show Steps p.tables e below (T39.setTop (mkF m 92 #[.val (.int p1)] [(.ref r9)])) _
                        jvm_step X39.here [X39.here.top, hx, (hb hby own_d_pick_92), X39.method', Bd.returns, Value.isRef, FieldType.isReference]
                        first | (intro acts; rw [hr _ acts rfl rfl rfl]) | rw [hr _ _ rfl rfl rfl]
                        exact Steps.refl _
                      · show Q_pick Z p1 r0 r1 r2 r3 r4 r5 r6 r7 r8 r9 r10 r11 r12 r13 h0 n0 _ T39.heap _
                        rw [e39]
                        exact ⟨by simp [own_pick, hc2, hc6, hc10, hc14, hc18, hc22, hc26, hc30, hc34, hc38], N0, rfl⟩
                    ·
                      have way41 : ∀ t, Steps p.tables e below (s₁.setTop (mkF m 96 #[.val (.int p1)] [(.int (10 : Int32)), (.int p1)])) t → Steps p.tables e below (s₁.setTop (entryFrame m #[(.int p1)] 1)) t := fun t k => way37 t (by
                        show Steps p.tables e below (s₁.setTop (mkF m 86 #[.val (.int p1)] [(.int (9 : Int32)), (.int p1)])) _
                        refine XS.icmpYes X0.here hx rfl (pc0 := 86) (pc' := 93) rfl (hb hby own_d_pick_86) rfl (feq hc38).2 (by decide) (by decide) ?_
                        show Steps p.tables e below (s₁.setTop (mkF m 93 #[.val (.int p1)] [])) _
                        refine XS.iloadN X0.here hx rfl (hb hby own_d_pick_93) rfl ?_
                        show Steps p.tables e below (s₁.setTop (mkF m 94 #[.val (.int p1)] [(.int p1)])) _
                        refine XS.bipush X0.here hx rfl (hb hby own_d_pick_94) ?_
                        exact k)
                      by_cases hc42 : p1 = (10 : Int32)
                      ·
                        obtain ⟨T43, X43, e43, st43⟩ := getS2 X0 hx hZ hown (host := "") (Or.inl (hw _ (List.mem_of_getElem? (i := 30) rfl))) Via.refl e0 fS_Expression_Operator_JOIN (g := (mkF m 99 #[.val (.int p1)] [])) rfl (hb hby own_d_pick_99)
                        have way44 : ∀ t, Steps p.tables e below (T43.setTop (mkF m 102 #[.val (.int p1)] [(.ref r10)])) t → Steps p.tables e below (s₁.setTop (entryFrame m #[(.int p1)] 1)) t := fun t k => way41 t (by
                          show Steps p.tables e below (s₁.setTop (mkF m 96 #[.val (.int p1)] [(.int (10 : Int32)), (.int p1)])) _
                          refine XS.icmpNo X0.here hx rfl (hb hby own_d_pick_96) rfl (teq hc42).2 ?_
                          show Steps p.tables e below (s₁.setTop (mkF m 99 #[.val (.int p1)] [])) _
                          refine st43 _ ?_
                          exact k)
                        obtain ⟨fs, hr, hrun, hended, hW, hsame⟩ := X43.leave (v := some (.ref r10)) (fun h => by rw [Bd.returns] at h; cases h)
                        refine ⟨_, _, way44 _ ?_, hrun, hended, _, _, rfl, ?_, ⟨_, rfl⟩, hW, hsame.mono (by decide) (by decide)⟩
                        · show Steps p.tables e below (T43.setTop (mkF m 102 #[.val (.int p1)] [(.ref r10)])) _
                          jvm_step X43.here [X43.here.top, hx, (hb hby own_d_pick_102), X43.method', Bd.returns, Value.isRef, FieldType.isReference]
                          first | (intro acts; rw [hr _ acts rfl rfl rfl]) | rw [hr _ _ rfl rfl rfl]
                          exact Steps.refl _
                        · show Q_pick Z p1 r0 r1 r2 r3 r4 r5 r6 r7 r8 r9 r10 r11 r12 r13 h0 n0 _ T43.heap _
                          rw [e43]
                          exact ⟨by simp [own_pick, hc2, hc6, hc10, hc14, hc18, hc22, hc26, hc30, hc34, hc38, hc42], N0, rfl⟩
                      ·
                        have way45 : ∀ t, Steps p.tables e below (s₁.setTop (mkF m 106 #[.val (.int p1)] [(.int (11 : Int32)), (.int p1)])) t → Steps p.tables e below (s₁.setTop (entryFrame m #[(.int p1)] 1)) t := fun t k => way41 t (by
                          show Steps p.tables e below (s₁.setTop (mkF m 96 #[.val (.int p1)] [(.int (10 : Int32)), (.int p1)])) _
                          refine XS.icmpYes X0.here hx rfl (pc0 := 96) (pc' := 103) rfl (hb hby own_d_pick_96) rfl (feq hc42).2 (by decide) (by decide) ?_
                          show Steps p.tables e below (s₁.setTop (mkF m 103 #[.val (.int p1)] [])) _
                          refine XS.iloadN X0.here hx rfl (hb hby own_d_pick_103) rfl ?_
                          show Steps p.tables e below (s₁.setTop (mkF m 104 #[.val (.int p1)] [(.int p1)])) _
                          refine XS.bipush X0.here hx rfl (hb hby own_d_pick_104) ?_
                          exact k)
                        by_cases hc46 : p1 = (11 : Int32)
                        ·
                          obtain ⟨T47, X47, e47, st47⟩ := getS2 X0 hx hZ hown (host := "") (Or.inl (hw _ (List.mem_of_getElem? (i := 28) rfl))) Via.refl e0 fS_Expression_Operator_TIMES (g := (mkF m 109 #[.val (.int p1)] [])) rfl (hb hby own_d_pick_109)
                          have way48 : ∀ t, Steps p.tables e below (T47.setTop (mkF m 112 #[.val (.int p1)] [(.ref r11)])) t → Steps p.tables e below (s₁.setTop (entryFrame m #[(.int p1)] 1)) t := fun t k => way45 t (by
                            show Steps p.tables e below (s₁.setTop (mkF m 106 #[.val (.int p1)] [(.int (11 : Int32)), (.int p1)])) _
                            refine XS.icmpNo X0.here hx rfl (hb hby own_d_pick_106) rfl (teq hc46).2 ?_
                            show Steps p.tables e below (s₁.setTop (mkF m 109 #[.val (.int p1)] [])) _
                            refine st47 _ ?_
                            exact k)
                          obtain ⟨fs, hr, hrun, hended, hW, hsame⟩ := X47.leave (v := some (.ref r11)) (fun h => by rw [Bd.returns] at h; cases h)
                          refine ⟨_, _, way48 _ ?_, hrun, hended, _, _, rfl, ?_, ⟨_, rfl⟩, hW, hsame.mono (by decide) (by decide)⟩
                          · show Steps p.tables e below (T47.setTop (mkF m 112 #[.val (.int p1)] [(.ref r11)])) _
                            jvm_step X47.here [X47.here.top, hx, (hb hby own_d_pick_112), X47.method', Bd.returns, Value.isRef, FieldType.isReference]
                            first | (intro acts; rw [hr _ acts rfl rfl rfl]) | rw [hr _ _ rfl rfl rfl]
                            exact Steps.refl _
                          · show Q_pick Z p1 r0 r1 r2 r3 r4 r5 r6 r7 r8 r9 r10 r11 r12 r13 h0 n0 _ T47.heap _
                            rw [e47]
                            exact ⟨by simp [own_pick, hc2, hc6, hc10, hc14, hc18, hc22, hc26, hc30, hc34, hc38, hc42, hc46], N0, rfl⟩
                        ·
                          have way49 : ∀ t, Steps p.tables e below (s₁.setTop (mkF m 116 #[.val (.int p1)] [(.int (12 : Int32)), (.int p1)])) t → Steps p.tables e below (s₁.setTop (entryFrame m #[(.int p1)] 1)) t := fun t k => way45 t (by
                            show Steps p.tables e below (s₁.setTop (mkF m 106 #[.val (.int p1)] [(.int (11 : Int32)), (.int p1)])) _
                            refine XS.icmpYes X0.here hx rfl (pc0 := 106) (pc' := 113) rfl (hb hby own_d_pick_106) rfl (feq hc46).2 (by decide) (by decide) ?_
                            show Steps p.tables e below (s₁.setTop (mkF m 113 #[.val (.int p1)] [])) _
                            refine XS.iloadN X0.here hx rfl (hb hby own_d_pick_113) rfl ?_
                            show Steps p.tables e below (s₁.setTop (mkF m 114 #[.val (.int p1)] [(.int p1)])) _
                            refine XS.bipush X0.here hx rfl (hb hby own_d_pick_114) ?_
                            exact k)
                          by_cases hc50 : p1 = (12 : Int32)
                          ·
                            obtain ⟨T51, X51, e51, st51⟩ := getS2 X0 hx hZ hown (host := "") (Or.inl (hw _ (List.mem_of_getElem? (i := 18) rfl))) Via.refl e0 fS_Expression_Operator_DIVIDE (g := (mkF m 119 #[.val (.int p1)] [])) rfl (hb hby own_d_pick_119)
                            have way52 : ∀ t, Steps p.tables e below (T51.setTop (mkF m 122 #[.val (.int p1)] [(.ref r12)])) t → Steps p.tables e below (s₁.setTop (entryFrame m #[(.int p1)] 1)) t := fun t k => way49 t (by
                              show Steps p.tables e below (s₁.setTop (mkF m 116 #[.val (.int p1)] [(.int (12 : Int32)), (.int p1)])) _
                              refine XS.icmpNo X0.here hx rfl (hb hby own_d_pick_116) rfl (teq hc50).2 ?_
                              show Steps p.tables e below (s₁.setTop (mkF m 119 #[.val (.int p1)] [])) _
                              refine st51 _ ?_
                              exact k)
                            obtain ⟨fs, hr, hrun, hended, hW, hsame⟩ := X51.leave (v := some (.ref r12)) (fun h => by rw [Bd.returns] at h; cases h)
                            refine ⟨_, _, way52 _ ?_, hrun, hended, _, _, rfl, ?_, ⟨_, rfl⟩, hW, hsame.mono (by decide) (by decide)⟩
                            · show Steps p.tables e below (T51.setTop (mkF m 122 #[.val (.int p1)] [(.ref r12)])) _
                              jvm_step X51.here [X51.here.top, hx, (hb hby own_d_pick_122), X51.method', Bd.returns, Value.isRef, FieldType.isReference]
                              first | (intro acts; rw [hr _ acts rfl rfl rfl]) | rw [hr _ _ rfl rfl rfl]
                              exact Steps.refl _
                            · show Q_pick Z p1 r0 r1 r2 r3 r4 r5 r6 r7 r8 r9 r10 r11 r12 r13 h0 n0 _ T51.heap _
                              rw [e51]
                              exact ⟨by simp [own_pick, hc2, hc6, hc10, hc14, hc18, hc22, hc26, hc30, hc34, hc38, hc42, hc46, hc50], N0, rfl⟩
                          ·
                            obtain ⟨T53, X53, e53, st53⟩ := getS2 X0 hx hZ hown (host := "") (Or.inl (hw _ (List.mem_of_getElem? (i := 20) rfl))) Via.refl e0 fS_Expression_Operator_NOT (g := (mkF m 123 #[.val (.int p1)] [])) rfl (hb hby own_d_pick_123)
                            have way54 : ∀ t, Steps p.tables e below (T53.setTop (mkF m 126 #[.val (.int p1)] [(.ref r13)])) t → Steps p.tables e below (s₁.setTop (entryFrame m #[(.int p1)] 1)) t := fun t k => way49 t (by
                              show Steps p.tables e below (s₁.setTop (mkF m 116 #[.val (.int p1)] [(.int (12 : Int32)), (.int p1)])) _
                              refine XS.icmpYes X0.here hx rfl (pc0 := 116) (pc' := 123) rfl (hb hby own_d_pick_116) rfl (feq hc50).2 (by decide) (by decide) ?_
                              show Steps p.tables e below (s₁.setTop (mkF m 123 #[.val (.int p1)] [])) _
                              refine st53 _ ?_
                              exact k)
                            obtain ⟨fs, hr, hrun, hended, hW, hsame⟩ := X53.leave (v := some (.ref r13)) (fun h => by rw [Bd.returns] at h; cases h)
                            refine ⟨_, _, way54 _ ?_, hrun, hended, _, _, rfl, ?_, ⟨_, rfl⟩, hW, hsame.mono (by decide) (by decide)⟩
                            · show Steps p.tables e below (T53.setTop (mkF m 126 #[.val (.int p1)] [(.ref r13)])) _
                              jvm_step X53.here [X53.here.top, hx, (hb hby own_d_pick_126), X53.method', Bd.returns, Value.isRef, FieldType.isReference]
                              first | (intro acts; rw [hr _ acts rfl rfl rfl]) | rw [hr _ _ rfl rfl rfl]
                              exact Steps.refl _
                            · show Q_pick Z p1 r0 r1 r2 r3 r4 r5 r6 r7 r8 r9 r10 r11 r12 r13 h0 n0 _ T53.heap _
                              rw [e53]
                              exact ⟨by simp [own_pick, hc2, hc6, hc10, hc14, hc18, hc22, hc26, hc30, hc34, hc38, hc42, hc46, hc50], N0, rfl⟩
theorem own_pn1 : plainName "com/example/tierwright/tierwright/lang/Expression$Operator" = true := by first | (simp [plainName, overriddenIn]; done) | decide +kernel
theorem own_d_log_0 : decode prog_48_method_6_code 0 = .ok (.aload_n 0, 1) := by decide +kernel
theorem own_d_log_1 : decode prog_48_method_6_code 1 = .ok (.getstatic 7, 3) := by decide +kernel
theorem own_d_log_4 : decode prog_48_method_6_code 4 = .ok (.if_acmp .eq 10, 3) := by decide +kernel
theorem own_d_log_7 : decode prog_48_method_6_code 7 = .ok (.aload_n 0, 1) := by decide +kernel
theorem own_d_log_8 : decode prog_48_method_6_code 8 = .ok (.getstatic 3, 3) := by decide +kernel
theorem own_d_log_11 : decode prog_48_method_6_code 11 = .ok (.if_acmp .ne 7, 3) := by decide +kernel
theorem own_d_log_14 : decode prog_48_method_6_code 14 = .ok (.iconst 1, 1) := by decide +kernel
theorem own_d_log_15 : decode prog_48_method_6_code 15 = .ok (.goto 4, 3) := by decide +kernel
theorem own_d_log_18 : decode prog_48_method_6_code 18 = .ok (.iconst 0, 1) := by decide +kernel
theorem own_d_log_19 : decode prog_48_method_6_code 19 = .ok (.ireturn, 1) := by decide +kernel
theorem own_ef_log (m : MethodId) (a1 : Addr) : entryFrame m #[(.ref a1)] 1 = mkF m 0 #[.val (.ref a1)] [] := by first | (simp [entryFrame, mkF, argsToLocals, Value.category]; done) | rfl
def Q_log (Z : State) (a1 : Addr) (r1 : Addr) (r0 : Addr) (h0 : Heap) (n0 : Nat) (v : Option Value) (h : Heap) (L : List Loc) : Prop := v = some (.int (own_log a1 r1 r0)) ∧ Fr n0 L ∧ h = h0
set_option maxRecDepth 65536 in
set_option maxHeartbeats 40000000 in
theorem rm_log (l : Launch) (Z : State) (a0 : Array Value) (hw : ∀ d ∈ tables_1, d.before a0 Z = true) (ws : List Jvm.Cond) (a1 : Addr) (r1 : Addr) (r0 : Addr) (h0 : Heap) (n0 : Nat) (Z0 : n0 ≤ h0.size) (fS_Expression_Operator_AND : Sta Z h0 "com/example/tierwright/tierwright/lang/Expression$Operator" "AND" "Lcom/example/tierwright/tierwright/lang/Expression$Operator;" (.ref r1)) (fS_Expression_Operator_OR : Sta Z h0 "com/example/tierwright/tierwright/lang/Expression$Operator" "OR" "Lcom/example/tierwright/tierwright/lang/Expression$Operator;" (.ref r0)) :
    MetFree l (⟨"com/example/tierwright/tierwright/lang/Expression$Operator", "isLogical", "()Z"⟩ : MethodName) (head1 (Jvm.Cond.code (⟨"com/example/tierwright/tierwright/lang/Expression$Operator", "isLogical", "()Z"⟩ : MethodName) prog_48_method_6_code 1 (some .boolean) :: ws) ({ frames := 0, cells := 0, slots := 0, locals := 0 } : Room)) (fun a U => a = #[(.ref a1)] ∧ Z.Warmed39 U.vm ∧ U.heap = h0) (fun _ _ _ _ _ => True) (fun _ U o U' => ∃ v L, o = .returned v ∧ Q_log Z a1 r1 r0 h0 n0 v U'.heap L ∧ FrameEnd U o U' L ({ frames := 0, cells := 0, slots := 0, locals := 0 } : Room).cells ({ frames := 0, cells := 0, slots := 0, locals := 0 } : Room).slots) := by
  refine MetFree.of_bodySF (plainFor_of_name own_pn1) hisR ?_
  intro p e s m args below meth c s₁ Bd hml0 hP hK
  obtain ⟨rfl, hZ, hh⟩ := hP
  have hx := Bd.exec
  have hby := Bd.bytes
  have hml : c.maxLocals = 1 := hml0
  have hown : s.vm.findClass "com/example/tierwright/tierwright/lang/Expression$Operator" = some m.cls := findClass_of_methodNamed Bd.named
  have hnm := (name_of_methodNamed Bd.named Bd.method).1
  have X0 : Stand p l e ({ frames := 0, cells := 0, slots := 0, locals := 0 } : Room) s m #[(.ref a1)] below meth c s₁ [] 0 0 := Stand.of_body Bd
  have e0 : s₁.heap = h0 := by rw [← hh, Bd.state]; rfl
  have N0 := Fr.nil n0
  have pre0 : ∀ t, Steps p.tables e below (s₁.setTop (mkF m 0 #[.val (.ref a1)] [])) t → Steps p.tables e below (s₁.setTop (entryFrame m #[(.ref a1)] 1)) t := fun t k => castTop (own_ef_log m a1) k
  obtain ⟨T1, X1, e1, st1⟩ := getS2 X0 hx hZ hown (host := "") (Or.inl (hw _ (List.mem_of_getElem? (i := 13) rfl))) Via.refl e0 fS_Expression_Operator_AND (g := (mkF m 1 #[.val (.ref a1)] [(.ref a1)])) rfl (hb hby own_d_log_1)
  have way2 : ∀ t, Steps p.tables e below (T1.setTop (mkF m 4 #[.val (.ref a1)] [(.ref r1), (.ref a1)])) t → Steps p.tables e below (s₁.setTop (entryFrame m #[(.ref a1)] 1)) t := fun t k => pre0 t (by
    show Steps p.tables e below (s₁.setTop (mkF m 0 #[.val (.ref a1)] [])) _
    refine XS.aloadN X0.here hx rfl (hb hby own_d_log_0) rfl rfl ?_
    show Steps p.tables e below (s₁.setTop (mkF m 1 #[.val (.ref a1)] [(.ref a1)])) _
    refine st1 _ ?_
    exact k)
  by_cases hc3 : a1 = r1
  ·
    have way4 : ∀ t, Steps p.tables e below (T1.setTop (mkF m 19 #[.val (.ref a1)] [(.int (1 : Int32))])) t → Steps p.tables e below (s₁.setTop (entryFrame m #[(.ref a1)] 1)) t := fun t k => way2 t (by
      show Steps p.tables e below (T1.setTop (mkF m 4 #[.val (.ref a1)] [(.ref r1), (.ref a1)])) _
      refine Jvm.RoadKit.acmp (g := (mkF m 4 #[.val (.ref a1)] [(.ref r1), (.ref a1)])) X1 hx rfl rfl rfl (pc0 := 4) (pc' := 14) (same := true) rfl (hb hby own_d_log_4) rfl (decide_eq_true (congrArg Value.ref hc3)) (by decide) (by decide) ?_
      show Steps p.tables e below (T1.setTop (mkF m 14 #[.val (.ref a1)] [])) _
      refine XS.iconst X1.here hx rfl (hb hby own_d_log_14) ?_
      show Steps p.tables e below (T1.setTop (mkF m 15 #[.val (.ref a1)] [(.int (1 : Int32))])) _
      refine XS.goto X1.here hx rfl (pc0 := 15) (pc' := 19) rfl (hb hby own_d_log_15) (by decide) (by decide) ?_
      exact k)
    obtain ⟨fs, hr, hrun, hended, hW, hsame⟩ := X1.leave (v := some (.int (1 : Int32))) (fun h => by rw [Bd.returns] at h; cases h)
    refine ⟨_, _, way4 _ ?_, hrun, hended, _, _, rfl, ?_, ⟨_, rfl⟩, hW, hsame.mono (by decide) (by decide)⟩
    · show Steps p.tables e below (T1.setTop (mkF m 19 #[.val (.ref a1)] [(.int (1 : Int32))])) _
      exact retN X1 hx (t := .boolean) Bd.returns (by simp) (hb hby own_d_log_19) hr
    · show Q_log Z a1 r1 r0 h0 n0 _ T1.heap _
      rw [e1]
      exact ⟨by simp [own_log, hc3], N0, rfl⟩
  ·
    obtain ⟨T5, X5, e5, st5⟩ := getS2 X1 hx hZ hown (host := "") (Or.inl (hw _ (List.mem_of_getElem? (i := 15) rfl))) Via.refl e1 fS_Expression_Operator_OR (g := (mkF m 8 #[.val (.ref a1)] [(.ref a1)])) rfl (hb hby own_d_log_8)
    have way6 : ∀ t, Steps p.tables e below (T5.setTop (mkF m 11 #[.val (.ref a1)] [(.ref r0), (.ref a1)])) t → Steps p.tables e below (s₁.setTop (entryFrame m #[(.ref a1)] 1)) t := fun t k => way2 t (by
      show Steps p.tables e below (T1.setTop (mkF m 4 #[.val (.ref a1)] [(.ref r1), (.ref a1)])) _
      refine Jvm.RoadKit.acmp (g := (mkF m 4 #[.val (.ref a1)] [(.ref r1), (.ref a1)])) X1 hx rfl rfl rfl (pc0 := 4) (pc' := 7) (same := false) rfl (hb hby own_d_log_4) rfl (decide_eq_false fun q => hc3 (Value.ref.inj q)) (by decide) (by decide) ?_
      show Steps p.tables e below (T1.setTop (mkF m 7 #[.val (.ref a1)] [])) _
      refine XS.aloadN X1.here hx rfl (hb hby own_d_log_7) rfl rfl ?_
      show Steps p.tables e below (T1.setTop (mkF m 8 #[.val (.ref a1)] [(.ref a1)])) _
      refine st5 _ ?_
      exact k)
    by_cases hc7 : a1 = r0
    ·
      have way8 : ∀ t, Steps p.tables e below (T5.setTop (mkF m 19 #[.val (.ref a1)] [(.int (1 : Int32))])) t → Steps p.tables e below (s₁.setTop (entryFrame m #[(.ref a1)] 1)) t := fun t k => way6 t (by
        show Steps p.tables e below (T5.setTop (mkF m 11 #[.val (.ref a1)] [(.ref r0), (.ref a1)])) _
        refine Jvm.RoadKit.acmp (g := (mkF m 11 #[.val (.ref a1)] [(.ref r0), (.ref a1)])) X5 hx rfl rfl rfl (pc0 := 11) (pc' := 14) (same := true) rfl (hb hby own_d_log_11) rfl (decide_eq_true (congrArg Value.ref hc7)) (by decide) (by decide) ?_
        show Steps p.tables e below (T5.setTop (mkF m 14 #[.val (.ref a1)] [])) _
        refine XS.iconst X5.here hx rfl (hb hby own_d_log_14) ?_
        show Steps p.tables e below (T5.setTop (mkF m 15 #[.val (.ref a1)] [(.int (1 : Int32))])) _
        refine XS.goto X5.here hx rfl (pc0 := 15) (pc' := 19) rfl (hb hby own_d_log_15) (by decide) (by decide) ?_
        exact k)
      obtain ⟨fs, hr, hrun, hended, hW, hsame⟩ := X5.leave (v := some (.int (1 : Int32))) (fun h => by rw [Bd.returns] at h; cases h)
      refine ⟨_, _, way8 _ ?_, hrun, hended, _, _, rfl, ?_, ⟨_, rfl⟩, hW, hsame.mono (by decide) (by decide)⟩
      · show Steps p.tables e below (T5.setTop (mkF m 19 #[.val (.ref a1)] [(.int (1 : Int32))])) _
        exact retN X5 hx (t := .boolean) Bd.returns (by simp) (hb hby own_d_log_19) hr
      · show Q_log Z a1 r1 r0 h0 n0 _ T5.heap _
        rw [e5]
        exact ⟨by simp [own_log, hc3, hc7], N0, rfl⟩
    ·
      have way9 : ∀ t, Steps p.tables e below (T5.setTop (mkF m 19 #[.val (.ref a1)] [(.int (0 : Int32))])) t → Steps p.tables e below (s₁.setTop (entryFrame m #[(.ref a1)] 1)) t := fun t k => way6 t (by
        show Steps p.tables e below (T5.setTop (mkF m 11 #[.val (.ref a1)] [(.ref r0), (.ref a1)])) _
        refine Jvm.RoadKit.acmp (g := (mkF m 11 #[.val (.ref a1)] [(.ref r0), (.ref a1)])) X5 hx rfl rfl rfl (pc0 := 11) (pc' := 18) (same := false) rfl (hb hby own_d_log_11) rfl (decide_eq_false fun q => hc7 (Value.ref.inj q)) (by decide) (by decide) ?_
        show Steps p.tables e below (T5.setTop (mkF m 18 #[.val (.ref a1)] [])) _
        refine XS.iconst X5.here hx rfl (hb hby own_d_log_18) ?_
        exact k)
      obtain ⟨fs, hr, hrun, hended, hW, hsame⟩ := X5.leave (v := some (.int (0 : Int32))) (fun h => by rw [Bd.returns] at h; cases h)
      refine ⟨_, _, way9 _ ?_, hrun, hended, _, _, rfl, ?_, ⟨_, rfl⟩, hW, hsame.mono (by decide) (by decide)⟩
      · show Steps p.tables e below (T5.setTop (mkF m 19 #[.val (.ref a1)] [(.int (0 : Int32))])) _
        exact retN X5 hx (t := .boolean) Bd.returns (by simp) (hb hby own_d_log_19) hr
      · show Q_log Z a1 r1 r0 h0 n0 _ T5.heap _
        rw [e5]
        exact ⟨by simp [own_log, hc3, hc7], N0, rfl⟩
theorem own_pd2 : parseMethodDescriptor "(I)Lcom/example/tierwright/tierwright/lang/Expression$Operator;" = some ⟨[.int], some (.object "com/example/tierwright/tierwright/lang/Expression$Operator")⟩ := by decide +kernel
theorem own_pd3 : parseMethodDescriptor "()Z" = some ⟨[], some .boolean⟩ := by decide +kernel
theorem own_ef_law (m : MethodId) (p1 : Int32) : entryFrame m #[(.int p1)] maxLocals = mkF m 0 #[.val (.int p1), .unset, .unset, .unset] [] := by first | (simp [entryFrame, mkF, argsToLocals, Value.category, maxLocals]; done) | rfl
def Q_law (Z : State) (p1 : Int32) (r0 : Addr) (r1 : Addr) (r2 : Addr) (r3 : Addr) (r4 : Addr) (r5 : Addr) (r6 : Addr) (r7 : Addr) (r8 : Addr) (r9 : Addr) (r10 : Addr) (r11 : Addr) (r12 : Addr) (r13 : Addr) (h0 : Heap) (n0 : Nat) (v : Option Value) (h : Heap) (L : List Loc) : Prop := v = some (.int (1 : Int32)) ∧ Fr n0 L
set_option maxRecDepth 65536 in
set_option maxHeartbeats 40000000 in
theorem rm_law (l : Launch) (Z : State) (a0 : Array Value) (hw : ∀ d ∈ tables_1, d.before a0 Z = true) (ws : List Jvm.Cond) (p1 : Int32) (r0 : Addr) (r1 : Addr) (r2 : Addr) (r3 : Addr) (r4 : Addr) (r5 : Addr) (r6 : Addr) (r7 : Addr) (r8 : Addr) (r9 : Addr) (r10 : Addr) (r11 : Addr) (r12 : Addr) (r13 : Addr) (h0 : Heap) (n0 : Nat) (Z0 : n0 ≤ h0.size) (n2 : r2 ≠ r0) (m2 : r2 ≠ r1) (n3 : r3 ≠ r0) (m3 : r3 ≠ r1) (n4 : r4 ≠ r0) (m4 : r4 ≠ r1) (n5 : r5 ≠ r0) (m5 : r5 ≠ r1) (n6 : r6 ≠ r0) (m6 : r6 ≠ r1) (n7 : r7 ≠ r0) (m7 : r7 ≠ r1) (n8 : r8 ≠ r0) (m8 : r8 ≠ r1) (n9 : r9 ≠ r0) (m9 : r9 ≠ r1) (n10 : r10 ≠ r0) (m10 : r10 ≠ r1) (n11 : r11 ≠ r0) (m11 : r11 ≠ r1) (n12 : r12 ≠ r0) (m12 : r12 ≠ r1) (n13 : r13 ≠ r0) (m13 : r13 ≠ r1) (fS_Expression_Operator_OR : Sta Z h0 "com/example/tierwright/tierwright/lang/Expression$Operator" "OR" "Lcom/example/tierwright/tierwright/lang/Expression$Operator;" (.ref r0)) (fS_Expression_Operator_AND : Sta Z h0 "com/example/tierwright/tierwright/lang/Expression$Operator" "AND" "Lcom/example/tierwright/tierwright/lang/Expression$Operator;" (.ref r1)) (fS_Expression_Operator_EQUAL : Sta Z h0 "com/example/tierwright/tierwright/lang/Expression$Operator" "EQUAL" "Lcom/example/tierwright/tierwright/lang/Expression$Operator;" (.ref r2)) (fS_Expression_Operator_NOT_EQUAL : Sta Z h0 "com/example/tierwright/tierwright/lang/Expression$Operator" "NOT_EQUAL" "Lcom/example/tierwright/tierwright/lang/Expression$Operator;" (.ref r3)) (fS_Expression_Operator_LESS : Sta Z h0 "com/example/tierwright/tierwright/lang/Expression$Operator" "LESS" "Lcom/example/tierwright/tierwright/lang/Expression$Operator;" (.ref r4)) (fS_Expression_Operator_GREATER : Sta Z h0 "com/example/tierwright/tierwright/lang/Expression$Operator" "GREATER" "Lcom/example/tierwright/tierwright/lang/Expression$Operator;" (.ref r5)) (fS_Expression_Operator_LESS_OR_EQUAL : Sta Z h0 "com/example/tierwright/tierwright/lang/Expression$Operator" "LESS_OR_EQUAL" "Lcom/example/tierwright/tierwright/lang/Expression$Operator;" (.ref r6)) (fS_Expression_Operator_GREATER_OR_EQUAL : Sta Z h0 "com/example/tierwright/tierwright/lang/Expression$Operator" "GREATER_OR_EQUAL" "Lcom/example/tierwright/tierwright/lang/Expression$Operator;" (.ref r7)) (fS_Expression_Operator_PLUS : Sta Z h0 "com/example/tierwright/tierwright/lang/Expression$Operator" "PLUS" "Lcom/example/tierwright/tierwright/lang/Expression$Operator;" (.ref r8)) (fS_Expression_Operator_MINUS : Sta Z h0 "com/example/tierwright/tierwright/lang/Expression$Operator" "MINUS" "Lcom/example/tierwright/tierwright/lang/Expression$Operator;" (.ref r9)) (fS_Expression_Operator_JOIN : Sta Z h0 "com/example/tierwright/tierwright/lang/Expression$Operator" "JOIN" "Lcom/example/tierwright/tierwright/lang/Expression$Operator;" (.ref r10)) (fS_Expression_Operator_TIMES : Sta Z h0 "com/example/tierwright/tierwright/lang/Expression$Operator" "TIMES" "Lcom/example/tierwright/tierwright/lang/Expression$Operator;" (.ref r11)) (fS_Expression_Operator_DIVIDE : Sta Z h0 "com/example/tierwright/tierwright/lang/Expression$Operator" "DIVIDE" "Lcom/example/tierwright/tierwright/lang/Expression$Operator;" (.ref r12)) (fS_Expression_Operator_NOT : Sta Z h0 "com/example/tierwright/tierwright/lang/Expression$Operator" "NOT" "Lcom/example/tierwright/tierwright/lang/Expression$Operator;" (.ref r13)) (fE_r0 : Exa Z h0 r0 "com/example/tierwright/tierwright/lang/Expression$Operator") (fE_r1 : Exa Z h0 r1 "com/example/tierwright/tierwright/lang/Expression$Operator") (fE_r2 : Exa Z h0 r2 "com/example/tierwright/tierwright/lang/Expression$Operator") (fE_r3 : Exa Z h0 r3 "com/example/tierwright/tierwright/lang/Expression$Operator") (fE_r4 : Exa Z h0 r4 "com/example/tierwright/tierwright/lang/Expression$Operator") (fE_r5 : Exa Z h0 r5 "com/example/tierwright/tierwright/lang/Expression$Operator") (fE_r6 : Exa Z h0 r6 "com/example/tierwright/tierwright/lang/Expression$Operator") (fE_r7 : Exa Z h0 r7 "com/example/tierwright/tierwright/lang/Expression$Operator") (fE_r8 : Exa Z h0 r8 "com/example/tierwright/tierwright/lang/Expression$Operator") (fE_r9 : Exa Z h0 r9 "com/example/tierwright/tierwright/lang/Expression$Operator") (fE_r10 : Exa Z h0 r10 "com/example/tierwright/tierwright/lang/Expression$Operator") (fE_r11 : Exa Z h0 r11 "com/example/tierwright/tierwright/lang/Expression$Operator") (fE_r12 : Exa Z h0 r12 "com/example/tierwright/tierwright/lang/Expression$Operator") (fE_r13 : Exa Z h0 r13 "com/example/tierwright/tierwright/lang/Expression$Operator") :
    MetFree l x (head1 (Jvm.Cond.code x code maxLocals ret :: ws) room_1) (fun a U => a = #[(.int p1)] ∧ Z.Warmed39 U.vm ∧ U.heap = h0) (fun _ _ _ _ _ => True) (fun _ U o U' => ∃ v L, o = .returned v ∧ Q_law Z p1 r0 r1 r2 r3 r4 r5 r6 r7 r8 r9 r10 r11 r12 r13 h0 n0 v U'.heap L ∧ FrameEnd U o U' L room_1.cells room_1.slots) := by
  refine MetFree.of_bodySF (plainFor_of_name own_pn0) hisR ?_
  intro p e s m args below meth c s₁ Bd hml0 hP hK
  obtain ⟨rfl, hZ, hh⟩ := hP
  have hx := Bd.exec
  have hby := Bd.bytes
  have hml : c.maxLocals = 4 := hml0
  have hown : s.vm.findClass "com/example/tierwright/tierwright/lang/OperatorIsLogicalPinLaw" = some m.cls := findClass_of_methodNamed Bd.named
  have hnm := (name_of_methodNamed Bd.named Bd.method).1
  have X0 : Stand p l e room_1 s m #[(.int p1)] below meth c s₁ [] 0 0 := Stand.of_body Bd
  have e0 : s₁.heap = h0 := by rw [← hh, Bd.state]; rfl
  have N0 := Fr.nil n0
  have pre0 : ∀ t, Steps p.tables e below (s₁.setTop (mkF m 0 #[.val (.int p1), .unset, .unset, .unset] [])) t → Steps p.tables e below (s₁.setTop (entryFrame m #[(.int p1)] maxLocals)) t := fun t k => castTop (own_ef_law m p1) k
  have way1 : ∀ t, Steps p.tables e below (s₁.setTop (mkF m 7 #[.val (.int p1), .unset, .unset, .unset] [(.int ((p1 &&& (2147483647 : Int32)) % (14 : Int32)))])) t → Steps p.tables e below (s₁.setTop (entryFrame m #[(.int p1)] maxLocals)) t := fun t k => pre0 t (by
    show Steps p.tables e below (s₁.setTop (mkF m 0 #[.val (.int p1), .unset, .unset, .unset] [])) _
    refine XS.iloadN X0.here hx rfl (hb hby at_0) rfl ?_
    show Steps p.tables e below (s₁.setTop (mkF m 1 #[.val (.int p1), .unset, .unset, .unset] [(.int p1)])) _
    refine X0.ldcInt hx hown (mvT hZ (hw _ (List.mem_of_getElem? (i := 0) rfl))) (g := (mkF m 1 #[.val (.int p1), .unset, .unset, .unset] [(.int p1)])) rfl (hb hby at_1) _ ?_
    show Steps p.tables e below (s₁.setTop (mkF m 3 #[.val (.int p1), .unset, .unset, .unset] [(.int (2147483647 : Int32)), (.int p1)])) _
    refine XS.iand X0.here hx rfl (hb hby at_3) rfl ?_
    show Steps p.tables e below (s₁.setTop (mkF m 4 #[.val (.int p1), .unset, .unset, .unset] [(.int (p1 &&& (2147483647 : Int32)))])) _
    refine XS.bipush X0.here hx rfl (hb hby at_4) ?_
    show Steps p.tables e below (s₁.setTop (mkF m 6 #[.val (.int p1), .unset, .unset, .unset] [(.int (14 : Int32)), (.int (p1 &&& (2147483647 : Int32)))])) _
    refine iremM (g := (mkF m 6 #[.val (.int p1), .unset, .unset, .unset] [(.int (14 : Int32)), (.int (p1 &&& (2147483647 : Int32)))])) X0 hx rfl (hb hby at_6) rfl (by decide) ?_
    exact k)
  obtain ⟨u2, hu2⟩ : ∃ z : Int32, z = ((p1 &&& (2147483647 : Int32)) % (14 : Int32)) := ⟨_, rfl⟩
  rw [← hu2] at way1
  obtain ⟨_, _, ⟨T3, L3, k3, n3⟩, -, X3, ⟨Lc3, hQ3, l3, y3, z3⟩, st3⟩ := Jvm.LawKit.callS X0 hx (y := (⟨"com/example/tierwright/tierwright/lang/OperatorIsLogicalPinLaw", "pick", "(I)Lcom/example/tierwright/tierwright/lang/Expression$Operator;"⟩ : MethodName)) hown (mvT hZ (hw _ (List.mem_of_getElem? (i := 1) rfl))) (mvT hZ (hw _ (List.mem_of_getElem? (i := 2) rfl))) (mvT hZ (hw _ (List.mem_of_getElem? (i := 3) rfl))) (mvT hZ (hw _ (List.mem_of_getElem? (i := 4) rfl))) (by decide) (backOf (W := 0) (rm_pick l Z a0 hw [] u2 r0 r1 r2 r3 r4 r5 r6 r7 r8 r9 r10 r11 r12 r13 h0 n0 Z0 fS_Expression_Operator_OR fS_Expression_Operator_AND fS_Expression_Operator_EQUAL fS_Expression_Operator_NOT_EQUAL fS_Expression_Operator_LESS fS_Expression_Operator_GREATER fS_Expression_Operator_LESS_OR_EQUAL fS_Expression_Operator_GREATER_OR_EQUAL fS_Expression_Operator_PLUS fS_Expression_Operator_MINUS fS_Expression_Operator_JOIN fS_Expression_Operator_TIMES fS_Expression_Operator_DIVIDE fS_Expression_Operator_NOT) hZ (hw _ (List.mem_of_getElem? (i := 4) rfl)) (hw _ (List.mem_of_getElem? (i := 3) rfl)) (by decide) (by decide)) (g := (mkF m 9 #[.val (.int p1), .val (.int u2), .unset, .unset] [(.int u2)])) rfl (by rw [hml]; rfl) (argsL := [(.int u2)]) (rest := []) (lenOf own_pd2 rfl) rfl (by show 2 * 0 + _ ≤ _; exact Nat.le_of_eq rfl) (hb hby at_9) (fun _ _ => ⟨rfl, e0, (by decide : 0 + 0 ≤ _), (by decide : 0 + 0 ≤ _)⟩)
  dsimp only [Pt.U, Pt.locs, Pt.cells, Pt.slots] at X3 l3 y3 z3 st3 hQ3
  subst l3 y3 z3
  obtain ⟨rfl, N3q, hh3⟩ := hQ3
  have N3 := Fr.app N0 N3q
  have way4 : ∀ t, Steps p.tables e below (T3.setTop (mkF m 14 #[.val (.int p1), .val (.int u2), .val (.ref (own_pick u2 r0 r1 r2 r3 r4 r5 r6 r7 r8 r9 r10 r11 r12 r13)), .unset] [(.int u2)])) t → Steps p.tables e below (s₁.setTop (entryFrame m #[(.int p1)] maxLocals)) t := fun t k => way1 t (by
    show Steps p.tables e below (s₁.setTop (mkF m 7 #[.val (.int p1), .unset, .unset, .unset] [(.int u2)])) _
    refine XS.istoreN X0.here hx rfl (hb hby at_7) rfl (l' := #[.val (.int p1), .val (.int u2), .unset, .unset]) rfl ?_
    show Steps p.tables e below (s₁.setTop (mkF m 8 #[.val (.int p1), .val (.int u2), .unset, .unset] [])) _
    refine XS.iloadN X0.here hx rfl (hb hby at_8) rfl ?_
    show Steps p.tables e below (s₁.setTop (mkF m 9 #[.val (.int p1), .val (.int u2), .unset, .unset] [(.int u2)])) _
    refine st3 _ ?_
    show Steps p.tables e below (T3.setTop (mkF m 12 #[.val (.int p1), .val (.int u2), .unset, .unset] [(.ref (own_pick u2 r0 r1 r2 r3 r4 r5 r6 r7 r8 r9 r10 r11 r12 r13))])) _
    refine XS.astoreN X3.here hx rfl (hb hby at_12) rfl rfl (l' := #[.val (.int p1), .val (.int u2), .val (.ref (own_pick u2 r0 r1 r2 r3 r4 r5 r6 r7 r8 r9 r10 r11 r12 r13)), .unset]) rfl ?_
    show Steps p.tables e below (T3.setTop (mkF m 13 #[.val (.int p1), .val (.int u2), .val (.ref (own_pick u2 r0 r1 r2 r3 r4 r5 r6 r7 r8 r9 r10 r11 r12 r13)), .unset] [])) _
    refine XS.iloadN X3.here hx rfl (hb hby at_13) rfl ?_
    exact k)
  obtain ⟨v7, hv7⟩ : ∃ z : Int32, z = (if u2 = (0 : Int32) then (1 : Int32) else (if u2 = (1 : Int32) then (1 : Int32) else (0 : Int32))) := ⟨_, rfl⟩
  have way8 : ∀ t, Steps p.tables e below (T3.setTop (mkF m 27 #[.val (.int p1), .val (.int u2), .val (.ref (own_pick u2 r0 r1 r2 r3 r4 r5 r6 r7 r8 r9 r10 r11 r12 r13)), .unset] [(.int v7)])) t → Steps p.tables e below (s₁.setTop (entryFrame m #[(.int p1)] maxLocals)) t := fun t k => way4 t (by
    by_cases hj5 : u2 = (0 : Int32)
    ·
      show Steps p.tables e below (T3.setTop (mkF m 14 #[.val (.int p1), .val (.int u2), .val (.ref (own_pick u2 r0 r1 r2 r3 r4 r5 r6 r7 r8 r9 r10 r11 r12 r13)), .unset] [(.int u2)])) _
      refine XS.ifYes X3.here hx rfl (pc0 := 14) (pc' := 22) rfl (hb hby at_14) rfl ((if0 _ _).trans (teq hj5).1) (by decide) (by decide) ?_
      show Steps p.tables e below (T3.setTop (mkF m 22 #[.val (.int p1), .val (.int u2), .val (.ref (own_pick u2 r0 r1 r2 r3 r4 r5 r6 r7 r8 r9 r10 r11 r12 r13)), .unset] [])) _
      refine XS.iconst X3.here hx rfl (hb hby at_22) ?_
      show Steps p.tables e below (T3.setTop (mkF m 23 #[.val (.int p1), .val (.int u2), .val (.ref (own_pick u2 r0 r1 r2 r3 r4 r5 r6 r7 r8 r9 r10 r11 r12 r13)), .unset] [(.int (1 : Int32))])) _
      refine XS.goto X3.here hx rfl (pc0 := 23) (pc' := 27) rfl (hb hby at_23) (by decide) (by decide) ?_
      simp only [hv7, if_pos hj5] at k
      exact k
    ·
      show Steps p.tables e below (T3.setTop (mkF m 14 #[.val (.int p1), .val (.int u2), .val (.ref (own_pick u2 r0 r1 r2 r3 r4 r5 r6 r7 r8 r9 r10 r11 r12 r13)), .unset] [(.int u2)])) _
      refine XS.ifNo X3.here hx rfl (hb hby at_14) rfl ((if0 _ _).trans (feq hj5).1) ?_
      show Steps p.tables e below (T3.setTop (mkF m 17 #[.val (.int p1), .val (.int u2), .val (.ref (own_pick u2 r0 r1 r2 r3 r4 r5 r6 r7 r8 r9 r10 r11 r12 r13)), .unset] [])) _
      refine XS.iloadN X3.here hx rfl (hb hby at_17) rfl ?_
      show Steps p.tables e below (T3.setTop (mkF m 18 #[.val (.int p1), .val (.int u2), .val (.ref (own_pick u2 r0 r1 r2 r3 r4 r5 r6 r7 r8 r9 r10 r11 r12 r13)), .unset] [(.int u2)])) _
      refine XS.iconst X3.here hx rfl (hb hby at_18) ?_
      by_cases hj6 : u2 = (1 : Int32)
      ·
        show Steps p.tables e below (T3.setTop (mkF m 19 #[.val (.int p1), .val (.int u2), .val (.ref (own_pick u2 r0 r1 r2 r3 r4 r5 r6 r7 r8 r9 r10 r11 r12 r13)), .unset] [(.int (1 : Int32)), (.int u2)])) _
        refine XS.icmpNo X3.here hx rfl (hb hby at_19) rfl (teq hj6).2 ?_
        show Steps p.tables e below (T3.setTop (mkF m 22 #[.val (.int p1), .val (.int u2), .val (.ref (own_pick u2 r0 r1 r2 r3 r4 r5 r6 r7 r8 r9 r10 r11 r12 r13)), .unset] [])) _
        refine XS.iconst X3.here hx rfl (hb hby at_22) ?_
        show Steps p.tables e below (T3.setTop (mkF m 23 #[.val (.int p1), .val (.int u2), .val (.ref (own_pick u2 r0 r1 r2 r3 r4 r5 r6 r7 r8 r9 r10 r11 r12 r13)), .unset] [(.int (1 : Int32))])) _
        refine XS.goto X3.here hx rfl (pc0 := 23) (pc' := 27) rfl (hb hby at_23) (by decide) (by decide) ?_
        simp only [hv7, if_neg hj5, if_pos hj6] at k
        exact k
      ·
        show Steps p.tables e below (T3.setTop (mkF m 19 #[.val (.int p1), .val (.int u2), .val (.ref (own_pick u2 r0 r1 r2 r3 r4 r5 r6 r7 r8 r9 r10 r11 r12 r13)), .unset] [(.int (1 : Int32)), (.int u2)])) _
        refine XS.icmpYes X3.here hx rfl (pc0 := 19) (pc' := 26) rfl (hb hby at_19) rfl (feq hj6).2 (by decide) (by decide) ?_
        show Steps p.tables e below (T3.setTop (mkF m 26 #[.val (.int p1), .val (.int u2), .val (.ref (own_pick u2 r0 r1 r2 r3 r4 r5 r6 r7 r8 r9 r10 r11 r12 r13)), .unset] [])) _
        refine XS.iconst X3.here hx rfl (hb hby at_26) ?_
        simp only [hv7, if_neg hj5, if_neg hj6] at k
        exact k)
  have EE9 : Exa Z h0 (own_pick u2 r0 r1 r2 r3 r4 r5 r6 r7 r8 r9 r10 r11 r12 r13) "com/example/tierwright/tierwright/lang/Expression$Operator" := own_pick_all (P := fun a => Exa Z h0 a "com/example/tierwright/tierwright/lang/Expression$Operator") fE_r0 fE_r1 fE_r2 fE_r3 fE_r4 fE_r5 fE_r6 fE_r7 fE_r8 fE_r9 fE_r10 fE_r11 fE_r12 fE_r13
  obtain ⟨cq9, kq9, q9a, q9b, q9c⟩ := isOf hZ hh3 EE9
  obtain ⟨_, _, ⟨T9, L9, k9, n9⟩, -, X9, ⟨Lc9, hQ9, l9, y9, z9⟩, st9⟩ := X3.virtualBack hx (y := (⟨"com/example/tierwright/tierwright/lang/Expression$Operator", "isLogical", "()Z"⟩ : MethodName)) (z := (⟨"com/example/tierwright/tierwright/lang/Expression$Operator", "isLogical", "()Z"⟩ : MethodName)) hown (mvT hZ (hw _ (List.mem_of_getElem? (i := 8) rfl))) (mvT hZ (hw _ (List.mem_of_getElem? (i := 9) rfl))) (notFace_of_selects (args := #[]) (mvT hZ (hw _ (List.mem_of_getElem? (i := 11) rfl)))) (mvT hZ (hw _ (List.mem_of_getElem? (i := 11) rfl))) (mvT hZ (hw _ (List.mem_of_getElem? (i := 10) rfl))) (by decide) (backOf (W := 0) (rm_log l Z a0 hw [] (own_pick u2 r0 r1 r2 r3 r4 r5 r6 r7 r8 r9 r10 r11 r12 r13) r1 r0 h0 n0 Z0 fS_Expression_Operator_AND fS_Expression_Operator_OR) hZ (hw _ (List.mem_of_getElem? (i := 12) rfl)) (hw _ (List.mem_of_getElem? (i := 6) rfl)) (by decide) (by decide)) q9a q9c (g := (mkF m 29 #[.val (.int p1), .val (.int u2), .val (.ref (own_pick u2 r0 r1 r2 r3 r4 r5 r6 r7 r8 r9 r10 r11 r12 r13)), .val (.int v7)] [(.ref (own_pick u2 r0 r1 r2 r3 r4 r5 r6 r7 r8 r9 r10 r11 r12 r13))])) rfl (by rw [hml]; rfl) (Steps.refl _) (argsL := []) (rest := []) (lenOf own_pd3 rfl) rfl (by show 2 * 0 + _ ≤ _; exact Nat.le_of_eq rfl) (hb hby at_29) (fun _ _ => ⟨rfl, hh3, (by decide : 0 + 0 ≤ _), (by decide : 0 + 0 ≤ _)⟩)
  dsimp only [Pt.U, Pt.locs, Pt.cells, Pt.slots] at X9 l9 y9 z9 st9 hQ9
  subst l9 y9 z9
  obtain ⟨rfl, N9q, hh9⟩ := hQ9
  have N9 := Fr.app N3 N9q
  have way10 : ∀ t, Steps p.tables e below (T9.setTop (mkF m 41 #[.val (.int p1), .val (.int u2), .val (.ref (own_pick u2 r0 r1 r2 r3 r4 r5 r6 r7 r8 r9 r10 r11 r12 r13)), .val (.int v7)] [(.int (1 : Int32))])) t → Steps p.tables e below (s₁.setTop (entryFrame m #[(.int p1)] maxLocals)) t := fun t k => way8 t (by
    show Steps p.tables e below (T3.setTop (mkF m 27 #[.val (.int p1), .val (.int u2), .val (.ref (own_pick u2 r0 r1 r2 r3 r4 r5 r6 r7 r8 r9 r10 r11 r12 r13)), .unset] [(.int v7)])) _
    refine XS.istoreN X3.here hx rfl (hb hby at_27) rfl (l' := #[.val (.int p1), .val (.int u2), .val (.ref (own_pick u2 r0 r1 r2 r3 r4 r5 r6 r7 r8 r9 r10 r11 r12 r13)), .val (.int v7)]) rfl ?_
    show Steps p.tables e below (T3.setTop (mkF m 28 #[.val (.int p1), .val (.int u2), .val (.ref (own_pick u2 r0 r1 r2 r3 r4 r5 r6 r7 r8 r9 r10 r11 r12 r13)), .val (.int v7)] [])) _
    refine XS.aloadN X3.here hx rfl (hb hby at_28) rfl rfl ?_
    show Steps p.tables e below (T3.setTop (mkF m 29 #[.val (.int p1), .val (.int u2), .val (.ref (own_pick u2 r0 r1 r2 r3 r4 r5 r6 r7 r8 r9 r10 r11 r12 r13)), .val (.int v7)] [(.ref (own_pick u2 r0 r1 r2 r3 r4 r5 r6 r7 r8 r9 r10 r11 r12 r13))])) _
    refine st9.trans ?_
    show Steps p.tables e below (T9.setTop (mkF m 32 #[.val (.int p1), .val (.int u2), .val (.ref (own_pick u2 r0 r1 r2 r3 r4 r5 r6 r7 r8 r9 r10 r11 r12 r13)), .val (.int v7)] [(.int (own_log (own_pick u2 r0 r1 r2 r3 r4 r5 r6 r7 r8 r9 r10 r11 r12 r13) r1 r0))])) _
    refine XS.iloadN X9.here hx rfl (hb hby at_32) rfl ?_
    show Steps p.tables e below (T9.setTop (mkF m 33 #[.val (.int p1), .val (.int u2), .val (.ref (own_pick u2 r0 r1 r2 r3 r4 r5 r6 r7 r8 r9 r10 r11 r12 r13)), .val (.int v7)] [(.int v7), (.int (own_log (own_pick u2 r0 r1 r2 r3 r4 r5 r6 r7 r8 r9 r10 r11 r12 r13) r1 r0))])) _
    refine XS.icmpNo X9.here hx rfl (hb hby at_33) rfl (teq ((own_main n2 m2 n3 m3 n4 m4 n5 m5 n6 m6 n7 m7 n8 m8 n9 m9 n10 m10 n11 m11 n12 m12 n13 m13).trans hv7.symm)).2 ?_
    show Steps p.tables e below (T9.setTop (mkF m 36 #[.val (.int p1), .val (.int u2), .val (.ref (own_pick u2 r0 r1 r2 r3 r4 r5 r6 r7 r8 r9 r10 r11 r12 r13)), .val (.int v7)] [])) _
    refine XS.iconst X9.here hx rfl (hb hby at_36) ?_
    show Steps p.tables e below (T9.setTop (mkF m 37 #[.val (.int p1), .val (.int u2), .val (.ref (own_pick u2 r0 r1 r2 r3 r4 r5 r6 r7 r8 r9 r10 r11 r12 r13)), .val (.int v7)] [(.int (1 : Int32))])) _
    refine XS.goto X9.here hx rfl (pc0 := 37) (pc' := 41) rfl (hb hby at_37) (by decide) (by decide) ?_
    exact k)
  obtain ⟨fs, hr, hrun, hended, hW, hsame⟩ := X9.leave (v := some (.int (1 : Int32))) (fun h => by rw [Bd.returns] at h; cases h)
  refine ⟨_, _, way10 _ ?_, hrun, hended, _, _, rfl, ?_, ⟨_, rfl⟩, hW, hsame.mono (by decide) (by decide)⟩
  · show Steps p.tables e below (T9.setTop (mkF m 41 #[.val (.int p1), .val (.int u2), .val (.ref (own_pick u2 r0 r1 r2 r3 r4 r5 r6 r7 r8 r9 r10 r11 r12 r13)), .val (.int v7)] [(.int (1 : Int32))])) _
    exact retN X9 hx (t := .boolean) Bd.returns (by simp) (hb hby at_41) hr
  · show Q_law Z p1 r0 r1 r2 r3 r4 r5 r6 r7 r8 r9 r10 r11 r12 r13 h0 n0 _ T9.heap _
    rw [hh9]
    exact ⟨rfl, N9⟩
set_option maxRecDepth 65536 in
set_option maxHeartbeats 40000000 in
theorem comes_1 {Post : Tables → Env → Array Value → State → Outcome → State → Prop} (hpost : ∀ tb e args s v u, (limb_1_1.after args s (.returned v) u = true ∧ limb_1_2.after args s (.returned v) u = true ∧ True) → FrameEnd s (.returned v) u (Jvm.fieldLocs frame_1_writes args s ++ Jvm.arrayLocs frame_1_arrays args s ++ Jvm.staticLocs frame_1_statics s) 0 0 → Post tb e args s (.returned v) u) :
    ArmFor flags0 classFile x code maxLocals ret World_1 tables_1 room_1 Calls_1 rest_1 Pre_1 Post := by
  intro l hfl _ _ p e ha hc hk s m args below hf hA hF happ hP
  obtain ⟨hcalls, hrest, hpre⟩ := hP
  obtain ⟨-, -, -, hnamed, -, -, -, hat⟩ := (Spec.applies_iff hf).mp happ
  obtain ⟨hg, hn⟩ := and_e (Cond.before_iff.mp (show (Jvm.Cond.and given_1 narrow_1).before args s = true from hpre))
  obtain ⟨gc, g0⟩ := and_e hg
  have ga0 := g0
  obtain ⟨w0, rfl⟩ : ∃ w0 : Value, args = #[w0] := by
    have hs : args.size = 1 := by simpa [Cond.value, given_1] using gc
    obtain ⟨L⟩ := args
    match L, hs with
    | [w0], _ => exact ⟨w0, rfl⟩
  have hw := fun d (hd : d ∈ tables_1) => atoms_spec (ws := Jvm.Cond.code x code maxLocals ret :: tables_1) hat d (List.mem_cons_of_mem _ hd)
  have hfit : Fit s := fun {y c} hc i hi => by
    obtain ⟨ha, rfl⟩ := Array.getElem?_eq_some_iff.mp hc
    have q := List.all_eq_true.mp ((Array.all_eq_true_iff_forall_mem.mp hF) _ (Array.getElem_mem ha)) i (List.mem_range.mpr hi)
    simpa [Array.getElem?_eq_getElem hi] using q
  obtain ⟨i0, ei0⟩ := is_v ga0
  obtain rfl : w0 = (.int i0) := Option.some.inj ei0
  obtain ⟨hn0, hn⟩ := and_e hn
  obtain ⟨hn1, hn⟩ := and_e hn
  obtain ⟨hn2, hn⟩ := and_e hn
  obtain ⟨hn3, hn⟩ := and_e hn
  obtain ⟨hn4, hn⟩ := and_e hn
  obtain ⟨hn5, hn⟩ := and_e hn
  obtain ⟨hn6, hn⟩ := and_e hn
  obtain ⟨hn7, hn⟩ := and_e hn
  obtain ⟨hn8, hn⟩ := and_e hn
  obtain ⟨hn9, hn⟩ := and_e hn
  obtain ⟨hn10, hn⟩ := and_e hn
  obtain ⟨hn11, hn⟩ := and_e hn
  obtain ⟨hn12, hn⟩ := and_e hn
  obtain ⟨hn13, hn⟩ := and_e hn
  obtain ⟨hn14, hn⟩ := and_e hn
  obtain ⟨hn15, hn⟩ := and_e hn
  obtain ⟨hn16, hn⟩ := and_e hn
  obtain ⟨hn17, hn⟩ := and_e hn
  obtain ⟨hn18, hn⟩ := and_e hn
  obtain ⟨hn19, hn⟩ := and_e hn
  obtain ⟨hn20, hn⟩ := and_e hn
  obtain ⟨hn21, hn⟩ := and_e hn
  obtain ⟨hn22, hn⟩ := and_e hn
  obtain ⟨hn23, hn⟩ := and_e hn
  obtain ⟨hn24, hn⟩ := and_e hn
  obtain ⟨hn25, hn⟩ := and_e hn
  obtain ⟨hn26, hn⟩ := and_e hn
  have hn27 := hn
  obtain ⟨r0, ev0⟩ := exa_v hn0
  have E0 := Exa.start ev0 hn0
  have S0 := Sta.start ev0 (Or.inr ⟨(hw _ (List.mem_of_getElem? (i := 6) rfl)), (hw _ (List.mem_of_getElem? (i := 7) rfl))⟩)
  have o0 := (fld_at ev0).symm.trans (own_eqv hn2)
  obtain ⟨r1, ev1⟩ := exa_v hn1
  have E1 := Exa.start ev1 hn1
  have S1 := Sta.start ev1 (Or.inr ⟨(hw _ (List.mem_of_getElem? (i := 6) rfl)), (hw _ (List.mem_of_getElem? (i := 14) rfl))⟩)
  have o1 := (fld_at ev1).symm.trans (own_eqv hn3)
  obtain ⟨r2, ev2⟩ := exa_v hn14
  have E2 := Exa.start ev2 hn14
  have S2 := Sta.start ev2 (Or.inr ⟨(hw _ (List.mem_of_getElem? (i := 6) rfl)), (hw _ (List.mem_of_getElem? (i := 27) rfl))⟩)
  have o2 := (fld_at ev2).symm.trans (own_eqv hn15)
  obtain ⟨r3, ev3⟩ := exa_v hn4
  have E3 := Exa.start ev3 hn4
  have S3 := Sta.start ev3 (Or.inr ⟨(hw _ (List.mem_of_getElem? (i := 6) rfl)), (hw _ (List.mem_of_getElem? (i := 17) rfl))⟩)
  have o3 := (fld_at ev3).symm.trans (own_eqv hn5)
  obtain ⟨r4, ev4⟩ := exa_v hn10
  have E4 := Exa.start ev4 hn10
  have S4 := Sta.start ev4 (Or.inr ⟨(hw _ (List.mem_of_getElem? (i := 6) rfl)), (hw _ (List.mem_of_getElem? (i := 23) rfl))⟩)
  have o4 := (fld_at ev4).symm.trans (own_eqv hn11)
  obtain ⟨r5, ev5⟩ := exa_v hn24
  have E5 := Exa.start ev5 hn24
  have S5 := Sta.start ev5 (Or.inr ⟨(hw _ (List.mem_of_getElem? (i := 6) rfl)), (hw _ (List.mem_of_getElem? (i := 38) rfl))⟩)
  have o5 := (fld_at ev5).symm.trans (own_eqv hn25)
  obtain ⟨r6, ev6⟩ := exa_v hn26
  have E6 := Exa.start ev6 hn26
  have S6 := Sta.start ev6 (Or.inr ⟨(hw _ (List.mem_of_getElem? (i := 6) rfl)), (hw _ (List.mem_of_getElem? (i := 40) rfl))⟩)
  have o6 := (fld_at ev6).symm.trans (own_eqv hn27)
  obtain ⟨r7, ev7⟩ := exa_v hn12
  have E7 := Exa.start ev7 hn12
  have S7 := Sta.start ev7 (Or.inr ⟨(hw _ (List.mem_of_getElem? (i := 6) rfl)), (hw _ (List.mem_of_getElem? (i := 25) rfl))⟩)
  have o7 := (fld_at ev7).symm.trans (own_eqv hn13)
  obtain ⟨r8, ev8⟩ := exa_v hn20
  have E8 := Exa.start ev8 hn20
  have S8 := Sta.start ev8 (Or.inr ⟨(hw _ (List.mem_of_getElem? (i := 6) rfl)), (hw _ (List.mem_of_getElem? (i := 33) rfl))⟩)
  have o8 := (fld_at ev8).symm.trans (own_eqv hn21)
  obtain ⟨r9, ev9⟩ := exa_v hn22
  have E9 := Exa.start ev9 hn22
  have S9 := Sta.start ev9 (Or.inr ⟨(hw _ (List.mem_of_getElem? (i := 6) rfl)), (hw _ (List.mem_of_getElem? (i := 36) rfl))⟩)
  have o9 := (fld_at ev9).symm.trans (own_eqv hn23)
  obtain ⟨r10, ev10⟩ := exa_v hn18
  have E10 := Exa.start ev10 hn18
  have S10 := Sta.start ev10 (Or.inr ⟨(hw _ (List.mem_of_getElem? (i := 6) rfl)), (hw _ (List.mem_of_getElem? (i := 31) rfl))⟩)
  have o10 := (fld_at ev10).symm.trans (own_eqv hn19)
  obtain ⟨r11, ev11⟩ := exa_v hn16
  have E11 := Exa.start ev11 hn16
  have S11 := Sta.start ev11 (Or.inr ⟨(hw _ (List.mem_of_getElem? (i := 6) rfl)), (hw _ (List.mem_of_getElem? (i := 29) rfl))⟩)
  have o11 := (fld_at ev11).symm.trans (own_eqv hn17)
  obtain ⟨r12, ev12⟩ := exa_v hn6
  have E12 := Exa.start ev12 hn6
  have S12 := Sta.start ev12 (Or.inr ⟨(hw _ (List.mem_of_getElem? (i := 6) rfl)), (hw _ (List.mem_of_getElem? (i := 19) rfl))⟩)
  have o12 := (fld_at ev12).symm.trans (own_eqv hn7)
  obtain ⟨r13, ev13⟩ := exa_v hn8
  have E13 := Exa.start ev13 hn8
  have S13 := Sta.start ev13 (Or.inr ⟨(hw _ (List.mem_of_getElem? (i := 6) rfl)), (hw _ (List.mem_of_getElem? (i := 21) rfl))⟩)
  have o13 := (fld_at ev13).symm.trans (own_eqv hn9)
  obtain ⟨n, o, h1, h2, h3, _, L, rfl, ⟨rfl, N⟩, hq⟩ := rm_law l s _ hw tables_1 i0 r0 r1 r2 r3 r4 r5 r6 r7 r8 r9 r10 r11 r12 r13 s.heap s.heap.size (Nat.le_refl _) (own_ne o2 o0 (by decide)) (own_ne o2 o1 (by decide)) (own_ne o3 o0 (by decide)) (own_ne o3 o1 (by decide)) (own_ne o4 o0 (by decide)) (own_ne o4 o1 (by decide)) (own_ne o5 o0 (by decide)) (own_ne o5 o1 (by decide)) (own_ne o6 o0 (by decide)) (own_ne o6 o1 (by decide)) (own_ne o7 o0 (by decide)) (own_ne o7 o1 (by decide)) (own_ne o8 o0 (by decide)) (own_ne o8 o1 (by decide)) (own_ne o9 o0 (by decide)) (own_ne o9 o1 (by decide)) (own_ne o10 o0 (by decide)) (own_ne o10 o1 (by decide)) (own_ne o11 o0 (by decide)) (own_ne o11 o1 (by decide)) (own_ne o12 o0 (by decide)) (own_ne o12 o1 (by decide)) (own_ne o13 o0 (by decide)) (own_ne o13 o1 (by decide)) S0 S1 S2 S3 S4 S5 S6 S7 S8 S9 S10 S11 S12 S13 E0 E1 E2 E3 E4 E5 E6 E7 E8 E9 E10 E11 E12 E13 p e ha hc hk s m _ below hf ((Spec.applies_iff_loose hf).mp happ).1 ⟨rfl, State.Warmed39.refl s, rfl⟩ trivial
  refine ⟨n, _, h1, h2, h3, hpost _ _ _ _ _ _ ⟨Cond.after_iff.mpr rfl, Cond.after_iff.mpr (eq_i res_at (Term.int_eval (1)) rfl), trivial⟩ ⟨hq.1, hq.2.1, (hq.2.2.sift fun y hy => Or.inr (N y hy)).mono (by decide) (by decide)⟩⟩
theorem main_1_1 : Claimed_1_1 := comes_1 fun _ _ _ _ _ _ h hF => ⟨h.1, hF⟩
theorem main_1_2 : Claimed_1_2 := comes_1 fun _ _ _ _ _ _ h hF => ⟨h.2.1, hF⟩
end Jvm.Pilot.@@N@@
namespace Jvm.Pilot.@@N@@
open Jvm Jvm.ClassFile Sem Op Lib Jvm.Free Jvm.Stand Jvm.Pilot.@@N@@.Jvm.D
/-! MADE BY PROGRAM (witnessworld.py) out of the Statement's table words and the real class files: 12 classes; the members and pool entries that the words name. The judged class is class 1, her method 2. -/
namespace start1
open Jvm.ClassFile
def u (s : String) : CpInfo := .utf8 (stringToUtf16 s)
/-- a pool by its gaps: so many unusable entries, then the entry; so many at the end -/
def gap : Nat → List CpInfo → List CpInfo
  | 0, r => r
  | n + 1, r => .unusable :: gap n r
def poolList (es : List (Nat × CpInfo)) (last : Nat) : List CpInfo := es.foldr (fun e r => gap e.1 (e.2 :: r)) (gap last [])
def pool (es : List (Nat × CpInfo)) (last : Nat) : Array CpInfo := ⟨poolList es last⟩
def fileOf (pool : Array CpInfo) (this : Nat) (attrs : Array Attribute := #[]) (ms : Array MethodInfo := #[]) (fl : Nat := 33) (sup : Nat := 0) (ifs : Array Nat := #[]) (fds : Array FieldInfo := #[]) : ClassFile where
  minorVersion := 0
  majorVersion := 65
  constantPool := pool
  accessFlags := fl
  thisClass := this
  superClass := sup
  interfaces := ifs
  fields := fds
  methods := ms
  attributes := attrs
def plain (name : String) (sup : Option ClassId) : Class where
  name := name
  kind := .ordinary
  loader := none
  accessFlags := 33
  super := sup
  interfaces := #[]
  cf := none
  fields := #[]
  methods := #[]
  instanceTypes := #[]
  staticTypes := #[]
  resolved := #[]
  callSites := []
  init := .initialized
  statics := none
  mirror := none

def pool0 : Array CpInfo := pool [(5, u "<init>"), (0, u "()V"), (1, .class_ 10), (1, u "java/lang/Object")] 113

def k0m0 : Method := { name := "<init>", desc := "()V", sig := { parameters := [], returnType := none }, accessFlags := 1, code := none }
/-- java/lang/Object -/
def k0 : Class := { plain "java/lang/Object" none with
  accessFlags := 33
  interfaces := #[]
  cf := some (fileOf pool0 8 #[] #[{ accessFlags := 1, nameIndex := 5, descriptorIndex := 6, attributes := #[] }] 33 0 #[] #[])
  fields := #[]
  methods := #[k0m0]
  instanceTypes := #[]
  staticTypes := #[]
  resolved := Array.replicate 124 none
  statics := none }

def pool1 : Array CpInfo := pool [(2, .class_ 4), (1, u "java/lang/Object"), (0, u "<init>"), (0, u "()V"), (0, .fieldref 8 9), (0, .class_ 10), (0, .nameAndType 11 12), (0, u "com/example/tierwright/tierwright/lang/Expression$Operator"), (0, u "OR"), (0, u "Lcom/example/tierwright/tierwright/lang/Expression$Operator;"), (0, .fieldref 8 14), (0, .nameAndType 15 12), (0, u "AND"), (0, .fieldref 8 17), (0, .nameAndType 18 12), (0, u "EQUAL"), (0, .fieldref 8 20), (0, .nameAndType 21 12), (0, u "NOT_EQUAL"), (0, .fieldref 8 23), (0, .nameAndType 24 12), (0, u "LESS"), (0, .fieldref 8 26), (0, .nameAndType 27 12), (0, u "GREATER"), (0, .fieldref 8 29), (0, .nameAndType 30 12), (0, u "LESS_OR_EQUAL"), (0, .fieldref 8 32), (0, .nameAndType 33 12), (0, u "GREATER_OR_EQUAL"), (0, .fieldref 8 35), (0, .nameAndType 36 12), (0, u "PLUS"), (0, .fieldref 8 38), (0, .nameAndType 39 12), (0, u "MINUS"), (0, .fieldref 8 41), (0, .nameAndType 42 12), (0, u "JOIN"), (0, .fieldref 8 44), (0, .nameAndType 45 12), (0, u "TIMES"), (0, .fieldref 8 47), (0, .nameAndType 48 12), (0, u "DIVIDE"), (0, .fieldref 8 50), (0, .nameAndType 51 12), (0, u "NOT"), (0, .integer 2147483647), (0, .methodref 54 55), (0, .class_ 56), (0, .nameAndType 57 58), (0, u "com/example/tierwright/tierwright/lang/OperatorIsLogicalPinLaw"), (0, u "pick"), (0, u "(I)Lcom/example/tierwright/tierwright/lang/Expression$Operator;"), (0, .methodref 8 60), (0, .nameAndType 61 62), (0, u "isLogical"), (0, u "()Z"), (3, u "law"), (0, u "(I)Z")] 6

def k1m0 : Method := { name := "<init>", desc := "()V", sig := { parameters := [], returnType := none }, accessFlags := 1, code := none }
def k1c1 : Code := { maxStack := 2, maxLocals := 1, code := method_2_code, exceptionTable := #[], attributes := #[] }
def k1m1 : Method := { name := "pick", desc := "(I)Lcom/example/tierwright/tierwright/lang/Expression$Operator;", sig := { parameters := [.int], returnType := some (.object "com/example/tierwright/tierwright/lang/Expression$Operator") }, accessFlags := 10, code := some k1c1 }
def k1c2 : Code := { maxStack := 2, maxLocals := 4, code := code, exceptionTable := #[], attributes := #[] }
def k1m2 : Method := { name := "law", desc := "(I)Z", sig := { parameters := [.int], returnType := some .boolean }, accessFlags := 9, code := some k1c2 }
/-- com/example/tierwright/tierwright/lang/OperatorIsLogicalPinLaw -/
def k1 : Class := { plain "com/example/tierwright/tierwright/lang/OperatorIsLogicalPinLaw" (some 0) with
  accessFlags := 49
  interfaces := #[]
  cf := some (fileOf pool1 54 #[] #[{ accessFlags := 1, nameIndex := 5, descriptorIndex := 6, attributes := #[] }, { accessFlags := 10, nameIndex := 57, descriptorIndex := 58, attributes := #[] }, { accessFlags := 9, nameIndex := 66, descriptorIndex := 67, attributes := #[] }] 49 2 #[] #[])
  fields := #[]
  methods := #[k1m0, k1m1, k1m2]
  instanceTypes := #[]
  staticTypes := #[]
  resolved := Array.replicate 74 none
  statics := none }

def pool2 : Array CpInfo := pool [(1, .class_ 2), (0, u "java/lang/constant/Constable"), (0, .class_ 4), (0, u "java/lang/Object")] 6

/-- java/lang/constant/Constable -/
def k2 : Class := { plain "java/lang/constant/Constable" (some 0) with
  accessFlags := 1537
  interfaces := #[]
  cf := some (fileOf pool2 1 #[] #[] 1537 3 #[] #[])
  fields := #[]
  methods := #[]
  instanceTypes := #[]
  staticTypes := #[]
  resolved := Array.replicate 11 none
  statics := none }

def pool3 : Array CpInfo := pool [(1, .class_ 2), (0, u "java/lang/Comparable"), (0, .class_ 4), (0, u "java/lang/Object")] 7

/-- java/lang/Comparable -/
def k3 : Class := { plain "java/lang/Comparable" (some 0) with
  accessFlags := 1537
  interfaces := #[]
  cf := some (fileOf pool3 1 #[] #[] 1537 3 #[] #[])
  fields := #[]
  methods := #[]
  instanceTypes := #[]
  staticTypes := #[]
  resolved := Array.replicate 12 none
  statics := none }

def pool4 : Array CpInfo := pool [(1, .class_ 2), (0, u "java/io/Serializable"), (0, .class_ 4), (0, u "java/lang/Object")] 2

/-- java/io/Serializable -/
def k4 : Class := { plain "java/io/Serializable" (some 0) with
  accessFlags := 1537
  interfaces := #[]
  cf := some (fileOf pool4 1 #[] #[] 1537 3 #[] #[])
  fields := #[]
  methods := #[]
  instanceTypes := #[]
  staticTypes := #[]
  resolved := Array.replicate 7 none
  statics := none }

def pool5 : Array CpInfo := pool [(2, .class_ 4), (1, u "java/lang/Enum"), (0, u "name"), (0, u "Ljava/lang/String;"), (2, u "ordinal"), (0, u "I"), (1, .class_ 14), (1, u "java/lang/Object"), (4, u "hash"), (86, .class_ 108), (1, u "java/lang/Enum$EnumDesc"), (2, .class_ 112), (0, u "java/lang/constant/Constable"), (0, .class_ 114), (0, u "java/lang/Comparable"), (0, .class_ 116), (0, u "java/io/Serializable")] 87

/-- java/lang/Enum -/
def k5 : Class := { plain "java/lang/Enum" (some 0) with
  accessFlags := 1057
  interfaces := #[2, 3, 4]
  cf := some (fileOf pool5 2 #[.nestMembers #[106]] #[] 1057 12 #[111, 113, 115] #[{ accessFlags := 18, nameIndex := 5, descriptorIndex := 6, attributes := #[] }, { accessFlags := 18, nameIndex := 9, descriptorIndex := 10, attributes := #[] }, { accessFlags := 2, nameIndex := 19, descriptorIndex := 10, attributes := #[] }])
  fields := #[{ name := "name", type := (.object "java/lang/String"), accessFlags := 18, slot := 0, constantValue := 0 }, { name := "ordinal", type := .int, accessFlags := 18, slot := 1, constantValue := 0 }, { name := "hash", type := .int, accessFlags := 2, slot := 2, constantValue := 0 }]
  methods := #[]
  instanceTypes := #[(.object "java/lang/String"), .int, .int]
  staticTypes := #[]
  resolved := Array.replicate 204 none
  statics := none }

def pool6 : Array CpInfo := pool [(1, .class_ 2), (0, u "com/example/tierwright/tierwright/lang/Expression$Operator"), (0, .fieldref 1 4), (0, .nameAndType 5 6), (0, u "OR"), (0, u "Lcom/example/tierwright/tierwright/lang/Expression$Operator;"), (0, .fieldref 1 8), (0, .nameAndType 9 6), (0, u "AND"), (2, u "EQUAL"), (2, u "NOT_EQUAL"), (2, u "LESS"), (2, u "GREATER"), (2, u "LESS_OR_EQUAL"), (2, u "GREATER_OR_EQUAL"), (2, u "PLUS"), (2, u "MINUS"), (2, u "JOIN"), (2, u "TIMES"), (2, u "DIVIDE"), (2, u "NOT"), (2, u "$VALUES"), (0, u "[Lcom/example/tierwright/tierwright/lang/Expression$Operator;"), (6, .class_ 58), (1, u "java/lang/Enum"), (8, u "symbol"), (0, u "Ljava/lang/String;"), (2, u "level"), (0, u "I"), (64, u "HIGHEST_LEVEL"), (2, u "COMPARISON_LEVEL"), (7, u "()Z"), (1, u "isLogical"), (8, .class_ 160), (0, u "com/example/tierwright/tierwright/lang/Expression")] 2

def k6c0 : Code := { maxStack := 2, maxLocals := 1, code := prog_48_method_6_code, exceptionTable := #[], attributes := #[] }
def k6m0 : Method := { name := "isLogical", desc := "()Z", sig := { parameters := [], returnType := some .boolean }, accessFlags := 1, code := some k6c0 }
/-- com/example/tierwright/tierwright/lang/Expression$Operator -/
def k6 : Class := { plain "com/example/tierwright/tierwright/lang/Expression$Operator" (some 5) with
  accessFlags := 16433
  interfaces := #[]
  cf := some (fileOf pool6 1 #[.nestHost 159] #[{ accessFlags := 1, nameIndex := 150, descriptorIndex := 148, attributes := #[] }] 16433 56 #[] #[{ accessFlags := 16409, nameIndex := 5, descriptorIndex := 6, attributes := #[] }, { accessFlags := 16409, nameIndex := 9, descriptorIndex := 6, attributes := #[] }, { accessFlags := 16409, nameIndex := 12, descriptorIndex := 6, attributes := #[] }, { accessFlags := 16409, nameIndex := 15, descriptorIndex := 6, attributes := #[] }, { accessFlags := 16409, nameIndex := 18, descriptorIndex := 6, attributes := #[] }, { accessFlags := 16409, nameIndex := 21, descriptorIndex := 6, attributes := #[] }, { accessFlags := 16409, nameIndex := 24, descriptorIndex := 6, attributes := #[] }, { accessFlags := 16409, nameIndex := 27, descriptorIndex := 6, attributes := #[] }, { accessFlags := 16409, nameIndex := 30, descriptorIndex := 6, attributes := #[] }, { accessFlags := 16409, nameIndex := 33, descriptorIndex := 6, attributes := #[] }, { accessFlags := 16409, nameIndex := 36, descriptorIndex := 6, attributes := #[] }, { accessFlags := 16409, nameIndex := 39, descriptorIndex := 6, attributes := #[] }, { accessFlags := 16409, nameIndex := 42, descriptorIndex := 6, attributes := #[] }, { accessFlags := 16409, nameIndex := 45, descriptorIndex := 6, attributes := #[] }, { accessFlags := 24, nameIndex := 137, descriptorIndex := 72, attributes := #[] }, { accessFlags := 24, nameIndex := 140, descriptorIndex := 72, attributes := #[] }, { accessFlags := 18, nameIndex := 67, descriptorIndex := 68, attributes := #[] }, { accessFlags := 18, nameIndex := 71, descriptorIndex := 72, attributes := #[] }, { accessFlags := 4122, nameIndex := 48, descriptorIndex := 49, attributes := #[] }])
  fields := #[{ name := "OR", type := (.object "com/example/tierwright/tierwright/lang/Expression$Operator"), accessFlags := 16409, slot := 0, constantValue := 0 }, { name := "AND", type := (.object "com/example/tierwright/tierwright/lang/Expression$Operator"), accessFlags := 16409, slot := 1, constantValue := 0 }, { name := "EQUAL", type := (.object "com/example/tierwright/tierwright/lang/Expression$Operator"), accessFlags := 16409, slot := 2, constantValue := 0 }, { name := "NOT_EQUAL", type := (.object "com/example/tierwright/tierwright/lang/Expression$Operator"), accessFlags := 16409, slot := 3, constantValue := 0 }, { name := "LESS", type := (.object "com/example/tierwright/tierwright/lang/Expression$Operator"), accessFlags := 16409, slot := 4, constantValue := 0 }, { name := "GREATER", type := (.object "com/example/tierwright/tierwright/lang/Expression$Operator"), accessFlags := 16409, slot := 5, constantValue := 0 }, { name := "LESS_OR_EQUAL", type := (.object "com/example/tierwright/tierwright/lang/Expression$Operator"), accessFlags := 16409, slot := 6, constantValue := 0 }, { name := "GREATER_OR_EQUAL", type := (.object "com/example/tierwright/tierwright/lang/Expression$Operator"), accessFlags := 16409, slot := 7, constantValue := 0 }, { name := "PLUS", type := (.object "com/example/tierwright/tierwright/lang/Expression$Operator"), accessFlags := 16409, slot := 8, constantValue := 0 }, { name := "MINUS", type := (.object "com/example/tierwright/tierwright/lang/Expression$Operator"), accessFlags := 16409, slot := 9, constantValue := 0 }, { name := "JOIN", type := (.object "com/example/tierwright/tierwright/lang/Expression$Operator"), accessFlags := 16409, slot := 10, constantValue := 0 }, { name := "TIMES", type := (.object "com/example/tierwright/tierwright/lang/Expression$Operator"), accessFlags := 16409, slot := 11, constantValue := 0 }, { name := "DIVIDE", type := (.object "com/example/tierwright/tierwright/lang/Expression$Operator"), accessFlags := 16409, slot := 12, constantValue := 0 }, { name := "NOT", type := (.object "com/example/tierwright/tierwright/lang/Expression$Operator"), accessFlags := 16409, slot := 13, constantValue := 0 }, { name := "HIGHEST_LEVEL", type := .int, accessFlags := 24, slot := 14, constantValue := 0 }, { name := "COMPARISON_LEVEL", type := .int, accessFlags := 24, slot := 15, constantValue := 0 }, { name := "symbol", type := (.object "java/lang/String"), accessFlags := 18, slot := 3, constantValue := 0 }, { name := "level", type := .int, accessFlags := 18, slot := 4, constantValue := 0 }, { name := "$VALUES", type := (.array (.object "com/example/tierwright/tierwright/lang/Expression$Operator")), accessFlags := 4122, slot := 16, constantValue := 0 }]
  methods := #[k6m0]
  instanceTypes := #[(.object "java/lang/String"), .int, .int, (.object "java/lang/String"), .int]
  staticTypes := #[(.object "com/example/tierwright/tierwright/lang/Expression$Operator"), (.object "com/example/tierwright/tierwright/lang/Expression$Operator"), (.object "com/example/tierwright/tierwright/lang/Expression$Operator"), (.object "com/example/tierwright/tierwright/lang/Expression$Operator"), (.object "com/example/tierwright/tierwright/lang/Expression$Operator"), (.object "com/example/tierwright/tierwright/lang/Expression$Operator"), (.object "com/example/tierwright/tierwright/lang/Expression$Operator"), (.object "com/example/tierwright/tierwright/lang/Expression$Operator"), (.object "com/example/tierwright/tierwright/lang/Expression$Operator"), (.object "com/example/tierwright/tierwright/lang/Expression$Operator"), (.object "com/example/tierwright/tierwright/lang/Expression$Operator"), (.object "com/example/tierwright/tierwright/lang/Expression$Operator"), (.object "com/example/tierwright/tierwright/lang/Expression$Operator"), (.object "com/example/tierwright/tierwright/lang/Expression$Operator"), .int, .int, (.array (.object "com/example/tierwright/tierwright/lang/Expression$Operator"))]
  resolved := Array.replicate 163 none
  statics := some 0 }

def pool7 : Array CpInfo := pool [(1, u "java/lang/Cloneable"), (0, .class_ 1), (0, u "java/lang/Object"), (0, .class_ 3)] 3

/-- java/lang/Cloneable -/
def k7 : Class := { plain "java/lang/Cloneable" (some 0) with
  accessFlags := 1537
  interfaces := #[]
  cf := some (fileOf pool7 2 #[] #[] 1537 4 #[] #[])
  fields := #[]
  methods := #[]
  instanceTypes := #[]
  staticTypes := #[]
  resolved := Array.replicate 8 none
  statics := none }

/-- the primitive byte -/
def k8 : Class := { plain "byte" none with kind := .primitive 'B', accessFlags := 0x411 }
/-- [B -/
def k9 : Class := { plain "[B" (some 0) with kind := .array 8 .byte, interfaces := #[7, 4], accessFlags := 1041 }

/-- the primitive int -/
def k10 : Class := { plain "int" none with kind := .primitive 'I', accessFlags := 0x411 }
/-- [I -/
def k11 : Class := { plain "[I" (some 0) with kind := .array 10 .int, interfaces := #[7, 4], accessFlags := 1041 }

def heap : Heap := #[{ cls := 6, slots := #[.ref 1, .ref 2, .ref 3, .ref 4, .ref 5, .ref 6, .ref 7, .ref 8, .ref 9, .ref 10, .ref 11, .ref 12, .ref 13, .ref 14, .int 0, .int 0, .null], vm := .statics 6 },
  { cls := 6, slots := #[.null, .int 0, .int 0, .null, .int 0], vm := .none },
  { cls := 6, slots := #[.null, .int 1, .int 0, .null, .int 0], vm := .none },
  { cls := 6, slots := #[.null, .int 2, .int 0, .null, .int 0], vm := .none },
  { cls := 6, slots := #[.null, .int 3, .int 0, .null, .int 0], vm := .none },
  { cls := 6, slots := #[.null, .int 4, .int 0, .null, .int 0], vm := .none },
  { cls := 6, slots := #[.null, .int 5, .int 0, .null, .int 0], vm := .none },
  { cls := 6, slots := #[.null, .int 6, .int 0, .null, .int 0], vm := .none },
  { cls := 6, slots := #[.null, .int 7, .int 0, .null, .int 0], vm := .none },
  { cls := 6, slots := #[.null, .int 8, .int 0, .null, .int 0], vm := .none },
  { cls := 6, slots := #[.null, .int 9, .int 0, .null, .int 0], vm := .none },
  { cls := 6, slots := #[.null, .int 10, .int 0, .null, .int 0], vm := .none },
  { cls := 6, slots := #[.null, .int 11, .int 0, .null, .int 0], vm := .none },
  { cls := 6, slots := #[.null, .int 12, .int 0, .null, .int 0], vm := .none },
  { cls := 6, slots := #[.null, .int 13, .int 0, .null, .int 0], vm := .none }]
def classes : Array Class := #[k0, k1, k2, k3, k4, k5, k6, k7, k8, k9, k10, k11]
def interned : List (Array UInt16 × Addr) := []
def slotsUsed : Nat := 87
def theMethod : MethodId := ⟨1, 2⟩
def args0 : Array Value := #[.int 5]
def aboutOver (below : List Frame) : State where
  vm := { classes := classes, interned := interned.toArray }
  heap := heap
  slotsUsed := slotsUsed
  threads := #[{ frames := .invoking theMethod args0 :: below }]
def below0 : List Frame := [.native { method := ⟨0, 0⟩, args := #[] }]
def about1 : State := aboutOver below0
def p0 : Program := .bare "" "" ""
def e0 : Env := launch0.env 0 0 0
theorem w_frames : about1.frames = Frame.invoking theMethod args0 :: below0 := rfl
set_option maxRecDepth 65536 in
theorem w_args : argsFit about1.vm theMethod args0 = true := by decide +kernel
set_option maxRecDepth 65536 in
theorem w_heap : heapFits about1 = true := by decide +kernel
set_option maxRecDepth 65536 in
theorem w_runnable : about1.curStatus? = some .runnable := by decide +kernel
set_option maxRecDepth 65536 in
theorem w_alone : about1.alone = true := by decide +kernel
set_option maxRecDepth 65536 in
theorem w_named : about1.methodNamed? x = some theMethod := by decide +kernel
set_option maxRecDepth 65536 in
theorem w_hears : about1.hears theMethod below0 = true := by decide +kernel
set_option maxRecDepth 65536 in
theorem w_ripe : about1.ripe theMethod args0 below0 = true := by decide +kernel
theorem w_running : about1.status = .running := rfl
set_option maxRecDepth 65536 in
theorem w_room : about1.hasRoom e0.platform room_1 = true :=
  launch0.hasRoom_least _ room_1 (by decide +kernel) (by decide +kernel) (by decide +kernel) (by decide +kernel) (by decide +kernel) (by decide +kernel)
theorem allAtoms_all (ts : List Jvm.Cond) (a : Array Jvm.Value) (st : Jvm.State) : (allAtoms ts).before a st = ts.all (fun c => c.before a st) := by
  induction ts with
  | nil => rfl
  | cons c t ih =>
    show (Jvm.Cond.and c (allAtoms t)).before a st = _
    rw [Jvm.Cond.before_and, ih, List.all_cons]
def words1 : List Jvm.Cond := Jvm.Cond.code x code maxLocals ret :: tables_1
/-- a 'code' word, met by the world's own term for the bytes: nothing is compared byte by byte -/
theorem code_word {y : MethodName} {bytes : ByteArray} {mx : Nat} {rt : Option FieldType} {a : Array Value} {s : State} {m : MethodId} {meth : Method} {c : Code} (h1 : s.methodNamed? y = some m) (h2 : s.vm.method? m = some meth) (h3 : meth.code = some c) (h4 : c.code = bytes)
    (h5 : (c.maxLocals == mx && c.exceptionTable.isEmpty && decide (c.maxStack ≤ mostOperands) && decide (meth.sig.returnType = rt) && !meth.locks && decide (parseMethodDescriptor y.desc = some meth.sig)) = true) : (Jvm.Cond.code y bytes mx rt).before a s = true := by
  simp only [Bool.and_eq_true, beq_iff_eq, Bool.not_eq_true', decide_eq_true_eq] at h5
  obtain ⟨⟨⟨⟨⟨g1, g2⟩, g3⟩, g4⟩, g5⟩, g6⟩ := h5
  simp [Cond.before, Cond.holds, Cond.value, h1, h2, h3, h4, g1, g2, g3, g4, g5, g6]
def isCode : Jvm.Cond → Bool
  | .code _ _ _ _ => true
  | _ => false
theorem all_split {L : List Jvm.Cond} {P : Jvm.Cond → Bool} (h1 : L.all (fun c => isCode c || P c) = true) (h2 : ∀ c ∈ L.filter isCode, P c = true) : L.all P = true := by
  refine List.all_eq_true.mpr fun c hc => ?_
  have h := List.all_eq_true.mp h1 c hc
  rcases Bool.eq_false_or_eq_true (isCode c) with hi | hi
  · exact h2 c (List.mem_filter.mpr ⟨hc, hi⟩)
  · simpa [hi] using h
set_option maxRecDepth 65536 in
theorem w_c0 : (Jvm.Cond.code x code maxLocals ret).before args0 about1 = true := code_word (m := ⟨1, 2⟩) (meth := k1m2) (c := k1c2) (by decide +kernel) rfl rfl rfl (by decide +kernel)
set_option maxRecDepth 65536 in
theorem w_c1 : (Jvm.Cond.code ({ cls := "com/example/tierwright/tierwright/lang/OperatorIsLogicalPinLaw", name := "pick", desc := "(I)Lcom/example/tierwright/tierwright/lang/Expression$Operator;" } : Jvm.MethodName) method_2_code (1 : Nat) (Option.some (Jvm.ClassFile.FieldType.object "com/example/tierwright/tierwright/lang/Expression$Operator"))).before args0 about1 = true := code_word (m := ⟨1, 1⟩) (meth := k1m1) (c := k1c1) (by decide +kernel) rfl rfl rfl (by decide +kernel)
set_option maxRecDepth 65536 in
theorem w_c2 : (Jvm.Cond.code ({ cls := "com/example/tierwright/tierwright/lang/Expression$Operator", name := "isLogical", desc := "()Z" } : Jvm.MethodName) prog_48_method_6_code (1 : Nat) (Option.some Jvm.ClassFile.FieldType.boolean)).before args0 about1 = true := code_word (m := ⟨6, 0⟩) (meth := k6m0) (c := k6c0) (by decide +kernel) rfl rfl rfl (by decide +kernel)
def codes1 : List Jvm.Cond := [Jvm.Cond.code x code maxLocals ret, Jvm.Cond.code ({ cls := "com/example/tierwright/tierwright/lang/OperatorIsLogicalPinLaw", name := "pick", desc := "(I)Lcom/example/tierwright/tierwright/lang/Expression$Operator;" } : Jvm.MethodName) method_2_code (1 : Nat) (Option.some (Jvm.ClassFile.FieldType.object "com/example/tierwright/tierwright/lang/Expression$Operator")), Jvm.Cond.code ({ cls := "com/example/tierwright/tierwright/lang/Expression$Operator", name := "isLogical", desc := "()Z" } : Jvm.MethodName) prog_48_method_6_code (1 : Nat) (Option.some Jvm.ClassFile.FieldType.boolean)]
set_option maxRecDepth 65536 in
theorem codes_eq : words1.filter isCode = codes1 := rfl
theorem w_codes : ∀ c ∈ words1.filter isCode, c.before args0 about1 = true := by
  rw [codes_eq]
  intro c hc
  simp only [codes1, List.mem_cons, List.not_mem_nil, or_false] at hc
  rcases hc with rfl | rfl | rfl
  · exact w_c0
  · exact w_c1
  · exact w_c2
set_option maxRecDepth 65536 in
theorem w_t1 : (words1.take 24).all (fun c => isCode c || c.before args0 about1) = true := by decide +kernel
set_option maxRecDepth 65536 in
theorem w_t2 : (words1.drop 24).all (fun c => isCode c || c.before args0 about1) = true := by decide +kernel
theorem w_tables : (allAtoms (Jvm.Cond.code x code maxLocals ret :: tables_1)).before args0 about1 = true := by
  rw [allAtoms_all]
  show words1.all (fun c => c.before args0 about1) = true
  refine all_split ?_ w_codes
  rw [← List.take_append_drop 24 words1, List.all_append, w_t1, w_t2]
  rfl
set_option maxRecDepth 65536 in
theorem w_case : (Jvm.Cond.and given_1 narrow_1).before args0 about1 = true := by decide +kernel
theorem w_applies : (headSpec (Jvm.Cond.code x code maxLocals ret :: tables_1) room_1).applies x e0.platform about1 = true :=
  (Spec.applies_iff w_frames).mpr ⟨w_running, w_runnable, w_alone, w_named, w_hears, w_ripe, w_room, w_tables⟩
theorem atStart : AtStart classFile x code maxLocals ret World_1 tables_1 room_1 Calls_1 rest_1 Pre_1 launch0 p0 e0 about1 theMethod args0 below0 :=
  ⟨lists_1, trivial, launch0.admits_env _ _ _, launch0.least_env, fairChoices_fair.cas, fairChoices_fair.clock, w_frames, w_args, w_heap, w_applies, trivial, trivial, w_case⟩
end start1
theorem witness_1 : WitnessClaimed_1 := ⟨start1.p0, start1.e0, start1.about1, start1.theMethod, start1.args0, start1.below0, start1.atStart⟩
end Jvm.Pilot.@@N@@
