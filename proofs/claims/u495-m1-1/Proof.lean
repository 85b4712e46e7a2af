import JvmDerived
import JvmDerived.Pilot.@@N@@Statement
import JvmDerived.Pilot.@@N@@Code
set_option linter.unusedVariables false
set_option linter.unusedSimpArgs false
namespace Jvm.RoadKit
open Sem ClassFile Op Lib Jvm.Stand Jvm.Free Jvm.LawKit
section New
variable {p : Program} {l : Launch} {e : Env} {R : Room} {s : State} {m : MethodId} {args : Array Value} {below : List Frame} {meth : Method} {c : Code} {T : State} {locs : List Loc} {cells slots : Nat}
theorem retI (X : Stand p l e R s m args below meth c T locs cells slots) (hx : p.tables.exec = Jvm.exec) {pc : Nat} {Ls : Array Slot} {z : Int32} {rest : List Value} (hret : meth.sig.returnType = some .int) (hd : decode c.code pc = .ok (.ireturn, 1)) {fs : List Frame}
    (hl : ∀ (f : JFrame) (acts : List Action), f.method = m → f.locked = none → f.entered = [] → (doReturn e (T.setTop f) acts (some (.int z))).1 = T.setFrames fs) : Steps p.tables e below (T.setTop (mkF m pc Ls (.int z :: rest))) (T.setFrames fs) := by
  have hm' : T.vm.method? m = some meth := X.method'
  have hn : narrow .int (.int z) = .int z := rfl
  show Steps p.tables e below (T.setTop { method := m, pc := pc, locals := Ls, stack := _ :: rest, locked := none }) _
  jvm_step X.here [X.here.top, hx, hd, hm', hret, hn]
  first | (intro acts; rw [hl _ acts rfl rfl rfl]) | rw [hl _ _ rfl rfl rfl]
  exact Steps.refl _
end New
end Jvm.RoadKit
namespace Jvm.Pilot.@@N@@
open Jvm Jvm.ClassFile Sem Op Lib Jvm.Free Jvm.Stand Jvm.LawKit Jvm.RoadKit Bundle Jvm.Pilot.@@N@@.Jvm.D
theorem own_eqv {a : Term} {k : Int32} {args : Array Value} {s : State} (h : (Jvm.Cond.eq a (.int k)).value args s none s [] = some true) : a.eval args s none [] s = some (.int k) := by
  obtain ⟨x, y, hx, hy, -, kyx⟩ := cmp_v (Or.inl h)
  obtain rfl : y = .int k := by simpa [Term.eval] using hy.symm
  obtain ⟨z, rfl⟩ := kyx
  have e : z = k := by simpa [Cond.value, hx, Term.eval] using h
  rw [hx, e]
theorem own_eqvL {a : Term} {k : Int64} {args : Array Value} {s : State} (h : (Jvm.Cond.eq a (.long k)).value args s none s [] = some true) : a.eval args s none [] s = some (.long k) := by
  obtain ⟨x, y, hx, hy, -, kyx⟩ := cmp_v (Or.inl h)
  obtain rfl : y = .long k := by simpa [Term.eval] using hy.symm
  obtain ⟨z, rfl⟩ := kyx
  have e : z = k := by simpa [Cond.value, hx, Term.eval] using h
  rw [hx, e]
theorem own_ne {Z : State} {a b : Addr} {C n d : String} {i j : Int32} (h1 : Z.fieldOf? a C n d = some (.int i)) (h2 : Z.fieldOf? b C n d = some (.int j)) (hij : i ≠ j) : a ≠ b := fun e => by
  subst e
  rw [h1] at h2
  exact hij (Value.int.inj (Option.some.inj h2))
def own_pop (d : Nat) : Nat := d % 2 + d / 2 % 2 + d / 4 % 2 + d / 8 % 2
def own_M5 : Nat → Nat | 0 => 0 | k + 1 => 16 * own_M5 k + 5
def own_M3 : Nat → Nat | 0 => 0 | k + 1 => 16 * own_M3 k + 3
def own_B (k x : Nat) : Nat := x - ((x / 2) &&& own_M5 k)
def own_W (k x : Nat) : Nat := (own_B k x &&& own_M3 k) + ((own_B k x / 4) &&& own_M3 k)
theorem own_and16 (a b r s : Nat) (hr : r < 16) (hs : s < 16) : (16 * a + r) &&& (16 * b + s) = 16 * (a &&& b) + (r &&& s) := by
  have h1 : ((16 * a + r) &&& (16 * b + s)) / 2 ^ 4 = (a &&& b) := by
    rw [Nat.and_div_two_pow]; congr 1 <;> omega
  have h2 : ((16 * a + r) &&& (16 * b + s)) % 2 ^ 4 = (r &&& s) := by
    rw [Nat.and_mod_two_pow]; congr 1 <;> omega
  omega
theorem own_nib : ∀ d : Fin 16, ∀ t : Fin 2, ((d.1 / 2 + 8 * t.1) &&& 5 = (d.1 / 2) &&& 5) := by decide
theorem own_nib2 : ∀ d : Fin 16, ((d.1 / 2) &&& 5) ≤ d.1 := by decide
theorem own_nib3 : ∀ e : Fin 16, ∀ t : Fin 4, ((4 * t.1 + e.1 / 4) &&& 3 = (e.1 / 4) &&& 3) := by decide
theorem own_nib4 : ∀ d : Fin 16, ((d.1 - ((d.1 / 2) &&& 5)) &&& 3) + (((d.1 - ((d.1 / 2) &&& 5)) / 4) &&& 3) = own_pop d.1 := by decide
theorem own_B_step (k y d : Nat) (hd : d < 16) : own_B (k + 1) (16 * y + d) = 16 * own_B k y + (d - ((d / 2) &&& 5)) := by
  have e : (16 * y + d) / 2 = 16 * (y / 2) + (d / 2 + 8 * (y % 2)) := by omega
  have h1 := own_nib ⟨d, hd⟩ ⟨y % 2, by omega⟩
  have h2 := own_nib2 ⟨d, hd⟩
  have h3 : (y / 2 &&& own_M5 k) ≤ y / 2 := Nat.and_le_left
  dsimp only at h1 h2
  unfold own_B
  rw [e, own_M5, own_and16 _ _ _ _ (by omega) (by decide), h1]
  omega
theorem own_W_step (k y d : Nat) (hd : d < 16) : own_W (k + 1) (16 * y + d) = 16 * own_W k y + own_pop d := by
  have h2 := own_nib2 ⟨d, hd⟩
  dsimp only at h2
  unfold own_W
  rw [own_B_step k y d hd]
  have hf := own_nib4 ⟨d, hd⟩
  dsimp only at hf
  generalize he : d - ((d / 2) &&& 5) = e at *
  have he16 : e < 16 := by omega
  have e4 : (16 * own_B k y + e) / 4 = 16 * (own_B k y / 4) + (4 * (own_B k y % 4) + e / 4) := by omega
  have h3 := own_nib3 ⟨e, he16⟩ ⟨own_B k y % 4, by omega⟩
  dsimp only at h3
  rw [e4, own_M3, own_and16 _ _ _ _ he16 (by decide), own_and16 _ _ _ _ (by omega) (by decide), h3]
  omega
theorem own_pop_lt (d : Nat) : own_pop d < 16 := by unfold own_pop; omega
theorem own_W_nib : ∀ (i k x : Nat), i < k → own_W k x / 16 ^ i % 16 = own_pop (x / 16 ^ i % 16)
  | 0, k + 1, x, _ => by
    have h := own_W_step k (x / 16) (x % 16) (by omega)
    rw [show 16 * (x / 16) + x % 16 = x by omega] at h
    have := own_pop_lt (x % 16)
    simp only [Nat.pow_zero, Nat.div_one]
    omega
  | i + 1, k + 1, x, hi => by
    have h := own_W_step k (x / 16) (x % 16) (by omega)
    rw [show 16 * (x / 16) + x % 16 = x by omega] at h
    have hp := own_pop_lt (x % 16)
    have ih := own_W_nib i k (x / 16) (by omega)
    have e1 : own_W (k + 1) x / 16 ^ (i + 1) = own_W k (x / 16) / 16 ^ i := by
      rw [Nat.pow_succ, Nat.mul_comm, ← Nat.div_div_eq_div_mul, h]; congr 1; omega
    have e2 : x / 16 ^ (i + 1) = x / 16 / 16 ^ i := by rw [Nat.pow_succ, Nat.mul_comm, ← Nat.div_div_eq_div_mul]
    rw [e1, e2, ih]
theorem own_sh (x : Int64) (k : Int32) (n : Nat) (h : ((k &&& 0x3f).toInt64.toUInt64 % 64).toBitVec.toNat = n) : ((x.toUInt64 >>> (k &&& 0x3f).toInt64.toUInt64).toInt64).toBitVec.toNat = x.toBitVec.toNat / 2 ^ n := by
  have e : ((x.toUInt64 >>> (k &&& 0x3f).toInt64.toUInt64).toInt64).toBitVec = x.toBitVec >>> ((k &&& 0x3f).toInt64.toUInt64 % 64).toBitVec := rfl
  rw [e, BitVec.ushiftRight_eq', h, BitVec.toNat_ushiftRight, Nat.shiftRight_eq_div_pow]
theorem own_andN (x m : Int64) : (x &&& m).toBitVec.toNat = x.toBitVec.toNat &&& m.toBitVec.toNat := by rw [Int64.toBitVec_and, BitVec.toNat_and]
def own_b (x : Int64) : Int64 := x - (((x.toUInt64 >>> ((1 : Int32) &&& 0x3f).toInt64.toUInt64).toInt64) &&& (6148914691236517205 : Int64))
def own_w (x : Int64) : Int64 := (own_b x &&& (3689348814741910323 : Int64)) + ((((own_b x).toUInt64 >>> ((2 : Int32) &&& 0x3f).toInt64.toUInt64).toInt64) &&& (3689348814741910323 : Int64))
theorem own_bN (x : Int64) : (own_b x).toBitVec.toNat = own_B 16 x.toBitVec.toNat := by
  unfold own_b own_B
  have h : ((((x.toUInt64 >>> ((1 : Int32) &&& 0x3f).toInt64.toUInt64).toInt64) &&& (6148914691236517205 : Int64))).toBitVec.toNat = (x.toBitVec.toNat / 2 &&& own_M5 16) := by
    rw [own_andN, own_sh x 1 1 (by decide)]; rfl
  have hle : (x.toBitVec.toNat / 2 &&& own_M5 16) ≤ x.toBitVec.toNat / 2 := Nat.and_le_left
  rw [Int64.toBitVec_sub, BitVec.toNat_sub_of_le, h]
  rw [BitVec.le_def, h]; omega
theorem own_wN (x : Int64) : (own_w x).toBitVec.toNat = own_W 16 x.toBitVec.toNat := by
  unfold own_w own_W
  have h1 : (own_b x &&& (3689348814741910323 : Int64)).toBitVec.toNat = (own_B 16 x.toBitVec.toNat &&& own_M3 16) := by rw [own_andN, own_bN]; rfl
  have h2 : ((((own_b x).toUInt64 >>> ((2 : Int32) &&& 0x3f).toInt64.toUInt64).toInt64) &&& (3689348814741910323 : Int64)).toBitVec.toNat = (own_B 16 x.toBitVec.toNat / 4 &&& own_M3 16) := by
    rw [own_andN, own_sh _ 2 2 (by decide), own_bN]; rfl
  have l1 : (own_B 16 x.toBitVec.toNat &&& own_M3 16) ≤ own_M3 16 := Nat.and_le_right
  have l2 : (own_B 16 x.toBitVec.toNat / 4 &&& own_M3 16) ≤ own_M3 16 := Nat.and_le_right
  have l3 : own_M3 16 = 3689348814741910323 := by decide
  rw [Int64.toBitVec_add, BitVec.toNat_add, h1, h2]
  rw [Nat.mod_eq_of_lt]
  omega
theorem own_15 (y : Int64) : ∃ d : Fin 16, d.1 = y.toBitVec.toNat % 16 ∧ (y &&& (15 : Int64)) = Int64.ofNat d.1 := by
  refine ⟨⟨y.toBitVec.toNat % 16, Nat.mod_lt _ (by decide)⟩, rfl, ?_⟩
  rw [← Int64.toBitVec_inj]
  apply BitVec.eq_of_toNat_eq
  rw [own_andN]
  have : (15 : Int64).toBitVec.toNat = 2 ^ 4 - 1 := by decide
  rw [this, Nat.and_two_pow_sub_one_eq_mod]
  show _ = (Int64.ofNat (y.toBitVec.toNat % 16)).toBitVec.toNat
  have e : (Int64.ofNat (y.toBitVec.toNat % 16)).toBitVec = BitVec.ofNat 64 (y.toBitVec.toNat % 16) := rfl
  rw [e, BitVec.toNat_ofNat]; omega
def own_cnt (n : Int64) : Int32 := (((((n &&& (1 : Int64)) + (((n.toUInt64 >>> ((1 : Int32) &&& 0x3f).toInt64.toUInt64).toInt64) &&& (1 : Int64))) + (((n.toUInt64 >>> ((2 : Int32) &&& 0x3f).toInt64.toUInt64).toInt64) &&& (1 : Int64))) + (((n.toUInt64 >>> ((3 : Int32) &&& 0x3f).toInt64.toUInt64).toInt64) &&& (1 : Int64))).toInt32)
theorem own_cntN : ∀ d : Fin 16, (own_cnt (Int64.ofNat d.1)).toInt = own_pop d.1 := by decide
theorem own_lo : ∀ d : Fin 16, (Int64.ofNat d.1).toInt = d.1 := by decide
/-- the rank's own word: what the loop asks of the place i, and the count of the four cards -/
theorem own_same (x : Int64) (k p : Int32) (i : Nat) (hi : i < 16) (h : ((k &&& 0x3f).toInt64.toUInt64 % 64).toBitVec.toNat = 4 * i) :
    ((((own_w x).toUInt64 >>> (k &&& 0x3f).toInt64.toUInt64).toInt64 &&& (15 : Int64)) < p.toInt64) ↔ (own_cnt (((x.toUInt64 >>> (k &&& 0x3f).toInt64.toUInt64).toInt64) &&& (15 : Int64)) < p) := by
  obtain ⟨d, hd, e⟩ := own_15 (((own_w x).toUInt64 >>> (k &&& 0x3f).toInt64.toUInt64).toInt64)
  obtain ⟨d', hd', e'⟩ := own_15 ((x.toUInt64 >>> (k &&& 0x3f).toInt64.toUInt64).toInt64)
  rw [own_sh _ k _ h, own_wN, Nat.pow_mul, own_W_nib i 16 _ hi] at hd
  rw [own_sh _ k _ h, Nat.pow_mul] at hd'
  rw [show (2 ^ 4 : Nat) = 16 by decide] at hd'
  rw [← hd'] at hd
  rw [e, e', Int64.lt_iff_toInt_lt, Int32.lt_iff_toInt_lt, own_lo, own_cntN, Int32.toInt_toInt64, hd]
def own_step (w : Int64) (p r k v : Int32) : Int32 := if (((w.toUInt64 >>> (k &&& 0x3f).toInt64.toUInt64).toInt64) &&& (15 : Int64)) < p.toInt64 then v else (v ||| ((1 : Int32) <<< (r &&& 31)))
def own_ranks (w : Int64) (p : Int32) : Int32 :=
  own_step w p 13 48 (own_step w p 12 44 (own_step w p 11 40 (own_step w p 10 36 (own_step w p 9 32 (own_step w p 8 28 (own_step w p 7 24 (own_step w p 6 20 (own_step w p 5 16 (own_step w p 4 12 (own_step w p 3 8 (own_step w p 2 4 (own_step w p 1 0 0))))))))))))
theorem own_if_bit (c : Prop) [Decidable c] (v b : Int32) (i : Nat) : (if c then v else v ||| b).toBitVec.getLsbD i = (v.toBitVec.getLsbD i || (!decide c && b.toBitVec.getLsbD i)) := by
  by_cases h : c
  · simp only [h, if_true, decide_true, Bool.not_true, Bool.false_and, Bool.or_false]
  · simp only [h, if_false, decide_false, Bool.not_false, Bool.true_and, Int32.toBitVec_or, BitVec.getLsbD_or]
theorem own_step_bit (w : Int64) (p r k v : Int32) (i : Nat) : (own_step w p r k v).toBitVec.getLsbD i = (v.toBitVec.getLsbD i || (!decide ((((w.toUInt64 >>> (k &&& 0x3f).toInt64.toUInt64).toInt64) &&& (15 : Int64)) < p.toInt64) && ((1 : Int32) <<< (r &&& 31)).toBitVec.getLsbD i)) := own_if_bit _ _ _ _
theorem own_if_mask (c : Prop) [Decidable c] (v b : Int32) (hv : v &&& (-16383) = 0) (hb : b &&& (-16383) = 0) : (if c then v else v ||| b) &&& (-16383) = 0 := by
  by_cases h : c
  · rw [if_pos h]; exact hv
  · rw [if_neg h]
    rw [← Int32.toBitVec_inj] at hv hb ⊢
    rw [Int32.toBitVec_and] at hv hb
    rw [Int32.toBitVec_and, Int32.toBitVec_or]
    apply BitVec.eq_of_getLsbD_eq
    intro i hi
    have a := congrArg (fun z => z.getLsbD i) hv
    have b := congrArg (fun z => z.getLsbD i) hb
    simp only [BitVec.getLsbD_and, BitVec.getLsbD_or] at a b ⊢
    rw [Bool.and_or_distrib_right, a, b, Bool.or_self]
theorem own_step_mask (w : Int64) (p r k v : Int32) (hv : v &&& (-16383) = 0) (hb : ((1 : Int32) <<< (r &&& 31)) &&& (-16383) = 0) : own_step w p r k v &&& (-16383) = 0 := own_if_mask _ _ _ hv hb
theorem own_mask (w : Int64) (p : Int32) : own_ranks w p &&& (-16383) = 0 := by
  unfold own_ranks
  repeat apply own_step_mask
  all_goals decide
theorem own_bit0 (v r : Int32) (i : Nat) (hi : ((r &&& 31).toUInt32 % 32).toBitVec.toNat = i) : (((v.toUInt32 >>> (r &&& 31).toUInt32).toInt32) &&& (1 : Int32)) = 0 ↔ v.toBitVec.getLsbD i = false := by
  have e : ((v.toUInt32 >>> (r &&& 31).toUInt32).toInt32).toBitVec = v.toBitVec >>> ((r &&& 31).toUInt32 % 32).toBitVec := rfl
  rw [← Int32.toBitVec_inj, Int32.toBitVec_and, e, BitVec.ushiftRight_eq', hi]
  have h1 : (1 : Int32).toBitVec = 1#32 := rfl
  have h0 : (0 : Int32).toBitVec = 0#32 := rfl
  rw [h1, h0]
  constructor
  · intro q
    have := congrArg (fun z => z.getLsbD 0) q
    simpa [BitVec.getLsbD_and, BitVec.getLsbD_ushiftRight] using this
  · intro q
    apply BitVec.eq_of_getLsbD_eq
    intro j hj
    simp only [BitVec.getLsbD_and, BitVec.getLsbD_ushiftRight, BitVec.getLsbD_one]
    by_cases hj0 : j = 0
    · subst hj0; simp [q]
    · simp [hj0]
theorem own_t1 : ((1 : Int32) <<< ((1 : Int32) &&& 31)).toBitVec = BitVec.twoPow 32 1 := by decide
theorem own_t2 : ((1 : Int32) <<< ((2 : Int32) &&& 31)).toBitVec = BitVec.twoPow 32 2 := by decide
theorem own_t3 : ((1 : Int32) <<< ((3 : Int32) &&& 31)).toBitVec = BitVec.twoPow 32 3 := by decide
theorem own_t4 : ((1 : Int32) <<< ((4 : Int32) &&& 31)).toBitVec = BitVec.twoPow 32 4 := by decide
theorem own_t5 : ((1 : Int32) <<< ((5 : Int32) &&& 31)).toBitVec = BitVec.twoPow 32 5 := by decide
theorem own_t6 : ((1 : Int32) <<< ((6 : Int32) &&& 31)).toBitVec = BitVec.twoPow 32 6 := by decide
theorem own_t7 : ((1 : Int32) <<< ((7 : Int32) &&& 31)).toBitVec = BitVec.twoPow 32 7 := by decide
theorem own_t8 : ((1 : Int32) <<< ((8 : Int32) &&& 31)).toBitVec = BitVec.twoPow 32 8 := by decide
theorem own_t9 : ((1 : Int32) <<< ((9 : Int32) &&& 31)).toBitVec = BitVec.twoPow 32 9 := by decide
theorem own_t10 : ((1 : Int32) <<< ((10 : Int32) &&& 31)).toBitVec = BitVec.twoPow 32 10 := by decide
theorem own_t11 : ((1 : Int32) <<< ((11 : Int32) &&& 31)).toBitVec = BitVec.twoPow 32 11 := by decide
theorem own_t12 : ((1 : Int32) <<< ((12 : Int32) &&& 31)).toBitVec = BitVec.twoPow 32 12 := by decide
theorem own_t13 : ((1 : Int32) <<< ((13 : Int32) &&& 31)).toBitVec = BitVec.twoPow 32 13 := by decide
theorem own_z (i : Nat) : (0 : Int32).toBitVec.getLsbD i = false := by show (0#32).getLsbD i = false; simp
theorem own_rb1 (w : Int64) (p : Int32) : (own_ranks w p).toBitVec.getLsbD 1 = !decide ((((w.toUInt64 >>> ((0 : Int32) &&& 0x3f).toInt64.toUInt64).toInt64) &&& (15 : Int64)) < p.toInt64) := by
  unfold own_ranks
  simp only [own_step_bit, own_z, own_t1, own_t2, own_t3, own_t4, own_t5, own_t6, own_t7, own_t8, own_t9, own_t10, own_t11, own_t12, own_t13, BitVec.getLsbD_twoPow, Nat.reduceEqDiff, Nat.reduceLT, decide_true, decide_false, Bool.and_false, Bool.and_true, Bool.or_false, Bool.false_or]
theorem own_rb2 (w : Int64) (p : Int32) : (own_ranks w p).toBitVec.getLsbD 2 = !decide ((((w.toUInt64 >>> ((4 : Int32) &&& 0x3f).toInt64.toUInt64).toInt64) &&& (15 : Int64)) < p.toInt64) := by
  unfold own_ranks
  simp only [own_step_bit, own_z, own_t1, own_t2, own_t3, own_t4, own_t5, own_t6, own_t7, own_t8, own_t9, own_t10, own_t11, own_t12, own_t13, BitVec.getLsbD_twoPow, Nat.reduceEqDiff, Nat.reduceLT, decide_true, decide_false, Bool.and_false, Bool.and_true, Bool.or_false, Bool.false_or]
theorem own_rb3 (w : Int64) (p : Int32) : (own_ranks w p).toBitVec.getLsbD 3 = !decide ((((w.toUInt64 >>> ((8 : Int32) &&& 0x3f).toInt64.toUInt64).toInt64) &&& (15 : Int64)) < p.toInt64) := by
  unfold own_ranks
  simp only [own_step_bit, own_z, own_t1, own_t2, own_t3, own_t4, own_t5, own_t6, own_t7, own_t8, own_t9, own_t10, own_t11, own_t12, own_t13, BitVec.getLsbD_twoPow, Nat.reduceEqDiff, Nat.reduceLT, decide_true, decide_false, Bool.and_false, Bool.and_true, Bool.or_false, Bool.false_or]
theorem own_rb4 (w : Int64) (p : Int32) : (own_ranks w p).toBitVec.getLsbD 4 = !decide ((((w.toUInt64 >>> ((12 : Int32) &&& 0x3f).toInt64.toUInt64).toInt64) &&& (15 : Int64)) < p.toInt64) := by
  unfold own_ranks
  simp only [own_step_bit, own_z, own_t1, own_t2, own_t3, own_t4, own_t5, own_t6, own_t7, own_t8, own_t9, own_t10, own_t11, own_t12, own_t13, BitVec.getLsbD_twoPow, Nat.reduceEqDiff, Nat.reduceLT, decide_true, decide_false, Bool.and_false, Bool.and_true, Bool.or_false, Bool.false_or]
theorem own_rb5 (w : Int64) (p : Int32) : (own_ranks w p).toBitVec.getLsbD 5 = !decide ((((w.toUInt64 >>> ((16 : Int32) &&& 0x3f).toInt64.toUInt64).toInt64) &&& (15 : Int64)) < p.toInt64) := by
  unfold own_ranks
  simp only [own_step_bit, own_z, own_t1, own_t2, own_t3, own_t4, own_t5, own_t6, own_t7, own_t8, own_t9, own_t10, own_t11, own_t12, own_t13, BitVec.getLsbD_twoPow, Nat.reduceEqDiff, Nat.reduceLT, decide_true, decide_false, Bool.and_false, Bool.and_true, Bool.or_false, Bool.false_or]
theorem own_rb6 (w : Int64) (p : Int32) : (own_ranks w p).toBitVec.getLsbD 6 = !decide ((((w.toUInt64 >>> ((20 : Int32) &&& 0x3f).toInt64.toUInt64).toInt64) &&& (15 : Int64)) < p.toInt64) := by
  unfold own_ranks
  simp only [own_step_bit, own_z, own_t1, own_t2, own_t3, own_t4, own_t5, own_t6, own_t7, own_t8, own_t9, own_t10, own_t11, own_t12, own_t13, BitVec.getLsbD_twoPow, Nat.reduceEqDiff, Nat.reduceLT, decide_true, decide_false, Bool.and_false, Bool.and_true, Bool.or_false, Bool.false_or]
theorem own_rb7 (w : Int64) (p : Int32) : (own_ranks w p).toBitVec.getLsbD 7 = !decide ((((w.toUInt64 >>> ((24 : Int32) &&& 0x3f).toInt64.toUInt64).toInt64) &&& (15 : Int64)) < p.toInt64) := by
  unfold own_ranks
  simp only [own_step_bit, own_z, own_t1, own_t2, own_t3, own_t4, own_t5, own_t6, own_t7, own_t8, own_t9, own_t10, own_t11, own_t12, own_t13, BitVec.getLsbD_twoPow, Nat.reduceEqDiff, Nat.reduceLT, decide_true, decide_false, Bool.and_false, Bool.and_true, Bool.or_false, Bool.false_or]
theorem own_rb8 (w : Int64) (p : Int32) : (own_ranks w p).toBitVec.getLsbD 8 = !decide ((((w.toUInt64 >>> ((28 : Int32) &&& 0x3f).toInt64.toUInt64).toInt64) &&& (15 : Int64)) < p.toInt64) := by
  unfold own_ranks
  simp only [own_step_bit, own_z, own_t1, own_t2, own_t3, own_t4, own_t5, own_t6, own_t7, own_t8, own_t9, own_t10, own_t11, own_t12, own_t13, BitVec.getLsbD_twoPow, Nat.reduceEqDiff, Nat.reduceLT, decide_true, decide_false, Bool.and_false, Bool.and_true, Bool.or_false, Bool.false_or]
theorem own_rb9 (w : Int64) (p : Int32) : (own_ranks w p).toBitVec.getLsbD 9 = !decide ((((w.toUInt64 >>> ((32 : Int32) &&& 0x3f).toInt64.toUInt64).toInt64) &&& (15 : Int64)) < p.toInt64) := by
  unfold own_ranks
  simp only [own_step_bit, own_z, own_t1, own_t2, own_t3, own_t4, own_t5, own_t6, own_t7, own_t8, own_t9, own_t10, own_t11, own_t12, own_t13, BitVec.getLsbD_twoPow, Nat.reduceEqDiff, Nat.reduceLT, decide_true, decide_false, Bool.and_false, Bool.and_true, Bool.or_false, Bool.false_or]
theorem own_rb10 (w : Int64) (p : Int32) : (own_ranks w p).toBitVec.getLsbD 10 = !decide ((((w.toUInt64 >>> ((36 : Int32) &&& 0x3f).toInt64.toUInt64).toInt64) &&& (15 : Int64)) < p.toInt64) := by
  unfold own_ranks
  simp only [own_step_bit, own_z, own_t1, own_t2, own_t3, own_t4, own_t5, own_t6, own_t7, own_t8, own_t9, own_t10, own_t11, own_t12, own_t13, BitVec.getLsbD_twoPow, Nat.reduceEqDiff, Nat.reduceLT, decide_true, decide_false, Bool.and_false, Bool.and_true, Bool.or_false, Bool.false_or]
theorem own_rb11 (w : Int64) (p : Int32) : (own_ranks w p).toBitVec.getLsbD 11 = !decide ((((w.toUInt64 >>> ((40 : Int32) &&& 0x3f).toInt64.toUInt64).toInt64) &&& (15 : Int64)) < p.toInt64) := by
  unfold own_ranks
  simp only [own_step_bit, own_z, own_t1, own_t2, own_t3, own_t4, own_t5, own_t6, own_t7, own_t8, own_t9, own_t10, own_t11, own_t12, own_t13, BitVec.getLsbD_twoPow, Nat.reduceEqDiff, Nat.reduceLT, decide_true, decide_false, Bool.and_false, Bool.and_true, Bool.or_false, Bool.false_or]
theorem own_rb12 (w : Int64) (p : Int32) : (own_ranks w p).toBitVec.getLsbD 12 = !decide ((((w.toUInt64 >>> ((44 : Int32) &&& 0x3f).toInt64.toUInt64).toInt64) &&& (15 : Int64)) < p.toInt64) := by
  unfold own_ranks
  simp only [own_step_bit, own_z, own_t1, own_t2, own_t3, own_t4, own_t5, own_t6, own_t7, own_t8, own_t9, own_t10, own_t11, own_t12, own_t13, BitVec.getLsbD_twoPow, Nat.reduceEqDiff, Nat.reduceLT, decide_true, decide_false, Bool.and_false, Bool.and_true, Bool.or_false, Bool.false_or]
theorem own_rb13 (w : Int64) (p : Int32) : (own_ranks w p).toBitVec.getLsbD 13 = !decide ((((w.toUInt64 >>> ((48 : Int32) &&& 0x3f).toInt64.toUInt64).toInt64) &&& (15 : Int64)) < p.toInt64) := by
  unfold own_ranks
  simp only [own_step_bit, own_z, own_t1, own_t2, own_t3, own_t4, own_t5, own_t6, own_t7, own_t8, own_t9, own_t10, own_t11, own_t12, own_t13, BitVec.getLsbD_twoPow, Nat.reduceEqDiff, Nat.reduceLT, decide_true, decide_false, Bool.and_false, Bool.and_true, Bool.or_false, Bool.false_or]
theorem own_fin (x : Int64) (p rank : Int32) (hr : 1 ≤ rank.toInt ∧ rank.toInt ≤ 13) :
    (own_cnt (((x.toUInt64 >>> (((rank - 1) * 4) &&& 0x3f).toInt64.toUInt64).toInt64) &&& (15 : Int64)) < p) ↔ ((((own_ranks (own_w x) p).toUInt32 >>> (rank &&& 31).toUInt32).toInt32) &&& (1 : Int32)) = 0 := by
  have h : rank = 1 ∨ rank = 2 ∨ rank = 3 ∨ rank = 4 ∨ rank = 5 ∨ rank = 6 ∨ rank = 7 ∨ rank = 8 ∨ rank = 9 ∨ rank = 10 ∨ rank = 11 ∨ rank = 12 ∨ rank = 13 := by
    simp only [← Int32.toInt_inj, show (1 : Int32).toInt = 1 from rfl, show (2 : Int32).toInt = 2 from rfl, show (3 : Int32).toInt = 3 from rfl, show (4 : Int32).toInt = 4 from rfl, show (5 : Int32).toInt = 5 from rfl, show (6 : Int32).toInt = 6 from rfl, show (7 : Int32).toInt = 7 from rfl, show (8 : Int32).toInt = 8 from rfl, show (9 : Int32).toInt = 9 from rfl, show (10 : Int32).toInt = 10 from rfl, show (11 : Int32).toInt = 11 from rfl, show (12 : Int32).toInt = 12 from rfl, show (13 : Int32).toInt = 13 from rfl]
    omega
  rcases h with rfl | rfl | rfl | rfl | rfl | rfl | rfl | rfl | rfl | rfl | rfl | rfl | rfl
  · rw [own_bit0 _ 1 1 (by decide), own_rb1, ← own_same x ((1 - 1) * 4) p 0 (by decide) (by decide), show (((1 : Int32) - 1) * 4) = 0 by decide]; simp only [Bool.not_eq_false', decide_eq_true_eq]
  · rw [own_bit0 _ 2 2 (by decide), own_rb2, ← own_same x ((2 - 1) * 4) p 1 (by decide) (by decide), show (((2 : Int32) - 1) * 4) = 4 by decide]; simp only [Bool.not_eq_false', decide_eq_true_eq]
  · rw [own_bit0 _ 3 3 (by decide), own_rb3, ← own_same x ((3 - 1) * 4) p 2 (by decide) (by decide), show (((3 : Int32) - 1) * 4) = 8 by decide]; simp only [Bool.not_eq_false', decide_eq_true_eq]
  · rw [own_bit0 _ 4 4 (by decide), own_rb4, ← own_same x ((4 - 1) * 4) p 3 (by decide) (by decide), show (((4 : Int32) - 1) * 4) = 12 by decide]; simp only [Bool.not_eq_false', decide_eq_true_eq]
  · rw [own_bit0 _ 5 5 (by decide), own_rb5, ← own_same x ((5 - 1) * 4) p 4 (by decide) (by decide), show (((5 : Int32) - 1) * 4) = 16 by decide]; simp only [Bool.not_eq_false', decide_eq_true_eq]
  · rw [own_bit0 _ 6 6 (by decide), own_rb6, ← own_same x ((6 - 1) * 4) p 5 (by decide) (by decide), show (((6 : Int32) - 1) * 4) = 20 by decide]; simp only [Bool.not_eq_false', decide_eq_true_eq]
  · rw [own_bit0 _ 7 7 (by decide), own_rb7, ← own_same x ((7 - 1) * 4) p 6 (by decide) (by decide), show (((7 : Int32) - 1) * 4) = 24 by decide]; simp only [Bool.not_eq_false', decide_eq_true_eq]
  · rw [own_bit0 _ 8 8 (by decide), own_rb8, ← own_same x ((8 - 1) * 4) p 7 (by decide) (by decide), show (((8 : Int32) - 1) * 4) = 28 by decide]; simp only [Bool.not_eq_false', decide_eq_true_eq]
  · rw [own_bit0 _ 9 9 (by decide), own_rb9, ← own_same x ((9 - 1) * 4) p 8 (by decide) (by decide), show (((9 : Int32) - 1) * 4) = 32 by decide]; simp only [Bool.not_eq_false', decide_eq_true_eq]
  · rw [own_bit0 _ 10 10 (by decide), own_rb10, ← own_same x ((10 - 1) * 4) p 9 (by decide) (by decide), show (((10 : Int32) - 1) * 4) = 36 by decide]; simp only [Bool.not_eq_false', decide_eq_true_eq]
  · rw [own_bit0 _ 11 11 (by decide), own_rb11, ← own_same x ((11 - 1) * 4) p 10 (by decide) (by decide), show (((11 : Int32) - 1) * 4) = 40 by decide]; simp only [Bool.not_eq_false', decide_eq_true_eq]
  · rw [own_bit0 _ 12 12 (by decide), own_rb12, ← own_same x ((12 - 1) * 4) p 11 (by decide) (by decide), show (((12 : Int32) - 1) * 4) = 44 by decide]; simp only [Bool.not_eq_false', decide_eq_true_eq]
  · rw [own_bit0 _ 13 13 (by decide), own_rb13, ← own_same x ((13 - 1) * 4) p 12 (by decide) (by decide), show (((13 : Int32) - 1) * 4) = 48 by decide]; simp only [Bool.not_eq_false', decide_eq_true_eq]
theorem own_ifeq {c d : Prop} [Decidable c] [Decidable d] (h : c ↔ d) : (if c then (0 : Int32) else (1 : Int32)) = (if d then (0 : Int32) else (1 : Int32)) := by
  by_cases q : c
  · rw [if_pos q, if_pos (h.mp q)]
  · rw [if_neg q, if_neg (fun r => q (h.mpr r))]
theorem own_rank (x : Int32) : 1 ≤ ((x &&& 2147483647) % 13 + 1).toInt ∧ ((x &&& 2147483647) % 13 + 1).toInt ≤ 13 := by
  have h := c_mask x 2147483647 31 (by decide) (by decide)
  have r := (c_irem (x &&& 2147483647) 13 13 rfl).1 (by omega)
  have a := c_iadd ((x &&& 2147483647) % 13) 1
  have b := rng32 ((x &&& 2147483647) % 13 + 1)
  rw [show (1 : Int32).toInt = 1 from rfl] at a
  omega
theorem own_pn0 : plainName "com/example/kitchen_table/kitchentable/engine/cards/CardBits" = true := by first | (simp [plainName, overriddenIn]; done) | decide +kernel
theorem own_d_ranks_0 : decode prog_27_method_8_code 0 = .ok (.lload_n 0, 1) := by decide +kernel
theorem own_d_ranks_1 : decode prog_27_method_8_code 1 = .ok (.lload_n 0, 1) := by decide +kernel
theorem own_d_ranks_2 : decode prog_27_method_8_code 2 = .ok (.iconst 1, 1) := by decide +kernel
theorem own_d_ranks_3 : decode prog_27_method_8_code 3 = .ok (.lushr, 1) := by decide +kernel
theorem own_d_ranks_4 : decode prog_27_method_8_code 4 = .ok (.ldc2_w 52, 3) := by decide +kernel
theorem own_d_ranks_7 : decode prog_27_method_8_code 7 = .ok (.land, 1) := by decide +kernel
theorem own_d_ranks_8 : decode prog_27_method_8_code 8 = .ok (.lsub, 1) := by decide +kernel
theorem own_d_ranks_9 : decode prog_27_method_8_code 9 = .ok (.lstore_n 3, 1) := by decide +kernel
theorem own_d_ranks_10 : decode prog_27_method_8_code 10 = .ok (.lload_n 3, 1) := by decide +kernel
theorem own_d_ranks_11 : decode prog_27_method_8_code 11 = .ok (.ldc2_w 54, 3) := by decide +kernel
theorem own_d_ranks_14 : decode prog_27_method_8_code 14 = .ok (.land, 1) := by decide +kernel
theorem own_d_ranks_15 : decode prog_27_method_8_code 15 = .ok (.lload_n 3, 1) := by decide +kernel
theorem own_d_ranks_16 : decode prog_27_method_8_code 16 = .ok (.iconst 2, 1) := by decide +kernel
theorem own_d_ranks_17 : decode prog_27_method_8_code 17 = .ok (.lushr, 1) := by decide +kernel
theorem own_d_ranks_18 : decode prog_27_method_8_code 18 = .ok (.ldc2_w 54, 3) := by decide +kernel
theorem own_d_ranks_21 : decode prog_27_method_8_code 21 = .ok (.land, 1) := by decide +kernel
theorem own_d_ranks_22 : decode prog_27_method_8_code 22 = .ok (.ladd, 1) := by decide +kernel
theorem own_d_ranks_23 : decode prog_27_method_8_code 23 = .ok (.lstore 5, 2) := by decide +kernel
theorem own_d_ranks_25 : decode prog_27_method_8_code 25 = .ok (.iconst 0, 1) := by decide +kernel
theorem own_d_ranks_26 : decode prog_27_method_8_code 26 = .ok (.istore 7, 2) := by decide +kernel
theorem own_d_ranks_28 : decode prog_27_method_8_code 28 = .ok (.iconst 1, 1) := by decide +kernel
theorem own_d_ranks_29 : decode prog_27_method_8_code 29 = .ok (.istore 8, 2) := by decide +kernel
theorem own_d_ranks_31 : decode prog_27_method_8_code 31 = .ok (.iload 8, 2) := by decide +kernel
theorem own_d_ranks_33 : decode prog_27_method_8_code 33 = .ok (.getstatic 19, 3) := by decide +kernel
theorem own_d_ranks_36 : decode prog_27_method_8_code 36 = .ok (.imul, 1) := by decide +kernel
theorem own_d_ranks_37 : decode prog_27_method_8_code 37 = .ok (.bipush 52, 2) := by decide +kernel
theorem own_d_ranks_39 : decode prog_27_method_8_code 39 = .ok (.if_icmp .gt 39, 3) := by decide +kernel
theorem own_d_ranks_42 : decode prog_27_method_8_code 42 = .ok (.lload 5, 2) := by decide +kernel
theorem own_d_ranks_44 : decode prog_27_method_8_code 44 = .ok (.iload 8, 2) := by decide +kernel
theorem own_d_ranks_46 : decode prog_27_method_8_code 46 = .ok (.iconst 1, 1) := by decide +kernel
theorem own_d_ranks_47 : decode prog_27_method_8_code 47 = .ok (.isub, 1) := by decide +kernel
theorem own_d_ranks_48 : decode prog_27_method_8_code 48 = .ok (.getstatic 19, 3) := by decide +kernel
theorem own_d_ranks_51 : decode prog_27_method_8_code 51 = .ok (.imul, 1) := by decide +kernel
theorem own_d_ranks_52 : decode prog_27_method_8_code 52 = .ok (.lushr, 1) := by decide +kernel
theorem own_d_ranks_53 : decode prog_27_method_8_code 53 = .ok (.getstatic 13, 3) := by decide +kernel
theorem own_d_ranks_56 : decode prog_27_method_8_code 56 = .ok (.land, 1) := by decide +kernel
theorem own_d_ranks_57 : decode prog_27_method_8_code 57 = .ok (.iload_n 2, 1) := by decide +kernel
theorem own_d_ranks_58 : decode prog_27_method_8_code 58 = .ok (.i2l, 1) := by decide +kernel
theorem own_d_ranks_59 : decode prog_27_method_8_code 59 = .ok (.lcmp, 1) := by decide +kernel
theorem own_d_ranks_60 : decode prog_27_method_8_code 60 = .ok (.ifCond .lt 12, 3) := by decide +kernel
theorem own_d_ranks_63 : decode prog_27_method_8_code 63 = .ok (.iload 7, 2) := by decide +kernel
theorem own_d_ranks_65 : decode prog_27_method_8_code 65 = .ok (.iconst 1, 1) := by decide +kernel
theorem own_d_ranks_66 : decode prog_27_method_8_code 66 = .ok (.iload 8, 2) := by decide +kernel
theorem own_d_ranks_68 : decode prog_27_method_8_code 68 = .ok (.ishl, 1) := by decide +kernel
theorem own_d_ranks_69 : decode prog_27_method_8_code 69 = .ok (.ior, 1) := by decide +kernel
theorem own_d_ranks_70 : decode prog_27_method_8_code 70 = .ok (.istore 7, 2) := by decide +kernel
theorem own_d_ranks_72 : decode prog_27_method_8_code 72 = .ok (.iinc 8 1, 3) := by decide +kernel
theorem own_d_ranks_75 : decode prog_27_method_8_code 75 = .ok (.goto (-44), 3) := by decide +kernel
theorem own_d_ranks_78 : decode prog_27_method_8_code 78 = .ok (.iload 7, 2) := by decide +kernel
theorem own_d_ranks_80 : decode prog_27_method_8_code 80 = .ok (.ireturn, 1) := by decide +kernel
theorem own_ef_ranks (m : MethodId) (q1 : Int64) (p2 : Int32) : entryFrame m #[(.long q1), (.int p2)] 9 = mkF m 0 #[.val (.long q1), .second, .val (.int p2), .unset, .unset, .unset, .unset, .unset, .unset] [] := by first | (simp [entryFrame, mkF, argsToLocals, Value.category]; done) | rfl
def Q_ranks (Z : State) (q1 : Int64) (p2 : Int32) (h0 : Heap) (n0 : Nat) (v : Option Value) (h : Heap) (L : List Loc) : Prop := v = some (.int (own_ranks (own_w q1) p2)) ∧ Fr n0 L ∧ h = h0
set_option maxRecDepth 65536 in
set_option maxHeartbeats 40000000 in
theorem rm_ranks (l : Launch) (Z : State) (a0 : Array Value) (hw : ∀ d ∈ tables_1, d.before a0 Z = true) (ws : List Jvm.Cond) (q1 : Int64) (p2 : Int32) (h0 : Heap) (n0 : Nat) (Z0 : n0 ≤ h0.size) (fS_CardBits_SUITS : Sta Z h0 "com/example/kitchen_table/kitchentable/engine/cards/CardBits" "SUITS" "I" (.int (4 : Int32))) (fS_CardBits_ACES : Sta Z h0 "com/example/kitchen_table/kitchentable/engine/cards/CardBits" "ACES" "J" (.long (15 : Int64))) :
    MetFree l (⟨"com/example/kitchen_table/kitchentable/engine/cards/CardBits", "ranks", "(JI)I"⟩ : MethodName) (head1 (Jvm.Cond.code (⟨"com/example/kitchen_table/kitchentable/engine/cards/CardBits", "ranks", "(JI)I"⟩ : MethodName) prog_27_method_8_code 9 (some .int) :: ws) ({ frames := 0, cells := 0, slots := 0, locals := 0 } : Room)) (fun a U => a = #[(.long q1), (.int p2)] ∧ Z.Warmed39 U.vm ∧ U.heap = h0) (fun _ _ _ _ _ => True) (fun _ U o U' => ∃ v L, o = .returned v ∧ Q_ranks Z q1 p2 h0 n0 v U'.heap L ∧ FrameEnd U o U' L ({ frames := 0, cells := 0, slots := 0, locals := 0 } : Room).cells ({ frames := 0, cells := 0, slots := 0, locals := 0 } : Room).slots) := by
  refine MetFree.of_bodySF (plainFor_of_name own_pn0) hisR ?_
  intro p e s m args below meth c s₁ Bd hml0 hP hK
  obtain ⟨rfl, hZ, hh⟩ := hP
  have hx := Bd.exec
  have hby := Bd.bytes
  have hml : c.maxLocals = 9 := hml0
  have hown : s.vm.findClass "com/example/kitchen_table/kitchentable/engine/cards/CardBits" = some m.cls := findClass_of_methodNamed Bd.named
  have hnm := (name_of_methodNamed Bd.named Bd.method).1
  have X0 : Stand p l e ({ frames := 0, cells := 0, slots := 0, locals := 0 } : Room) s m #[(.long q1), (.int p2)] below meth c s₁ [] 0 0 := Stand.of_body Bd
  have e0 : s₁.heap = h0 := by rw [← hh, Bd.state]; rfl
  have N0 := Fr.nil n0
  have pre0 : ∀ t, Steps p.tables e below (s₁.setTop (mkF m 0 #[.val (.long q1), .second, .val (.int p2), .unset, .unset, .unset, .unset, .unset, .unset] [])) t → Steps p.tables e below (s₁.setTop (entryFrame m #[(.long q1), (.int p2)] 9)) t := fun t k => castTop (own_ef_ranks m q1 p2) k
  have way1 : ∀ t, Steps p.tables e below (s₁.setTop (mkF m 9 #[.val (.long q1), .second, .val (.int p2), .unset, .unset, .unset, .unset, .unset, .unset] [(.long (q1 - (((q1.toUInt64 >>> ((1 : Int32) &&& 0x3f).toInt64.toUInt64).toInt64) &&& (6148914691236517205 : Int64))))])) t → Steps p.tables e below (s₁.setTop (entryFrame m #[(.long q1), (.int p2)] 9)) t := fun t k => pre0 t (by
    show Steps p.tables e below (s₁.setTop (mkF m 0 #[.val (.long q1), .second, .val (.int p2), .unset, .unset, .unset, .unset, .unset, .unset] [])) _
    refine XS.lloadN X0.here hx rfl (hb hby own_d_ranks_0) rfl ?_
    show Steps p.tables e below (s₁.setTop (mkF m 1 #[.val (.long q1), .second, .val (.int p2), .unset, .unset, .unset, .unset, .unset, .unset] [(.long q1)])) _
    refine XS.lloadN X0.here hx rfl (hb hby own_d_ranks_1) rfl ?_
    show Steps p.tables e below (s₁.setTop (mkF m 2 #[.val (.long q1), .second, .val (.int p2), .unset, .unset, .unset, .unset, .unset, .unset] [(.long q1), (.long q1)])) _
    refine XS.iconst X0.here hx rfl (hb hby own_d_ranks_2) ?_
    show Steps p.tables e below (s₁.setTop (mkF m 3 #[.val (.long q1), .second, .val (.int p2), .unset, .unset, .unset, .unset, .unset, .unset] [(.int (1 : Int32)), (.long q1), (.long q1)])) _
    refine XS.lushr X0.here hx rfl (hb hby own_d_ranks_3) rfl ?_
    show Steps p.tables e below (s₁.setTop (mkF m 4 #[.val (.long q1), .second, .val (.int p2), .unset, .unset, .unset, .unset, .unset, .unset] [(.long ((q1.toUInt64 >>> ((1 : Int32) &&& 0x3f).toInt64.toUInt64).toInt64)), (.long q1)])) _
    refine X0.ldc2Long hx hown (mvT hZ (hw _ (List.mem_of_getElem? (i := 5) rfl))) (g := (mkF m 4 #[.val (.long q1), .second, .val (.int p2), .unset, .unset, .unset, .unset, .unset, .unset] [(.long ((q1.toUInt64 >>> ((1 : Int32) &&& 0x3f).toInt64.toUInt64).toInt64)), (.long q1)])) rfl (hb hby own_d_ranks_4) _ ?_
    show Steps p.tables e below (s₁.setTop (mkF m 7 #[.val (.long q1), .second, .val (.int p2), .unset, .unset, .unset, .unset, .unset, .unset] [(.long (6148914691236517205 : Int64)), (.long ((q1.toUInt64 >>> ((1 : Int32) &&& 0x3f).toInt64.toUInt64).toInt64)), (.long q1)])) _
    refine XS.land X0.here hx rfl (hb hby own_d_ranks_7) rfl ?_
    show Steps p.tables e below (s₁.setTop (mkF m 8 #[.val (.long q1), .second, .val (.int p2), .unset, .unset, .unset, .unset, .unset, .unset] [(.long (((q1.toUInt64 >>> ((1 : Int32) &&& 0x3f).toInt64.toUInt64).toInt64) &&& (6148914691236517205 : Int64))), (.long q1)])) _
    refine XS.lsub X0.here hx rfl (hb hby own_d_ranks_8) rfl ?_
    exact k)
  obtain ⟨u2, hu2⟩ : ∃ z : Int64, z = (q1 - (((q1.toUInt64 >>> ((1 : Int32) &&& 0x3f).toInt64.toUInt64).toInt64) &&& (6148914691236517205 : Int64))) := ⟨_, rfl⟩
  rw [← hu2] at way1
  have way3 : ∀ t, Steps p.tables e below (s₁.setTop (mkF m 23 #[.val (.long q1), .second, .val (.int p2), .val (.long u2), .second, .unset, .unset, .unset, .unset] [(.long ((u2 &&& (3689348814741910323 : Int64)) + (((u2.toUInt64 >>> ((2 : Int32) &&& 0x3f).toInt64.toUInt64).toInt64) &&& (3689348814741910323 : Int64))))])) t → Steps p.tables e below (s₁.setTop (entryFrame m #[(.long q1), (.int p2)] 9)) t := fun t k => way1 t (by
    show Steps p.tables e below (s₁.setTop (mkF m 9 #[.val (.long q1), .second, .val (.int p2), .unset, .unset, .unset, .unset, .unset, .unset] [(.long u2)])) _
    refine XS.lstoreN X0.here hx rfl (hb hby own_d_ranks_9) rfl (l' := #[.val (.long q1), .second, .val (.int p2), .val (.long u2), .second, .unset, .unset, .unset, .unset]) rfl ?_
    show Steps p.tables e below (s₁.setTop (mkF m 10 #[.val (.long q1), .second, .val (.int p2), .val (.long u2), .second, .unset, .unset, .unset, .unset] [])) _
    refine XS.lloadN X0.here hx rfl (hb hby own_d_ranks_10) rfl ?_
    show Steps p.tables e below (s₁.setTop (mkF m 11 #[.val (.long q1), .second, .val (.int p2), .val (.long u2), .second, .unset, .unset, .unset, .unset] [(.long u2)])) _
    refine X0.ldc2Long hx hown (mvT hZ (hw _ (List.mem_of_getElem? (i := 6) rfl))) (g := (mkF m 11 #[.val (.long q1), .second, .val (.int p2), .val (.long u2), .second, .unset, .unset, .unset, .unset] [(.long u2)])) rfl (hb hby own_d_ranks_11) _ ?_
    show Steps p.tables e below (s₁.setTop (mkF m 14 #[.val (.long q1), .second, .val (.int p2), .val (.long u2), .second, .unset, .unset, .unset, .unset] [(.long (3689348814741910323 : Int64)), (.long u2)])) _
    refine XS.land X0.here hx rfl (hb hby own_d_ranks_14) rfl ?_
    show Steps p.tables e below (s₁.setTop (mkF m 15 #[.val (.long q1), .second, .val (.int p2), .val (.long u2), .second, .unset, .unset, .unset, .unset] [(.long (u2 &&& (3689348814741910323 : Int64)))])) _
    refine XS.lloadN X0.here hx rfl (hb hby own_d_ranks_15) rfl ?_
    show Steps p.tables e below (s₁.setTop (mkF m 16 #[.val (.long q1), .second, .val (.int p2), .val (.long u2), .second, .unset, .unset, .unset, .unset] [(.long u2), (.long (u2 &&& (3689348814741910323 : Int64)))])) _
    refine XS.iconst X0.here hx rfl (hb hby own_d_ranks_16) ?_
    show Steps p.tables e below (s₁.setTop (mkF m 17 #[.val (.long q1), .second, .val (.int p2), .val (.long u2), .second, .unset, .unset, .unset, .unset] [(.int (2 : Int32)), (.long u2), (.long (u2 &&& (3689348814741910323 : Int64)))])) _
    refine XS.lushr X0.here hx rfl (hb hby own_d_ranks_17) rfl ?_
    show Steps p.tables e below (s₁.setTop (mkF m 18 #[.val (.long q1), .second, .val (.int p2), .val (.long u2), .second, .unset, .unset, .unset, .unset] [(.long ((u2.toUInt64 >>> ((2 : Int32) &&& 0x3f).toInt64.toUInt64).toInt64)), (.long (u2 &&& (3689348814741910323 : Int64)))])) _
    refine X0.ldc2Long hx hown (mvT hZ (hw _ (List.mem_of_getElem? (i := 6) rfl))) (g := (mkF m 18 #[.val (.long q1), .second, .val (.int p2), .val (.long u2), .second, .unset, .unset, .unset, .unset] [(.long ((u2.toUInt64 >>> ((2 : Int32) &&& 0x3f).toInt64.toUInt64).toInt64)), (.long (u2 &&& (3689348814741910323 : Int64)))])) rfl (hb hby own_d_ranks_18) _ ?_
    show Steps p.tables e below (s₁.setTop (mkF m 21 #[.val (.long q1), .second, .val (.int p2), .val (.long u2), .second, .unset, .unset, .unset, .unset] [(.long (3689348814741910323 : Int64)), (.long ((u2.toUInt64 >>> ((2 : Int32) &&& 0x3f).toInt64.toUInt64).toInt64)), (.long (u2 &&& (3689348814741910323 : Int64)))])) _
    refine XS.land X0.here hx rfl (hb hby own_d_ranks_21) rfl ?_
    show Steps p.tables e below (s₁.setTop (mkF m 22 #[.val (.long q1), .second, .val (.int p2), .val (.long u2), .second, .unset, .unset, .unset, .unset] [(.long (((u2.toUInt64 >>> ((2 : Int32) &&& 0x3f).toInt64.toUInt64).toInt64) &&& (3689348814741910323 : Int64))), (.long (u2 &&& (3689348814741910323 : Int64)))])) _
    refine XS.ladd X0.here hx rfl (hb hby own_d_ranks_22) rfl ?_
    exact k)
  obtain ⟨u4, hu4⟩ : ∃ z : Int64, z = ((u2 &&& (3689348814741910323 : Int64)) + (((u2.toUInt64 >>> ((2 : Int32) &&& 0x3f).toInt64.toUInt64).toInt64) &&& (3689348814741910323 : Int64))) := ⟨_, rfl⟩
  rw [← hu4] at way3
  obtain ⟨T5, X5, e5, st5⟩ := getS2 X0 hx hZ hown (host := "") (Or.inl (hw _ (List.mem_of_getElem? (i := 7) rfl))) Via.refl e0 fS_CardBits_SUITS (g := (mkF m 33 #[.val (.long q1), .second, .val (.int p2), .val (.long u2), .second, .val (.long u4), .second, .val (.int (0 : Int32)), .val (.int (1 : Int32))] [(.int (1 : Int32))])) rfl (hb hby own_d_ranks_33)
  obtain ⟨T6, X6, e6, st6⟩ := getS2 X5 hx hZ hown (host := "") (Or.inl (hw _ (List.mem_of_getElem? (i := 7) rfl))) Via.refl e5 fS_CardBits_SUITS (g := (mkF m 48 #[.val (.long q1), .second, .val (.int p2), .val (.long u2), .second, .val (.long u4), .second, .val (.int (0 : Int32)), .val (.int (1 : Int32))] [(.int (0 : Int32)), (.long u4)])) rfl (hb hby own_d_ranks_48)
  obtain ⟨T7, X7, e7, st7⟩ := getS2 X6 hx hZ hown (host := "") (Or.inl (hw _ (List.mem_of_getElem? (i := 9) rfl))) Via.refl e6 fS_CardBits_ACES (g := (mkF m 53 #[.val (.long q1), .second, .val (.int p2), .val (.long u2), .second, .val (.long u4), .second, .val (.int (0 : Int32)), .val (.int (1 : Int32))] [(.long ((u4.toUInt64 >>> ((0 : Int32) &&& 0x3f).toInt64.toUInt64).toInt64))])) rfl (hb hby own_d_ranks_53)
  have way8 : ∀ t, Steps p.tables e below (T7.setTop (mkF m 60 #[.val (.long q1), .second, .val (.int p2), .val (.long u2), .second, .val (.long u4), .second, .val (.int (0 : Int32)), .val (.int (1 : Int32))] [(.int (lcmpW (((u4.toUInt64 >>> ((0 : Int32) &&& 0x3f).toInt64.toUInt64).toInt64) &&& (15 : Int64)) (p2.toInt64)))])) t → Steps p.tables e below (s₁.setTop (entryFrame m #[(.long q1), (.int p2)] 9)) t := fun t k => way3 t (by
    show Steps p.tables e below (s₁.setTop (mkF m 23 #[.val (.long q1), .second, .val (.int p2), .val (.long u2), .second, .unset, .unset, .unset, .unset] [(.long u4)])) _
    refine XS.lstore X0.here hx rfl (hb hby own_d_ranks_23) rfl (l' := #[.val (.long q1), .second, .val (.int p2), .val (.long u2), .second, .val (.long u4), .second, .unset, .unset]) rfl ?_
    show Steps p.tables e below (s₁.setTop (mkF m 25 #[.val (.long q1), .second, .val (.int p2), .val (.long u2), .second, .val (.long u4), .second, .unset, .unset] [])) _
    refine XS.iconst X0.here hx rfl (hb hby own_d_ranks_25) ?_
    show Steps p.tables e below (s₁.setTop (mkF m 26 #[.val (.long q1), .second, .val (.int p2), .val (.long u2), .second, .val (.long u4), .second, .unset, .unset] [(.int (0 : Int32))])) _
    refine XS.istore X0.here hx rfl (hb hby own_d_ranks_26) rfl (l' := #[.val (.long q1), .second, .val (.int p2), .val (.long u2), .second, .val (.long u4), .second, .val (.int (0 : Int32)), .unset]) rfl ?_
    show Steps p.tables e below (s₁.setTop (mkF m 28 #[.val (.long q1), .second, .val (.int p2), .val (.long u2), .second, .val (.long u4), .second, .val (.int (0 : Int32)), .unset] [])) _
    refine XS.iconst X0.here hx rfl (hb hby own_d_ranks_28) ?_
    show Steps p.tables e below (s₁.setTop (mkF m 29 #[.val (.long q1), .second, .val (.int p2), .val (.long u2), .second, .val (.long u4), .second, .val (.int (0 : Int32)), .unset] [(.int (1 : Int32))])) _
    refine XS.istore X0.here hx rfl (hb hby own_d_ranks_29) rfl (l' := #[.val (.long q1), .second, .val (.int p2), .val (.long u2), .second, .val (.long u4), .second, .val (.int (0 : Int32)), .val (.int (1 : Int32))]) rfl ?_
    show Steps p.tables e below (s₁.setTop (mkF m 31 #[.val (.long q1), .second, .val (.int p2), .val (.long u2), .second, .val (.long u4), .second, .val (.int (0 : Int32)), .val (.int (1 : Int32))] [])) _
    refine XS.iload X0.here hx rfl (hb hby own_d_ranks_31) rfl ?_
    show Steps p.tables e below (s₁.setTop (mkF m 33 #[.val (.long q1), .second, .val (.int p2), .val (.long u2), .second, .val (.long u4), .second, .val (.int (0 : Int32)), .val (.int (1 : Int32))] [(.int (1 : Int32))])) _
    refine st5 _ ?_
    show Steps p.tables e below (T5.setTop (mkF m 36 #[.val (.long q1), .second, .val (.int p2), .val (.long u2), .second, .val (.long u4), .second, .val (.int (0 : Int32)), .val (.int (1 : Int32))] [(.int (4 : Int32)), (.int (1 : Int32))])) _
    refine XS.imul X5.here hx rfl (hb hby own_d_ranks_36) rfl ?_
    show Steps p.tables e below (T5.setTop (mkF m 37 #[.val (.long q1), .second, .val (.int p2), .val (.long u2), .second, .val (.long u4), .second, .val (.int (0 : Int32)), .val (.int (1 : Int32))] [(.int (4 : Int32))])) _
    refine XS.bipush X5.here hx rfl (hb hby own_d_ranks_37) ?_
    show Steps p.tables e below (T5.setTop (mkF m 39 #[.val (.long q1), .second, .val (.int p2), .val (.long u2), .second, .val (.long u4), .second, .val (.int (0 : Int32)), .val (.int (1 : Int32))] [(.int (52 : Int32)), (.int (4 : Int32))])) _
    refine XS.icmpNo X5.here hx rfl (hb hby own_d_ranks_39) rfl (flt (by decide)).2.2.1 ?_
    show Steps p.tables e below (T5.setTop (mkF m 42 #[.val (.long q1), .second, .val (.int p2), .val (.long u2), .second, .val (.long u4), .second, .val (.int (0 : Int32)), .val (.int (1 : Int32))] [])) _
    refine XS.lload X5.here hx rfl (hb hby own_d_ranks_42) rfl ?_
    show Steps p.tables e below (T5.setTop (mkF m 44 #[.val (.long q1), .second, .val (.int p2), .val (.long u2), .second, .val (.long u4), .second, .val (.int (0 : Int32)), .val (.int (1 : Int32))] [(.long u4)])) _
    refine XS.iload X5.here hx rfl (hb hby own_d_ranks_44) rfl ?_
    show Steps p.tables e below (T5.setTop (mkF m 46 #[.val (.long q1), .second, .val (.int p2), .val (.long u2), .second, .val (.long u4), .second, .val (.int (0 : Int32)), .val (.int (1 : Int32))] [(.int (1 : Int32)), (.long u4)])) _
    refine XS.iconst X5.here hx rfl (hb hby own_d_ranks_46) ?_
    show Steps p.tables e below (T5.setTop (mkF m 47 #[.val (.long q1), .second, .val (.int p2), .val (.long u2), .second, .val (.long u4), .second, .val (.int (0 : Int32)), .val (.int (1 : Int32))] [(.int (1 : Int32)), (.int (1 : Int32)), (.long u4)])) _
    refine XS.isub X5.here hx rfl (hb hby own_d_ranks_47) rfl ?_
    show Steps p.tables e below (T5.setTop (mkF m 48 #[.val (.long q1), .second, .val (.int p2), .val (.long u2), .second, .val (.long u4), .second, .val (.int (0 : Int32)), .val (.int (1 : Int32))] [(.int (0 : Int32)), (.long u4)])) _
    refine st6 _ ?_
    show Steps p.tables e below (T6.setTop (mkF m 51 #[.val (.long q1), .second, .val (.int p2), .val (.long u2), .second, .val (.long u4), .second, .val (.int (0 : Int32)), .val (.int (1 : Int32))] [(.int (4 : Int32)), (.int (0 : Int32)), (.long u4)])) _
    refine XS.imul X6.here hx rfl (hb hby own_d_ranks_51) rfl ?_
    show Steps p.tables e below (T6.setTop (mkF m 52 #[.val (.long q1), .second, .val (.int p2), .val (.long u2), .second, .val (.long u4), .second, .val (.int (0 : Int32)), .val (.int (1 : Int32))] [(.int (0 : Int32)), (.long u4)])) _
    refine XS.lushr X6.here hx rfl (hb hby own_d_ranks_52) rfl ?_
    show Steps p.tables e below (T6.setTop (mkF m 53 #[.val (.long q1), .second, .val (.int p2), .val (.long u2), .second, .val (.long u4), .second, .val (.int (0 : Int32)), .val (.int (1 : Int32))] [(.long ((u4.toUInt64 >>> ((0 : Int32) &&& 0x3f).toInt64.toUInt64).toInt64))])) _
    refine st7 _ ?_
    show Steps p.tables e below (T7.setTop (mkF m 56 #[.val (.long q1), .second, .val (.int p2), .val (.long u2), .second, .val (.long u4), .second, .val (.int (0 : Int32)), .val (.int (1 : Int32))] [(.long (15 : Int64)), (.long ((u4.toUInt64 >>> ((0 : Int32) &&& 0x3f).toInt64.toUInt64).toInt64))])) _
    refine XS.land X7.here hx rfl (hb hby own_d_ranks_56) rfl ?_
    show Steps p.tables e below (T7.setTop (mkF m 57 #[.val (.long q1), .second, .val (.int p2), .val (.long u2), .second, .val (.long u4), .second, .val (.int (0 : Int32)), .val (.int (1 : Int32))] [(.long (((u4.toUInt64 >>> ((0 : Int32) &&& 0x3f).toInt64.toUInt64).toInt64) &&& (15 : Int64)))])) _
    refine XS.iloadN X7.here hx rfl (hb hby own_d_ranks_57) rfl ?_
    show Steps p.tables e below (T7.setTop (mkF m 58 #[.val (.long q1), .second, .val (.int p2), .val (.long u2), .second, .val (.long u4), .second, .val (.int (0 : Int32)), .val (.int (1 : Int32))] [(.int p2), (.long (((u4.toUInt64 >>> ((0 : Int32) &&& 0x3f).toInt64.toUInt64).toInt64) &&& (15 : Int64)))])) _
    refine XS.i2l X7.here hx rfl (hb hby own_d_ranks_58) rfl ?_
    show Steps p.tables e below (T7.setTop (mkF m 59 #[.val (.long q1), .second, .val (.int p2), .val (.long u2), .second, .val (.long u4), .second, .val (.int (0 : Int32)), .val (.int (1 : Int32))] [(.long (p2.toInt64)), (.long (((u4.toUInt64 >>> ((0 : Int32) &&& 0x3f).toInt64.toUInt64).toInt64) &&& (15 : Int64)))])) _
    refine XS.lcmp X7.here hx rfl (hb hby own_d_ranks_59) rfl ?_
    exact k)
  obtain ⟨v10, hv10⟩ : ∃ z : Int32, z = (if (((u4.toUInt64 >>> ((0 : Int32) &&& 0x3f).toInt64.toUInt64).toInt64) &&& (15 : Int64)) < (p2.toInt64) then (0 : Int32) else ((0 : Int32) ||| ((1 : Int32) <<< ((1 : Int32) &&& 31)))) := ⟨_, rfl⟩
  have way11 : ∀ t, Steps p.tables e below (T7.setTop (mkF m 72 #[.val (.long q1), .second, .val (.int p2), .val (.long u2), .second, .val (.long u4), .second, .val (.int v10), .val (.int (1 : Int32))] [])) t → Steps p.tables e below (s₁.setTop (entryFrame m #[(.long q1), (.int p2)] 9)) t := fun t k => way8 t (by
    by_cases hj9 : (((u4.toUInt64 >>> ((0 : Int32) &&& 0x3f).toInt64.toUInt64).toInt64) &&& (15 : Int64)) < (p2.toInt64)
    ·
      show Steps p.tables e below (T7.setTop (mkF m 60 #[.val (.long q1), .second, .val (.int p2), .val (.long u2), .second, .val (.long u4), .second, .val (.int (0 : Int32)), .val (.int (1 : Int32))] [(.int (lcmpW (((u4.toUInt64 >>> ((0 : Int32) &&& 0x3f).toInt64.toUInt64).toInt64) &&& (15 : Int64)) (p2.toInt64)))])) _
      refine XS.ifYes X7.here hx rfl (pc0 := 60) (pc' := 72) rfl (hb hby own_d_ranks_60) rfl ((if0 _ _).trans (tlt ((lw_lt _ _).mpr hj9)).1) (by decide) (by decide) ?_
      simp only [hv10, if_pos hj9] at k
      exact k
    ·
      show Steps p.tables e below (T7.setTop (mkF m 60 #[.val (.long q1), .second, .val (.int p2), .val (.long u2), .second, .val (.long u4), .second, .val (.int (0 : Int32)), .val (.int (1 : Int32))] [(.int (lcmpW (((u4.toUInt64 >>> ((0 : Int32) &&& 0x3f).toInt64.toUInt64).toInt64) &&& (15 : Int64)) (p2.toInt64)))])) _
      refine XS.ifNo X7.here hx rfl (hb hby own_d_ranks_60) rfl ((if0 _ _).trans (flt (fun q => hj9 ((lw_lt _ _).mp q))).1) ?_
      show Steps p.tables e below (T7.setTop (mkF m 63 #[.val (.long q1), .second, .val (.int p2), .val (.long u2), .second, .val (.long u4), .second, .val (.int (0 : Int32)), .val (.int (1 : Int32))] [])) _
      refine XS.iload X7.here hx rfl (hb hby own_d_ranks_63) rfl ?_
      show Steps p.tables e below (T7.setTop (mkF m 65 #[.val (.long q1), .second, .val (.int p2), .val (.long u2), .second, .val (.long u4), .second, .val (.int (0 : Int32)), .val (.int (1 : Int32))] [(.int (0 : Int32))])) _
      refine XS.iconst X7.here hx rfl (hb hby own_d_ranks_65) ?_
      show Steps p.tables e below (T7.setTop (mkF m 66 #[.val (.long q1), .second, .val (.int p2), .val (.long u2), .second, .val (.long u4), .second, .val (.int (0 : Int32)), .val (.int (1 : Int32))] [(.int (1 : Int32)), (.int (0 : Int32))])) _
      refine XS.iload X7.here hx rfl (hb hby own_d_ranks_66) rfl ?_
      show Steps p.tables e below (T7.setTop (mkF m 68 #[.val (.long q1), .second, .val (.int p2), .val (.long u2), .second, .val (.long u4), .second, .val (.int (0 : Int32)), .val (.int (1 : Int32))] [(.int (1 : Int32)), (.int (1 : Int32)), (.int (0 : Int32))])) _
      refine XS.ishl X7.here hx rfl (hb hby own_d_ranks_68) rfl ?_
      show Steps p.tables e below (T7.setTop (mkF m 69 #[.val (.long q1), .second, .val (.int p2), .val (.long u2), .second, .val (.long u4), .second, .val (.int (0 : Int32)), .val (.int (1 : Int32))] [(.int ((1 : Int32) <<< ((1 : Int32) &&& 31))), (.int (0 : Int32))])) _
      refine XS.ior X7.here hx rfl (hb hby own_d_ranks_69) rfl ?_
      show Steps p.tables e below (T7.setTop (mkF m 70 #[.val (.long q1), .second, .val (.int p2), .val (.long u2), .second, .val (.long u4), .second, .val (.int (0 : Int32)), .val (.int (1 : Int32))] [(.int ((0 : Int32) ||| ((1 : Int32) <<< ((1 : Int32) &&& 31))))])) _
      refine XS.istore X7.here hx rfl (hb hby own_d_ranks_70) rfl (l' := #[.val (.long q1), .second, .val (.int p2), .val (.long u2), .second, .val (.long u4), .second, .val (.int ((0 : Int32) ||| ((1 : Int32) <<< ((1 : Int32) &&& 31)))), .val (.int (1 : Int32))]) rfl ?_
      simp only [hv10, if_neg hj9] at k
      exact k)
  have hs12 : v10 = own_step u4 p2 (1 : Int32) (0 : Int32) (0 : Int32) := hv10
  obtain ⟨T13, X13, e13, st13⟩ := getS2 X7 hx hZ hown (host := "") (Or.inl (hw _ (List.mem_of_getElem? (i := 7) rfl))) Via.refl e7 fS_CardBits_SUITS (g := (mkF m 33 #[.val (.long q1), .second, .val (.int p2), .val (.long u2), .second, .val (.long u4), .second, .val (.int v10), .val (.int (2 : Int32))] [(.int (2 : Int32))])) rfl (hb hby own_d_ranks_33)
  obtain ⟨T14, X14, e14, st14⟩ := getS2 X13 hx hZ hown (host := "") (Or.inl (hw _ (List.mem_of_getElem? (i := 7) rfl))) Via.refl e13 fS_CardBits_SUITS (g := (mkF m 48 #[.val (.long q1), .second, .val (.int p2), .val (.long u2), .second, .val (.long u4), .second, .val (.int v10), .val (.int (2 : Int32))] [(.int (1 : Int32)), (.long u4)])) rfl (hb hby own_d_ranks_48)
  obtain ⟨T15, X15, e15, st15⟩ := getS2 X14 hx hZ hown (host := "") (Or.inl (hw _ (List.mem_of_getElem? (i := 9) rfl))) Via.refl e14 fS_CardBits_ACES (g := (mkF m 53 #[.val (.long q1), .second, .val (.int p2), .val (.long u2), .second, .val (.long u4), .second, .val (.int v10), .val (.int (2 : Int32))] [(.long ((u4.toUInt64 >>> ((4 : Int32) &&& 0x3f).toInt64.toUInt64).toInt64))])) rfl (hb hby own_d_ranks_53)
  have way16 : ∀ t, Steps p.tables e below (T15.setTop (mkF m 60 #[.val (.long q1), .second, .val (.int p2), .val (.long u2), .second, .val (.long u4), .second, .val (.int v10), .val (.int (2 : Int32))] [(.int (lcmpW (((u4.toUInt64 >>> ((4 : Int32) &&& 0x3f).toInt64.toUInt64).toInt64) &&& (15 : Int64)) (p2.toInt64)))])) t → Steps p.tables e below (s₁.setTop (entryFrame m #[(.long q1), (.int p2)] 9)) t := fun t k => way11 t (by
    show Steps p.tables e below (T7.setTop (mkF m 72 #[.val (.long q1), .second, .val (.int p2), .val (.long u2), .second, .val (.long u4), .second, .val (.int v10), .val (.int (1 : Int32))] [])) _
    refine XS.iinc X7.here hx rfl (hb hby own_d_ranks_72) rfl (l' := #[.val (.long q1), .second, .val (.int p2), .val (.long u2), .second, .val (.long u4), .second, .val (.int v10), .val (.int (2 : Int32))]) rfl ?_
    show Steps p.tables e below (T7.setTop (mkF m 75 #[.val (.long q1), .second, .val (.int p2), .val (.long u2), .second, .val (.long u4), .second, .val (.int v10), .val (.int (2 : Int32))] [])) _
    refine XS.goto X7.here hx rfl (pc0 := 75) (pc' := 31) rfl (hb hby own_d_ranks_75) (by decide) (by decide) ?_
    show Steps p.tables e below (T7.setTop (mkF m 31 #[.val (.long q1), .second, .val (.int p2), .val (.long u2), .second, .val (.long u4), .second, .val (.int v10), .val (.int (2 : Int32))] [])) _
    refine XS.iload X7.here hx rfl (hb hby own_d_ranks_31) rfl ?_
    show Steps p.tables e below (T7.setTop (mkF m 33 #[.val (.long q1), .second, .val (.int p2), .val (.long u2), .second, .val (.long u4), .second, .val (.int v10), .val (.int (2 : Int32))] [(.int (2 : Int32))])) _
    refine st13 _ ?_
    show Steps p.tables e below (T13.setTop (mkF m 36 #[.val (.long q1), .second, .val (.int p2), .val (.long u2), .second, .val (.long u4), .second, .val (.int v10), .val (.int (2 : Int32))] [(.int (4 : Int32)), (.int (2 : Int32))])) _
    refine XS.imul X13.here hx rfl (hb hby own_d_ranks_36) rfl ?_
    show Steps p.tables e below (T13.setTop (mkF m 37 #[.val (.long q1), .second, .val (.int p2), .val (.long u2), .second, .val (.long u4), .second, .val (.int v10), .val (.int (2 : Int32))] [(.int (8 : Int32))])) _
    refine XS.bipush X13.here hx rfl (hb hby own_d_ranks_37) ?_
    show Steps p.tables e below (T13.setTop (mkF m 39 #[.val (.long q1), .second, .val (.int p2), .val (.long u2), .second, .val (.long u4), .second, .val (.int v10), .val (.int (2 : Int32))] [(.int (52 : Int32)), (.int (8 : Int32))])) _
    refine XS.icmpNo X13.here hx rfl (hb hby own_d_ranks_39) rfl (flt (by decide)).2.2.1 ?_
    show Steps p.tables e below (T13.setTop (mkF m 42 #[.val (.long q1), .second, .val (.int p2), .val (.long u2), .second, .val (.long u4), .second, .val (.int v10), .val (.int (2 : Int32))] [])) _
    refine XS.lload X13.here hx rfl (hb hby own_d_ranks_42) rfl ?_
    show Steps p.tables e below (T13.setTop (mkF m 44 #[.val (.long q1), .second, .val (.int p2), .val (.long u2), .second, .val (.long u4), .second, .val (.int v10), .val (.int (2 : Int32))] [(.long u4)])) _
    refine XS.iload X13.here hx rfl (hb hby own_d_ranks_44) rfl ?_
    show Steps p.tables e below (T13.setTop (mkF m 46 #[.val (.long q1), .second, .val (.int p2), .val (.long u2), .second, .val (.long u4), .second, .val (.int v10), .val (.int (2 : Int32))] [(.int (2 : Int32)), (.long u4)])) _
    refine XS.iconst X13.here hx rfl (hb hby own_d_ranks_46) ?_
    show Steps p.tables e below (T13.setTop (mkF m 47 #[.val (.long q1), .second, .val (.int p2), .val (.long u2), .second, .val (.long u4), .second, .val (.int v10), .val (.int (2 : Int32))] [(.int (1 : Int32)), (.int (2 : Int32)), (.long u4)])) _
    refine XS.isub X13.here hx rfl (hb hby own_d_ranks_47) rfl ?_
    show Steps p.tables e below (T13.setTop (mkF m 48 #[.val (.long q1), .second, .val (.int p2), .val (.long u2), .second, .val (.long u4), .second, .val (.int v10), .val (.int (2 : Int32))] [(.int (1 : Int32)), (.long u4)])) _
    refine st14 _ ?_
    show Steps p.tables e below (T14.setTop (mkF m 51 #[.val (.long q1), .second, .val (.int p2), .val (.long u2), .second, .val (.long u4), .second, .val (.int v10), .val (.int (2 : Int32))] [(.int (4 : Int32)), (.int (1 : Int32)), (.long u4)])) _
    refine XS.imul X14.here hx rfl (hb hby own_d_ranks_51) rfl ?_
    show Steps p.tables e below (T14.setTop (mkF m 52 #[.val (.long q1), .second, .val (.int p2), .val (.long u2), .second, .val (.long u4), .second, .val (.int v10), .val (.int (2 : Int32))] [(.int (4 : Int32)), (.long u4)])) _
    refine XS.lushr X14.here hx rfl (hb hby own_d_ranks_52) rfl ?_
    show Steps p.tables e below (T14.setTop (mkF m 53 #[.val (.long q1), .second, .val (.int p2), .val (.long u2), .second, .val (.long u4), .second, .val (.int v10), .val (.int (2 : Int32))] [(.long ((u4.toUInt64 >>> ((4 : Int32) &&& 0x3f).toInt64.toUInt64).toInt64))])) _
    refine st15 _ ?_
    show Steps p.tables e below (T15.setTop (mkF m 56 #[.val (.long q1), .second, .val (.int p2), .val (.long u2), .second, .val (.long u4), .second, .val (.int v10), .val (.int (2 : Int32))] [(.long (15 : Int64)), (.long ((u4.toUInt64 >>> ((4 : Int32) &&& 0x3f).toInt64.toUInt64).toInt64))])) _
    refine XS.land X15.here hx rfl (hb hby own_d_ranks_56) rfl ?_
    show Steps p.tables e below (T15.setTop (mkF m 57 #[.val (.long q1), .second, .val (.int p2), .val (.long u2), .second, .val (.long u4), .second, .val (.int v10), .val (.int (2 : Int32))] [(.long (((u4.toUInt64 >>> ((4 : Int32) &&& 0x3f).toInt64.toUInt64).toInt64) &&& (15 : Int64)))])) _
    refine XS.iloadN X15.here hx rfl (hb hby own_d_ranks_57) rfl ?_
    show Steps p.tables e below (T15.setTop (mkF m 58 #[.val (.long q1), .second, .val (.int p2), .val (.long u2), .second, .val (.long u4), .second, .val (.int v10), .val (.int (2 : Int32))] [(.int p2), (.long (((u4.toUInt64 >>> ((4 : Int32) &&& 0x3f).toInt64.toUInt64).toInt64) &&& (15 : Int64)))])) _
    refine XS.i2l X15.here hx rfl (hb hby own_d_ranks_58) rfl ?_
    show Steps p.tables e below (T15.setTop (mkF m 59 #[.val (.long q1), .second, .val (.int p2), .val (.long u2), .second, .val (.long u4), .second, .val (.int v10), .val (.int (2 : Int32))] [(.long (p2.toInt64)), (.long (((u4.toUInt64 >>> ((4 : Int32) &&& 0x3f).toInt64.toUInt64).toInt64) &&& (15 : Int64)))])) _
    refine XS.lcmp X15.here hx rfl (hb hby own_d_ranks_59) rfl ?_
    exact k)
  obtain ⟨v18, hv18⟩ : ∃ z : Int32, z = (if (((u4.toUInt64 >>> ((4 : Int32) &&& 0x3f).toInt64.toUInt64).toInt64) &&& (15 : Int64)) < (p2.toInt64) then v10 else (v10 ||| ((1 : Int32) <<< ((2 : Int32) &&& 31)))) := ⟨_, rfl⟩
  have way19 : ∀ t, Steps p.tables e below (T15.setTop (mkF m 72 #[.val (.long q1), .second, .val (.int p2), .val (.long u2), .second, .val (.long u4), .second, .val (.int v18), .val (.int (2 : Int32))] [])) t → Steps p.tables e below (s₁.setTop (entryFrame m #[(.long q1), (.int p2)] 9)) t := fun t k => way16 t (by
    by_cases hj17 : (((u4.toUInt64 >>> ((4 : Int32) &&& 0x3f).toInt64.toUInt64).toInt64) &&& (15 : Int64)) < (p2.toInt64)
    ·
      show Steps p.tables e below (T15.setTop (mkF m 60 #[.val (.long q1), .second, .val (.int p2), .val (.long u2), .second, .val (.long u4), .second, .val (.int v10), .val (.int (2 : Int32))] [(.int (lcmpW (((u4.toUInt64 >>> ((4 : Int32) &&& 0x3f).toInt64.toUInt64).toInt64) &&& (15 : Int64)) (p2.toInt64)))])) _
      refine XS.ifYes X15.here hx rfl (pc0 := 60) (pc' := 72) rfl (hb hby own_d_ranks_60) rfl ((if0 _ _).trans (tlt ((lw_lt _ _).mpr hj17)).1) (by decide) (by decide) ?_
      simp only [hv18, if_pos hj17] at k
      exact k
    ·
      show Steps p.tables e below (T15.setTop (mkF m 60 #[.val (.long q1), .second, .val (.int p2), .val (.long u2), .second, .val (.long u4), .second, .val (.int v10), .val (.int (2 : Int32))] [(.int (lcmpW (((u4.toUInt64 >>> ((4 : Int32) &&& 0x3f).toInt64.toUInt64).toInt64) &&& (15 : Int64)) (p2.toInt64)))])) _
      refine XS.ifNo X15.here hx rfl (hb hby own_d_ranks_60) rfl ((if0 _ _).trans (flt (fun q => hj17 ((lw_lt _ _).mp q))).1) ?_
      show Steps p.tables e below (T15.setTop (mkF m 63 #[.val (.long q1), .second, .val (.int p2), .val (.long u2), .second, .val (.long u4), .second, .val (.int v10), .val (.int (2 : Int32))] [])) _
      refine XS.iload X15.here hx rfl (hb hby own_d_ranks_63) rfl ?_
      show Steps p.tables e below (T15.setTop (mkF m 65 #[.val (.long q1), .second, .val (.int p2), .val (.long u2), .second, .val (.long u4), .second, .val (.int v10), .val (.int (2 : Int32))] [(.int v10)])) _
      refine XS.iconst X15.here hx rfl (hb hby own_d_ranks_65) ?_
      show Steps p.tables e below (T15.setTop (mkF m 66 #[.val (.long q1), .second, .val (.int p2), .val (.long u2), .second, .val (.long u4), .second, .val (.int v10), .val (.int (2 : Int32))] [(.int (1 : Int32)), (.int v10)])) _
      refine XS.iload X15.here hx rfl (hb hby own_d_ranks_66) rfl ?_
      show Steps p.tables e below (T15.setTop (mkF m 68 #[.val (.long q1), .second, .val (.int p2), .val (.long u2), .second, .val (.long u4), .second, .val (.int v10), .val (.int (2 : Int32))] [(.int (2 : Int32)), (.int (1 : Int32)), (.int v10)])) _
      refine XS.ishl X15.here hx rfl (hb hby own_d_ranks_68) rfl ?_
      show Steps p.tables e below (T15.setTop (mkF m 69 #[.val (.long q1), .second, .val (.int p2), .val (.long u2), .second, .val (.long u4), .second, .val (.int v10), .val (.int (2 : Int32))] [(.int ((1 : Int32) <<< ((2 : Int32) &&& 31))), (.int v10)])) _
      refine XS.ior X15.here hx rfl (hb hby own_d_ranks_69) rfl ?_
      show Steps p.tables e below (T15.setTop (mkF m 70 #[.val (.long q1), .second, .val (.int p2), .val (.long u2), .second, .val (.long u4), .second, .val (.int v10), .val (.int (2 : Int32))] [(.int (v10 ||| ((1 : Int32) <<< ((2 : Int32) &&& 31))))])) _
      refine XS.istore X15.here hx rfl (hb hby own_d_ranks_70) rfl (l' := #[.val (.long q1), .second, .val (.int p2), .val (.long u2), .second, .val (.long u4), .second, .val (.int (v10 ||| ((1 : Int32) <<< ((2 : Int32) &&& 31)))), .val (.int (2 : Int32))]) rfl ?_
      simp only [hv18, if_neg hj17] at k
      exact k)
  have hs20 : v18 = own_step u4 p2 (2 : Int32) (4 : Int32) v10 := hv18
  obtain ⟨T21, X21, e21, st21⟩ := getS2 X15 hx hZ hown (host := "") (Or.inl (hw _ (List.mem_of_getElem? (i := 7) rfl))) Via.refl e15 fS_CardBits_SUITS (g := (mkF m 33 #[.val (.long q1), .second, .val (.int p2), .val (.long u2), .second, .val (.long u4), .second, .val (.int v18), .val (.int (3 : Int32))] [(.int (3 : Int32))])) rfl (hb hby own_d_ranks_33)
  obtain ⟨T22, X22, e22, st22⟩ := getS2 X21 hx hZ hown (host := "") (Or.inl (hw _ (List.mem_of_getElem? (i := 7) rfl))) Via.refl e21 fS_CardBits_SUITS (g := (mkF m 48 #[.val (.long q1), .second, .val (.int p2), .val (.long u2), .second, .val (.long u4), .second, .val (.int v18), .val (.int (3 : Int32))] [(.int (2 : Int32)), (.long u4)])) rfl (hb hby own_d_ranks_48)
  obtain ⟨T23, X23, e23, st23⟩ := getS2 X22 hx hZ hown (host := "") (Or.inl (hw _ (List.mem_of_getElem? (i := 9) rfl))) Via.refl e22 fS_CardBits_ACES (g := (mkF m 53 #[.val (.long q1), .second, .val (.int p2), .val (.long u2), .second, .val (.long u4), .second, .val (.int v18), .val (.int (3 : Int32))] [(.long ((u4.toUInt64 >>> ((8 : Int32) &&& 0x3f).toInt64.toUInt64).toInt64))])) rfl (hb hby own_d_ranks_53)
  have way24 : ∀ t, Steps p.tables e below (T23.setTop (mkF m 60 #[.val (.long q1), .second, .val (.int p2), .val (.long u2), .second, .val (.long u4), .second, .val (.int v18), .val (.int (3 : Int32))] [(.int (lcmpW (((u4.toUInt64 >>> ((8 : Int32) &&& 0x3f).toInt64.toUInt64).toInt64) &&& (15 : Int64)) (p2.toInt64)))])) t → Steps p.tables e below (s₁.setTop (entryFrame m #[(.long q1), (.int p2)] 9)) t := fun t k => way19 t (by
    show Steps p.tables e below (T15.setTop (mkF m 72 #[.val (.long q1), .second, .val (.int p2), .val (.long u2), .second, .val (.long u4), .second, .val (.int v18), .val (.int (2 : Int32))] [])) _
    refine XS.iinc X15.here hx rfl (hb hby own_d_ranks_72) rfl (l' := #[.val (.long q1), .second, .val (.int p2), .val (.long u2), .second, .val (.long u4), .second, .val (.int v18), .val (.int (3 : Int32))]) rfl ?_
    show Steps p.tables e below (T15.setTop (mkF m 75 #[.val (.long q1), .second, .val (.int p2), .val (.long u2), .second, .val (.long u4), .second, .val (.int v18), .val (.int (3 : Int32))] [])) _
    refine XS.goto X15.here hx rfl (pc0 := 75) (pc' := 31) rfl (hb hby own_d_ranks_75) (by decide) (by decide) ?_
    show Steps p.tables e below (T15.setTop (mkF m 31 #[.val (.long q1), .second, .val (.int p2), .val (.long u2), .second, .val (.long u4), .second, .val (.int v18), .val (.int (3 : Int32))] [])) _
    refine XS.iload X15.here hx rfl (hb hby own_d_ranks_31) rfl ?_
    show Steps p.tables e below (T15.setTop (mkF m 33 #[.val (.long q1), .second, .val (.int p2), .val (.long u2), .second, .val (.long u4), .second, .val (.int v18), .val (.int (3 : Int32))] [(.int (3 : Int32))])) _
    refine st21 _ ?_
    show Steps p.tables e below (T21.setTop (mkF m 36 #[.val (.long q1), .second, .val (.int p2), .val (.long u2), .second, .val (.long u4), .second, .val (.int v18), .val (.int (3 : Int32))] [(.int (4 : Int32)), (.int (3 : Int32))])) _
    refine XS.imul X21.here hx rfl (hb hby own_d_ranks_36) rfl ?_
    show Steps p.tables e below (T21.setTop (mkF m 37 #[.val (.long q1), .second, .val (.int p2), .val (.long u2), .second, .val (.long u4), .second, .val (.int v18), .val (.int (3 : Int32))] [(.int (12 : Int32))])) _
    refine XS.bipush X21.here hx rfl (hb hby own_d_ranks_37) ?_
    show Steps p.tables e below (T21.setTop (mkF m 39 #[.val (.long q1), .second, .val (.int p2), .val (.long u2), .second, .val (.long u4), .second, .val (.int v18), .val (.int (3 : Int32))] [(.int (52 : Int32)), (.int (12 : Int32))])) _
    refine XS.icmpNo X21.here hx rfl (hb hby own_d_ranks_39) rfl (flt (by decide)).2.2.1 ?_
    show Steps p.tables e below (T21.setTop (mkF m 42 #[.val (.long q1), .second, .val (.int p2), .val (.long u2), .second, .val (.long u4), .second, .val (.int v18), .val (.int (3 : Int32))] [])) _
    refine XS.lload X21.here hx rfl (hb hby own_d_ranks_42) rfl ?_
    show Steps p.tables e below (T21.setTop (mkF m 44 #[.val (.long q1), .second, .val (.int p2), .val (.long u2), .second, .val (.long u4), .second, .val (.int v18), .val (.int (3 : Int32))] [(.long u4)])) _
    refine XS.iload X21.here hx rfl (hb hby own_d_ranks_44) rfl ?_
    show Steps p.tables e below (T21.setTop (mkF m 46 #[.val (.long q1), .second, .val (.int p2), .val (.long u2), .second, .val (.long u4), .second, .val (.int v18), .val (.int (3 : Int32))] [(.int (3 : Int32)), (.long u4)])) _
    refine XS.iconst X21.here hx rfl (hb hby own_d_ranks_46) ?_
    show Steps p.tables e below (T21.setTop (mkF m 47 #[.val (.long q1), .second, .val (.int p2), .val (.long u2), .second, .val (.long u4), .second, .val (.int v18), .val (.int (3 : Int32))] [(.int (1 : Int32)), (.int (3 : Int32)), (.long u4)])) _
    refine XS.isub X21.here hx rfl (hb hby own_d_ranks_47) rfl ?_
    show Steps p.tables e below (T21.setTop (mkF m 48 #[.val (.long q1), .second, .val (.int p2), .val (.long u2), .second, .val (.long u4), .second, .val (.int v18), .val (.int (3 : Int32))] [(.int (2 : Int32)), (.long u4)])) _
    refine st22 _ ?_
    show Steps p.tables e below (T22.setTop (mkF m 51 #[.val (.long q1), .second, .val (.int p2), .val (.long u2), .second, .val (.long u4), .second, .val (.int v18), .val (.int (3 : Int32))] [(.int (4 : Int32)), (.int (2 : Int32)), (.long u4)])) _
    refine XS.imul X22.here hx rfl (hb hby own_d_ranks_51) rfl ?_
    show Steps p.tables e below (T22.setTop (mkF m 52 #[.val (.long q1), .second, .val (.int p2), .val (.long u2), .second, .val (.long u4), .second, .val (.int v18), .val (.int (3 : Int32))] [(.int (8 : Int32)), (.long u4)])) _
    refine XS.lushr X22.here hx rfl (hb hby own_d_ranks_52) rfl ?_
    show Steps p.tables e below (T22.setTop (mkF m 53 #[.val (.long q1), .second, .val (.int p2), .val (.long u2), .second, .val (.long u4), .second, .val (.int v18), .val (.int (3 : Int32))] [(.long ((u4.toUInt64 >>> ((8 : Int32) &&& 0x3f).toInt64.toUInt64).toInt64))])) _
    refine st23 _ ?_
    show Steps p.tables e below (T23.setTop (mkF m 56 #[.val (.long q1), .second, .val (.int p2), .val (.long u2), .second, .val (.long u4), .second, .val (.int v18), .val (.int (3 : Int32))] [(.long (15 : Int64)), (.long ((u4.toUInt64 >>> ((8 : Int32) &&& 0x3f).toInt64.toUInt64).toInt64))])) _
    refine XS.land X23.here hx rfl (hb hby own_d_ranks_56) rfl ?_
    show Steps p.tables e below (T23.setTop (mkF m 57 #[.val (.long q1), .second, .val (.int p2), .val (.long u2), .second, .val (.long u4), .second, .val (.int v18), .val (.int (3 : Int32))] [(.long (((u4.toUInt64 >>> ((8 : Int32) &&& 0x3f).toInt64.toUInt64).toInt64) &&& (15 : Int64)))])) _
    refine XS.iloadN X23.here hx rfl (hb hby own_d_ranks_57) rfl ?_
    show Steps p.tables e below (T23.setTop (mkF m 58 #[.val (.long q1), .second, .val (.int p2), .val (.long u2), .second, .val (.long u4), .second, .val (.int v18), .val (.int (3 : Int32))] [(.int p2), (.long (((u4.toUInt64 >>> ((8 : Int32) &&& 0x3f).toInt64.toUInt64).toInt64) &&& (15 : Int64)))])) _
    refine XS.i2l X23.here hx rfl (hb hby own_d_ranks_58) rfl ?_
    show Steps p.tables e below (T23.setTop (mkF m 59 #[.val (.long q1), .second, .val (.int p2), .val (.long u2), .second, .val (.long u4), .second, .val (.int v18), .val (.int (3 : Int32))] [(.long (p2.toInt64)), (.long (((u4.toUInt64 >>> ((8 : Int32) &&& 0x3f).toInt64.toUInt64).toInt64) &&& (15 : Int64)))])) _
    refine XS.lcmp X23.here hx rfl (hb hby own_d_ranks_59) rfl ?_
    exact k)
  obtain ⟨v26, hv26⟩ : ∃ z : Int32, z = (if (((u4.toUInt64 >>> ((8 : Int32) &&& 0x3f).toInt64.toUInt64).toInt64) &&& (15 : Int64)) < (p2.toInt64) then v18 else (v18 ||| ((1 : Int32) <<< ((3 : Int32) &&& 31)))) := ⟨_, rfl⟩
  have way27 : ∀ t, Steps p.tables e below (T23.setTop (mkF m 72 #[.val (.long q1), .second, .val (.int p2), .val (.long u2), .second, .val (.long u4), .second, .val (.int v26), .val (.int (3 : Int32))] [])) t → Steps p.tables e below (s₁.setTop (entryFrame m #[(.long q1), (.int p2)] 9)) t := fun t k => way24 t (by
    by_cases hj25 : (((u4.toUInt64 >>> ((8 : Int32) &&& 0x3f).toInt64.toUInt64).toInt64) &&& (15 : Int64)) < (p2.toInt64)
    ·
      show Steps p.tables e below (T23.setTop (mkF m 60 #[.val (.long q1), .second, .val (.int p2), .val (.long u2), .second, .val (.long u4), .second, .val (.int v18), .val (.int (3 : Int32))] [(.int (lcmpW (((u4.toUInt64 >>> ((8 : Int32) &&& 0x3f).toInt64.toUInt64).toInt64) &&& (15 : Int64)) (p2.toInt64)))])) _
      refine XS.ifYes X23.here hx rfl (pc0 := 60) (pc' := 72) rfl (hb hby own_d_ranks_60) rfl ((if0 _ _).trans (tlt ((lw_lt _ _).mpr hj25)).1) (by decide) (by decide) ?_
      simp only [hv26, if_pos hj25] at k
      exact k
    ·
      show Steps p.tables e below (T23.setTop (mkF m 60 #[.val (.long q1), .second, .val (.int p2), .val (.long u2), .second, .val (.long u4), .second, .val (.int v18), .val (.int (3 : Int32))] [(.int (lcmpW (((u4.toUInt64 >>> ((8 : Int32) &&& 0x3f).toInt64.toUInt64).toInt64) &&& (15 : Int64)) (p2.toInt64)))])) _
      refine XS.ifNo X23.here hx rfl (hb hby own_d_ranks_60) rfl ((if0 _ _).trans (flt (fun q => hj25 ((lw_lt _ _).mp q))).1) ?_
      show Steps p.tables e below (T23.setTop (mkF m 63 #[.val (.long q1), .second, .val (.int p2), .val (.long u2), .second, .val (.long u4), .second, .val (.int v18), .val (.int (3 : Int32))] [])) _
      refine XS.iload X23.here hx rfl (hb hby own_d_ranks_63) rfl ?_
      show Steps p.tables e below (T23.setTop (mkF m 65 #[.val (.long q1), .second, .val (.int p2), .val (.long u2), .second, .val (.long u4), .second, .val (.int v18), .val (.int (3 : Int32))] [(.int v18)])) _
      refine XS.iconst X23.here hx rfl (hb hby own_d_ranks_65) ?_
      show Steps p.tables e below (T23.setTop (mkF m 66 #[.val (.long q1), .second, .val (.int p2), .val (.long u2), .second, .val (.long u4), .second, .val (.int v18), .val (.int (3 : Int32))] [(.int (1 : Int32)), (.int v18)])) _
      refine XS.iload X23.here hx rfl (hb hby own_d_ranks_66) rfl ?_
      show Steps p.tables e below (T23.setTop (mkF m 68 #[.val (.long q1), .second, .val (.int p2), .val (.long u2), .second, .val (.long u4), .second, .val (.int v18), .val (.int (3 : Int32))] [(.int (3 : Int32)), (.int (1 : Int32)), (.int v18)])) _
      refine XS.ishl X23.here hx rfl (hb hby own_d_ranks_68) rfl ?_
      show Steps p.tables e below (T23.setTop (mkF m 69 #[.val (.long q1), .second, .val (.int p2), .val (.long u2), .second, .val (.long u4), .second, .val (.int v18), .val (.int (3 : Int32))] [(.int ((1 : Int32) <<< ((3 : Int32) &&& 31))), (.int v18)])) _
      refine XS.ior X23.here hx rfl (hb hby own_d_ranks_69) rfl ?_
      show Steps p.tables e below (T23.setTop (mkF m 70 #[.val (.long q1), .second, .val (.int p2), .val (.long u2), .second, .val (.long u4), .second, .val (.int v18), .val (.int (3 : Int32))] [(.int (v18 ||| ((1 : Int32) <<< ((3 : Int32) &&& 31))))])) _
      refine XS.istore X23.here hx rfl (hb hby own_d_ranks_70) rfl (l' := #[.val (.long q1), .second, .val (.int p2), .val (.long u2), .second, .val (.long u4), .second, .val (.int (v18 ||| ((1 : Int32) <<< ((3 : Int32) &&& 31)))), .val (.int (3 : Int32))]) rfl ?_
      simp only [hv26, if_neg hj25] at k
      exact k)
  have hs28 : v26 = own_step u4 p2 (3 : Int32) (8 : Int32) v18 := hv26
  obtain ⟨T29, X29, e29, st29⟩ := getS2 X23 hx hZ hown (host := "") (Or.inl (hw _ (List.mem_of_getElem? (i := 7) rfl))) Via.refl e23 fS_CardBits_SUITS (g := (mkF m 33 #[.val (.long q1), .second, .val (.int p2), .val (.long u2), .second, .val (.long u4), .second, .val (.int v26), .val (.int (4 : Int32))] [(.int (4 : Int32))])) rfl (hb hby own_d_ranks_33)
  obtain ⟨T30, X30, e30, st30⟩ := getS2 X29 hx hZ hown (host := "") (Or.inl (hw _ (List.mem_of_getElem? (i := 7) rfl))) Via.refl e29 fS_CardBits_SUITS (g := (mkF m 48 #[.val (.long q1), .second, .val (.int p2), .val (.long u2), .second, .val (.long u4), .second, .val (.int v26), .val (.int (4 : Int32))] [(.int (3 : Int32)), (.long u4)])) rfl (hb hby own_d_ranks_48)
  obtain ⟨T31, X31, e31, st31⟩ := getS2 X30 hx hZ hown (host := "") (Or.inl (hw _ (List.mem_of_getElem? (i := 9) rfl))) Via.refl e30 fS_CardBits_ACES (g := (mkF m 53 #[.val (.long q1), .second, .val (.int p2), .val (.long u2), .second, .val (.long u4), .second, .val (.int v26), .val (.int (4 : Int32))] [(.long ((u4.toUInt64 >>> ((12 : Int32) &&& 0x3f).toInt64.toUInt64).toInt64))])) rfl (hb hby own_d_ranks_53)
  have way32 : ∀ t, Steps p.tables e below (T31.setTop (mkF m 60 #[.val (.long q1), .second, .val (.int p2), .val (.long u2), .second, .val (.long u4), .second, .val (.int v26), .val (.int (4 : Int32))] [(.int (lcmpW (((u4.toUInt64 >>> ((12 : Int32) &&& 0x3f).toInt64.toUInt64).toInt64) &&& (15 : Int64)) (p2.toInt64)))])) t → Steps p.tables e below (s₁.setTop (entryFrame m #[(.long q1), (.int p2)] 9)) t := fun t k => way27 t (by
    show Steps p.tables e below (T23.setTop (mkF m 72 #[.val (.long q1), .second, .val (.int p2), .val (.long u2), .second, .val (.long u4), .second, .val (.int v26), .val (.int (3 : Int32))] [])) _
    refine XS.iinc X23.here hx rfl (hb hby own_d_ranks_72) rfl (l' := #[.val (.long q1), .second, .val (.int p2), .val (.long u2), .second, .val (.long u4), .second, .val (.int v26), .val (.int (4 : Int32))]) rfl ?_
    show Steps p.tables e below (T23.setTop (mkF m 75 #[.val (.long q1), .second, .val (.int p2), .val (.long u2), .second, .val (.long u4), .second, .val (.int v26), .val (.int (4 : Int32))] [])) _
    refine XS.goto X23.here hx rfl (pc0 := 75) (pc' := 31) rfl (hb hby own_d_ranks_75) (by decide) (by decide) ?_
    show Steps p.tables e below (T23.setTop (mkF m 31 #[.val (.long q1), .second, .val (.int p2), .val (.long u2), .second, .val (.long u4), .second, .val (.int v26), .val (.int (4 : Int32))] [])) _
    refine XS.iload X23.here hx rfl (hb hby own_d_ranks_31) rfl ?_
    show Steps p.tables e below (T23.setTop (mkF m 33 #[.val (.long q1), .second, .val (.int p2), .val (.long u2), .second, .val (.long u4), .second, .val (.int v26), .val (.int (4 : Int32))] [(.int (4 : Int32))])) _
    refine st29 _ ?_
    show Steps p.tables e below (T29.setTop (mkF m 36 #[.val (.long q1), .second, .val (.int p2), .val (.long u2), .second, .val (.long u4), .second, .val (.int v26), .val (.int (4 : Int32))] [(.int (4 : Int32)), (.int (4 : Int32))])) _
    refine XS.imul X29.here hx rfl (hb hby own_d_ranks_36) rfl ?_
    show Steps p.tables e below (T29.setTop (mkF m 37 #[.val (.long q1), .second, .val (.int p2), .val (.long u2), .second, .val (.long u4), .second, .val (.int v26), .val (.int (4 : Int32))] [(.int (16 : Int32))])) _
    refine XS.bipush X29.here hx rfl (hb hby own_d_ranks_37) ?_
    show Steps p.tables e below (T29.setTop (mkF m 39 #[.val (.long q1), .second, .val (.int p2), .val (.long u2), .second, .val (.long u4), .second, .val (.int v26), .val (.int (4 : Int32))] [(.int (52 : Int32)), (.int (16 : Int32))])) _
    refine XS.icmpNo X29.here hx rfl (hb hby own_d_ranks_39) rfl (flt (by decide)).2.2.1 ?_
    show Steps p.tables e below (T29.setTop (mkF m 42 #[.val (.long q1), .second, .val (.int p2), .val (.long u2), .second, .val (.long u4), .second, .val (.int v26), .val (.int (4 : Int32))] [])) _
    refine XS.lload X29.here hx rfl (hb hby own_d_ranks_42) rfl ?_
    show Steps p.tables e below (T29.setTop (mkF m 44 #[.val (.long q1), .second, .val (.int p2), .val (.long u2), .second, .val (.long u4), .second, .val (.int v26), .val (.int (4 : Int32))] [(.long u4)])) _
    refine XS.iload X29.here hx rfl (hb hby own_d_ranks_44) rfl ?_
    show Steps p.tables e below (T29.setTop (mkF m 46 #[.val (.long q1), .second, .val (.int p2), .val (.long u2), .second, .val (.long u4), .second, .val (.int v26), .val (.int (4 : Int32))] [(.int (4 : Int32)), (.long u4)])) _
    refine XS.iconst X29.here hx rfl (hb hby own_d_ranks_46) ?_
    show Steps p.tables e below (T29.setTop (mkF m 47 #[.val (.long q1), .second, .val (.int p2), .val (.long u2), .second, .val (.long u4), .second, .val (.int v26), .val (.int (4 : Int32))] [(.int (1 : Int32)), (.int (4 : Int32)), (.long u4)])) _
    refine XS.isub X29.here hx rfl (hb hby own_d_ranks_47) rfl ?_
    show Steps p.tables e below (T29.setTop (mkF m 48 #[.val (.long q1), .second, .val (.int p2), .val (.long u2), .second, .val (.long u4), .second, .val (.int v26), .val (.int (4 : Int32))] [(.int (3 : Int32)), (.long u4)])) _
    refine st30 _ ?_
    show Steps p.tables e below (T30.setTop (mkF m 51 #[.val (.long q1), .second, .val (.int p2), .val (.long u2), .second, .val (.long u4), .second, .val (.int v26), .val (.int (4 : Int32))] [(.int (4 : Int32)), (.int (3 : Int32)), (.long u4)])) _
    refine XS.imul X30.here hx rfl (hb hby own_d_ranks_51) rfl ?_
    show Steps p.tables e below (T30.setTop (mkF m 52 #[.val (.long q1), .second, .val (.int p2), .val (.long u2), .second, .val (.long u4), .second, .val (.int v26), .val (.int (4 : Int32))] [(.int (12 : Int32)), (.long u4)])) _
    refine XS.lushr X30.here hx rfl (hb hby own_d_ranks_52) rfl ?_
    show Steps p.tables e below (T30.setTop (mkF m 53 #[.val (.long q1), .second, .val (.int p2), .val (.long u2), .second, .val (.long u4), .second, .val (.int v26), .val (.int (4 : Int32))] [(.long ((u4.toUInt64 >>> ((12 : Int32) &&& 0x3f).toInt64.toUInt64).toInt64))])) _
    refine st31 _ ?_
    show Steps p.tables e below (T31.setTop (mkF m 56 #[.val (.long q1), .second, .val (.int p2), .val (.long u2), .second, .val (.long u4), .second, .val (.int v26), .val (.int (4 : Int32))] [(.long (15 : Int64)), (.long ((u4.toUInt64 >>> ((12 : Int32) &&& 0x3f).toInt64.toUInt64).toInt64))])) _
    refine XS.land X31.here hx rfl (hb hby own_d_ranks_56) rfl ?_
    show Steps p.tables e below (T31.setTop (mkF m 57 #[.val (.long q1), .second, .val (.int p2), .val (.long u2), .second, .val (.long u4), .second, .val (.int v26), .val (.int (4 : Int32))] [(.long (((u4.toUInt64 >>> ((12 : Int32) &&& 0x3f).toInt64.toUInt64).toInt64) &&& (15 : Int64)))])) _
    refine XS.iloadN X31.here hx rfl (hb hby own_d_ranks_57) rfl ?_
    show Steps p.tables e below (T31.setTop (mkF m 58 #[.val (.long q1), .second, .val (.int p2), .val (.long u2), .second, .val (.long u4), .second, .val (.int v26), .val (.int (4 : Int32))] [(.int p2), (.long (((u4.toUInt64 >>> ((12 : Int32) &&& 0x3f).toInt64.toUInt64).toInt64) &&& (15 : Int64)))])) _
    refine XS.i2l X31.here hx rfl (hb hby own_d_ranks_58) rfl ?_
    show Steps p.tables e below (T31.setTop (mkF m 59 #[.val (.long q1), .second, .val (.int p2), .val (.long u2), .second, .val (.long u4), .second, .val (.int v26), .val (.int (4 : Int32))] [(.long (p2.toInt64)), (.long (((u4.toUInt64 >>> ((12 : Int32) &&& 0x3f).toInt64.toUInt64).toInt64) &&& (15 : Int64)))])) _
    refine XS.lcmp X31.here hx rfl (hb hby own_d_ranks_59) rfl ?_
    exact k)
  obtain ⟨v34, hv34⟩ : ∃ z : Int32, z = (if (((u4.toUInt64 >>> ((12 : Int32) &&& 0x3f).toInt64.toUInt64).toInt64) &&& (15 : Int64)) < (p2.toInt64) then v26 else (v26 ||| ((1 : Int32) <<< ((4 : Int32) &&& 31)))) := ⟨_, rfl⟩
  have way35 : ∀ t, Steps p.tables e below (T31.setTop (mkF m 72 #[.val (.long q1), .second, .val (.int p2), .val (.long u2), .second, .val (.long u4), .second, .val (.int v34), .val (.int (4 : Int32))] [])) t → Steps p.tables e below (s₁.setTop (entryFrame m #[(.long q1), (.int p2)] 9)) t := fun t k => way32 t (by
    by_cases hj33 : (((u4.toUInt64 >>> ((12 : Int32) &&& 0x3f).toInt64.toUInt64).toInt64) &&& (15 : Int64)) < (p2.toInt64)
    ·
      show Steps p.tables e below (T31.setTop (mkF m 60 #[.val (.long q1), .second, .val (.int p2), .val (.long u2), .second, .val (.long u4), .second, .val (.int v26), .val (.int (4 : Int32))] [(.int (lcmpW (((u4.toUInt64 >>> ((12 : Int32) &&& 0x3f).toInt64.toUInt64).toInt64) &&& (15 : Int64)) (p2.toInt64)))])) _
      refine XS.ifYes X31.here hx rfl (pc0 := 60) (pc' := 72) rfl (hb hby own_d_ranks_60) rfl ((if0 _ _).trans (tlt ((lw_lt _ _).mpr hj33)).1) (by decide) (by decide) ?_
      simp only [hv34, if_pos hj33] at k
      exact k
    ·
      show Steps p.tables e below (T31.setTop (mkF m 60 #[.val (.long q1), .second, .val (.int p2), .val (.long u2), .second, .val (.long u4), .second, .val (.int v26), .val (.int (4 : Int32))] [(.int (lcmpW (((u4.toUInt64 >>> ((12 : Int32) &&& 0x3f).toInt64.toUInt64).toInt64) &&& (15 : Int64)) (p2.toInt64)))])) _
      refine XS.ifNo X31.here hx rfl (hb hby own_d_ranks_60) rfl ((if0 _ _).trans (flt (fun q => hj33 ((lw_lt _ _).mp q))).1) ?_
      show Steps p.tables e below (T31.setTop (mkF m 63 #[.val (.long q1), .second, .val (.int p2), .val (.long u2), .second, .val (.long u4), .second, .val (.int v26), .val (.int (4 : Int32))] [])) _
      refine XS.iload X31.here hx rfl (hb hby own_d_ranks_63) rfl ?_
      show Steps p.tables e below (T31.setTop (mkF m 65 #[.val (.long q1), .second, .val (.int p2), .val (.long u2), .second, .val (.long u4), .second, .val (.int v26), .val (.int (4 : Int32))] [(.int v26)])) _
      refine XS.iconst X31.here hx rfl (hb hby own_d_ranks_65) ?_
      show Steps p.tables e below (T31.setTop (mkF m 66 #[.val (.long q1), .second, .val (.int p2), .val (.long u2), .second, .val (.long u4), .second, .val (.int v26), .val (.int (4 : Int32))] [(.int (1 : Int32)), (.int v26)])) _
      refine XS.iload X31.here hx rfl (hb hby own_d_ranks_66) rfl ?_
      show Steps p.tables e below (T31.setTop (mkF m 68 #[.val (.long q1), .second, .val (.int p2), .val (.long u2), .second, .val (.long u4), .second, .val (.int v26), .val (.int (4 : Int32))] [(.int (4 : Int32)), (.int (1 : Int32)), (.int v26)])) _
      refine XS.ishl X31.here hx rfl (hb hby own_d_ranks_68) rfl ?_
      show Steps p.tables e below (T31.setTop (mkF m 69 #[.val (.long q1), .second, .val (.int p2), .val (.long u2), .second, .val (.long u4), .second, .val (.int v26), .val (.int (4 : Int32))] [(.int ((1 : Int32) <<< ((4 : Int32) &&& 31))), (.int v26)])) _
      refine XS.ior X31.here hx rfl (hb hby own_d_ranks_69) rfl ?_
      show Steps p.tables e below (T31.setTop (mkF m 70 #[.val (.long q1), .second, .val (.int p2), .val (.long u2), .second, .val (.long u4), .second, .val (.int v26), .val (.int (4 : Int32))] [(.int (v26 ||| ((1 : Int32) <<< ((4 : Int32) &&& 31))))])) _
      refine XS.istore X31.here hx rfl (hb hby own_d_ranks_70) rfl (l' := #[.val (.long q1), .second, .val (.int p2), .val (.long u2), .second, .val (.long u4), .second, .val (.int (v26 ||| ((1 : Int32) <<< ((4 : Int32) &&& 31)))), .val (.int (4 : Int32))]) rfl ?_
      simp only [hv34, if_neg hj33] at k
      exact k)
  have hs36 : v34 = own_step u4 p2 (4 : Int32) (12 : Int32) v26 := hv34
  obtain ⟨T37, X37, e37, st37⟩ := getS2 X31 hx hZ hown (host := "") (Or.inl (hw _ (List.mem_of_getElem? (i := 7) rfl))) Via.refl e31 fS_CardBits_SUITS (g := (mkF m 33 #[.val (.long q1), .second, .val (.int p2), .val (.long u2), .second, .val (.long u4), .second, .val (.int v34), .val (.int (5 : Int32))] [(.int (5 : Int32))])) rfl (hb hby own_d_ranks_33)
  obtain ⟨T38, X38, e38, st38⟩ := getS2 X37 hx hZ hown (host := "") (Or.inl (hw _ (List.mem_of_getElem? (i := 7) rfl))) Via.refl e37 fS_CardBits_SUITS (g := (mkF m 48 #[.val (.long q1), .second, .val (.int p2), .val (.long u2), .second, .val (.long u4), .second, .val (.int v34), .val (.int (5 : Int32))] [(.int (4 : Int32)), (.long u4)])) rfl (hb hby own_d_ranks_48)
  obtain ⟨T39, X39, e39, st39⟩ := getS2 X38 hx hZ hown (host := "") (Or.inl (hw _ (List.mem_of_getElem? (i := 9) rfl))) Via.refl e38 fS_CardBits_ACES (g := (mkF m 53 #[.val (.long q1), .second, .val (.int p2), .val (.long u2), .second, .val (.long u4), .second, .val (.int v34), .val (.int (5 : Int32))] [(.long ((u4.toUInt64 >>> ((16 : Int32) &&& 0x3f).toInt64.toUInt64).toInt64))])) rfl (hb hby own_d_ranks_53)
  have way40 : ∀ t, Steps p.tables e below (T39.setTop (mkF m 60 #[.val (.long q1), .second, .val (.int p2), .val (.long u2), .second, .val (.long u4), .second, .val (.int v34), .val (.int (5 : Int32))] [(.int (lcmpW (((u4.toUInt64 >>> ((16 : Int32) &&& 0x3f).toInt64.toUInt64).toInt64) &&& (15 : Int64)) (p2.toInt64)))])) t → Steps p.tables e below (s₁.setTop (entryFrame m #[(.long q1), (.int p2)] 9)) t := fun t k => way35 t (by
    show Steps p.tables e below (T31.setTop (mkF m 72 #[.val (.long q1), .second, .val (.int p2), .val (.long u2), .second, .val (.long u4), .second, .val (.int v34), .val (.int (4 : Int32))] [])) _
    refine XS.iinc X31.here hx rfl (hb hby own_d_ranks_72) rfl (l' := #[.val (.long q1), .second, .val (.int p2), .val (.long u2), .second, .val (.long u4), .second, .val (.int v34), .val (.int (5 : Int32))]) rfl ?_
    show Steps p.tables e below (T31.setTop (mkF m 75 #[.val (.long q1), .second, .val (.int p2), .val (.long u2), .second, .val (.long u4), .second, .val (.int v34), .val (.int (5 : Int32))] [])) _
    refine XS.goto X31.here hx rfl (pc0 := 75) (pc' := 31) rfl (hb hby own_d_ranks_75) (by decide) (by decide) ?_
    show Steps p.tables e below (T31.setTop (mkF m 31 #[.val (.long q1), .second, .val (.int p2), .val (.long u2), .second, .val (.long u4), .second, .val (.int v34), .val (.int (5 : Int32))] [])) _
    refine XS.iload X31.here hx rfl (hb hby own_d_ranks_31) rfl ?_
    show Steps p.tables e below (T31.setTop (mkF m 33 #[.val (.long q1), .second, .val (.int p2), .val (.long u2), .second, .val (.long u4), .second, .val (.int v34), .val (.int (5 : Int32))] [(.int (5 : Int32))])) _
    refine st37 _ ?_
    show Steps p.tables e below (T37.setTop (mkF m 36 #[.val (.long q1), .second, .val (.int p2), .val (.long u2), .second, .val (.long u4), .second, .val (.int v34), .val (.int (5 : Int32))] [(.int (4 : Int32)), (.int (5 : Int32))])) _
    refine XS.imul X37.here hx rfl (hb hby own_d_ranks_36) rfl ?_
    show Steps p.tables e below (T37.setTop (mkF m 37 #[.val (.long q1), .second, .val (.int p2), .val (.long u2), .second, .val (.long u4), .second, .val (.int v34), .val (.int (5 : Int32))] [(.int (20 : Int32))])) _
    refine XS.bipush X37.here hx rfl (hb hby own_d_ranks_37) ?_
    show Steps p.tables e below (T37.setTop (mkF m 39 #[.val (.long q1), .second, .val (.int p2), .val (.long u2), .second, .val (.long u4), .second, .val (.int v34), .val (.int (5 : Int32))] [(.int (52 : Int32)), (.int (20 : Int32))])) _
    refine XS.icmpNo X37.here hx rfl (hb hby own_d_ranks_39) rfl (flt (by decide)).2.2.1 ?_
    show Steps p.tables e below (T37.setTop (mkF m 42 #[.val (.long q1), .second, .val (.int p2), .val (.long u2), .second, .val (.long u4), .second, .val (.int v34), .val (.int (5 : Int32))] [])) _
    refine XS.lload X37.here hx rfl (hb hby own_d_ranks_42) rfl ?_
    show Steps p.tables e below (T37.setTop (mkF m 44 #[.val (.long q1), .second, .val (.int p2), .val (.long u2), .second, .val (.long u4), .second, .val (.int v34), .val (.int (5 : Int32))] [(.long u4)])) _
    refine XS.iload X37.here hx rfl (hb hby own_d_ranks_44) rfl ?_
    show Steps p.tables e below (T37.setTop (mkF m 46 #[.val (.long q1), .second, .val (.int p2), .val (.long u2), .second, .val (.long u4), .second, .val (.int v34), .val (.int (5 : Int32))] [(.int (5 : Int32)), (.long u4)])) _
    refine XS.iconst X37.here hx rfl (hb hby own_d_ranks_46) ?_
    show Steps p.tables e below (T37.setTop (mkF m 47 #[.val (.long q1), .second, .val (.int p2), .val (.long u2), .second, .val (.long u4), .second, .val (.int v34), .val (.int (5 : Int32))] [(.int (1 : Int32)), (.int (5 : Int32)), (.long u4)])) _
    refine XS.isub X37.here hx rfl (hb hby own_d_ranks_47) rfl ?_
    show Steps p.tables e below (T37.setTop (mkF m 48 #[.val (.long q1), .second, .val (.int p2), .val (.long u2), .second, .val (.long u4), .second, .val (.int v34), .val (.int (5 : Int32))] [(.int (4 : Int32)), (.long u4)])) _
    refine st38 _ ?_
    show Steps p.tables e below (T38.setTop (mkF m 51 #[.val (.long q1), .second, .val (.int p2), .val (.long u2), .second, .val (.long u4), .second, .val (.int v34), .val (.int (5 : Int32))] [(.int (4 : Int32)), (.int (4 : Int32)), (.long u4)])) _
    refine XS.imul X38.here hx rfl (hb hby own_d_ranks_51) rfl ?_
    show Steps p.tables e below (T38.setTop (mkF m 52 #[.val (.long q1), .second, .val (.int p2), .val (.long u2), .second, .val (.long u4), .second, .val (.int v34), .val (.int (5 : Int32))] [(.int (16 : Int32)), (.long u4)])) _
    refine XS.lushr X38.here hx rfl (hb hby own_d_ranks_52) rfl ?_
    show Steps p.tables e below (T38.setTop (mkF m 53 #[.val (.long q1), .second, .val (.int p2), .val (.long u2), .second, .val (.long u4), .second, .val (.int v34), .val (.int (5 : Int32))] [(.long ((u4.toUInt64 >>> ((16 : Int32) &&& 0x3f).toInt64.toUInt64).toInt64))])) _
    refine st39 _ ?_
    show Steps p.tables e below (T39.setTop (mkF m 56 #[.val (.long q1), .second, .val (.int p2), .val (.long u2), .second, .val (.long u4), .second, .val (.int v34), .val (.int (5 : Int32))] [(.long (15 : Int64)), (.long ((u4.toUInt64 >>> ((16 : Int32) &&& 0x3f).toInt64.toUInt64).toInt64))])) _
    refine XS.land X39.here hx rfl (hb hby own_d_ranks_56) rfl ?_
    show Steps p.tables e below (T39.setTop (mkF m 57 #[.val (.long q1), .second, .val (.int p2), .val (.long u2), .second, .val (.long u4), .second, .val (.int v34), .val (.int (5 : Int32))] [(.long (((u4.toUInt64 >>> ((16 : Int32) &&& 0x3f).toInt64.toUInt64).toInt64) &&& (15 : Int64)))])) _
    refine XS.iloadN X39.here hx rfl (hb hby own_d_ranks_57) rfl ?_
    show Steps p.tables e below (T39.setTop (mkF m 58 #[.val (.long q1), .second, .val (.int p2), .val (.long u2), .second, .val (.long u4), .second, .val (.int v34), .val (.int (5 : Int32))] [(.int p2), (.long (((u4.toUInt64 >>> ((16 : Int32) &&& 0x3f).toInt64.toUInt64).toInt64) &&& (15 : Int64)))])) _
    refine XS.i2l X39.here hx rfl (hb hby own_d_ranks_58) rfl ?_
    show Steps p.tables e below (T39.setTop (mkF m 59 #[.val (.long q1), .second, .val (.int p2), .val (.long u2), .second, .val (.long u4), .second, .val (.int v34), .val (.int (5 : Int32))] [(.long (p2.toInt64)), (.long (((u4.toUInt64 >>> ((16 : Int32) &&& 0x3f).toInt64.toUInt64).toInt64) &&& (15 : Int64)))])) _
    refine XS.lcmp X39.here hx rfl (hb hby own_d_ranks_59) rfl ?_
    exact k)
  obtain ⟨v42, hv42⟩ : ∃ z : Int32, z = (if (((u4.toUInt64 >>> ((16 : Int32) &&& 0x3f).toInt64.toUInt64).toInt64) &&& (15 : Int64)) < (p2.toInt64) then v34 else (v34 ||| ((1 : Int32) <<< ((5 : Int32) &&& 31)))) := ⟨_, rfl⟩
  have way43 : ∀ t, Steps p.tables e below (T39.setTop (mkF m 72 #[.val (.long q1), .second, .val (.int p2), .val (.long u2), .second, .val (.long u4), .second, .val (.int v42), .val (.int (5 : Int32))] [])) t → Steps p.tables e below (s₁.setTop (entryFrame m #[(.long q1), (.int p2)] 9)) t := fun t k => way40 t (by
    by_cases hj41 : (((u4.toUInt64 >>> ((16 : Int32) &&& 0x3f).toInt64.toUInt64).toInt64) &&& (15 : Int64)) < (p2.toInt64)
    ·
      show Steps p.tables e below (T39.setTop (mkF m 60 #[.val (.long q1), .second, .val (.int p2), .val (.long u2), .second, .val (.long u4), .second, .val (.int v34), .val (.int (5 : Int32))] [(.int (lcmpW (((u4.toUInt64 >>> ((16 : Int32) &&& 0x3f).toInt64.toUInt64).toInt64) &&& (15 : Int64)) (p2.toInt64)))])) _
      refine XS.ifYes X39.here hx rfl (pc0 := 60) (pc' := 72) rfl (hb hby own_d_ranks_60) rfl ((if0 _ _).trans (tlt ((lw_lt _ _).mpr hj41)).1) (by decide) (by decide) ?_
      simp only [hv42, if_pos hj41] at k
      exact k
    ·
      show Steps p.tables e below (T39.setTop (mkF m 60 #[.val (.long q1), .second, .val (.int p2), .val (.long u2), .second, .val (.long u4), .second, .val (.int v34), .val (.int (5 : Int32))] [(.int (lcmpW (((u4.toUInt64 >>> ((16 : Int32) &&& 0x3f).toInt64.toUInt64).toInt64) &&& (15 : Int64)) (p2.toInt64)))])) _
      refine XS.ifNo X39.here hx rfl (hb hby own_d_ranks_60) rfl ((if0 _ _).trans (flt (fun q => hj41 ((lw_lt _ _).mp q))).1) ?_
      show Steps p.tables e below (T39.setTop (mkF m 63 #[.val (.long q1), .second, .val (.int p2), .val (.long u2), .second, .val (.long u4), .second, .val (.int v34), .val (.int (5 : Int32))] [])) _
      refine XS.iload X39.here hx rfl (hb hby own_d_ranks_63) rfl ?_
      show Steps p.tables e below (T39.setTop (mkF m 65 #[.val (.long q1), .second, .val (.int p2), .val (.long u2), .second, .val (.long u4), .second, .val (.int v34), .val (.int (5 : Int32))] [(.int v34)])) _
      refine XS.iconst X39.here hx rfl (hb hby own_d_ranks_65) ?_
      show Steps p.tables e below (T39.setTop (mkF m 66 #[.val (.long q1), .second, .val (.int p2), .val (.long u2), .second, .val (.long u4), .second, .val (.int v34), .val (.int (5 : Int32))] [(.int (1 : Int32)), (.int v34)])) _
      refine XS.iload X39.here hx rfl (hb hby own_d_ranks_66) rfl ?_
      show Steps p.tables e below (T39.setTop (mkF m 68 #[.val (.long q1), .second, .val (.int p2), .val (.long u2), .second, .val (.long u4), .second, .val (.int v34), .val (.int (5 : Int32))] [(.int (5 : Int32)), (.int (1 : Int32)), (.int v34)])) _
      refine XS.ishl X39.here hx rfl (hb hby own_d_ranks_68) rfl ?_
      show Steps p.tables e below (T39.setTop (mkF m 69 #[.val (.long q1), .second, .val (.int p2), .val (.long u2), .second, .val (.long u4), .second, .val (.int v34), .val (.int (5 : Int32))] [(.int ((1 : Int32) <<< ((5 : Int32) &&& 31))), (.int v34)])) _
      refine XS.ior X39.here hx rfl (hb hby own_d_ranks_69) rfl ?_
      show Steps p.tables e below (T39.setTop (mkF m 70 #[.val (.long q1), .second, .val (.int p2), .val (.long u2), .second, .val (.long u4), .second, .val (.int v34), .val (.int (5 : Int32))] [(.int (v34 ||| ((1 : Int32) <<< ((5 : Int32) &&& 31))))])) _
      refine XS.istore X39.here hx rfl (hb hby own_d_ranks_70) rfl (l' := #[.val (.long q1), .second, .val (.int p2), .val (.long u2), .second, .val (.long u4), .second, .val (.int (v34 ||| ((1 : Int32) <<< ((5 : Int32) &&& 31)))), .val (.int (5 : Int32))]) rfl ?_
      simp only [hv42, if_neg hj41] at k
      exact k)
  have hs44 : v42 = own_step u4 p2 (5 : Int32) (16 : Int32) v34 := hv42
  obtain ⟨T45, X45, e45, st45⟩ := getS2 X39 hx hZ hown (host := "") (Or.inl (hw _ (List.mem_of_getElem? (i := 7) rfl))) Via.refl e39 fS_CardBits_SUITS (g := (mkF m 33 #[.val (.long q1), .second, .val (.int p2), .val (.long u2), .second, .val (.long u4), .second, .val (.int v42), .val (.int (6 : Int32))] [(.int (6 : Int32))])) rfl (hb hby own_d_ranks_33)
  obtain ⟨T46, X46, e46, st46⟩ := getS2 X45 hx hZ hown (host := "") (Or.inl (hw _ (List.mem_of_getElem? (i := 7) rfl))) Via.refl e45 fS_CardBits_SUITS (g := (mkF m 48 #[.val (.long q1), .second, .val (.int p2), .val (.long u2), .second, .val (.long u4), .second, .val (.int v42), .val (.int (6 : Int32))] [(.int (5 : Int32)), (.long u4)])) rfl (hb hby own_d_ranks_48)
  obtain ⟨T47, X47, e47, st47⟩ := getS2 X46 hx hZ hown (host := "") (Or.inl (hw _ (List.mem_of_getElem? (i := 9) rfl))) Via.refl e46 fS_CardBits_ACES (g := (mkF m 53 #[.val (.long q1), .second, .val (.int p2), .val (.long u2), .second, .val (.long u4), .second, .val (.int v42), .val (.int (6 : Int32))] [(.long ((u4.toUInt64 >>> ((20 : Int32) &&& 0x3f).toInt64.toUInt64).toInt64))])) rfl (hb hby own_d_ranks_53)
  have way48 : ∀ t, Steps p.tables e below (T47.setTop (mkF m 60 #[.val (.long q1), .second, .val (.int p2), .val (.long u2), .second, .val (.long u4), .second, .val (.int v42), .val (.int (6 : Int32))] [(.int (lcmpW (((u4.toUInt64 >>> ((20 : Int32) &&& 0x3f).toInt64.toUInt64).toInt64) &&& (15 : Int64)) (p2.toInt64)))])) t → Steps p.tables e below (s₁.setTop (entryFrame m #[(.long q1), (.int p2)] 9)) t := fun t k => way43 t (by
    show Steps p.tables e below (T39.setTop (mkF m 72 #[.val (.long q1), .second, .val (.int p2), .val (.long u2), .second, .val (.long u4), .second, .val (.int v42), .val (.int (5 : Int32))] [])) _
    refine XS.iinc X39.here hx rfl (hb hby own_d_ranks_72) rfl (l' := #[.val (.long q1), .second, .val (.int p2), .val (.long u2), .second, .val (.long u4), .second, .val (.int v42), .val (.int (6 : Int32))]) rfl ?_
    show Steps p.tables e below (T39.setTop (mkF m 75 #[.val (.long q1), .second, .val (.int p2), .val (.long u2), .second, .val (.long u4), .second, .val (.int v42), .val (.int (6 : Int32))] [])) _
    refine XS.goto X39.here hx rfl (pc0 := 75) (pc' := 31) rfl (hb hby own_d_ranks_75) (by decide) (by decide) ?_
    show Steps p.tables e below (T39.setTop (mkF m 31 #[.val (.long q1), .second, .val (.int p2), .val (.long u2), .second, .val (.long u4), .second, .val (.int v42), .val (.int (6 : Int32))] [])) _
    refine XS.iload X39.here hx rfl (hb hby own_d_ranks_31) rfl ?_
    show Steps p.tables e below (T39.setTop (mkF m 33 #[.val (.long q1), .second, .val (.int p2), .val (.long u2), .second, .val (.long u4), .second, .val (.int v42), .val (.int (6 : Int32))] [(.int (6 : Int32))])) _
    refine st45 _ ?_
    show Steps p.tables e below (T45.setTop (mkF m 36 #[.val (.long q1), .second, .val (.int p2), .val (.long u2), .second, .val (.long u4), .second, .val (.int v42), .val (.int (6 : Int32))] [(.int (4 : Int32)), (.int (6 : Int32))])) _
    refine XS.imul X45.here hx rfl (hb hby own_d_ranks_36) rfl ?_
    show Steps p.tables e below (T45.setTop (mkF m 37 #[.val (.long q1), .second, .val (.int p2), .val (.long u2), .second, .val (.long u4), .second, .val (.int v42), .val (.int (6 : Int32))] [(.int (24 : Int32))])) _
    refine XS.bipush X45.here hx rfl (hb hby own_d_ranks_37) ?_
    show Steps p.tables e below (T45.setTop (mkF m 39 #[.val (.long q1), .second, .val (.int p2), .val (.long u2), .second, .val (.long u4), .second, .val (.int v42), .val (.int (6 : Int32))] [(.int (52 : Int32)), (.int (24 : Int32))])) _
    refine XS.icmpNo X45.here hx rfl (hb hby own_d_ranks_39) rfl (flt (by decide)).2.2.1 ?_
    show Steps p.tables e below (T45.setTop (mkF m 42 #[.val (.long q1), .second, .val (.int p2), .val (.long u2), .second, .val (.long u4), .second, .val (.int v42), .val (.int (6 : Int32))] [])) _
    refine XS.lload X45.here hx rfl (hb hby own_d_ranks_42) rfl ?_
    show Steps p.tables e below (T45.setTop (mkF m 44 #[.val (.long q1), .second, .val (.int p2), .val (.long u2), .second, .val (.long u4), .second, .val (.int v42), .val (.int (6 : Int32))] [(.long u4)])) _
    refine XS.iload X45.here hx rfl (hb hby own_d_ranks_44) rfl ?_
    show Steps p.tables e below (T45.setTop (mkF m 46 #[.val (.long q1), .second, .val (.int p2), .val (.long u2), .second, .val (.long u4), .second, .val (.int v42), .val (.int (6 : Int32))] [(.int (6 : Int32)), (.long u4)])) _
    refine XS.iconst X45.here hx rfl (hb hby own_d_ranks_46) ?_
    show Steps p.tables e below (T45.setTop (mkF m 47 #[.val (.long q1), .second, .val (.int p2), .val (.long u2), .second, .val (.long u4), .second, .val (.int v42), .val (.int (6 : Int32))] [(.int (1 : Int32)), (.int (6 : Int32)), (.long u4)])) _
    refine XS.isub X45.here hx rfl (hb hby own_d_ranks_47) rfl ?_
    show Steps p.tables e below (T45.setTop (mkF m 48 #[.val (.long q1), .second, .val (.int p2), .val (.long u2), .second, .val (.long u4), .second, .val (.int v42), .val (.int (6 : Int32))] [(.int (5 : Int32)), (.long u4)])) _
    refine st46 _ ?_
    show Steps p.tables e below (T46.setTop (mkF m 51 #[.val (.long q1), .second, .val (.int p2), .val (.long u2), .second, .val (.long u4), .second, .val (.int v42), .val (.int (6 : Int32))] [(.int (4 : Int32)), (.int (5 : Int32)), (.long u4)])) _
    refine XS.imul X46.here hx rfl (hb hby own_d_ranks_51) rfl ?_
    show Steps p.tables e below (T46.setTop (mkF m 52 #[.val (.long q1), .second, .val (.int p2), .val (.long u2), .second, .val (.long u4), .second, .val (.int v42), .val (.int (6 : Int32))] [(.int (20 : Int32)), (.long u4)])) _
    refine XS.lushr X46.here hx rfl (hb hby own_d_ranks_52) rfl ?_
    show Steps p.tables e below (T46.setTop (mkF m 53 #[.val (.long q1), .second, .val (.int p2), .val (.long u2), .second, .val (.long u4), .second, .val (.int v42), .val (.int (6 : Int32))] [(.long ((u4.toUInt64 >>> ((20 : Int32) &&& 0x3f).toInt64.toUInt64).toInt64))])) _
    refine st47 _ ?_
    show Steps p.tables e below (T47.setTop (mkF m 56 #[.val (.long q1), .second, .val (.int p2), .val (.long u2), .second, .val (.long u4), .second, .val (.int v42), .val (.int (6 : Int32))] [(.long (15 : Int64)), (.long ((u4.toUInt64 >>> ((20 : Int32) &&& 0x3f).toInt64.toUInt64).toInt64))])) _
    refine XS.land X47.here hx rfl (hb hby own_d_ranks_56) rfl ?_
    show Steps p.tables e below (T47.setTop (mkF m 57 #[.val (.long q1), .second, .val (.int p2), .val (.long u2), .second, .val (.long u4), .second, .val (.int v42), .val (.int (6 : Int32))] [(.long (((u4.toUInt64 >>> ((20 : Int32) &&& 0x3f).toInt64.toUInt64).toInt64) &&& (15 : Int64)))])) _
    refine XS.iloadN X47.here hx rfl (hb hby own_d_ranks_57) rfl ?_
    show Steps p.tables e below (T47.setTop (mkF m 58 #[.val (.long q1), .second, .val (.int p2), .val (.long u2), .second, .val (.long u4), .second, .val (.int v42), .val (.int (6 : Int32))] [(.int p2), (.long (((u4.toUInt64 >>> ((20 : Int32) &&& 0x3f).toInt64.toUInt64).toInt64) &&& (15 : Int64)))])) _
    refine XS.i2l X47.here hx rfl (hb hby own_d_ranks_58) rfl ?_
    show Steps p.tables e below (T47.setTop (mkF m 59 #[.val (.long q1), .second, .val (.int p2), .val (.long u2), .second, .val (.long u4), .second, .val (.int v42), .val (.int (6 : Int32))] [(.long (p2.toInt64)), (.long (((u4.toUInt64 >>> ((20 : Int32) &&& 0x3f).toInt64.toUInt64).toInt64) &&& (15 : Int64)))])) _
    refine XS.lcmp X47.here hx rfl (hb hby own_d_ranks_59) rfl ?_
    exact k)
  obtain ⟨v50, hv50⟩ : ∃ z : Int32, z = (if (((u4.toUInt64 >>> ((20 : Int32) &&& 0x3f).toInt64.toUInt64).toInt64) &&& (15 : Int64)) < (p2.toInt64) then v42 else (v42 ||| ((1 : Int32) <<< ((6 : Int32) &&& 31)))) := ⟨_, rfl⟩
  have way51 : ∀ t, Steps p.tables e below (T47.setTop (mkF m 72 #[.val (.long q1), .second, .val (.int p2), .val (.long u2), .second, .val (.long u4), .second, .val (.int v50), .val (.int (6 : Int32))] [])) t → Steps p.tables e below (s₁.setTop (entryFrame m #[(.long q1), (.int p2)] 9)) t := fun t k => way48 t (by
    by_cases hj49 : (((u4.toUInt64 >>> ((20 : Int32) &&& 0x3f).toInt64.toUInt64).toInt64) &&& (15 : Int64)) < (p2.toInt64)
    ·
      show Steps p.tables e below (T47.setTop (mkF m 60 #[.val (.long q1), .second, .val (.int p2), .val (.long u2), .second, .val (.long u4), .second, .val (.int v42), .val (.int (6 : Int32))] [(.int (lcmpW (((u4.toUInt64 >>> ((20 : Int32) &&& 0x3f).toInt64.toUInt64).toInt64) &&& (15 : Int64)) (p2.toInt64)))])) _
      refine XS.ifYes X47.here hx rfl (pc0 := 60) (pc' := 72) rfl (hb hby own_d_ranks_60) rfl ((if0 _ _).trans (tlt ((lw_lt _ _).mpr hj49)).1) (by decide) (by decide) ?_
      simp only [hv50, if_pos hj49] at k
      exact k
    ·
      show Steps p.tables e below (T47.setTop (mkF m 60 #[.val (.long q1), .second, .val (.int p2), .val (.long u2), .second, .val (.long u4), .second, .val (.int v42), .val (.int (6 : Int32))] [(.int (lcmpW (((u4.toUInt64 >>> ((20 : Int32) &&& 0x3f).toInt64.toUInt64).toInt64) &&& (15 : Int64)) (p2.toInt64)))])) _
      refine XS.ifNo X47.here hx rfl (hb hby own_d_ranks_60) rfl ((if0 _ _).trans (flt (fun q => hj49 ((lw_lt _ _).mp q))).1) ?_
      show Steps p.tables e below (T47.setTop (mkF m 63 #[.val (.long q1), .second, .val (.int p2), .val (.long u2), .second, .val (.long u4), .second, .val (.int v42), .val (.int (6 : Int32))] [])) _
      refine XS.iload X47.here hx rfl (hb hby own_d_ranks_63) rfl ?_
      show Steps p.tables e below (T47.setTop (mkF m 65 #[.val (.long q1), .second, .val (.int p2), .val (.long u2), .second, .val (.long u4), .second, .val (.int v42), .val (.int (6 : Int32))] [(.int v42)])) _
      refine XS.iconst X47.here hx rfl (hb hby own_d_ranks_65) ?_
      show Steps p.tables e below (T47.setTop (mkF m 66 #[.val (.long q1), .second, .val (.int p2), .val (.long u2), .second, .val (.long u4), .second, .val (.int v42), .val (.int (6 : Int32))] [(.int (1 : Int32)), (.int v42)])) _
      refine XS.iload X47.here hx rfl (hb hby own_d_ranks_66) rfl ?_
      show Steps p.tables e below (T47.setTop (mkF m 68 #[.val (.long q1), .second, .val (.int p2), .val (.long u2), .second, .val (.long u4), .second, .val (.int v42), .val (.int (6 : Int32))] [(.int (6 : Int32)), (.int (1 : Int32)), (.int v42)])) _
      refine XS.ishl X47.here hx rfl (hb hby own_d_ranks_68) rfl ?_
      show Steps p.tables e below (T47.setTop (mkF m 69 #[.val (.long q1), .second, .val (.int p2), .val (.long u2), .second, .val (.long u4), .second, .val (.int v42), .val (.int (6 : Int32))] [(.int ((1 : Int32) <<< ((6 : Int32) &&& 31))), (.int v42)])) _
      refine XS.ior X47.here hx rfl (hb hby own_d_ranks_69) rfl ?_
      show Steps p.tables e below (T47.setTop (mkF m 70 #[.val (.long q1), .second, .val (.int p2), .val (.long u2), .second, .val (.long u4), .second, .val (.int v42), .val (.int (6 : Int32))] [(.int (v42 ||| ((1 : Int32) <<< ((6 : Int32) &&& 31))))])) _
      refine XS.istore X47.here hx rfl (hb hby own_d_ranks_70) rfl (l' := #[.val (.long q1), .second, .val (.int p2), .val (.long u2), .second, .val (.long u4), .second, .val (.int (v42 ||| ((1 : Int32) <<< ((6 : Int32) &&& 31)))), .val (.int (6 : Int32))]) rfl ?_
      simp only [hv50, if_neg hj49] at k
      exact k)
  have hs52 : v50 = own_step u4 p2 (6 : Int32) (20 : Int32) v42 := hv50
  obtain ⟨T53, X53, e53, st53⟩ := getS2 X47 hx hZ hown (host := "") (Or.inl (hw _ (List.mem_of_getElem? (i := 7) rfl))) Via.refl e47 fS_CardBits_SUITS (g := (mkF m 33 #[.val (.long q1), .second, .val (.int p2), .val (.long u2), .second, .val (.long u4), .second, .val (.int v50), .val (.int (7 : Int32))] [(.int (7 : Int32))])) rfl (hb hby own_d_ranks_33)
  obtain ⟨T54, X54, e54, st54⟩ := getS2 X53 hx hZ hown (host := "") (Or.inl (hw _ (List.mem_of_getElem? (i := 7) rfl))) Via.refl e53 fS_CardBits_SUITS (g := (mkF m 48 #[.val (.long q1), .second, .val (.int p2), .val (.long u2), .second, .val (.long u4), .second, .val (.int v50), .val (.int (7 : Int32))] [(.int (6 : Int32)), (.long u4)])) rfl (hb hby own_d_ranks_48)
  obtain ⟨T55, X55, e55, st55⟩ := getS2 X54 hx hZ hown (host := "") (Or.inl (hw _ (List.mem_of_getElem? (i := 9) rfl))) Via.refl e54 fS_CardBits_ACES (g := (mkF m 53 #[.val (.long q1), .second, .val (.int p2), .val (.long u2), .second, .val (.long u4), .second, .val (.int v50), .val (.int (7 : Int32))] [(.long ((u4.toUInt64 >>> ((24 : Int32) &&& 0x3f).toInt64.toUInt64).toInt64))])) rfl (hb hby own_d_ranks_53)
  have way56 : ∀ t, Steps p.tables e below (T55.setTop (mkF m 60 #[.val (.long q1), .second, .val (.int p2), .val (.long u2), .second, .val (.long u4), .second, .val (.int v50), .val (.int (7 : Int32))] [(.int (lcmpW (((u4.toUInt64 >>> ((24 : Int32) &&& 0x3f).toInt64.toUInt64).toInt64) &&& (15 : Int64)) (p2.toInt64)))])) t → Steps p.tables e below (s₁.setTop (entryFrame m #[(.long q1), (.int p2)] 9)) t := fun t k => way51 t (by
    show Steps p.tables e below (T47.setTop (mkF m 72 #[.val (.long q1), .second, .val (.int p2), .val (.long u2), .second, .val (.long u4), .second, .val (.int v50), .val (.int (6 : Int32))] [])) _
    refine XS.iinc X47.here hx rfl (hb hby own_d_ranks_72) rfl (l' := #[.val (.long q1), .second, .val (.int p2), .val (.long u2), .second, .val (.long u4), .second, .val (.int v50), .val (.int (7 : Int32))]) rfl ?_
    show Steps p.tables e below (T47.setTop (mkF m 75 #[.val (.long q1), .second, .val (.int p2), .val (.long u2), .second, .val (.long u4), .second, .val (.int v50), .val (.int (7 : Int32))] [])) _
    refine XS.goto X47.here hx rfl (pc0 := 75) (pc' := 31) rfl (hb hby own_d_ranks_75) (by decide) (by decide) ?_
    show Steps p.tables e below (T47.setTop (mkF m 31 #[.val (.long q1), .second, .val (.int p2), .val (.long u2), .second, .val (.long u4), .second, .val (.int v50), .val (.int (7 : Int32))] [])) _
    refine XS.iload X47.here hx rfl (hb hby own_d_ranks_31) rfl ?_
    show Steps p.tables e below (T47.setTop (mkF m 33 #[.val (.long q1), .second, .val (.int p2), .val (.long u2), .second, .val (.long u4), .second, .val (.int v50), .val (.int (7 : Int32))] [(.int (7 : Int32))])) _
    refine st53 _ ?_
    show Steps p.tables e below (T53.setTop (mkF m 36 #[.val (.long q1), .second, .val (.int p2), .val (.long u2), .second, .val (.long u4), .second, .val (.int v50), .val (.int (7 : Int32))] [(.int (4 : Int32)), (.int (7 : Int32))])) _
    refine XS.imul X53.here hx rfl (hb hby own_d_ranks_36) rfl ?_
    show Steps p.tables e below (T53.setTop (mkF m 37 #[.val (.long q1), .second, .val (.int p2), .val (.long u2), .second, .val (.long u4), .second, .val (.int v50), .val (.int (7 : Int32))] [(.int (28 : Int32))])) _
    refine XS.bipush X53.here hx rfl (hb hby own_d_ranks_37) ?_
    show Steps p.tables e below (T53.setTop (mkF m 39 #[.val (.long q1), .second, .val (.int p2), .val (.long u2), .second, .val (.long u4), .second, .val (.int v50), .val (.int (7 : Int32))] [(.int (52 : Int32)), (.int (28 : Int32))])) _
    refine XS.icmpNo X53.here hx rfl (hb hby own_d_ranks_39) rfl (flt (by decide)).2.2.1 ?_
    show Steps p.tables e below (T53.setTop (mkF m 42 #[.val (.long q1), .second, .val (.int p2), .val (.long u2), .second, .val (.long u4), .second, .val (.int v50), .val (.int (7 : Int32))] [])) _
    refine XS.lload X53.here hx rfl (hb hby own_d_ranks_42) rfl ?_
    show Steps p.tables e below (T53.setTop (mkF m 44 #[.val (.long q1), .second, .val (.int p2), .val (.long u2), .second, .val (.long u4), .second, .val (.int v50), .val (.int (7 : Int32))] [(.long u4)])) _
    refine XS.iload X53.here hx rfl (hb hby own_d_ranks_44) rfl ?_
    show Steps p.tables e below (T53.setTop (mkF m 46 #[.val (.long q1), .second, .val (.int p2), .val (.long u2), .second, .val (.long u4), .second, .val (.int v50), .val (.int (7 : Int32))] [(.int (7 : Int32)), (.long u4)])) _
    refine XS.iconst X53.here hx rfl (hb hby own_d_ranks_46) ?_
    show Steps p.tables e below (T53.setTop (mkF m 47 #[.val (.long q1), .second, .val (.int p2), .val (.long u2), .second, .val (.long u4), .second, .val (.int v50), .val (.int (7 : Int32))] [(.int (1 : Int32)), (.int (7 : Int32)), (.long u4)])) _
    refine XS.isub X53.here hx rfl (hb hby own_d_ranks_47) rfl ?_
    show Steps p.tables e below (T53.setTop (mkF m 48 #[.val (.long q1), .second, .val (.int p2), .val (.long u2), .second, .val (.long u4), .second, .val (.int v50), .val (.int (7 : Int32))] [(.int (6 : Int32)), (.long u4)])) _
    refine st54 _ ?_
    show Steps p.tables e below (T54.setTop (mkF m 51 #[.val (.long q1), .second, .val (.int p2), .val (.long u2), .second, .val (.long u4), .second, .val (.int v50), .val (.int (7 : Int32))] [(.int (4 : Int32)), (.int (6 : Int32)), (.long u4)])) _
    refine XS.imul X54.here hx rfl (hb hby own_d_ranks_51) rfl ?_
    show Steps p.tables e below (T54.setTop (mkF m 52 #[.val (.long q1), .second, .val (.int p2), .val (.long u2), .second, .val (.long u4), .second, .val (.int v50), .val (.int (7 : Int32))] [(.int (24 : Int32)), (.long u4)])) _
    refine XS.lushr X54.here hx rfl (hb hby own_d_ranks_52) rfl ?_
    show Steps p.tables e below (T54.setTop (mkF m 53 #[.val (.long q1), .second, .val (.int p2), .val (.long u2), .second, .val (.long u4), .second, .val (.int v50), .val (.int (7 : Int32))] [(.long ((u4.toUInt64 >>> ((24 : Int32) &&& 0x3f).toInt64.toUInt64).toInt64))])) _
    refine st55 _ ?_
    show Steps p.tables e below (T55.setTop (mkF m 56 #[.val (.long q1), .second, .val (.int p2), .val (.long u2), .second, .val (.long u4), .second, .val (.int v50), .val (.int (7 : Int32))] [(.long (15 : Int64)), (.long ((u4.toUInt64 >>> ((24 : Int32) &&& 0x3f).toInt64.toUInt64).toInt64))])) _
    refine XS.land X55.here hx rfl (hb hby own_d_ranks_56) rfl ?_
    show Steps p.tables e below (T55.setTop (mkF m 57 #[.val (.long q1), .second, .val (.int p2), .val (.long u2), .second, .val (.long u4), .second, .val (.int v50), .val (.int (7 : Int32))] [(.long (((u4.toUInt64 >>> ((24 : Int32) &&& 0x3f).toInt64.toUInt64).toInt64) &&& (15 : Int64)))])) _
    refine XS.iloadN X55.here hx rfl (hb hby own_d_ranks_57) rfl ?_
    show Steps p.tables e below (T55.setTop (mkF m 58 #[.val (.long q1), .second, .val (.int p2), .val (.long u2), .second, .val (.long u4), .second, .val (.int v50), .val (.int (7 : Int32))] [(.int p2), (.long (((u4.toUInt64 >>> ((24 : Int32) &&& 0x3f).toInt64.toUInt64).toInt64) &&& (15 : Int64)))])) _
    refine XS.i2l X55.here hx rfl (hb hby own_d_ranks_58) rfl ?_
    show Steps p.tables e below (T55.setTop (mkF m 59 #[.val (.long q1), .second, .val (.int p2), .val (.long u2), .second, .val (.long u4), .second, .val (.int v50), .val (.int (7 : Int32))] [(.long (p2.toInt64)), (.long (((u4.toUInt64 >>> ((24 : Int32) &&& 0x3f).toInt64.toUInt64).toInt64) &&& (15 : Int64)))])) _
    refine XS.lcmp X55.here hx rfl (hb hby own_d_ranks_59) rfl ?_
    exact k)
  obtain ⟨v58, hv58⟩ : ∃ z : Int32, z = (if (((u4.toUInt64 >>> ((24 : Int32) &&& 0x3f).toInt64.toUInt64).toInt64) &&& (15 : Int64)) < (p2.toInt64) then v50 else (v50 ||| ((1 : Int32) <<< ((7 : Int32) &&& 31)))) := ⟨_, rfl⟩
  have way59 : ∀ t, Steps p.tables e below (T55.setTop (mkF m 72 #[.val (.long q1), .second, .val (.int p2), .val (.long u2), .second, .val (.long u4), .second, .val (.int v58), .val (.int (7 : Int32))] [])) t → Steps p.tables e below (s₁.setTop (entryFrame m #[(.long q1), (.int p2)] 9)) t := fun t k => way56 t (by
    by_cases hj57 : (((u4.toUInt64 >>> ((24 : Int32) &&& 0x3f).toInt64.toUInt64).toInt64) &&& (15 : Int64)) < (p2.toInt64)
    ·
      show Steps p.tables e below (T55.setTop (mkF m 60 #[.val (.long q1), .second, .val (.int p2), .val (.long u2), .second, .val (.long u4), .second, .val (.int v50), .val (.int (7 : Int32))] [(.int (lcmpW (((u4.toUInt64 >>> ((24 : Int32) &&& 0x3f).toInt64.toUInt64).toInt64) &&& (15 : Int64)) (p2.toInt64)))])) _
      refine XS.ifYes X55.here hx rfl (pc0 := 60) (pc' := 72) rfl (hb hby own_d_ranks_60) rfl ((if0 _ _).trans (tlt ((lw_lt _ _).mpr hj57)).1) (by decide) (by decide) ?_
      simp only [hv58, if_pos hj57] at k
      exact k
    ·
      show Steps p.tables e below (T55.setTop (mkF m 60 #[.val (.long q1), .second, .val (.int p2), .val (.long u2), .second, .val (.long u4), .second, .val (.int v50), .val (.int (7 : Int32))] [(.int (lcmpW (((u4.toUInt64 >>> ((24 : Int32) &&& 0x3f).toInt64.toUInt64).toInt64) &&& (15 : Int64)) (p2.toInt64)))])) _
      refine XS.ifNo X55.here hx rfl (hb hby own_d_ranks_60) rfl ((if0 _ _).trans (flt (fun q => hj57 ((lw_lt _ _).mp q))).1) ?_
      show Steps p.tables e below (T55.setTop (mkF m 63 #[.val (.long q1), .second, .val (.int p2), .val (.long u2), .second, .val (.long u4), .second, .val (.int v50), .val (.int (7 : Int32))] [])) _
      refine XS.iload X55.here hx rfl (hb hby own_d_ranks_63) rfl ?_
      show Steps p.tables e below (T55.setTop (mkF m 65 #[.val (.long q1), .second, .val (.int p2), .val (.long u2), .second, .val (.long u4), .second, .val (.int v50), .val (.int (7 : Int32))] [(.int v50)])) _
      refine XS.iconst X55.here hx rfl (hb hby own_d_ranks_65) ?_
      show Steps p.tables e below (T55.setTop (mkF m 66 #[.val (.long q1), .second, .val (.int p2), .val (.long u2), .second, .val (.long u4), .second, .val (.int v50), .val (.int (7 : Int32))] [(.int (1 : Int32)), (.int v50)])) _
      refine XS.iload X55.here hx rfl (hb hby own_d_ranks_66) rfl ?_
      show Steps p.tables e below (T55.setTop (mkF m 68 #[.val (.long q1), .second, .val (.int p2), .val (.long u2), .second, .val (.long u4), .second, .val (.int v50), .val (.int (7 : Int32))] [(.int (7 : Int32)), (.int (1 : Int32)), (.int v50)])) _
      refine XS.ishl X55.here hx rfl (hb hby own_d_ranks_68) rfl ?_
      show Steps p.tables e below (T55.setTop (mkF m 69 #[.val (.long q1), .second, .val (.int p2), .val (.long u2), .second, .val (.long u4), .second, .val (.int v50), .val (.int (7 : Int32))] [(.int ((1 : Int32) <<< ((7 : Int32) &&& 31))), (.int v50)])) _
      refine XS.ior X55.here hx rfl (hb hby own_d_ranks_69) rfl ?_
      show Steps p.tables e below (T55.setTop (mkF m 70 #[.val (.long q1), .second, .val (.int p2), .val (.long u2), .second, .val (.long u4), .second, .val (.int v50), .val (.int (7 : Int32))] [(.int (v50 ||| ((1 : Int32) <<< ((7 : Int32) &&& 31))))])) _
      refine XS.istore X55.here hx rfl (hb hby own_d_ranks_70) rfl (l' := #[.val (.long q1), .second, .val (.int p2), .val (.long u2), .second, .val (.long u4), .second, .val (.int (v50 ||| ((1 : Int32) <<< ((7 : Int32) &&& 31)))), .val (.int (7 : Int32))]) rfl ?_
      simp only [hv58, if_neg hj57] at k
      exact k)
  have hs60 : v58 = own_step u4 p2 (7 : Int32) (24 : Int32) v50 := hv58
  obtain ⟨T61, X61, e61, st61⟩ := getS2 X55 hx hZ hown (host := "") (Or.inl (hw _ (List.mem_of_getElem? (i := 7) rfl))) Via.refl e55 fS_CardBits_SUITS (g := (mkF m 33 #[.val (.long q1), .second, .val (.int p2), .val (.long u2), .second, .val (.long u4), .second, .val (.int v58), .val (.int (8 : Int32))] [(.int (8 : Int32))])) rfl (hb hby own_d_ranks_33)
  obtain ⟨T62, X62, e62, st62⟩ := getS2 X61 hx hZ hown (host := "") (Or.inl (hw _ (List.mem_of_getElem? (i := 7) rfl))) Via.refl e61 fS_CardBits_SUITS (g := (mkF m 48 #[.val (.long q1), .second, .val (.int p2), .val (.long u2), .second, .val (.long u4), .second, .val (.int v58), .val (.int (8 : Int32))] [(.int (7 : Int32)), (.long u4)])) rfl (hb hby own_d_ranks_48)
  obtain ⟨T63, X63, e63, st63⟩ := getS2 X62 hx hZ hown (host := "") (Or.inl (hw _ (List.mem_of_getElem? (i := 9) rfl))) Via.refl e62 fS_CardBits_ACES (g := (mkF m 53 #[.val (.long q1), .second, .val (.int p2), .val (.long u2), .second, .val (.long u4), .second, .val (.int v58), .val (.int (8 : Int32))] [(.long ((u4.toUInt64 >>> ((28 : Int32) &&& 0x3f).toInt64.toUInt64).toInt64))])) rfl (hb hby own_d_ranks_53)
  have way64 : ∀ t, Steps p.tables e below (T63.setTop (mkF m 60 #[.val (.long q1), .second, .val (.int p2), .val (.long u2), .second, .val (.long u4), .second, .val (.int v58), .val (.int (8 : Int32))] [(.int (lcmpW (((u4.toUInt64 >>> ((28 : Int32) &&& 0x3f).toInt64.toUInt64).toInt64) &&& (15 : Int64)) (p2.toInt64)))])) t → Steps p.tables e below (s₁.setTop (entryFrame m #[(.long q1), (.int p2)] 9)) t := fun t k => way59 t (by
    show Steps p.tables e below (T55.setTop (mkF m 72 #[.val (.long q1), .second, .val (.int p2), .val (.long u2), .second, .val (.long u4), .second, .val (.int v58), .val (.int (7 : Int32))] [])) _
    refine XS.iinc X55.here hx rfl (hb hby own_d_ranks_72) rfl (l' := #[.val (.long q1), .second, .val (.int p2), .val (.long u2), .second, .val (.long u4), .second, .val (.int v58), .val (.int (8 : Int32))]) rfl ?_
    show Steps p.tables e below (T55.setTop (mkF m 75 #[.val (.long q1), .second, .val (.int p2), .val (.long u2), .second, .val (.long u4), .second, .val (.int v58), .val (.int (8 : Int32))] [])) _
    refine XS.goto X55.here hx rfl (pc0 := 75) (pc' := 31) rfl (hb hby own_d_ranks_75) (by decide) (by decide) ?_
    show Steps p.tables e below (T55.setTop (mkF m 31 #[.val (.long q1), .second, .val (.int p2), .val (.long u2), .second, .val (.long u4), .second, .val (.int v58), .val (.int (8 : Int32))] [])) _
    refine XS.iload X55.here hx rfl (hb hby own_d_ranks_31) rfl ?_
    show Steps p.tables e below (T55.setTop (mkF m 33 #[.val (.long q1), .second, .val (.int p2), .val (.long u2), .second, .val (.long u4), .second, .val (.int v58), .val (.int (8 : Int32))] [(.int (8 : Int32))])) _
    refine st61 _ ?_
    show Steps p.tables e below (T61.setTop (mkF m 36 #[.val (.long q1), .second, .val (.int p2), .val (.long u2), .second, .val (.long u4), .second, .val (.int v58), .val (.int (8 : Int32))] [(.int (4 : Int32)), (.int (8 : Int32))])) _
    refine XS.imul X61.here hx rfl (hb hby own_d_ranks_36) rfl ?_
    show Steps p.tables e below (T61.setTop (mkF m 37 #[.val (.long q1), .second, .val (.int p2), .val (.long u2), .second, .val (.long u4), .second, .val (.int v58), .val (.int (8 : Int32))] [(.int (32 : Int32))])) _
    refine XS.bipush X61.here hx rfl (hb hby own_d_ranks_37) ?_
    show Steps p.tables e below (T61.setTop (mkF m 39 #[.val (.long q1), .second, .val (.int p2), .val (.long u2), .second, .val (.long u4), .second, .val (.int v58), .val (.int (8 : Int32))] [(.int (52 : Int32)), (.int (32 : Int32))])) _
    refine XS.icmpNo X61.here hx rfl (hb hby own_d_ranks_39) rfl (flt (by decide)).2.2.1 ?_
    show Steps p.tables e below (T61.setTop (mkF m 42 #[.val (.long q1), .second, .val (.int p2), .val (.long u2), .second, .val (.long u4), .second, .val (.int v58), .val (.int (8 : Int32))] [])) _
    refine XS.lload X61.here hx rfl (hb hby own_d_ranks_42) rfl ?_
    show Steps p.tables e below (T61.setTop (mkF m 44 #[.val (.long q1), .second, .val (.int p2), .val (.long u2), .second, .val (.long u4), .second, .val (.int v58), .val (.int (8 : Int32))] [(.long u4)])) _
    refine XS.iload X61.here hx rfl (hb hby own_d_ranks_44) rfl ?_
    show Steps p.tables e below (T61.setTop (mkF m 46 #[.val (.long q1), .second, .val (.int p2), .val (.long u2), .second, .val (.long u4), .second, .val (.int v58), .val (.int (8 : Int32))] [(.int (8 : Int32)), (.long u4)])) _
    refine XS.iconst X61.here hx rfl (hb hby own_d_ranks_46) ?_
    show Steps p.tables e below (T61.setTop (mkF m 47 #[.val (.long q1), .second, .val (.int p2), .val (.long u2), .second, .val (.long u4), .second, .val (.int v58), .val (.int (8 : Int32))] [(.int (1 : Int32)), (.int (8 : Int32)), (.long u4)])) _
    refine XS.isub X61.here hx rfl (hb hby own_d_ranks_47) rfl ?_
    show Steps p.tables e below (T61.setTop (mkF m 48 #[.val (.long q1), .second, .val (.int p2), .val (.long u2), .second, .val (.long u4), .second, .val (.int v58), .val (.int (8 : Int32))] [(.int (7 : Int32)), (.long u4)])) _
    refine st62 _ ?_
    show Steps p.tables e below (T62.setTop (mkF m 51 #[.val (.long q1), .second, .val (.int p2), .val (.long u2), .second, .val (.long u4), .second, .val (.int v58), .val (.int (8 : Int32))] [(.int (4 : Int32)), (.int (7 : Int32)), (.long u4)])) _
    refine XS.imul X62.here hx rfl (hb hby own_d_ranks_51) rfl ?_
    show Steps p.tables e below (T62.setTop (mkF m 52 #[.val (.long q1), .second, .val (.int p2), .val (.long u2), .second, .val (.long u4), .second, .val (.int v58), .val (.int (8 : Int32))] [(.int (28 : Int32)), (.long u4)])) _
    refine XS.lushr X62.here hx rfl (hb hby own_d_ranks_52) rfl ?_
    show Steps p.tables e below (T62.setTop (mkF m 53 #[.val (.long q1), .second, .val (.int p2), .val (.long u2), .second, .val (.long u4), .second, .val (.int v58), .val (.int (8 : Int32))] [(.long ((u4.toUInt64 >>> ((28 : Int32) &&& 0x3f).toInt64.toUInt64).toInt64))])) _
    refine st63 _ ?_
    show Steps p.tables e below (T63.setTop (mkF m 56 #[.val (.long q1), .second, .val (.int p2), .val (.long u2), .second, .val (.long u4), .second, .val (.int v58), .val (.int (8 : Int32))] [(.long (15 : Int64)), (.long ((u4.toUInt64 >>> ((28 : Int32) &&& 0x3f).toInt64.toUInt64).toInt64))])) _
    refine XS.land X63.here hx rfl (hb hby own_d_ranks_56) rfl ?_
    show Steps p.tables e below (T63.setTop (mkF m 57 #[.val (.long q1), .second, .val (.int p2), .val (.long u2), .second, .val (.long u4), .second, .val (.int v58), .val (.int (8 : Int32))] [(.long (((u4.toUInt64 >>> ((28 : Int32) &&& 0x3f).toInt64.toUInt64).toInt64) &&& (15 : Int64)))])) _
    refine XS.iloadN X63.here hx rfl (hb hby own_d_ranks_57) rfl ?_
    show Steps p.tables e below (T63.setTop (mkF m 58 #[.val (.long q1), .second, .val (.int p2), .val (.long u2), .second, .val (.long u4), .second, .val (.int v58), .val (.int (8 : Int32))] [(.int p2), (.long (((u4.toUInt64 >>> ((28 : Int32) &&& 0x3f).toInt64.toUInt64).toInt64) &&& (15 : Int64)))])) _
    refine XS.i2l X63.here hx rfl (hb hby own_d_ranks_58) rfl ?_
    show Steps p.tables e below (T63.setTop (mkF m 59 #[.val (.long q1), .second, .val (.int p2), .val (.long u2), .second, .val (.long u4), .second, .val (.int v58), .val (.int (8 : Int32))] [(.long (p2.toInt64)), (.long (((u4.toUInt64 >>> ((28 : Int32) &&& 0x3f).toInt64.toUInt64).toInt64) &&& (15 : Int64)))])) _
    refine XS.lcmp X63.here hx rfl (hb hby own_d_ranks_59) rfl ?_
    exact k)
  obtain ⟨v66, hv66⟩ : ∃ z : Int32, z = (if (((u4.toUInt64 >>> ((28 : Int32) &&& 0x3f).toInt64.toUInt64).toInt64) &&& (15 : Int64)) < (p2.toInt64) then v58 else (v58 ||| ((1 : Int32) <<< ((8 : Int32) &&& 31)))) := ⟨_, rfl⟩
  have way67 : ∀ t, Steps p.tables e below (T63.setTop (mkF m 72 #[.val (.long q1), .second, .val (.int p2), .val (.long u2), .second, .val (.long u4), .second, .val (.int v66), .val (.int (8 : Int32))] [])) t → Steps p.tables e below (s₁.setTop (entryFrame m #[(.long q1), (.int p2)] 9)) t := fun t k => way64 t (by
    by_cases hj65 : (((u4.toUInt64 >>> ((28 : Int32) &&& 0x3f).toInt64.toUInt64).toInt64) &&& (15 : Int64)) < (p2.toInt64)
    ·
      show Steps p.tables e below (T63.setTop (mkF m 60 #[.val (.long q1), .second, .val (.int p2), .val (.long u2), .second, .val (.long u4), .second, .val (.int v58), .val (.int (8 : Int32))] [(.int (lcmpW (((u4.toUInt64 >>> ((28 : Int32) &&& 0x3f).toInt64.toUInt64).toInt64) &&& (15 : Int64)) (p2.toInt64)))])) _
      refine XS.ifYes X63.here hx rfl (pc0 := 60) (pc' := 72) rfl (hb hby own_d_ranks_60) rfl ((if0 _ _).trans (tlt ((lw_lt _ _).mpr hj65)).1) (by decide) (by decide) ?_
      simp only [hv66, if_pos hj65] at k
      exact k
    ·
      show Steps p.tables e below (T63.setTop (mkF m 60 #[.val (.long q1), .second, .val (.int p2), .val (.long u2), .second, .val (.long u4), .second, .val (.int v58), .val (.int (8 : Int32))] [(.int (lcmpW (((u4.toUInt64 >>> ((28 : Int32) &&& 0x3f).toInt64.toUInt64).toInt64) &&& (15 : Int64)) (p2.toInt64)))])) _
      refine XS.ifNo X63.here hx rfl (hb hby own_d_ranks_60) rfl ((if0 _ _).trans (flt (fun q => hj65 ((lw_lt _ _).mp q))).1) ?_
      show Steps p.tables e below (T63.setTop (mkF m 63 #[.val (.long q1), .second, .val (.int p2), .val (.long u2), .second, .val (.long u4), .second, .val (.int v58), .val (.int (8 : Int32))] [])) _
      refine XS.iload X63.here hx rfl (hb hby own_d_ranks_63) rfl ?_
      show Steps p.tables e below (T63.setTop (mkF m 65 #[.val (.long q1), .second, .val (.int p2), .val (.long u2), .second, .val (.long u4), .second, .val (.int v58), .val (.int (8 : Int32))] [(.int v58)])) _
      refine XS.iconst X63.here hx rfl (hb hby own_d_ranks_65) ?_
      show Steps p.tables e below (T63.setTop (mkF m 66 #[.val (.long q1), .second, .val (.int p2), .val (.long u2), .second, .val (.long u4), .second, .val (.int v58), .val (.int (8 : Int32))] [(.int (1 : Int32)), (.int v58)])) _
      refine XS.iload X63.here hx rfl (hb hby own_d_ranks_66) rfl ?_
      show Steps p.tables e below (T63.setTop (mkF m 68 #[.val (.long q1), .second, .val (.int p2), .val (.long u2), .second, .val (.long u4), .second, .val (.int v58), .val (.int (8 : Int32))] [(.int (8 : Int32)), (.int (1 : Int32)), (.int v58)])) _
      refine XS.ishl X63.here hx rfl (hb hby own_d_ranks_68) rfl ?_
      show Steps p.tables e below (T63.setTop (mkF m 69 #[.val (.long q1), .second, .val (.int p2), .val (.long u2), .second, .val (.long u4), .second, .val (.int v58), .val (.int (8 : Int32))] [(.int ((1 : Int32) <<< ((8 : Int32) &&& 31))), (.int v58)])) _
      refine XS.ior X63.here hx rfl (hb hby own_d_ranks_69) rfl ?_
      show Steps p.tables e below (T63.setTop (mkF m 70 #[.val (.long q1), .second, .val (.int p2), .val (.long u2), .second, .val (.long u4), .second, .val (.int v58), .val (.int (8 : Int32))] [(.int (v58 ||| ((1 : Int32) <<< ((8 : Int32) &&& 31))))])) _
      refine XS.istore X63.here hx rfl (hb hby own_d_ranks_70) rfl (l' := #[.val (.long q1), .second, .val (.int p2), .val (.long u2), .second, .val (.long u4), .second, .val (.int (v58 ||| ((1 : Int32) <<< ((8 : Int32) &&& 31)))), .val (.int (8 : Int32))]) rfl ?_
      simp only [hv66, if_neg hj65] at k
      exact k)
  have hs68 : v66 = own_step u4 p2 (8 : Int32) (28 : Int32) v58 := hv66
  obtain ⟨T69, X69, e69, st69⟩ := getS2 X63 hx hZ hown (host := "") (Or.inl (hw _ (List.mem_of_getElem? (i := 7) rfl))) Via.refl e63 fS_CardBits_SUITS (g := (mkF m 33 #[.val (.long q1), .second, .val (.int p2), .val (.long u2), .second, .val (.long u4), .second, .val (.int v66), .val (.int (9 : Int32))] [(.int (9 : Int32))])) rfl (hb hby own_d_ranks_33)
  obtain ⟨T70, X70, e70, st70⟩ := getS2 X69 hx hZ hown (host := "") (Or.inl (hw _ (List.mem_of_getElem? (i := 7) rfl))) Via.refl e69 fS_CardBits_SUITS (g := (mkF m 48 #[.val (.long q1), .second, .val (.int p2), .val (.long u2), .second, .val (.long u4), .second, .val (.int v66), .val (.int (9 : Int32))] [(.int (8 : Int32)), (.long u4)])) rfl (hb hby own_d_ranks_48)
  obtain ⟨T71, X71, e71, st71⟩ := getS2 X70 hx hZ hown (host := "") (Or.inl (hw _ (List.mem_of_getElem? (i := 9) rfl))) Via.refl e70 fS_CardBits_ACES (g := (mkF m 53 #[.val (.long q1), .second, .val (.int p2), .val (.long u2), .second, .val (.long u4), .second, .val (.int v66), .val (.int (9 : Int32))] [(.long ((u4.toUInt64 >>> ((32 : Int32) &&& 0x3f).toInt64.toUInt64).toInt64))])) rfl (hb hby own_d_ranks_53)
  have way72 : ∀ t, Steps p.tables e below (T71.setTop (mkF m 60 #[.val (.long q1), .second, .val (.int p2), .val (.long u2), .second, .val (.long u4), .second, .val (.int v66), .val (.int (9 : Int32))] [(.int (lcmpW (((u4.toUInt64 >>> ((32 : Int32) &&& 0x3f).toInt64.toUInt64).toInt64) &&& (15 : Int64)) (p2.toInt64)))])) t → Steps p.tables e below (s₁.setTop (entryFrame m #[(.long q1), (.int p2)] 9)) t := fun t k => way67 t (by
    show Steps p.tables e below (T63.setTop (mkF m 72 #[.val (.long q1), .second, .val (.int p2), .val (.long u2), .second, .val (.long u4), .second, .val (.int v66), .val (.int (8 : Int32))] [])) _
    refine XS.iinc X63.here hx rfl (hb hby own_d_ranks_72) rfl (l' := #[.val (.long q1), .second, .val (.int p2), .val (.long u2), .second, .val (.long u4), .second, .val (.int v66), .val (.int (9 : Int32))]) rfl ?_
    show Steps p.tables e below (T63.setTop (mkF m 75 #[.val (.long q1), .second, .val (.int p2), .val (.long u2), .second, .val (.long u4), .second, .val (.int v66), .val (.int (9 : Int32))] [])) _
    refine XS.goto X63.here hx rfl (pc0 := 75) (pc' := 31) rfl (hb hby own_d_ranks_75) (by decide) (by decide) ?_
    show Steps p.tables e below (T63.setTop (mkF m 31 #[.val (.long q1), .second, .val (.int p2), .val (.long u2), .second, .val (.long u4), .second, .val (.int v66), .val (.int (9 : Int32))] [])) _
    refine XS.iload X63.here hx rfl (hb hby own_d_ranks_31) rfl ?_
    show Steps p.tables e below (T63.setTop (mkF m 33 #[.val (.long q1), .second, .val (.int p2), .val (.long u2), .second, .val (.long u4), .second, .val (.int v66), .val (.int (9 : Int32))] [(.int (9 : Int32))])) _
    refine st69 _ ?_
    show Steps p.tables e below (T69.setTop (mkF m 36 #[.val (.long q1), .second, .val (.int p2), .val (.long u2), .second, .val (.long u4), .second, .val (.int v66), .val (.int (9 : Int32))] [(.int (4 : Int32)), (.int (9 : Int32))])) _
    refine XS.imul X69.here hx rfl (hb hby own_d_ranks_36) rfl ?_
    show Steps p.tables e below (T69.setTop (mkF m 37 #[.val (.long q1), .second, .val (.int p2), .val (.long u2), .second, .val (.long u4), .second, .val (.int v66), .val (.int (9 : Int32))] [(.int (36 : Int32))])) _
    refine XS.bipush X69.here hx rfl (hb hby own_d_ranks_37) ?_
    show Steps p.tables e below (T69.setTop (mkF m 39 #[.val (.long q1), .second, .val (.int p2), .val (.long u2), .second, .val (.long u4), .second, .val (.int v66), .val (.int (9 : Int32))] [(.int (52 : Int32)), (.int (36 : Int32))])) _
    refine XS.icmpNo X69.here hx rfl (hb hby own_d_ranks_39) rfl (flt (by decide)).2.2.1 ?_
    show Steps p.tables e below (T69.setTop (mkF m 42 #[.val (.long q1), .second, .val (.int p2), .val (.long u2), .second, .val (.long u4), .second, .val (.int v66), .val (.int (9 : Int32))] [])) _
    refine XS.lload X69.here hx rfl (hb hby own_d_ranks_42) rfl ?_
    show Steps p.tables e below (T69.setTop (mkF m 44 #[.val (.long q1), .second, .val (.int p2), .val (.long u2), .second, .val (.long u4), .second, .val (.int v66), .val (.int (9 : Int32))] [(.long u4)])) _
    refine XS.iload X69.here hx rfl (hb hby own_d_ranks_44) rfl ?_
    show Steps p.tables e below (T69.setTop (mkF m 46 #[.val (.long q1), .second, .val (.int p2), .val (.long u2), .second, .val (.long u4), .second, .val (.int v66), .val (.int (9 : Int32))] [(.int (9 : Int32)), (.long u4)])) _
    refine XS.iconst X69.here hx rfl (hb hby own_d_ranks_46) ?_
    show Steps p.tables e below (T69.setTop (mkF m 47 #[.val (.long q1), .second, .val (.int p2), .val (.long u2), .second, .val (.long u4), .second, .val (.int v66), .val (.int (9 : Int32))] [(.int (1 : Int32)), (.int (9 : Int32)), (.long u4)])) _
    refine XS.isub X69.here hx rfl (hb hby own_d_ranks_47) rfl ?_
    show Steps p.tables e below (T69.setTop (mkF m 48 #[.val (.long q1), .second, .val (.int p2), .val (.long u2), .second, .val (.long u4), .second, .val (.int v66), .val (.int (9 : Int32))] [(.int (8 : Int32)), (.long u4)])) _
    refine st70 _ ?_
    show Steps p.tables e below (T70.setTop (mkF m 51 #[.val (.long q1), .second, .val (.int p2), .val (.long u2), .second, .val (.long u4), .second, .val (.int v66), .val (.int (9 : Int32))] [(.int (4 : Int32)), (.int (8 : Int32)), (.long u4)])) _
    refine XS.imul X70.here hx rfl (hb hby own_d_ranks_51) rfl ?_
    show Steps p.tables e below (T70.setTop (mkF m 52 #[.val (.long q1), .second, .val (.int p2), .val (.long u2), .second, .val (.long u4), .second, .val (.int v66), .val (.int (9 : Int32))] [(.int (32 : Int32)), (.long u4)])) _
    refine XS.lushr X70.here hx rfl (hb hby own_d_ranks_52) rfl ?_
    show Steps p.tables e below (T70.setTop (mkF m 53 #[.val (.long q1), .second, .val (.int p2), .val (.long u2), .second, .val (.long u4), .second, .val (.int v66), .val (.int (9 : Int32))] [(.long ((u4.toUInt64 >>> ((32 : Int32) &&& 0x3f).toInt64.toUInt64).toInt64))])) _
    refine st71 _ ?_
    show Steps p.tables e below (T71.setTop (mkF m 56 #[.val (.long q1), .second, .val (.int p2), .val (.long u2), .second, .val (.long u4), .second, .val (.int v66), .val (.int (9 : Int32))] [(.long (15 : Int64)), (.long ((u4.toUInt64 >>> ((32 : Int32) &&& 0x3f).toInt64.toUInt64).toInt64))])) _
    refine XS.land X71.here hx rfl (hb hby own_d_ranks_56) rfl ?_
    show Steps p.tables e below (T71.setTop (mkF m 57 #[.val (.long q1), .second, .val (.int p2), .val (.long u2), .second, .val (.long u4), .second, .val (.int v66), .val (.int (9 : Int32))] [(.long (((u4.toUInt64 >>> ((32 : Int32) &&& 0x3f).toInt64.toUInt64).toInt64) &&& (15 : Int64)))])) _
    refine XS.iloadN X71.here hx rfl (hb hby own_d_ranks_57) rfl ?_
    show Steps p.tables e below (T71.setTop (mkF m 58 #[.val (.long q1), .second, .val (.int p2), .val (.long u2), .second, .val (.long u4), .second, .val (.int v66), .val (.int (9 : Int32))] [(.int p2), (.long (((u4.toUInt64 >>> ((32 : Int32) &&& 0x3f).toInt64.toUInt64).toInt64) &&& (15 : Int64)))])) _
    refine XS.i2l X71.here hx rfl (hb hby own_d_ranks_58) rfl ?_
    show Steps p.tables e below (T71.setTop (mkF m 59 #[.val (.long q1), .second, .val (.int p2), .val (.long u2), .second, .val (.long u4), .second, .val (.int v66), .val (.int (9 : Int32))] [(.long (p2.toInt64)), (.long (((u4.toUInt64 >>> ((32 : Int32) &&& 0x3f).toInt64.toUInt64).toInt64) &&& (15 : Int64)))])) _
    refine XS.lcmp X71.here hx rfl (hb hby own_d_ranks_59) rfl ?_
    exact k)
  obtain ⟨v74, hv74⟩ : ∃ z : Int32, z = (if (((u4.toUInt64 >>> ((32 : Int32) &&& 0x3f).toInt64.toUInt64).toInt64) &&& (15 : Int64)) < (p2.toInt64) then v66 else (v66 ||| ((1 : Int32) <<< ((9 : Int32) &&& 31)))) := ⟨_, rfl⟩
  have way75 : ∀ t, Steps p.tables e below (T71.setTop (mkF m 72 #[.val (.long q1), .second, .val (.int p2), .val (.long u2), .second, .val (.long u4), .second, .val (.int v74), .val (.int (9 : Int32))] [])) t → Steps p.tables e below (s₁.setTop (entryFrame m #[(.long q1), (.int p2)] 9)) t := fun t k => way72 t (by
    by_cases hj73 : (((u4.toUInt64 >>> ((32 : Int32) &&& 0x3f).toInt64.toUInt64).toInt64) &&& (15 : Int64)) < (p2.toInt64)
    ·
      show Steps p.tables e below (T71.setTop (mkF m 60 #[.val (.long q1), .second, .val (.int p2), .val (.long u2), .second, .val (.long u4), .second, .val (.int v66), .val (.int (9 : Int32))] [(.int (lcmpW (((u4.toUInt64 >>> ((32 : Int32) &&& 0x3f).toInt64.toUInt64).toInt64) &&& (15 : Int64)) (p2.toInt64)))])) _
      refine XS.ifYes X71.here hx rfl (pc0 := 60) (pc' := 72) rfl (hb hby own_d_ranks_60) rfl ((if0 _ _).trans (tlt ((lw_lt _ _).mpr hj73)).1) (by decide) (by decide) ?_
      simp only [hv74, if_pos hj73] at k
      exact k
    ·
      show Steps p.tables e below (T71.setTop (mkF m 60 #[.val (.long q1), .second, .val (.int p2), .val (.long u2), .second, .val (.long u4), .second, .val (.int v66), .val (.int (9 : Int32))] [(.int (lcmpW (((u4.toUInt64 >>> ((32 : Int32) &&& 0x3f).toInt64.toUInt64).toInt64) &&& (15 : Int64)) (p2.toInt64)))])) _
      refine XS.ifNo X71.here hx rfl (hb hby own_d_ranks_60) rfl ((if0 _ _).trans (flt (fun q => hj73 ((lw_lt _ _).mp q))).1) ?_
      show Steps p.tables e below (T71.setTop (mkF m 63 #[.val (.long q1), .second, .val (.int p2), .val (.long u2), .second, .val (.long u4), .second, .val (.int v66), .val (.int (9 : Int32))] [])) _
      refine XS.iload X71.here hx rfl (hb hby own_d_ranks_63) rfl ?_
      show Steps p.tables e below (T71.setTop (mkF m 65 #[.val (.long q1), .second, .val (.int p2), .val (.long u2), .second, .val (.long u4), .second, .val (.int v66), .val (.int (9 : Int32))] [(.int v66)])) _
      refine XS.iconst X71.here hx rfl (hb hby own_d_ranks_65) ?_
      show Steps p.tables e below (T71.setTop (mkF m 66 #[.val (.long q1), .second, .val (.int p2), .val (.long u2), .second, .val (.long u4), .second, .val (.int v66), .val (.int (9 : Int32))] [(.int (1 : Int32)), (.int v66)])) _
      refine XS.iload X71.here hx rfl (hb hby own_d_ranks_66) rfl ?_
      show Steps p.tables e below (T71.setTop (mkF m 68 #[.val (.long q1), .second, .val (.int p2), .val (.long u2), .second, .val (.long u4), .second, .val (.int v66), .val (.int (9 : Int32))] [(.int (9 : Int32)), (.int (1 : Int32)), (.int v66)])) _
      refine XS.ishl X71.here hx rfl (hb hby own_d_ranks_68) rfl ?_
      show Steps p.tables e below (T71.setTop (mkF m 69 #[.val (.long q1), .second, .val (.int p2), .val (.long u2), .second, .val (.long u4), .second, .val (.int v66), .val (.int (9 : Int32))] [(.int ((1 : Int32) <<< ((9 : Int32) &&& 31))), (.int v66)])) _
      refine XS.ior X71.here hx rfl (hb hby own_d_ranks_69) rfl ?_
      show Steps p.tables e below (T71.setTop (mkF m 70 #[.val (.long q1), .second, .val (.int p2), .val (.long u2), .second, .val (.long u4), .second, .val (.int v66), .val (.int (9 : Int32))] [(.int (v66 ||| ((1 : Int32) <<< ((9 : Int32) &&& 31))))])) _
      refine XS.istore X71.here hx rfl (hb hby own_d_ranks_70) rfl (l' := #[.val (.long q1), .second, .val (.int p2), .val (.long u2), .second, .val (.long u4), .second, .val (.int (v66 ||| ((1 : Int32) <<< ((9 : Int32) &&& 31)))), .val (.int (9 : Int32))]) rfl ?_
      simp only [hv74, if_neg hj73] at k
      exact k)
  have hs76 : v74 = own_step u4 p2 (9 : Int32) (32 : Int32) v66 := hv74
  obtain ⟨T77, X77, e77, st77⟩ := getS2 X71 hx hZ hown (host := "") (Or.inl (hw _ (List.mem_of_getElem? (i := 7) rfl))) Via.refl e71 fS_CardBits_SUITS (g := (mkF m 33 #[.val (.long q1), .second, .val (.int p2), .val (.long u2), .second, .val (.long u4), .second, .val (.int v74), .val (.int (10 : Int32))] [(.int (10 : Int32))])) rfl (hb hby own_d_ranks_33)
  obtain ⟨T78, X78, e78, st78⟩ := getS2 X77 hx hZ hown (host := "") (Or.inl (hw _ (List.mem_of_getElem? (i := 7) rfl))) Via.refl e77 fS_CardBits_SUITS (g := (mkF m 48 #[.val (.long q1), .second, .val (.int p2), .val (.long u2), .second, .val (.long u4), .second, .val (.int v74), .val (.int (10 : Int32))] [(.int (9 : Int32)), (.long u4)])) rfl (hb hby own_d_ranks_48)
  obtain ⟨T79, X79, e79, st79⟩ := getS2 X78 hx hZ hown (host := "") (Or.inl (hw _ (List.mem_of_getElem? (i := 9) rfl))) Via.refl e78 fS_CardBits_ACES (g := (mkF m 53 #[.val (.long q1), .second, .val (.int p2), .val (.long u2), .second, .val (.long u4), .second, .val (.int v74), .val (.int (10 : Int32))] [(.long ((u4.toUInt64 >>> ((36 : Int32) &&& 0x3f).toInt64.toUInt64).toInt64))])) rfl (hb hby own_d_ranks_53)
  have way80 : ∀ t, Steps p.tables e below (T79.setTop (mkF m 60 #[.val (.long q1), .second, .val (.int p2), .val (.long u2), .second, .val (.long u4), .second, .val (.int v74), .val (.int (10 : Int32))] [(.int (lcmpW (((u4.toUInt64 >>> ((36 : Int32) &&& 0x3f).toInt64.toUInt64).toInt64) &&& (15 : Int64)) (p2.toInt64)))])) t → Steps p.tables e below (s₁.setTop (entryFrame m #[(.long q1), (.int p2)] 9)) t := fun t k => way75 t (by
    show Steps p.tables e below (T71.setTop (mkF m 72 #[.val (.long q1), .second, .val (.int p2), .val (.long u2), .second, .val (.long u4), .second, .val (.int v74), .val (.int (9 : Int32))] [])) _
    refine XS.iinc X71.here hx rfl (hb hby own_d_ranks_72) rfl (l' := #[.val (.long q1), .second, .val (.int p2), .val (.long u2), .second, .val (.long u4), .second, .val (.int v74), .val (.int (10 : Int32))]) rfl ?_
    show Steps p.tables e below (T71.setTop (mkF m 75 #[.val (.long q1), .second, .val (.int p2), .val (.long u2), .second, .val (.long u4), .second, .val (.int v74), .val (.int (10 : Int32))] [])) _
    refine XS.goto X71.here hx rfl (pc0 := 75) (pc' := 31) rfl (hb hby own_d_ranks_75) (by decide) (by decide) ?_
    show Steps p.tables e below (T71.setTop (mkF m 31 #[.val (.long q1), .second, .val (.int p2), .val (.long u2), .second, .val (.long u4), .second, .val (.int v74), .val (.int (10 : Int32))] [])) _
    refine XS.iload X71.here hx rfl (hb hby own_d_ranks_31) rfl ?_
    show Steps p.tables e below (T71.setTop (mkF m 33 #[.val (.long q1), .second, .val (.int p2), .val (.long u2), .second, .val (.long u4), .second, .val (.int v74), .val (.int (10 : Int32))] [(.int (10 : Int32))])) _
    refine st77 _ ?_
    show Steps p.tables e below (T77.setTop (mkF m 36 #[.val (.long q1), .second, .val (.int p2), .val (.long u2), .second, .val (.long u4), .second, .val (.int v74), .val (.int (10 : Int32))] [(.int (4 : Int32)), (.int (10 : Int32))])) _
    refine XS.imul X77.here hx rfl (hb hby own_d_ranks_36) rfl ?_
    show Steps p.tables e below (T77.setTop (mkF m 37 #[.val (.long q1), .second, .val (.int p2), .val (.long u2), .second, .val (.long u4), .second, .val (.int v74), .val (.int (10 : Int32))] [(.int (40 : Int32))])) _
    refine XS.bipush X77.here hx rfl (hb hby own_d_ranks_37) ?_
    show Steps p.tables e below (T77.setTop (mkF m 39 #[.val (.long q1), .second, .val (.int p2), .val (.long u2), .second, .val (.long u4), .second, .val (.int v74), .val (.int (10 : Int32))] [(.int (52 : Int32)), (.int (40 : Int32))])) _
    refine XS.icmpNo X77.here hx rfl (hb hby own_d_ranks_39) rfl (flt (by decide)).2.2.1 ?_
    show Steps p.tables e below (T77.setTop (mkF m 42 #[.val (.long q1), .second, .val (.int p2), .val (.long u2), .second, .val (.long u4), .second, .val (.int v74), .val (.int (10 : Int32))] [])) _
    refine XS.lload X77.here hx rfl (hb hby own_d_ranks_42) rfl ?_
    show Steps p.tables e below (T77.setTop (mkF m 44 #[.val (.long q1), .second, .val (.int p2), .val (.long u2), .second, .val (.long u4), .second, .val (.int v74), .val (.int (10 : Int32))] [(.long u4)])) _
    refine XS.iload X77.here hx rfl (hb hby own_d_ranks_44) rfl ?_
    show Steps p.tables e below (T77.setTop (mkF m 46 #[.val (.long q1), .second, .val (.int p2), .val (.long u2), .second, .val (.long u4), .second, .val (.int v74), .val (.int (10 : Int32))] [(.int (10 : Int32)), (.long u4)])) _
    refine XS.iconst X77.here hx rfl (hb hby own_d_ranks_46) ?_
    show Steps p.tables e below (T77.setTop (mkF m 47 #[.val (.long q1), .second, .val (.int p2), .val (.long u2), .second, .val (.long u4), .second, .val (.int v74), .val (.int (10 : Int32))] [(.int (1 : Int32)), (.int (10 : Int32)), (.long u4)])) _
    refine XS.isub X77.here hx rfl (hb hby own_d_ranks_47) rfl ?_
    show Steps p.tables e below (T77.setTop (mkF m 48 #[.val (.long q1), .second, .val (.int p2), .val (.long u2), .second, .val (.long u4), .second, .val (.int v74), .val (.int (10 : Int32))] [(.int (9 : Int32)), (.long u4)])) _
    refine st78 _ ?_
    show Steps p.tables e below (T78.setTop (mkF m 51 #[.val (.long q1), .second, .val (.int p2), .val (.long u2), .second, .val (.long u4), .second, .val (.int v74), .val (.int (10 : Int32))] [(.int (4 : Int32)), (.int (9 : Int32)), (.long u4)])) _
    refine XS.imul X78.here hx rfl (hb hby own_d_ranks_51) rfl ?_
    show Steps p.tables e below (T78.setTop (mkF m 52 #[.val (.long q1), .second, .val (.int p2), .val (.long u2), .second, .val (.long u4), .second, .val (.int v74), .val (.int (10 : Int32))] [(.int (36 : Int32)), (.long u4)])) _
    refine XS.lushr X78.here hx rfl (hb hby own_d_ranks_52) rfl ?_
    show Steps p.tables e below (T78.setTop (mkF m 53 #[.val (.long q1), .second, .val (.int p2), .val (.long u2), .second, .val (.long u4), .second, .val (.int v74), .val (.int (10 : Int32))] [(.long ((u4.toUInt64 >>> ((36 : Int32) &&& 0x3f).toInt64.toUInt64).toInt64))])) _
    refine st79 _ ?_
    show Steps p.tables e below (T79.setTop (mkF m 56 #[.val (.long q1), .second, .val (.int p2), .val (.long u2), .second, .val (.long u4), .second, .val (.int v74), .val (.int (10 : Int32))] [(.long (15 : Int64)), (.long ((u4.toUInt64 >>> ((36 : Int32) &&& 0x3f).toInt64.toUInt64).toInt64))])) _
    refine XS.land X79.here hx rfl (hb hby own_d_ranks_56) rfl ?_
    show Steps p.tables e below (T79.setTop (mkF m 57 #[.val (.long q1), .second, .val (.int p2), .val (.long u2), .second, .val (.long u4), .second, .val (.int v74), .val (.int (10 : Int32))] [(.long (((u4.toUInt64 >>> ((36 : Int32) &&& 0x3f).toInt64.toUInt64).toInt64) &&& (15 : Int64)))])) _
    refine XS.iloadN X79.here hx rfl (hb hby own_d_ranks_57) rfl ?_
    show Steps p.tables e below (T79.setTop (mkF m 58 #[.val (.long q1), .second, .val (.int p2), .val (.long u2), .second, .val (.long u4), .second, .val (.int v74), .val (.int (10 : Int32))] [(.int p2), (.long (((u4.toUInt64 >>> ((36 : Int32) &&& 0x3f).toInt64.toUInt64).toInt64) &&& (15 : Int64)))])) _
    refine XS.i2l X79.here hx rfl (hb hby own_d_ranks_58) rfl ?_
    show Steps p.tables e below (T79.setTop (mkF m 59 #[.val (.long q1), .second, .val (.int p2), .val (.long u2), .second, .val (.long u4), .second, .val (.int v74), .val (.int (10 : Int32))] [(.long (p2.toInt64)), (.long (((u4.toUInt64 >>> ((36 : Int32) &&& 0x3f).toInt64.toUInt64).toInt64) &&& (15 : Int64)))])) _
    refine XS.lcmp X79.here hx rfl (hb hby own_d_ranks_59) rfl ?_
    exact k)
  obtain ⟨v82, hv82⟩ : ∃ z : Int32, z = (if (((u4.toUInt64 >>> ((36 : Int32) &&& 0x3f).toInt64.toUInt64).toInt64) &&& (15 : Int64)) < (p2.toInt64) then v74 else (v74 ||| ((1 : Int32) <<< ((10 : Int32) &&& 31)))) := ⟨_, rfl⟩
  have way83 : ∀ t, Steps p.tables e below (T79.setTop (mkF m 72 #[.val (.long q1), .second, .val (.int p2), .val (.long u2), .second, .val (.long u4), .second, .val (.int v82), .val (.int (10 : Int32))] [])) t → Steps p.tables e below (s₁.setTop (entryFrame m #[(.long q1), (.int p2)] 9)) t := fun t k => way80 t (by
    by_cases hj81 : (((u4.toUInt64 >>> ((36 : Int32) &&& 0x3f).toInt64.toUInt64).toInt64) &&& (15 : Int64)) < (p2.toInt64)
    ·
      show Steps p.tables e below (T79.setTop (mkF m 60 #[.val (.long q1), .second, .val (.int p2), .val (.long u2), .second, .val (.long u4), .second, .val (.int v74), .val (.int (10 : Int32))] [(.int (lcmpW (((u4.toUInt64 >>> ((36 : Int32) &&& 0x3f).toInt64.toUInt64).toInt64) &&& (15 : Int64)) (p2.toInt64)))])) _
      refine XS.ifYes X79.here hx rfl (pc0 := 60) (pc' := 72) rfl (hb hby own_d_ranks_60) rfl ((if0 _ _).trans (tlt ((lw_lt _ _).mpr hj81)).1) (by decide) (by decide) ?_
      simp only [hv82, if_pos hj81] at k
      exact k
    ·
      show Steps p.tables e below (T79.setTop (mkF m 60 #[.val (.long q1), .second, .val (.int p2), .val (.long u2), .second, .val (.long u4), .second, .val (.int v74), .val (.int (10 : Int32))] [(.int (lcmpW (((u4.toUInt64 >>> ((36 : Int32) &&& 0x3f).toInt64.toUInt64).toInt64) &&& (15 : Int64)) (p2.toInt64)))])) _
      refine XS.ifNo X79.here hx rfl (hb hby own_d_ranks_60) rfl ((if0 _ _).trans (flt (fun q => hj81 ((lw_lt _ _).mp q))).1) ?_
      show Steps p.tables e below (T79.setTop (mkF m 63 #[.val (.long q1), .second, .val (.int p2), .val (.long u2), .second, .val (.long u4), .second, .val (.int v74), .val (.int (10 : Int32))] [])) _
      refine XS.iload X79.here hx rfl (hb hby own_d_ranks_63) rfl ?_
      show Steps p.tables e below (T79.setTop (mkF m 65 #[.val (.long q1), .second, .val (.int p2), .val (.long u2), .second, .val (.long u4), .second, .val (.int v74), .val (.int (10 : Int32))] [(.int v74)])) _
      refine XS.iconst X79.here hx rfl (hb hby own_d_ranks_65) ?_
      show Steps p.tables e below (T79.setTop (mkF m 66 #[.val (.long q1), .second, .val (.int p2), .val (.long u2), .second, .val (.long u4), .second, .val (.int v74), .val (.int (10 : Int32))] [(.int (1 : Int32)), (.int v74)])) _
      refine XS.iload X79.here hx rfl (hb hby own_d_ranks_66) rfl ?_
      show Steps p.tables e below (T79.setTop (mkF m 68 #[.val (.long q1), .second, .val (.int p2), .val (.long u2), .second, .val (.long u4), .second, .val (.int v74), .val (.int (10 : Int32))] [(.int (10 : Int32)), (.int (1 : Int32)), (.int v74)])) _
      refine XS.ishl X79.here hx rfl (hb hby own_d_ranks_68) rfl ?_
      show Steps p.tables e below (T79.setTop (mkF m 69 #[.val (.long q1), .second, .val (.int p2), .val (.long u2), .second, .val (.long u4), .second, .val (.int v74), .val (.int (10 : Int32))] [(.int ((1 : Int32) <<< ((10 : Int32) &&& 31))), (.int v74)])) _
      refine XS.ior X79.here hx rfl (hb hby own_d_ranks_69) rfl ?_
      show Steps p.tables e below (T79.setTop (mkF m 70 #[.val (.long q1), .second, .val (.int p2), .val (.long u2), .second, .val (.long u4), .second, .val (.int v74), .val (.int (10 : Int32))] [(.int (v74 ||| ((1 : Int32) <<< ((10 : Int32) &&& 31))))])) _
      refine XS.istore X79.here hx rfl (hb hby own_d_ranks_70) rfl (l' := #[.val (.long q1), .second, .val (.int p2), .val (.long u2), .second, .val (.long u4), .second, .val (.int (v74 ||| ((1 : Int32) <<< ((10 : Int32) &&& 31)))), .val (.int (10 : Int32))]) rfl ?_
      simp only [hv82, if_neg hj81] at k
      exact k)
  have hs84 : v82 = own_step u4 p2 (10 : Int32) (36 : Int32) v74 := hv82
  obtain ⟨T85, X85, e85, st85⟩ := getS2 X79 hx hZ hown (host := "") (Or.inl (hw _ (List.mem_of_getElem? (i := 7) rfl))) Via.refl e79 fS_CardBits_SUITS (g := (mkF m 33 #[.val (.long q1), .second, .val (.int p2), .val (.long u2), .second, .val (.long u4), .second, .val (.int v82), .val (.int (11 : Int32))] [(.int (11 : Int32))])) rfl (hb hby own_d_ranks_33)
  obtain ⟨T86, X86, e86, st86⟩ := getS2 X85 hx hZ hown (host := "") (Or.inl (hw _ (List.mem_of_getElem? (i := 7) rfl))) Via.refl e85 fS_CardBits_SUITS (g := (mkF m 48 #[.val (.long q1), .second, .val (.int p2), .val (.long u2), .second, .val (.long u4), .second, .val (.int v82), .val (.int (11 : Int32))] [(.int (10 : Int32)), (.long u4)])) rfl (hb hby own_d_ranks_48)
  obtain ⟨T87, X87, e87, st87⟩ := getS2 X86 hx hZ hown (host := "") (Or.inl (hw _ (List.mem_of_getElem? (i := 9) rfl))) Via.refl e86 fS_CardBits_ACES (g := (mkF m 53 #[.val (.long q1), .second, .val (.int p2), .val (.long u2), .second, .val (.long u4), .second, .val (.int v82), .val (.int (11 : Int32))] [(.long ((u4.toUInt64 >>> ((40 : Int32) &&& 0x3f).toInt64.toUInt64).toInt64))])) rfl (hb hby own_d_ranks_53)
  have way88 : ∀ t, Steps p.tables e below (T87.setTop (mkF m 60 #[.val (.long q1), .second, .val (.int p2), .val (.long u2), .second, .val (.long u4), .second, .val (.int v82), .val (.int (11 : Int32))] [(.int (lcmpW (((u4.toUInt64 >>> ((40 : Int32) &&& 0x3f).toInt64.toUInt64).toInt64) &&& (15 : Int64)) (p2.toInt64)))])) t → Steps p.tables e below (s₁.setTop (entryFrame m #[(.long q1), (.int p2)] 9)) t := fun t k => way83 t (by
    show Steps p.tables e below (T79.setTop (mkF m 72 #[.val (.long q1), .second, .val (.int p2), .val (.long u2), .second, .val (.long u4), .second, .val (.int v82), .val (.int (10 : Int32))] [])) _
    refine XS.iinc X79.here hx rfl (hb hby own_d_ranks_72) rfl (l' := #[.val (.long q1), .second, .val (.int p2), .val (.long u2), .second, .val (.long u4), .second, .val (.int v82), .val (.int (11 : Int32))]) rfl ?_
    show Steps p.tables e below (T79.setTop (mkF m 75 #[.val (.long q1), .second, .val (.int p2), .val (.long u2), .second, .val (.long u4), .second, .val (.int v82), .val (.int (11 : Int32))] [])) _
    refine XS.goto X79.here hx rfl (pc0 := 75) (pc' := 31) rfl (hb hby own_d_ranks_75) (by decide) (by decide) ?_
    show Steps p.tables e below (T79.setTop (mkF m 31 #[.val (.long q1), .second, .val (.int p2), .val (.long u2), .second, .val (.long u4), .second, .val (.int v82), .val (.int (11 : Int32))] [])) _
    refine XS.iload X79.here hx rfl (hb hby own_d_ranks_31) rfl ?_
    show Steps p.tables e below (T79.setTop (mkF m 33 #[.val (.long q1), .second, .val (.int p2), .val (.long u2), .second, .val (.long u4), .second, .val (.int v82), .val (.int (11 : Int32))] [(.int (11 : Int32))])) _
    refine st85 _ ?_
    show Steps p.tables e below (T85.setTop (mkF m 36 #[.val (.long q1), .second, .val (.int p2), .val (.long u2), .second, .val (.long u4), .second, .val (.int v82), .val (.int (11 : Int32))] [(.int (4 : Int32)), (.int (11 : Int32))])) _
    refine XS.imul X85.here hx rfl (hb hby own_d_ranks_36) rfl ?_
    show Steps p.tables e below (T85.setTop (mkF m 37 #[.val (.long q1), .second, .val (.int p2), .val (.long u2), .second, .val (.long u4), .second, .val (.int v82), .val (.int (11 : Int32))] [(.int (44 : Int32))])) _
    refine XS.bipush X85.here hx rfl (hb hby own_d_ranks_37) ?_
    show Steps p.tables e below (T85.setTop (mkF m 39 #[.val (.long q1), .second, .val (.int p2), .val (.long u2), .second, .val (.long u4), .second, .val (.int v82), .val (.int (11 : Int32))] [(.int (52 : Int32)), (.int (44 : Int32))])) _
    refine XS.icmpNo X85.here hx rfl (hb hby own_d_ranks_39) rfl (flt (by decide)).2.2.1 ?_
    show Steps p.tables e below (T85.setTop (mkF m 42 #[.val (.long q1), .second, .val (.int p2), .val (.long u2), .second, .val (.long u4), .second, .val (.int v82), .val (.int (11 : Int32))] [])) _
    refine XS.lload X85.here hx rfl (hb hby own_d_ranks_42) rfl ?_
    show Steps p.tables e below (T85.setTop (mkF m 44 #[.val (.long q1), .second, .val (.int p2), .val (.long u2), .second, .val (.long u4), .second, .val (.int v82), .val (.int (11 : Int32))] [(.long u4)])) _
    refine XS.iload X85.here hx rfl (hb hby own_d_ranks_44) rfl ?_
    show Steps p.tables e below (T85.setTop (mkF m 46 #[.val (.long q1), .second, .val (.int p2), .val (.long u2), .second, .val (.long u4), .second, .val (.int v82), .val (.int (11 : Int32))] [(.int (11 : Int32)), (.long u4)])) _
    refine XS.iconst X85.here hx rfl (hb hby own_d_ranks_46) ?_
    show Steps p.tables e below (T85.setTop (mkF m 47 #[.val (.long q1), .second, .val (.int p2), .val (.long u2), .second, .val (.long u4), .second, .val (.int v82), .val (.int (11 : Int32))] [(.int (1 : Int32)), (.int (11 : Int32)), (.long u4)])) _
    refine XS.isub X85.here hx rfl (hb hby own_d_ranks_47) rfl ?_
    show Steps p.tables e below (T85.setTop (mkF m 48 #[.val (.long q1), .second, .val (.int p2), .val (.long u2), .second, .val (.long u4), .second, .val (.int v82), .val (.int (11 : Int32))] [(.int (10 : Int32)), (.long u4)])) _
    refine st86 _ ?_
    show Steps p.tables e below (T86.setTop (mkF m 51 #[.val (.long q1), .second, .val (.int p2), .val (.long u2), .second, .val (.long u4), .second, .val (.int v82), .val (.int (11 : Int32))] [(.int (4 : Int32)), (.int (10 : Int32)), (.long u4)])) _
    refine XS.imul X86.here hx rfl (hb hby own_d_ranks_51) rfl ?_
    show Steps p.tables e below (T86.setTop (mkF m 52 #[.val (.long q1), .second, .val (.int p2), .val (.long u2), .second, .val (.long u4), .second, .val (.int v82), .val (.int (11 : Int32))] [(.int (40 : Int32)), (.long u4)])) _
    refine XS.lushr X86.here hx rfl (hb hby own_d_ranks_52) rfl ?_
    show Steps p.tables e below (T86.setTop (mkF m 53 #[.val (.long q1), .second, .val (.int p2), .val (.long u2), .second, .val (.long u4), .second, .val (.int v82), .val (.int (11 : Int32))] [(.long ((u4.toUInt64 >>> ((40 : Int32) &&& 0x3f).toInt64.toUInt64).toInt64))])) _
    refine st87 _ ?_
    show Steps p.tables e below (T87.setTop (mkF m 56 #[.val (.long q1), .second, .val (.int p2), .val (.long u2), .second, .val (.long u4), .second, .val (.int v82), .val (.int (11 : Int32))] [(.long (15 : Int64)), (.long ((u4.toUInt64 >>> ((40 : Int32) &&& 0x3f).toInt64.toUInt64).toInt64))])) _
    refine XS.land X87.here hx rfl (hb hby own_d_ranks_56) rfl ?_
    show Steps p.tables e below (T87.setTop (mkF m 57 #[.val (.long q1), .second, .val (.int p2), .val (.long u2), .second, .val (.long u4), .second, .val (.int v82), .val (.int (11 : Int32))] [(.long (((u4.toUInt64 >>> ((40 : Int32) &&& 0x3f).toInt64.toUInt64).toInt64) &&& (15 : Int64)))])) _
    refine XS.iloadN X87.here hx rfl (hb hby own_d_ranks_57) rfl ?_
    show Steps p.tables e below (T87.setTop (mkF m 58 #[.val (.long q1), .second, .val (.int p2), .val (.long u2), .second, .val (.long u4), .second, .val (.int v82), .val (.int (11 : Int32))] [(.int p2), (.long (((u4.toUInt64 >>> ((40 : Int32) &&& 0x3f).toInt64.toUInt64).toInt64) &&& (15 : Int64)))])) _
    refine XS.i2l X87.here hx rfl (hb hby own_d_ranks_58) rfl ?_
    show Steps p.tables e below (T87.setTop (mkF m 59 #[.val (.long q1), .second, .val (.int p2), .val (.long u2), .second, .val (.long u4), .second, .val (.int v82), .val (.int (11 : Int32))] [(.long (p2.toInt64)), (.long (((u4.toUInt64 >>> ((40 : Int32) &&& 0x3f).toInt64.toUInt64).toInt64) &&& (15 : Int64)))])) _
    refine XS.lcmp X87.here hx rfl (hb hby own_d_ranks_59) rfl ?_
    exact k)
  obtain ⟨v90, hv90⟩ : ∃ z : Int32, z = (if (((u4.toUInt64 >>> ((40 : Int32) &&& 0x3f).toInt64.toUInt64).toInt64) &&& (15 : Int64)) < (p2.toInt64) then v82 else (v82 ||| ((1 : Int32) <<< ((11 : Int32) &&& 31)))) := ⟨_, rfl⟩
  have way91 : ∀ t, Steps p.tables e below (T87.setTop (mkF m 72 #[.val (.long q1), .second, .val (.int p2), .val (.long u2), .second, .val (.long u4), .second, .val (.int v90), .val (.int (11 : Int32))] [])) t → Steps p.tables e below (s₁.setTop (entryFrame m #[(.long q1), (.int p2)] 9)) t := fun t k => way88 t (by
    by_cases hj89 : (((u4.toUInt64 >>> ((40 : Int32) &&& 0x3f).toInt64.toUInt64).toInt64) &&& (15 : Int64)) < (p2.toInt64)
    ·
      show Steps p.tables e below (T87.setTop (mkF m 60 #[.val (.long q1), .second, .val (.int p2), .val (.long u2), .second, .val (.long u4), .second, .val (.int v82), .val (.int (11 : Int32))] [(.int (lcmpW (((u4.toUInt64 >>> ((40 : Int32) &&& 0x3f).toInt64.toUInt64).toInt64) &&& (15 : Int64)) (p2.toInt64)))])) _
      refine XS.ifYes X87.here hx rfl (pc0 := 60) (pc' := 72) rfl (hb hby own_d_ranks_60) rfl ((if0 _ _).trans (tlt ((lw_lt _ _).mpr hj89)).1) (by decide) (by decide) ?_
      simp only [hv90, if_pos hj89] at k
      exact k
    ·
      show Steps p.tables e below (T87.setTop (mkF m 60 #[.val (.long q1), .second, .val (.int p2), .val (.long u2), .second, .val (.long u4), .second, .val (.int v82), .val (.int (11 : Int32))] [(.int (lcmpW (((u4.toUInt64 >>> ((40 : Int32) &&& 0x3f).toInt64.toUInt64).toInt64) &&& (15 : Int64)) (p2.toInt64)))])) _
      refine XS.ifNo X87.here hx rfl (hb hby own_d_ranks_60) rfl ((if0 _ _).trans (flt (fun q => hj89 ((lw_lt _ _).mp q))).1) ?_
      show Steps p.tables e below (T87.setTop (mkF m 63 #[.val (.long q1), .second, .val (.int p2), .val (.long u2), .second, .val (.long u4), .second, .val (.int v82), .val (.int (11 : Int32))] [])) _
      refine XS.iload X87.here hx rfl (hb hby own_d_ranks_63) rfl ?_
      show Steps p.tables e below (T87.setTop (mkF m 65 #[.val (.long q1), .second, .val (.int p2), .val (.long u2), .second, .val (.long u4), .second, .val (.int v82), .val (.int (11 : Int32))] [(.int v82)])) _
      refine XS.iconst X87.here hx rfl (hb hby own_d_ranks_65) ?_
      show Steps p.tables e below (T87.setTop (mkF m 66 #[.val (.long q1), .second, .val (.int p2), .val (.long u2), .second, .val (.long u4), .second, .val (.int v82), .val (.int (11 : Int32))] [(.int (1 : Int32)), (.int v82)])) _
      refine XS.iload X87.here hx rfl (hb hby own_d_ranks_66) rfl ?_
      show Steps p.tables e below (T87.setTop (mkF m 68 #[.val (.long q1), .second, .val (.int p2), .val (.long u2), .second, .val (.long u4), .second, .val (.int v82), .val (.int (11 : Int32))] [(.int (11 : Int32)), (.int (1 : Int32)), (.int v82)])) _
      refine XS.ishl X87.here hx rfl (hb hby own_d_ranks_68) rfl ?_
      show Steps p.tables e below (T87.setTop (mkF m 69 #[.val (.long q1), .second, .val (.int p2), .val (.long u2), .second, .val (.long u4), .second, .val (.int v82), .val (.int (11 : Int32))] [(.int ((1 : Int32) <<< ((11 : Int32) &&& 31))), (.int v82)])) _
      refine XS.ior X87.here hx rfl (hb hby own_d_ranks_69) rfl ?_
      show Steps p.tables e below (T87.setTop (mkF m 70 #[.val (.long q1), .second, .val (.int p2), .val (.long u2), .second, .val (.long u4), .second, .val (.int v82), .val (.int (11 : Int32))] [(.int (v82 ||| ((1 : Int32) <<< ((11 : Int32) &&& 31))))])) _
      refine XS.istore X87.here hx rfl (hb hby own_d_ranks_70) rfl (l' := #[.val (.long q1), .second, .val (.int p2), .val (.long u2), .second, .val (.long u4), .second, .val (.int (v82 ||| ((1 : Int32) <<< ((11 : Int32) &&& 31)))), .val (.int (11 : Int32))]) rfl ?_
      simp only [hv90, if_neg hj89] at k
      exact k)
  have hs92 : v90 = own_step u4 p2 (11 : Int32) (40 : Int32) v82 := hv90
  obtain ⟨T93, X93, e93, st93⟩ := getS2 X87 hx hZ hown (host := "") (Or.inl (hw _ (List.mem_of_getElem? (i := 7) rfl))) Via.refl e87 fS_CardBits_SUITS (g := (mkF m 33 #[.val (.long q1), .second, .val (.int p2), .val (.long u2), .second, .val (.long u4), .second, .val (.int v90), .val (.int (12 : Int32))] [(.int (12 : Int32))])) rfl (hb hby own_d_ranks_33)
  obtain ⟨T94, X94, e94, st94⟩ := getS2 X93 hx hZ hown (host := "") (Or.inl (hw _ (List.mem_of_getElem? (i := 7) rfl))) Via.refl e93 fS_CardBits_SUITS (g := (mkF m 48 #[.val (.long q1), .second, .val (.int p2), .val (.long u2), .second, .val (.long u4), .second, .val (.int v90), .val (.int (12 : Int32))] [(.int (11 : Int32)), (.long u4)])) rfl (hb hby own_d_ranks_48)
  obtain ⟨T95, X95, e95, st95⟩ := getS2 X94 hx hZ hown (host := "") (Or.inl (hw _ (List.mem_of_getElem? (i := 9) rfl))) Via.refl e94 fS_CardBits_ACES (g := (mkF m 53 #[.val (.long q1), .second, .val (.int p2), .val (.long u2), .second, .val (.long u4), .second, .val (.int v90), .val (.int (12 : Int32))] [(.long ((u4.toUInt64 >>> ((44 : Int32) &&& 0x3f).toInt64.toUInt64).toInt64))])) rfl (hb hby own_d_ranks_53)
  have way96 : ∀ t, Steps p.tables e below (T95.setTop (mkF m 60 #[.val (.long q1), .second, .val (.int p2), .val (.long u2), .second, .val (.long u4), .second, .val (.int v90), .val (.int (12 : Int32))] [(.int (lcmpW (((u4.toUInt64 >>> ((44 : Int32) &&& 0x3f).toInt64.toUInt64).toInt64) &&& (15 : Int64)) (p2.toInt64)))])) t → Steps p.tables e below (s₁.setTop (entryFrame m #[(.long q1), (.int p2)] 9)) t := fun t k => way91 t (by
    show Steps p.tables e below (T87.setTop (mkF m 72 #[.val (.long q1), .second, .val (.int p2), .val (.long u2), .second, .val (.long u4), .second, .val (.int v90), .val (.int (11 : Int32))] [])) _
    refine XS.iinc X87.here hx rfl (hb hby own_d_ranks_72) rfl (l' := #[.val (.long q1), .second, .val (.int p2), .val (.long u2), .second, .val (.long u4), .second, .val (.int v90), .val (.int (12 : Int32))]) rfl ?_
    show Steps p.tables e below (T87.setTop (mkF m 75 #[.val (.long q1), .second, .val (.int p2), .val (.long u2), .second, .val (.long u4), .second, .val (.int v90), .val (.int (12 : Int32))] [])) _
    refine XS.goto X87.here hx rfl (pc0 := 75) (pc' := 31) rfl (hb hby own_d_ranks_75) (by decide) (by decide) ?_
    show Steps p.tables e below (T87.setTop (mkF m 31 #[.val (.long q1), .second, .val (.int p2), .val (.long u2), .second, .val (.long u4), .second, .val (.int v90), .val (.int (12 : Int32))] [])) _
    refine XS.iload X87.here hx rfl (hb hby own_d_ranks_31) rfl ?_
    show Steps p.tables e below (T87.setTop (mkF m 33 #[.val (.long q1), .second, .val (.int p2), .val (.long u2), .second, .val (.long u4), .second, .val (.int v90), .val (.int (12 : Int32))] [(.int (12 : Int32))])) _
    refine st93 _ ?_
    show Steps p.tables e below (T93.setTop (mkF m 36 #[.val (.long q1), .second, .val (.int p2), .val (.long u2), .second, .val (.long u4), .second, .val (.int v90), .val (.int (12 : Int32))] [(.int (4 : Int32)), (.int (12 : Int32))])) _
    refine XS.imul X93.here hx rfl (hb hby own_d_ranks_36) rfl ?_
    show Steps p.tables e below (T93.setTop (mkF m 37 #[.val (.long q1), .second, .val (.int p2), .val (.long u2), .second, .val (.long u4), .second, .val (.int v90), .val (.int (12 : Int32))] [(.int (48 : Int32))])) _
    refine XS.bipush X93.here hx rfl (hb hby own_d_ranks_37) ?_
    show Steps p.tables e below (T93.setTop (mkF m 39 #[.val (.long q1), .second, .val (.int p2), .val (.long u2), .second, .val (.long u4), .second, .val (.int v90), .val (.int (12 : Int32))] [(.int (52 : Int32)), (.int (48 : Int32))])) _
    refine XS.icmpNo X93.here hx rfl (hb hby own_d_ranks_39) rfl (flt (by decide)).2.2.1 ?_
    show Steps p.tables e below (T93.setTop (mkF m 42 #[.val (.long q1), .second, .val (.int p2), .val (.long u2), .second, .val (.long u4), .second, .val (.int v90), .val (.int (12 : Int32))] [])) _
    refine XS.lload X93.here hx rfl (hb hby own_d_ranks_42) rfl ?_
    show Steps p.tables e below (T93.setTop (mkF m 44 #[.val (.long q1), .second, .val (.int p2), .val (.long u2), .second, .val (.long u4), .second, .val (.int v90), .val (.int (12 : Int32))] [(.long u4)])) _
    refine XS.iload X93.here hx rfl (hb hby own_d_ranks_44) rfl ?_
    show Steps p.tables e below (T93.setTop (mkF m 46 #[.val (.long q1), .second, .val (.int p2), .val (.long u2), .second, .val (.long u4), .second, .val (.int v90), .val (.int (12 : Int32))] [(.int (12 : Int32)), (.long u4)])) _
    refine XS.iconst X93.here hx rfl (hb hby own_d_ranks_46) ?_
    show Steps p.tables e below (T93.setTop (mkF m 47 #[.val (.long q1), .second, .val (.int p2), .val (.long u2), .second, .val (.long u4), .second, .val (.int v90), .val (.int (12 : Int32))] [(.int (1 : Int32)), (.int (12 : Int32)), (.long u4)])) _
    refine XS.isub X93.here hx rfl (hb hby own_d_ranks_47) rfl ?_
    show Steps p.tables e below (T93.setTop (mkF m 48 #[.val (.long q1), .second, .val (.int p2), .val (.long u2), .second, .val (.long u4), .second, .val (.int v90), .val (.int (12 : Int32))] [(.int (11 : Int32)), (.long u4)])) _
    refine st94 _ ?_
    show Steps p.tables e below (T94.setTop (mkF m 51 #[.val (.long q1), .second, .val (.int p2), .val (.long u2), .second, .val (.long u4), .second, .val (.int v90), .val (.int (12 : Int32))] [(.int (4 : Int32)), (.int (11 : Int32)), (.long u4)])) _
    refine XS.imul X94.here hx rfl (hb hby own_d_ranks_51) rfl ?_
    show Steps p.tables e below (T94.setTop (mkF m 52 #[.val (.long q1), .second, .val (.int p2), .val (.long u2), .second, .val (.long u4), .second, .val (.int v90), .val (.int (12 : Int32))] [(.int (44 : Int32)), (.long u4)])) _
    refine XS.lushr X94.here hx rfl (hb hby own_d_ranks_52) rfl ?_
    show Steps p.tables e below (T94.setTop (mkF m 53 #[.val (.long q1), .second, .val (.int p2), .val (.long u2), .second, .val (.long u4), .second, .val (.int v90), .val (.int (12 : Int32))] [(.long ((u4.toUInt64 >>> ((44 : Int32) &&& 0x3f).toInt64.toUInt64).toInt64))])) _
    refine st95 _ ?_
    show Steps p.tables e below (T95.setTop (mkF m 56 #[.val (.long q1), .second, .val (.int p2), .val (.long u2), .second, .val (.long u4), .second, .val (.int v90), .val (.int (12 : Int32))] [(.long (15 : Int64)), (.long ((u4.toUInt64 >>> ((44 : Int32) &&& 0x3f).toInt64.toUInt64).toInt64))])) _
    refine XS.land X95.here hx rfl (hb hby own_d_ranks_56) rfl ?_
    show Steps p.tables e below (T95.setTop (mkF m 57 #[.val (.long q1), .second, .val (.int p2), .val (.long u2), .second, .val (.long u4), .second, .val (.int v90), .val (.int (12 : Int32))] [(.long (((u4.toUInt64 >>> ((44 : Int32) &&& 0x3f).toInt64.toUInt64).toInt64) &&& (15 : Int64)))])) _
    refine XS.iloadN X95.here hx rfl (hb hby own_d_ranks_57) rfl ?_
    show Steps p.tables e below (T95.setTop (mkF m 58 #[.val (.long q1), .second, .val (.int p2), .val (.long u2), .second, .val (.long u4), .second, .val (.int v90), .val (.int (12 : Int32))] [(.int p2), (.long (((u4.toUInt64 >>> ((44 : Int32) &&& 0x3f).toInt64.toUInt64).toInt64) &&& (15 : Int64)))])) _
    refine XS.i2l X95.here hx rfl (hb hby own_d_ranks_58) rfl ?_
    show Steps p.tables e below (T95.setTop (mkF m 59 #[.val (.long q1), .second, .val (.int p2), .val (.long u2), .second, .val (.long u4), .second, .val (.int v90), .val (.int (12 : Int32))] [(.long (p2.toInt64)), (.long (((u4.toUInt64 >>> ((44 : Int32) &&& 0x3f).toInt64.toUInt64).toInt64) &&& (15 : Int64)))])) _
    refine XS.lcmp X95.here hx rfl (hb hby own_d_ranks_59) rfl ?_
    exact k)
  obtain ⟨v98, hv98⟩ : ∃ z : Int32, z = (if (((u4.toUInt64 >>> ((44 : Int32) &&& 0x3f).toInt64.toUInt64).toInt64) &&& (15 : Int64)) < (p2.toInt64) then v90 else (v90 ||| ((1 : Int32) <<< ((12 : Int32) &&& 31)))) := ⟨_, rfl⟩
  have way99 : ∀ t, Steps p.tables e below (T95.setTop (mkF m 72 #[.val (.long q1), .second, .val (.int p2), .val (.long u2), .second, .val (.long u4), .second, .val (.int v98), .val (.int (12 : Int32))] [])) t → Steps p.tables e below (s₁.setTop (entryFrame m #[(.long q1), (.int p2)] 9)) t := fun t k => way96 t (by
    by_cases hj97 : (((u4.toUInt64 >>> ((44 : Int32) &&& 0x3f).toInt64.toUInt64).toInt64) &&& (15 : Int64)) < (p2.toInt64)
    ·
      show Steps p.tables e below (T95.setTop (mkF m 60 #[.val (.long q1), .second, .val (.int p2), .val (.long u2), .second, .val (.long u4), .second, .val (.int v90), .val (.int (12 : Int32))] [(.int (lcmpW (((u4.toUInt64 >>> ((44 : Int32) &&& 0x3f).toInt64.toUInt64).toInt64) &&& (15 : Int64)) (p2.toInt64)))])) _
      refine XS.ifYes X95.here hx rfl (pc0 := 60) (pc' := 72) rfl (hb hby own_d_ranks_60) rfl ((if0 _ _).trans (tlt ((lw_lt _ _).mpr hj97)).1) (by decide) (by decide) ?_
      simp only [hv98, if_pos hj97] at k
      exact k
    ·
      show Steps p.tables e below (T95.setTop (mkF m 60 #[.val (.long q1), .second, .val (.int p2), .val (.long u2), .second, .val (.long u4), .second, .val (.int v90), .val (.int (12 : Int32))] [(.int (lcmpW (((u4.toUInt64 >>> ((44 : Int32) &&& 0x3f).toInt64.toUInt64).toInt64) &&& (15 : Int64)) (p2.toInt64)))])) _
      refine XS.ifNo X95.here hx rfl (hb hby own_d_ranks_60) rfl ((if0 _ _).trans (flt (fun q => hj97 ((lw_lt _ _).mp q))).1) ?_
      show Steps p.tables e below (T95.setTop (mkF m 63 #[.val (.long q1), .second, .val (.int p2), .val (.long u2), .second, .val (.long u4), .second, .val (.int v90), .val (.int (12 : Int32))] [])) _
      refine XS.iload X95.here hx rfl (hb hby own_d_ranks_63) rfl ?_
      show Steps p.tables e below (T95.setTop (mkF m 65 #[.val (.long q1), .second, .val (.int p2), .val (.long u2), .second, .val (.long u4), .second, .val (.int v90), .val (.int (12 : Int32))] [(.int v90)])) _
      refine XS.iconst X95.here hx rfl (hb hby own_d_ranks_65) ?_
      show Steps p.tables e below (T95.setTop (mkF m 66 #[.val (.long q1), .second, .val (.int p2), .val (.long u2), .second, .val (.long u4), .second, .val (.int v90), .val (.int (12 : Int32))] [(.int (1 : Int32)), (.int v90)])) _
      refine XS.iload X95.here hx rfl (hb hby own_d_ranks_66) rfl ?_
      show Steps p.tables e below (T95.setTop (mkF m 68 #[.val (.long q1), .second, .val (.int p2), .val (.long u2), .second, .val (.long u4), .second, .val (.int v90), .val (.int (12 : Int32))] [(.int (12 : Int32)), (.int (1 : Int32)), (.int v90)])) _
      refine XS.ishl X95.here hx rfl (hb hby own_d_ranks_68) rfl ?_
      show Steps p.tables e below (T95.setTop (mkF m 69 #[.val (.long q1), .second, .val (.int p2), .val (.long u2), .second, .val (.long u4), .second, .val (.int v90), .val (.int (12 : Int32))] [(.int ((1 : Int32) <<< ((12 : Int32) &&& 31))), (.int v90)])) _
      refine XS.ior X95.here hx rfl (hb hby own_d_ranks_69) rfl ?_
      show Steps p.tables e below (T95.setTop (mkF m 70 #[.val (.long q1), .second, .val (.int p2), .val (.long u2), .second, .val (.long u4), .second, .val (.int v90), .val (.int (12 : Int32))] [(.int (v90 ||| ((1 : Int32) <<< ((12 : Int32) &&& 31))))])) _
      refine XS.istore X95.here hx rfl (hb hby own_d_ranks_70) rfl (l' := #[.val (.long q1), .second, .val (.int p2), .val (.long u2), .second, .val (.long u4), .second, .val (.int (v90 ||| ((1 : Int32) <<< ((12 : Int32) &&& 31)))), .val (.int (12 : Int32))]) rfl ?_
      simp only [hv98, if_neg hj97] at k
      exact k)
  have hs100 : v98 = own_step u4 p2 (12 : Int32) (44 : Int32) v90 := hv98
  obtain ⟨T101, X101, e101, st101⟩ := getS2 X95 hx hZ hown (host := "") (Or.inl (hw _ (List.mem_of_getElem? (i := 7) rfl))) Via.refl e95 fS_CardBits_SUITS (g := (mkF m 33 #[.val (.long q1), .second, .val (.int p2), .val (.long u2), .second, .val (.long u4), .second, .val (.int v98), .val (.int (13 : Int32))] [(.int (13 : Int32))])) rfl (hb hby own_d_ranks_33)
  obtain ⟨T102, X102, e102, st102⟩ := getS2 X101 hx hZ hown (host := "") (Or.inl (hw _ (List.mem_of_getElem? (i := 7) rfl))) Via.refl e101 fS_CardBits_SUITS (g := (mkF m 48 #[.val (.long q1), .second, .val (.int p2), .val (.long u2), .second, .val (.long u4), .second, .val (.int v98), .val (.int (13 : Int32))] [(.int (12 : Int32)), (.long u4)])) rfl (hb hby own_d_ranks_48)
  obtain ⟨T103, X103, e103, st103⟩ := getS2 X102 hx hZ hown (host := "") (Or.inl (hw _ (List.mem_of_getElem? (i := 9) rfl))) Via.refl e102 fS_CardBits_ACES (g := (mkF m 53 #[.val (.long q1), .second, .val (.int p2), .val (.long u2), .second, .val (.long u4), .second, .val (.int v98), .val (.int (13 : Int32))] [(.long ((u4.toUInt64 >>> ((48 : Int32) &&& 0x3f).toInt64.toUInt64).toInt64))])) rfl (hb hby own_d_ranks_53)
  have way104 : ∀ t, Steps p.tables e below (T103.setTop (mkF m 60 #[.val (.long q1), .second, .val (.int p2), .val (.long u2), .second, .val (.long u4), .second, .val (.int v98), .val (.int (13 : Int32))] [(.int (lcmpW (((u4.toUInt64 >>> ((48 : Int32) &&& 0x3f).toInt64.toUInt64).toInt64) &&& (15 : Int64)) (p2.toInt64)))])) t → Steps p.tables e below (s₁.setTop (entryFrame m #[(.long q1), (.int p2)] 9)) t := fun t k => way99 t (by
    show Steps p.tables e below (T95.setTop (mkF m 72 #[.val (.long q1), .second, .val (.int p2), .val (.long u2), .second, .val (.long u4), .second, .val (.int v98), .val (.int (12 : Int32))] [])) _
    refine XS.iinc X95.here hx rfl (hb hby own_d_ranks_72) rfl (l' := #[.val (.long q1), .second, .val (.int p2), .val (.long u2), .second, .val (.long u4), .second, .val (.int v98), .val (.int (13 : Int32))]) rfl ?_
    show Steps p.tables e below (T95.setTop (mkF m 75 #[.val (.long q1), .second, .val (.int p2), .val (.long u2), .second, .val (.long u4), .second, .val (.int v98), .val (.int (13 : Int32))] [])) _
    refine XS.goto X95.here hx rfl (pc0 := 75) (pc' := 31) rfl (hb hby own_d_ranks_75) (by decide) (by decide) ?_
    show Steps p.tables e below (T95.setTop (mkF m 31 #[.val (.long q1), .second, .val (.int p2), .val (.long u2), .second, .val (.long u4), .second, .val (.int v98), .val (.int (13 : Int32))] [])) _
    refine XS.iload X95.here hx rfl (hb hby own_d_ranks_31) rfl ?_
    show Steps p.tables e below (T95.setTop (mkF m 33 #[.val (.long q1), .second, .val (.int p2), .val (.long u2), .second, .val (.long u4), .second, .val (.int v98), .val (.int (13 : Int32))] [(.int (13 : Int32))])) _
    refine st101 _ ?_
    show Steps p.tables e below (T101.setTop (mkF m 36 #[.val (.long q1), .second, .val (.int p2), .val (.long u2), .second, .val (.long u4), .second, .val (.int v98), .val (.int (13 : Int32))] [(.int (4 : Int32)), (.int (13 : Int32))])) _
    refine XS.imul X101.here hx rfl (hb hby own_d_ranks_36) rfl ?_
    show Steps p.tables e below (T101.setTop (mkF m 37 #[.val (.long q1), .second, .val (.int p2), .val (.long u2), .second, .val (.long u4), .second, .val (.int v98), .val (.int (13 : Int32))] [(.int (52 : Int32))])) _
    refine XS.bipush X101.here hx rfl (hb hby own_d_ranks_37) ?_
    show Steps p.tables e below (T101.setTop (mkF m 39 #[.val (.long q1), .second, .val (.int p2), .val (.long u2), .second, .val (.long u4), .second, .val (.int v98), .val (.int (13 : Int32))] [(.int (52 : Int32)), (.int (52 : Int32))])) _
    refine XS.icmpNo X101.here hx rfl (hb hby own_d_ranks_39) rfl (flt (by decide)).2.2.1 ?_
    show Steps p.tables e below (T101.setTop (mkF m 42 #[.val (.long q1), .second, .val (.int p2), .val (.long u2), .second, .val (.long u4), .second, .val (.int v98), .val (.int (13 : Int32))] [])) _
    refine XS.lload X101.here hx rfl (hb hby own_d_ranks_42) rfl ?_
    show Steps p.tables e below (T101.setTop (mkF m 44 #[.val (.long q1), .second, .val (.int p2), .val (.long u2), .second, .val (.long u4), .second, .val (.int v98), .val (.int (13 : Int32))] [(.long u4)])) _
    refine XS.iload X101.here hx rfl (hb hby own_d_ranks_44) rfl ?_
    show Steps p.tables e below (T101.setTop (mkF m 46 #[.val (.long q1), .second, .val (.int p2), .val (.long u2), .second, .val (.long u4), .second, .val (.int v98), .val (.int (13 : Int32))] [(.int (13 : Int32)), (.long u4)])) _
    refine XS.iconst X101.here hx rfl (hb hby own_d_ranks_46) ?_
    show Steps p.tables e below (T101.setTop (mkF m 47 #[.val (.long q1), .second, .val (.int p2), .val (.long u2), .second, .val (.long u4), .second, .val (.int v98), .val (.int (13 : Int32))] [(.int (1 : Int32)), (.int (13 : Int32)), (.long u4)])) _
    refine XS.isub X101.here hx rfl (hb hby own_d_ranks_47) rfl ?_
    show Steps p.tables e below (T101.setTop (mkF m 48 #[.val (.long q1), .second, .val (.int p2), .val (.long u2), .second, .val (.long u4), .second, .val (.int v98), .val (.int (13 : Int32))] [(.int (12 : Int32)), (.long u4)])) _
    refine st102 _ ?_
    show Steps p.tables e below (T102.setTop (mkF m 51 #[.val (.long q1), .second, .val (.int p2), .val (.long u2), .second, .val (.long u4), .second, .val (.int v98), .val (.int (13 : Int32))] [(.int (4 : Int32)), (.int (12 : Int32)), (.long u4)])) _
    refine XS.imul X102.here hx rfl (hb hby own_d_ranks_51) rfl ?_
    show Steps p.tables e below (T102.setTop (mkF m 52 #[.val (.long q1), .second, .val (.int p2), .val (.long u2), .second, .val (.long u4), .second, .val (.int v98), .val (.int (13 : Int32))] [(.int (48 : Int32)), (.long u4)])) _
    refine XS.lushr X102.here hx rfl (hb hby own_d_ranks_52) rfl ?_
    show Steps p.tables e below (T102.setTop (mkF m 53 #[.val (.long q1), .second, .val (.int p2), .val (.long u2), .second, .val (.long u4), .second, .val (.int v98), .val (.int (13 : Int32))] [(.long ((u4.toUInt64 >>> ((48 : Int32) &&& 0x3f).toInt64.toUInt64).toInt64))])) _
    refine st103 _ ?_
    show Steps p.tables e below (T103.setTop (mkF m 56 #[.val (.long q1), .second, .val (.int p2), .val (.long u2), .second, .val (.long u4), .second, .val (.int v98), .val (.int (13 : Int32))] [(.long (15 : Int64)), (.long ((u4.toUInt64 >>> ((48 : Int32) &&& 0x3f).toInt64.toUInt64).toInt64))])) _
    refine XS.land X103.here hx rfl (hb hby own_d_ranks_56) rfl ?_
    show Steps p.tables e below (T103.setTop (mkF m 57 #[.val (.long q1), .second, .val (.int p2), .val (.long u2), .second, .val (.long u4), .second, .val (.int v98), .val (.int (13 : Int32))] [(.long (((u4.toUInt64 >>> ((48 : Int32) &&& 0x3f).toInt64.toUInt64).toInt64) &&& (15 : Int64)))])) _
    refine XS.iloadN X103.here hx rfl (hb hby own_d_ranks_57) rfl ?_
    show Steps p.tables e below (T103.setTop (mkF m 58 #[.val (.long q1), .second, .val (.int p2), .val (.long u2), .second, .val (.long u4), .second, .val (.int v98), .val (.int (13 : Int32))] [(.int p2), (.long (((u4.toUInt64 >>> ((48 : Int32) &&& 0x3f).toInt64.toUInt64).toInt64) &&& (15 : Int64)))])) _
    refine XS.i2l X103.here hx rfl (hb hby own_d_ranks_58) rfl ?_
    show Steps p.tables e below (T103.setTop (mkF m 59 #[.val (.long q1), .second, .val (.int p2), .val (.long u2), .second, .val (.long u4), .second, .val (.int v98), .val (.int (13 : Int32))] [(.long (p2.toInt64)), (.long (((u4.toUInt64 >>> ((48 : Int32) &&& 0x3f).toInt64.toUInt64).toInt64) &&& (15 : Int64)))])) _
    refine XS.lcmp X103.here hx rfl (hb hby own_d_ranks_59) rfl ?_
    exact k)
  obtain ⟨v106, hv106⟩ : ∃ z : Int32, z = (if (((u4.toUInt64 >>> ((48 : Int32) &&& 0x3f).toInt64.toUInt64).toInt64) &&& (15 : Int64)) < (p2.toInt64) then v98 else (v98 ||| ((1 : Int32) <<< ((13 : Int32) &&& 31)))) := ⟨_, rfl⟩
  have way107 : ∀ t, Steps p.tables e below (T103.setTop (mkF m 72 #[.val (.long q1), .second, .val (.int p2), .val (.long u2), .second, .val (.long u4), .second, .val (.int v106), .val (.int (13 : Int32))] [])) t → Steps p.tables e below (s₁.setTop (entryFrame m #[(.long q1), (.int p2)] 9)) t := fun t k => way104 t (by
    by_cases hj105 : (((u4.toUInt64 >>> ((48 : Int32) &&& 0x3f).toInt64.toUInt64).toInt64) &&& (15 : Int64)) < (p2.toInt64)
    ·
      show Steps p.tables e below (T103.setTop (mkF m 60 #[.val (.long q1), .second, .val (.int p2), .val (.long u2), .second, .val (.long u4), .second, .val (.int v98), .val (.int (13 : Int32))] [(.int (lcmpW (((u4.toUInt64 >>> ((48 : Int32) &&& 0x3f).toInt64.toUInt64).toInt64) &&& (15 : Int64)) (p2.toInt64)))])) _
      refine XS.ifYes X103.here hx rfl (pc0 := 60) (pc' := 72) rfl (hb hby own_d_ranks_60) rfl ((if0 _ _).trans (tlt ((lw_lt _ _).mpr hj105)).1) (by decide) (by decide) ?_
      simp only [hv106, if_pos hj105] at k
      exact k
    ·
      show Steps p.tables e below (T103.setTop (mkF m 60 #[.val (.long q1), .second, .val (.int p2), .val (.long u2), .second, .val (.long u4), .second, .val (.int v98), .val (.int (13 : Int32))] [(.int (lcmpW (((u4.toUInt64 >>> ((48 : Int32) &&& 0x3f).toInt64.toUInt64).toInt64) &&& (15 : Int64)) (p2.toInt64)))])) _
      refine XS.ifNo X103.here hx rfl (hb hby own_d_ranks_60) rfl ((if0 _ _).trans (flt (fun q => hj105 ((lw_lt _ _).mp q))).1) ?_
      show Steps p.tables e below (T103.setTop (mkF m 63 #[.val (.long q1), .second, .val (.int p2), .val (.long u2), .second, .val (.long u4), .second, .val (.int v98), .val (.int (13 : Int32))] [])) _
      refine XS.iload X103.here hx rfl (hb hby own_d_ranks_63) rfl ?_
      show Steps p.tables e below (T103.setTop (mkF m 65 #[.val (.long q1), .second, .val (.int p2), .val (.long u2), .second, .val (.long u4), .second, .val (.int v98), .val (.int (13 : Int32))] [(.int v98)])) _
      refine XS.iconst X103.here hx rfl (hb hby own_d_ranks_65) ?_
      show Steps p.tables e below (T103.setTop (mkF m 66 #[.val (.long q1), .second, .val (.int p2), .val (.long u2), .second, .val (.long u4), .second, .val (.int v98), .val (.int (13 : Int32))] [(.int (1 : Int32)), (.int v98)])) _
      refine XS.iload X103.here hx rfl (hb hby own_d_ranks_66) rfl ?_
      show Steps p.tables e below (T103.setTop (mkF m 68 #[.val (.long q1), .second, .val (.int p2), .val (.long u2), .second, .val (.long u4), .second, .val (.int v98), .val (.int (13 : Int32))] [(.int (13 : Int32)), (.int (1 : Int32)), (.int v98)])) _
      refine XS.ishl X103.here hx rfl (hb hby own_d_ranks_68) rfl ?_
      show Steps p.tables e below (T103.setTop (mkF m 69 #[.val (.long q1), .second, .val (.int p2), .val (.long u2), .second, .val (.long u4), .second, .val (.int v98), .val (.int (13 : Int32))] [(.int ((1 : Int32) <<< ((13 : Int32) &&& 31))), (.int v98)])) _
      refine XS.ior X103.here hx rfl (hb hby own_d_ranks_69) rfl ?_
      show Steps p.tables e below (T103.setTop (mkF m 70 #[.val (.long q1), .second, .val (.int p2), .val (.long u2), .second, .val (.long u4), .second, .val (.int v98), .val (.int (13 : Int32))] [(.int (v98 ||| ((1 : Int32) <<< ((13 : Int32) &&& 31))))])) _
      refine XS.istore X103.here hx rfl (hb hby own_d_ranks_70) rfl (l' := #[.val (.long q1), .second, .val (.int p2), .val (.long u2), .second, .val (.long u4), .second, .val (.int (v98 ||| ((1 : Int32) <<< ((13 : Int32) &&& 31)))), .val (.int (13 : Int32))]) rfl ?_
      simp only [hv106, if_neg hj105] at k
      exact k)
  have hs108 : v106 = own_step u4 p2 (13 : Int32) (48 : Int32) v98 := hv106
  obtain ⟨T109, X109, e109, st109⟩ := getS2 X103 hx hZ hown (host := "") (Or.inl (hw _ (List.mem_of_getElem? (i := 7) rfl))) Via.refl e103 fS_CardBits_SUITS (g := (mkF m 33 #[.val (.long q1), .second, .val (.int p2), .val (.long u2), .second, .val (.long u4), .second, .val (.int v106), .val (.int (14 : Int32))] [(.int (14 : Int32))])) rfl (hb hby own_d_ranks_33)
  have way110 : ∀ t, Steps p.tables e below (T109.setTop (mkF m 80 #[.val (.long q1), .second, .val (.int p2), .val (.long u2), .second, .val (.long u4), .second, .val (.int v106), .val (.int (14 : Int32))] [(.int v106)])) t → Steps p.tables e below (s₁.setTop (entryFrame m #[(.long q1), (.int p2)] 9)) t := fun t k => way107 t (by
    show Steps p.tables e below (T103.setTop (mkF m 72 #[.val (.long q1), .second, .val (.int p2), .val (.long u2), .second, .val (.long u4), .second, .val (.int v106), .val (.int (13 : Int32))] [])) _
    refine XS.iinc X103.here hx rfl (hb hby own_d_ranks_72) rfl (l' := #[.val (.long q1), .second, .val (.int p2), .val (.long u2), .second, .val (.long u4), .second, .val (.int v106), .val (.int (14 : Int32))]) rfl ?_
    show Steps p.tables e below (T103.setTop (mkF m 75 #[.val (.long q1), .second, .val (.int p2), .val (.long u2), .second, .val (.long u4), .second, .val (.int v106), .val (.int (14 : Int32))] [])) _
    refine XS.goto X103.here hx rfl (pc0 := 75) (pc' := 31) rfl (hb hby own_d_ranks_75) (by decide) (by decide) ?_
    show Steps p.tables e below (T103.setTop (mkF m 31 #[.val (.long q1), .second, .val (.int p2), .val (.long u2), .second, .val (.long u4), .second, .val (.int v106), .val (.int (14 : Int32))] [])) _
    refine XS.iload X103.here hx rfl (hb hby own_d_ranks_31) rfl ?_
    show Steps p.tables e below (T103.setTop (mkF m 33 #[.val (.long q1), .second, .val (.int p2), .val (.long u2), .second, .val (.long u4), .second, .val (.int v106), .val (.int (14 : Int32))] [(.int (14 : Int32))])) _
    refine st109 _ ?_
    show Steps p.tables e below (T109.setTop (mkF m 36 #[.val (.long q1), .second, .val (.int p2), .val (.long u2), .second, .val (.long u4), .second, .val (.int v106), .val (.int (14 : Int32))] [(.int (4 : Int32)), (.int (14 : Int32))])) _
    refine XS.imul X109.here hx rfl (hb hby own_d_ranks_36) rfl ?_
    show Steps p.tables e below (T109.setTop (mkF m 37 #[.val (.long q1), .second, .val (.int p2), .val (.long u2), .second, .val (.long u4), .second, .val (.int v106), .val (.int (14 : Int32))] [(.int (56 : Int32))])) _
    refine XS.bipush X109.here hx rfl (hb hby own_d_ranks_37) ?_
    show Steps p.tables e below (T109.setTop (mkF m 39 #[.val (.long q1), .second, .val (.int p2), .val (.long u2), .second, .val (.long u4), .second, .val (.int v106), .val (.int (14 : Int32))] [(.int (52 : Int32)), (.int (56 : Int32))])) _
    refine XS.icmpYes X109.here hx rfl (pc0 := 39) (pc' := 78) rfl (hb hby own_d_ranks_39) rfl (tlt (by decide)).2.2.1 (by decide) (by decide) ?_
    show Steps p.tables e below (T109.setTop (mkF m 78 #[.val (.long q1), .second, .val (.int p2), .val (.long u2), .second, .val (.long u4), .second, .val (.int v106), .val (.int (14 : Int32))] [])) _
    refine XS.iload X109.here hx rfl (hb hby own_d_ranks_78) rfl ?_
    exact k)
  obtain ⟨fs, hr, hrun, hended, hW, hsame⟩ := X109.leave (v := some (.int v106)) (fun h => by rw [Bd.returns] at h; cases h)
  refine ⟨_, _, way110 _ ?_, hrun, hended, _, _, rfl, ?_, ⟨_, rfl⟩, hW, hsame.mono (by decide) (by decide)⟩
  · show Steps p.tables e below (T109.setTop (mkF m 80 #[.val (.long q1), .second, .val (.int p2), .val (.long u2), .second, .val (.long u4), .second, .val (.int v106), .val (.int (14 : Int32))] [(.int v106)])) _
    exact retI X109 hx Bd.returns (hb hby own_d_ranks_80) hr
  · show Q_ranks Z q1 p2 h0 n0 _ T109.heap _
    rw [e109]
    have hww : u4 = own_w q1 := by rw [hu4, hu2]; rfl
    refine ⟨?_, N0, rfl⟩
    rw [hs108, hs100, hs92, hs84, hs76, hs68, hs60, hs52, hs44, hs36, hs28, hs20, hs12, hww]
    rfl
theorem own_pn1 : plainName "com/example/kitchen_table/kitchentable/engine/cards/CardBitsRanksPinLaw" = true := by first | (simp [plainName, overriddenIn]; done) | decide +kernel
theorem own_pd2 : parseMethodDescriptor "(JI)I" = some ⟨[.long, .int], some .int⟩ := by decide +kernel
theorem own_ef_law (m : MethodId) (q1 : Int64) (p2 : Int32) (p3 : Int32) : entryFrame m #[(.long q1), (.int p2), (.int p3)] maxLocals = mkF m 0 #[.val (.long q1), .second, .val (.int p2), .val (.int p3), .unset, .unset, .unset, .unset, .unset, .unset, .unset, .unset] [] := by first | (simp [entryFrame, mkF, argsToLocals, Value.category, maxLocals]; done) | rfl
def Q_law (Z : State) (q1 : Int64) (p2 : Int32) (p3 : Int32) (h0 : Heap) (n0 : Nat) (v : Option Value) (h : Heap) (L : List Loc) : Prop := v = some (.int (1 : Int32)) ∧ Fr n0 L
set_option maxRecDepth 65536 in
set_option maxHeartbeats 40000000 in
theorem rm_law (l : Launch) (Z : State) (a0 : Array Value) (hw : ∀ d ∈ tables_1, d.before a0 Z = true) (ws : List Jvm.Cond) (q1 : Int64) (p2 : Int32) (p3 : Int32) (h0 : Heap) (n0 : Nat) (Z0 : n0 ≤ h0.size) (fS_CardBits_SUITS : Sta Z h0 "com/example/kitchen_table/kitchentable/engine/cards/CardBits" "SUITS" "I" (.int (4 : Int32))) (fS_CardBits_ACES : Sta Z h0 "com/example/kitchen_table/kitchentable/engine/cards/CardBits" "ACES" "J" (.long (15 : Int64))) :
    MetFree l x (head1 (Jvm.Cond.code x code maxLocals ret :: ws) room_1) (fun a U => a = #[(.long q1), (.int p2), (.int p3)] ∧ Z.Warmed39 U.vm ∧ U.heap = h0) (fun _ _ _ _ _ => True) (fun _ U o U' => ∃ v L, o = .returned v ∧ Q_law Z q1 p2 p3 h0 n0 v U'.heap L ∧ FrameEnd U o U' L room_1.cells room_1.slots) := by
  refine MetFree.of_bodySF (plainFor_of_name own_pn1) hisR ?_
  intro p e s m args below meth c s₁ Bd hml0 hP hK
  obtain ⟨rfl, hZ, hh⟩ := hP
  have hx := Bd.exec
  have hby := Bd.bytes
  have hml : c.maxLocals = 12 := hml0
  have hown : s.vm.findClass "com/example/kitchen_table/kitchentable/engine/cards/CardBitsRanksPinLaw" = some m.cls := findClass_of_methodNamed Bd.named
  have hnm := (name_of_methodNamed Bd.named Bd.method).1
  have X0 : Stand p l e room_1 s m #[(.long q1), (.int p2), (.int p3)] below meth c s₁ [] 0 0 := Stand.of_body Bd
  have e0 : s₁.heap = h0 := by rw [← hh, Bd.state]; rfl
  have N0 := Fr.nil n0
  have pre0 : ∀ t, Steps p.tables e below (s₁.setTop (mkF m 0 #[.val (.long q1), .second, .val (.int p2), .val (.int p3), .unset, .unset, .unset, .unset, .unset, .unset, .unset, .unset] [])) t → Steps p.tables e below (s₁.setTop (entryFrame m #[(.long q1), (.int p2), (.int p3)] maxLocals)) t := fun t k => castTop (own_ef_law m q1 p2 p3) k
  have way1 : ∀ t, Steps p.tables e below (s₁.setTop (mkF m 9 #[.val (.long q1), .second, .val (.int p2), .val (.int p3), .unset, .unset, .unset, .unset, .unset, .unset, .unset, .unset] [(.int (((p2 &&& (2147483647 : Int32)) % (13 : Int32)) + (1 : Int32)))])) t → Steps p.tables e below (s₁.setTop (entryFrame m #[(.long q1), (.int p2), (.int p3)] maxLocals)) t := fun t k => pre0 t (by
    show Steps p.tables e below (s₁.setTop (mkF m 0 #[.val (.long q1), .second, .val (.int p2), .val (.int p3), .unset, .unset, .unset, .unset, .unset, .unset, .unset, .unset] [])) _
    refine XS.iloadN X0.here hx rfl (hb hby at_0) rfl ?_
    show Steps p.tables e below (s₁.setTop (mkF m 1 #[.val (.long q1), .second, .val (.int p2), .val (.int p3), .unset, .unset, .unset, .unset, .unset, .unset, .unset, .unset] [(.int p2)])) _
    refine X0.ldcInt hx hown (mvT hZ (hw _ (List.mem_of_getElem? (i := 0) rfl))) (g := (mkF m 1 #[.val (.long q1), .second, .val (.int p2), .val (.int p3), .unset, .unset, .unset, .unset, .unset, .unset, .unset, .unset] [(.int p2)])) rfl (hb hby at_1) _ ?_
    show Steps p.tables e below (s₁.setTop (mkF m 3 #[.val (.long q1), .second, .val (.int p2), .val (.int p3), .unset, .unset, .unset, .unset, .unset, .unset, .unset, .unset] [(.int (2147483647 : Int32)), (.int p2)])) _
    refine XS.iand X0.here hx rfl (hb hby at_3) rfl ?_
    show Steps p.tables e below (s₁.setTop (mkF m 4 #[.val (.long q1), .second, .val (.int p2), .val (.int p3), .unset, .unset, .unset, .unset, .unset, .unset, .unset, .unset] [(.int (p2 &&& (2147483647 : Int32)))])) _
    refine XS.bipush X0.here hx rfl (hb hby at_4) ?_
    show Steps p.tables e below (s₁.setTop (mkF m 6 #[.val (.long q1), .second, .val (.int p2), .val (.int p3), .unset, .unset, .unset, .unset, .unset, .unset, .unset, .unset] [(.int (13 : Int32)), (.int (p2 &&& (2147483647 : Int32)))])) _
    refine iremM (g := (mkF m 6 #[.val (.long q1), .second, .val (.int p2), .val (.int p3), .unset, .unset, .unset, .unset, .unset, .unset, .unset, .unset] [(.int (13 : Int32)), (.int (p2 &&& (2147483647 : Int32)))])) X0 hx rfl (hb hby at_6) rfl (by decide) ?_
    show Steps p.tables e below (s₁.setTop (mkF m 7 #[.val (.long q1), .second, .val (.int p2), .val (.int p3), .unset, .unset, .unset, .unset, .unset, .unset, .unset, .unset] [(.int ((p2 &&& (2147483647 : Int32)) % (13 : Int32)))])) _
    refine XS.iconst X0.here hx rfl (hb hby at_7) ?_
    show Steps p.tables e below (s₁.setTop (mkF m 8 #[.val (.long q1), .second, .val (.int p2), .val (.int p3), .unset, .unset, .unset, .unset, .unset, .unset, .unset, .unset] [(.int (1 : Int32)), (.int ((p2 &&& (2147483647 : Int32)) % (13 : Int32)))])) _
    refine XS.iadd X0.here hx rfl (hb hby at_8) rfl ?_
    exact k)
  obtain ⟨u2, hu2⟩ : ∃ z : Int32, z = (((p2 &&& (2147483647 : Int32)) % (13 : Int32)) + (1 : Int32)) := ⟨_, rfl⟩
  rw [← hu2] at way1
  have way3 : ∀ t, Steps p.tables e below (s₁.setTop (mkF m 16 #[.val (.long q1), .second, .val (.int p2), .val (.int p3), .val (.int u2), .unset, .unset, .unset, .unset, .unset, .unset, .unset] [(.int ((p3 &&& (3 : Int32)) + (1 : Int32)))])) t → Steps p.tables e below (s₁.setTop (entryFrame m #[(.long q1), (.int p2), (.int p3)] maxLocals)) t := fun t k => way1 t (by
    show Steps p.tables e below (s₁.setTop (mkF m 9 #[.val (.long q1), .second, .val (.int p2), .val (.int p3), .unset, .unset, .unset, .unset, .unset, .unset, .unset, .unset] [(.int u2)])) _
    refine XS.istore X0.here hx rfl (hb hby at_9) rfl (l' := #[.val (.long q1), .second, .val (.int p2), .val (.int p3), .val (.int u2), .unset, .unset, .unset, .unset, .unset, .unset, .unset]) rfl ?_
    show Steps p.tables e below (s₁.setTop (mkF m 11 #[.val (.long q1), .second, .val (.int p2), .val (.int p3), .val (.int u2), .unset, .unset, .unset, .unset, .unset, .unset, .unset] [])) _
    refine XS.iloadN X0.here hx rfl (hb hby at_11) rfl ?_
    show Steps p.tables e below (s₁.setTop (mkF m 12 #[.val (.long q1), .second, .val (.int p2), .val (.int p3), .val (.int u2), .unset, .unset, .unset, .unset, .unset, .unset, .unset] [(.int p3)])) _
    refine XS.iconst X0.here hx rfl (hb hby at_12) ?_
    show Steps p.tables e below (s₁.setTop (mkF m 13 #[.val (.long q1), .second, .val (.int p2), .val (.int p3), .val (.int u2), .unset, .unset, .unset, .unset, .unset, .unset, .unset] [(.int (3 : Int32)), (.int p3)])) _
    refine XS.iand X0.here hx rfl (hb hby at_13) rfl ?_
    show Steps p.tables e below (s₁.setTop (mkF m 14 #[.val (.long q1), .second, .val (.int p2), .val (.int p3), .val (.int u2), .unset, .unset, .unset, .unset, .unset, .unset, .unset] [(.int (p3 &&& (3 : Int32)))])) _
    refine XS.iconst X0.here hx rfl (hb hby at_14) ?_
    show Steps p.tables e below (s₁.setTop (mkF m 15 #[.val (.long q1), .second, .val (.int p2), .val (.int p3), .val (.int u2), .unset, .unset, .unset, .unset, .unset, .unset, .unset] [(.int (1 : Int32)), (.int (p3 &&& (3 : Int32)))])) _
    refine XS.iadd X0.here hx rfl (hb hby at_15) rfl ?_
    exact k)
  obtain ⟨u4, hu4⟩ : ∃ z : Int32, z = ((p3 &&& (3 : Int32)) + (1 : Int32)) := ⟨_, rfl⟩
  rw [← hu4] at way3
  obtain ⟨_, _, ⟨T5, L5, k5, n5⟩, -, X5, ⟨Lc5, hQ5, l5, y5, z5⟩, st5⟩ := Jvm.LawKit.callS X0 hx (y := (⟨"com/example/kitchen_table/kitchentable/engine/cards/CardBits", "ranks", "(JI)I"⟩ : MethodName)) hown (mvT hZ (hw _ (List.mem_of_getElem? (i := 1) rfl))) (mvT hZ (hw _ (List.mem_of_getElem? (i := 2) rfl))) (mvT hZ (hw _ (List.mem_of_getElem? (i := 3) rfl))) (mvT hZ (hw _ (List.mem_of_getElem? (i := 4) rfl))) (by decide) (backOf (W := 0) (rm_ranks l Z a0 hw [] q1 u4 h0 n0 Z0 fS_CardBits_SUITS fS_CardBits_ACES) hZ (hw _ (List.mem_of_getElem? (i := 4) rfl)) (hw _ (List.mem_of_getElem? (i := 3) rfl)) (by decide) (by decide)) (g := (mkF m 21 #[.val (.long q1), .second, .val (.int p2), .val (.int p3), .val (.int u2), .val (.int u4), .unset, .unset, .unset, .unset, .unset, .unset] [(.int u4), (.long q1)])) rfl (by rw [hml]; rfl) (argsL := [(.long q1), (.int u4)]) (rest := []) (lenOf own_pd2 rfl) rfl (by show 2 * 0 + _ ≤ _; exact Nat.le_of_eq rfl) (hb hby at_21) (fun _ _ => ⟨rfl, e0, (by decide : 0 + 0 ≤ _), (by decide : 0 + 0 ≤ _)⟩)
  dsimp only [Pt.U, Pt.locs, Pt.cells, Pt.slots] at X5 l5 y5 z5 st5 hQ5
  subst l5 y5 z5
  obtain ⟨rfl, N5q, hh5⟩ := hQ5
  have N5 := Fr.app N0 N5q
  have way6 : ∀ t, Steps p.tables e below (T5.setTop (mkF m 24 #[.val (.long q1), .second, .val (.int p2), .val (.int p3), .val (.int u2), .val (.int u4), .unset, .unset, .unset, .unset, .unset, .unset] [(.int (own_ranks (own_w q1) u4))])) t → Steps p.tables e below (s₁.setTop (entryFrame m #[(.long q1), (.int p2), (.int p3)] maxLocals)) t := fun t k => way3 t (by
    show Steps p.tables e below (s₁.setTop (mkF m 16 #[.val (.long q1), .second, .val (.int p2), .val (.int p3), .val (.int u2), .unset, .unset, .unset, .unset, .unset, .unset, .unset] [(.int u4)])) _
    refine XS.istore X0.here hx rfl (hb hby at_16) rfl (l' := #[.val (.long q1), .second, .val (.int p2), .val (.int p3), .val (.int u2), .val (.int u4), .unset, .unset, .unset, .unset, .unset, .unset]) rfl ?_
    show Steps p.tables e below (s₁.setTop (mkF m 18 #[.val (.long q1), .second, .val (.int p2), .val (.int p3), .val (.int u2), .val (.int u4), .unset, .unset, .unset, .unset, .unset, .unset] [])) _
    refine XS.lloadN X0.here hx rfl (hb hby at_18) rfl ?_
    show Steps p.tables e below (s₁.setTop (mkF m 19 #[.val (.long q1), .second, .val (.int p2), .val (.int p3), .val (.int u2), .val (.int u4), .unset, .unset, .unset, .unset, .unset, .unset] [(.long q1)])) _
    refine XS.iload X0.here hx rfl (hb hby at_19) rfl ?_
    show Steps p.tables e below (s₁.setTop (mkF m 21 #[.val (.long q1), .second, .val (.int p2), .val (.int p3), .val (.int u2), .val (.int u4), .unset, .unset, .unset, .unset, .unset, .unset] [(.int u4), (.long q1)])) _
    refine st5 _ ?_
    exact k)
  obtain ⟨u7, hu7⟩ : ∃ z : Int32, z = (own_ranks (own_w q1) u4) := ⟨_, rfl⟩
  rw [← hu7] at way6
  have way8 : ∀ t, Steps p.tables e below (T5.setTop (mkF m 83 #[.val (.long q1), .second, .val (.int p2), .val (.int p3), .val (.int u2), .val (.int u4), .val (.int u7), .val (.long (((q1.toUInt64 >>> (((u2 - (1 : Int32)) * (4 : Int32)) &&& 0x3f).toInt64.toUInt64).toInt64) &&& (15 : Int64))), .second, .val (.int ((((((((q1.toUInt64 >>> (((u2 - (1 : Int32)) * (4 : Int32)) &&& 0x3f).toInt64.toUInt64).toInt64) &&& (15 : Int64)) &&& (1 : Int64)) + ((((((q1.toUInt64 >>> (((u2 - (1 : Int32)) * (4 : Int32)) &&& 0x3f).toInt64.toUInt64).toInt64) &&& (15 : Int64)).toUInt64 >>> ((1 : Int32) &&& 0x3f).toInt64.toUInt64).toInt64) &&& (1 : Int64))) + ((((((q1.toUInt64 >>> (((u2 - (1 : Int32)) * (4 : Int32)) &&& 0x3f).toInt64.toUInt64).toInt64) &&& (15 : Int64)).toUInt64 >>> ((2 : Int32) &&& 0x3f).toInt64.toUInt64).toInt64) &&& (1 : Int64))) + ((((((q1.toUInt64 >>> (((u2 - (1 : Int32)) * (4 : Int32)) &&& 0x3f).toInt64.toUInt64).toInt64) &&& (15 : Int64)).toUInt64 >>> ((3 : Int32) &&& 0x3f).toInt64.toUInt64).toInt64) &&& (1 : Int64))).toInt32)), .unset, .unset] [(.int u4), (.int ((((((((q1.toUInt64 >>> (((u2 - (1 : Int32)) * (4 : Int32)) &&& 0x3f).toInt64.toUInt64).toInt64) &&& (15 : Int64)) &&& (1 : Int64)) + ((((((q1.toUInt64 >>> (((u2 - (1 : Int32)) * (4 : Int32)) &&& 0x3f).toInt64.toUInt64).toInt64) &&& (15 : Int64)).toUInt64 >>> ((1 : Int32) &&& 0x3f).toInt64.toUInt64).toInt64) &&& (1 : Int64))) + ((((((q1.toUInt64 >>> (((u2 - (1 : Int32)) * (4 : Int32)) &&& 0x3f).toInt64.toUInt64).toInt64) &&& (15 : Int64)).toUInt64 >>> ((2 : Int32) &&& 0x3f).toInt64.toUInt64).toInt64) &&& (1 : Int64))) + ((((((q1.toUInt64 >>> (((u2 - (1 : Int32)) * (4 : Int32)) &&& 0x3f).toInt64.toUInt64).toInt64) &&& (15 : Int64)).toUInt64 >>> ((3 : Int32) &&& 0x3f).toInt64.toUInt64).toInt64) &&& (1 : Int64))).toInt32))])) t → Steps p.tables e below (s₁.setTop (entryFrame m #[(.long q1), (.int p2), (.int p3)] maxLocals)) t := fun t k => way6 t (by
    show Steps p.tables e below (T5.setTop (mkF m 24 #[.val (.long q1), .second, .val (.int p2), .val (.int p3), .val (.int u2), .val (.int u4), .unset, .unset, .unset, .unset, .unset, .unset] [(.int u7)])) _
    refine XS.istore X5.here hx rfl (hb hby at_24) rfl (l' := #[.val (.long q1), .second, .val (.int p2), .val (.int p3), .val (.int u2), .val (.int u4), .val (.int u7), .unset, .unset, .unset, .unset, .unset]) rfl ?_
    show Steps p.tables e below (T5.setTop (mkF m 26 #[.val (.long q1), .second, .val (.int p2), .val (.int p3), .val (.int u2), .val (.int u4), .val (.int u7), .unset, .unset, .unset, .unset, .unset] [])) _
    refine XS.iload X5.here hx rfl (hb hby at_26) rfl ?_
    show Steps p.tables e below (T5.setTop (mkF m 28 #[.val (.long q1), .second, .val (.int p2), .val (.int p3), .val (.int u2), .val (.int u4), .val (.int u7), .unset, .unset, .unset, .unset, .unset] [(.int u7)])) _
    refine XS.sipush X5.here hx rfl (hb hby at_28) ?_
    show Steps p.tables e below (T5.setTop (mkF m 31 #[.val (.long q1), .second, .val (.int p2), .val (.int p3), .val (.int u2), .val (.int u4), .val (.int u7), .unset, .unset, .unset, .unset, .unset] [(.int (-16383 : Int32)), (.int u7)])) _
    refine XS.iand X5.here hx rfl (hb hby at_31) rfl ?_
    show Steps p.tables e below (T5.setTop (mkF m 32 #[.val (.long q1), .second, .val (.int p2), .val (.int p3), .val (.int u2), .val (.int u4), .val (.int u7), .unset, .unset, .unset, .unset, .unset] [(.int (u7 &&& (-16383 : Int32)))])) _
    refine XS.ifYes X5.here hx rfl (pc0 := 32) (pc' := 37) rfl (hb hby at_32) rfl ((if0 _ _).trans (teq (by rw [hu7]; exact own_mask _ _)).1) (by decide) (by decide) ?_
    show Steps p.tables e below (T5.setTop (mkF m 37 #[.val (.long q1), .second, .val (.int p2), .val (.int p3), .val (.int u2), .val (.int u4), .val (.int u7), .unset, .unset, .unset, .unset, .unset] [])) _
    refine XS.lloadN X5.here hx rfl (hb hby at_37) rfl ?_
    show Steps p.tables e below (T5.setTop (mkF m 38 #[.val (.long q1), .second, .val (.int p2), .val (.int p3), .val (.int u2), .val (.int u4), .val (.int u7), .unset, .unset, .unset, .unset, .unset] [(.long q1)])) _
    refine XS.iload X5.here hx rfl (hb hby at_38) rfl ?_
    show Steps p.tables e below (T5.setTop (mkF m 40 #[.val (.long q1), .second, .val (.int p2), .val (.int p3), .val (.int u2), .val (.int u4), .val (.int u7), .unset, .unset, .unset, .unset, .unset] [(.int u2), (.long q1)])) _
    refine XS.iconst X5.here hx rfl (hb hby at_40) ?_
    show Steps p.tables e below (T5.setTop (mkF m 41 #[.val (.long q1), .second, .val (.int p2), .val (.int p3), .val (.int u2), .val (.int u4), .val (.int u7), .unset, .unset, .unset, .unset, .unset] [(.int (1 : Int32)), (.int u2), (.long q1)])) _
    refine XS.isub X5.here hx rfl (hb hby at_41) rfl ?_
    show Steps p.tables e below (T5.setTop (mkF m 42 #[.val (.long q1), .second, .val (.int p2), .val (.int p3), .val (.int u2), .val (.int u4), .val (.int u7), .unset, .unset, .unset, .unset, .unset] [(.int (u2 - (1 : Int32))), (.long q1)])) _
    refine XS.iconst X5.here hx rfl (hb hby at_42) ?_
    show Steps p.tables e below (T5.setTop (mkF m 43 #[.val (.long q1), .second, .val (.int p2), .val (.int p3), .val (.int u2), .val (.int u4), .val (.int u7), .unset, .unset, .unset, .unset, .unset] [(.int (4 : Int32)), (.int (u2 - (1 : Int32))), (.long q1)])) _
    refine XS.imul X5.here hx rfl (hb hby at_43) rfl ?_
    show Steps p.tables e below (T5.setTop (mkF m 44 #[.val (.long q1), .second, .val (.int p2), .val (.int p3), .val (.int u2), .val (.int u4), .val (.int u7), .unset, .unset, .unset, .unset, .unset] [(.int ((u2 - (1 : Int32)) * (4 : Int32))), (.long q1)])) _
    refine XS.lushr X5.here hx rfl (hb hby at_44) rfl ?_
    show Steps p.tables e below (T5.setTop (mkF m 45 #[.val (.long q1), .second, .val (.int p2), .val (.int p3), .val (.int u2), .val (.int u4), .val (.int u7), .unset, .unset, .unset, .unset, .unset] [(.long ((q1.toUInt64 >>> (((u2 - (1 : Int32)) * (4 : Int32)) &&& 0x3f).toInt64.toUInt64).toInt64))])) _
    refine X5.ldc2Long hx hown (mvT hZ (hw _ (List.mem_of_getElem? (i := 11) rfl))) (g := (mkF m 45 #[.val (.long q1), .second, .val (.int p2), .val (.int p3), .val (.int u2), .val (.int u4), .val (.int u7), .unset, .unset, .unset, .unset, .unset] [(.long ((q1.toUInt64 >>> (((u2 - (1 : Int32)) * (4 : Int32)) &&& 0x3f).toInt64.toUInt64).toInt64))])) rfl (hb hby at_45) _ ?_
    show Steps p.tables e below (T5.setTop (mkF m 48 #[.val (.long q1), .second, .val (.int p2), .val (.int p3), .val (.int u2), .val (.int u4), .val (.int u7), .unset, .unset, .unset, .unset, .unset] [(.long (15 : Int64)), (.long ((q1.toUInt64 >>> (((u2 - (1 : Int32)) * (4 : Int32)) &&& 0x3f).toInt64.toUInt64).toInt64))])) _
    refine XS.land X5.here hx rfl (hb hby at_48) rfl ?_
    show Steps p.tables e below (T5.setTop (mkF m 49 #[.val (.long q1), .second, .val (.int p2), .val (.int p3), .val (.int u2), .val (.int u4), .val (.int u7), .unset, .unset, .unset, .unset, .unset] [(.long (((q1.toUInt64 >>> (((u2 - (1 : Int32)) * (4 : Int32)) &&& 0x3f).toInt64.toUInt64).toInt64) &&& (15 : Int64)))])) _
    refine XS.lstore X5.here hx rfl (hb hby at_49) rfl (l' := #[.val (.long q1), .second, .val (.int p2), .val (.int p3), .val (.int u2), .val (.int u4), .val (.int u7), .val (.long (((q1.toUInt64 >>> (((u2 - (1 : Int32)) * (4 : Int32)) &&& 0x3f).toInt64.toUInt64).toInt64) &&& (15 : Int64))), .second, .unset, .unset, .unset]) rfl ?_
    show Steps p.tables e below (T5.setTop (mkF m 51 #[.val (.long q1), .second, .val (.int p2), .val (.int p3), .val (.int u2), .val (.int u4), .val (.int u7), .val (.long (((q1.toUInt64 >>> (((u2 - (1 : Int32)) * (4 : Int32)) &&& 0x3f).toInt64.toUInt64).toInt64) &&& (15 : Int64))), .second, .unset, .unset, .unset] [])) _
    refine XS.lload X5.here hx rfl (hb hby at_51) rfl ?_
    show Steps p.tables e below (T5.setTop (mkF m 53 #[.val (.long q1), .second, .val (.int p2), .val (.int p3), .val (.int u2), .val (.int u4), .val (.int u7), .val (.long (((q1.toUInt64 >>> (((u2 - (1 : Int32)) * (4 : Int32)) &&& 0x3f).toInt64.toUInt64).toInt64) &&& (15 : Int64))), .second, .unset, .unset, .unset] [(.long (((q1.toUInt64 >>> (((u2 - (1 : Int32)) * (4 : Int32)) &&& 0x3f).toInt64.toUInt64).toInt64) &&& (15 : Int64)))])) _
    refine XS.lconst X5.here hx rfl (hb hby at_53) ?_
    show Steps p.tables e below (T5.setTop (mkF m 54 #[.val (.long q1), .second, .val (.int p2), .val (.int p3), .val (.int u2), .val (.int u4), .val (.int u7), .val (.long (((q1.toUInt64 >>> (((u2 - (1 : Int32)) * (4 : Int32)) &&& 0x3f).toInt64.toUInt64).toInt64) &&& (15 : Int64))), .second, .unset, .unset, .unset] [(.long (1 : Int64)), (.long (((q1.toUInt64 >>> (((u2 - (1 : Int32)) * (4 : Int32)) &&& 0x3f).toInt64.toUInt64).toInt64) &&& (15 : Int64)))])) _
    refine XS.land X5.here hx rfl (hb hby at_54) rfl ?_
    show Steps p.tables e below (T5.setTop (mkF m 55 #[.val (.long q1), .second, .val (.int p2), .val (.int p3), .val (.int u2), .val (.int u4), .val (.int u7), .val (.long (((q1.toUInt64 >>> (((u2 - (1 : Int32)) * (4 : Int32)) &&& 0x3f).toInt64.toUInt64).toInt64) &&& (15 : Int64))), .second, .unset, .unset, .unset] [(.long ((((q1.toUInt64 >>> (((u2 - (1 : Int32)) * (4 : Int32)) &&& 0x3f).toInt64.toUInt64).toInt64) &&& (15 : Int64)) &&& (1 : Int64)))])) _
    refine XS.lload X5.here hx rfl (hb hby at_55) rfl ?_
    show Steps p.tables e below (T5.setTop (mkF m 57 #[.val (.long q1), .second, .val (.int p2), .val (.int p3), .val (.int u2), .val (.int u4), .val (.int u7), .val (.long (((q1.toUInt64 >>> (((u2 - (1 : Int32)) * (4 : Int32)) &&& 0x3f).toInt64.toUInt64).toInt64) &&& (15 : Int64))), .second, .unset, .unset, .unset] [(.long (((q1.toUInt64 >>> (((u2 - (1 : Int32)) * (4 : Int32)) &&& 0x3f).toInt64.toUInt64).toInt64) &&& (15 : Int64))), (.long ((((q1.toUInt64 >>> (((u2 - (1 : Int32)) * (4 : Int32)) &&& 0x3f).toInt64.toUInt64).toInt64) &&& (15 : Int64)) &&& (1 : Int64)))])) _
    refine XS.iconst X5.here hx rfl (hb hby at_57) ?_
    show Steps p.tables e below (T5.setTop (mkF m 58 #[.val (.long q1), .second, .val (.int p2), .val (.int p3), .val (.int u2), .val (.int u4), .val (.int u7), .val (.long (((q1.toUInt64 >>> (((u2 - (1 : Int32)) * (4 : Int32)) &&& 0x3f).toInt64.toUInt64).toInt64) &&& (15 : Int64))), .second, .unset, .unset, .unset] [(.int (1 : Int32)), (.long (((q1.toUInt64 >>> (((u2 - (1 : Int32)) * (4 : Int32)) &&& 0x3f).toInt64.toUInt64).toInt64) &&& (15 : Int64))), (.long ((((q1.toUInt64 >>> (((u2 - (1 : Int32)) * (4 : Int32)) &&& 0x3f).toInt64.toUInt64).toInt64) &&& (15 : Int64)) &&& (1 : Int64)))])) _
    refine XS.lushr X5.here hx rfl (hb hby at_58) rfl ?_
    show Steps p.tables e below (T5.setTop (mkF m 59 #[.val (.long q1), .second, .val (.int p2), .val (.int p3), .val (.int u2), .val (.int u4), .val (.int u7), .val (.long (((q1.toUInt64 >>> (((u2 - (1 : Int32)) * (4 : Int32)) &&& 0x3f).toInt64.toUInt64).toInt64) &&& (15 : Int64))), .second, .unset, .unset, .unset] [(.long (((((q1.toUInt64 >>> (((u2 - (1 : Int32)) * (4 : Int32)) &&& 0x3f).toInt64.toUInt64).toInt64) &&& (15 : Int64)).toUInt64 >>> ((1 : Int32) &&& 0x3f).toInt64.toUInt64).toInt64)), (.long ((((q1.toUInt64 >>> (((u2 - (1 : Int32)) * (4 : Int32)) &&& 0x3f).toInt64.toUInt64).toInt64) &&& (15 : Int64)) &&& (1 : Int64)))])) _
    refine XS.lconst X5.here hx rfl (hb hby at_59) ?_
    show Steps p.tables e below (T5.setTop (mkF m 60 #[.val (.long q1), .second, .val (.int p2), .val (.int p3), .val (.int u2), .val (.int u4), .val (.int u7), .val (.long (((q1.toUInt64 >>> (((u2 - (1 : Int32)) * (4 : Int32)) &&& 0x3f).toInt64.toUInt64).toInt64) &&& (15 : Int64))), .second, .unset, .unset, .unset] [(.long (1 : Int64)), (.long (((((q1.toUInt64 >>> (((u2 - (1 : Int32)) * (4 : Int32)) &&& 0x3f).toInt64.toUInt64).toInt64) &&& (15 : Int64)).toUInt64 >>> ((1 : Int32) &&& 0x3f).toInt64.toUInt64).toInt64)), (.long ((((q1.toUInt64 >>> (((u2 - (1 : Int32)) * (4 : Int32)) &&& 0x3f).toInt64.toUInt64).toInt64) &&& (15 : Int64)) &&& (1 : Int64)))])) _
    refine XS.land X5.here hx rfl (hb hby at_60) rfl ?_
    show Steps p.tables e below (T5.setTop (mkF m 61 #[.val (.long q1), .second, .val (.int p2), .val (.int p3), .val (.int u2), .val (.int u4), .val (.int u7), .val (.long (((q1.toUInt64 >>> (((u2 - (1 : Int32)) * (4 : Int32)) &&& 0x3f).toInt64.toUInt64).toInt64) &&& (15 : Int64))), .second, .unset, .unset, .unset] [(.long ((((((q1.toUInt64 >>> (((u2 - (1 : Int32)) * (4 : Int32)) &&& 0x3f).toInt64.toUInt64).toInt64) &&& (15 : Int64)).toUInt64 >>> ((1 : Int32) &&& 0x3f).toInt64.toUInt64).toInt64) &&& (1 : Int64))), (.long ((((q1.toUInt64 >>> (((u2 - (1 : Int32)) * (4 : Int32)) &&& 0x3f).toInt64.toUInt64).toInt64) &&& (15 : Int64)) &&& (1 : Int64)))])) _
    refine XS.ladd X5.here hx rfl (hb hby at_61) rfl ?_
    show Steps p.tables e below (T5.setTop (mkF m 62 #[.val (.long q1), .second, .val (.int p2), .val (.int p3), .val (.int u2), .val (.int u4), .val (.int u7), .val (.long (((q1.toUInt64 >>> (((u2 - (1 : Int32)) * (4 : Int32)) &&& 0x3f).toInt64.toUInt64).toInt64) &&& (15 : Int64))), .second, .unset, .unset, .unset] [(.long (((((q1.toUInt64 >>> (((u2 - (1 : Int32)) * (4 : Int32)) &&& 0x3f).toInt64.toUInt64).toInt64) &&& (15 : Int64)) &&& (1 : Int64)) + ((((((q1.toUInt64 >>> (((u2 - (1 : Int32)) * (4 : Int32)) &&& 0x3f).toInt64.toUInt64).toInt64) &&& (15 : Int64)).toUInt64 >>> ((1 : Int32) &&& 0x3f).toInt64.toUInt64).toInt64) &&& (1 : Int64))))])) _
    refine XS.lload X5.here hx rfl (hb hby at_62) rfl ?_
    show Steps p.tables e below (T5.setTop (mkF m 64 #[.val (.long q1), .second, .val (.int p2), .val (.int p3), .val (.int u2), .val (.int u4), .val (.int u7), .val (.long (((q1.toUInt64 >>> (((u2 - (1 : Int32)) * (4 : Int32)) &&& 0x3f).toInt64.toUInt64).toInt64) &&& (15 : Int64))), .second, .unset, .unset, .unset] [(.long (((q1.toUInt64 >>> (((u2 - (1 : Int32)) * (4 : Int32)) &&& 0x3f).toInt64.toUInt64).toInt64) &&& (15 : Int64))), (.long (((((q1.toUInt64 >>> (((u2 - (1 : Int32)) * (4 : Int32)) &&& 0x3f).toInt64.toUInt64).toInt64) &&& (15 : Int64)) &&& (1 : Int64)) + ((((((q1.toUInt64 >>> (((u2 - (1 : Int32)) * (4 : Int32)) &&& 0x3f).toInt64.toUInt64).toInt64) &&& (15 : Int64)).toUInt64 >>> ((1 : Int32) &&& 0x3f).toInt64.toUInt64).toInt64) &&& (1 : Int64))))])) _
    refine XS.iconst X5.here hx rfl (hb hby at_64) ?_
    show Steps p.tables e below (T5.setTop (mkF m 65 #[.val (.long q1), .second, .val (.int p2), .val (.int p3), .val (.int u2), .val (.int u4), .val (.int u7), .val (.long (((q1.toUInt64 >>> (((u2 - (1 : Int32)) * (4 : Int32)) &&& 0x3f).toInt64.toUInt64).toInt64) &&& (15 : Int64))), .second, .unset, .unset, .unset] [(.int (2 : Int32)), (.long (((q1.toUInt64 >>> (((u2 - (1 : Int32)) * (4 : Int32)) &&& 0x3f).toInt64.toUInt64).toInt64) &&& (15 : Int64))), (.long (((((q1.toUInt64 >>> (((u2 - (1 : Int32)) * (4 : Int32)) &&& 0x3f).toInt64.toUInt64).toInt64) &&& (15 : Int64)) &&& (1 : Int64)) + ((((((q1.toUInt64 >>> (((u2 - (1 : Int32)) * (4 : Int32)) &&& 0x3f).toInt64.toUInt64).toInt64) &&& (15 : Int64)).toUInt64 >>> ((1 : Int32) &&& 0x3f).toInt64.toUInt64).toInt64) &&& (1 : Int64))))])) _
    refine XS.lushr X5.here hx rfl (hb hby at_65) rfl ?_
    show Steps p.tables e below (T5.setTop (mkF m 66 #[.val (.long q1), .second, .val (.int p2), .val (.int p3), .val (.int u2), .val (.int u4), .val (.int u7), .val (.long (((q1.toUInt64 >>> (((u2 - (1 : Int32)) * (4 : Int32)) &&& 0x3f).toInt64.toUInt64).toInt64) &&& (15 : Int64))), .second, .unset, .unset, .unset] [(.long (((((q1.toUInt64 >>> (((u2 - (1 : Int32)) * (4 : Int32)) &&& 0x3f).toInt64.toUInt64).toInt64) &&& (15 : Int64)).toUInt64 >>> ((2 : Int32) &&& 0x3f).toInt64.toUInt64).toInt64)), (.long (((((q1.toUInt64 >>> (((u2 - (1 : Int32)) * (4 : Int32)) &&& 0x3f).toInt64.toUInt64).toInt64) &&& (15 : Int64)) &&& (1 : Int64)) + ((((((q1.toUInt64 >>> (((u2 - (1 : Int32)) * (4 : Int32)) &&& 0x3f).toInt64.toUInt64).toInt64) &&& (15 : Int64)).toUInt64 >>> ((1 : Int32) &&& 0x3f).toInt64.toUInt64).toInt64) &&& (1 : Int64))))])) _
    refine XS.lconst X5.here hx rfl (hb hby at_66) ?_
    show Steps p.tables e below (T5.setTop (mkF m 67 #[.val (.long q1), .second, .val (.int p2), .val (.int p3), .val (.int u2), .val (.int u4), .val (.int u7), .val (.long (((q1.toUInt64 >>> (((u2 - (1 : Int32)) * (4 : Int32)) &&& 0x3f).toInt64.toUInt64).toInt64) &&& (15 : Int64))), .second, .unset, .unset, .unset] [(.long (1 : Int64)), (.long (((((q1.toUInt64 >>> (((u2 - (1 : Int32)) * (4 : Int32)) &&& 0x3f).toInt64.toUInt64).toInt64) &&& (15 : Int64)).toUInt64 >>> ((2 : Int32) &&& 0x3f).toInt64.toUInt64).toInt64)), (.long (((((q1.toUInt64 >>> (((u2 - (1 : Int32)) * (4 : Int32)) &&& 0x3f).toInt64.toUInt64).toInt64) &&& (15 : Int64)) &&& (1 : Int64)) + ((((((q1.toUInt64 >>> (((u2 - (1 : Int32)) * (4 : Int32)) &&& 0x3f).toInt64.toUInt64).toInt64) &&& (15 : Int64)).toUInt64 >>> ((1 : Int32) &&& 0x3f).toInt64.toUInt64).toInt64) &&& (1 : Int64))))])) _
    refine XS.land X5.here hx rfl (hb hby at_67) rfl ?_
    show Steps p.tables e below (T5.setTop (mkF m 68 #[.val (.long q1), .second, .val (.int p2), .val (.int p3), .val (.int u2), .val (.int u4), .val (.int u7), .val (.long (((q1.toUInt64 >>> (((u2 - (1 : Int32)) * (4 : Int32)) &&& 0x3f).toInt64.toUInt64).toInt64) &&& (15 : Int64))), .second, .unset, .unset, .unset] [(.long ((((((q1.toUInt64 >>> (((u2 - (1 : Int32)) * (4 : Int32)) &&& 0x3f).toInt64.toUInt64).toInt64) &&& (15 : Int64)).toUInt64 >>> ((2 : Int32) &&& 0x3f).toInt64.toUInt64).toInt64) &&& (1 : Int64))), (.long (((((q1.toUInt64 >>> (((u2 - (1 : Int32)) * (4 : Int32)) &&& 0x3f).toInt64.toUInt64).toInt64) &&& (15 : Int64)) &&& (1 : Int64)) + ((((((q1.toUInt64 >>> (((u2 - (1 : Int32)) * (4 : Int32)) &&& 0x3f).toInt64.toUInt64).toInt64) &&& (15 : Int64)).toUInt64 >>> ((1 : Int32) &&& 0x3f).toInt64.toUInt64).toInt64) &&& (1 : Int64))))])) _
    refine XS.ladd X5.here hx rfl (hb hby at_68) rfl ?_
    show Steps p.tables e below (T5.setTop (mkF m 69 #[.val (.long q1), .second, .val (.int p2), .val (.int p3), .val (.int u2), .val (.int u4), .val (.int u7), .val (.long (((q1.toUInt64 >>> (((u2 - (1 : Int32)) * (4 : Int32)) &&& 0x3f).toInt64.toUInt64).toInt64) &&& (15 : Int64))), .second, .unset, .unset, .unset] [(.long ((((((q1.toUInt64 >>> (((u2 - (1 : Int32)) * (4 : Int32)) &&& 0x3f).toInt64.toUInt64).toInt64) &&& (15 : Int64)) &&& (1 : Int64)) + ((((((q1.toUInt64 >>> (((u2 - (1 : Int32)) * (4 : Int32)) &&& 0x3f).toInt64.toUInt64).toInt64) &&& (15 : Int64)).toUInt64 >>> ((1 : Int32) &&& 0x3f).toInt64.toUInt64).toInt64) &&& (1 : Int64))) + ((((((q1.toUInt64 >>> (((u2 - (1 : Int32)) * (4 : Int32)) &&& 0x3f).toInt64.toUInt64).toInt64) &&& (15 : Int64)).toUInt64 >>> ((2 : Int32) &&& 0x3f).toInt64.toUInt64).toInt64) &&& (1 : Int64))))])) _
    refine XS.lload X5.here hx rfl (hb hby at_69) rfl ?_
    show Steps p.tables e below (T5.setTop (mkF m 71 #[.val (.long q1), .second, .val (.int p2), .val (.int p3), .val (.int u2), .val (.int u4), .val (.int u7), .val (.long (((q1.toUInt64 >>> (((u2 - (1 : Int32)) * (4 : Int32)) &&& 0x3f).toInt64.toUInt64).toInt64) &&& (15 : Int64))), .second, .unset, .unset, .unset] [(.long (((q1.toUInt64 >>> (((u2 - (1 : Int32)) * (4 : Int32)) &&& 0x3f).toInt64.toUInt64).toInt64) &&& (15 : Int64))), (.long ((((((q1.toUInt64 >>> (((u2 - (1 : Int32)) * (4 : Int32)) &&& 0x3f).toInt64.toUInt64).toInt64) &&& (15 : Int64)) &&& (1 : Int64)) + ((((((q1.toUInt64 >>> (((u2 - (1 : Int32)) * (4 : Int32)) &&& 0x3f).toInt64.toUInt64).toInt64) &&& (15 : Int64)).toUInt64 >>> ((1 : Int32) &&& 0x3f).toInt64.toUInt64).toInt64) &&& (1 : Int64))) + ((((((q1.toUInt64 >>> (((u2 - (1 : Int32)) * (4 : Int32)) &&& 0x3f).toInt64.toUInt64).toInt64) &&& (15 : Int64)).toUInt64 >>> ((2 : Int32) &&& 0x3f).toInt64.toUInt64).toInt64) &&& (1 : Int64))))])) _
    refine XS.iconst X5.here hx rfl (hb hby at_71) ?_
    show Steps p.tables e below (T5.setTop (mkF m 72 #[.val (.long q1), .second, .val (.int p2), .val (.int p3), .val (.int u2), .val (.int u4), .val (.int u7), .val (.long (((q1.toUInt64 >>> (((u2 - (1 : Int32)) * (4 : Int32)) &&& 0x3f).toInt64.toUInt64).toInt64) &&& (15 : Int64))), .second, .unset, .unset, .unset] [(.int (3 : Int32)), (.long (((q1.toUInt64 >>> (((u2 - (1 : Int32)) * (4 : Int32)) &&& 0x3f).toInt64.toUInt64).toInt64) &&& (15 : Int64))), (.long ((((((q1.toUInt64 >>> (((u2 - (1 : Int32)) * (4 : Int32)) &&& 0x3f).toInt64.toUInt64).toInt64) &&& (15 : Int64)) &&& (1 : Int64)) + ((((((q1.toUInt64 >>> (((u2 - (1 : Int32)) * (4 : Int32)) &&& 0x3f).toInt64.toUInt64).toInt64) &&& (15 : Int64)).toUInt64 >>> ((1 : Int32) &&& 0x3f).toInt64.toUInt64).toInt64) &&& (1 : Int64))) + ((((((q1.toUInt64 >>> (((u2 - (1 : Int32)) * (4 : Int32)) &&& 0x3f).toInt64.toUInt64).toInt64) &&& (15 : Int64)).toUInt64 >>> ((2 : Int32) &&& 0x3f).toInt64.toUInt64).toInt64) &&& (1 : Int64))))])) _
    refine XS.lushr X5.here hx rfl (hb hby at_72) rfl ?_
    show Steps p.tables e below (T5.setTop (mkF m 73 #[.val (.long q1), .second, .val (.int p2), .val (.int p3), .val (.int u2), .val (.int u4), .val (.int u7), .val (.long (((q1.toUInt64 >>> (((u2 - (1 : Int32)) * (4 : Int32)) &&& 0x3f).toInt64.toUInt64).toInt64) &&& (15 : Int64))), .second, .unset, .unset, .unset] [(.long (((((q1.toUInt64 >>> (((u2 - (1 : Int32)) * (4 : Int32)) &&& 0x3f).toInt64.toUInt64).toInt64) &&& (15 : Int64)).toUInt64 >>> ((3 : Int32) &&& 0x3f).toInt64.toUInt64).toInt64)), (.long ((((((q1.toUInt64 >>> (((u2 - (1 : Int32)) * (4 : Int32)) &&& 0x3f).toInt64.toUInt64).toInt64) &&& (15 : Int64)) &&& (1 : Int64)) + ((((((q1.toUInt64 >>> (((u2 - (1 : Int32)) * (4 : Int32)) &&& 0x3f).toInt64.toUInt64).toInt64) &&& (15 : Int64)).toUInt64 >>> ((1 : Int32) &&& 0x3f).toInt64.toUInt64).toInt64) &&& (1 : Int64))) + ((((((q1.toUInt64 >>> (((u2 - (1 : Int32)) * (4 : Int32)) &&& 0x3f).toInt64.toUInt64).toInt64) &&& (15 : Int64)).toUInt64 >>> ((2 : Int32) &&& 0x3f).toInt64.toUInt64).toInt64) &&& (1 : Int64))))])) _
    refine XS.lconst X5.here hx rfl (hb hby at_73) ?_
    show Steps p.tables e below (T5.setTop (mkF m 74 #[.val (.long q1), .second, .val (.int p2), .val (.int p3), .val (.int u2), .val (.int u4), .val (.int u7), .val (.long (((q1.toUInt64 >>> (((u2 - (1 : Int32)) * (4 : Int32)) &&& 0x3f).toInt64.toUInt64).toInt64) &&& (15 : Int64))), .second, .unset, .unset, .unset] [(.long (1 : Int64)), (.long (((((q1.toUInt64 >>> (((u2 - (1 : Int32)) * (4 : Int32)) &&& 0x3f).toInt64.toUInt64).toInt64) &&& (15 : Int64)).toUInt64 >>> ((3 : Int32) &&& 0x3f).toInt64.toUInt64).toInt64)), (.long ((((((q1.toUInt64 >>> (((u2 - (1 : Int32)) * (4 : Int32)) &&& 0x3f).toInt64.toUInt64).toInt64) &&& (15 : Int64)) &&& (1 : Int64)) + ((((((q1.toUInt64 >>> (((u2 - (1 : Int32)) * (4 : Int32)) &&& 0x3f).toInt64.toUInt64).toInt64) &&& (15 : Int64)).toUInt64 >>> ((1 : Int32) &&& 0x3f).toInt64.toUInt64).toInt64) &&& (1 : Int64))) + ((((((q1.toUInt64 >>> (((u2 - (1 : Int32)) * (4 : Int32)) &&& 0x3f).toInt64.toUInt64).toInt64) &&& (15 : Int64)).toUInt64 >>> ((2 : Int32) &&& 0x3f).toInt64.toUInt64).toInt64) &&& (1 : Int64))))])) _
    refine XS.land X5.here hx rfl (hb hby at_74) rfl ?_
    show Steps p.tables e below (T5.setTop (mkF m 75 #[.val (.long q1), .second, .val (.int p2), .val (.int p3), .val (.int u2), .val (.int u4), .val (.int u7), .val (.long (((q1.toUInt64 >>> (((u2 - (1 : Int32)) * (4 : Int32)) &&& 0x3f).toInt64.toUInt64).toInt64) &&& (15 : Int64))), .second, .unset, .unset, .unset] [(.long ((((((q1.toUInt64 >>> (((u2 - (1 : Int32)) * (4 : Int32)) &&& 0x3f).toInt64.toUInt64).toInt64) &&& (15 : Int64)).toUInt64 >>> ((3 : Int32) &&& 0x3f).toInt64.toUInt64).toInt64) &&& (1 : Int64))), (.long ((((((q1.toUInt64 >>> (((u2 - (1 : Int32)) * (4 : Int32)) &&& 0x3f).toInt64.toUInt64).toInt64) &&& (15 : Int64)) &&& (1 : Int64)) + ((((((q1.toUInt64 >>> (((u2 - (1 : Int32)) * (4 : Int32)) &&& 0x3f).toInt64.toUInt64).toInt64) &&& (15 : Int64)).toUInt64 >>> ((1 : Int32) &&& 0x3f).toInt64.toUInt64).toInt64) &&& (1 : Int64))) + ((((((q1.toUInt64 >>> (((u2 - (1 : Int32)) * (4 : Int32)) &&& 0x3f).toInt64.toUInt64).toInt64) &&& (15 : Int64)).toUInt64 >>> ((2 : Int32) &&& 0x3f).toInt64.toUInt64).toInt64) &&& (1 : Int64))))])) _
    refine XS.ladd X5.here hx rfl (hb hby at_75) rfl ?_
    show Steps p.tables e below (T5.setTop (mkF m 76 #[.val (.long q1), .second, .val (.int p2), .val (.int p3), .val (.int u2), .val (.int u4), .val (.int u7), .val (.long (((q1.toUInt64 >>> (((u2 - (1 : Int32)) * (4 : Int32)) &&& 0x3f).toInt64.toUInt64).toInt64) &&& (15 : Int64))), .second, .unset, .unset, .unset] [(.long (((((((q1.toUInt64 >>> (((u2 - (1 : Int32)) * (4 : Int32)) &&& 0x3f).toInt64.toUInt64).toInt64) &&& (15 : Int64)) &&& (1 : Int64)) + ((((((q1.toUInt64 >>> (((u2 - (1 : Int32)) * (4 : Int32)) &&& 0x3f).toInt64.toUInt64).toInt64) &&& (15 : Int64)).toUInt64 >>> ((1 : Int32) &&& 0x3f).toInt64.toUInt64).toInt64) &&& (1 : Int64))) + ((((((q1.toUInt64 >>> (((u2 - (1 : Int32)) * (4 : Int32)) &&& 0x3f).toInt64.toUInt64).toInt64) &&& (15 : Int64)).toUInt64 >>> ((2 : Int32) &&& 0x3f).toInt64.toUInt64).toInt64) &&& (1 : Int64))) + ((((((q1.toUInt64 >>> (((u2 - (1 : Int32)) * (4 : Int32)) &&& 0x3f).toInt64.toUInt64).toInt64) &&& (15 : Int64)).toUInt64 >>> ((3 : Int32) &&& 0x3f).toInt64.toUInt64).toInt64) &&& (1 : Int64))))])) _
    refine XS.l2i X5.here hx rfl (hb hby at_76) rfl ?_
    show Steps p.tables e below (T5.setTop (mkF m 77 #[.val (.long q1), .second, .val (.int p2), .val (.int p3), .val (.int u2), .val (.int u4), .val (.int u7), .val (.long (((q1.toUInt64 >>> (((u2 - (1 : Int32)) * (4 : Int32)) &&& 0x3f).toInt64.toUInt64).toInt64) &&& (15 : Int64))), .second, .unset, .unset, .unset] [(.int ((((((((q1.toUInt64 >>> (((u2 - (1 : Int32)) * (4 : Int32)) &&& 0x3f).toInt64.toUInt64).toInt64) &&& (15 : Int64)) &&& (1 : Int64)) + ((((((q1.toUInt64 >>> (((u2 - (1 : Int32)) * (4 : Int32)) &&& 0x3f).toInt64.toUInt64).toInt64) &&& (15 : Int64)).toUInt64 >>> ((1 : Int32) &&& 0x3f).toInt64.toUInt64).toInt64) &&& (1 : Int64))) + ((((((q1.toUInt64 >>> (((u2 - (1 : Int32)) * (4 : Int32)) &&& 0x3f).toInt64.toUInt64).toInt64) &&& (15 : Int64)).toUInt64 >>> ((2 : Int32) &&& 0x3f).toInt64.toUInt64).toInt64) &&& (1 : Int64))) + ((((((q1.toUInt64 >>> (((u2 - (1 : Int32)) * (4 : Int32)) &&& 0x3f).toInt64.toUInt64).toInt64) &&& (15 : Int64)).toUInt64 >>> ((3 : Int32) &&& 0x3f).toInt64.toUInt64).toInt64) &&& (1 : Int64))).toInt32))])) _
    refine XS.istore X5.here hx rfl (hb hby at_77) rfl (l' := #[.val (.long q1), .second, .val (.int p2), .val (.int p3), .val (.int u2), .val (.int u4), .val (.int u7), .val (.long (((q1.toUInt64 >>> (((u2 - (1 : Int32)) * (4 : Int32)) &&& 0x3f).toInt64.toUInt64).toInt64) &&& (15 : Int64))), .second, .val (.int ((((((((q1.toUInt64 >>> (((u2 - (1 : Int32)) * (4 : Int32)) &&& 0x3f).toInt64.toUInt64).toInt64) &&& (15 : Int64)) &&& (1 : Int64)) + ((((((q1.toUInt64 >>> (((u2 - (1 : Int32)) * (4 : Int32)) &&& 0x3f).toInt64.toUInt64).toInt64) &&& (15 : Int64)).toUInt64 >>> ((1 : Int32) &&& 0x3f).toInt64.toUInt64).toInt64) &&& (1 : Int64))) + ((((((q1.toUInt64 >>> (((u2 - (1 : Int32)) * (4 : Int32)) &&& 0x3f).toInt64.toUInt64).toInt64) &&& (15 : Int64)).toUInt64 >>> ((2 : Int32) &&& 0x3f).toInt64.toUInt64).toInt64) &&& (1 : Int64))) + ((((((q1.toUInt64 >>> (((u2 - (1 : Int32)) * (4 : Int32)) &&& 0x3f).toInt64.toUInt64).toInt64) &&& (15 : Int64)).toUInt64 >>> ((3 : Int32) &&& 0x3f).toInt64.toUInt64).toInt64) &&& (1 : Int64))).toInt32)), .unset, .unset]) rfl ?_
    show Steps p.tables e below (T5.setTop (mkF m 79 #[.val (.long q1), .second, .val (.int p2), .val (.int p3), .val (.int u2), .val (.int u4), .val (.int u7), .val (.long (((q1.toUInt64 >>> (((u2 - (1 : Int32)) * (4 : Int32)) &&& 0x3f).toInt64.toUInt64).toInt64) &&& (15 : Int64))), .second, .val (.int ((((((((q1.toUInt64 >>> (((u2 - (1 : Int32)) * (4 : Int32)) &&& 0x3f).toInt64.toUInt64).toInt64) &&& (15 : Int64)) &&& (1 : Int64)) + ((((((q1.toUInt64 >>> (((u2 - (1 : Int32)) * (4 : Int32)) &&& 0x3f).toInt64.toUInt64).toInt64) &&& (15 : Int64)).toUInt64 >>> ((1 : Int32) &&& 0x3f).toInt64.toUInt64).toInt64) &&& (1 : Int64))) + ((((((q1.toUInt64 >>> (((u2 - (1 : Int32)) * (4 : Int32)) &&& 0x3f).toInt64.toUInt64).toInt64) &&& (15 : Int64)).toUInt64 >>> ((2 : Int32) &&& 0x3f).toInt64.toUInt64).toInt64) &&& (1 : Int64))) + ((((((q1.toUInt64 >>> (((u2 - (1 : Int32)) * (4 : Int32)) &&& 0x3f).toInt64.toUInt64).toInt64) &&& (15 : Int64)).toUInt64 >>> ((3 : Int32) &&& 0x3f).toInt64.toUInt64).toInt64) &&& (1 : Int64))).toInt32)), .unset, .unset] [])) _
    refine XS.iload X5.here hx rfl (hb hby at_79) rfl ?_
    show Steps p.tables e below (T5.setTop (mkF m 81 #[.val (.long q1), .second, .val (.int p2), .val (.int p3), .val (.int u2), .val (.int u4), .val (.int u7), .val (.long (((q1.toUInt64 >>> (((u2 - (1 : Int32)) * (4 : Int32)) &&& 0x3f).toInt64.toUInt64).toInt64) &&& (15 : Int64))), .second, .val (.int ((((((((q1.toUInt64 >>> (((u2 - (1 : Int32)) * (4 : Int32)) &&& 0x3f).toInt64.toUInt64).toInt64) &&& (15 : Int64)) &&& (1 : Int64)) + ((((((q1.toUInt64 >>> (((u2 - (1 : Int32)) * (4 : Int32)) &&& 0x3f).toInt64.toUInt64).toInt64) &&& (15 : Int64)).toUInt64 >>> ((1 : Int32) &&& 0x3f).toInt64.toUInt64).toInt64) &&& (1 : Int64))) + ((((((q1.toUInt64 >>> (((u2 - (1 : Int32)) * (4 : Int32)) &&& 0x3f).toInt64.toUInt64).toInt64) &&& (15 : Int64)).toUInt64 >>> ((2 : Int32) &&& 0x3f).toInt64.toUInt64).toInt64) &&& (1 : Int64))) + ((((((q1.toUInt64 >>> (((u2 - (1 : Int32)) * (4 : Int32)) &&& 0x3f).toInt64.toUInt64).toInt64) &&& (15 : Int64)).toUInt64 >>> ((3 : Int32) &&& 0x3f).toInt64.toUInt64).toInt64) &&& (1 : Int64))).toInt32)), .unset, .unset] [(.int ((((((((q1.toUInt64 >>> (((u2 - (1 : Int32)) * (4 : Int32)) &&& 0x3f).toInt64.toUInt64).toInt64) &&& (15 : Int64)) &&& (1 : Int64)) + ((((((q1.toUInt64 >>> (((u2 - (1 : Int32)) * (4 : Int32)) &&& 0x3f).toInt64.toUInt64).toInt64) &&& (15 : Int64)).toUInt64 >>> ((1 : Int32) &&& 0x3f).toInt64.toUInt64).toInt64) &&& (1 : Int64))) + ((((((q1.toUInt64 >>> (((u2 - (1 : Int32)) * (4 : Int32)) &&& 0x3f).toInt64.toUInt64).toInt64) &&& (15 : Int64)).toUInt64 >>> ((2 : Int32) &&& 0x3f).toInt64.toUInt64).toInt64) &&& (1 : Int64))) + ((((((q1.toUInt64 >>> (((u2 - (1 : Int32)) * (4 : Int32)) &&& 0x3f).toInt64.toUInt64).toInt64) &&& (15 : Int64)).toUInt64 >>> ((3 : Int32) &&& 0x3f).toInt64.toUInt64).toInt64) &&& (1 : Int64))).toInt32))])) _
    refine XS.iload X5.here hx rfl (hb hby at_81) rfl ?_
    exact k)
  obtain ⟨v10, hv10⟩ : ∃ z : Int32, z = (if ((((((((q1.toUInt64 >>> (((u2 - (1 : Int32)) * (4 : Int32)) &&& 0x3f).toInt64.toUInt64).toInt64) &&& (15 : Int64)) &&& (1 : Int64)) + ((((((q1.toUInt64 >>> (((u2 - (1 : Int32)) * (4 : Int32)) &&& 0x3f).toInt64.toUInt64).toInt64) &&& (15 : Int64)).toUInt64 >>> ((1 : Int32) &&& 0x3f).toInt64.toUInt64).toInt64) &&& (1 : Int64))) + ((((((q1.toUInt64 >>> (((u2 - (1 : Int32)) * (4 : Int32)) &&& 0x3f).toInt64.toUInt64).toInt64) &&& (15 : Int64)).toUInt64 >>> ((2 : Int32) &&& 0x3f).toInt64.toUInt64).toInt64) &&& (1 : Int64))) + ((((((q1.toUInt64 >>> (((u2 - (1 : Int32)) * (4 : Int32)) &&& 0x3f).toInt64.toUInt64).toInt64) &&& (15 : Int64)).toUInt64 >>> ((3 : Int32) &&& 0x3f).toInt64.toUInt64).toInt64) &&& (1 : Int64))).toInt32) < u4 then (0 : Int32) else (1 : Int32)) := ⟨_, rfl⟩
  have way11 : ∀ t, Steps p.tables e below (T5.setTop (mkF m 91 #[.val (.long q1), .second, .val (.int p2), .val (.int p3), .val (.int u2), .val (.int u4), .val (.int u7), .val (.long (((q1.toUInt64 >>> (((u2 - (1 : Int32)) * (4 : Int32)) &&& 0x3f).toInt64.toUInt64).toInt64) &&& (15 : Int64))), .second, .val (.int ((((((((q1.toUInt64 >>> (((u2 - (1 : Int32)) * (4 : Int32)) &&& 0x3f).toInt64.toUInt64).toInt64) &&& (15 : Int64)) &&& (1 : Int64)) + ((((((q1.toUInt64 >>> (((u2 - (1 : Int32)) * (4 : Int32)) &&& 0x3f).toInt64.toUInt64).toInt64) &&& (15 : Int64)).toUInt64 >>> ((1 : Int32) &&& 0x3f).toInt64.toUInt64).toInt64) &&& (1 : Int64))) + ((((((q1.toUInt64 >>> (((u2 - (1 : Int32)) * (4 : Int32)) &&& 0x3f).toInt64.toUInt64).toInt64) &&& (15 : Int64)).toUInt64 >>> ((2 : Int32) &&& 0x3f).toInt64.toUInt64).toInt64) &&& (1 : Int64))) + ((((((q1.toUInt64 >>> (((u2 - (1 : Int32)) * (4 : Int32)) &&& 0x3f).toInt64.toUInt64).toInt64) &&& (15 : Int64)).toUInt64 >>> ((3 : Int32) &&& 0x3f).toInt64.toUInt64).toInt64) &&& (1 : Int64))).toInt32)), .unset, .unset] [(.int v10)])) t → Steps p.tables e below (s₁.setTop (entryFrame m #[(.long q1), (.int p2), (.int p3)] maxLocals)) t := fun t k => way8 t (by
    by_cases hj9 : ((((((((q1.toUInt64 >>> (((u2 - (1 : Int32)) * (4 : Int32)) &&& 0x3f).toInt64.toUInt64).toInt64) &&& (15 : Int64)) &&& (1 : Int64)) + ((((((q1.toUInt64 >>> (((u2 - (1 : Int32)) * (4 : Int32)) &&& 0x3f).toInt64.toUInt64).toInt64) &&& (15 : Int64)).toUInt64 >>> ((1 : Int32) &&& 0x3f).toInt64.toUInt64).toInt64) &&& (1 : Int64))) + ((((((q1.toUInt64 >>> (((u2 - (1 : Int32)) * (4 : Int32)) &&& 0x3f).toInt64.toUInt64).toInt64) &&& (15 : Int64)).toUInt64 >>> ((2 : Int32) &&& 0x3f).toInt64.toUInt64).toInt64) &&& (1 : Int64))) + ((((((q1.toUInt64 >>> (((u2 - (1 : Int32)) * (4 : Int32)) &&& 0x3f).toInt64.toUInt64).toInt64) &&& (15 : Int64)).toUInt64 >>> ((3 : Int32) &&& 0x3f).toInt64.toUInt64).toInt64) &&& (1 : Int64))).toInt32) < u4
    ·
      show Steps p.tables e below (T5.setTop (mkF m 83 #[.val (.long q1), .second, .val (.int p2), .val (.int p3), .val (.int u2), .val (.int u4), .val (.int u7), .val (.long (((q1.toUInt64 >>> (((u2 - (1 : Int32)) * (4 : Int32)) &&& 0x3f).toInt64.toUInt64).toInt64) &&& (15 : Int64))), .second, .val (.int ((((((((q1.toUInt64 >>> (((u2 - (1 : Int32)) * (4 : Int32)) &&& 0x3f).toInt64.toUInt64).toInt64) &&& (15 : Int64)) &&& (1 : Int64)) + ((((((q1.toUInt64 >>> (((u2 - (1 : Int32)) * (4 : Int32)) &&& 0x3f).toInt64.toUInt64).toInt64) &&& (15 : Int64)).toUInt64 >>> ((1 : Int32) &&& 0x3f).toInt64.toUInt64).toInt64) &&& (1 : Int64))) + ((((((q1.toUInt64 >>> (((u2 - (1 : Int32)) * (4 : Int32)) &&& 0x3f).toInt64.toUInt64).toInt64) &&& (15 : Int64)).toUInt64 >>> ((2 : Int32) &&& 0x3f).toInt64.toUInt64).toInt64) &&& (1 : Int64))) + ((((((q1.toUInt64 >>> (((u2 - (1 : Int32)) * (4 : Int32)) &&& 0x3f).toInt64.toUInt64).toInt64) &&& (15 : Int64)).toUInt64 >>> ((3 : Int32) &&& 0x3f).toInt64.toUInt64).toInt64) &&& (1 : Int64))).toInt32)), .unset, .unset] [(.int u4), (.int ((((((((q1.toUInt64 >>> (((u2 - (1 : Int32)) * (4 : Int32)) &&& 0x3f).toInt64.toUInt64).toInt64) &&& (15 : Int64)) &&& (1 : Int64)) + ((((((q1.toUInt64 >>> (((u2 - (1 : Int32)) * (4 : Int32)) &&& 0x3f).toInt64.toUInt64).toInt64) &&& (15 : Int64)).toUInt64 >>> ((1 : Int32) &&& 0x3f).toInt64.toUInt64).toInt64) &&& (1 : Int64))) + ((((((q1.toUInt64 >>> (((u2 - (1 : Int32)) * (4 : Int32)) &&& 0x3f).toInt64.toUInt64).toInt64) &&& (15 : Int64)).toUInt64 >>> ((2 : Int32) &&& 0x3f).toInt64.toUInt64).toInt64) &&& (1 : Int64))) + ((((((q1.toUInt64 >>> (((u2 - (1 : Int32)) * (4 : Int32)) &&& 0x3f).toInt64.toUInt64).toInt64) &&& (15 : Int64)).toUInt64 >>> ((3 : Int32) &&& 0x3f).toInt64.toUInt64).toInt64) &&& (1 : Int64))).toInt32))])) _
      refine XS.icmpYes X5.here hx rfl (pc0 := 83) (pc' := 90) rfl (hb hby at_83) rfl (tlt hj9).1 (by decide) (by decide) ?_
      show Steps p.tables e below (T5.setTop (mkF m 90 #[.val (.long q1), .second, .val (.int p2), .val (.int p3), .val (.int u2), .val (.int u4), .val (.int u7), .val (.long (((q1.toUInt64 >>> (((u2 - (1 : Int32)) * (4 : Int32)) &&& 0x3f).toInt64.toUInt64).toInt64) &&& (15 : Int64))), .second, .val (.int ((((((((q1.toUInt64 >>> (((u2 - (1 : Int32)) * (4 : Int32)) &&& 0x3f).toInt64.toUInt64).toInt64) &&& (15 : Int64)) &&& (1 : Int64)) + ((((((q1.toUInt64 >>> (((u2 - (1 : Int32)) * (4 : Int32)) &&& 0x3f).toInt64.toUInt64).toInt64) &&& (15 : Int64)).toUInt64 >>> ((1 : Int32) &&& 0x3f).toInt64.toUInt64).toInt64) &&& (1 : Int64))) + ((((((q1.toUInt64 >>> (((u2 - (1 : Int32)) * (4 : Int32)) &&& 0x3f).toInt64.toUInt64).toInt64) &&& (15 : Int64)).toUInt64 >>> ((2 : Int32) &&& 0x3f).toInt64.toUInt64).toInt64) &&& (1 : Int64))) + ((((((q1.toUInt64 >>> (((u2 - (1 : Int32)) * (4 : Int32)) &&& 0x3f).toInt64.toUInt64).toInt64) &&& (15 : Int64)).toUInt64 >>> ((3 : Int32) &&& 0x3f).toInt64.toUInt64).toInt64) &&& (1 : Int64))).toInt32)), .unset, .unset] [])) _
      refine XS.iconst X5.here hx rfl (hb hby at_90) ?_
      simp only [hv10, if_pos hj9] at k
      exact k
    ·
      show Steps p.tables e below (T5.setTop (mkF m 83 #[.val (.long q1), .second, .val (.int p2), .val (.int p3), .val (.int u2), .val (.int u4), .val (.int u7), .val (.long (((q1.toUInt64 >>> (((u2 - (1 : Int32)) * (4 : Int32)) &&& 0x3f).toInt64.toUInt64).toInt64) &&& (15 : Int64))), .second, .val (.int ((((((((q1.toUInt64 >>> (((u2 - (1 : Int32)) * (4 : Int32)) &&& 0x3f).toInt64.toUInt64).toInt64) &&& (15 : Int64)) &&& (1 : Int64)) + ((((((q1.toUInt64 >>> (((u2 - (1 : Int32)) * (4 : Int32)) &&& 0x3f).toInt64.toUInt64).toInt64) &&& (15 : Int64)).toUInt64 >>> ((1 : Int32) &&& 0x3f).toInt64.toUInt64).toInt64) &&& (1 : Int64))) + ((((((q1.toUInt64 >>> (((u2 - (1 : Int32)) * (4 : Int32)) &&& 0x3f).toInt64.toUInt64).toInt64) &&& (15 : Int64)).toUInt64 >>> ((2 : Int32) &&& 0x3f).toInt64.toUInt64).toInt64) &&& (1 : Int64))) + ((((((q1.toUInt64 >>> (((u2 - (1 : Int32)) * (4 : Int32)) &&& 0x3f).toInt64.toUInt64).toInt64) &&& (15 : Int64)).toUInt64 >>> ((3 : Int32) &&& 0x3f).toInt64.toUInt64).toInt64) &&& (1 : Int64))).toInt32)), .unset, .unset] [(.int u4), (.int ((((((((q1.toUInt64 >>> (((u2 - (1 : Int32)) * (4 : Int32)) &&& 0x3f).toInt64.toUInt64).toInt64) &&& (15 : Int64)) &&& (1 : Int64)) + ((((((q1.toUInt64 >>> (((u2 - (1 : Int32)) * (4 : Int32)) &&& 0x3f).toInt64.toUInt64).toInt64) &&& (15 : Int64)).toUInt64 >>> ((1 : Int32) &&& 0x3f).toInt64.toUInt64).toInt64) &&& (1 : Int64))) + ((((((q1.toUInt64 >>> (((u2 - (1 : Int32)) * (4 : Int32)) &&& 0x3f).toInt64.toUInt64).toInt64) &&& (15 : Int64)).toUInt64 >>> ((2 : Int32) &&& 0x3f).toInt64.toUInt64).toInt64) &&& (1 : Int64))) + ((((((q1.toUInt64 >>> (((u2 - (1 : Int32)) * (4 : Int32)) &&& 0x3f).toInt64.toUInt64).toInt64) &&& (15 : Int64)).toUInt64 >>> ((3 : Int32) &&& 0x3f).toInt64.toUInt64).toInt64) &&& (1 : Int64))).toInt32))])) _
      refine XS.icmpNo X5.here hx rfl (hb hby at_83) rfl (flt hj9).1 ?_
      show Steps p.tables e below (T5.setTop (mkF m 86 #[.val (.long q1), .second, .val (.int p2), .val (.int p3), .val (.int u2), .val (.int u4), .val (.int u7), .val (.long (((q1.toUInt64 >>> (((u2 - (1 : Int32)) * (4 : Int32)) &&& 0x3f).toInt64.toUInt64).toInt64) &&& (15 : Int64))), .second, .val (.int ((((((((q1.toUInt64 >>> (((u2 - (1 : Int32)) * (4 : Int32)) &&& 0x3f).toInt64.toUInt64).toInt64) &&& (15 : Int64)) &&& (1 : Int64)) + ((((((q1.toUInt64 >>> (((u2 - (1 : Int32)) * (4 : Int32)) &&& 0x3f).toInt64.toUInt64).toInt64) &&& (15 : Int64)).toUInt64 >>> ((1 : Int32) &&& 0x3f).toInt64.toUInt64).toInt64) &&& (1 : Int64))) + ((((((q1.toUInt64 >>> (((u2 - (1 : Int32)) * (4 : Int32)) &&& 0x3f).toInt64.toUInt64).toInt64) &&& (15 : Int64)).toUInt64 >>> ((2 : Int32) &&& 0x3f).toInt64.toUInt64).toInt64) &&& (1 : Int64))) + ((((((q1.toUInt64 >>> (((u2 - (1 : Int32)) * (4 : Int32)) &&& 0x3f).toInt64.toUInt64).toInt64) &&& (15 : Int64)).toUInt64 >>> ((3 : Int32) &&& 0x3f).toInt64.toUInt64).toInt64) &&& (1 : Int64))).toInt32)), .unset, .unset] [])) _
      refine XS.iconst X5.here hx rfl (hb hby at_86) ?_
      show Steps p.tables e below (T5.setTop (mkF m 87 #[.val (.long q1), .second, .val (.int p2), .val (.int p3), .val (.int u2), .val (.int u4), .val (.int u7), .val (.long (((q1.toUInt64 >>> (((u2 - (1 : Int32)) * (4 : Int32)) &&& 0x3f).toInt64.toUInt64).toInt64) &&& (15 : Int64))), .second, .val (.int ((((((((q1.toUInt64 >>> (((u2 - (1 : Int32)) * (4 : Int32)) &&& 0x3f).toInt64.toUInt64).toInt64) &&& (15 : Int64)) &&& (1 : Int64)) + ((((((q1.toUInt64 >>> (((u2 - (1 : Int32)) * (4 : Int32)) &&& 0x3f).toInt64.toUInt64).toInt64) &&& (15 : Int64)).toUInt64 >>> ((1 : Int32) &&& 0x3f).toInt64.toUInt64).toInt64) &&& (1 : Int64))) + ((((((q1.toUInt64 >>> (((u2 - (1 : Int32)) * (4 : Int32)) &&& 0x3f).toInt64.toUInt64).toInt64) &&& (15 : Int64)).toUInt64 >>> ((2 : Int32) &&& 0x3f).toInt64.toUInt64).toInt64) &&& (1 : Int64))) + ((((((q1.toUInt64 >>> (((u2 - (1 : Int32)) * (4 : Int32)) &&& 0x3f).toInt64.toUInt64).toInt64) &&& (15 : Int64)).toUInt64 >>> ((3 : Int32) &&& 0x3f).toInt64.toUInt64).toInt64) &&& (1 : Int64))).toInt32)), .unset, .unset] [(.int (1 : Int32))])) _
      refine XS.goto X5.here hx rfl (pc0 := 87) (pc' := 91) rfl (hb hby at_87) (by decide) (by decide) ?_
      simp only [hv10, if_neg hj9] at k
      exact k)
  have way12 : ∀ t, Steps p.tables e below (T5.setTop (mkF m 100 #[.val (.long q1), .second, .val (.int p2), .val (.int p3), .val (.int u2), .val (.int u4), .val (.int u7), .val (.long (((q1.toUInt64 >>> (((u2 - (1 : Int32)) * (4 : Int32)) &&& 0x3f).toInt64.toUInt64).toInt64) &&& (15 : Int64))), .second, .val (.int ((((((((q1.toUInt64 >>> (((u2 - (1 : Int32)) * (4 : Int32)) &&& 0x3f).toInt64.toUInt64).toInt64) &&& (15 : Int64)) &&& (1 : Int64)) + ((((((q1.toUInt64 >>> (((u2 - (1 : Int32)) * (4 : Int32)) &&& 0x3f).toInt64.toUInt64).toInt64) &&& (15 : Int64)).toUInt64 >>> ((1 : Int32) &&& 0x3f).toInt64.toUInt64).toInt64) &&& (1 : Int64))) + ((((((q1.toUInt64 >>> (((u2 - (1 : Int32)) * (4 : Int32)) &&& 0x3f).toInt64.toUInt64).toInt64) &&& (15 : Int64)).toUInt64 >>> ((2 : Int32) &&& 0x3f).toInt64.toUInt64).toInt64) &&& (1 : Int64))) + ((((((q1.toUInt64 >>> (((u2 - (1 : Int32)) * (4 : Int32)) &&& 0x3f).toInt64.toUInt64).toInt64) &&& (15 : Int64)).toUInt64 >>> ((3 : Int32) &&& 0x3f).toInt64.toUInt64).toInt64) &&& (1 : Int64))).toInt32)), .val (.int v10), .unset] [(.int (((u7.toUInt32 >>> (u2 &&& 31).toUInt32).toInt32) &&& (1 : Int32)))])) t → Steps p.tables e below (s₁.setTop (entryFrame m #[(.long q1), (.int p2), (.int p3)] maxLocals)) t := fun t k => way11 t (by
    show Steps p.tables e below (T5.setTop (mkF m 91 #[.val (.long q1), .second, .val (.int p2), .val (.int p3), .val (.int u2), .val (.int u4), .val (.int u7), .val (.long (((q1.toUInt64 >>> (((u2 - (1 : Int32)) * (4 : Int32)) &&& 0x3f).toInt64.toUInt64).toInt64) &&& (15 : Int64))), .second, .val (.int ((((((((q1.toUInt64 >>> (((u2 - (1 : Int32)) * (4 : Int32)) &&& 0x3f).toInt64.toUInt64).toInt64) &&& (15 : Int64)) &&& (1 : Int64)) + ((((((q1.toUInt64 >>> (((u2 - (1 : Int32)) * (4 : Int32)) &&& 0x3f).toInt64.toUInt64).toInt64) &&& (15 : Int64)).toUInt64 >>> ((1 : Int32) &&& 0x3f).toInt64.toUInt64).toInt64) &&& (1 : Int64))) + ((((((q1.toUInt64 >>> (((u2 - (1 : Int32)) * (4 : Int32)) &&& 0x3f).toInt64.toUInt64).toInt64) &&& (15 : Int64)).toUInt64 >>> ((2 : Int32) &&& 0x3f).toInt64.toUInt64).toInt64) &&& (1 : Int64))) + ((((((q1.toUInt64 >>> (((u2 - (1 : Int32)) * (4 : Int32)) &&& 0x3f).toInt64.toUInt64).toInt64) &&& (15 : Int64)).toUInt64 >>> ((3 : Int32) &&& 0x3f).toInt64.toUInt64).toInt64) &&& (1 : Int64))).toInt32)), .unset, .unset] [(.int v10)])) _
    refine XS.istore X5.here hx rfl (hb hby at_91) rfl (l' := #[.val (.long q1), .second, .val (.int p2), .val (.int p3), .val (.int u2), .val (.int u4), .val (.int u7), .val (.long (((q1.toUInt64 >>> (((u2 - (1 : Int32)) * (4 : Int32)) &&& 0x3f).toInt64.toUInt64).toInt64) &&& (15 : Int64))), .second, .val (.int ((((((((q1.toUInt64 >>> (((u2 - (1 : Int32)) * (4 : Int32)) &&& 0x3f).toInt64.toUInt64).toInt64) &&& (15 : Int64)) &&& (1 : Int64)) + ((((((q1.toUInt64 >>> (((u2 - (1 : Int32)) * (4 : Int32)) &&& 0x3f).toInt64.toUInt64).toInt64) &&& (15 : Int64)).toUInt64 >>> ((1 : Int32) &&& 0x3f).toInt64.toUInt64).toInt64) &&& (1 : Int64))) + ((((((q1.toUInt64 >>> (((u2 - (1 : Int32)) * (4 : Int32)) &&& 0x3f).toInt64.toUInt64).toInt64) &&& (15 : Int64)).toUInt64 >>> ((2 : Int32) &&& 0x3f).toInt64.toUInt64).toInt64) &&& (1 : Int64))) + ((((((q1.toUInt64 >>> (((u2 - (1 : Int32)) * (4 : Int32)) &&& 0x3f).toInt64.toUInt64).toInt64) &&& (15 : Int64)).toUInt64 >>> ((3 : Int32) &&& 0x3f).toInt64.toUInt64).toInt64) &&& (1 : Int64))).toInt32)), .val (.int v10), .unset]) rfl ?_
    show Steps p.tables e below (T5.setTop (mkF m 93 #[.val (.long q1), .second, .val (.int p2), .val (.int p3), .val (.int u2), .val (.int u4), .val (.int u7), .val (.long (((q1.toUInt64 >>> (((u2 - (1 : Int32)) * (4 : Int32)) &&& 0x3f).toInt64.toUInt64).toInt64) &&& (15 : Int64))), .second, .val (.int ((((((((q1.toUInt64 >>> (((u2 - (1 : Int32)) * (4 : Int32)) &&& 0x3f).toInt64.toUInt64).toInt64) &&& (15 : Int64)) &&& (1 : Int64)) + ((((((q1.toUInt64 >>> (((u2 - (1 : Int32)) * (4 : Int32)) &&& 0x3f).toInt64.toUInt64).toInt64) &&& (15 : Int64)).toUInt64 >>> ((1 : Int32) &&& 0x3f).toInt64.toUInt64).toInt64) &&& (1 : Int64))) + ((((((q1.toUInt64 >>> (((u2 - (1 : Int32)) * (4 : Int32)) &&& 0x3f).toInt64.toUInt64).toInt64) &&& (15 : Int64)).toUInt64 >>> ((2 : Int32) &&& 0x3f).toInt64.toUInt64).toInt64) &&& (1 : Int64))) + ((((((q1.toUInt64 >>> (((u2 - (1 : Int32)) * (4 : Int32)) &&& 0x3f).toInt64.toUInt64).toInt64) &&& (15 : Int64)).toUInt64 >>> ((3 : Int32) &&& 0x3f).toInt64.toUInt64).toInt64) &&& (1 : Int64))).toInt32)), .val (.int v10), .unset] [])) _
    refine XS.iload X5.here hx rfl (hb hby at_93) rfl ?_
    show Steps p.tables e below (T5.setTop (mkF m 95 #[.val (.long q1), .second, .val (.int p2), .val (.int p3), .val (.int u2), .val (.int u4), .val (.int u7), .val (.long (((q1.toUInt64 >>> (((u2 - (1 : Int32)) * (4 : Int32)) &&& 0x3f).toInt64.toUInt64).toInt64) &&& (15 : Int64))), .second, .val (.int ((((((((q1.toUInt64 >>> (((u2 - (1 : Int32)) * (4 : Int32)) &&& 0x3f).toInt64.toUInt64).toInt64) &&& (15 : Int64)) &&& (1 : Int64)) + ((((((q1.toUInt64 >>> (((u2 - (1 : Int32)) * (4 : Int32)) &&& 0x3f).toInt64.toUInt64).toInt64) &&& (15 : Int64)).toUInt64 >>> ((1 : Int32) &&& 0x3f).toInt64.toUInt64).toInt64) &&& (1 : Int64))) + ((((((q1.toUInt64 >>> (((u2 - (1 : Int32)) * (4 : Int32)) &&& 0x3f).toInt64.toUInt64).toInt64) &&& (15 : Int64)).toUInt64 >>> ((2 : Int32) &&& 0x3f).toInt64.toUInt64).toInt64) &&& (1 : Int64))) + ((((((q1.toUInt64 >>> (((u2 - (1 : Int32)) * (4 : Int32)) &&& 0x3f).toInt64.toUInt64).toInt64) &&& (15 : Int64)).toUInt64 >>> ((3 : Int32) &&& 0x3f).toInt64.toUInt64).toInt64) &&& (1 : Int64))).toInt32)), .val (.int v10), .unset] [(.int u7)])) _
    refine XS.iload X5.here hx rfl (hb hby at_95) rfl ?_
    show Steps p.tables e below (T5.setTop (mkF m 97 #[.val (.long q1), .second, .val (.int p2), .val (.int p3), .val (.int u2), .val (.int u4), .val (.int u7), .val (.long (((q1.toUInt64 >>> (((u2 - (1 : Int32)) * (4 : Int32)) &&& 0x3f).toInt64.toUInt64).toInt64) &&& (15 : Int64))), .second, .val (.int ((((((((q1.toUInt64 >>> (((u2 - (1 : Int32)) * (4 : Int32)) &&& 0x3f).toInt64.toUInt64).toInt64) &&& (15 : Int64)) &&& (1 : Int64)) + ((((((q1.toUInt64 >>> (((u2 - (1 : Int32)) * (4 : Int32)) &&& 0x3f).toInt64.toUInt64).toInt64) &&& (15 : Int64)).toUInt64 >>> ((1 : Int32) &&& 0x3f).toInt64.toUInt64).toInt64) &&& (1 : Int64))) + ((((((q1.toUInt64 >>> (((u2 - (1 : Int32)) * (4 : Int32)) &&& 0x3f).toInt64.toUInt64).toInt64) &&& (15 : Int64)).toUInt64 >>> ((2 : Int32) &&& 0x3f).toInt64.toUInt64).toInt64) &&& (1 : Int64))) + ((((((q1.toUInt64 >>> (((u2 - (1 : Int32)) * (4 : Int32)) &&& 0x3f).toInt64.toUInt64).toInt64) &&& (15 : Int64)).toUInt64 >>> ((3 : Int32) &&& 0x3f).toInt64.toUInt64).toInt64) &&& (1 : Int64))).toInt32)), .val (.int v10), .unset] [(.int u2), (.int u7)])) _
    refine XS.iushr X5.here hx rfl (hb hby at_97) rfl ?_
    show Steps p.tables e below (T5.setTop (mkF m 98 #[.val (.long q1), .second, .val (.int p2), .val (.int p3), .val (.int u2), .val (.int u4), .val (.int u7), .val (.long (((q1.toUInt64 >>> (((u2 - (1 : Int32)) * (4 : Int32)) &&& 0x3f).toInt64.toUInt64).toInt64) &&& (15 : Int64))), .second, .val (.int ((((((((q1.toUInt64 >>> (((u2 - (1 : Int32)) * (4 : Int32)) &&& 0x3f).toInt64.toUInt64).toInt64) &&& (15 : Int64)) &&& (1 : Int64)) + ((((((q1.toUInt64 >>> (((u2 - (1 : Int32)) * (4 : Int32)) &&& 0x3f).toInt64.toUInt64).toInt64) &&& (15 : Int64)).toUInt64 >>> ((1 : Int32) &&& 0x3f).toInt64.toUInt64).toInt64) &&& (1 : Int64))) + ((((((q1.toUInt64 >>> (((u2 - (1 : Int32)) * (4 : Int32)) &&& 0x3f).toInt64.toUInt64).toInt64) &&& (15 : Int64)).toUInt64 >>> ((2 : Int32) &&& 0x3f).toInt64.toUInt64).toInt64) &&& (1 : Int64))) + ((((((q1.toUInt64 >>> (((u2 - (1 : Int32)) * (4 : Int32)) &&& 0x3f).toInt64.toUInt64).toInt64) &&& (15 : Int64)).toUInt64 >>> ((3 : Int32) &&& 0x3f).toInt64.toUInt64).toInt64) &&& (1 : Int64))).toInt32)), .val (.int v10), .unset] [(.int ((u7.toUInt32 >>> (u2 &&& 31).toUInt32).toInt32))])) _
    refine XS.iconst X5.here hx rfl (hb hby at_98) ?_
    show Steps p.tables e below (T5.setTop (mkF m 99 #[.val (.long q1), .second, .val (.int p2), .val (.int p3), .val (.int u2), .val (.int u4), .val (.int u7), .val (.long (((q1.toUInt64 >>> (((u2 - (1 : Int32)) * (4 : Int32)) &&& 0x3f).toInt64.toUInt64).toInt64) &&& (15 : Int64))), .second, .val (.int ((((((((q1.toUInt64 >>> (((u2 - (1 : Int32)) * (4 : Int32)) &&& 0x3f).toInt64.toUInt64).toInt64) &&& (15 : Int64)) &&& (1 : Int64)) + ((((((q1.toUInt64 >>> (((u2 - (1 : Int32)) * (4 : Int32)) &&& 0x3f).toInt64.toUInt64).toInt64) &&& (15 : Int64)).toUInt64 >>> ((1 : Int32) &&& 0x3f).toInt64.toUInt64).toInt64) &&& (1 : Int64))) + ((((((q1.toUInt64 >>> (((u2 - (1 : Int32)) * (4 : Int32)) &&& 0x3f).toInt64.toUInt64).toInt64) &&& (15 : Int64)).toUInt64 >>> ((2 : Int32) &&& 0x3f).toInt64.toUInt64).toInt64) &&& (1 : Int64))) + ((((((q1.toUInt64 >>> (((u2 - (1 : Int32)) * (4 : Int32)) &&& 0x3f).toInt64.toUInt64).toInt64) &&& (15 : Int64)).toUInt64 >>> ((3 : Int32) &&& 0x3f).toInt64.toUInt64).toInt64) &&& (1 : Int64))).toInt32)), .val (.int v10), .unset] [(.int (1 : Int32)), (.int ((u7.toUInt32 >>> (u2 &&& 31).toUInt32).toInt32))])) _
    refine XS.iand X5.here hx rfl (hb hby at_99) rfl ?_
    exact k)
  obtain ⟨v14, hv14⟩ : ∃ z : Int32, z = (if (((u7.toUInt32 >>> (u2 &&& 31).toUInt32).toInt32) &&& (1 : Int32)) = (0 : Int32) then (0 : Int32) else (1 : Int32)) := ⟨_, rfl⟩
  have way15 : ∀ t, Steps p.tables e below (T5.setTop (mkF m 108 #[.val (.long q1), .second, .val (.int p2), .val (.int p3), .val (.int u2), .val (.int u4), .val (.int u7), .val (.long (((q1.toUInt64 >>> (((u2 - (1 : Int32)) * (4 : Int32)) &&& 0x3f).toInt64.toUInt64).toInt64) &&& (15 : Int64))), .second, .val (.int ((((((((q1.toUInt64 >>> (((u2 - (1 : Int32)) * (4 : Int32)) &&& 0x3f).toInt64.toUInt64).toInt64) &&& (15 : Int64)) &&& (1 : Int64)) + ((((((q1.toUInt64 >>> (((u2 - (1 : Int32)) * (4 : Int32)) &&& 0x3f).toInt64.toUInt64).toInt64) &&& (15 : Int64)).toUInt64 >>> ((1 : Int32) &&& 0x3f).toInt64.toUInt64).toInt64) &&& (1 : Int64))) + ((((((q1.toUInt64 >>> (((u2 - (1 : Int32)) * (4 : Int32)) &&& 0x3f).toInt64.toUInt64).toInt64) &&& (15 : Int64)).toUInt64 >>> ((2 : Int32) &&& 0x3f).toInt64.toUInt64).toInt64) &&& (1 : Int64))) + ((((((q1.toUInt64 >>> (((u2 - (1 : Int32)) * (4 : Int32)) &&& 0x3f).toInt64.toUInt64).toInt64) &&& (15 : Int64)).toUInt64 >>> ((3 : Int32) &&& 0x3f).toInt64.toUInt64).toInt64) &&& (1 : Int64))).toInt32)), .val (.int v10), .unset] [(.int v14)])) t → Steps p.tables e below (s₁.setTop (entryFrame m #[(.long q1), (.int p2), (.int p3)] maxLocals)) t := fun t k => way12 t (by
    by_cases hj13 : (((u7.toUInt32 >>> (u2 &&& 31).toUInt32).toInt32) &&& (1 : Int32)) = (0 : Int32)
    ·
      show Steps p.tables e below (T5.setTop (mkF m 100 #[.val (.long q1), .second, .val (.int p2), .val (.int p3), .val (.int u2), .val (.int u4), .val (.int u7), .val (.long (((q1.toUInt64 >>> (((u2 - (1 : Int32)) * (4 : Int32)) &&& 0x3f).toInt64.toUInt64).toInt64) &&& (15 : Int64))), .second, .val (.int ((((((((q1.toUInt64 >>> (((u2 - (1 : Int32)) * (4 : Int32)) &&& 0x3f).toInt64.toUInt64).toInt64) &&& (15 : Int64)) &&& (1 : Int64)) + ((((((q1.toUInt64 >>> (((u2 - (1 : Int32)) * (4 : Int32)) &&& 0x3f).toInt64.toUInt64).toInt64) &&& (15 : Int64)).toUInt64 >>> ((1 : Int32) &&& 0x3f).toInt64.toUInt64).toInt64) &&& (1 : Int64))) + ((((((q1.toUInt64 >>> (((u2 - (1 : Int32)) * (4 : Int32)) &&& 0x3f).toInt64.toUInt64).toInt64) &&& (15 : Int64)).toUInt64 >>> ((2 : Int32) &&& 0x3f).toInt64.toUInt64).toInt64) &&& (1 : Int64))) + ((((((q1.toUInt64 >>> (((u2 - (1 : Int32)) * (4 : Int32)) &&& 0x3f).toInt64.toUInt64).toInt64) &&& (15 : Int64)).toUInt64 >>> ((3 : Int32) &&& 0x3f).toInt64.toUInt64).toInt64) &&& (1 : Int64))).toInt32)), .val (.int v10), .unset] [(.int (((u7.toUInt32 >>> (u2 &&& 31).toUInt32).toInt32) &&& (1 : Int32)))])) _
      refine XS.ifYes X5.here hx rfl (pc0 := 100) (pc' := 107) rfl (hb hby at_100) rfl ((if0 _ _).trans (teq hj13).1) (by decide) (by decide) ?_
      show Steps p.tables e below (T5.setTop (mkF m 107 #[.val (.long q1), .second, .val (.int p2), .val (.int p3), .val (.int u2), .val (.int u4), .val (.int u7), .val (.long (((q1.toUInt64 >>> (((u2 - (1 : Int32)) * (4 : Int32)) &&& 0x3f).toInt64.toUInt64).toInt64) &&& (15 : Int64))), .second, .val (.int ((((((((q1.toUInt64 >>> (((u2 - (1 : Int32)) * (4 : Int32)) &&& 0x3f).toInt64.toUInt64).toInt64) &&& (15 : Int64)) &&& (1 : Int64)) + ((((((q1.toUInt64 >>> (((u2 - (1 : Int32)) * (4 : Int32)) &&& 0x3f).toInt64.toUInt64).toInt64) &&& (15 : Int64)).toUInt64 >>> ((1 : Int32) &&& 0x3f).toInt64.toUInt64).toInt64) &&& (1 : Int64))) + ((((((q1.toUInt64 >>> (((u2 - (1 : Int32)) * (4 : Int32)) &&& 0x3f).toInt64.toUInt64).toInt64) &&& (15 : Int64)).toUInt64 >>> ((2 : Int32) &&& 0x3f).toInt64.toUInt64).toInt64) &&& (1 : Int64))) + ((((((q1.toUInt64 >>> (((u2 - (1 : Int32)) * (4 : Int32)) &&& 0x3f).toInt64.toUInt64).toInt64) &&& (15 : Int64)).toUInt64 >>> ((3 : Int32) &&& 0x3f).toInt64.toUInt64).toInt64) &&& (1 : Int64))).toInt32)), .val (.int v10), .unset] [])) _
      refine XS.iconst X5.here hx rfl (hb hby at_107) ?_
      simp only [hv14, if_pos hj13] at k
      exact k
    ·
      show Steps p.tables e below (T5.setTop (mkF m 100 #[.val (.long q1), .second, .val (.int p2), .val (.int p3), .val (.int u2), .val (.int u4), .val (.int u7), .val (.long (((q1.toUInt64 >>> (((u2 - (1 : Int32)) * (4 : Int32)) &&& 0x3f).toInt64.toUInt64).toInt64) &&& (15 : Int64))), .second, .val (.int ((((((((q1.toUInt64 >>> (((u2 - (1 : Int32)) * (4 : Int32)) &&& 0x3f).toInt64.toUInt64).toInt64) &&& (15 : Int64)) &&& (1 : Int64)) + ((((((q1.toUInt64 >>> (((u2 - (1 : Int32)) * (4 : Int32)) &&& 0x3f).toInt64.toUInt64).toInt64) &&& (15 : Int64)).toUInt64 >>> ((1 : Int32) &&& 0x3f).toInt64.toUInt64).toInt64) &&& (1 : Int64))) + ((((((q1.toUInt64 >>> (((u2 - (1 : Int32)) * (4 : Int32)) &&& 0x3f).toInt64.toUInt64).toInt64) &&& (15 : Int64)).toUInt64 >>> ((2 : Int32) &&& 0x3f).toInt64.toUInt64).toInt64) &&& (1 : Int64))) + ((((((q1.toUInt64 >>> (((u2 - (1 : Int32)) * (4 : Int32)) &&& 0x3f).toInt64.toUInt64).toInt64) &&& (15 : Int64)).toUInt64 >>> ((3 : Int32) &&& 0x3f).toInt64.toUInt64).toInt64) &&& (1 : Int64))).toInt32)), .val (.int v10), .unset] [(.int (((u7.toUInt32 >>> (u2 &&& 31).toUInt32).toInt32) &&& (1 : Int32)))])) _
      refine XS.ifNo X5.here hx rfl (hb hby at_100) rfl ((if0 _ _).trans (feq hj13).1) ?_
      show Steps p.tables e below (T5.setTop (mkF m 103 #[.val (.long q1), .second, .val (.int p2), .val (.int p3), .val (.int u2), .val (.int u4), .val (.int u7), .val (.long (((q1.toUInt64 >>> (((u2 - (1 : Int32)) * (4 : Int32)) &&& 0x3f).toInt64.toUInt64).toInt64) &&& (15 : Int64))), .second, .val (.int ((((((((q1.toUInt64 >>> (((u2 - (1 : Int32)) * (4 : Int32)) &&& 0x3f).toInt64.toUInt64).toInt64) &&& (15 : Int64)) &&& (1 : Int64)) + ((((((q1.toUInt64 >>> (((u2 - (1 : Int32)) * (4 : Int32)) &&& 0x3f).toInt64.toUInt64).toInt64) &&& (15 : Int64)).toUInt64 >>> ((1 : Int32) &&& 0x3f).toInt64.toUInt64).toInt64) &&& (1 : Int64))) + ((((((q1.toUInt64 >>> (((u2 - (1 : Int32)) * (4 : Int32)) &&& 0x3f).toInt64.toUInt64).toInt64) &&& (15 : Int64)).toUInt64 >>> ((2 : Int32) &&& 0x3f).toInt64.toUInt64).toInt64) &&& (1 : Int64))) + ((((((q1.toUInt64 >>> (((u2 - (1 : Int32)) * (4 : Int32)) &&& 0x3f).toInt64.toUInt64).toInt64) &&& (15 : Int64)).toUInt64 >>> ((3 : Int32) &&& 0x3f).toInt64.toUInt64).toInt64) &&& (1 : Int64))).toInt32)), .val (.int v10), .unset] [])) _
      refine XS.iconst X5.here hx rfl (hb hby at_103) ?_
      show Steps p.tables e below (T5.setTop (mkF m 104 #[.val (.long q1), .second, .val (.int p2), .val (.int p3), .val (.int u2), .val (.int u4), .val (.int u7), .val (.long (((q1.toUInt64 >>> (((u2 - (1 : Int32)) * (4 : Int32)) &&& 0x3f).toInt64.toUInt64).toInt64) &&& (15 : Int64))), .second, .val (.int ((((((((q1.toUInt64 >>> (((u2 - (1 : Int32)) * (4 : Int32)) &&& 0x3f).toInt64.toUInt64).toInt64) &&& (15 : Int64)) &&& (1 : Int64)) + ((((((q1.toUInt64 >>> (((u2 - (1 : Int32)) * (4 : Int32)) &&& 0x3f).toInt64.toUInt64).toInt64) &&& (15 : Int64)).toUInt64 >>> ((1 : Int32) &&& 0x3f).toInt64.toUInt64).toInt64) &&& (1 : Int64))) + ((((((q1.toUInt64 >>> (((u2 - (1 : Int32)) * (4 : Int32)) &&& 0x3f).toInt64.toUInt64).toInt64) &&& (15 : Int64)).toUInt64 >>> ((2 : Int32) &&& 0x3f).toInt64.toUInt64).toInt64) &&& (1 : Int64))) + ((((((q1.toUInt64 >>> (((u2 - (1 : Int32)) * (4 : Int32)) &&& 0x3f).toInt64.toUInt64).toInt64) &&& (15 : Int64)).toUInt64 >>> ((3 : Int32) &&& 0x3f).toInt64.toUInt64).toInt64) &&& (1 : Int64))).toInt32)), .val (.int v10), .unset] [(.int (1 : Int32))])) _
      refine XS.goto X5.here hx rfl (pc0 := 104) (pc' := 108) rfl (hb hby at_104) (by decide) (by decide) ?_
      simp only [hv14, if_neg hj13] at k
      exact k)
  have way16 : ∀ t, Steps p.tables e below (T5.setTop (mkF m 122 #[.val (.long q1), .second, .val (.int p2), .val (.int p3), .val (.int u2), .val (.int u4), .val (.int u7), .val (.long (((q1.toUInt64 >>> (((u2 - (1 : Int32)) * (4 : Int32)) &&& 0x3f).toInt64.toUInt64).toInt64) &&& (15 : Int64))), .second, .val (.int ((((((((q1.toUInt64 >>> (((u2 - (1 : Int32)) * (4 : Int32)) &&& 0x3f).toInt64.toUInt64).toInt64) &&& (15 : Int64)) &&& (1 : Int64)) + ((((((q1.toUInt64 >>> (((u2 - (1 : Int32)) * (4 : Int32)) &&& 0x3f).toInt64.toUInt64).toInt64) &&& (15 : Int64)).toUInt64 >>> ((1 : Int32) &&& 0x3f).toInt64.toUInt64).toInt64) &&& (1 : Int64))) + ((((((q1.toUInt64 >>> (((u2 - (1 : Int32)) * (4 : Int32)) &&& 0x3f).toInt64.toUInt64).toInt64) &&& (15 : Int64)).toUInt64 >>> ((2 : Int32) &&& 0x3f).toInt64.toUInt64).toInt64) &&& (1 : Int64))) + ((((((q1.toUInt64 >>> (((u2 - (1 : Int32)) * (4 : Int32)) &&& 0x3f).toInt64.toUInt64).toInt64) &&& (15 : Int64)).toUInt64 >>> ((3 : Int32) &&& 0x3f).toInt64.toUInt64).toInt64) &&& (1 : Int64))).toInt32)), .val (.int v10), .val (.int v14)] [(.int (1 : Int32))])) t → Steps p.tables e below (s₁.setTop (entryFrame m #[(.long q1), (.int p2), (.int p3)] maxLocals)) t := fun t k => way15 t (by
    show Steps p.tables e below (T5.setTop (mkF m 108 #[.val (.long q1), .second, .val (.int p2), .val (.int p3), .val (.int u2), .val (.int u4), .val (.int u7), .val (.long (((q1.toUInt64 >>> (((u2 - (1 : Int32)) * (4 : Int32)) &&& 0x3f).toInt64.toUInt64).toInt64) &&& (15 : Int64))), .second, .val (.int ((((((((q1.toUInt64 >>> (((u2 - (1 : Int32)) * (4 : Int32)) &&& 0x3f).toInt64.toUInt64).toInt64) &&& (15 : Int64)) &&& (1 : Int64)) + ((((((q1.toUInt64 >>> (((u2 - (1 : Int32)) * (4 : Int32)) &&& 0x3f).toInt64.toUInt64).toInt64) &&& (15 : Int64)).toUInt64 >>> ((1 : Int32) &&& 0x3f).toInt64.toUInt64).toInt64) &&& (1 : Int64))) + ((((((q1.toUInt64 >>> (((u2 - (1 : Int32)) * (4 : Int32)) &&& 0x3f).toInt64.toUInt64).toInt64) &&& (15 : Int64)).toUInt64 >>> ((2 : Int32) &&& 0x3f).toInt64.toUInt64).toInt64) &&& (1 : Int64))) + ((((((q1.toUInt64 >>> (((u2 - (1 : Int32)) * (4 : Int32)) &&& 0x3f).toInt64.toUInt64).toInt64) &&& (15 : Int64)).toUInt64 >>> ((3 : Int32) &&& 0x3f).toInt64.toUInt64).toInt64) &&& (1 : Int64))).toInt32)), .val (.int v10), .unset] [(.int v14)])) _
    refine XS.istore X5.here hx rfl (hb hby at_108) rfl (l' := #[.val (.long q1), .second, .val (.int p2), .val (.int p3), .val (.int u2), .val (.int u4), .val (.int u7), .val (.long (((q1.toUInt64 >>> (((u2 - (1 : Int32)) * (4 : Int32)) &&& 0x3f).toInt64.toUInt64).toInt64) &&& (15 : Int64))), .second, .val (.int ((((((((q1.toUInt64 >>> (((u2 - (1 : Int32)) * (4 : Int32)) &&& 0x3f).toInt64.toUInt64).toInt64) &&& (15 : Int64)) &&& (1 : Int64)) + ((((((q1.toUInt64 >>> (((u2 - (1 : Int32)) * (4 : Int32)) &&& 0x3f).toInt64.toUInt64).toInt64) &&& (15 : Int64)).toUInt64 >>> ((1 : Int32) &&& 0x3f).toInt64.toUInt64).toInt64) &&& (1 : Int64))) + ((((((q1.toUInt64 >>> (((u2 - (1 : Int32)) * (4 : Int32)) &&& 0x3f).toInt64.toUInt64).toInt64) &&& (15 : Int64)).toUInt64 >>> ((2 : Int32) &&& 0x3f).toInt64.toUInt64).toInt64) &&& (1 : Int64))) + ((((((q1.toUInt64 >>> (((u2 - (1 : Int32)) * (4 : Int32)) &&& 0x3f).toInt64.toUInt64).toInt64) &&& (15 : Int64)).toUInt64 >>> ((3 : Int32) &&& 0x3f).toInt64.toUInt64).toInt64) &&& (1 : Int64))).toInt32)), .val (.int v10), .val (.int v14)]) rfl ?_
    show Steps p.tables e below (T5.setTop (mkF m 110 #[.val (.long q1), .second, .val (.int p2), .val (.int p3), .val (.int u2), .val (.int u4), .val (.int u7), .val (.long (((q1.toUInt64 >>> (((u2 - (1 : Int32)) * (4 : Int32)) &&& 0x3f).toInt64.toUInt64).toInt64) &&& (15 : Int64))), .second, .val (.int ((((((((q1.toUInt64 >>> (((u2 - (1 : Int32)) * (4 : Int32)) &&& 0x3f).toInt64.toUInt64).toInt64) &&& (15 : Int64)) &&& (1 : Int64)) + ((((((q1.toUInt64 >>> (((u2 - (1 : Int32)) * (4 : Int32)) &&& 0x3f).toInt64.toUInt64).toInt64) &&& (15 : Int64)).toUInt64 >>> ((1 : Int32) &&& 0x3f).toInt64.toUInt64).toInt64) &&& (1 : Int64))) + ((((((q1.toUInt64 >>> (((u2 - (1 : Int32)) * (4 : Int32)) &&& 0x3f).toInt64.toUInt64).toInt64) &&& (15 : Int64)).toUInt64 >>> ((2 : Int32) &&& 0x3f).toInt64.toUInt64).toInt64) &&& (1 : Int64))) + ((((((q1.toUInt64 >>> (((u2 - (1 : Int32)) * (4 : Int32)) &&& 0x3f).toInt64.toUInt64).toInt64) &&& (15 : Int64)).toUInt64 >>> ((3 : Int32) &&& 0x3f).toInt64.toUInt64).toInt64) &&& (1 : Int64))).toInt32)), .val (.int v10), .val (.int v14)] [])) _
    refine XS.iload X5.here hx rfl (hb hby at_110) rfl ?_
    show Steps p.tables e below (T5.setTop (mkF m 112 #[.val (.long q1), .second, .val (.int p2), .val (.int p3), .val (.int u2), .val (.int u4), .val (.int u7), .val (.long (((q1.toUInt64 >>> (((u2 - (1 : Int32)) * (4 : Int32)) &&& 0x3f).toInt64.toUInt64).toInt64) &&& (15 : Int64))), .second, .val (.int ((((((((q1.toUInt64 >>> (((u2 - (1 : Int32)) * (4 : Int32)) &&& 0x3f).toInt64.toUInt64).toInt64) &&& (15 : Int64)) &&& (1 : Int64)) + ((((((q1.toUInt64 >>> (((u2 - (1 : Int32)) * (4 : Int32)) &&& 0x3f).toInt64.toUInt64).toInt64) &&& (15 : Int64)).toUInt64 >>> ((1 : Int32) &&& 0x3f).toInt64.toUInt64).toInt64) &&& (1 : Int64))) + ((((((q1.toUInt64 >>> (((u2 - (1 : Int32)) * (4 : Int32)) &&& 0x3f).toInt64.toUInt64).toInt64) &&& (15 : Int64)).toUInt64 >>> ((2 : Int32) &&& 0x3f).toInt64.toUInt64).toInt64) &&& (1 : Int64))) + ((((((q1.toUInt64 >>> (((u2 - (1 : Int32)) * (4 : Int32)) &&& 0x3f).toInt64.toUInt64).toInt64) &&& (15 : Int64)).toUInt64 >>> ((3 : Int32) &&& 0x3f).toInt64.toUInt64).toInt64) &&& (1 : Int64))).toInt32)), .val (.int v10), .val (.int v14)] [(.int v10)])) _
    refine XS.iload X5.here hx rfl (hb hby at_112) rfl ?_
    show Steps p.tables e below (T5.setTop (mkF m 114 #[.val (.long q1), .second, .val (.int p2), .val (.int p3), .val (.int u2), .val (.int u4), .val (.int u7), .val (.long (((q1.toUInt64 >>> (((u2 - (1 : Int32)) * (4 : Int32)) &&& 0x3f).toInt64.toUInt64).toInt64) &&& (15 : Int64))), .second, .val (.int ((((((((q1.toUInt64 >>> (((u2 - (1 : Int32)) * (4 : Int32)) &&& 0x3f).toInt64.toUInt64).toInt64) &&& (15 : Int64)) &&& (1 : Int64)) + ((((((q1.toUInt64 >>> (((u2 - (1 : Int32)) * (4 : Int32)) &&& 0x3f).toInt64.toUInt64).toInt64) &&& (15 : Int64)).toUInt64 >>> ((1 : Int32) &&& 0x3f).toInt64.toUInt64).toInt64) &&& (1 : Int64))) + ((((((q1.toUInt64 >>> (((u2 - (1 : Int32)) * (4 : Int32)) &&& 0x3f).toInt64.toUInt64).toInt64) &&& (15 : Int64)).toUInt64 >>> ((2 : Int32) &&& 0x3f).toInt64.toUInt64).toInt64) &&& (1 : Int64))) + ((((((q1.toUInt64 >>> (((u2 - (1 : Int32)) * (4 : Int32)) &&& 0x3f).toInt64.toUInt64).toInt64) &&& (15 : Int64)).toUInt64 >>> ((3 : Int32) &&& 0x3f).toInt64.toUInt64).toInt64) &&& (1 : Int64))).toInt32)), .val (.int v10), .val (.int v14)] [(.int v14), (.int v10)])) _
    refine XS.icmpNo X5.here hx rfl (hb hby at_114) rfl (teq (by rw [hv10, hv14]; exact own_ifeq (by rw [hu7]; exact own_fin q1 u4 u2 (by rw [hu2]; exact own_rank _)))).2 ?_
    show Steps p.tables e below (T5.setTop (mkF m 117 #[.val (.long q1), .second, .val (.int p2), .val (.int p3), .val (.int u2), .val (.int u4), .val (.int u7), .val (.long (((q1.toUInt64 >>> (((u2 - (1 : Int32)) * (4 : Int32)) &&& 0x3f).toInt64.toUInt64).toInt64) &&& (15 : Int64))), .second, .val (.int ((((((((q1.toUInt64 >>> (((u2 - (1 : Int32)) * (4 : Int32)) &&& 0x3f).toInt64.toUInt64).toInt64) &&& (15 : Int64)) &&& (1 : Int64)) + ((((((q1.toUInt64 >>> (((u2 - (1 : Int32)) * (4 : Int32)) &&& 0x3f).toInt64.toUInt64).toInt64) &&& (15 : Int64)).toUInt64 >>> ((1 : Int32) &&& 0x3f).toInt64.toUInt64).toInt64) &&& (1 : Int64))) + ((((((q1.toUInt64 >>> (((u2 - (1 : Int32)) * (4 : Int32)) &&& 0x3f).toInt64.toUInt64).toInt64) &&& (15 : Int64)).toUInt64 >>> ((2 : Int32) &&& 0x3f).toInt64.toUInt64).toInt64) &&& (1 : Int64))) + ((((((q1.toUInt64 >>> (((u2 - (1 : Int32)) * (4 : Int32)) &&& 0x3f).toInt64.toUInt64).toInt64) &&& (15 : Int64)).toUInt64 >>> ((3 : Int32) &&& 0x3f).toInt64.toUInt64).toInt64) &&& (1 : Int64))).toInt32)), .val (.int v10), .val (.int v14)] [])) _
    refine XS.iconst X5.here hx rfl (hb hby at_117) ?_
    show Steps p.tables e below (T5.setTop (mkF m 118 #[.val (.long q1), .second, .val (.int p2), .val (.int p3), .val (.int u2), .val (.int u4), .val (.int u7), .val (.long (((q1.toUInt64 >>> (((u2 - (1 : Int32)) * (4 : Int32)) &&& 0x3f).toInt64.toUInt64).toInt64) &&& (15 : Int64))), .second, .val (.int ((((((((q1.toUInt64 >>> (((u2 - (1 : Int32)) * (4 : Int32)) &&& 0x3f).toInt64.toUInt64).toInt64) &&& (15 : Int64)) &&& (1 : Int64)) + ((((((q1.toUInt64 >>> (((u2 - (1 : Int32)) * (4 : Int32)) &&& 0x3f).toInt64.toUInt64).toInt64) &&& (15 : Int64)).toUInt64 >>> ((1 : Int32) &&& 0x3f).toInt64.toUInt64).toInt64) &&& (1 : Int64))) + ((((((q1.toUInt64 >>> (((u2 - (1 : Int32)) * (4 : Int32)) &&& 0x3f).toInt64.toUInt64).toInt64) &&& (15 : Int64)).toUInt64 >>> ((2 : Int32) &&& 0x3f).toInt64.toUInt64).toInt64) &&& (1 : Int64))) + ((((((q1.toUInt64 >>> (((u2 - (1 : Int32)) * (4 : Int32)) &&& 0x3f).toInt64.toUInt64).toInt64) &&& (15 : Int64)).toUInt64 >>> ((3 : Int32) &&& 0x3f).toInt64.toUInt64).toInt64) &&& (1 : Int64))).toInt32)), .val (.int v10), .val (.int v14)] [(.int (1 : Int32))])) _
    refine XS.goto X5.here hx rfl (pc0 := 118) (pc' := 122) rfl (hb hby at_118) (by decide) (by decide) ?_
    exact k)
  obtain ⟨fs, hr, hrun, hended, hW, hsame⟩ := X5.leave (v := some (.int (1 : Int32))) (fun h => by rw [Bd.returns] at h; cases h)
  refine ⟨_, _, way16 _ ?_, hrun, hended, _, _, rfl, ?_, ⟨_, rfl⟩, hW, hsame.mono (by decide) (by decide)⟩
  · show Steps p.tables e below (T5.setTop (mkF m 122 #[.val (.long q1), .second, .val (.int p2), .val (.int p3), .val (.int u2), .val (.int u4), .val (.int u7), .val (.long (((q1.toUInt64 >>> (((u2 - (1 : Int32)) * (4 : Int32)) &&& 0x3f).toInt64.toUInt64).toInt64) &&& (15 : Int64))), .second, .val (.int ((((((((q1.toUInt64 >>> (((u2 - (1 : Int32)) * (4 : Int32)) &&& 0x3f).toInt64.toUInt64).toInt64) &&& (15 : Int64)) &&& (1 : Int64)) + ((((((q1.toUInt64 >>> (((u2 - (1 : Int32)) * (4 : Int32)) &&& 0x3f).toInt64.toUInt64).toInt64) &&& (15 : Int64)).toUInt64 >>> ((1 : Int32) &&& 0x3f).toInt64.toUInt64).toInt64) &&& (1 : Int64))) + ((((((q1.toUInt64 >>> (((u2 - (1 : Int32)) * (4 : Int32)) &&& 0x3f).toInt64.toUInt64).toInt64) &&& (15 : Int64)).toUInt64 >>> ((2 : Int32) &&& 0x3f).toInt64.toUInt64).toInt64) &&& (1 : Int64))) + ((((((q1.toUInt64 >>> (((u2 - (1 : Int32)) * (4 : Int32)) &&& 0x3f).toInt64.toUInt64).toInt64) &&& (15 : Int64)).toUInt64 >>> ((3 : Int32) &&& 0x3f).toInt64.toUInt64).toInt64) &&& (1 : Int64))).toInt32)), .val (.int v10), .val (.int v14)] [(.int (1 : Int32))])) _
    exact retN X5 hx (t := .boolean) Bd.returns (by simp) (hb hby at_122) hr
  · show Q_law Z q1 p2 p3 h0 n0 _ T5.heap _
    rw [hh5]
    exact ⟨rfl, N5⟩
set_option maxRecDepth 65536 in
set_option maxHeartbeats 40000000 in
theorem comes_1 {Post : Tables → Env → Array Value → State → Outcome → State → Prop} (hpost : ∀ tb e args s v u, (limb_1_1.after args s (.returned v) u = true ∧ limb_1_2.after args s (.returned v) u = true ∧ True) → FrameEnd s (.returned v) u (Jvm.fieldLocs frame_1_writes args s ++ Jvm.arrayLocs frame_1_arrays args s ++ Jvm.staticLocs frame_1_statics s) 0 0 → Post tb e args s (.returned v) u) :
    ArmFor flags0 classFile x code maxLocals ret World_1 tables_1 room_1 Calls_1 rest_1 Pre_1 Post := by
  intro l hfl _ _ p e ha hc hk s m args below hf hA hF happ hP
  obtain ⟨hcalls, hrest, hpre⟩ := hP
  obtain ⟨-, -, -, hnamed, -, -, -, hat⟩ := (Spec.applies_iff hf).mp happ
  obtain ⟨hg, hn⟩ := and_e (Cond.before_iff.mp (show (Jvm.Cond.and given_1 narrow_1).before args s = true from hpre))
  obtain ⟨gc, g0⟩ := and_e hg
  obtain ⟨ga0, g1⟩ := and_e g0
  obtain ⟨ga1, g2⟩ := and_e g1
  have ga2 := g2
  obtain ⟨w0, w1, w2, rfl⟩ : ∃ w0 w1 w2 : Value, args = #[w0, w1, w2] := by
    have hs : args.size = 3 := by simpa [Cond.value, given_1] using gc
    obtain ⟨L⟩ := args
    match L, hs with
    | [w0, w1, w2], _ => exact ⟨w0, w1, w2, rfl⟩
  have hw := fun d (hd : d ∈ tables_1) => atoms_spec (ws := Jvm.Cond.code x code maxLocals ret :: tables_1) hat d (List.mem_cons_of_mem _ hd)
  have hfit : Fit s := fun {y c} hc i hi => by
    obtain ⟨ha, rfl⟩ := Array.getElem?_eq_some_iff.mp hc
    have q := List.all_eq_true.mp ((Array.all_eq_true_iff_forall_mem.mp hF) _ (Array.getElem_mem ha)) i (List.mem_range.mpr hi)
    simpa [Array.getElem?_eq_getElem hi] using q
  obtain ⟨i0, ei0⟩ := isL_v ga0
  obtain rfl : w0 = (.long i0) := Option.some.inj ei0
  obtain ⟨i1, ei1⟩ := is_v ga1
  obtain rfl : w1 = (.int i1) := Option.some.inj ei1
  obtain ⟨i2, ei2⟩ := is_v ga2
  obtain rfl : w2 = (.int i2) := Option.some.inj ei2
  obtain ⟨hn0, hn⟩ := and_e hn
  have hn1 := hn
  have S0 := Sta.start (own_eqv hn0) (Or.inr ⟨(hw _ (List.mem_of_getElem? (i := 3) rfl)), (hw _ (List.mem_of_getElem? (i := 8) rfl))⟩)
  have S1 := Sta.start (own_eqvL hn1) (Or.inr ⟨(hw _ (List.mem_of_getElem? (i := 3) rfl)), (hw _ (List.mem_of_getElem? (i := 10) rfl))⟩)
  obtain ⟨n, o, h1, h2, h3, _, L, rfl, ⟨rfl, N⟩, hq⟩ := rm_law l s _ hw tables_1 i0 i1 i2  s.heap s.heap.size (Nat.le_refl _) S0 S1 p e ha hc hk s m _ below hf ((Spec.applies_iff_loose hf).mp happ).1 ⟨rfl, State.Warmed39.refl s, rfl⟩ trivial
  refine ⟨n, _, h1, h2, h3, hpost _ _ _ _ _ _ ⟨Cond.after_iff.mpr rfl, Cond.after_iff.mpr (eq_i res_at (Term.int_eval (1)) rfl), trivial⟩ ⟨hq.1, hq.2.1, (hq.2.2.sift fun y hy => Or.inr (N y hy)).mono (by decide) (by decide)⟩⟩
theorem main_1_1 : Claimed_1_1 := comes_1 fun _ _ _ _ _ _ h hF => ⟨h.1, hF⟩
theorem main_1_2 : Claimed_1_2 := comes_1 fun _ _ _ _ _ _ h hF => ⟨h.2.1, hF⟩
end Jvm.Pilot.@@N@@
namespace Jvm.Pilot.@@N@@
open Jvm Jvm.ClassFile Sem Op Lib Jvm.Free Jvm.Stand Jvm.Pilot.@@N@@.Jvm.D
/-! MADE BY PROGRAM (witnessworld.py) out of the Statement's table words and the real class files: 9 classes; the members and pool entries that the words name. The judged class is class 1, her method 1. -/
namespace start1
open Jvm.ClassFile
def u (s : String) : CpInfo := .utf8 (stringToUtf16 s)
/-- a pool by its gaps: so many unusable entries, then the entry; so many at the end -/
def gap : Nat → List CpInfo → List CpInfo
  | 0, r => r
  | n + 1, r => .unusable :: gap n r
def poolList (es : List (Nat × CpInfo)) (last : Nat) : List CpInfo := es.foldr (fun e r => gap e.1 (e.2 :: r)) (gap last [])
def pool (es : List (Nat × CpInfo)) (last : Nat) : Array CpInfo := ⟨poolList es last⟩
def fileOf (pool : Array CpInfo) (this : Nat) (attrs : Array Attribute := #[]) (ms : Array MethodInfo := #[]) (fl : Nat := 33) (sup : Nat := 0) (ifs : Array Nat := #[]) (fds : Array FieldInfo := #[]) : ClassFile where
  minorVersion := 0
  majorVersion := 65
  constantPool := pool
  accessFlags := fl
  thisClass := this
  superClass := sup
  interfaces := ifs
  fields := fds
  methods := ms
  attributes := attrs
def plain (name : String) (sup : Option ClassId) : Class where
  name := name
  kind := .ordinary
  loader := none
  accessFlags := 33
  super := sup
  interfaces := #[]
  cf := none
  fields := #[]
  methods := #[]
  instanceTypes := #[]
  staticTypes := #[]
  resolved := #[]
  callSites := []
  init := .initialized
  statics := none
  mirror := none

def pool0 : Array CpInfo := pool [(5, u "<init>"), (0, u "()V"), (1, .class_ 10), (1, u "java/lang/Object")] 113

def k0m0 : Method := { name := "<init>", desc := "()V", sig := { parameters := [], returnType := none }, accessFlags := 1, code := none }
/-- java/lang/Object -/
def k0 : Class := { plain "java/lang/Object" none with
  accessFlags := 33
  interfaces := #[]
  cf := some (fileOf pool0 8 #[] #[{ accessFlags := 1, nameIndex := 5, descriptorIndex := 6, attributes := #[] }] 33 0 #[] #[])
  fields := #[]
  methods := #[k0m0]
  instanceTypes := #[]
  staticTypes := #[]
  resolved := Array.replicate 124 none
  statics := none }

def pool1 : Array CpInfo := pool [(2, .class_ 4), (1, u "java/lang/Object"), (0, u "<init>"), (0, u "()V"), (0, .integer 2147483647), (0, .methodref 9 10), (0, .class_ 11), (0, .nameAndType 12 13), (0, u "com/example/kitchen_table/kitchentable/engine/cards/CardBits"), (0, u "ranks"), (0, u "(JI)I"), (0, .long 15), (1, .class_ 17), (0, u "com/example/kitchen_table/kitchentable/engine/cards/CardBitsRanksPinLaw"), (2, u "law"), (0, u "(JII)Z")] 3

def k1m0 : Method := { name := "<init>", desc := "()V", sig := { parameters := [], returnType := none }, accessFlags := 2, code := none }
def k1c1 : Code := { maxStack := 6, maxLocals := 12, code := code, exceptionTable := #[], attributes := #[] }
def k1m1 : Method := { name := "law", desc := "(JII)Z", sig := { parameters := [.long, .int, .int], returnType := some .boolean }, accessFlags := 9, code := some k1c1 }
/-- com/example/kitchen_table/kitchentable/engine/cards/CardBitsRanksPinLaw -/
def k1 : Class := { plain "com/example/kitchen_table/kitchentable/engine/cards/CardBitsRanksPinLaw" (some 0) with
  accessFlags := 49
  interfaces := #[]
  cf := some (fileOf pool1 16 #[] #[{ accessFlags := 2, nameIndex := 5, descriptorIndex := 6, attributes := #[] }, { accessFlags := 9, nameIndex := 20, descriptorIndex := 21, attributes := #[] }] 49 2 #[] #[])
  fields := #[]
  methods := #[k1m0, k1m1]
  instanceTypes := #[]
  staticTypes := #[]
  resolved := Array.replicate 25 none
  statics := none }

def pool2 : Array CpInfo := pool [(2, .class_ 4), (1, u "java/lang/Object"), (0, u "<init>"), (0, u "()V"), (6, .fieldref 14 15), (0, .class_ 16), (0, .nameAndType 17 18), (0, u "com/example/kitchen_table/kitchentable/engine/cards/CardBits"), (0, u "ACES"), (0, u "J"), (0, .fieldref 14 20), (0, .nameAndType 21 22), (0, u "SUITS"), (0, u "I"), (2, u "RED"), (2, u "BLACK"), (9, u "PLACES"), (0, u "[I"), (12, .long 6148914691236517205), (1, .long 3689348814741910323), (26, u "RED_ACES"), (5, u "EVERY_OTHER_BIT"), (1, u "LOW_TWO_OF_FOUR"), (0, u "DE_BRUIJN"), (12, u "ranks"), (0, u "(JI)I")] 6

def k2m0 : Method := { name := "<init>", desc := "()V", sig := { parameters := [], returnType := none }, accessFlags := 2, code := none }
def k2c1 : Code := { maxStack := 6, maxLocals := 9, code := prog_27_method_8_code, exceptionTable := #[], attributes := #[] }
def k2m1 : Method := { name := "ranks", desc := "(JI)I", sig := { parameters := [.long, .int], returnType := some .int }, accessFlags := 9, code := some k2c1 }
/-- com/example/kitchen_table/kitchentable/engine/cards/CardBits -/
def k2 : Class := { plain "com/example/kitchen_table/kitchentable/engine/cards/CardBits" (some 0) with
  accessFlags := 49
  interfaces := #[]
  cf := some (fileOf pool2 14 #[] #[{ accessFlags := 2, nameIndex := 5, descriptorIndex := 6, attributes := #[] }, { accessFlags := 9, nameIndex := 103, descriptorIndex := 104, attributes := #[] }] 49 2 #[] #[{ accessFlags := 26, nameIndex := 21, descriptorIndex := 22, attributes := #[] }, { accessFlags := 26, nameIndex := 17, descriptorIndex := 18, attributes := #[] }, { accessFlags := 26, nameIndex := 81, descriptorIndex := 18, attributes := #[] }, { accessFlags := 26, nameIndex := 87, descriptorIndex := 18, attributes := #[] }, { accessFlags := 26, nameIndex := 89, descriptorIndex := 18, attributes := #[] }, { accessFlags := 26, nameIndex := 25, descriptorIndex := 18, attributes := #[] }, { accessFlags := 26, nameIndex := 28, descriptorIndex := 18, attributes := #[] }, { accessFlags := 26, nameIndex := 90, descriptorIndex := 18, attributes := #[] }, { accessFlags := 26, nameIndex := 38, descriptorIndex := 39, attributes := #[] }])
  fields := #[{ name := "SUITS", type := .int, accessFlags := 26, slot := 0, constantValue := 0 }, { name := "ACES", type := .long, accessFlags := 26, slot := 1, constantValue := 0 }, { name := "RED_ACES", type := .long, accessFlags := 26, slot := 2, constantValue := 0 }, { name := "EVERY_OTHER_BIT", type := .long, accessFlags := 26, slot := 3, constantValue := 0 }, { name := "LOW_TWO_OF_FOUR", type := .long, accessFlags := 26, slot := 4, constantValue := 0 }, { name := "RED", type := .long, accessFlags := 26, slot := 5, constantValue := 0 }, { name := "BLACK", type := .long, accessFlags := 26, slot := 6, constantValue := 0 }, { name := "DE_BRUIJN", type := .long, accessFlags := 26, slot := 7, constantValue := 0 }, { name := "PLACES", type := (.array .int), accessFlags := 26, slot := 8, constantValue := 0 }]
  methods := #[k2m0, k2m1]
  instanceTypes := #[]
  staticTypes := #[.int, .long, .long, .long, .long, .long, .long, .long, (.array .int)]
  resolved := Array.replicate 111 none
  statics := some 0 }

def pool3 : Array CpInfo := pool [(1, u "java/lang/Cloneable"), (0, .class_ 1), (0, u "java/lang/Object"), (0, .class_ 3)] 3

/-- java/lang/Cloneable -/
def k3 : Class := { plain "java/lang/Cloneable" (some 0) with
  accessFlags := 1537
  interfaces := #[]
  cf := some (fileOf pool3 2 #[] #[] 1537 4 #[] #[])
  fields := #[]
  methods := #[]
  instanceTypes := #[]
  staticTypes := #[]
  resolved := Array.replicate 8 none
  statics := none }

def pool4 : Array CpInfo := pool [(1, u "java/io/Serializable"), (0, .class_ 1), (0, u "java/lang/Object"), (0, .class_ 3)] 3

/-- java/io/Serializable -/
def k4 : Class := { plain "java/io/Serializable" (some 0) with
  accessFlags := 1537
  interfaces := #[]
  cf := some (fileOf pool4 2 #[] #[] 1537 4 #[] #[])
  fields := #[]
  methods := #[]
  instanceTypes := #[]
  staticTypes := #[]
  resolved := Array.replicate 8 none
  statics := none }

/-- the primitive byte -/
def k5 : Class := { plain "byte" none with kind := .primitive 'B', accessFlags := 0x411 }
/-- [B -/
def k6 : Class := { plain "[B" (some 0) with kind := .array 5 .byte, interfaces := #[3, 4], accessFlags := 1041 }

/-- the primitive int -/
def k7 : Class := { plain "int" none with kind := .primitive 'I', accessFlags := 0x411 }
/-- [I -/
def k8 : Class := { plain "[I" (some 0) with kind := .array 7 .int, interfaces := #[3, 4], accessFlags := 1041 }

def heap : Heap := #[{ cls := 2, slots := #[.int 4, .long 15, .long 0, .long 0, .long 0, .long 0, .long 0, .long 0, .null], vm := .statics 2 }]
def classes : Array Class := #[k0, k1, k2, k3, k4, k5, k6, k7, k8]
def interned : List (Array UInt16 × Addr) := []
def slotsUsed : Nat := 9
def theMethod : MethodId := ⟨1, 1⟩
def args0 : Array Value := #[.long 5, .int 9, .int 7]
def aboutOver (below : List Frame) : State where
  vm := { classes := classes, interned := interned.toArray }
  heap := heap
  slotsUsed := slotsUsed
  threads := #[{ frames := .invoking theMethod args0 :: below }]
def below0 : List Frame := [.native { method := ⟨0, 0⟩, args := #[] }]
def about1 : State := aboutOver below0
def p0 : Program := .bare "" "" ""
def e0 : Env := launch0.env 0 0 0
theorem w_frames : about1.frames = Frame.invoking theMethod args0 :: below0 := rfl
set_option maxRecDepth 65536 in
theorem w_args : argsFit about1.vm theMethod args0 = true := by decide +kernel
set_option maxRecDepth 65536 in
theorem w_heap : heapFits about1 = true := by decide +kernel
set_option maxRecDepth 65536 in
theorem w_runnable : about1.curStatus? = some .runnable := by decide +kernel
set_option maxRecDepth 65536 in
theorem w_alone : about1.alone = true := by decide +kernel
set_option maxRecDepth 65536 in
theorem w_named : about1.methodNamed? x = some theMethod := by decide +kernel
set_option maxRecDepth 65536 in
theorem w_hears : about1.hears theMethod below0 = true := by decide +kernel
set_option maxRecDepth 65536 in
theorem w_ripe : about1.ripe theMethod args0 below0 = true := by decide +kernel
theorem w_running : about1.status = .running := rfl
set_option maxRecDepth 65536 in
theorem w_room : about1.hasRoom e0.platform room_1 = true :=
  launch0.hasRoom_least _ room_1 (by decide +kernel) (by decide +kernel) (by decide +kernel) (by decide +kernel) (by decide +kernel) (by decide +kernel)
theorem allAtoms_all (ts : List Jvm.Cond) (a : Array Jvm.Value) (st : Jvm.State) : (allAtoms ts).before a st = ts.all (fun c => c.before a st) := by
  induction ts with
  | nil => rfl
  | cons c t ih =>
    show (Jvm.Cond.and c (allAtoms t)).before a st = _
    rw [Jvm.Cond.before_and, ih, List.all_cons]
def words1 : List Jvm.Cond := Jvm.Cond.code x code maxLocals ret :: tables_1
/-- a 'code' word, met by the world's own term for the bytes: nothing is compared byte by byte -/
theorem code_word {y : MethodName} {bytes : ByteArray} {mx : Nat} {rt : Option FieldType} {a : Array Value} {s : State} {m : MethodId} {meth : Method} {c : Code} (h1 : s.methodNamed? y = some m) (h2 : s.vm.method? m = some meth) (h3 : meth.code = some c) (h4 : c.code = bytes)
    (h5 : (c.maxLocals == mx && c.exceptionTable.isEmpty && decide (c.maxStack ≤ mostOperands) && decide (meth.sig.returnType = rt) && !meth.locks && decide (parseMethodDescriptor y.desc = some meth.sig)) = true) : (Jvm.Cond.code y bytes mx rt).before a s = true := by
  simp only [Bool.and_eq_true, beq_iff_eq, Bool.not_eq_true', decide_eq_true_eq] at h5
  obtain ⟨⟨⟨⟨⟨g1, g2⟩, g3⟩, g4⟩, g5⟩, g6⟩ := h5
  simp [Cond.before, Cond.holds, Cond.value, h1, h2, h3, h4, g1, g2, g3, g4, g5, g6]
def isCode : Jvm.Cond → Bool
  | .code _ _ _ _ => true
  | _ => false
theorem all_split {L : List Jvm.Cond} {P : Jvm.Cond → Bool} (h1 : L.all (fun c => isCode c || P c) = true) (h2 : ∀ c ∈ L.filter isCode, P c = true) : L.all P = true := by
  refine List.all_eq_true.mpr fun c hc => ?_
  have h := List.all_eq_true.mp h1 c hc
  rcases Bool.eq_false_or_eq_true (isCode c) with hi | hi
  · exact h2 c (List.mem_filter.mpr ⟨hc, hi⟩)
  · simpa [hi] using h
set_option maxRecDepth 65536 in
theorem w_c0 : (Jvm.Cond.code x code maxLocals ret).before args0 about1 = true := code_word (m := ⟨1, 1⟩) (meth := k1m1) (c := k1c1) (by decide +kernel) rfl rfl rfl (by decide +kernel)
set_option maxRecDepth 65536 in
theorem w_c1 : (Jvm.Cond.code ({ cls := "com/example/kitchen_table/kitchentable/engine/cards/CardBits", name := "ranks", desc := "(JI)I" } : Jvm.MethodName) prog_27_method_8_code (9 : Nat) (Option.some Jvm.ClassFile.FieldType.int)).before args0 about1 = true := code_word (m := ⟨2, 1⟩) (meth := k2m1) (c := k2c1) (by decide +kernel) rfl rfl rfl (by decide +kernel)
def codes1 : List Jvm.Cond := [Jvm.Cond.code x code maxLocals ret, Jvm.Cond.code ({ cls := "com/example/kitchen_table/kitchentable/engine/cards/CardBits", name := "ranks", desc := "(JI)I" } : Jvm.MethodName) prog_27_method_8_code (9 : Nat) (Option.some Jvm.ClassFile.FieldType.int)]
set_option maxRecDepth 65536 in
theorem codes_eq : words1.filter isCode = codes1 := rfl
theorem w_codes : ∀ c ∈ words1.filter isCode, c.before args0 about1 = true := by
  rw [codes_eq]
  intro c hc
  simp only [codes1, List.mem_cons, List.not_mem_nil, or_false] at hc
  rcases hc with rfl | rfl
  · exact w_c0
  · exact w_c1
set_option maxRecDepth 65536 in
theorem w_t1 : words1.all (fun c => isCode c || c.before args0 about1) = true := by decide +kernel
theorem w_tables : (allAtoms (Jvm.Cond.code x code maxLocals ret :: tables_1)).before args0 about1 = true := by
  rw [allAtoms_all]
  show words1.all (fun c => c.before args0 about1) = true
  refine all_split ?_ w_codes
  rw [w_t1]
set_option maxRecDepth 65536 in
theorem w_case : (Jvm.Cond.and given_1 narrow_1).before args0 about1 = true := by decide +kernel
theorem w_applies : (headSpec (Jvm.Cond.code x code maxLocals ret :: tables_1) room_1).applies x e0.platform about1 = true :=
  (Spec.applies_iff w_frames).mpr ⟨w_running, w_runnable, w_alone, w_named, w_hears, w_ripe, w_room, w_tables⟩
theorem atStart : AtStart classFile x code maxLocals ret World_1 tables_1 room_1 Calls_1 rest_1 Pre_1 launch0 p0 e0 about1 theMethod args0 below0 :=
  ⟨lists_1, trivial, launch0.admits_env _ _ _, launch0.least_env, fairChoices_fair.cas, fairChoices_fair.clock, w_frames, w_args, w_heap, w_applies, trivial, trivial, w_case⟩
end start1
theorem witness_1 : WitnessClaimed_1 := ⟨start1.p0, start1.e0, start1.about1, start1.theMethod, start1.args0, start1.below0, start1.atStart⟩
end Jvm.Pilot.@@N@@
