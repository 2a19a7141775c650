import JvmDerived
import JvmDerived.Pilot.@@N@@Statement
import JvmDerived.Pilot.@@N@@Code
set_option linter.unusedVariables false
set_option linter.unusedSimpArgs false
namespace Jvm.RoadKit
open Sem ClassFile Op Lib Jvm.Stand Jvm.Free Jvm.LawKit
section New
variable {p : Program} {l : Launch} {e : Env} {R : Room} {s : State} {m : MethodId} {args : Array Value} {below : List Frame} {meth : Method} {c : Code} {T : State} {locs : List Loc} {cells slots : Nat}
theorem retI (X : Stand p l e R s m args below meth c T locs cells slots) (hx : p.tables.exec = Jvm.exec) {pc : Nat} {Ls : Array Slot} {z : Int32} {rest : List Value} (hret : meth.sig.returnType = some .int) (hd : decode c.code pc = .ok (.ireturn, 1)) {fs : List Frame}
    (hl : ∀ (f : JFrame) (acts : List Action), f.method = m → f.locked = none → f.entered = [] → (doReturn e (T.setTop f) acts (some (.int z))).1 = T.setFrames fs) : Steps p.tables e below (T.setTop (mkF m pc Ls (.int z :: rest))) (T.setFrames fs) := by
  have hm' : T.vm.method? m = some meth := X.method'
  have hn : narrow .int (.int z) = .int z := rfl
  show Steps p.tables e below (T.setTop { method := m, pc := pc, locals := Ls, stack := _ :: rest, locked := none }) _
  jvm_step X.here [X.here.top, hx, hd, hm', hret, hn]
  first | (intro acts; rw [hl _ acts rfl rfl rfl]) | rw [hl _ _ rfl rfl rfl]
  exact Steps.refl _
end New
/-- from this state a run goes on to an end that meets K -/
def Good (p : Program) (e : Env) (below : List Frame) (K : Outcome → State → Prop) (S : State) : Prop := ∃ s₂ o, Steps p.tables e below S s₂ ∧ s₂.status = .running ∧ Ended s₂ below o ∧ K o s₂
theorem Good.back {p : Program} {e : Env} {below : List Frame} {K : Outcome → State → Prop} {S S' : State} (h : ∀ t, Steps p.tables e below S' t → Steps p.tables e below S t) (g : Good p e below K S') : Good p e below K S := by
  obtain ⟨t, o, h1, h2⟩ := g
  exact ⟨t, o, h t h1, h2⟩
theorem Good.done {p : Program} {e : Env} {below : List Frame} {K : Outcome → State → Prop} {S t : State} {o : Outcome} (h1 : Steps p.tables e below S t) (h2 : t.status = .running) (h3 : Ended t below o) (h4 : K o t) : Good p e below K S := ⟨t, o, h1, h2, h3, h4⟩
end Jvm.RoadKit
namespace Jvm.Pilot.@@N@@
open Jvm Jvm.ClassFile Sem Op Lib Jvm.Free Jvm.Stand Jvm.LawKit Jvm.RoadKit Bundle Jvm.Pilot.@@N@@.Jvm.D
theorem own_small {e : Int32} {n : Nat} (h0 : 0 ≤ e.toInt) (hn : e.toInt < n) : ∃ k : Nat, k < n ∧ e = Int32.ofNat k := by
  refine ⟨e.toInt.toNat, by omega, ?_⟩
  apply Int32.toInt_inj.mp
  have hb := e.toInt_lt
  rw [Int32.toInt_ofNat_of_lt (by omega)]
  omega
theorem own_mask {x m : Int32} {n : Nat} (hm : 0 ≤ m.toInt) (hn : m.toInt < n) : ∃ k : Nat, k < n ∧ (x &&& m) = Int32.ofNat k := by
  have h := c_and x m hm
  exact own_small h.1 (by omega)
theorem own_modm {x y : Int32} {d : Int} {n : Nat} (hy : y.toInt = d) (hd : 0 < d) (hn : d ≤ n) : ∃ k : Nat, k < n ∧ ((x &&& (2147483647 : Int32)) % y) = Int32.ofNat k := by
  have h := c_and x 2147483647 (by decide)
  have h2 := (c_irem (x &&& 2147483647) y d hy).1 h.1
  refine own_small ?_ ?_ <;> rw [h2]
  · exact Int.emod_nonneg _ (by omega)
  · have := Int.emod_lt_of_pos (x &&& 2147483647).toInt hd
    omega

section OwnFP
open Jvm.FP Jvm.FP.Core Jvm.Free.Fl
theorem own_pow (n : Nat) (m : Int) (K N : Nat) (hm : 0 ≤ m + N) (hN : 12 ≤ N) (h : n * 2 ^ (m + N).toNat = K * 2 ^ (N - 12)) : n * 1 * 2 ^ (m - (-12)).toNat = K * 1 * 2 ^ (-12 - m).toNat := by
  rw [Nat.mul_one, Nat.mul_one]
  by_cases hq : -12 ≤ m
  · have e : (m + N).toNat = (m - (-12)).toNat + (N - 12) := by omega
    rw [show (-12 - m).toNat = 0 by omega, Nat.pow_zero, Nat.mul_one]
    rw [e, Nat.pow_add, ← Nat.mul_assoc] at h
    exact Nat.eq_of_mul_eq_mul_right (Nat.two_pow_pos _) h
  · have e : N - 12 = (-12 - m).toNat + (m + N).toNat := by omega
    rw [show (m - (-12)).toNat = 0 by omega, Nat.pow_zero, Nat.mul_one]
    rw [e, Nat.pow_add, ← Nat.mul_assoc] at h
    exact Nat.eq_of_mul_eq_mul_right (Nat.two_pow_pos _) h
/-- k / 4096, as a double -/
def own_Q (k : Nat) : UInt64 := of64 (round b64 (.fin false k (-12)))
theorem own_val (k : Nat) (hk : k < 2 ^ 53) : ∃ c q, val64 (own_Q k) = .fin false c q ∧ -1074 ≤ q ∧ c * 2 ^ (q + 1074).toNat = k * 2 ^ 1062 := by
  obtain ⟨c, q, h1, h2⟩ := round_exact good_b64 false (c := k) (q := -12) hk (by decide) (by decide)
  refine ⟨c, q, ?_, ?_, ?_⟩
  · unfold own_Q; rw [val64_of64 (round_fits good_b64 _), h1]
  · have := round_fits good_b64 (.fin false k (-12))
    rw [h1] at this
    exact this.2.1
  · unfold inUnits at h2
    have e : b64.qmin = -1074 := by decide
    rw [e] at h2
    have e2 : (-12 - -1074 : Int).toNat = 1062 := by decide
    rw [e2] at h2
    rw [← h2]
    congr 2
theorem own_nn (k : Nat) (hk : k < 2 ^ 53) : NoNaN64 (own_Q k) := by
  obtain ⟨c, q, h, -⟩ := own_val k hk
  exact (fin64_core.mpr ⟨_, _, _, h⟩).noNaN
theorem own_rnd (n : Nat) (m : Int) (K N : Nat) (hm : 0 ≤ m + N) (hN : 12 ≤ N) (h : n * 2 ^ (m + N).toNat = K * 2 ^ (N - 12)) : of64 (round b64 (.fin false n m)) = own_Q K := by
  unfold own_Q
  congr 1
  exact roundRatio_congr (by decide) (by decide) (own_pow n m K N hm hN h)
theorem own_sum (s t : Bool) (c d : Nat) (q r : Int) (K : Nat) (hs : s = false ∨ t = false) (h : signed s (inUnits c q (min q r)) + signed t (inUnits d r (min q r)) = (K : Int)) : exactSum (.fin s c q) (.fin t d r) = .fin false K (min q r) := by
  show Datum.fin (sumSign s t (sumUnits s c q t d r (min q r))) (sumUnits s c q t d r (min q r)).natAbs (min q r) = _
  have e : sumUnits s c q t d r (min q r) = (K : Int) := h
  rw [e]
  congr 1
  unfold sumSign
  split
  · rcases hs with rfl | rfl <;> simp
  · simp
theorem own_add (i j : Nat) (hi : i < 2 ^ 52) (hj : j < 2 ^ 52) : FP.dadd (own_Q i) (own_Q j) = own_Q (i + j) := by
  obtain ⟨c, q, e1, l1, h1⟩ := own_val i (by omega)
  obtain ⟨d, r, e2, l2, h2⟩ := own_val j (by omega)
  show of64 (round b64 (exactSum (val64 (own_Q i)) (val64 (own_Q j)))) = _
  rw [e1, e2, own_sum false false c d q r (inUnits c q (min q r) + inUnits d r (min q r)) (Or.inl rfl) (by simp [signed])]
  refine own_rnd _ _ _ 1074 (by omega) (by decide) ?_
  unfold inUnits
  rw [Nat.add_mul, Nat.mul_assoc, Nat.mul_assoc, ← Nat.pow_add, ← Nat.pow_add, show (q - min q r).toNat + (min q r + (1074 : Nat)).toNat = (q + 1074).toNat by omega, show (r - min q r).toNat + (min q r + (1074 : Nat)).toNat = (r + 1074).toNat by omega, h1, h2, ← Nat.add_mul]
theorem own_sub (i j : Nat) (hi : i < 2 ^ 52) (hj : j ≤ i) : FP.dsub (own_Q i) (own_Q j) = own_Q (i - j) := by
  obtain ⟨c, q, e1, l1, h1⟩ := own_val i (by omega)
  obtain ⟨d, r, e2, l2, h2⟩ := own_val j (by omega)
  show of64 (round b64 (exactSum (val64 (own_Q i)) (negate (val64 (own_Q j))))) = _
  have a1 : inUnits c q (min q r) * 2 ^ (min q r + (1074 : Nat)).toNat = i * 2 ^ 1062 := by
    unfold inUnits
    rw [Nat.mul_assoc, ← Nat.pow_add, show (q - min q r).toNat + (min q r + (1074 : Nat)).toNat = (q + 1074).toNat by omega, h1]
  have a2 : inUnits d r (min q r) * 2 ^ (min q r + (1074 : Nat)).toNat = j * 2 ^ 1062 := by
    unfold inUnits
    rw [Nat.mul_assoc, ← Nat.pow_add, show (r - min q r).toNat + (min q r + (1074 : Nat)).toNat = (r + 1074).toNat by omega, h2]
  have le : inUnits d r (min q r) ≤ inUnits c q (min q r) := by
    refine Nat.le_of_mul_le_mul_right ?_ (Nat.two_pow_pos (min q r + (1074 : Nat)).toNat)
    rw [a1, a2]
    exact Nat.mul_le_mul_right _ hj
  rw [e1, e2]
  show of64 (round b64 (exactSum (.fin false c q) (.fin true d r))) = _
  rw [own_sum false true c d q r (inUnits c q (min q r) - inUnits d r (min q r)) (Or.inl rfl) (by simp [signed]; omega)]
  refine own_rnd _ _ _ 1074 (by omega) (by decide) ?_
  rw [Nat.sub_mul, a1, a2, ← Nat.sub_mul]
theorem own_mul (i j k : Nat) (hi : i < 2 ^ 53) (hj : j < 2 ^ 53) (h : i * j = 4096 * k) : FP.dmul (own_Q i) (own_Q j) = own_Q k := by
  obtain ⟨c, q, e1, l1, h1⟩ := own_val i hi
  obtain ⟨d, r, e2, l2, h2⟩ := own_val j hj
  show of64 (round b64 (exactProduct (val64 (own_Q i)) (val64 (own_Q j)))) = _
  rw [e1, e2]
  show of64 (round b64 (.fin false (c * d) (q + r))) = _
  refine own_rnd _ _ _ 2148 (by omega) (by decide) ?_
  rw [show (q + r + (2148 : Nat)).toNat = (q + 1074).toNat + (r + 1074).toNat by omega, Nat.pow_add, Nat.mul_mul_mul_comm, h1, h2, Nat.mul_mul_mul_comm, h, ← Nat.pow_add, show (4096 : Nat) = 2 ^ 12 from rfl, Nat.mul_comm (2 ^ 12) k, Nat.mul_assoc, ← Nat.pow_add]
theorem own_cmp (k : Nat) (hk : k < 2 ^ 53) : FP.dcmp (own_Q k) 4587366580439587226 = some (if 20 * k < 4096 then .lt else .gt) := by
  obtain ⟨c, q, e, l, h⟩ := own_val k hk
  show Core.dcmp (own_Q k) 4587366580439587226 = _
  rw [dcmp_zval (by rw [e]; simp) (by decide +kernel)]
  have z : zval b64 (val64 (own_Q k)) = ((k * 2 ^ 1062 : Nat) : Int) := by
    rw [e, ← h]
    show signed false (inUnits c q b64.qmin) = _
    rw [show b64.qmin = -1074 from by decide]
    rfl
  have t1 : ((204 * 2 ^ 1062 : Nat) : Int) < zval b64 (val64 4587366580439587226) := by decide +kernel
  have t2 : zval b64 (val64 4587366580439587226) < ((205 * 2 ^ 1062 : Nat) : Int) := by decide +kernel
  have key : ∀ (T : Int) (A : Nat), ((204 * A : Nat) : Int) < T → T < ((205 * A : Nat) : Int) → compare ((k * A : Nat) : Int) T = (if 20 * k < 4096 then .lt else .gt) := by
    intro T A t1 t2
    split
    · rename_i hlt
      rw [compare_lt_iff]
      have : k * A ≤ 204 * A := Nat.mul_le_mul_right _ (by omega)
      omega
    · rename_i hlt
      rw [compare_gt_iff]
      have : 205 * A ≤ k * A := Nat.mul_le_mul_right _ (by omega)
      omega
  rw [z, key _ _ t1 t2]
/-- P / 16 ^ d -/
def own_R (d P : Nat) : UInt64 := own_Q (16 ^ (3 - d) * P)
theorem own_Rlt {d P : Nat} (hP : P < 2 ^ 40) : 16 ^ (3 - d) * P < 2 ^ 52 := by
  have h : 16 ^ (3 - d) ≤ 16 ^ 3 := Nat.pow_le_pow_right (by decide) (by omega)
  have := Nat.mul_le_mul_right P h
  omega
theorem own_Rnn {d P : Nat} (hP : P < 2 ^ 40) : NoNaN64 (own_R d P) := own_nn _ (by have := own_Rlt (d := d) hP; omega)
theorem own_Radd {d P S : Nat} (hP : P < 2 ^ 40) (hS : S < 2 ^ 40) : FP.dadd (own_R d P) (own_R d S) = own_R d (P + S) := by
  unfold own_R; rw [own_add _ _ (own_Rlt hP) (own_Rlt hS), Nat.mul_add]
theorem own_Rz (d : Nat) : FP.l2d 0 = own_R d 0 := by
  unfold own_R; rw [Nat.mul_zero]; decide +kernel
theorem own_Ro : FP.l2d 1 = own_R 0 1 := by decide +kernel
theorem own_Radd0 {d S : Nat} (hS : S < 2 ^ 40) : FP.dadd (FP.l2d 0) (own_R d S) = own_R d S := by
  rw [own_Rz d, own_Radd (by decide) hS, Nat.zero_add]
theorem own_Rmul {d f P S : Nat} (h : d + f ≤ 3) (hP : P < 2 ^ 40) (hS : S < 2 ^ 40) : FP.dmul (own_R d P) (own_R f S) = own_R (d + f) (P * S) := by
  unfold own_R
  refine own_mul _ _ _ (by have := own_Rlt (d := d) hP; omega) (by have := own_Rlt (d := f) hS; omega) ?_
  have e : 16 ^ (3 - d) * 16 ^ (3 - f) = 4096 * 16 ^ (3 - (d + f)) := by
    rw [show (4096 : Nat) = 16 ^ 3 from rfl, ← Nat.pow_add, ← Nat.pow_add]; congr 1; omega
  rw [Nat.mul_mul_mul_comm, e, Nat.mul_assoc]
theorem own_Rsub {S : Nat} (h : S ≤ 16) : FP.dsub (FP.l2d 1) (own_R 1 S) = own_R 1 (16 - S) := by
  rw [own_Ro]; unfold own_R
  rw [own_sub _ _ (by decide) (by show 256 * S ≤ 4096; omega)]
  congr 1; show 4096 * 1 - 256 * S = 256 * (16 - S); omega
theorem own_Rcmp {d P : Nat} (hd : d ≤ 3) (hP : P < 2 ^ 40) : cmpValue (FP.dcmp (own_R d P) 4587366580439587226) .g = if 20 * P < 16 ^ d then (-1 : Int32) else (1 : Int32) := by
  unfold own_R
  rw [own_cmp _ (by have := own_Rlt (d := d) hP; omega)]
  have e : (4096 : Nat) = 16 ^ (3 - d) * 16 ^ d := by rw [← Nat.pow_add, show 3 - d + d = 3 by omega]
  have p : 0 < 16 ^ (3 - d) := Nat.pow_pos (by decide)
  by_cases h : 20 * P < 16 ^ d
  · have : 20 * (16 ^ (3 - d) * P) < 4096 := by
      rw [Nat.mul_left_comm, e]; exact Nat.mul_lt_mul_of_pos_left h p
    rw [if_pos this, if_pos h]; rfl
  · have : ¬ 20 * (16 ^ (3 - d) * P) < 4096 := by
      rw [Nat.mul_left_comm, e, Nat.not_lt]; exact Nat.mul_le_mul_left _ (Nat.not_lt.mp h)
    rw [if_neg this, if_neg h]; rfl
theorem own_divF : ∀ k : Fin 17, FP.ddiv (FP.l2d ((Int32.ofNat k.val).toInt64)) 4625196817309499392 = own_R 1 k.val := by decide +kernel
theorem own_div {k : Nat} (h : k < 17) : FP.ddiv (FP.l2d ((Int32.ofNat k).toInt64)) 4625196817309499392 = own_R 1 k := own_divF ⟨k, h⟩
theorem own_Rmul1 {d S : Nat} (hd : d ≤ 3) (hS : S < 2 ^ 40) : FP.dmul (FP.l2d 1) (own_R d S) = own_R d S := by
  rw [own_Ro, own_Rmul (by omega) (by decide) hS, Nat.zero_add, Nat.one_mul]
end OwnFP

theorem own_pn0 : plainName "com/example/fradno/fradno/core/Consensus" = true := by first | (simp [plainName, overriddenIn]; done) | decide +kernel
theorem own_d1_0 : decode prog_43_method_5_code 0 = .ok (.iconst 1, 1) := by decide +kernel
theorem own_d1_1 : decode prog_43_method_5_code 1 = .ok (.newarray .double, 2) := by decide +kernel
theorem own_d1_3 : decode prog_43_method_5_code 3 = .ok (.dup, 1) := by decide +kernel
theorem own_d1_4 : decode prog_43_method_5_code 4 = .ok (.iconst 0, 1) := by decide +kernel
theorem own_d1_5 : decode prog_43_method_5_code 5 = .ok (.dconst 1, 1) := by decide +kernel
theorem own_d1_6 : decode prog_43_method_5_code 6 = .ok (.dastore, 1) := by decide +kernel
theorem own_d1_7 : decode prog_43_method_5_code 7 = .ok (.astore_n 1, 1) := by decide +kernel
theorem own_d1_8 : decode prog_43_method_5_code 8 = .ok (.aload_n 0, 1) := by decide +kernel
theorem own_d1_9 : decode prog_43_method_5_code 9 = .ok (.astore_n 2, 1) := by decide +kernel
theorem own_d1_10 : decode prog_43_method_5_code 10 = .ok (.aload_n 2, 1) := by decide +kernel
theorem own_d1_11 : decode prog_43_method_5_code 11 = .ok (.arraylength, 1) := by decide +kernel
theorem own_d1_12 : decode prog_43_method_5_code 12 = .ok (.istore_n 3, 1) := by decide +kernel
theorem own_d1_13 : decode prog_43_method_5_code 13 = .ok (.iconst 0, 1) := by decide +kernel
theorem own_d1_14 : decode prog_43_method_5_code 14 = .ok (.istore 4, 2) := by decide +kernel
theorem own_d1_16 : decode prog_43_method_5_code 16 = .ok (.iload 4, 2) := by decide +kernel
theorem own_d1_18 : decode prog_43_method_5_code 18 = .ok (.iload_n 3, 1) := by decide +kernel
theorem own_d1_19 : decode prog_43_method_5_code 19 = .ok (.if_icmp .ge 76, 3) := by decide +kernel
theorem own_d1_95 : decode prog_43_method_5_code 95 = .ok (.aload_n 0, 1) := by decide +kernel
theorem own_d1_96 : decode prog_43_method_5_code 96 = .ok (.arraylength, 1) := by decide +kernel
theorem own_d1_97 : decode prog_43_method_5_code 97 = .ok (.istore_n 2, 1) := by decide +kernel
theorem own_d1_98 : decode prog_43_method_5_code 98 = .ok (.dconst 0, 1) := by decide +kernel
theorem own_d1_99 : decode prog_43_method_5_code 99 = .ok (.dstore_n 3, 1) := by decide +kernel
theorem own_d1_100 : decode prog_43_method_5_code 100 = .ok (.aload_n 0, 1) := by decide +kernel
theorem own_d1_101 : decode prog_43_method_5_code 101 = .ok (.arraylength, 1) := by decide +kernel
theorem own_d1_102 : decode prog_43_method_5_code 102 = .ok (.istore 5, 2) := by decide +kernel
theorem own_d1_104 : decode prog_43_method_5_code 104 = .ok (.iload 5, 2) := by decide +kernel
theorem own_d1_106 : decode prog_43_method_5_code 106 = .ok (.iconst 1, 1) := by decide +kernel
theorem own_d1_107 : decode prog_43_method_5_code 107 = .ok (.if_icmp .lt 27, 3) := by decide +kernel
theorem own_d1_134 : decode prog_43_method_5_code 134 = .ok (.iload_n 2, 1) := by decide +kernel
theorem own_d1_135 : decode prog_43_method_5_code 135 = .ok (.ireturn, 1) := by decide +kernel
theorem own_ef_1_0 (m : MethodId) (x0 : Addr) : entryFrame m #[(.ref x0)] 9 = mkF m 0 #[.val (.ref x0), .unset, .unset, .unset, .unset, .unset, .unset, .unset, .unset] [] := by first | (simp [entryFrame, mkF, argsToLocals, Value.category]; done) | rfl
def Q1_0 (Z : State) (r0 : Addr) (kk : ClassId) (h0 : Heap) (n0 : Nat) (v : Option Value) (h : Heap) (L : List Loc) : Prop := v = some (.int (0 : Int32)) ∧ Fr n0 L ∧ Keep h0 h []
set_option maxRecDepth 65536 in
set_option maxHeartbeats 40000000 in
theorem rm1_0 (l : Launch) (Z : State) (a0 : Array Value) (hw : ∀ d ∈ tables_1, d.before a0 Z = true) (ws : List Jvm.Cond) (r0 : Addr) (kk : ClassId) (h0 : Heap) (n0 : Nat) (Z0 : n0 ≤ h0.size) (V0 : Arv Z h0 r0 kk .double (0 : Int32) [] (.double (FP.l2d 0))) :
    MetFree l (⟨"com/example/fradno/fradno/core/Consensus", "leastCount", "([D)I"⟩ : MethodName) (head1 (Jvm.Cond.code (⟨"com/example/fradno/fradno/core/Consensus", "leastCount", "([D)I"⟩ : MethodName) prog_43_method_5_code 9 (some .int) :: ws) ({ frames := 0, cells := 1, slots := 1, locals := 0 } : Room)) (fun a U => a = #[(.ref r0)] ∧ Z.Warmed39 U.vm ∧ U.heap = h0) (fun _ _ _ _ _ => True) (fun _ U o U' => ∃ v L, o = .returned v ∧ Q1_0 Z r0 kk h0 n0 v U'.heap L ∧ FrameEnd U o U' L ({ frames := 0, cells := 1, slots := 1, locals := 0 } : Room).cells ({ frames := 0, cells := 1, slots := 1, locals := 0 } : Room).slots) := by
  refine MetFree.of_bodySF (plainFor_of_name own_pn0) hisR ?_
  intro p e s m args below meth c s₁ Bd hml0 hP hK
  obtain ⟨rfl, hZ, hh⟩ := hP
  have hx := Bd.exec
  have hby := Bd.bytes
  have hml : c.maxLocals = 9 := hml0
  have hown : s.vm.findClass "com/example/fradno/fradno/core/Consensus" = some m.cls := findClass_of_methodNamed Bd.named
  have hnm := (name_of_methodNamed Bd.named Bd.method).1
  have X0 : Stand p l e ({ frames := 0, cells := 1, slots := 1, locals := 0 } : Room) s m #[(.ref r0)] below meth c s₁ [] 0 0 := Stand.of_body Bd
  have e0 : s₁.heap = h0 := by rw [← hh, Bd.state]; rfl
  have N0 := Fr.nil n0
  have KR : Keep h0 h0 [] := Keep.refl h0 _
  show Good p e below (fun o U' => ∃ v L, o = .returned v ∧ Q1_0 Z r0 kk h0 n0 v U'.heap L ∧ FrameEnd s o U' L ({ frames := 0, cells := 1, slots := 1, locals := 0 } : Room).cells ({ frames := 0, cells := 1, slots := 1, locals := 0 } : Room).slots) _
  refine Good.back (S' := s₁.setTop (mkF m 0 #[.val (.ref r0), .unset, .unset, .unset, .unset, .unset, .unset, .unset, .unset] [])) (fun t k => castTop (own_ef_1_0 m r0) k) ?_
  show Good p e below _ (s₁.setTop (mkF m 0 #[.val (.ref r0), .unset, .unset, .unset, .unset, .unset, .unset, .unset, .unset] []))
  refine Good.back (fun _ k => XS.iconst X0.here hx rfl (hb hby own_d1_0) k) ?_
  show Good p e below _ (s₁.setTop (mkF m 1 #[.val (.ref r0), .unset, .unset, .unset, .unset, .unset, .unset, .unset, .unset] [(.int (1 : Int32))]))
  obtain ⟨T1, h1, k1, X1, e1, E1, A1, st1⟩ := newP X0 hx hZ (hw _ (List.mem_of_getElem? (i := 2) rfl)) e0 (g := (mkF m 1 #[.val (.ref r0), .unset, .unset, .unset, .unset, .unset, .unset, .unset, .unset] [(.int (1 : Int32))])) rfl (hb hby own_d1_1) rfl (by decide) (cap := 1) (by decide) (by decide) (by decide) (by decide)
  obtain ⟨b1, g1⟩ : ∃ z, z = h0.size := ⟨_, rfl⟩
  rw [← g1] at A1 st1
  refine Good.back st1 ?_
  have g_b1 : n0 ≤ b1 := Nat.le_trans Z0 (Nat.le_of_eq g1.symm)
  have sz_b1 : h0.size ≤ b1 := Nat.le_trans KR.1 (Nat.le_of_eq g1.symm)
  have Z2 : n0 ≤ h1.size := Nat.le_trans Z0 E1.1
  have K3 : Keep h0 h1 [] := KR.ext E1
  have f_4 : Arv Z h1 b1 k1 .double (1 : Int32) [(.double (FP.l2d 0))] (.double (FP.l2d 0)) := (Arv.newD A1 (by decide)).pad (pad_rep [] (.double (FP.l2d 0)) 1)
  show Good p e below _ (T1.setTop (mkF m 3 #[.val (.ref r0), .unset, .unset, .unset, .unset, .unset, .unset, .unset, .unset] [(.ref b1)]))
  refine Good.back (fun _ k => XS.dup X1.here hx rfl (hb hby own_d1_3) rfl rfl k) ?_
  show Good p e below _ (T1.setTop (mkF m 4 #[.val (.ref r0), .unset, .unset, .unset, .unset, .unset, .unset, .unset, .unset] [(.ref b1), (.ref b1)]))
  refine Good.back (fun _ k => XS.iconst X1.here hx rfl (hb hby own_d1_4) k) ?_
  show Good p e below _ (T1.setTop (mkF m 5 #[.val (.ref r0), .unset, .unset, .unset, .unset, .unset, .unset, .unset, .unset] [(.int (0 : Int32)), (.ref b1), (.ref b1)]))
  refine Good.back (fun _ k => XS.dconst1 X1.here hx rfl (hb hby own_d1_5) (v := (FP.l2d (1 : Int64))) (by decide +kernel) k) ?_
  show Good p e below _ (T1.setTop (mkF m 6 #[.val (.ref r0), .unset, .unset, .unset, .unset, .unset, .unset, .unset, .unset] [(.double (FP.l2d (1 : Int64))), (.int (0 : Int32)), (.ref b1), (.ref b1)]))
  have fc5 := f_4
  obtain ⟨cl5, Ar5, qk5, S5, N5', H5, G5⟩ := fc5
  have hin5 : ¬ ((0 : Int32) < 0 ∨ cl5.slots.size ≤ ((0 : Int32)).toNatClampNeg) := inb_of S5 ⟨by decide, by decide⟩
  obtain ⟨T5, h5, X5, e5, W5, st5⟩ := stD X1 hx hZ e1 Ar5 (j := (0 : Int32)) hin5 (g := (mkF m 6 #[.val (.ref r0), .unset, .unset, .unset, .unset, .unset, .unset, .unset, .unset] [(.double (FP.l2d (1 : Int64))), (.int (0 : Int32)), (.ref b1), (.ref b1)])) rfl rfl (hb hby own_d1_6)
  refine Good.back st5 ?_
  have f_6 : Arv Z h5 b1 k1 .double (1 : Int32) [(.double (FP.l2d (1 : Int64)))] (.double (FP.l2d 0)) := Arv.set Ar5 qk5 S5 N5' H5 G5 rfl W5 0 rfl (Nat.le_of_ble_eq_true rfl)
  have N5 := Fr.snoc X5 N0 g_b1
  have Z7 : n0 ≤ h5.size := Nat.le_trans Z2 (Keep.of_wr W5).1
  have K8 : Keep h0 h5 [] := K3.wr W5 (Or.inr sz_b1)
  show Good p e below _ (T5.setTop (mkF m 7 #[.val (.ref r0), .unset, .unset, .unset, .unset, .unset, .unset, .unset, .unset] [(.ref b1)]))
  refine Good.back (fun _ k => XS.astoreN X5.here hx rfl (hb hby own_d1_7) rfl rfl (l' := #[.val (.ref r0), .val (.ref b1), .unset, .unset, .unset, .unset, .unset, .unset, .unset]) rfl k) ?_
  show Good p e below _ (T5.setTop (mkF m 8 #[.val (.ref r0), .val (.ref b1), .unset, .unset, .unset, .unset, .unset, .unset, .unset] []))
  refine Good.back (fun _ k => XS.aloadN X5.here hx rfl (hb hby own_d1_8) rfl rfl k) ?_
  show Good p e below _ (T5.setTop (mkF m 9 #[.val (.ref r0), .val (.ref b1), .unset, .unset, .unset, .unset, .unset, .unset, .unset] [(.ref r0)]))
  refine Good.back (fun _ k => XS.astoreN X5.here hx rfl (hb hby own_d1_9) rfl rfl (l' := #[.val (.ref r0), .val (.ref b1), .val (.ref r0), .unset, .unset, .unset, .unset, .unset, .unset]) rfl k) ?_
  show Good p e below _ (T5.setTop (mkF m 10 #[.val (.ref r0), .val (.ref b1), .val (.ref r0), .unset, .unset, .unset, .unset, .unset, .unset] []))
  refine Good.back (fun _ k => XS.aloadN X5.here hx rfl (hb hby own_d1_10) rfl rfl k) ?_
  show Good p e below _ (T5.setTop (mkF m 11 #[.val (.ref r0), .val (.ref b1), .val (.ref r0), .unset, .unset, .unset, .unset, .unset, .unset] [(.ref r0)]))
  have f_9 : Arv Z h1 r0 kk .double (0 : Int32) [] (.double (FP.l2d 0)) := Arv.ext V0 E1
  have ne_r0_b1_11 : r0 ≠ b1 := Nat.ne_of_lt (Nat.lt_of_lt_of_le V0.lt (Nat.le_of_eq g1.symm))
  have f_10 : Arv Z h5 r0 kk .double (0 : Int32) [] (.double (FP.l2d 0)) := Arv.other f_9 W5 ne_r0_b1_11
  have fc12 := f_10
  obtain ⟨cl12, Ar12, qk12, S12, N12', H12, G12⟩ := fc12
  refine Good.back (X5.arraylength hx (by rw [e5]; exact Ar12.1) (State.isArrayOf_alike hZ.alike Ar12.2.1) (g := (mkF m 11 #[.val (.ref r0), .val (.ref b1), .val (.ref r0), .unset, .unset, .unset, .unset, .unset, .unset] [(.ref r0)])) rfl rfl (hb hby own_d1_11)) ?_
  rw [len_of S12 N12']
  show Good p e below _ (T5.setTop (mkF m 12 #[.val (.ref r0), .val (.ref b1), .val (.ref r0), .unset, .unset, .unset, .unset, .unset, .unset] [(.int (0 : Int32))]))
  refine Good.back (fun _ k => XS.istoreN X5.here hx rfl (hb hby own_d1_12) rfl (l' := #[.val (.ref r0), .val (.ref b1), .val (.ref r0), .val (.int (0 : Int32)), .unset, .unset, .unset, .unset, .unset]) rfl k) ?_
  show Good p e below _ (T5.setTop (mkF m 13 #[.val (.ref r0), .val (.ref b1), .val (.ref r0), .val (.int (0 : Int32)), .unset, .unset, .unset, .unset, .unset] []))
  refine Good.back (fun _ k => XS.iconst X5.here hx rfl (hb hby own_d1_13) k) ?_
  show Good p e below _ (T5.setTop (mkF m 14 #[.val (.ref r0), .val (.ref b1), .val (.ref r0), .val (.int (0 : Int32)), .unset, .unset, .unset, .unset, .unset] [(.int (0 : Int32))]))
  refine Good.back (fun _ k => XS.istore X5.here hx rfl (hb hby own_d1_14) rfl (l' := #[.val (.ref r0), .val (.ref b1), .val (.ref r0), .val (.int (0 : Int32)), .val (.int (0 : Int32)), .unset, .unset, .unset, .unset]) rfl k) ?_
  show Good p e below _ (T5.setTop (mkF m 16 #[.val (.ref r0), .val (.ref b1), .val (.ref r0), .val (.int (0 : Int32)), .val (.int (0 : Int32)), .unset, .unset, .unset, .unset] []))
  refine Good.back (fun _ k => XS.iload X5.here hx rfl (hb hby own_d1_16) rfl k) ?_
  show Good p e below _ (T5.setTop (mkF m 18 #[.val (.ref r0), .val (.ref b1), .val (.ref r0), .val (.int (0 : Int32)), .val (.int (0 : Int32)), .unset, .unset, .unset, .unset] [(.int (0 : Int32))]))
  refine Good.back (fun _ k => XS.iloadN X5.here hx rfl (hb hby own_d1_18) rfl k) ?_
  show Good p e below _ (T5.setTop (mkF m 19 #[.val (.ref r0), .val (.ref b1), .val (.ref r0), .val (.int (0 : Int32)), .val (.int (0 : Int32)), .unset, .unset, .unset, .unset] [(.int (0 : Int32)), (.int (0 : Int32))]))
  refine Good.back (fun _ k => XS.icmpYes X5.here hx rfl (pc0 := 19) (pc' := 95) rfl (hb hby own_d1_19) rfl (flt (by decide : ¬ ((0 : Int32) < (0 : Int32)))).2.1 (by decide) (by decide) k) ?_
  show Good p e below _ (T5.setTop (mkF m 95 #[.val (.ref r0), .val (.ref b1), .val (.ref r0), .val (.int (0 : Int32)), .val (.int (0 : Int32)), .unset, .unset, .unset, .unset] []))
  refine Good.back (fun _ k => XS.aloadN X5.here hx rfl (hb hby own_d1_95) rfl rfl k) ?_
  show Good p e below _ (T5.setTop (mkF m 96 #[.val (.ref r0), .val (.ref b1), .val (.ref r0), .val (.int (0 : Int32)), .val (.int (0 : Int32)), .unset, .unset, .unset, .unset] [(.ref r0)]))
  have fc13 := f_10
  obtain ⟨cl13, Ar13, qk13, S13, N13', H13, G13⟩ := fc13
  refine Good.back (X5.arraylength hx (by rw [e5]; exact Ar13.1) (State.isArrayOf_alike hZ.alike Ar13.2.1) (g := (mkF m 96 #[.val (.ref r0), .val (.ref b1), .val (.ref r0), .val (.int (0 : Int32)), .val (.int (0 : Int32)), .unset, .unset, .unset, .unset] [(.ref r0)])) rfl rfl (hb hby own_d1_96)) ?_
  rw [len_of S13 N13']
  show Good p e below _ (T5.setTop (mkF m 97 #[.val (.ref r0), .val (.ref b1), .val (.ref r0), .val (.int (0 : Int32)), .val (.int (0 : Int32)), .unset, .unset, .unset, .unset] [(.int (0 : Int32))]))
  refine Good.back (fun _ k => XS.istoreN X5.here hx rfl (hb hby own_d1_97) rfl (l' := #[.val (.ref r0), .val (.ref b1), .val (.int (0 : Int32)), .val (.int (0 : Int32)), .val (.int (0 : Int32)), .unset, .unset, .unset, .unset]) rfl k) ?_
  show Good p e below _ (T5.setTop (mkF m 98 #[.val (.ref r0), .val (.ref b1), .val (.int (0 : Int32)), .val (.int (0 : Int32)), .val (.int (0 : Int32)), .unset, .unset, .unset, .unset] []))
  refine Good.back (fun _ k => XS.dconst0 X5.here hx rfl (hb hby own_d1_98) (v := (FP.l2d (0 : Int64))) (by decide +kernel) k) ?_
  show Good p e below _ (T5.setTop (mkF m 99 #[.val (.ref r0), .val (.ref b1), .val (.int (0 : Int32)), .val (.int (0 : Int32)), .val (.int (0 : Int32)), .unset, .unset, .unset, .unset] [(.double (FP.l2d (0 : Int64)))]))
  refine Good.back (fun _ k => XS.dstoreN X5.here hx rfl (hb hby own_d1_99) rfl (l' := #[.val (.ref r0), .val (.ref b1), .val (.int (0 : Int32)), .val (.double (FP.l2d (0 : Int64))), .second, .unset, .unset, .unset, .unset]) rfl k) ?_
  show Good p e below _ (T5.setTop (mkF m 100 #[.val (.ref r0), .val (.ref b1), .val (.int (0 : Int32)), .val (.double (FP.l2d (0 : Int64))), .second, .unset, .unset, .unset, .unset] []))
  refine Good.back (fun _ k => XS.aloadN X5.here hx rfl (hb hby own_d1_100) rfl rfl k) ?_
  show Good p e below _ (T5.setTop (mkF m 101 #[.val (.ref r0), .val (.ref b1), .val (.int (0 : Int32)), .val (.double (FP.l2d (0 : Int64))), .second, .unset, .unset, .unset, .unset] [(.ref r0)]))
  have fc14 := f_10
  obtain ⟨cl14, Ar14, qk14, S14, N14', H14, G14⟩ := fc14
  refine Good.back (X5.arraylength hx (by rw [e5]; exact Ar14.1) (State.isArrayOf_alike hZ.alike Ar14.2.1) (g := (mkF m 101 #[.val (.ref r0), .val (.ref b1), .val (.int (0 : Int32)), .val (.double (FP.l2d (0 : Int64))), .second, .unset, .unset, .unset, .unset] [(.ref r0)])) rfl rfl (hb hby own_d1_101)) ?_
  rw [len_of S14 N14']
  show Good p e below _ (T5.setTop (mkF m 102 #[.val (.ref r0), .val (.ref b1), .val (.int (0 : Int32)), .val (.double (FP.l2d (0 : Int64))), .second, .unset, .unset, .unset, .unset] [(.int (0 : Int32))]))
  refine Good.back (fun _ k => XS.istore X5.here hx rfl (hb hby own_d1_102) rfl (l' := #[.val (.ref r0), .val (.ref b1), .val (.int (0 : Int32)), .val (.double (FP.l2d (0 : Int64))), .second, .val (.int (0 : Int32)), .unset, .unset, .unset]) rfl k) ?_
  show Good p e below _ (T5.setTop (mkF m 104 #[.val (.ref r0), .val (.ref b1), .val (.int (0 : Int32)), .val (.double (FP.l2d (0 : Int64))), .second, .val (.int (0 : Int32)), .unset, .unset, .unset] []))
  refine Good.back (fun _ k => XS.iload X5.here hx rfl (hb hby own_d1_104) rfl k) ?_
  show Good p e below _ (T5.setTop (mkF m 106 #[.val (.ref r0), .val (.ref b1), .val (.int (0 : Int32)), .val (.double (FP.l2d (0 : Int64))), .second, .val (.int (0 : Int32)), .unset, .unset, .unset] [(.int (0 : Int32))]))
  refine Good.back (fun _ k => XS.iconst X5.here hx rfl (hb hby own_d1_106) k) ?_
  show Good p e below _ (T5.setTop (mkF m 107 #[.val (.ref r0), .val (.ref b1), .val (.int (0 : Int32)), .val (.double (FP.l2d (0 : Int64))), .second, .val (.int (0 : Int32)), .unset, .unset, .unset] [(.int (1 : Int32)), (.int (0 : Int32))]))
  refine Good.back (fun _ k => XS.icmpYes X5.here hx rfl (pc0 := 107) (pc' := 134) rfl (hb hby own_d1_107) rfl (tlt (by decide : ((0 : Int32) < (1 : Int32)))).1 (by decide) (by decide) k) ?_
  show Good p e below _ (T5.setTop (mkF m 134 #[.val (.ref r0), .val (.ref b1), .val (.int (0 : Int32)), .val (.double (FP.l2d (0 : Int64))), .second, .val (.int (0 : Int32)), .unset, .unset, .unset] []))
  refine Good.back (fun _ k => XS.iloadN X5.here hx rfl (hb hby own_d1_134) rfl k) ?_
  show Good p e below _ (T5.setTop (mkF m 135 #[.val (.ref r0), .val (.ref b1), .val (.int (0 : Int32)), .val (.double (FP.l2d (0 : Int64))), .second, .val (.int (0 : Int32)), .unset, .unset, .unset] [(.int (0 : Int32))]))
  obtain ⟨fs15, hr15, hrun15, hended15, hW15, hsame15⟩ := X5.leave (v := some (.int (0 : Int32))) (fun h => by rw [Bd.returns] at h; cases h)
  refine Good.done (retI X5 hx Bd.returns (hb hby own_d1_135) hr15) hrun15 hended15 ⟨_, _, rfl, ?_, ⟨_, rfl⟩, hW15, hsame15.mono (by decide) (by decide)⟩
  show Q1_0 Z r0 kk h0 n0 _ T5.heap _
  rw [e5]
  exact ⟨rfl, N5, K8⟩
theorem own_d1_22 : decode prog_43_method_5_code 22 = .ok (.aload_n 2, 1) := by decide +kernel
theorem own_d1_23 : decode prog_43_method_5_code 23 = .ok (.iload 4, 2) := by decide +kernel
theorem own_d1_25 : decode prog_43_method_5_code 25 = .ok (.daload, 1) := by decide +kernel
theorem own_d1_26 : decode prog_43_method_5_code 26 = .ok (.dstore 5, 2) := by decide +kernel
theorem own_d1_28 : decode prog_43_method_5_code 28 = .ok (.aload_n 1, 1) := by decide +kernel
theorem own_d1_29 : decode prog_43_method_5_code 29 = .ok (.arraylength, 1) := by decide +kernel
theorem own_d1_30 : decode prog_43_method_5_code 30 = .ok (.iconst 1, 1) := by decide +kernel
theorem own_d1_31 : decode prog_43_method_5_code 31 = .ok (.iadd, 1) := by decide +kernel
theorem own_d1_32 : decode prog_43_method_5_code 32 = .ok (.newarray .double, 2) := by decide +kernel
theorem own_d1_34 : decode prog_43_method_5_code 34 = .ok (.astore 7, 2) := by decide +kernel
theorem own_d1_36 : decode prog_43_method_5_code 36 = .ok (.iconst 0, 1) := by decide +kernel
theorem own_d1_37 : decode prog_43_method_5_code 37 = .ok (.istore 8, 2) := by decide +kernel
theorem own_d1_39 : decode prog_43_method_5_code 39 = .ok (.iload 8, 2) := by decide +kernel
theorem own_d1_41 : decode prog_43_method_5_code 41 = .ok (.aload_n 1, 1) := by decide +kernel
theorem own_d1_42 : decode prog_43_method_5_code 42 = .ok (.arraylength, 1) := by decide +kernel
theorem own_d1_43 : decode prog_43_method_5_code 43 = .ok (.if_icmp .ge 43, 3) := by decide +kernel
theorem own_d1_46 : decode prog_43_method_5_code 46 = .ok (.aload 7, 2) := by decide +kernel
theorem own_d1_48 : decode prog_43_method_5_code 48 = .ok (.iload 8, 2) := by decide +kernel
theorem own_d1_50 : decode prog_43_method_5_code 50 = .ok (.dup2, 1) := by decide +kernel
theorem own_d1_51 : decode prog_43_method_5_code 51 = .ok (.daload, 1) := by decide +kernel
theorem own_d1_52 : decode prog_43_method_5_code 52 = .ok (.aload_n 1, 1) := by decide +kernel
theorem own_d1_53 : decode prog_43_method_5_code 53 = .ok (.iload 8, 2) := by decide +kernel
theorem own_d1_55 : decode prog_43_method_5_code 55 = .ok (.daload, 1) := by decide +kernel
theorem own_d1_56 : decode prog_43_method_5_code 56 = .ok (.dconst 1, 1) := by decide +kernel
theorem own_d1_57 : decode prog_43_method_5_code 57 = .ok (.dload 5, 2) := by decide +kernel
theorem own_d1_59 : decode prog_43_method_5_code 59 = .ok (.dsub, 1) := by decide +kernel
theorem own_d1_60 : decode prog_43_method_5_code 60 = .ok (.dmul, 1) := by decide +kernel
theorem own_d1_61 : decode prog_43_method_5_code 61 = .ok (.dadd, 1) := by decide +kernel
theorem own_d1_62 : decode prog_43_method_5_code 62 = .ok (.dastore, 1) := by decide +kernel
theorem own_d1_63 : decode prog_43_method_5_code 63 = .ok (.aload 7, 2) := by decide +kernel
theorem own_d1_65 : decode prog_43_method_5_code 65 = .ok (.iload 8, 2) := by decide +kernel
theorem own_d1_67 : decode prog_43_method_5_code 67 = .ok (.iconst 1, 1) := by decide +kernel
theorem own_d1_68 : decode prog_43_method_5_code 68 = .ok (.iadd, 1) := by decide +kernel
theorem own_d1_69 : decode prog_43_method_5_code 69 = .ok (.dup2, 1) := by decide +kernel
theorem own_d1_70 : decode prog_43_method_5_code 70 = .ok (.daload, 1) := by decide +kernel
theorem own_d1_71 : decode prog_43_method_5_code 71 = .ok (.aload_n 1, 1) := by decide +kernel
theorem own_d1_72 : decode prog_43_method_5_code 72 = .ok (.iload 8, 2) := by decide +kernel
theorem own_d1_74 : decode prog_43_method_5_code 74 = .ok (.daload, 1) := by decide +kernel
theorem own_d1_75 : decode prog_43_method_5_code 75 = .ok (.dload 5, 2) := by decide +kernel
theorem own_d1_77 : decode prog_43_method_5_code 77 = .ok (.dmul, 1) := by decide +kernel
theorem own_d1_78 : decode prog_43_method_5_code 78 = .ok (.dadd, 1) := by decide +kernel
theorem own_d1_79 : decode prog_43_method_5_code 79 = .ok (.dastore, 1) := by decide +kernel
theorem own_d1_80 : decode prog_43_method_5_code 80 = .ok (.iinc 8 1, 3) := by decide +kernel
theorem own_d1_83 : decode prog_43_method_5_code 83 = .ok (.goto (-44), 3) := by decide +kernel
theorem own_d1_86 : decode prog_43_method_5_code 86 = .ok (.aload 7, 2) := by decide +kernel
theorem own_d1_88 : decode prog_43_method_5_code 88 = .ok (.astore_n 1, 1) := by decide +kernel
theorem own_d1_89 : decode prog_43_method_5_code 89 = .ok (.iinc 4 1, 3) := by decide +kernel
theorem own_d1_92 : decode prog_43_method_5_code 92 = .ok (.goto (-76), 3) := by decide +kernel
theorem own_d1_110 : decode prog_43_method_5_code 110 = .ok (.dload_n 3, 1) := by decide +kernel
theorem own_d1_111 : decode prog_43_method_5_code 111 = .ok (.aload_n 1, 1) := by decide +kernel
theorem own_d1_112 : decode prog_43_method_5_code 112 = .ok (.iload 5, 2) := by decide +kernel
theorem own_d1_114 : decode prog_43_method_5_code 114 = .ok (.daload, 1) := by decide +kernel
theorem own_d1_115 : decode prog_43_method_5_code 115 = .ok (.dadd, 1) := by decide +kernel
theorem own_d1_116 : decode prog_43_method_5_code 116 = .ok (.dstore_n 3, 1) := by decide +kernel
theorem own_d1_117 : decode prog_43_method_5_code 117 = .ok (.dload_n 3, 1) := by decide +kernel
theorem own_d1_118 : decode prog_43_method_5_code 118 = .ok (.ldc2_w 146, 3) := by decide +kernel
theorem own_d1_121 : decode prog_43_method_5_code 121 = .ok (.dcmp .g, 1) := by decide +kernel
theorem own_d1_122 : decode prog_43_method_5_code 122 = .ok (.ifCond .ge 6, 3) := by decide +kernel
theorem own_d1_125 : decode prog_43_method_5_code 125 = .ok (.iload 5, 2) := by decide +kernel
theorem own_d1_127 : decode prog_43_method_5_code 127 = .ok (.istore_n 2, 1) := by decide +kernel
theorem own_d1_128 : decode prog_43_method_5_code 128 = .ok (.iinc 5 (-1), 3) := by decide +kernel
theorem own_d1_131 : decode prog_43_method_5_code 131 = .ok (.goto (-27), 3) := by decide +kernel
theorem own_ef_1_1 (m : MethodId) (x0 : Addr) : entryFrame m #[(.ref x0)] 9 = mkF m 0 #[.val (.ref x0), .unset, .unset, .unset, .unset, .unset, .unset, .unset, .unset] [] := by first | (simp [entryFrame, mkF, argsToLocals, Value.category]; done) | rfl
def Q1_1 (Z : State) (r0 : Addr) (kk : ClassId) (x0 : Nat) (h0 : Heap) (n0 : Nat) (v : Option Value) (h : Heap) (L : List Loc) : Prop := v = some (.int (1 : Int32)) ∧ Fr n0 L ∧ Keep h0 h []
set_option maxRecDepth 65536 in
set_option maxHeartbeats 40000000 in
theorem rm1_1 (l : Launch) (Z : State) (a0 : Array Value) (hw : ∀ d ∈ tables_1, d.before a0 Z = true) (ws : List Jvm.Cond) (r0 : Addr) (kk : ClassId) (x0 : Nat) (h0 : Heap) (n0 : Nat) (Z0 : n0 ≤ h0.size) (V0 : Arv Z h0 r0 kk .double (1 : Int32) [(.double (own_R 1 x0))] (.double (FP.l2d 0))) (hx0 : x0 ≤ 16) :
    MetFree l (⟨"com/example/fradno/fradno/core/Consensus", "leastCount", "([D)I"⟩ : MethodName) (head1 (Jvm.Cond.code (⟨"com/example/fradno/fradno/core/Consensus", "leastCount", "([D)I"⟩ : MethodName) prog_43_method_5_code 9 (some .int) :: ws) ({ frames := 0, cells := 2, slots := 3, locals := 0 } : Room)) (fun a U => a = #[(.ref r0)] ∧ Z.Warmed39 U.vm ∧ U.heap = h0) (fun _ _ _ _ _ => True) (fun _ U o U' => ∃ v L, o = .returned v ∧ Q1_1 Z r0 kk x0 h0 n0 v U'.heap L ∧ FrameEnd U o U' L ({ frames := 0, cells := 2, slots := 3, locals := 0 } : Room).cells ({ frames := 0, cells := 2, slots := 3, locals := 0 } : Room).slots) := by
  refine MetFree.of_bodySF (plainFor_of_name own_pn0) hisR ?_
  intro p e s m args below meth c s₁ Bd hml0 hP hK
  obtain ⟨rfl, hZ, hh⟩ := hP
  have hx := Bd.exec
  have hby := Bd.bytes
  have hml : c.maxLocals = 9 := hml0
  have hown : s.vm.findClass "com/example/fradno/fradno/core/Consensus" = some m.cls := findClass_of_methodNamed Bd.named
  have hnm := (name_of_methodNamed Bd.named Bd.method).1
  have X0 : Stand p l e ({ frames := 0, cells := 2, slots := 3, locals := 0 } : Room) s m #[(.ref r0)] below meth c s₁ [] 0 0 := Stand.of_body Bd
  have e0 : s₁.heap = h0 := by rw [← hh, Bd.state]; rfl
  have N0 := Fr.nil n0
  have KR : Keep h0 h0 [] := Keep.refl h0 _
  show Good p e below (fun o U' => ∃ v L, o = .returned v ∧ Q1_1 Z r0 kk x0 h0 n0 v U'.heap L ∧ FrameEnd s o U' L ({ frames := 0, cells := 2, slots := 3, locals := 0 } : Room).cells ({ frames := 0, cells := 2, slots := 3, locals := 0 } : Room).slots) _
  refine Good.back (S' := s₁.setTop (mkF m 0 #[.val (.ref r0), .unset, .unset, .unset, .unset, .unset, .unset, .unset, .unset] [])) (fun t k => castTop (own_ef_1_1 m r0) k) ?_
  show Good p e below _ (s₁.setTop (mkF m 0 #[.val (.ref r0), .unset, .unset, .unset, .unset, .unset, .unset, .unset, .unset] []))
  refine Good.back (fun _ k => XS.iconst X0.here hx rfl (hb hby own_d1_0) k) ?_
  show Good p e below _ (s₁.setTop (mkF m 1 #[.val (.ref r0), .unset, .unset, .unset, .unset, .unset, .unset, .unset, .unset] [(.int (1 : Int32))]))
  obtain ⟨T1, h1, k1, X1, e1, E1, A1, st1⟩ := newP X0 hx hZ (hw _ (List.mem_of_getElem? (i := 2) rfl)) e0 (g := (mkF m 1 #[.val (.ref r0), .unset, .unset, .unset, .unset, .unset, .unset, .unset, .unset] [(.int (1 : Int32))])) rfl (hb hby own_d1_1) rfl (by decide) (cap := 1) (by decide) (by decide) (by decide) (by decide)
  obtain ⟨b1, g1⟩ : ∃ z, z = h0.size := ⟨_, rfl⟩
  rw [← g1] at A1 st1
  refine Good.back st1 ?_
  have g_b1 : n0 ≤ b1 := Nat.le_trans Z0 (Nat.le_of_eq g1.symm)
  have sz_b1 : h0.size ≤ b1 := Nat.le_trans KR.1 (Nat.le_of_eq g1.symm)
  have Z2 : n0 ≤ h1.size := Nat.le_trans Z0 E1.1
  have K3 : Keep h0 h1 [] := KR.ext E1
  have f_4 : Arv Z h1 b1 k1 .double (1 : Int32) [(.double (FP.l2d 0))] (.double (FP.l2d 0)) := (Arv.newD A1 (by decide)).pad (pad_rep [] (.double (FP.l2d 0)) 1)
  show Good p e below _ (T1.setTop (mkF m 3 #[.val (.ref r0), .unset, .unset, .unset, .unset, .unset, .unset, .unset, .unset] [(.ref b1)]))
  refine Good.back (fun _ k => XS.dup X1.here hx rfl (hb hby own_d1_3) rfl rfl k) ?_
  show Good p e below _ (T1.setTop (mkF m 4 #[.val (.ref r0), .unset, .unset, .unset, .unset, .unset, .unset, .unset, .unset] [(.ref b1), (.ref b1)]))
  refine Good.back (fun _ k => XS.iconst X1.here hx rfl (hb hby own_d1_4) k) ?_
  show Good p e below _ (T1.setTop (mkF m 5 #[.val (.ref r0), .unset, .unset, .unset, .unset, .unset, .unset, .unset, .unset] [(.int (0 : Int32)), (.ref b1), (.ref b1)]))
  refine Good.back (fun _ k => XS.dconst1 X1.here hx rfl (hb hby own_d1_5) (v := (FP.l2d (1 : Int64))) (by decide +kernel) k) ?_
  show Good p e below _ (T1.setTop (mkF m 6 #[.val (.ref r0), .unset, .unset, .unset, .unset, .unset, .unset, .unset, .unset] [(.double (FP.l2d (1 : Int64))), (.int (0 : Int32)), (.ref b1), (.ref b1)]))
  have fc5 := f_4
  obtain ⟨cl5, Ar5, qk5, S5, N5', H5, G5⟩ := fc5
  have hin5 : ¬ ((0 : Int32) < 0 ∨ cl5.slots.size ≤ ((0 : Int32)).toNatClampNeg) := inb_of S5 ⟨by decide, by decide⟩
  obtain ⟨T5, h5, X5, e5, W5, st5⟩ := stD X1 hx hZ e1 Ar5 (j := (0 : Int32)) hin5 (g := (mkF m 6 #[.val (.ref r0), .unset, .unset, .unset, .unset, .unset, .unset, .unset, .unset] [(.double (FP.l2d (1 : Int64))), (.int (0 : Int32)), (.ref b1), (.ref b1)])) rfl rfl (hb hby own_d1_6)
  refine Good.back st5 ?_
  have f_6 : Arv Z h5 b1 k1 .double (1 : Int32) [(.double (FP.l2d (1 : Int64)))] (.double (FP.l2d 0)) := Arv.set Ar5 qk5 S5 N5' H5 G5 rfl W5 0 rfl (Nat.le_of_ble_eq_true rfl)
  have N5 := Fr.snoc X5 N0 g_b1
  have Z7 : n0 ≤ h5.size := Nat.le_trans Z2 (Keep.of_wr W5).1
  have K8 : Keep h0 h5 [] := K3.wr W5 (Or.inr sz_b1)
  show Good p e below _ (T5.setTop (mkF m 7 #[.val (.ref r0), .unset, .unset, .unset, .unset, .unset, .unset, .unset, .unset] [(.ref b1)]))
  refine Good.back (fun _ k => XS.astoreN X5.here hx rfl (hb hby own_d1_7) rfl rfl (l' := #[.val (.ref r0), .val (.ref b1), .unset, .unset, .unset, .unset, .unset, .unset, .unset]) rfl k) ?_
  show Good p e below _ (T5.setTop (mkF m 8 #[.val (.ref r0), .val (.ref b1), .unset, .unset, .unset, .unset, .unset, .unset, .unset] []))
  refine Good.back (fun _ k => XS.aloadN X5.here hx rfl (hb hby own_d1_8) rfl rfl k) ?_
  show Good p e below _ (T5.setTop (mkF m 9 #[.val (.ref r0), .val (.ref b1), .unset, .unset, .unset, .unset, .unset, .unset, .unset] [(.ref r0)]))
  refine Good.back (fun _ k => XS.astoreN X5.here hx rfl (hb hby own_d1_9) rfl rfl (l' := #[.val (.ref r0), .val (.ref b1), .val (.ref r0), .unset, .unset, .unset, .unset, .unset, .unset]) rfl k) ?_
  show Good p e below _ (T5.setTop (mkF m 10 #[.val (.ref r0), .val (.ref b1), .val (.ref r0), .unset, .unset, .unset, .unset, .unset, .unset] []))
  refine Good.back (fun _ k => XS.aloadN X5.here hx rfl (hb hby own_d1_10) rfl rfl k) ?_
  show Good p e below _ (T5.setTop (mkF m 11 #[.val (.ref r0), .val (.ref b1), .val (.ref r0), .unset, .unset, .unset, .unset, .unset, .unset] [(.ref r0)]))
  have f_9 : Arv Z h1 r0 kk .double (1 : Int32) [(.double (own_R 1 x0))] (.double (FP.l2d 0)) := Arv.ext V0 E1
  have ne_r0_b1_11 : r0 ≠ b1 := Nat.ne_of_lt (Nat.lt_of_lt_of_le V0.lt (Nat.le_of_eq g1.symm))
  have f_10 : Arv Z h5 r0 kk .double (1 : Int32) [(.double (own_R 1 x0))] (.double (FP.l2d 0)) := Arv.other f_9 W5 ne_r0_b1_11
  have fc12 := f_10
  obtain ⟨cl12, Ar12, qk12, S12, N12', H12, G12⟩ := fc12
  refine Good.back (X5.arraylength hx (by rw [e5]; exact Ar12.1) (State.isArrayOf_alike hZ.alike Ar12.2.1) (g := (mkF m 11 #[.val (.ref r0), .val (.ref b1), .val (.ref r0), .unset, .unset, .unset, .unset, .unset, .unset] [(.ref r0)])) rfl rfl (hb hby own_d1_11)) ?_
  rw [len_of S12 N12']
  show Good p e below _ (T5.setTop (mkF m 12 #[.val (.ref r0), .val (.ref b1), .val (.ref r0), .unset, .unset, .unset, .unset, .unset, .unset] [(.int (1 : Int32))]))
  refine Good.back (fun _ k => XS.istoreN X5.here hx rfl (hb hby own_d1_12) rfl (l' := #[.val (.ref r0), .val (.ref b1), .val (.ref r0), .val (.int (1 : Int32)), .unset, .unset, .unset, .unset, .unset]) rfl k) ?_
  show Good p e below _ (T5.setTop (mkF m 13 #[.val (.ref r0), .val (.ref b1), .val (.ref r0), .val (.int (1 : Int32)), .unset, .unset, .unset, .unset, .unset] []))
  refine Good.back (fun _ k => XS.iconst X5.here hx rfl (hb hby own_d1_13) k) ?_
  show Good p e below _ (T5.setTop (mkF m 14 #[.val (.ref r0), .val (.ref b1), .val (.ref r0), .val (.int (1 : Int32)), .unset, .unset, .unset, .unset, .unset] [(.int (0 : Int32))]))
  refine Good.back (fun _ k => XS.istore X5.here hx rfl (hb hby own_d1_14) rfl (l' := #[.val (.ref r0), .val (.ref b1), .val (.ref r0), .val (.int (1 : Int32)), .val (.int (0 : Int32)), .unset, .unset, .unset, .unset]) rfl k) ?_
  show Good p e below _ (T5.setTop (mkF m 16 #[.val (.ref r0), .val (.ref b1), .val (.ref r0), .val (.int (1 : Int32)), .val (.int (0 : Int32)), .unset, .unset, .unset, .unset] []))
  refine Good.back (fun _ k => XS.iload X5.here hx rfl (hb hby own_d1_16) rfl k) ?_
  show Good p e below _ (T5.setTop (mkF m 18 #[.val (.ref r0), .val (.ref b1), .val (.ref r0), .val (.int (1 : Int32)), .val (.int (0 : Int32)), .unset, .unset, .unset, .unset] [(.int (0 : Int32))]))
  refine Good.back (fun _ k => XS.iloadN X5.here hx rfl (hb hby own_d1_18) rfl k) ?_
  show Good p e below _ (T5.setTop (mkF m 19 #[.val (.ref r0), .val (.ref b1), .val (.ref r0), .val (.int (1 : Int32)), .val (.int (0 : Int32)), .unset, .unset, .unset, .unset] [(.int (1 : Int32)), (.int (0 : Int32))]))
  refine Good.back (fun _ k => XS.icmpNo X5.here hx rfl (hb hby own_d1_19) rfl (tlt (by decide : ((0 : Int32) < (1 : Int32)))).2.1 k) ?_
  show Good p e below _ (T5.setTop (mkF m 22 #[.val (.ref r0), .val (.ref b1), .val (.ref r0), .val (.int (1 : Int32)), .val (.int (0 : Int32)), .unset, .unset, .unset, .unset] []))
  refine Good.back (fun _ k => XS.aloadN X5.here hx rfl (hb hby own_d1_22) rfl rfl k) ?_
  show Good p e below _ (T5.setTop (mkF m 23 #[.val (.ref r0), .val (.ref b1), .val (.ref r0), .val (.int (1 : Int32)), .val (.int (0 : Int32)), .unset, .unset, .unset, .unset] [(.ref r0)]))
  refine Good.back (fun _ k => XS.iload X5.here hx rfl (hb hby own_d1_23) rfl k) ?_
  show Good p e below _ (T5.setTop (mkF m 25 #[.val (.ref r0), .val (.ref b1), .val (.ref r0), .val (.int (1 : Int32)), .val (.int (0 : Int32)), .unset, .unset, .unset, .unset] [(.int (0 : Int32)), (.ref r0)]))
  have fc13 := f_10
  obtain ⟨cl13, Ar13, qk13, S13, N13', H13, G13⟩ := fc13
  have hin13 : ¬ ((0 : Int32) < 0 ∨ cl13.slots.size ≤ ((0 : Int32)).toNatClampNeg) := inb_of S13 ⟨by decide, by decide⟩
  have hat13 : cl13.slots[((0 : Int32)).toNatClampNeg]? = some (.double (own_R 1 x0)) := Has.at H13 hin13 rfl
  refine Good.back (X5.daload hx (j := (0 : Int32)) (v := (.double (own_R 1 x0))) (by rw [e5]; exact Ar13.1) (State.isArrayOf_alike hZ.alike Ar13.2.1) Ar13.2.2 hin13 hat13 (g := (mkF m 25 #[.val (.ref r0), .val (.ref b1), .val (.ref r0), .val (.int (1 : Int32)), .val (.int (0 : Int32)), .unset, .unset, .unset, .unset] [(.int (0 : Int32)), (.ref r0)])) rfl rfl (hb hby own_d1_25)) ?_
  show Good p e below _ (T5.setTop (mkF m 26 #[.val (.ref r0), .val (.ref b1), .val (.ref r0), .val (.int (1 : Int32)), .val (.int (0 : Int32)), .unset, .unset, .unset, .unset] [(.double (own_R 1 x0))]))
  refine Good.back (fun _ k => XS.dstore X5.here hx rfl (hb hby own_d1_26) rfl (l' := #[.val (.ref r0), .val (.ref b1), .val (.ref r0), .val (.int (1 : Int32)), .val (.int (0 : Int32)), .val (.double (own_R 1 x0)), .second, .unset, .unset]) rfl k) ?_
  show Good p e below _ (T5.setTop (mkF m 28 #[.val (.ref r0), .val (.ref b1), .val (.ref r0), .val (.int (1 : Int32)), .val (.int (0 : Int32)), .val (.double (own_R 1 x0)), .second, .unset, .unset] []))
  refine Good.back (fun _ k => XS.aloadN X5.here hx rfl (hb hby own_d1_28) rfl rfl k) ?_
  show Good p e below _ (T5.setTop (mkF m 29 #[.val (.ref r0), .val (.ref b1), .val (.ref r0), .val (.int (1 : Int32)), .val (.int (0 : Int32)), .val (.double (own_R 1 x0)), .second, .unset, .unset] [(.ref b1)]))
  have fc14 := f_6
  obtain ⟨cl14, Ar14, qk14, S14, N14', H14, G14⟩ := fc14
  refine Good.back (X5.arraylength hx (by rw [e5]; exact Ar14.1) (State.isArrayOf_alike hZ.alike Ar14.2.1) (g := (mkF m 29 #[.val (.ref r0), .val (.ref b1), .val (.ref r0), .val (.int (1 : Int32)), .val (.int (0 : Int32)), .val (.double (own_R 1 x0)), .second, .unset, .unset] [(.ref b1)])) rfl rfl (hb hby own_d1_29)) ?_
  rw [len_of S14 N14']
  show Good p e below _ (T5.setTop (mkF m 30 #[.val (.ref r0), .val (.ref b1), .val (.ref r0), .val (.int (1 : Int32)), .val (.int (0 : Int32)), .val (.double (own_R 1 x0)), .second, .unset, .unset] [(.int (1 : Int32))]))
  refine Good.back (fun _ k => XS.iconst X5.here hx rfl (hb hby own_d1_30) k) ?_
  show Good p e below _ (T5.setTop (mkF m 31 #[.val (.ref r0), .val (.ref b1), .val (.ref r0), .val (.int (1 : Int32)), .val (.int (0 : Int32)), .val (.double (own_R 1 x0)), .second, .unset, .unset] [(.int (1 : Int32)), (.int (1 : Int32))]))
  refine Good.back (fun _ k => XS.iadd X5.here hx rfl (hb hby own_d1_31) rfl k) ?_
  show Good p e below _ (T5.setTop (mkF m 32 #[.val (.ref r0), .val (.ref b1), .val (.ref r0), .val (.int (1 : Int32)), .val (.int (0 : Int32)), .val (.double (own_R 1 x0)), .second, .unset, .unset] [(.int ((1 : Int32) + (1 : Int32)))]))
  rw [show (((1 : Int32) + (1 : Int32)) : Int32) = (2 : Int32) from by decide]
  show Good p e below _ (T5.setTop (mkF m 32 #[.val (.ref r0), .val (.ref b1), .val (.ref r0), .val (.int (1 : Int32)), .val (.int (0 : Int32)), .val (.double (own_R 1 x0)), .second, .unset, .unset] [(.int (2 : Int32))]))
  obtain ⟨T15, h15, k15, X15, e15, E15, A15, st15⟩ := newP X5 hx hZ (hw _ (List.mem_of_getElem? (i := 2) rfl)) e5 (g := (mkF m 32 #[.val (.ref r0), .val (.ref b1), .val (.ref r0), .val (.int (1 : Int32)), .val (.int (0 : Int32)), .val (.double (own_R 1 x0)), .second, .unset, .unset] [(.int (2 : Int32))])) rfl (hb hby own_d1_32) rfl (by decide) (cap := 2) (by decide) (by decide) (by decide) (by decide)
  obtain ⟨b15, g15⟩ : ∃ z, z = h5.size := ⟨_, rfl⟩
  rw [← g15] at A15 st15
  refine Good.back st15 ?_
  have g_b15 : n0 ≤ b15 := Nat.le_trans Z7 (Nat.le_of_eq g15.symm)
  have sz_b15 : h0.size ≤ b15 := Nat.le_trans K8.1 (Nat.le_of_eq g15.symm)
  have Z16 : n0 ≤ h15.size := Nat.le_trans Z7 E15.1
  have K17 : Keep h0 h15 [] := K8.ext E15
  have f_18 : Arv Z h15 b15 k15 .double (2 : Int32) [(.double (FP.l2d 0)), (.double (FP.l2d 0))] (.double (FP.l2d 0)) := (Arv.newD A15 (by decide)).pad (pad_rep [] (.double (FP.l2d 0)) 2)
  show Good p e below _ (T15.setTop (mkF m 34 #[.val (.ref r0), .val (.ref b1), .val (.ref r0), .val (.int (1 : Int32)), .val (.int (0 : Int32)), .val (.double (own_R 1 x0)), .second, .unset, .unset] [(.ref b15)]))
  refine Good.back (fun _ k => XS.astore X15.here hx rfl (hb hby own_d1_34) rfl rfl (l' := #[.val (.ref r0), .val (.ref b1), .val (.ref r0), .val (.int (1 : Int32)), .val (.int (0 : Int32)), .val (.double (own_R 1 x0)), .second, .val (.ref b15), .unset]) rfl k) ?_
  show Good p e below _ (T15.setTop (mkF m 36 #[.val (.ref r0), .val (.ref b1), .val (.ref r0), .val (.int (1 : Int32)), .val (.int (0 : Int32)), .val (.double (own_R 1 x0)), .second, .val (.ref b15), .unset] []))
  refine Good.back (fun _ k => XS.iconst X15.here hx rfl (hb hby own_d1_36) k) ?_
  show Good p e below _ (T15.setTop (mkF m 37 #[.val (.ref r0), .val (.ref b1), .val (.ref r0), .val (.int (1 : Int32)), .val (.int (0 : Int32)), .val (.double (own_R 1 x0)), .second, .val (.ref b15), .unset] [(.int (0 : Int32))]))
  refine Good.back (fun _ k => XS.istore X15.here hx rfl (hb hby own_d1_37) rfl (l' := #[.val (.ref r0), .val (.ref b1), .val (.ref r0), .val (.int (1 : Int32)), .val (.int (0 : Int32)), .val (.double (own_R 1 x0)), .second, .val (.ref b15), .val (.int (0 : Int32))]) rfl k) ?_
  show Good p e below _ (T15.setTop (mkF m 39 #[.val (.ref r0), .val (.ref b1), .val (.ref r0), .val (.int (1 : Int32)), .val (.int (0 : Int32)), .val (.double (own_R 1 x0)), .second, .val (.ref b15), .val (.int (0 : Int32))] []))
  refine Good.back (fun _ k => XS.iload X15.here hx rfl (hb hby own_d1_39) rfl k) ?_
  show Good p e below _ (T15.setTop (mkF m 41 #[.val (.ref r0), .val (.ref b1), .val (.ref r0), .val (.int (1 : Int32)), .val (.int (0 : Int32)), .val (.double (own_R 1 x0)), .second, .val (.ref b15), .val (.int (0 : Int32))] [(.int (0 : Int32))]))
  refine Good.back (fun _ k => XS.aloadN X15.here hx rfl (hb hby own_d1_41) rfl rfl k) ?_
  show Good p e below _ (T15.setTop (mkF m 42 #[.val (.ref r0), .val (.ref b1), .val (.ref r0), .val (.int (1 : Int32)), .val (.int (0 : Int32)), .val (.double (own_R 1 x0)), .second, .val (.ref b15), .val (.int (0 : Int32))] [(.ref b1), (.int (0 : Int32))]))
  have f_19 : Arv Z h15 b1 k1 .double (1 : Int32) [(.double (FP.l2d (1 : Int64)))] (.double (FP.l2d 0)) := Arv.ext f_6 E15
  have fc20 := f_19
  obtain ⟨cl20, Ar20, qk20, S20, N20', H20, G20⟩ := fc20
  refine Good.back (X15.arraylength hx (by rw [e15]; exact Ar20.1) (State.isArrayOf_alike hZ.alike Ar20.2.1) (g := (mkF m 42 #[.val (.ref r0), .val (.ref b1), .val (.ref r0), .val (.int (1 : Int32)), .val (.int (0 : Int32)), .val (.double (own_R 1 x0)), .second, .val (.ref b15), .val (.int (0 : Int32))] [(.ref b1), (.int (0 : Int32))])) rfl rfl (hb hby own_d1_42)) ?_
  rw [len_of S20 N20']
  show Good p e below _ (T15.setTop (mkF m 43 #[.val (.ref r0), .val (.ref b1), .val (.ref r0), .val (.int (1 : Int32)), .val (.int (0 : Int32)), .val (.double (own_R 1 x0)), .second, .val (.ref b15), .val (.int (0 : Int32))] [(.int (1 : Int32)), (.int (0 : Int32))]))
  refine Good.back (fun _ k => XS.icmpNo X15.here hx rfl (hb hby own_d1_43) rfl (tlt (by decide : ((0 : Int32) < (1 : Int32)))).2.1 k) ?_
  show Good p e below _ (T15.setTop (mkF m 46 #[.val (.ref r0), .val (.ref b1), .val (.ref r0), .val (.int (1 : Int32)), .val (.int (0 : Int32)), .val (.double (own_R 1 x0)), .second, .val (.ref b15), .val (.int (0 : Int32))] []))
  refine Good.back (fun _ k => XS.aload X15.here hx rfl (hb hby own_d1_46) rfl rfl k) ?_
  show Good p e below _ (T15.setTop (mkF m 48 #[.val (.ref r0), .val (.ref b1), .val (.ref r0), .val (.int (1 : Int32)), .val (.int (0 : Int32)), .val (.double (own_R 1 x0)), .second, .val (.ref b15), .val (.int (0 : Int32))] [(.ref b15)]))
  refine Good.back (fun _ k => XS.iload X15.here hx rfl (hb hby own_d1_48) rfl k) ?_
  show Good p e below _ (T15.setTop (mkF m 50 #[.val (.ref r0), .val (.ref b1), .val (.ref r0), .val (.int (1 : Int32)), .val (.int (0 : Int32)), .val (.double (own_R 1 x0)), .second, .val (.ref b15), .val (.int (0 : Int32))] [(.int (0 : Int32)), (.ref b15)]))
  refine Good.back (fun _ k => Jvm.Free.XT.dup2 X15.here hx rfl (hb hby own_d1_50) rfl rfl rfl k) ?_
  show Good p e below _ (T15.setTop (mkF m 51 #[.val (.ref r0), .val (.ref b1), .val (.ref r0), .val (.int (1 : Int32)), .val (.int (0 : Int32)), .val (.double (own_R 1 x0)), .second, .val (.ref b15), .val (.int (0 : Int32))] [(.int (0 : Int32)), (.ref b15), (.int (0 : Int32)), (.ref b15)]))
  have fc21 := f_18
  obtain ⟨cl21, Ar21, qk21, S21, N21', H21, G21⟩ := fc21
  have hin21 : ¬ ((0 : Int32) < 0 ∨ cl21.slots.size ≤ ((0 : Int32)).toNatClampNeg) := inb_of S21 ⟨by decide, by decide⟩
  have hat21 : cl21.slots[((0 : Int32)).toNatClampNeg]? = some (.double (FP.l2d 0)) := Has.at H21 hin21 rfl
  refine Good.back (X15.daload hx (j := (0 : Int32)) (v := (.double (FP.l2d 0))) (by rw [e15]; exact Ar21.1) (State.isArrayOf_alike hZ.alike Ar21.2.1) Ar21.2.2 hin21 hat21 (g := (mkF m 51 #[.val (.ref r0), .val (.ref b1), .val (.ref r0), .val (.int (1 : Int32)), .val (.int (0 : Int32)), .val (.double (own_R 1 x0)), .second, .val (.ref b15), .val (.int (0 : Int32))] [(.int (0 : Int32)), (.ref b15), (.int (0 : Int32)), (.ref b15)])) rfl rfl (hb hby own_d1_51)) ?_
  show Good p e below _ (T15.setTop (mkF m 52 #[.val (.ref r0), .val (.ref b1), .val (.ref r0), .val (.int (1 : Int32)), .val (.int (0 : Int32)), .val (.double (own_R 1 x0)), .second, .val (.ref b15), .val (.int (0 : Int32))] [(.double (FP.l2d 0)), (.int (0 : Int32)), (.ref b15)]))
  refine Good.back (fun _ k => XS.aloadN X15.here hx rfl (hb hby own_d1_52) rfl rfl k) ?_
  show Good p e below _ (T15.setTop (mkF m 53 #[.val (.ref r0), .val (.ref b1), .val (.ref r0), .val (.int (1 : Int32)), .val (.int (0 : Int32)), .val (.double (own_R 1 x0)), .second, .val (.ref b15), .val (.int (0 : Int32))] [(.ref b1), (.double (FP.l2d 0)), (.int (0 : Int32)), (.ref b15)]))
  refine Good.back (fun _ k => XS.iload X15.here hx rfl (hb hby own_d1_53) rfl k) ?_
  show Good p e below _ (T15.setTop (mkF m 55 #[.val (.ref r0), .val (.ref b1), .val (.ref r0), .val (.int (1 : Int32)), .val (.int (0 : Int32)), .val (.double (own_R 1 x0)), .second, .val (.ref b15), .val (.int (0 : Int32))] [(.int (0 : Int32)), (.ref b1), (.double (FP.l2d 0)), (.int (0 : Int32)), (.ref b15)]))
  have fc22 := f_19
  obtain ⟨cl22, Ar22, qk22, S22, N22', H22, G22⟩ := fc22
  have hin22 : ¬ ((0 : Int32) < 0 ∨ cl22.slots.size ≤ ((0 : Int32)).toNatClampNeg) := inb_of S22 ⟨by decide, by decide⟩
  have hat22 : cl22.slots[((0 : Int32)).toNatClampNeg]? = some (.double (FP.l2d (1 : Int64))) := Has.at H22 hin22 rfl
  refine Good.back (X15.daload hx (j := (0 : Int32)) (v := (.double (FP.l2d (1 : Int64)))) (by rw [e15]; exact Ar22.1) (State.isArrayOf_alike hZ.alike Ar22.2.1) Ar22.2.2 hin22 hat22 (g := (mkF m 55 #[.val (.ref r0), .val (.ref b1), .val (.ref r0), .val (.int (1 : Int32)), .val (.int (0 : Int32)), .val (.double (own_R 1 x0)), .second, .val (.ref b15), .val (.int (0 : Int32))] [(.int (0 : Int32)), (.ref b1), (.double (FP.l2d 0)), (.int (0 : Int32)), (.ref b15)])) rfl rfl (hb hby own_d1_55)) ?_
  show Good p e below _ (T15.setTop (mkF m 56 #[.val (.ref r0), .val (.ref b1), .val (.ref r0), .val (.int (1 : Int32)), .val (.int (0 : Int32)), .val (.double (own_R 1 x0)), .second, .val (.ref b15), .val (.int (0 : Int32))] [(.double (FP.l2d (1 : Int64))), (.double (FP.l2d 0)), (.int (0 : Int32)), (.ref b15)]))
  refine Good.back (fun _ k => XS.dconst1 X15.here hx rfl (hb hby own_d1_56) (v := (FP.l2d (1 : Int64))) (by decide +kernel) k) ?_
  show Good p e below _ (T15.setTop (mkF m 57 #[.val (.ref r0), .val (.ref b1), .val (.ref r0), .val (.int (1 : Int32)), .val (.int (0 : Int32)), .val (.double (own_R 1 x0)), .second, .val (.ref b15), .val (.int (0 : Int32))] [(.double (FP.l2d (1 : Int64))), (.double (FP.l2d (1 : Int64))), (.double (FP.l2d 0)), (.int (0 : Int32)), (.ref b15)]))
  refine Good.back (fun _ k => XS.dload X15.here hx rfl (hb hby own_d1_57) rfl k) ?_
  show Good p e below _ (T15.setTop (mkF m 59 #[.val (.ref r0), .val (.ref b1), .val (.ref r0), .val (.int (1 : Int32)), .val (.int (0 : Int32)), .val (.double (own_R 1 x0)), .second, .val (.ref b15), .val (.int (0 : Int32))] [(.double (own_R 1 x0)), (.double (FP.l2d (1 : Int64))), (.double (FP.l2d (1 : Int64))), (.double (FP.l2d 0)), (.int (0 : Int32)), (.ref b15)]))
  refine Good.back (fun _ k => XS.dsubS X15.here hx rfl (hb hby own_d1_59) rfl (own_Rsub hx0 ▸ own_Rnn (Nat.lt_of_le_of_lt (Nat.sub_le 16 x0) (by decide))) (own_Rsub hx0) k) ?_
  show Good p e below _ (T15.setTop (mkF m 60 #[.val (.ref r0), .val (.ref b1), .val (.ref r0), .val (.int (1 : Int32)), .val (.int (0 : Int32)), .val (.double (own_R 1 x0)), .second, .val (.ref b15), .val (.int (0 : Int32))] [(.double (own_R 1 (16 - x0))), (.double (FP.l2d (1 : Int64))), (.double (FP.l2d 0)), (.int (0 : Int32)), (.ref b15)]))
  refine Good.back (fun _ k => XS.dmulS X15.here hx rfl (hb hby own_d1_60) rfl ((own_Rmul1 (d := 1) (by decide) (Nat.lt_of_le_of_lt (Nat.sub_le 16 x0) (by decide))).symm ▸ own_Rnn (Nat.lt_of_le_of_lt (Nat.sub_le 16 x0) (by decide))) (own_Rmul1 (d := 1) (by decide) (Nat.lt_of_le_of_lt (Nat.sub_le 16 x0) (by decide))) k) ?_
  show Good p e below _ (T15.setTop (mkF m 61 #[.val (.ref r0), .val (.ref b1), .val (.ref r0), .val (.int (1 : Int32)), .val (.int (0 : Int32)), .val (.double (own_R 1 x0)), .second, .val (.ref b15), .val (.int (0 : Int32))] [(.double (own_R 1 (16 - x0))), (.double (FP.l2d 0)), (.int (0 : Int32)), (.ref b15)]))
  refine Good.back (fun _ k => XS.daddS X15.here hx rfl (hb hby own_d1_61) rfl ((own_Radd0 (Nat.lt_of_le_of_lt (Nat.sub_le 16 x0) (by decide))).symm ▸ own_Rnn (Nat.lt_of_le_of_lt (Nat.sub_le 16 x0) (by decide))) (own_Radd0 (Nat.lt_of_le_of_lt (Nat.sub_le 16 x0) (by decide))) k) ?_
  show Good p e below _ (T15.setTop (mkF m 62 #[.val (.ref r0), .val (.ref b1), .val (.ref r0), .val (.int (1 : Int32)), .val (.int (0 : Int32)), .val (.double (own_R 1 x0)), .second, .val (.ref b15), .val (.int (0 : Int32))] [(.double (own_R 1 (16 - x0))), (.int (0 : Int32)), (.ref b15)]))
  have fc23 := f_18
  obtain ⟨cl23, Ar23, qk23, S23, N23', H23, G23⟩ := fc23
  have hin23 : ¬ ((0 : Int32) < 0 ∨ cl23.slots.size ≤ ((0 : Int32)).toNatClampNeg) := inb_of S23 ⟨by decide, by decide⟩
  obtain ⟨T23, h23, X23, e23, W23, st23⟩ := stD X15 hx hZ e15 Ar23 (j := (0 : Int32)) hin23 (g := (mkF m 62 #[.val (.ref r0), .val (.ref b1), .val (.ref r0), .val (.int (1 : Int32)), .val (.int (0 : Int32)), .val (.double (own_R 1 x0)), .second, .val (.ref b15), .val (.int (0 : Int32))] [(.double (own_R 1 (16 - x0))), (.int (0 : Int32)), (.ref b15)])) rfl rfl (hb hby own_d1_62)
  refine Good.back st23 ?_
  have f_24 : Arv Z h23 b15 k15 .double (2 : Int32) [(.double (own_R 1 (16 - x0))), (.double (FP.l2d 0))] (.double (FP.l2d 0)) := Arv.set Ar23 qk23 S23 N23' H23 G23 rfl W23 0 rfl (Nat.le_of_ble_eq_true rfl)
  have N23 := Fr.snoc X23 N5 g_b15
  have Z25 : n0 ≤ h23.size := Nat.le_trans Z16 (Keep.of_wr W23).1
  have K26 : Keep h0 h23 [] := K17.wr W23 (Or.inr sz_b15)
  show Good p e below _ (T23.setTop (mkF m 63 #[.val (.ref r0), .val (.ref b1), .val (.ref r0), .val (.int (1 : Int32)), .val (.int (0 : Int32)), .val (.double (own_R 1 x0)), .second, .val (.ref b15), .val (.int (0 : Int32))] []))
  refine Good.back (fun _ k => XS.aload X23.here hx rfl (hb hby own_d1_63) rfl rfl k) ?_
  show Good p e below _ (T23.setTop (mkF m 65 #[.val (.ref r0), .val (.ref b1), .val (.ref r0), .val (.int (1 : Int32)), .val (.int (0 : Int32)), .val (.double (own_R 1 x0)), .second, .val (.ref b15), .val (.int (0 : Int32))] [(.ref b15)]))
  refine Good.back (fun _ k => XS.iload X23.here hx rfl (hb hby own_d1_65) rfl k) ?_
  show Good p e below _ (T23.setTop (mkF m 67 #[.val (.ref r0), .val (.ref b1), .val (.ref r0), .val (.int (1 : Int32)), .val (.int (0 : Int32)), .val (.double (own_R 1 x0)), .second, .val (.ref b15), .val (.int (0 : Int32))] [(.int (0 : Int32)), (.ref b15)]))
  refine Good.back (fun _ k => XS.iconst X23.here hx rfl (hb hby own_d1_67) k) ?_
  show Good p e below _ (T23.setTop (mkF m 68 #[.val (.ref r0), .val (.ref b1), .val (.ref r0), .val (.int (1 : Int32)), .val (.int (0 : Int32)), .val (.double (own_R 1 x0)), .second, .val (.ref b15), .val (.int (0 : Int32))] [(.int (1 : Int32)), (.int (0 : Int32)), (.ref b15)]))
  refine Good.back (fun _ k => XS.iadd X23.here hx rfl (hb hby own_d1_68) rfl k) ?_
  show Good p e below _ (T23.setTop (mkF m 69 #[.val (.ref r0), .val (.ref b1), .val (.ref r0), .val (.int (1 : Int32)), .val (.int (0 : Int32)), .val (.double (own_R 1 x0)), .second, .val (.ref b15), .val (.int (0 : Int32))] [(.int ((0 : Int32) + (1 : Int32))), (.ref b15)]))
  rw [show (((0 : Int32) + (1 : Int32)) : Int32) = (1 : Int32) from by decide]
  show Good p e below _ (T23.setTop (mkF m 69 #[.val (.ref r0), .val (.ref b1), .val (.ref r0), .val (.int (1 : Int32)), .val (.int (0 : Int32)), .val (.double (own_R 1 x0)), .second, .val (.ref b15), .val (.int (0 : Int32))] [(.int (1 : Int32)), (.ref b15)]))
  refine Good.back (fun _ k => Jvm.Free.XT.dup2 X23.here hx rfl (hb hby own_d1_69) rfl rfl rfl k) ?_
  show Good p e below _ (T23.setTop (mkF m 70 #[.val (.ref r0), .val (.ref b1), .val (.ref r0), .val (.int (1 : Int32)), .val (.int (0 : Int32)), .val (.double (own_R 1 x0)), .second, .val (.ref b15), .val (.int (0 : Int32))] [(.int (1 : Int32)), (.ref b15), (.int (1 : Int32)), (.ref b15)]))
  have fc27 := f_24
  obtain ⟨cl27, Ar27, qk27, S27, N27', H27, G27⟩ := fc27
  have hin27 : ¬ ((1 : Int32) < 0 ∨ cl27.slots.size ≤ ((1 : Int32)).toNatClampNeg) := inb_of S27 ⟨by decide, by decide⟩
  have hat27 : cl27.slots[((1 : Int32)).toNatClampNeg]? = some (.double (FP.l2d 0)) := Has.at H27 hin27 rfl
  refine Good.back (X23.daload hx (j := (1 : Int32)) (v := (.double (FP.l2d 0))) (by rw [e23]; exact Ar27.1) (State.isArrayOf_alike hZ.alike Ar27.2.1) Ar27.2.2 hin27 hat27 (g := (mkF m 70 #[.val (.ref r0), .val (.ref b1), .val (.ref r0), .val (.int (1 : Int32)), .val (.int (0 : Int32)), .val (.double (own_R 1 x0)), .second, .val (.ref b15), .val (.int (0 : Int32))] [(.int (1 : Int32)), (.ref b15), (.int (1 : Int32)), (.ref b15)])) rfl rfl (hb hby own_d1_70)) ?_
  show Good p e below _ (T23.setTop (mkF m 71 #[.val (.ref r0), .val (.ref b1), .val (.ref r0), .val (.int (1 : Int32)), .val (.int (0 : Int32)), .val (.double (own_R 1 x0)), .second, .val (.ref b15), .val (.int (0 : Int32))] [(.double (FP.l2d 0)), (.int (1 : Int32)), (.ref b15)]))
  refine Good.back (fun _ k => XS.aloadN X23.here hx rfl (hb hby own_d1_71) rfl rfl k) ?_
  show Good p e below _ (T23.setTop (mkF m 72 #[.val (.ref r0), .val (.ref b1), .val (.ref r0), .val (.int (1 : Int32)), .val (.int (0 : Int32)), .val (.double (own_R 1 x0)), .second, .val (.ref b15), .val (.int (0 : Int32))] [(.ref b1), (.double (FP.l2d 0)), (.int (1 : Int32)), (.ref b15)]))
  refine Good.back (fun _ k => XS.iload X23.here hx rfl (hb hby own_d1_72) rfl k) ?_
  show Good p e below _ (T23.setTop (mkF m 74 #[.val (.ref r0), .val (.ref b1), .val (.ref r0), .val (.int (1 : Int32)), .val (.int (0 : Int32)), .val (.double (own_R 1 x0)), .second, .val (.ref b15), .val (.int (0 : Int32))] [(.int (0 : Int32)), (.ref b1), (.double (FP.l2d 0)), (.int (1 : Int32)), (.ref b15)]))
  have ne_b1_b15_29 : b1 ≠ b15 := Nat.ne_of_lt (Nat.lt_of_lt_of_le f_6.lt (Nat.le_of_eq g15.symm))
  have f_28 : Arv Z h23 b1 k1 .double (1 : Int32) [(.double (FP.l2d (1 : Int64)))] (.double (FP.l2d 0)) := Arv.other f_19 W23 ne_b1_b15_29
  have fc30 := f_28
  obtain ⟨cl30, Ar30, qk30, S30, N30', H30, G30⟩ := fc30
  have hin30 : ¬ ((0 : Int32) < 0 ∨ cl30.slots.size ≤ ((0 : Int32)).toNatClampNeg) := inb_of S30 ⟨by decide, by decide⟩
  have hat30 : cl30.slots[((0 : Int32)).toNatClampNeg]? = some (.double (FP.l2d (1 : Int64))) := Has.at H30 hin30 rfl
  refine Good.back (X23.daload hx (j := (0 : Int32)) (v := (.double (FP.l2d (1 : Int64)))) (by rw [e23]; exact Ar30.1) (State.isArrayOf_alike hZ.alike Ar30.2.1) Ar30.2.2 hin30 hat30 (g := (mkF m 74 #[.val (.ref r0), .val (.ref b1), .val (.ref r0), .val (.int (1 : Int32)), .val (.int (0 : Int32)), .val (.double (own_R 1 x0)), .second, .val (.ref b15), .val (.int (0 : Int32))] [(.int (0 : Int32)), (.ref b1), (.double (FP.l2d 0)), (.int (1 : Int32)), (.ref b15)])) rfl rfl (hb hby own_d1_74)) ?_
  show Good p e below _ (T23.setTop (mkF m 75 #[.val (.ref r0), .val (.ref b1), .val (.ref r0), .val (.int (1 : Int32)), .val (.int (0 : Int32)), .val (.double (own_R 1 x0)), .second, .val (.ref b15), .val (.int (0 : Int32))] [(.double (FP.l2d (1 : Int64))), (.double (FP.l2d 0)), (.int (1 : Int32)), (.ref b15)]))
  refine Good.back (fun _ k => XS.dload X23.here hx rfl (hb hby own_d1_75) rfl k) ?_
  show Good p e below _ (T23.setTop (mkF m 77 #[.val (.ref r0), .val (.ref b1), .val (.ref r0), .val (.int (1 : Int32)), .val (.int (0 : Int32)), .val (.double (own_R 1 x0)), .second, .val (.ref b15), .val (.int (0 : Int32))] [(.double (own_R 1 x0)), (.double (FP.l2d (1 : Int64))), (.double (FP.l2d 0)), (.int (1 : Int32)), (.ref b15)]))
  refine Good.back (fun _ k => XS.dmulS X23.here hx rfl (hb hby own_d1_77) rfl ((own_Rmul1 (d := 1) (by decide) (Nat.lt_of_le_of_lt hx0 (by decide))).symm ▸ own_Rnn (Nat.lt_of_le_of_lt hx0 (by decide))) (own_Rmul1 (d := 1) (by decide) (Nat.lt_of_le_of_lt hx0 (by decide))) k) ?_
  show Good p e below _ (T23.setTop (mkF m 78 #[.val (.ref r0), .val (.ref b1), .val (.ref r0), .val (.int (1 : Int32)), .val (.int (0 : Int32)), .val (.double (own_R 1 x0)), .second, .val (.ref b15), .val (.int (0 : Int32))] [(.double (own_R 1 x0)), (.double (FP.l2d 0)), (.int (1 : Int32)), (.ref b15)]))
  refine Good.back (fun _ k => XS.daddS X23.here hx rfl (hb hby own_d1_78) rfl ((own_Radd0 (Nat.lt_of_le_of_lt hx0 (by decide))).symm ▸ own_Rnn (Nat.lt_of_le_of_lt hx0 (by decide))) (own_Radd0 (Nat.lt_of_le_of_lt hx0 (by decide))) k) ?_
  show Good p e below _ (T23.setTop (mkF m 79 #[.val (.ref r0), .val (.ref b1), .val (.ref r0), .val (.int (1 : Int32)), .val (.int (0 : Int32)), .val (.double (own_R 1 x0)), .second, .val (.ref b15), .val (.int (0 : Int32))] [(.double (own_R 1 x0)), (.int (1 : Int32)), (.ref b15)]))
  have fc31 := f_24
  obtain ⟨cl31, Ar31, qk31, S31, N31', H31, G31⟩ := fc31
  have hin31 : ¬ ((1 : Int32) < 0 ∨ cl31.slots.size ≤ ((1 : Int32)).toNatClampNeg) := inb_of S31 ⟨by decide, by decide⟩
  obtain ⟨T31, h31, X31, e31, W31, st31⟩ := stD X23 hx hZ e23 Ar31 (j := (1 : Int32)) hin31 (g := (mkF m 79 #[.val (.ref r0), .val (.ref b1), .val (.ref r0), .val (.int (1 : Int32)), .val (.int (0 : Int32)), .val (.double (own_R 1 x0)), .second, .val (.ref b15), .val (.int (0 : Int32))] [(.double (own_R 1 x0)), (.int (1 : Int32)), (.ref b15)])) rfl rfl (hb hby own_d1_79)
  refine Good.back st31 ?_
  have f_32 : Arv Z h31 b15 k15 .double (2 : Int32) [(.double (own_R 1 (16 - x0))), (.double (own_R 1 x0))] (.double (FP.l2d 0)) := Arv.set Ar31 qk31 S31 N31' H31 G31 rfl W31 1 rfl (Nat.le_of_ble_eq_true rfl)
  have N31 := Fr.snoc X31 N23 g_b15
  have Z33 : n0 ≤ h31.size := Nat.le_trans Z25 (Keep.of_wr W31).1
  have K34 : Keep h0 h31 [] := K26.wr W31 (Or.inr sz_b15)
  show Good p e below _ (T31.setTop (mkF m 80 #[.val (.ref r0), .val (.ref b1), .val (.ref r0), .val (.int (1 : Int32)), .val (.int (0 : Int32)), .val (.double (own_R 1 x0)), .second, .val (.ref b15), .val (.int (0 : Int32))] []))
  refine Good.back (fun _ k => XS.iinc X31.here hx rfl (hb hby own_d1_80) rfl (l' := #[.val (.ref r0), .val (.ref b1), .val (.ref r0), .val (.int (1 : Int32)), .val (.int (0 : Int32)), .val (.double (own_R 1 x0)), .second, .val (.ref b15), .val (.int ((0 : Int32) + (1 : Int32)))]) rfl k) ?_
  show Good p e below _ (T31.setTop (mkF m 83 #[.val (.ref r0), .val (.ref b1), .val (.ref r0), .val (.int (1 : Int32)), .val (.int (0 : Int32)), .val (.double (own_R 1 x0)), .second, .val (.ref b15), .val (.int ((0 : Int32) + (1 : Int32)))] []))
  rw [show (((0 : Int32) + (1 : Int32)) : Int32) = (1 : Int32) from by decide]
  show Good p e below _ (T31.setTop (mkF m 83 #[.val (.ref r0), .val (.ref b1), .val (.ref r0), .val (.int (1 : Int32)), .val (.int (0 : Int32)), .val (.double (own_R 1 x0)), .second, .val (.ref b15), .val (.int (1 : Int32))] []))
  refine Good.back (fun _ k => XS.goto X31.here hx rfl (pc0 := 83) (pc' := 39) rfl (hb hby own_d1_83) (by decide) (by decide) k) ?_
  show Good p e below _ (T31.setTop (mkF m 39 #[.val (.ref r0), .val (.ref b1), .val (.ref r0), .val (.int (1 : Int32)), .val (.int (0 : Int32)), .val (.double (own_R 1 x0)), .second, .val (.ref b15), .val (.int (1 : Int32))] []))
  refine Good.back (fun _ k => XS.iload X31.here hx rfl (hb hby own_d1_39) rfl k) ?_
  show Good p e below _ (T31.setTop (mkF m 41 #[.val (.ref r0), .val (.ref b1), .val (.ref r0), .val (.int (1 : Int32)), .val (.int (0 : Int32)), .val (.double (own_R 1 x0)), .second, .val (.ref b15), .val (.int (1 : Int32))] [(.int (1 : Int32))]))
  refine Good.back (fun _ k => XS.aloadN X31.here hx rfl (hb hby own_d1_41) rfl rfl k) ?_
  show Good p e below _ (T31.setTop (mkF m 42 #[.val (.ref r0), .val (.ref b1), .val (.ref r0), .val (.int (1 : Int32)), .val (.int (0 : Int32)), .val (.double (own_R 1 x0)), .second, .val (.ref b15), .val (.int (1 : Int32))] [(.ref b1), (.int (1 : Int32))]))
  have f_35 : Arv Z h31 b1 k1 .double (1 : Int32) [(.double (FP.l2d (1 : Int64)))] (.double (FP.l2d 0)) := Arv.other f_28 W31 ne_b1_b15_29
  have fc36 := f_35
  obtain ⟨cl36, Ar36, qk36, S36, N36', H36, G36⟩ := fc36
  refine Good.back (X31.arraylength hx (by rw [e31]; exact Ar36.1) (State.isArrayOf_alike hZ.alike Ar36.2.1) (g := (mkF m 42 #[.val (.ref r0), .val (.ref b1), .val (.ref r0), .val (.int (1 : Int32)), .val (.int (0 : Int32)), .val (.double (own_R 1 x0)), .second, .val (.ref b15), .val (.int (1 : Int32))] [(.ref b1), (.int (1 : Int32))])) rfl rfl (hb hby own_d1_42)) ?_
  rw [len_of S36 N36']
  show Good p e below _ (T31.setTop (mkF m 43 #[.val (.ref r0), .val (.ref b1), .val (.ref r0), .val (.int (1 : Int32)), .val (.int (0 : Int32)), .val (.double (own_R 1 x0)), .second, .val (.ref b15), .val (.int (1 : Int32))] [(.int (1 : Int32)), (.int (1 : Int32))]))
  refine Good.back (fun _ k => XS.icmpYes X31.here hx rfl (pc0 := 43) (pc' := 86) rfl (hb hby own_d1_43) rfl (flt (by decide : ¬ ((1 : Int32) < (1 : Int32)))).2.1 (by decide) (by decide) k) ?_
  show Good p e below _ (T31.setTop (mkF m 86 #[.val (.ref r0), .val (.ref b1), .val (.ref r0), .val (.int (1 : Int32)), .val (.int (0 : Int32)), .val (.double (own_R 1 x0)), .second, .val (.ref b15), .val (.int (1 : Int32))] []))
  refine Good.back (fun _ k => XS.aload X31.here hx rfl (hb hby own_d1_86) rfl rfl k) ?_
  show Good p e below _ (T31.setTop (mkF m 88 #[.val (.ref r0), .val (.ref b1), .val (.ref r0), .val (.int (1 : Int32)), .val (.int (0 : Int32)), .val (.double (own_R 1 x0)), .second, .val (.ref b15), .val (.int (1 : Int32))] [(.ref b15)]))
  refine Good.back (fun _ k => XS.astoreN X31.here hx rfl (hb hby own_d1_88) rfl rfl (l' := #[.val (.ref r0), .val (.ref b15), .val (.ref r0), .val (.int (1 : Int32)), .val (.int (0 : Int32)), .val (.double (own_R 1 x0)), .second, .val (.ref b15), .val (.int (1 : Int32))]) rfl k) ?_
  show Good p e below _ (T31.setTop (mkF m 89 #[.val (.ref r0), .val (.ref b15), .val (.ref r0), .val (.int (1 : Int32)), .val (.int (0 : Int32)), .val (.double (own_R 1 x0)), .second, .val (.ref b15), .val (.int (1 : Int32))] []))
  refine Good.back (fun _ k => XS.iinc X31.here hx rfl (hb hby own_d1_89) rfl (l' := #[.val (.ref r0), .val (.ref b15), .val (.ref r0), .val (.int (1 : Int32)), .val (.int ((0 : Int32) + (1 : Int32))), .val (.double (own_R 1 x0)), .second, .val (.ref b15), .val (.int (1 : Int32))]) rfl k) ?_
  show Good p e below _ (T31.setTop (mkF m 92 #[.val (.ref r0), .val (.ref b15), .val (.ref r0), .val (.int (1 : Int32)), .val (.int ((0 : Int32) + (1 : Int32))), .val (.double (own_R 1 x0)), .second, .val (.ref b15), .val (.int (1 : Int32))] []))
  rw [show (((0 : Int32) + (1 : Int32)) : Int32) = (1 : Int32) from by decide]
  show Good p e below _ (T31.setTop (mkF m 92 #[.val (.ref r0), .val (.ref b15), .val (.ref r0), .val (.int (1 : Int32)), .val (.int (1 : Int32)), .val (.double (own_R 1 x0)), .second, .val (.ref b15), .val (.int (1 : Int32))] []))
  refine Good.back (fun _ k => XS.goto X31.here hx rfl (pc0 := 92) (pc' := 16) rfl (hb hby own_d1_92) (by decide) (by decide) k) ?_
  show Good p e below _ (T31.setTop (mkF m 16 #[.val (.ref r0), .val (.ref b15), .val (.ref r0), .val (.int (1 : Int32)), .val (.int (1 : Int32)), .val (.double (own_R 1 x0)), .second, .val (.ref b15), .val (.int (1 : Int32))] []))
  refine Good.back (fun _ k => XS.iload X31.here hx rfl (hb hby own_d1_16) rfl k) ?_
  show Good p e below _ (T31.setTop (mkF m 18 #[.val (.ref r0), .val (.ref b15), .val (.ref r0), .val (.int (1 : Int32)), .val (.int (1 : Int32)), .val (.double (own_R 1 x0)), .second, .val (.ref b15), .val (.int (1 : Int32))] [(.int (1 : Int32))]))
  refine Good.back (fun _ k => XS.iloadN X31.here hx rfl (hb hby own_d1_18) rfl k) ?_
  show Good p e below _ (T31.setTop (mkF m 19 #[.val (.ref r0), .val (.ref b15), .val (.ref r0), .val (.int (1 : Int32)), .val (.int (1 : Int32)), .val (.double (own_R 1 x0)), .second, .val (.ref b15), .val (.int (1 : Int32))] [(.int (1 : Int32)), (.int (1 : Int32))]))
  refine Good.back (fun _ k => XS.icmpYes X31.here hx rfl (pc0 := 19) (pc' := 95) rfl (hb hby own_d1_19) rfl (flt (by decide : ¬ ((1 : Int32) < (1 : Int32)))).2.1 (by decide) (by decide) k) ?_
  show Good p e below _ (T31.setTop (mkF m 95 #[.val (.ref r0), .val (.ref b15), .val (.ref r0), .val (.int (1 : Int32)), .val (.int (1 : Int32)), .val (.double (own_R 1 x0)), .second, .val (.ref b15), .val (.int (1 : Int32))] []))
  refine Good.back (fun _ k => XS.aloadN X31.here hx rfl (hb hby own_d1_95) rfl rfl k) ?_
  show Good p e below _ (T31.setTop (mkF m 96 #[.val (.ref r0), .val (.ref b15), .val (.ref r0), .val (.int (1 : Int32)), .val (.int (1 : Int32)), .val (.double (own_R 1 x0)), .second, .val (.ref b15), .val (.int (1 : Int32))] [(.ref r0)]))
  have f_37 : Arv Z h15 r0 kk .double (1 : Int32) [(.double (own_R 1 x0))] (.double (FP.l2d 0)) := Arv.ext f_10 E15
  have ne_r0_b15_39 : r0 ≠ b15 := Nat.ne_of_lt (Nat.lt_of_lt_of_le f_10.lt (Nat.le_of_eq g15.symm))
  have f_38 : Arv Z h23 r0 kk .double (1 : Int32) [(.double (own_R 1 x0))] (.double (FP.l2d 0)) := Arv.other f_37 W23 ne_r0_b15_39
  have f_40 : Arv Z h31 r0 kk .double (1 : Int32) [(.double (own_R 1 x0))] (.double (FP.l2d 0)) := Arv.other f_38 W31 ne_r0_b15_39
  have fc41 := f_40
  obtain ⟨cl41, Ar41, qk41, S41, N41', H41, G41⟩ := fc41
  refine Good.back (X31.arraylength hx (by rw [e31]; exact Ar41.1) (State.isArrayOf_alike hZ.alike Ar41.2.1) (g := (mkF m 96 #[.val (.ref r0), .val (.ref b15), .val (.ref r0), .val (.int (1 : Int32)), .val (.int (1 : Int32)), .val (.double (own_R 1 x0)), .second, .val (.ref b15), .val (.int (1 : Int32))] [(.ref r0)])) rfl rfl (hb hby own_d1_96)) ?_
  rw [len_of S41 N41']
  show Good p e below _ (T31.setTop (mkF m 97 #[.val (.ref r0), .val (.ref b15), .val (.ref r0), .val (.int (1 : Int32)), .val (.int (1 : Int32)), .val (.double (own_R 1 x0)), .second, .val (.ref b15), .val (.int (1 : Int32))] [(.int (1 : Int32))]))
  refine Good.back (fun _ k => XS.istoreN X31.here hx rfl (hb hby own_d1_97) rfl (l' := #[.val (.ref r0), .val (.ref b15), .val (.int (1 : Int32)), .val (.int (1 : Int32)), .val (.int (1 : Int32)), .val (.double (own_R 1 x0)), .second, .val (.ref b15), .val (.int (1 : Int32))]) rfl k) ?_
  show Good p e below _ (T31.setTop (mkF m 98 #[.val (.ref r0), .val (.ref b15), .val (.int (1 : Int32)), .val (.int (1 : Int32)), .val (.int (1 : Int32)), .val (.double (own_R 1 x0)), .second, .val (.ref b15), .val (.int (1 : Int32))] []))
  refine Good.back (fun _ k => XS.dconst0 X31.here hx rfl (hb hby own_d1_98) (v := (FP.l2d (0 : Int64))) (by decide +kernel) k) ?_
  show Good p e below _ (T31.setTop (mkF m 99 #[.val (.ref r0), .val (.ref b15), .val (.int (1 : Int32)), .val (.int (1 : Int32)), .val (.int (1 : Int32)), .val (.double (own_R 1 x0)), .second, .val (.ref b15), .val (.int (1 : Int32))] [(.double (FP.l2d (0 : Int64)))]))
  refine Good.back (fun _ k => XS.dstoreN X31.here hx rfl (hb hby own_d1_99) rfl (l' := #[.val (.ref r0), .val (.ref b15), .val (.int (1 : Int32)), .val (.double (FP.l2d (0 : Int64))), .second, .val (.double (own_R 1 x0)), .second, .val (.ref b15), .val (.int (1 : Int32))]) rfl k) ?_
  show Good p e below _ (T31.setTop (mkF m 100 #[.val (.ref r0), .val (.ref b15), .val (.int (1 : Int32)), .val (.double (FP.l2d (0 : Int64))), .second, .val (.double (own_R 1 x0)), .second, .val (.ref b15), .val (.int (1 : Int32))] []))
  refine Good.back (fun _ k => XS.aloadN X31.here hx rfl (hb hby own_d1_100) rfl rfl k) ?_
  show Good p e below _ (T31.setTop (mkF m 101 #[.val (.ref r0), .val (.ref b15), .val (.int (1 : Int32)), .val (.double (FP.l2d (0 : Int64))), .second, .val (.double (own_R 1 x0)), .second, .val (.ref b15), .val (.int (1 : Int32))] [(.ref r0)]))
  have fc42 := f_40
  obtain ⟨cl42, Ar42, qk42, S42, N42', H42, G42⟩ := fc42
  refine Good.back (X31.arraylength hx (by rw [e31]; exact Ar42.1) (State.isArrayOf_alike hZ.alike Ar42.2.1) (g := (mkF m 101 #[.val (.ref r0), .val (.ref b15), .val (.int (1 : Int32)), .val (.double (FP.l2d (0 : Int64))), .second, .val (.double (own_R 1 x0)), .second, .val (.ref b15), .val (.int (1 : Int32))] [(.ref r0)])) rfl rfl (hb hby own_d1_101)) ?_
  rw [len_of S42 N42']
  show Good p e below _ (T31.setTop (mkF m 102 #[.val (.ref r0), .val (.ref b15), .val (.int (1 : Int32)), .val (.double (FP.l2d (0 : Int64))), .second, .val (.double (own_R 1 x0)), .second, .val (.ref b15), .val (.int (1 : Int32))] [(.int (1 : Int32))]))
  refine Good.back (fun _ k => XS.istore X31.here hx rfl (hb hby own_d1_102) rfl (l' := #[.val (.ref r0), .val (.ref b15), .val (.int (1 : Int32)), .val (.double (FP.l2d (0 : Int64))), .second, .val (.int (1 : Int32)), .unset, .val (.ref b15), .val (.int (1 : Int32))]) rfl k) ?_
  show Good p e below _ (T31.setTop (mkF m 104 #[.val (.ref r0), .val (.ref b15), .val (.int (1 : Int32)), .val (.double (FP.l2d (0 : Int64))), .second, .val (.int (1 : Int32)), .unset, .val (.ref b15), .val (.int (1 : Int32))] []))
  refine Good.back (fun _ k => XS.iload X31.here hx rfl (hb hby own_d1_104) rfl k) ?_
  show Good p e below _ (T31.setTop (mkF m 106 #[.val (.ref r0), .val (.ref b15), .val (.int (1 : Int32)), .val (.double (FP.l2d (0 : Int64))), .second, .val (.int (1 : Int32)), .unset, .val (.ref b15), .val (.int (1 : Int32))] [(.int (1 : Int32))]))
  refine Good.back (fun _ k => XS.iconst X31.here hx rfl (hb hby own_d1_106) k) ?_
  show Good p e below _ (T31.setTop (mkF m 107 #[.val (.ref r0), .val (.ref b15), .val (.int (1 : Int32)), .val (.double (FP.l2d (0 : Int64))), .second, .val (.int (1 : Int32)), .unset, .val (.ref b15), .val (.int (1 : Int32))] [(.int (1 : Int32)), (.int (1 : Int32))]))
  refine Good.back (fun _ k => XS.icmpNo X31.here hx rfl (hb hby own_d1_107) rfl (flt (by decide : ¬ ((1 : Int32) < (1 : Int32)))).1 k) ?_
  show Good p e below _ (T31.setTop (mkF m 110 #[.val (.ref r0), .val (.ref b15), .val (.int (1 : Int32)), .val (.double (FP.l2d (0 : Int64))), .second, .val (.int (1 : Int32)), .unset, .val (.ref b15), .val (.int (1 : Int32))] []))
  refine Good.back (fun _ k => XS.dloadN X31.here hx rfl (hb hby own_d1_110) rfl k) ?_
  show Good p e below _ (T31.setTop (mkF m 111 #[.val (.ref r0), .val (.ref b15), .val (.int (1 : Int32)), .val (.double (FP.l2d (0 : Int64))), .second, .val (.int (1 : Int32)), .unset, .val (.ref b15), .val (.int (1 : Int32))] [(.double (FP.l2d (0 : Int64)))]))
  refine Good.back (fun _ k => XS.aloadN X31.here hx rfl (hb hby own_d1_111) rfl rfl k) ?_
  show Good p e below _ (T31.setTop (mkF m 112 #[.val (.ref r0), .val (.ref b15), .val (.int (1 : Int32)), .val (.double (FP.l2d (0 : Int64))), .second, .val (.int (1 : Int32)), .unset, .val (.ref b15), .val (.int (1 : Int32))] [(.ref b15), (.double (FP.l2d (0 : Int64)))]))
  refine Good.back (fun _ k => XS.iload X31.here hx rfl (hb hby own_d1_112) rfl k) ?_
  show Good p e below _ (T31.setTop (mkF m 114 #[.val (.ref r0), .val (.ref b15), .val (.int (1 : Int32)), .val (.double (FP.l2d (0 : Int64))), .second, .val (.int (1 : Int32)), .unset, .val (.ref b15), .val (.int (1 : Int32))] [(.int (1 : Int32)), (.ref b15), (.double (FP.l2d (0 : Int64)))]))
  have fc43 := f_32
  obtain ⟨cl43, Ar43, qk43, S43, N43', H43, G43⟩ := fc43
  have hin43 : ¬ ((1 : Int32) < 0 ∨ cl43.slots.size ≤ ((1 : Int32)).toNatClampNeg) := inb_of S43 ⟨by decide, by decide⟩
  have hat43 : cl43.slots[((1 : Int32)).toNatClampNeg]? = some (.double (own_R 1 x0)) := Has.at H43 hin43 rfl
  refine Good.back (X31.daload hx (j := (1 : Int32)) (v := (.double (own_R 1 x0))) (by rw [e31]; exact Ar43.1) (State.isArrayOf_alike hZ.alike Ar43.2.1) Ar43.2.2 hin43 hat43 (g := (mkF m 114 #[.val (.ref r0), .val (.ref b15), .val (.int (1 : Int32)), .val (.double (FP.l2d (0 : Int64))), .second, .val (.int (1 : Int32)), .unset, .val (.ref b15), .val (.int (1 : Int32))] [(.int (1 : Int32)), (.ref b15), (.double (FP.l2d (0 : Int64)))])) rfl rfl (hb hby own_d1_114)) ?_
  show Good p e below _ (T31.setTop (mkF m 115 #[.val (.ref r0), .val (.ref b15), .val (.int (1 : Int32)), .val (.double (FP.l2d (0 : Int64))), .second, .val (.int (1 : Int32)), .unset, .val (.ref b15), .val (.int (1 : Int32))] [(.double (own_R 1 x0)), (.double (FP.l2d (0 : Int64)))]))
  refine Good.back (fun _ k => XS.daddS X31.here hx rfl (hb hby own_d1_115) rfl ((own_Radd0 (Nat.lt_of_le_of_lt hx0 (by decide))).symm ▸ own_Rnn (Nat.lt_of_le_of_lt hx0 (by decide))) (own_Radd0 (Nat.lt_of_le_of_lt hx0 (by decide))) k) ?_
  show Good p e below _ (T31.setTop (mkF m 116 #[.val (.ref r0), .val (.ref b15), .val (.int (1 : Int32)), .val (.double (FP.l2d (0 : Int64))), .second, .val (.int (1 : Int32)), .unset, .val (.ref b15), .val (.int (1 : Int32))] [(.double (own_R 1 x0))]))
  refine Good.back (fun _ k => XS.dstoreN X31.here hx rfl (hb hby own_d1_116) rfl (l' := #[.val (.ref r0), .val (.ref b15), .val (.int (1 : Int32)), .val (.double (own_R 1 x0)), .second, .val (.int (1 : Int32)), .unset, .val (.ref b15), .val (.int (1 : Int32))]) rfl k) ?_
  show Good p e below _ (T31.setTop (mkF m 117 #[.val (.ref r0), .val (.ref b15), .val (.int (1 : Int32)), .val (.double (own_R 1 x0)), .second, .val (.int (1 : Int32)), .unset, .val (.ref b15), .val (.int (1 : Int32))] []))
  refine Good.back (fun _ k => XS.dloadN X31.here hx rfl (hb hby own_d1_117) rfl k) ?_
  show Good p e below _ (T31.setTop (mkF m 118 #[.val (.ref r0), .val (.ref b15), .val (.int (1 : Int32)), .val (.double (own_R 1 x0)), .second, .val (.int (1 : Int32)), .unset, .val (.ref b15), .val (.int (1 : Int32))] [(.double (own_R 1 x0))]))
  refine Good.back (X31.ldc2DoubleC hx hown (mvT hZ (hw _ (List.mem_of_getElem? (i := 7) rfl))) (g := (mkF m 118 #[.val (.ref r0), .val (.ref b15), .val (.int (1 : Int32)), .val (.double (own_R 1 x0)), .second, .val (.int (1 : Int32)), .unset, .val (.ref b15), .val (.int (1 : Int32))] [(.double (own_R 1 x0))])) rfl (hb hby own_d1_118)) ?_
  show Good p e below _ (T31.setTop (mkF m 121 #[.val (.ref r0), .val (.ref b15), .val (.int (1 : Int32)), .val (.double (own_R 1 x0)), .second, .val (.int (1 : Int32)), .unset, .val (.ref b15), .val (.int (1 : Int32))] [(.double (4587366580439587226 : UInt64)), (.double (own_R 1 x0))]))
  refine Good.back (fun _ k => XS.dcmpS X31.here hx rfl (hb hby own_d1_121) rfl (v := (if 20 * x0 < 16 ^ 1 then (-1 : Int32) else (1 : Int32))) (own_Rcmp (by decide) (Nat.lt_of_le_of_lt hx0 (by decide))) k) ?_
  show Good p e below _ (T31.setTop (mkF m 122 #[.val (.ref r0), .val (.ref b15), .val (.int (1 : Int32)), .val (.double (own_R 1 x0)), .second, .val (.int (1 : Int32)), .unset, .val (.ref b15), .val (.int (1 : Int32))] [(.int (if 20 * x0 < 16 ^ 1 then (-1 : Int32) else (1 : Int32)))]))
  by_cases hq1_44 : 20 * x0 < 16 ^ 1
  · rw [if_pos hq1_44]
    show Good p e below _ (T31.setTop (mkF m 122 #[.val (.ref r0), .val (.ref b15), .val (.int (1 : Int32)), .val (.double (own_R 1 x0)), .second, .val (.int (1 : Int32)), .unset, .val (.ref b15), .val (.int (1 : Int32))] [(.int (-1 : Int32))]))
    refine Good.back (fun _ k => XS.ifNo X31.here hx rfl (hb hby own_d1_122) rfl ((if0 _ _).trans (tlt (by decide : ((-1 : Int32) < (0 : Int32)))).2.1) k) ?_
    show Good p e below _ (T31.setTop (mkF m 125 #[.val (.ref r0), .val (.ref b15), .val (.int (1 : Int32)), .val (.double (own_R 1 x0)), .second, .val (.int (1 : Int32)), .unset, .val (.ref b15), .val (.int (1 : Int32))] []))
    refine Good.back (fun _ k => XS.iload X31.here hx rfl (hb hby own_d1_125) rfl k) ?_
    show Good p e below _ (T31.setTop (mkF m 127 #[.val (.ref r0), .val (.ref b15), .val (.int (1 : Int32)), .val (.double (own_R 1 x0)), .second, .val (.int (1 : Int32)), .unset, .val (.ref b15), .val (.int (1 : Int32))] [(.int (1 : Int32))]))
    refine Good.back (fun _ k => XS.istoreN X31.here hx rfl (hb hby own_d1_127) rfl (l' := #[.val (.ref r0), .val (.ref b15), .val (.int (1 : Int32)), .val (.double (own_R 1 x0)), .second, .val (.int (1 : Int32)), .unset, .val (.ref b15), .val (.int (1 : Int32))]) rfl k) ?_
    show Good p e below _ (T31.setTop (mkF m 128 #[.val (.ref r0), .val (.ref b15), .val (.int (1 : Int32)), .val (.double (own_R 1 x0)), .second, .val (.int (1 : Int32)), .unset, .val (.ref b15), .val (.int (1 : Int32))] []))
    refine Good.back (fun _ k => XS.iinc X31.here hx rfl (hb hby own_d1_128) rfl (l' := #[.val (.ref r0), .val (.ref b15), .val (.int (1 : Int32)), .val (.double (own_R 1 x0)), .second, .val (.int ((1 : Int32) + (-1 : Int32))), .unset, .val (.ref b15), .val (.int (1 : Int32))]) rfl k) ?_
    show Good p e below _ (T31.setTop (mkF m 131 #[.val (.ref r0), .val (.ref b15), .val (.int (1 : Int32)), .val (.double (own_R 1 x0)), .second, .val (.int ((1 : Int32) + (-1 : Int32))), .unset, .val (.ref b15), .val (.int (1 : Int32))] []))
    rw [show (((1 : Int32) + (-1 : Int32)) : Int32) = (0 : Int32) from by decide]
    show Good p e below _ (T31.setTop (mkF m 131 #[.val (.ref r0), .val (.ref b15), .val (.int (1 : Int32)), .val (.double (own_R 1 x0)), .second, .val (.int (0 : Int32)), .unset, .val (.ref b15), .val (.int (1 : Int32))] []))
    refine Good.back (fun _ k => XS.goto X31.here hx rfl (pc0 := 131) (pc' := 104) rfl (hb hby own_d1_131) (by decide) (by decide) k) ?_
    show Good p e below _ (T31.setTop (mkF m 104 #[.val (.ref r0), .val (.ref b15), .val (.int (1 : Int32)), .val (.double (own_R 1 x0)), .second, .val (.int (0 : Int32)), .unset, .val (.ref b15), .val (.int (1 : Int32))] []))
    refine Good.back (fun _ k => XS.iload X31.here hx rfl (hb hby own_d1_104) rfl k) ?_
    show Good p e below _ (T31.setTop (mkF m 106 #[.val (.ref r0), .val (.ref b15), .val (.int (1 : Int32)), .val (.double (own_R 1 x0)), .second, .val (.int (0 : Int32)), .unset, .val (.ref b15), .val (.int (1 : Int32))] [(.int (0 : Int32))]))
    refine Good.back (fun _ k => XS.iconst X31.here hx rfl (hb hby own_d1_106) k) ?_
    show Good p e below _ (T31.setTop (mkF m 107 #[.val (.ref r0), .val (.ref b15), .val (.int (1 : Int32)), .val (.double (own_R 1 x0)), .second, .val (.int (0 : Int32)), .unset, .val (.ref b15), .val (.int (1 : Int32))] [(.int (1 : Int32)), (.int (0 : Int32))]))
    refine Good.back (fun _ k => XS.icmpYes X31.here hx rfl (pc0 := 107) (pc' := 134) rfl (hb hby own_d1_107) rfl (tlt (by decide : ((0 : Int32) < (1 : Int32)))).1 (by decide) (by decide) k) ?_
    show Good p e below _ (T31.setTop (mkF m 134 #[.val (.ref r0), .val (.ref b15), .val (.int (1 : Int32)), .val (.double (own_R 1 x0)), .second, .val (.int (0 : Int32)), .unset, .val (.ref b15), .val (.int (1 : Int32))] []))
    refine Good.back (fun _ k => XS.iloadN X31.here hx rfl (hb hby own_d1_134) rfl k) ?_
    show Good p e below _ (T31.setTop (mkF m 135 #[.val (.ref r0), .val (.ref b15), .val (.int (1 : Int32)), .val (.double (own_R 1 x0)), .second, .val (.int (0 : Int32)), .unset, .val (.ref b15), .val (.int (1 : Int32))] [(.int (1 : Int32))]))
    obtain ⟨fs45, hr45, hrun45, hended45, hW45, hsame45⟩ := X31.leave (v := some (.int (1 : Int32))) (fun h => by rw [Bd.returns] at h; cases h)
    refine Good.done (retI X31 hx Bd.returns (hb hby own_d1_135) hr45) hrun45 hended45 ⟨_, _, rfl, ?_, ⟨_, rfl⟩, hW45, hsame45.mono (by decide) (by decide)⟩
    show Q1_1 Z r0 kk x0 h0 n0 _ T31.heap _
    rw [e31]
    exact ⟨rfl, N31, K34⟩
  · rw [if_neg hq1_44]
    show Good p e below _ (T31.setTop (mkF m 122 #[.val (.ref r0), .val (.ref b15), .val (.int (1 : Int32)), .val (.double (own_R 1 x0)), .second, .val (.int (1 : Int32)), .unset, .val (.ref b15), .val (.int (1 : Int32))] [(.int (1 : Int32))]))
    refine Good.back (fun _ k => XS.ifYes X31.here hx rfl (pc0 := 122) (pc' := 128) rfl (hb hby own_d1_122) rfl ((if0 _ _).trans (flt (by decide : ¬ ((1 : Int32) < (0 : Int32)))).2.1) (by decide) (by decide) k) ?_
    show Good p e below _ (T31.setTop (mkF m 128 #[.val (.ref r0), .val (.ref b15), .val (.int (1 : Int32)), .val (.double (own_R 1 x0)), .second, .val (.int (1 : Int32)), .unset, .val (.ref b15), .val (.int (1 : Int32))] []))
    refine Good.back (fun _ k => XS.iinc X31.here hx rfl (hb hby own_d1_128) rfl (l' := #[.val (.ref r0), .val (.ref b15), .val (.int (1 : Int32)), .val (.double (own_R 1 x0)), .second, .val (.int ((1 : Int32) + (-1 : Int32))), .unset, .val (.ref b15), .val (.int (1 : Int32))]) rfl k) ?_
    show Good p e below _ (T31.setTop (mkF m 131 #[.val (.ref r0), .val (.ref b15), .val (.int (1 : Int32)), .val (.double (own_R 1 x0)), .second, .val (.int ((1 : Int32) + (-1 : Int32))), .unset, .val (.ref b15), .val (.int (1 : Int32))] []))
    rw [show (((1 : Int32) + (-1 : Int32)) : Int32) = (0 : Int32) from by decide]
    show Good p e below _ (T31.setTop (mkF m 131 #[.val (.ref r0), .val (.ref b15), .val (.int (1 : Int32)), .val (.double (own_R 1 x0)), .second, .val (.int (0 : Int32)), .unset, .val (.ref b15), .val (.int (1 : Int32))] []))
    refine Good.back (fun _ k => XS.goto X31.here hx rfl (pc0 := 131) (pc' := 104) rfl (hb hby own_d1_131) (by decide) (by decide) k) ?_
    show Good p e below _ (T31.setTop (mkF m 104 #[.val (.ref r0), .val (.ref b15), .val (.int (1 : Int32)), .val (.double (own_R 1 x0)), .second, .val (.int (0 : Int32)), .unset, .val (.ref b15), .val (.int (1 : Int32))] []))
    refine Good.back (fun _ k => XS.iload X31.here hx rfl (hb hby own_d1_104) rfl k) ?_
    show Good p e below _ (T31.setTop (mkF m 106 #[.val (.ref r0), .val (.ref b15), .val (.int (1 : Int32)), .val (.double (own_R 1 x0)), .second, .val (.int (0 : Int32)), .unset, .val (.ref b15), .val (.int (1 : Int32))] [(.int (0 : Int32))]))
    refine Good.back (fun _ k => XS.iconst X31.here hx rfl (hb hby own_d1_106) k) ?_
    show Good p e below _ (T31.setTop (mkF m 107 #[.val (.ref r0), .val (.ref b15), .val (.int (1 : Int32)), .val (.double (own_R 1 x0)), .second, .val (.int (0 : Int32)), .unset, .val (.ref b15), .val (.int (1 : Int32))] [(.int (1 : Int32)), (.int (0 : Int32))]))
    refine Good.back (fun _ k => XS.icmpYes X31.here hx rfl (pc0 := 107) (pc' := 134) rfl (hb hby own_d1_107) rfl (tlt (by decide : ((0 : Int32) < (1 : Int32)))).1 (by decide) (by decide) k) ?_
    show Good p e below _ (T31.setTop (mkF m 134 #[.val (.ref r0), .val (.ref b15), .val (.int (1 : Int32)), .val (.double (own_R 1 x0)), .second, .val (.int (0 : Int32)), .unset, .val (.ref b15), .val (.int (1 : Int32))] []))
    refine Good.back (fun _ k => XS.iloadN X31.here hx rfl (hb hby own_d1_134) rfl k) ?_
    show Good p e below _ (T31.setTop (mkF m 135 #[.val (.ref r0), .val (.ref b15), .val (.int (1 : Int32)), .val (.double (own_R 1 x0)), .second, .val (.int (0 : Int32)), .unset, .val (.ref b15), .val (.int (1 : Int32))] [(.int (1 : Int32))]))
    obtain ⟨fs46, hr46, hrun46, hended46, hW46, hsame46⟩ := X31.leave (v := some (.int (1 : Int32))) (fun h => by rw [Bd.returns] at h; cases h)
    refine Good.done (retI X31 hx Bd.returns (hb hby own_d1_135) hr46) hrun46 hended46 ⟨_, _, rfl, ?_, ⟨_, rfl⟩, hW46, hsame46.mono (by decide) (by decide)⟩
    show Q1_1 Z r0 kk x0 h0 n0 _ T31.heap _
    rw [e31]
    exact ⟨rfl, N31, K34⟩
theorem own_ef_1_2 (m : MethodId) (x0 : Addr) : entryFrame m #[(.ref x0)] 9 = mkF m 0 #[.val (.ref x0), .unset, .unset, .unset, .unset, .unset, .unset, .unset, .unset] [] := by first | (simp [entryFrame, mkF, argsToLocals, Value.category]; done) | rfl
def Q1_2 (Z : State) (r0 : Addr) (kk : ClassId) (x0 : Nat) (x1 : Nat) (h0 : Heap) (n0 : Nat) (v : Option Value) (h : Heap) (L : List Loc) : Prop := v = some (.int (if 20 * ((x0 * x1) + (((16 - x0) * x1) + (x0 * (16 - x1)))) < 16 ^ 2 then (1 : Int32) else (2 : Int32))) ∧ Fr n0 L ∧ Keep h0 h []
set_option maxRecDepth 65536 in
set_option maxHeartbeats 40000000 in
theorem rm1_2 (l : Launch) (Z : State) (a0 : Array Value) (hw : ∀ d ∈ tables_1, d.before a0 Z = true) (ws : List Jvm.Cond) (r0 : Addr) (kk : ClassId) (x0 : Nat) (x1 : Nat) (h0 : Heap) (n0 : Nat) (Z0 : n0 ≤ h0.size) (V0 : Arv Z h0 r0 kk .double (2 : Int32) [(.double (own_R 1 x0)), (.double (own_R 1 x1))] (.double (FP.l2d 0))) (hx0 : x0 ≤ 16) (hx1 : x1 ≤ 16) :
    MetFree l (⟨"com/example/fradno/fradno/core/Consensus", "leastCount", "([D)I"⟩ : MethodName) (head1 (Jvm.Cond.code (⟨"com/example/fradno/fradno/core/Consensus", "leastCount", "([D)I"⟩ : MethodName) prog_43_method_5_code 9 (some .int) :: ws) ({ frames := 0, cells := 3, slots := 6, locals := 0 } : Room)) (fun a U => a = #[(.ref r0)] ∧ Z.Warmed39 U.vm ∧ U.heap = h0) (fun _ _ _ _ _ => True) (fun _ U o U' => ∃ v L, o = .returned v ∧ Q1_2 Z r0 kk x0 x1 h0 n0 v U'.heap L ∧ FrameEnd U o U' L ({ frames := 0, cells := 3, slots := 6, locals := 0 } : Room).cells ({ frames := 0, cells := 3, slots := 6, locals := 0 } : Room).slots) := by
  refine MetFree.of_bodySF (plainFor_of_name own_pn0) hisR ?_
  intro p e s m args below meth c s₁ Bd hml0 hP hK
  obtain ⟨rfl, hZ, hh⟩ := hP
  have hx := Bd.exec
  have hby := Bd.bytes
  have hml : c.maxLocals = 9 := hml0
  have hown : s.vm.findClass "com/example/fradno/fradno/core/Consensus" = some m.cls := findClass_of_methodNamed Bd.named
  have hnm := (name_of_methodNamed Bd.named Bd.method).1
  have X0 : Stand p l e ({ frames := 0, cells := 3, slots := 6, locals := 0 } : Room) s m #[(.ref r0)] below meth c s₁ [] 0 0 := Stand.of_body Bd
  have e0 : s₁.heap = h0 := by rw [← hh, Bd.state]; rfl
  have N0 := Fr.nil n0
  have KR : Keep h0 h0 [] := Keep.refl h0 _
  show Good p e below (fun o U' => ∃ v L, o = .returned v ∧ Q1_2 Z r0 kk x0 x1 h0 n0 v U'.heap L ∧ FrameEnd s o U' L ({ frames := 0, cells := 3, slots := 6, locals := 0 } : Room).cells ({ frames := 0, cells := 3, slots := 6, locals := 0 } : Room).slots) _
  refine Good.back (S' := s₁.setTop (mkF m 0 #[.val (.ref r0), .unset, .unset, .unset, .unset, .unset, .unset, .unset, .unset] [])) (fun t k => castTop (own_ef_1_2 m r0) k) ?_
  show Good p e below _ (s₁.setTop (mkF m 0 #[.val (.ref r0), .unset, .unset, .unset, .unset, .unset, .unset, .unset, .unset] []))
  refine Good.back (fun _ k => XS.iconst X0.here hx rfl (hb hby own_d1_0) k) ?_
  show Good p e below _ (s₁.setTop (mkF m 1 #[.val (.ref r0), .unset, .unset, .unset, .unset, .unset, .unset, .unset, .unset] [(.int (1 : Int32))]))
  obtain ⟨T1, h1, k1, X1, e1, E1, A1, st1⟩ := newP X0 hx hZ (hw _ (List.mem_of_getElem? (i := 2) rfl)) e0 (g := (mkF m 1 #[.val (.ref r0), .unset, .unset, .unset, .unset, .unset, .unset, .unset, .unset] [(.int (1 : Int32))])) rfl (hb hby own_d1_1) rfl (by decide) (cap := 1) (by decide) (by decide) (by decide) (by decide)
  obtain ⟨b1, g1⟩ : ∃ z, z = h0.size := ⟨_, rfl⟩
  rw [← g1] at A1 st1
  refine Good.back st1 ?_
  have g_b1 : n0 ≤ b1 := Nat.le_trans Z0 (Nat.le_of_eq g1.symm)
  have sz_b1 : h0.size ≤ b1 := Nat.le_trans KR.1 (Nat.le_of_eq g1.symm)
  have Z2 : n0 ≤ h1.size := Nat.le_trans Z0 E1.1
  have K3 : Keep h0 h1 [] := KR.ext E1
  have f_4 : Arv Z h1 b1 k1 .double (1 : Int32) [(.double (FP.l2d 0))] (.double (FP.l2d 0)) := (Arv.newD A1 (by decide)).pad (pad_rep [] (.double (FP.l2d 0)) 1)
  show Good p e below _ (T1.setTop (mkF m 3 #[.val (.ref r0), .unset, .unset, .unset, .unset, .unset, .unset, .unset, .unset] [(.ref b1)]))
  refine Good.back (fun _ k => XS.dup X1.here hx rfl (hb hby own_d1_3) rfl rfl k) ?_
  show Good p e below _ (T1.setTop (mkF m 4 #[.val (.ref r0), .unset, .unset, .unset, .unset, .unset, .unset, .unset, .unset] [(.ref b1), (.ref b1)]))
  refine Good.back (fun _ k => XS.iconst X1.here hx rfl (hb hby own_d1_4) k) ?_
  show Good p e below _ (T1.setTop (mkF m 5 #[.val (.ref r0), .unset, .unset, .unset, .unset, .unset, .unset, .unset, .unset] [(.int (0 : Int32)), (.ref b1), (.ref b1)]))
  refine Good.back (fun _ k => XS.dconst1 X1.here hx rfl (hb hby own_d1_5) (v := (FP.l2d (1 : Int64))) (by decide +kernel) k) ?_
  show Good p e below _ (T1.setTop (mkF m 6 #[.val (.ref r0), .unset, .unset, .unset, .unset, .unset, .unset, .unset, .unset] [(.double (FP.l2d (1 : Int64))), (.int (0 : Int32)), (.ref b1), (.ref b1)]))
  have fc5 := f_4
  obtain ⟨cl5, Ar5, qk5, S5, N5', H5, G5⟩ := fc5
  have hin5 : ¬ ((0 : Int32) < 0 ∨ cl5.slots.size ≤ ((0 : Int32)).toNatClampNeg) := inb_of S5 ⟨by decide, by decide⟩
  obtain ⟨T5, h5, X5, e5, W5, st5⟩ := stD X1 hx hZ e1 Ar5 (j := (0 : Int32)) hin5 (g := (mkF m 6 #[.val (.ref r0), .unset, .unset, .unset, .unset, .unset, .unset, .unset, .unset] [(.double (FP.l2d (1 : Int64))), (.int (0 : Int32)), (.ref b1), (.ref b1)])) rfl rfl (hb hby own_d1_6)
  refine Good.back st5 ?_
  have f_6 : Arv Z h5 b1 k1 .double (1 : Int32) [(.double (FP.l2d (1 : Int64)))] (.double (FP.l2d 0)) := Arv.set Ar5 qk5 S5 N5' H5 G5 rfl W5 0 rfl (Nat.le_of_ble_eq_true rfl)
  have N5 := Fr.snoc X5 N0 g_b1
  have Z7 : n0 ≤ h5.size := Nat.le_trans Z2 (Keep.of_wr W5).1
  have K8 : Keep h0 h5 [] := K3.wr W5 (Or.inr sz_b1)
  show Good p e below _ (T5.setTop (mkF m 7 #[.val (.ref r0), .unset, .unset, .unset, .unset, .unset, .unset, .unset, .unset] [(.ref b1)]))
  refine Good.back (fun _ k => XS.astoreN X5.here hx rfl (hb hby own_d1_7) rfl rfl (l' := #[.val (.ref r0), .val (.ref b1), .unset, .unset, .unset, .unset, .unset, .unset, .unset]) rfl k) ?_
  show Good p e below _ (T5.setTop (mkF m 8 #[.val (.ref r0), .val (.ref b1), .unset, .unset, .unset, .unset, .unset, .unset, .unset] []))
  refine Good.back (fun _ k => XS.aloadN X5.here hx rfl (hb hby own_d1_8) rfl rfl k) ?_
  show Good p e below _ (T5.setTop (mkF m 9 #[.val (.ref r0), .val (.ref b1), .unset, .unset, .unset, .unset, .unset, .unset, .unset] [(.ref r0)]))
  refine Good.back (fun _ k => XS.astoreN X5.here hx rfl (hb hby own_d1_9) rfl rfl (l' := #[.val (.ref r0), .val (.ref b1), .val (.ref r0), .unset, .unset, .unset, .unset, .unset, .unset]) rfl k) ?_
  show Good p e below _ (T5.setTop (mkF m 10 #[.val (.ref r0), .val (.ref b1), .val (.ref r0), .unset, .unset, .unset, .unset, .unset, .unset] []))
  refine Good.back (fun _ k => XS.aloadN X5.here hx rfl (hb hby own_d1_10) rfl rfl k) ?_
  show Good p e below _ (T5.setTop (mkF m 11 #[.val (.ref r0), .val (.ref b1), .val (.ref r0), .unset, .unset, .unset, .unset, .unset, .unset] [(.ref r0)]))
  have f_9 : Arv Z h1 r0 kk .double (2 : Int32) [(.double (own_R 1 x0)), (.double (own_R 1 x1))] (.double (FP.l2d 0)) := Arv.ext V0 E1
  have ne_r0_b1_11 : r0 ≠ b1 := Nat.ne_of_lt (Nat.lt_of_lt_of_le V0.lt (Nat.le_of_eq g1.symm))
  have f_10 : Arv Z h5 r0 kk .double (2 : Int32) [(.double (own_R 1 x0)), (.double (own_R 1 x1))] (.double (FP.l2d 0)) := Arv.other f_9 W5 ne_r0_b1_11
  have fc12 := f_10
  obtain ⟨cl12, Ar12, qk12, S12, N12', H12, G12⟩ := fc12
  refine Good.back (X5.arraylength hx (by rw [e5]; exact Ar12.1) (State.isArrayOf_alike hZ.alike Ar12.2.1) (g := (mkF m 11 #[.val (.ref r0), .val (.ref b1), .val (.ref r0), .unset, .unset, .unset, .unset, .unset, .unset] [(.ref r0)])) rfl rfl (hb hby own_d1_11)) ?_
  rw [len_of S12 N12']
  show Good p e below _ (T5.setTop (mkF m 12 #[.val (.ref r0), .val (.ref b1), .val (.ref r0), .unset, .unset, .unset, .unset, .unset, .unset] [(.int (2 : Int32))]))
  refine Good.back (fun _ k => XS.istoreN X5.here hx rfl (hb hby own_d1_12) rfl (l' := #[.val (.ref r0), .val (.ref b1), .val (.ref r0), .val (.int (2 : Int32)), .unset, .unset, .unset, .unset, .unset]) rfl k) ?_
  show Good p e below _ (T5.setTop (mkF m 13 #[.val (.ref r0), .val (.ref b1), .val (.ref r0), .val (.int (2 : Int32)), .unset, .unset, .unset, .unset, .unset] []))
  refine Good.back (fun _ k => XS.iconst X5.here hx rfl (hb hby own_d1_13) k) ?_
  show Good p e below _ (T5.setTop (mkF m 14 #[.val (.ref r0), .val (.ref b1), .val (.ref r0), .val (.int (2 : Int32)), .unset, .unset, .unset, .unset, .unset] [(.int (0 : Int32))]))
  refine Good.back (fun _ k => XS.istore X5.here hx rfl (hb hby own_d1_14) rfl (l' := #[.val (.ref r0), .val (.ref b1), .val (.ref r0), .val (.int (2 : Int32)), .val (.int (0 : Int32)), .unset, .unset, .unset, .unset]) rfl k) ?_
  show Good p e below _ (T5.setTop (mkF m 16 #[.val (.ref r0), .val (.ref b1), .val (.ref r0), .val (.int (2 : Int32)), .val (.int (0 : Int32)), .unset, .unset, .unset, .unset] []))
  refine Good.back (fun _ k => XS.iload X5.here hx rfl (hb hby own_d1_16) rfl k) ?_
  show Good p e below _ (T5.setTop (mkF m 18 #[.val (.ref r0), .val (.ref b1), .val (.ref r0), .val (.int (2 : Int32)), .val (.int (0 : Int32)), .unset, .unset, .unset, .unset] [(.int (0 : Int32))]))
  refine Good.back (fun _ k => XS.iloadN X5.here hx rfl (hb hby own_d1_18) rfl k) ?_
  show Good p e below _ (T5.setTop (mkF m 19 #[.val (.ref r0), .val (.ref b1), .val (.ref r0), .val (.int (2 : Int32)), .val (.int (0 : Int32)), .unset, .unset, .unset, .unset] [(.int (2 : Int32)), (.int (0 : Int32))]))
  refine Good.back (fun _ k => XS.icmpNo X5.here hx rfl (hb hby own_d1_19) rfl (tlt (by decide : ((0 : Int32) < (2 : Int32)))).2.1 k) ?_
  show Good p e below _ (T5.setTop (mkF m 22 #[.val (.ref r0), .val (.ref b1), .val (.ref r0), .val (.int (2 : Int32)), .val (.int (0 : Int32)), .unset, .unset, .unset, .unset] []))
  refine Good.back (fun _ k => XS.aloadN X5.here hx rfl (hb hby own_d1_22) rfl rfl k) ?_
  show Good p e below _ (T5.setTop (mkF m 23 #[.val (.ref r0), .val (.ref b1), .val (.ref r0), .val (.int (2 : Int32)), .val (.int (0 : Int32)), .unset, .unset, .unset, .unset] [(.ref r0)]))
  refine Good.back (fun _ k => XS.iload X5.here hx rfl (hb hby own_d1_23) rfl k) ?_
  show Good p e below _ (T5.setTop (mkF m 25 #[.val (.ref r0), .val (.ref b1), .val (.ref r0), .val (.int (2 : Int32)), .val (.int (0 : Int32)), .unset, .unset, .unset, .unset] [(.int (0 : Int32)), (.ref r0)]))
  have fc13 := f_10
  obtain ⟨cl13, Ar13, qk13, S13, N13', H13, G13⟩ := fc13
  have hin13 : ¬ ((0 : Int32) < 0 ∨ cl13.slots.size ≤ ((0 : Int32)).toNatClampNeg) := inb_of S13 ⟨by decide, by decide⟩
  have hat13 : cl13.slots[((0 : Int32)).toNatClampNeg]? = some (.double (own_R 1 x0)) := Has.at H13 hin13 rfl
  refine Good.back (X5.daload hx (j := (0 : Int32)) (v := (.double (own_R 1 x0))) (by rw [e5]; exact Ar13.1) (State.isArrayOf_alike hZ.alike Ar13.2.1) Ar13.2.2 hin13 hat13 (g := (mkF m 25 #[.val (.ref r0), .val (.ref b1), .val (.ref r0), .val (.int (2 : Int32)), .val (.int (0 : Int32)), .unset, .unset, .unset, .unset] [(.int (0 : Int32)), (.ref r0)])) rfl rfl (hb hby own_d1_25)) ?_
  show Good p e below _ (T5.setTop (mkF m 26 #[.val (.ref r0), .val (.ref b1), .val (.ref r0), .val (.int (2 : Int32)), .val (.int (0 : Int32)), .unset, .unset, .unset, .unset] [(.double (own_R 1 x0))]))
  refine Good.back (fun _ k => XS.dstore X5.here hx rfl (hb hby own_d1_26) rfl (l' := #[.val (.ref r0), .val (.ref b1), .val (.ref r0), .val (.int (2 : Int32)), .val (.int (0 : Int32)), .val (.double (own_R 1 x0)), .second, .unset, .unset]) rfl k) ?_
  show Good p e below _ (T5.setTop (mkF m 28 #[.val (.ref r0), .val (.ref b1), .val (.ref r0), .val (.int (2 : Int32)), .val (.int (0 : Int32)), .val (.double (own_R 1 x0)), .second, .unset, .unset] []))
  refine Good.back (fun _ k => XS.aloadN X5.here hx rfl (hb hby own_d1_28) rfl rfl k) ?_
  show Good p e below _ (T5.setTop (mkF m 29 #[.val (.ref r0), .val (.ref b1), .val (.ref r0), .val (.int (2 : Int32)), .val (.int (0 : Int32)), .val (.double (own_R 1 x0)), .second, .unset, .unset] [(.ref b1)]))
  have fc14 := f_6
  obtain ⟨cl14, Ar14, qk14, S14, N14', H14, G14⟩ := fc14
  refine Good.back (X5.arraylength hx (by rw [e5]; exact Ar14.1) (State.isArrayOf_alike hZ.alike Ar14.2.1) (g := (mkF m 29 #[.val (.ref r0), .val (.ref b1), .val (.ref r0), .val (.int (2 : Int32)), .val (.int (0 : Int32)), .val (.double (own_R 1 x0)), .second, .unset, .unset] [(.ref b1)])) rfl rfl (hb hby own_d1_29)) ?_
  rw [len_of S14 N14']
  show Good p e below _ (T5.setTop (mkF m 30 #[.val (.ref r0), .val (.ref b1), .val (.ref r0), .val (.int (2 : Int32)), .val (.int (0 : Int32)), .val (.double (own_R 1 x0)), .second, .unset, .unset] [(.int (1 : Int32))]))
  refine Good.back (fun _ k => XS.iconst X5.here hx rfl (hb hby own_d1_30) k) ?_
  show Good p e below _ (T5.setTop (mkF m 31 #[.val (.ref r0), .val (.ref b1), .val (.ref r0), .val (.int (2 : Int32)), .val (.int (0 : Int32)), .val (.double (own_R 1 x0)), .second, .unset, .unset] [(.int (1 : Int32)), (.int (1 : Int32))]))
  refine Good.back (fun _ k => XS.iadd X5.here hx rfl (hb hby own_d1_31) rfl k) ?_
  show Good p e below _ (T5.setTop (mkF m 32 #[.val (.ref r0), .val (.ref b1), .val (.ref r0), .val (.int (2 : Int32)), .val (.int (0 : Int32)), .val (.double (own_R 1 x0)), .second, .unset, .unset] [(.int ((1 : Int32) + (1 : Int32)))]))
  rw [show (((1 : Int32) + (1 : Int32)) : Int32) = (2 : Int32) from by decide]
  show Good p e below _ (T5.setTop (mkF m 32 #[.val (.ref r0), .val (.ref b1), .val (.ref r0), .val (.int (2 : Int32)), .val (.int (0 : Int32)), .val (.double (own_R 1 x0)), .second, .unset, .unset] [(.int (2 : Int32))]))
  obtain ⟨T15, h15, k15, X15, e15, E15, A15, st15⟩ := newP X5 hx hZ (hw _ (List.mem_of_getElem? (i := 2) rfl)) e5 (g := (mkF m 32 #[.val (.ref r0), .val (.ref b1), .val (.ref r0), .val (.int (2 : Int32)), .val (.int (0 : Int32)), .val (.double (own_R 1 x0)), .second, .unset, .unset] [(.int (2 : Int32))])) rfl (hb hby own_d1_32) rfl (by decide) (cap := 2) (by decide) (by decide) (by decide) (by decide)
  obtain ⟨b15, g15⟩ : ∃ z, z = h5.size := ⟨_, rfl⟩
  rw [← g15] at A15 st15
  refine Good.back st15 ?_
  have g_b15 : n0 ≤ b15 := Nat.le_trans Z7 (Nat.le_of_eq g15.symm)
  have sz_b15 : h0.size ≤ b15 := Nat.le_trans K8.1 (Nat.le_of_eq g15.symm)
  have Z16 : n0 ≤ h15.size := Nat.le_trans Z7 E15.1
  have K17 : Keep h0 h15 [] := K8.ext E15
  have f_18 : Arv Z h15 b15 k15 .double (2 : Int32) [(.double (FP.l2d 0)), (.double (FP.l2d 0))] (.double (FP.l2d 0)) := (Arv.newD A15 (by decide)).pad (pad_rep [] (.double (FP.l2d 0)) 2)
  show Good p e below _ (T15.setTop (mkF m 34 #[.val (.ref r0), .val (.ref b1), .val (.ref r0), .val (.int (2 : Int32)), .val (.int (0 : Int32)), .val (.double (own_R 1 x0)), .second, .unset, .unset] [(.ref b15)]))
  refine Good.back (fun _ k => XS.astore X15.here hx rfl (hb hby own_d1_34) rfl rfl (l' := #[.val (.ref r0), .val (.ref b1), .val (.ref r0), .val (.int (2 : Int32)), .val (.int (0 : Int32)), .val (.double (own_R 1 x0)), .second, .val (.ref b15), .unset]) rfl k) ?_
  show Good p e below _ (T15.setTop (mkF m 36 #[.val (.ref r0), .val (.ref b1), .val (.ref r0), .val (.int (2 : Int32)), .val (.int (0 : Int32)), .val (.double (own_R 1 x0)), .second, .val (.ref b15), .unset] []))
  refine Good.back (fun _ k => XS.iconst X15.here hx rfl (hb hby own_d1_36) k) ?_
  show Good p e below _ (T15.setTop (mkF m 37 #[.val (.ref r0), .val (.ref b1), .val (.ref r0), .val (.int (2 : Int32)), .val (.int (0 : Int32)), .val (.double (own_R 1 x0)), .second, .val (.ref b15), .unset] [(.int (0 : Int32))]))
  refine Good.back (fun _ k => XS.istore X15.here hx rfl (hb hby own_d1_37) rfl (l' := #[.val (.ref r0), .val (.ref b1), .val (.ref r0), .val (.int (2 : Int32)), .val (.int (0 : Int32)), .val (.double (own_R 1 x0)), .second, .val (.ref b15), .val (.int (0 : Int32))]) rfl k) ?_
  show Good p e below _ (T15.setTop (mkF m 39 #[.val (.ref r0), .val (.ref b1), .val (.ref r0), .val (.int (2 : Int32)), .val (.int (0 : Int32)), .val (.double (own_R 1 x0)), .second, .val (.ref b15), .val (.int (0 : Int32))] []))
  refine Good.back (fun _ k => XS.iload X15.here hx rfl (hb hby own_d1_39) rfl k) ?_
  show Good p e below _ (T15.setTop (mkF m 41 #[.val (.ref r0), .val (.ref b1), .val (.ref r0), .val (.int (2 : Int32)), .val (.int (0 : Int32)), .val (.double (own_R 1 x0)), .second, .val (.ref b15), .val (.int (0 : Int32))] [(.int (0 : Int32))]))
  refine Good.back (fun _ k => XS.aloadN X15.here hx rfl (hb hby own_d1_41) rfl rfl k) ?_
  show Good p e below _ (T15.setTop (mkF m 42 #[.val (.ref r0), .val (.ref b1), .val (.ref r0), .val (.int (2 : Int32)), .val (.int (0 : Int32)), .val (.double (own_R 1 x0)), .second, .val (.ref b15), .val (.int (0 : Int32))] [(.ref b1), (.int (0 : Int32))]))
  have f_19 : Arv Z h15 b1 k1 .double (1 : Int32) [(.double (FP.l2d (1 : Int64)))] (.double (FP.l2d 0)) := Arv.ext f_6 E15
  have fc20 := f_19
  obtain ⟨cl20, Ar20, qk20, S20, N20', H20, G20⟩ := fc20
  refine Good.back (X15.arraylength hx (by rw [e15]; exact Ar20.1) (State.isArrayOf_alike hZ.alike Ar20.2.1) (g := (mkF m 42 #[.val (.ref r0), .val (.ref b1), .val (.ref r0), .val (.int (2 : Int32)), .val (.int (0 : Int32)), .val (.double (own_R 1 x0)), .second, .val (.ref b15), .val (.int (0 : Int32))] [(.ref b1), (.int (0 : Int32))])) rfl rfl (hb hby own_d1_42)) ?_
  rw [len_of S20 N20']
  show Good p e below _ (T15.setTop (mkF m 43 #[.val (.ref r0), .val (.ref b1), .val (.ref r0), .val (.int (2 : Int32)), .val (.int (0 : Int32)), .val (.double (own_R 1 x0)), .second, .val (.ref b15), .val (.int (0 : Int32))] [(.int (1 : Int32)), (.int (0 : Int32))]))
  refine Good.back (fun _ k => XS.icmpNo X15.here hx rfl (hb hby own_d1_43) rfl (tlt (by decide : ((0 : Int32) < (1 : Int32)))).2.1 k) ?_
  show Good p e below _ (T15.setTop (mkF m 46 #[.val (.ref r0), .val (.ref b1), .val (.ref r0), .val (.int (2 : Int32)), .val (.int (0 : Int32)), .val (.double (own_R 1 x0)), .second, .val (.ref b15), .val (.int (0 : Int32))] []))
  refine Good.back (fun _ k => XS.aload X15.here hx rfl (hb hby own_d1_46) rfl rfl k) ?_
  show Good p e below _ (T15.setTop (mkF m 48 #[.val (.ref r0), .val (.ref b1), .val (.ref r0), .val (.int (2 : Int32)), .val (.int (0 : Int32)), .val (.double (own_R 1 x0)), .second, .val (.ref b15), .val (.int (0 : Int32))] [(.ref b15)]))
  refine Good.back (fun _ k => XS.iload X15.here hx rfl (hb hby own_d1_48) rfl k) ?_
  show Good p e below _ (T15.setTop (mkF m 50 #[.val (.ref r0), .val (.ref b1), .val (.ref r0), .val (.int (2 : Int32)), .val (.int (0 : Int32)), .val (.double (own_R 1 x0)), .second, .val (.ref b15), .val (.int (0 : Int32))] [(.int (0 : Int32)), (.ref b15)]))
  refine Good.back (fun _ k => Jvm.Free.XT.dup2 X15.here hx rfl (hb hby own_d1_50) rfl rfl rfl k) ?_
  show Good p e below _ (T15.setTop (mkF m 51 #[.val (.ref r0), .val (.ref b1), .val (.ref r0), .val (.int (2 : Int32)), .val (.int (0 : Int32)), .val (.double (own_R 1 x0)), .second, .val (.ref b15), .val (.int (0 : Int32))] [(.int (0 : Int32)), (.ref b15), (.int (0 : Int32)), (.ref b15)]))
  have fc21 := f_18
  obtain ⟨cl21, Ar21, qk21, S21, N21', H21, G21⟩ := fc21
  have hin21 : ¬ ((0 : Int32) < 0 ∨ cl21.slots.size ≤ ((0 : Int32)).toNatClampNeg) := inb_of S21 ⟨by decide, by decide⟩
  have hat21 : cl21.slots[((0 : Int32)).toNatClampNeg]? = some (.double (FP.l2d 0)) := Has.at H21 hin21 rfl
  refine Good.back (X15.daload hx (j := (0 : Int32)) (v := (.double (FP.l2d 0))) (by rw [e15]; exact Ar21.1) (State.isArrayOf_alike hZ.alike Ar21.2.1) Ar21.2.2 hin21 hat21 (g := (mkF m 51 #[.val (.ref r0), .val (.ref b1), .val (.ref r0), .val (.int (2 : Int32)), .val (.int (0 : Int32)), .val (.double (own_R 1 x0)), .second, .val (.ref b15), .val (.int (0 : Int32))] [(.int (0 : Int32)), (.ref b15), (.int (0 : Int32)), (.ref b15)])) rfl rfl (hb hby own_d1_51)) ?_
  show Good p e below _ (T15.setTop (mkF m 52 #[.val (.ref r0), .val (.ref b1), .val (.ref r0), .val (.int (2 : Int32)), .val (.int (0 : Int32)), .val (.double (own_R 1 x0)), .second, .val (.ref b15), .val (.int (0 : Int32))] [(.double (FP.l2d 0)), (.int (0 : Int32)), (.ref b15)]))
  refine Good.back (fun _ k => XS.aloadN X15.here hx rfl (hb hby own_d1_52) rfl rfl k) ?_
  show Good p e below _ (T15.setTop (mkF m 53 #[.val (.ref r0), .val (.ref b1), .val (.ref r0), .val (.int (2 : Int32)), .val (.int (0 : Int32)), .val (.double (own_R 1 x0)), .second, .val (.ref b15), .val (.int (0 : Int32))] [(.ref b1), (.double (FP.l2d 0)), (.int (0 : Int32)), (.ref b15)]))
  refine Good.back (fun _ k => XS.iload X15.here hx rfl (hb hby own_d1_53) rfl k) ?_
  show Good p e below _ (T15.setTop (mkF m 55 #[.val (.ref r0), .val (.ref b1), .val (.ref r0), .val (.int (2 : Int32)), .val (.int (0 : Int32)), .val (.double (own_R 1 x0)), .second, .val (.ref b15), .val (.int (0 : Int32))] [(.int (0 : Int32)), (.ref b1), (.double (FP.l2d 0)), (.int (0 : Int32)), (.ref b15)]))
  have fc22 := f_19
  obtain ⟨cl22, Ar22, qk22, S22, N22', H22, G22⟩ := fc22
  have hin22 : ¬ ((0 : Int32) < 0 ∨ cl22.slots.size ≤ ((0 : Int32)).toNatClampNeg) := inb_of S22 ⟨by decide, by decide⟩
  have hat22 : cl22.slots[((0 : Int32)).toNatClampNeg]? = some (.double (FP.l2d (1 : Int64))) := Has.at H22 hin22 rfl
  refine Good.back (X15.daload hx (j := (0 : Int32)) (v := (.double (FP.l2d (1 : Int64)))) (by rw [e15]; exact Ar22.1) (State.isArrayOf_alike hZ.alike Ar22.2.1) Ar22.2.2 hin22 hat22 (g := (mkF m 55 #[.val (.ref r0), .val (.ref b1), .val (.ref r0), .val (.int (2 : Int32)), .val (.int (0 : Int32)), .val (.double (own_R 1 x0)), .second, .val (.ref b15), .val (.int (0 : Int32))] [(.int (0 : Int32)), (.ref b1), (.double (FP.l2d 0)), (.int (0 : Int32)), (.ref b15)])) rfl rfl (hb hby own_d1_55)) ?_
  show Good p e below _ (T15.setTop (mkF m 56 #[.val (.ref r0), .val (.ref b1), .val (.ref r0), .val (.int (2 : Int32)), .val (.int (0 : Int32)), .val (.double (own_R 1 x0)), .second, .val (.ref b15), .val (.int (0 : Int32))] [(.double (FP.l2d (1 : Int64))), (.double (FP.l2d 0)), (.int (0 : Int32)), (.ref b15)]))
  refine Good.back (fun _ k => XS.dconst1 X15.here hx rfl (hb hby own_d1_56) (v := (FP.l2d (1 : Int64))) (by decide +kernel) k) ?_
  show Good p e below _ (T15.setTop (mkF m 57 #[.val (.ref r0), .val (.ref b1), .val (.ref r0), .val (.int (2 : Int32)), .val (.int (0 : Int32)), .val (.double (own_R 1 x0)), .second, .val (.ref b15), .val (.int (0 : Int32))] [(.double (FP.l2d (1 : Int64))), (.double (FP.l2d (1 : Int64))), (.double (FP.l2d 0)), (.int (0 : Int32)), (.ref b15)]))
  refine Good.back (fun _ k => XS.dload X15.here hx rfl (hb hby own_d1_57) rfl k) ?_
  show Good p e below _ (T15.setTop (mkF m 59 #[.val (.ref r0), .val (.ref b1), .val (.ref r0), .val (.int (2 : Int32)), .val (.int (0 : Int32)), .val (.double (own_R 1 x0)), .second, .val (.ref b15), .val (.int (0 : Int32))] [(.double (own_R 1 x0)), (.double (FP.l2d (1 : Int64))), (.double (FP.l2d (1 : Int64))), (.double (FP.l2d 0)), (.int (0 : Int32)), (.ref b15)]))
  refine Good.back (fun _ k => XS.dsubS X15.here hx rfl (hb hby own_d1_59) rfl (own_Rsub hx0 ▸ own_Rnn (Nat.lt_of_le_of_lt (Nat.sub_le 16 x0) (by decide))) (own_Rsub hx0) k) ?_
  show Good p e below _ (T15.setTop (mkF m 60 #[.val (.ref r0), .val (.ref b1), .val (.ref r0), .val (.int (2 : Int32)), .val (.int (0 : Int32)), .val (.double (own_R 1 x0)), .second, .val (.ref b15), .val (.int (0 : Int32))] [(.double (own_R 1 (16 - x0))), (.double (FP.l2d (1 : Int64))), (.double (FP.l2d 0)), (.int (0 : Int32)), (.ref b15)]))
  refine Good.back (fun _ k => XS.dmulS X15.here hx rfl (hb hby own_d1_60) rfl ((own_Rmul1 (d := 1) (by decide) (Nat.lt_of_le_of_lt (Nat.sub_le 16 x0) (by decide))).symm ▸ own_Rnn (Nat.lt_of_le_of_lt (Nat.sub_le 16 x0) (by decide))) (own_Rmul1 (d := 1) (by decide) (Nat.lt_of_le_of_lt (Nat.sub_le 16 x0) (by decide))) k) ?_
  show Good p e below _ (T15.setTop (mkF m 61 #[.val (.ref r0), .val (.ref b1), .val (.ref r0), .val (.int (2 : Int32)), .val (.int (0 : Int32)), .val (.double (own_R 1 x0)), .second, .val (.ref b15), .val (.int (0 : Int32))] [(.double (own_R 1 (16 - x0))), (.double (FP.l2d 0)), (.int (0 : Int32)), (.ref b15)]))
  refine Good.back (fun _ k => XS.daddS X15.here hx rfl (hb hby own_d1_61) rfl ((own_Radd0 (Nat.lt_of_le_of_lt (Nat.sub_le 16 x0) (by decide))).symm ▸ own_Rnn (Nat.lt_of_le_of_lt (Nat.sub_le 16 x0) (by decide))) (own_Radd0 (Nat.lt_of_le_of_lt (Nat.sub_le 16 x0) (by decide))) k) ?_
  show Good p e below _ (T15.setTop (mkF m 62 #[.val (.ref r0), .val (.ref b1), .val (.ref r0), .val (.int (2 : Int32)), .val (.int (0 : Int32)), .val (.double (own_R 1 x0)), .second, .val (.ref b15), .val (.int (0 : Int32))] [(.double (own_R 1 (16 - x0))), (.int (0 : Int32)), (.ref b15)]))
  have fc23 := f_18
  obtain ⟨cl23, Ar23, qk23, S23, N23', H23, G23⟩ := fc23
  have hin23 : ¬ ((0 : Int32) < 0 ∨ cl23.slots.size ≤ ((0 : Int32)).toNatClampNeg) := inb_of S23 ⟨by decide, by decide⟩
  obtain ⟨T23, h23, X23, e23, W23, st23⟩ := stD X15 hx hZ e15 Ar23 (j := (0 : Int32)) hin23 (g := (mkF m 62 #[.val (.ref r0), .val (.ref b1), .val (.ref r0), .val (.int (2 : Int32)), .val (.int (0 : Int32)), .val (.double (own_R 1 x0)), .second, .val (.ref b15), .val (.int (0 : Int32))] [(.double (own_R 1 (16 - x0))), (.int (0 : Int32)), (.ref b15)])) rfl rfl (hb hby own_d1_62)
  refine Good.back st23 ?_
  have f_24 : Arv Z h23 b15 k15 .double (2 : Int32) [(.double (own_R 1 (16 - x0))), (.double (FP.l2d 0))] (.double (FP.l2d 0)) := Arv.set Ar23 qk23 S23 N23' H23 G23 rfl W23 0 rfl (Nat.le_of_ble_eq_true rfl)
  have N23 := Fr.snoc X23 N5 g_b15
  have Z25 : n0 ≤ h23.size := Nat.le_trans Z16 (Keep.of_wr W23).1
  have K26 : Keep h0 h23 [] := K17.wr W23 (Or.inr sz_b15)
  show Good p e below _ (T23.setTop (mkF m 63 #[.val (.ref r0), .val (.ref b1), .val (.ref r0), .val (.int (2 : Int32)), .val (.int (0 : Int32)), .val (.double (own_R 1 x0)), .second, .val (.ref b15), .val (.int (0 : Int32))] []))
  refine Good.back (fun _ k => XS.aload X23.here hx rfl (hb hby own_d1_63) rfl rfl k) ?_
  show Good p e below _ (T23.setTop (mkF m 65 #[.val (.ref r0), .val (.ref b1), .val (.ref r0), .val (.int (2 : Int32)), .val (.int (0 : Int32)), .val (.double (own_R 1 x0)), .second, .val (.ref b15), .val (.int (0 : Int32))] [(.ref b15)]))
  refine Good.back (fun _ k => XS.iload X23.here hx rfl (hb hby own_d1_65) rfl k) ?_
  show Good p e below _ (T23.setTop (mkF m 67 #[.val (.ref r0), .val (.ref b1), .val (.ref r0), .val (.int (2 : Int32)), .val (.int (0 : Int32)), .val (.double (own_R 1 x0)), .second, .val (.ref b15), .val (.int (0 : Int32))] [(.int (0 : Int32)), (.ref b15)]))
  refine Good.back (fun _ k => XS.iconst X23.here hx rfl (hb hby own_d1_67) k) ?_
  show Good p e below _ (T23.setTop (mkF m 68 #[.val (.ref r0), .val (.ref b1), .val (.ref r0), .val (.int (2 : Int32)), .val (.int (0 : Int32)), .val (.double (own_R 1 x0)), .second, .val (.ref b15), .val (.int (0 : Int32))] [(.int (1 : Int32)), (.int (0 : Int32)), (.ref b15)]))
  refine Good.back (fun _ k => XS.iadd X23.here hx rfl (hb hby own_d1_68) rfl k) ?_
  show Good p e below _ (T23.setTop (mkF m 69 #[.val (.ref r0), .val (.ref b1), .val (.ref r0), .val (.int (2 : Int32)), .val (.int (0 : Int32)), .val (.double (own_R 1 x0)), .second, .val (.ref b15), .val (.int (0 : Int32))] [(.int ((0 : Int32) + (1 : Int32))), (.ref b15)]))
  rw [show (((0 : Int32) + (1 : Int32)) : Int32) = (1 : Int32) from by decide]
  show Good p e below _ (T23.setTop (mkF m 69 #[.val (.ref r0), .val (.ref b1), .val (.ref r0), .val (.int (2 : Int32)), .val (.int (0 : Int32)), .val (.double (own_R 1 x0)), .second, .val (.ref b15), .val (.int (0 : Int32))] [(.int (1 : Int32)), (.ref b15)]))
  refine Good.back (fun _ k => Jvm.Free.XT.dup2 X23.here hx rfl (hb hby own_d1_69) rfl rfl rfl k) ?_
  show Good p e below _ (T23.setTop (mkF m 70 #[.val (.ref r0), .val (.ref b1), .val (.ref r0), .val (.int (2 : Int32)), .val (.int (0 : Int32)), .val (.double (own_R 1 x0)), .second, .val (.ref b15), .val (.int (0 : Int32))] [(.int (1 : Int32)), (.ref b15), (.int (1 : Int32)), (.ref b15)]))
  have fc27 := f_24
  obtain ⟨cl27, Ar27, qk27, S27, N27', H27, G27⟩ := fc27
  have hin27 : ¬ ((1 : Int32) < 0 ∨ cl27.slots.size ≤ ((1 : Int32)).toNatClampNeg) := inb_of S27 ⟨by decide, by decide⟩
  have hat27 : cl27.slots[((1 : Int32)).toNatClampNeg]? = some (.double (FP.l2d 0)) := Has.at H27 hin27 rfl
  refine Good.back (X23.daload hx (j := (1 : Int32)) (v := (.double (FP.l2d 0))) (by rw [e23]; exact Ar27.1) (State.isArrayOf_alike hZ.alike Ar27.2.1) Ar27.2.2 hin27 hat27 (g := (mkF m 70 #[.val (.ref r0), .val (.ref b1), .val (.ref r0), .val (.int (2 : Int32)), .val (.int (0 : Int32)), .val (.double (own_R 1 x0)), .second, .val (.ref b15), .val (.int (0 : Int32))] [(.int (1 : Int32)), (.ref b15), (.int (1 : Int32)), (.ref b15)])) rfl rfl (hb hby own_d1_70)) ?_
  show Good p e below _ (T23.setTop (mkF m 71 #[.val (.ref r0), .val (.ref b1), .val (.ref r0), .val (.int (2 : Int32)), .val (.int (0 : Int32)), .val (.double (own_R 1 x0)), .second, .val (.ref b15), .val (.int (0 : Int32))] [(.double (FP.l2d 0)), (.int (1 : Int32)), (.ref b15)]))
  refine Good.back (fun _ k => XS.aloadN X23.here hx rfl (hb hby own_d1_71) rfl rfl k) ?_
  show Good p e below _ (T23.setTop (mkF m 72 #[.val (.ref r0), .val (.ref b1), .val (.ref r0), .val (.int (2 : Int32)), .val (.int (0 : Int32)), .val (.double (own_R 1 x0)), .second, .val (.ref b15), .val (.int (0 : Int32))] [(.ref b1), (.double (FP.l2d 0)), (.int (1 : Int32)), (.ref b15)]))
  refine Good.back (fun _ k => XS.iload X23.here hx rfl (hb hby own_d1_72) rfl k) ?_
  show Good p e below _ (T23.setTop (mkF m 74 #[.val (.ref r0), .val (.ref b1), .val (.ref r0), .val (.int (2 : Int32)), .val (.int (0 : Int32)), .val (.double (own_R 1 x0)), .second, .val (.ref b15), .val (.int (0 : Int32))] [(.int (0 : Int32)), (.ref b1), (.double (FP.l2d 0)), (.int (1 : Int32)), (.ref b15)]))
  have ne_b1_b15_29 : b1 ≠ b15 := Nat.ne_of_lt (Nat.lt_of_lt_of_le f_6.lt (Nat.le_of_eq g15.symm))
  have f_28 : Arv Z h23 b1 k1 .double (1 : Int32) [(.double (FP.l2d (1 : Int64)))] (.double (FP.l2d 0)) := Arv.other f_19 W23 ne_b1_b15_29
  have fc30 := f_28
  obtain ⟨cl30, Ar30, qk30, S30, N30', H30, G30⟩ := fc30
  have hin30 : ¬ ((0 : Int32) < 0 ∨ cl30.slots.size ≤ ((0 : Int32)).toNatClampNeg) := inb_of S30 ⟨by decide, by decide⟩
  have hat30 : cl30.slots[((0 : Int32)).toNatClampNeg]? = some (.double (FP.l2d (1 : Int64))) := Has.at H30 hin30 rfl
  refine Good.back (X23.daload hx (j := (0 : Int32)) (v := (.double (FP.l2d (1 : Int64)))) (by rw [e23]; exact Ar30.1) (State.isArrayOf_alike hZ.alike Ar30.2.1) Ar30.2.2 hin30 hat30 (g := (mkF m 74 #[.val (.ref r0), .val (.ref b1), .val (.ref r0), .val (.int (2 : Int32)), .val (.int (0 : Int32)), .val (.double (own_R 1 x0)), .second, .val (.ref b15), .val (.int (0 : Int32))] [(.int (0 : Int32)), (.ref b1), (.double (FP.l2d 0)), (.int (1 : Int32)), (.ref b15)])) rfl rfl (hb hby own_d1_74)) ?_
  show Good p e below _ (T23.setTop (mkF m 75 #[.val (.ref r0), .val (.ref b1), .val (.ref r0), .val (.int (2 : Int32)), .val (.int (0 : Int32)), .val (.double (own_R 1 x0)), .second, .val (.ref b15), .val (.int (0 : Int32))] [(.double (FP.l2d (1 : Int64))), (.double (FP.l2d 0)), (.int (1 : Int32)), (.ref b15)]))
  refine Good.back (fun _ k => XS.dload X23.here hx rfl (hb hby own_d1_75) rfl k) ?_
  show Good p e below _ (T23.setTop (mkF m 77 #[.val (.ref r0), .val (.ref b1), .val (.ref r0), .val (.int (2 : Int32)), .val (.int (0 : Int32)), .val (.double (own_R 1 x0)), .second, .val (.ref b15), .val (.int (0 : Int32))] [(.double (own_R 1 x0)), (.double (FP.l2d (1 : Int64))), (.double (FP.l2d 0)), (.int (1 : Int32)), (.ref b15)]))
  refine Good.back (fun _ k => XS.dmulS X23.here hx rfl (hb hby own_d1_77) rfl ((own_Rmul1 (d := 1) (by decide) (Nat.lt_of_le_of_lt hx0 (by decide))).symm ▸ own_Rnn (Nat.lt_of_le_of_lt hx0 (by decide))) (own_Rmul1 (d := 1) (by decide) (Nat.lt_of_le_of_lt hx0 (by decide))) k) ?_
  show Good p e below _ (T23.setTop (mkF m 78 #[.val (.ref r0), .val (.ref b1), .val (.ref r0), .val (.int (2 : Int32)), .val (.int (0 : Int32)), .val (.double (own_R 1 x0)), .second, .val (.ref b15), .val (.int (0 : Int32))] [(.double (own_R 1 x0)), (.double (FP.l2d 0)), (.int (1 : Int32)), (.ref b15)]))
  refine Good.back (fun _ k => XS.daddS X23.here hx rfl (hb hby own_d1_78) rfl ((own_Radd0 (Nat.lt_of_le_of_lt hx0 (by decide))).symm ▸ own_Rnn (Nat.lt_of_le_of_lt hx0 (by decide))) (own_Radd0 (Nat.lt_of_le_of_lt hx0 (by decide))) k) ?_
  show Good p e below _ (T23.setTop (mkF m 79 #[.val (.ref r0), .val (.ref b1), .val (.ref r0), .val (.int (2 : Int32)), .val (.int (0 : Int32)), .val (.double (own_R 1 x0)), .second, .val (.ref b15), .val (.int (0 : Int32))] [(.double (own_R 1 x0)), (.int (1 : Int32)), (.ref b15)]))
  have fc31 := f_24
  obtain ⟨cl31, Ar31, qk31, S31, N31', H31, G31⟩ := fc31
  have hin31 : ¬ ((1 : Int32) < 0 ∨ cl31.slots.size ≤ ((1 : Int32)).toNatClampNeg) := inb_of S31 ⟨by decide, by decide⟩
  obtain ⟨T31, h31, X31, e31, W31, st31⟩ := stD X23 hx hZ e23 Ar31 (j := (1 : Int32)) hin31 (g := (mkF m 79 #[.val (.ref r0), .val (.ref b1), .val (.ref r0), .val (.int (2 : Int32)), .val (.int (0 : Int32)), .val (.double (own_R 1 x0)), .second, .val (.ref b15), .val (.int (0 : Int32))] [(.double (own_R 1 x0)), (.int (1 : Int32)), (.ref b15)])) rfl rfl (hb hby own_d1_79)
  refine Good.back st31 ?_
  have f_32 : Arv Z h31 b15 k15 .double (2 : Int32) [(.double (own_R 1 (16 - x0))), (.double (own_R 1 x0))] (.double (FP.l2d 0)) := Arv.set Ar31 qk31 S31 N31' H31 G31 rfl W31 1 rfl (Nat.le_of_ble_eq_true rfl)
  have N31 := Fr.snoc X31 N23 g_b15
  have Z33 : n0 ≤ h31.size := Nat.le_trans Z25 (Keep.of_wr W31).1
  have K34 : Keep h0 h31 [] := K26.wr W31 (Or.inr sz_b15)
  show Good p e below _ (T31.setTop (mkF m 80 #[.val (.ref r0), .val (.ref b1), .val (.ref r0), .val (.int (2 : Int32)), .val (.int (0 : Int32)), .val (.double (own_R 1 x0)), .second, .val (.ref b15), .val (.int (0 : Int32))] []))
  refine Good.back (fun _ k => XS.iinc X31.here hx rfl (hb hby own_d1_80) rfl (l' := #[.val (.ref r0), .val (.ref b1), .val (.ref r0), .val (.int (2 : Int32)), .val (.int (0 : Int32)), .val (.double (own_R 1 x0)), .second, .val (.ref b15), .val (.int ((0 : Int32) + (1 : Int32)))]) rfl k) ?_
  show Good p e below _ (T31.setTop (mkF m 83 #[.val (.ref r0), .val (.ref b1), .val (.ref r0), .val (.int (2 : Int32)), .val (.int (0 : Int32)), .val (.double (own_R 1 x0)), .second, .val (.ref b15), .val (.int ((0 : Int32) + (1 : Int32)))] []))
  rw [show (((0 : Int32) + (1 : Int32)) : Int32) = (1 : Int32) from by decide]
  show Good p e below _ (T31.setTop (mkF m 83 #[.val (.ref r0), .val (.ref b1), .val (.ref r0), .val (.int (2 : Int32)), .val (.int (0 : Int32)), .val (.double (own_R 1 x0)), .second, .val (.ref b15), .val (.int (1 : Int32))] []))
  refine Good.back (fun _ k => XS.goto X31.here hx rfl (pc0 := 83) (pc' := 39) rfl (hb hby own_d1_83) (by decide) (by decide) k) ?_
  show Good p e below _ (T31.setTop (mkF m 39 #[.val (.ref r0), .val (.ref b1), .val (.ref r0), .val (.int (2 : Int32)), .val (.int (0 : Int32)), .val (.double (own_R 1 x0)), .second, .val (.ref b15), .val (.int (1 : Int32))] []))
  refine Good.back (fun _ k => XS.iload X31.here hx rfl (hb hby own_d1_39) rfl k) ?_
  show Good p e below _ (T31.setTop (mkF m 41 #[.val (.ref r0), .val (.ref b1), .val (.ref r0), .val (.int (2 : Int32)), .val (.int (0 : Int32)), .val (.double (own_R 1 x0)), .second, .val (.ref b15), .val (.int (1 : Int32))] [(.int (1 : Int32))]))
  refine Good.back (fun _ k => XS.aloadN X31.here hx rfl (hb hby own_d1_41) rfl rfl k) ?_
  show Good p e below _ (T31.setTop (mkF m 42 #[.val (.ref r0), .val (.ref b1), .val (.ref r0), .val (.int (2 : Int32)), .val (.int (0 : Int32)), .val (.double (own_R 1 x0)), .second, .val (.ref b15), .val (.int (1 : Int32))] [(.ref b1), (.int (1 : Int32))]))
  have f_35 : Arv Z h31 b1 k1 .double (1 : Int32) [(.double (FP.l2d (1 : Int64)))] (.double (FP.l2d 0)) := Arv.other f_28 W31 ne_b1_b15_29
  have fc36 := f_35
  obtain ⟨cl36, Ar36, qk36, S36, N36', H36, G36⟩ := fc36
  refine Good.back (X31.arraylength hx (by rw [e31]; exact Ar36.1) (State.isArrayOf_alike hZ.alike Ar36.2.1) (g := (mkF m 42 #[.val (.ref r0), .val (.ref b1), .val (.ref r0), .val (.int (2 : Int32)), .val (.int (0 : Int32)), .val (.double (own_R 1 x0)), .second, .val (.ref b15), .val (.int (1 : Int32))] [(.ref b1), (.int (1 : Int32))])) rfl rfl (hb hby own_d1_42)) ?_
  rw [len_of S36 N36']
  show Good p e below _ (T31.setTop (mkF m 43 #[.val (.ref r0), .val (.ref b1), .val (.ref r0), .val (.int (2 : Int32)), .val (.int (0 : Int32)), .val (.double (own_R 1 x0)), .second, .val (.ref b15), .val (.int (1 : Int32))] [(.int (1 : Int32)), (.int (1 : Int32))]))
  refine Good.back (fun _ k => XS.icmpYes X31.here hx rfl (pc0 := 43) (pc' := 86) rfl (hb hby own_d1_43) rfl (flt (by decide : ¬ ((1 : Int32) < (1 : Int32)))).2.1 (by decide) (by decide) k) ?_
  show Good p e below _ (T31.setTop (mkF m 86 #[.val (.ref r0), .val (.ref b1), .val (.ref r0), .val (.int (2 : Int32)), .val (.int (0 : Int32)), .val (.double (own_R 1 x0)), .second, .val (.ref b15), .val (.int (1 : Int32))] []))
  refine Good.back (fun _ k => XS.aload X31.here hx rfl (hb hby own_d1_86) rfl rfl k) ?_
  show Good p e below _ (T31.setTop (mkF m 88 #[.val (.ref r0), .val (.ref b1), .val (.ref r0), .val (.int (2 : Int32)), .val (.int (0 : Int32)), .val (.double (own_R 1 x0)), .second, .val (.ref b15), .val (.int (1 : Int32))] [(.ref b15)]))
  refine Good.back (fun _ k => XS.astoreN X31.here hx rfl (hb hby own_d1_88) rfl rfl (l' := #[.val (.ref r0), .val (.ref b15), .val (.ref r0), .val (.int (2 : Int32)), .val (.int (0 : Int32)), .val (.double (own_R 1 x0)), .second, .val (.ref b15), .val (.int (1 : Int32))]) rfl k) ?_
  show Good p e below _ (T31.setTop (mkF m 89 #[.val (.ref r0), .val (.ref b15), .val (.ref r0), .val (.int (2 : Int32)), .val (.int (0 : Int32)), .val (.double (own_R 1 x0)), .second, .val (.ref b15), .val (.int (1 : Int32))] []))
  refine Good.back (fun _ k => XS.iinc X31.here hx rfl (hb hby own_d1_89) rfl (l' := #[.val (.ref r0), .val (.ref b15), .val (.ref r0), .val (.int (2 : Int32)), .val (.int ((0 : Int32) + (1 : Int32))), .val (.double (own_R 1 x0)), .second, .val (.ref b15), .val (.int (1 : Int32))]) rfl k) ?_
  show Good p e below _ (T31.setTop (mkF m 92 #[.val (.ref r0), .val (.ref b15), .val (.ref r0), .val (.int (2 : Int32)), .val (.int ((0 : Int32) + (1 : Int32))), .val (.double (own_R 1 x0)), .second, .val (.ref b15), .val (.int (1 : Int32))] []))
  rw [show (((0 : Int32) + (1 : Int32)) : Int32) = (1 : Int32) from by decide]
  show Good p e below _ (T31.setTop (mkF m 92 #[.val (.ref r0), .val (.ref b15), .val (.ref r0), .val (.int (2 : Int32)), .val (.int (1 : Int32)), .val (.double (own_R 1 x0)), .second, .val (.ref b15), .val (.int (1 : Int32))] []))
  refine Good.back (fun _ k => XS.goto X31.here hx rfl (pc0 := 92) (pc' := 16) rfl (hb hby own_d1_92) (by decide) (by decide) k) ?_
  show Good p e below _ (T31.setTop (mkF m 16 #[.val (.ref r0), .val (.ref b15), .val (.ref r0), .val (.int (2 : Int32)), .val (.int (1 : Int32)), .val (.double (own_R 1 x0)), .second, .val (.ref b15), .val (.int (1 : Int32))] []))
  refine Good.back (fun _ k => XS.iload X31.here hx rfl (hb hby own_d1_16) rfl k) ?_
  show Good p e below _ (T31.setTop (mkF m 18 #[.val (.ref r0), .val (.ref b15), .val (.ref r0), .val (.int (2 : Int32)), .val (.int (1 : Int32)), .val (.double (own_R 1 x0)), .second, .val (.ref b15), .val (.int (1 : Int32))] [(.int (1 : Int32))]))
  refine Good.back (fun _ k => XS.iloadN X31.here hx rfl (hb hby own_d1_18) rfl k) ?_
  show Good p e below _ (T31.setTop (mkF m 19 #[.val (.ref r0), .val (.ref b15), .val (.ref r0), .val (.int (2 : Int32)), .val (.int (1 : Int32)), .val (.double (own_R 1 x0)), .second, .val (.ref b15), .val (.int (1 : Int32))] [(.int (2 : Int32)), (.int (1 : Int32))]))
  refine Good.back (fun _ k => XS.icmpNo X31.here hx rfl (hb hby own_d1_19) rfl (tlt (by decide : ((1 : Int32) < (2 : Int32)))).2.1 k) ?_
  show Good p e below _ (T31.setTop (mkF m 22 #[.val (.ref r0), .val (.ref b15), .val (.ref r0), .val (.int (2 : Int32)), .val (.int (1 : Int32)), .val (.double (own_R 1 x0)), .second, .val (.ref b15), .val (.int (1 : Int32))] []))
  refine Good.back (fun _ k => XS.aloadN X31.here hx rfl (hb hby own_d1_22) rfl rfl k) ?_
  show Good p e below _ (T31.setTop (mkF m 23 #[.val (.ref r0), .val (.ref b15), .val (.ref r0), .val (.int (2 : Int32)), .val (.int (1 : Int32)), .val (.double (own_R 1 x0)), .second, .val (.ref b15), .val (.int (1 : Int32))] [(.ref r0)]))
  refine Good.back (fun _ k => XS.iload X31.here hx rfl (hb hby own_d1_23) rfl k) ?_
  show Good p e below _ (T31.setTop (mkF m 25 #[.val (.ref r0), .val (.ref b15), .val (.ref r0), .val (.int (2 : Int32)), .val (.int (1 : Int32)), .val (.double (own_R 1 x0)), .second, .val (.ref b15), .val (.int (1 : Int32))] [(.int (1 : Int32)), (.ref r0)]))
  have f_37 : Arv Z h15 r0 kk .double (2 : Int32) [(.double (own_R 1 x0)), (.double (own_R 1 x1))] (.double (FP.l2d 0)) := Arv.ext f_10 E15
  have ne_r0_b15_39 : r0 ≠ b15 := Nat.ne_of_lt (Nat.lt_of_lt_of_le f_10.lt (Nat.le_of_eq g15.symm))
  have f_38 : Arv Z h23 r0 kk .double (2 : Int32) [(.double (own_R 1 x0)), (.double (own_R 1 x1))] (.double (FP.l2d 0)) := Arv.other f_37 W23 ne_r0_b15_39
  have f_40 : Arv Z h31 r0 kk .double (2 : Int32) [(.double (own_R 1 x0)), (.double (own_R 1 x1))] (.double (FP.l2d 0)) := Arv.other f_38 W31 ne_r0_b15_39
  have fc41 := f_40
  obtain ⟨cl41, Ar41, qk41, S41, N41', H41, G41⟩ := fc41
  have hin41 : ¬ ((1 : Int32) < 0 ∨ cl41.slots.size ≤ ((1 : Int32)).toNatClampNeg) := inb_of S41 ⟨by decide, by decide⟩
  have hat41 : cl41.slots[((1 : Int32)).toNatClampNeg]? = some (.double (own_R 1 x1)) := Has.at H41 hin41 rfl
  refine Good.back (X31.daload hx (j := (1 : Int32)) (v := (.double (own_R 1 x1))) (by rw [e31]; exact Ar41.1) (State.isArrayOf_alike hZ.alike Ar41.2.1) Ar41.2.2 hin41 hat41 (g := (mkF m 25 #[.val (.ref r0), .val (.ref b15), .val (.ref r0), .val (.int (2 : Int32)), .val (.int (1 : Int32)), .val (.double (own_R 1 x0)), .second, .val (.ref b15), .val (.int (1 : Int32))] [(.int (1 : Int32)), (.ref r0)])) rfl rfl (hb hby own_d1_25)) ?_
  show Good p e below _ (T31.setTop (mkF m 26 #[.val (.ref r0), .val (.ref b15), .val (.ref r0), .val (.int (2 : Int32)), .val (.int (1 : Int32)), .val (.double (own_R 1 x0)), .second, .val (.ref b15), .val (.int (1 : Int32))] [(.double (own_R 1 x1))]))
  refine Good.back (fun _ k => XS.dstore X31.here hx rfl (hb hby own_d1_26) rfl (l' := #[.val (.ref r0), .val (.ref b15), .val (.ref r0), .val (.int (2 : Int32)), .val (.int (1 : Int32)), .val (.double (own_R 1 x1)), .second, .val (.ref b15), .val (.int (1 : Int32))]) rfl k) ?_
  show Good p e below _ (T31.setTop (mkF m 28 #[.val (.ref r0), .val (.ref b15), .val (.ref r0), .val (.int (2 : Int32)), .val (.int (1 : Int32)), .val (.double (own_R 1 x1)), .second, .val (.ref b15), .val (.int (1 : Int32))] []))
  refine Good.back (fun _ k => XS.aloadN X31.here hx rfl (hb hby own_d1_28) rfl rfl k) ?_
  show Good p e below _ (T31.setTop (mkF m 29 #[.val (.ref r0), .val (.ref b15), .val (.ref r0), .val (.int (2 : Int32)), .val (.int (1 : Int32)), .val (.double (own_R 1 x1)), .second, .val (.ref b15), .val (.int (1 : Int32))] [(.ref b15)]))
  have fc42 := f_32
  obtain ⟨cl42, Ar42, qk42, S42, N42', H42, G42⟩ := fc42
  refine Good.back (X31.arraylength hx (by rw [e31]; exact Ar42.1) (State.isArrayOf_alike hZ.alike Ar42.2.1) (g := (mkF m 29 #[.val (.ref r0), .val (.ref b15), .val (.ref r0), .val (.int (2 : Int32)), .val (.int (1 : Int32)), .val (.double (own_R 1 x1)), .second, .val (.ref b15), .val (.int (1 : Int32))] [(.ref b15)])) rfl rfl (hb hby own_d1_29)) ?_
  rw [len_of S42 N42']
  show Good p e below _ (T31.setTop (mkF m 30 #[.val (.ref r0), .val (.ref b15), .val (.ref r0), .val (.int (2 : Int32)), .val (.int (1 : Int32)), .val (.double (own_R 1 x1)), .second, .val (.ref b15), .val (.int (1 : Int32))] [(.int (2 : Int32))]))
  refine Good.back (fun _ k => XS.iconst X31.here hx rfl (hb hby own_d1_30) k) ?_
  show Good p e below _ (T31.setTop (mkF m 31 #[.val (.ref r0), .val (.ref b15), .val (.ref r0), .val (.int (2 : Int32)), .val (.int (1 : Int32)), .val (.double (own_R 1 x1)), .second, .val (.ref b15), .val (.int (1 : Int32))] [(.int (1 : Int32)), (.int (2 : Int32))]))
  refine Good.back (fun _ k => XS.iadd X31.here hx rfl (hb hby own_d1_31) rfl k) ?_
  show Good p e below _ (T31.setTop (mkF m 32 #[.val (.ref r0), .val (.ref b15), .val (.ref r0), .val (.int (2 : Int32)), .val (.int (1 : Int32)), .val (.double (own_R 1 x1)), .second, .val (.ref b15), .val (.int (1 : Int32))] [(.int ((2 : Int32) + (1 : Int32)))]))
  rw [show (((2 : Int32) + (1 : Int32)) : Int32) = (3 : Int32) from by decide]
  show Good p e below _ (T31.setTop (mkF m 32 #[.val (.ref r0), .val (.ref b15), .val (.ref r0), .val (.int (2 : Int32)), .val (.int (1 : Int32)), .val (.double (own_R 1 x1)), .second, .val (.ref b15), .val (.int (1 : Int32))] [(.int (3 : Int32))]))
  obtain ⟨T43, h43, k43, X43, e43, E43, A43, st43⟩ := newP X31 hx hZ (hw _ (List.mem_of_getElem? (i := 2) rfl)) e31 (g := (mkF m 32 #[.val (.ref r0), .val (.ref b15), .val (.ref r0), .val (.int (2 : Int32)), .val (.int (1 : Int32)), .val (.double (own_R 1 x1)), .second, .val (.ref b15), .val (.int (1 : Int32))] [(.int (3 : Int32))])) rfl (hb hby own_d1_32) rfl (by decide) (cap := 3) (by decide) (by decide) (by decide) (by decide)
  obtain ⟨b43, g43⟩ : ∃ z, z = h31.size := ⟨_, rfl⟩
  rw [← g43] at A43 st43
  refine Good.back st43 ?_
  have g_b43 : n0 ≤ b43 := Nat.le_trans Z33 (Nat.le_of_eq g43.symm)
  have sz_b43 : h0.size ≤ b43 := Nat.le_trans K34.1 (Nat.le_of_eq g43.symm)
  have Z44 : n0 ≤ h43.size := Nat.le_trans Z33 E43.1
  have K45 : Keep h0 h43 [] := K34.ext E43
  have f_46 : Arv Z h43 b43 k43 .double (3 : Int32) [(.double (FP.l2d 0)), (.double (FP.l2d 0)), (.double (FP.l2d 0))] (.double (FP.l2d 0)) := (Arv.newD A43 (by decide)).pad (pad_rep [] (.double (FP.l2d 0)) 3)
  show Good p e below _ (T43.setTop (mkF m 34 #[.val (.ref r0), .val (.ref b15), .val (.ref r0), .val (.int (2 : Int32)), .val (.int (1 : Int32)), .val (.double (own_R 1 x1)), .second, .val (.ref b15), .val (.int (1 : Int32))] [(.ref b43)]))
  refine Good.back (fun _ k => XS.astore X43.here hx rfl (hb hby own_d1_34) rfl rfl (l' := #[.val (.ref r0), .val (.ref b15), .val (.ref r0), .val (.int (2 : Int32)), .val (.int (1 : Int32)), .val (.double (own_R 1 x1)), .second, .val (.ref b43), .val (.int (1 : Int32))]) rfl k) ?_
  show Good p e below _ (T43.setTop (mkF m 36 #[.val (.ref r0), .val (.ref b15), .val (.ref r0), .val (.int (2 : Int32)), .val (.int (1 : Int32)), .val (.double (own_R 1 x1)), .second, .val (.ref b43), .val (.int (1 : Int32))] []))
  refine Good.back (fun _ k => XS.iconst X43.here hx rfl (hb hby own_d1_36) k) ?_
  show Good p e below _ (T43.setTop (mkF m 37 #[.val (.ref r0), .val (.ref b15), .val (.ref r0), .val (.int (2 : Int32)), .val (.int (1 : Int32)), .val (.double (own_R 1 x1)), .second, .val (.ref b43), .val (.int (1 : Int32))] [(.int (0 : Int32))]))
  refine Good.back (fun _ k => XS.istore X43.here hx rfl (hb hby own_d1_37) rfl (l' := #[.val (.ref r0), .val (.ref b15), .val (.ref r0), .val (.int (2 : Int32)), .val (.int (1 : Int32)), .val (.double (own_R 1 x1)), .second, .val (.ref b43), .val (.int (0 : Int32))]) rfl k) ?_
  show Good p e below _ (T43.setTop (mkF m 39 #[.val (.ref r0), .val (.ref b15), .val (.ref r0), .val (.int (2 : Int32)), .val (.int (1 : Int32)), .val (.double (own_R 1 x1)), .second, .val (.ref b43), .val (.int (0 : Int32))] []))
  refine Good.back (fun _ k => XS.iload X43.here hx rfl (hb hby own_d1_39) rfl k) ?_
  show Good p e below _ (T43.setTop (mkF m 41 #[.val (.ref r0), .val (.ref b15), .val (.ref r0), .val (.int (2 : Int32)), .val (.int (1 : Int32)), .val (.double (own_R 1 x1)), .second, .val (.ref b43), .val (.int (0 : Int32))] [(.int (0 : Int32))]))
  refine Good.back (fun _ k => XS.aloadN X43.here hx rfl (hb hby own_d1_41) rfl rfl k) ?_
  show Good p e below _ (T43.setTop (mkF m 42 #[.val (.ref r0), .val (.ref b15), .val (.ref r0), .val (.int (2 : Int32)), .val (.int (1 : Int32)), .val (.double (own_R 1 x1)), .second, .val (.ref b43), .val (.int (0 : Int32))] [(.ref b15), (.int (0 : Int32))]))
  have f_47 : Arv Z h43 b15 k15 .double (2 : Int32) [(.double (own_R 1 (16 - x0))), (.double (own_R 1 x0))] (.double (FP.l2d 0)) := Arv.ext f_32 E43
  have fc48 := f_47
  obtain ⟨cl48, Ar48, qk48, S48, N48', H48, G48⟩ := fc48
  refine Good.back (X43.arraylength hx (by rw [e43]; exact Ar48.1) (State.isArrayOf_alike hZ.alike Ar48.2.1) (g := (mkF m 42 #[.val (.ref r0), .val (.ref b15), .val (.ref r0), .val (.int (2 : Int32)), .val (.int (1 : Int32)), .val (.double (own_R 1 x1)), .second, .val (.ref b43), .val (.int (0 : Int32))] [(.ref b15), (.int (0 : Int32))])) rfl rfl (hb hby own_d1_42)) ?_
  rw [len_of S48 N48']
  show Good p e below _ (T43.setTop (mkF m 43 #[.val (.ref r0), .val (.ref b15), .val (.ref r0), .val (.int (2 : Int32)), .val (.int (1 : Int32)), .val (.double (own_R 1 x1)), .second, .val (.ref b43), .val (.int (0 : Int32))] [(.int (2 : Int32)), (.int (0 : Int32))]))
  refine Good.back (fun _ k => XS.icmpNo X43.here hx rfl (hb hby own_d1_43) rfl (tlt (by decide : ((0 : Int32) < (2 : Int32)))).2.1 k) ?_
  show Good p e below _ (T43.setTop (mkF m 46 #[.val (.ref r0), .val (.ref b15), .val (.ref r0), .val (.int (2 : Int32)), .val (.int (1 : Int32)), .val (.double (own_R 1 x1)), .second, .val (.ref b43), .val (.int (0 : Int32))] []))
  refine Good.back (fun _ k => XS.aload X43.here hx rfl (hb hby own_d1_46) rfl rfl k) ?_
  show Good p e below _ (T43.setTop (mkF m 48 #[.val (.ref r0), .val (.ref b15), .val (.ref r0), .val (.int (2 : Int32)), .val (.int (1 : Int32)), .val (.double (own_R 1 x1)), .second, .val (.ref b43), .val (.int (0 : Int32))] [(.ref b43)]))
  refine Good.back (fun _ k => XS.iload X43.here hx rfl (hb hby own_d1_48) rfl k) ?_
  show Good p e below _ (T43.setTop (mkF m 50 #[.val (.ref r0), .val (.ref b15), .val (.ref r0), .val (.int (2 : Int32)), .val (.int (1 : Int32)), .val (.double (own_R 1 x1)), .second, .val (.ref b43), .val (.int (0 : Int32))] [(.int (0 : Int32)), (.ref b43)]))
  refine Good.back (fun _ k => Jvm.Free.XT.dup2 X43.here hx rfl (hb hby own_d1_50) rfl rfl rfl k) ?_
  show Good p e below _ (T43.setTop (mkF m 51 #[.val (.ref r0), .val (.ref b15), .val (.ref r0), .val (.int (2 : Int32)), .val (.int (1 : Int32)), .val (.double (own_R 1 x1)), .second, .val (.ref b43), .val (.int (0 : Int32))] [(.int (0 : Int32)), (.ref b43), (.int (0 : Int32)), (.ref b43)]))
  have fc49 := f_46
  obtain ⟨cl49, Ar49, qk49, S49, N49', H49, G49⟩ := fc49
  have hin49 : ¬ ((0 : Int32) < 0 ∨ cl49.slots.size ≤ ((0 : Int32)).toNatClampNeg) := inb_of S49 ⟨by decide, by decide⟩
  have hat49 : cl49.slots[((0 : Int32)).toNatClampNeg]? = some (.double (FP.l2d 0)) := Has.at H49 hin49 rfl
  refine Good.back (X43.daload hx (j := (0 : Int32)) (v := (.double (FP.l2d 0))) (by rw [e43]; exact Ar49.1) (State.isArrayOf_alike hZ.alike Ar49.2.1) Ar49.2.2 hin49 hat49 (g := (mkF m 51 #[.val (.ref r0), .val (.ref b15), .val (.ref r0), .val (.int (2 : Int32)), .val (.int (1 : Int32)), .val (.double (own_R 1 x1)), .second, .val (.ref b43), .val (.int (0 : Int32))] [(.int (0 : Int32)), (.ref b43), (.int (0 : Int32)), (.ref b43)])) rfl rfl (hb hby own_d1_51)) ?_
  show Good p e below _ (T43.setTop (mkF m 52 #[.val (.ref r0), .val (.ref b15), .val (.ref r0), .val (.int (2 : Int32)), .val (.int (1 : Int32)), .val (.double (own_R 1 x1)), .second, .val (.ref b43), .val (.int (0 : Int32))] [(.double (FP.l2d 0)), (.int (0 : Int32)), (.ref b43)]))
  refine Good.back (fun _ k => XS.aloadN X43.here hx rfl (hb hby own_d1_52) rfl rfl k) ?_
  show Good p e below _ (T43.setTop (mkF m 53 #[.val (.ref r0), .val (.ref b15), .val (.ref r0), .val (.int (2 : Int32)), .val (.int (1 : Int32)), .val (.double (own_R 1 x1)), .second, .val (.ref b43), .val (.int (0 : Int32))] [(.ref b15), (.double (FP.l2d 0)), (.int (0 : Int32)), (.ref b43)]))
  refine Good.back (fun _ k => XS.iload X43.here hx rfl (hb hby own_d1_53) rfl k) ?_
  show Good p e below _ (T43.setTop (mkF m 55 #[.val (.ref r0), .val (.ref b15), .val (.ref r0), .val (.int (2 : Int32)), .val (.int (1 : Int32)), .val (.double (own_R 1 x1)), .second, .val (.ref b43), .val (.int (0 : Int32))] [(.int (0 : Int32)), (.ref b15), (.double (FP.l2d 0)), (.int (0 : Int32)), (.ref b43)]))
  have fc50 := f_47
  obtain ⟨cl50, Ar50, qk50, S50, N50', H50, G50⟩ := fc50
  have hin50 : ¬ ((0 : Int32) < 0 ∨ cl50.slots.size ≤ ((0 : Int32)).toNatClampNeg) := inb_of S50 ⟨by decide, by decide⟩
  have hat50 : cl50.slots[((0 : Int32)).toNatClampNeg]? = some (.double (own_R 1 (16 - x0))) := Has.at H50 hin50 rfl
  refine Good.back (X43.daload hx (j := (0 : Int32)) (v := (.double (own_R 1 (16 - x0)))) (by rw [e43]; exact Ar50.1) (State.isArrayOf_alike hZ.alike Ar50.2.1) Ar50.2.2 hin50 hat50 (g := (mkF m 55 #[.val (.ref r0), .val (.ref b15), .val (.ref r0), .val (.int (2 : Int32)), .val (.int (1 : Int32)), .val (.double (own_R 1 x1)), .second, .val (.ref b43), .val (.int (0 : Int32))] [(.int (0 : Int32)), (.ref b15), (.double (FP.l2d 0)), (.int (0 : Int32)), (.ref b43)])) rfl rfl (hb hby own_d1_55)) ?_
  show Good p e below _ (T43.setTop (mkF m 56 #[.val (.ref r0), .val (.ref b15), .val (.ref r0), .val (.int (2 : Int32)), .val (.int (1 : Int32)), .val (.double (own_R 1 x1)), .second, .val (.ref b43), .val (.int (0 : Int32))] [(.double (own_R 1 (16 - x0))), (.double (FP.l2d 0)), (.int (0 : Int32)), (.ref b43)]))
  refine Good.back (fun _ k => XS.dconst1 X43.here hx rfl (hb hby own_d1_56) (v := (FP.l2d (1 : Int64))) (by decide +kernel) k) ?_
  show Good p e below _ (T43.setTop (mkF m 57 #[.val (.ref r0), .val (.ref b15), .val (.ref r0), .val (.int (2 : Int32)), .val (.int (1 : Int32)), .val (.double (own_R 1 x1)), .second, .val (.ref b43), .val (.int (0 : Int32))] [(.double (FP.l2d (1 : Int64))), (.double (own_R 1 (16 - x0))), (.double (FP.l2d 0)), (.int (0 : Int32)), (.ref b43)]))
  refine Good.back (fun _ k => XS.dload X43.here hx rfl (hb hby own_d1_57) rfl k) ?_
  show Good p e below _ (T43.setTop (mkF m 59 #[.val (.ref r0), .val (.ref b15), .val (.ref r0), .val (.int (2 : Int32)), .val (.int (1 : Int32)), .val (.double (own_R 1 x1)), .second, .val (.ref b43), .val (.int (0 : Int32))] [(.double (own_R 1 x1)), (.double (FP.l2d (1 : Int64))), (.double (own_R 1 (16 - x0))), (.double (FP.l2d 0)), (.int (0 : Int32)), (.ref b43)]))
  refine Good.back (fun _ k => XS.dsubS X43.here hx rfl (hb hby own_d1_59) rfl (own_Rsub hx1 ▸ own_Rnn (Nat.lt_of_le_of_lt (Nat.sub_le 16 x1) (by decide))) (own_Rsub hx1) k) ?_
  show Good p e below _ (T43.setTop (mkF m 60 #[.val (.ref r0), .val (.ref b15), .val (.ref r0), .val (.int (2 : Int32)), .val (.int (1 : Int32)), .val (.double (own_R 1 x1)), .second, .val (.ref b43), .val (.int (0 : Int32))] [(.double (own_R 1 (16 - x1))), (.double (own_R 1 (16 - x0))), (.double (FP.l2d 0)), (.int (0 : Int32)), (.ref b43)]))
  have hb51 := Nat.mul_le_mul (Nat.sub_le 16 x0) (Nat.sub_le 16 x1)
  refine Good.back (fun _ k => XS.dmulS X43.here hx rfl (hb hby own_d1_60) rfl ((own_Rmul (d := 1) (f := 1) (by decide) (Nat.lt_of_le_of_lt (Nat.sub_le 16 x0) (by decide)) (Nat.lt_of_le_of_lt (Nat.sub_le 16 x1) (by decide))).symm ▸ own_Rnn (Nat.lt_of_le_of_lt hb51 (by decide))) (own_Rmul (d := 1) (f := 1) (by decide) (Nat.lt_of_le_of_lt (Nat.sub_le 16 x0) (by decide)) (Nat.lt_of_le_of_lt (Nat.sub_le 16 x1) (by decide))) k) ?_
  show Good p e below _ (T43.setTop (mkF m 61 #[.val (.ref r0), .val (.ref b15), .val (.ref r0), .val (.int (2 : Int32)), .val (.int (1 : Int32)), .val (.double (own_R 1 x1)), .second, .val (.ref b43), .val (.int (0 : Int32))] [(.double (own_R 2 ((16 - x0) * (16 - x1)))), (.double (FP.l2d 0)), (.int (0 : Int32)), (.ref b43)]))
  refine Good.back (fun _ k => XS.daddS X43.here hx rfl (hb hby own_d1_61) rfl ((own_Radd0 (Nat.lt_of_le_of_lt hb51 (by decide))).symm ▸ own_Rnn (Nat.lt_of_le_of_lt hb51 (by decide))) (own_Radd0 (Nat.lt_of_le_of_lt hb51 (by decide))) k) ?_
  show Good p e below _ (T43.setTop (mkF m 62 #[.val (.ref r0), .val (.ref b15), .val (.ref r0), .val (.int (2 : Int32)), .val (.int (1 : Int32)), .val (.double (own_R 1 x1)), .second, .val (.ref b43), .val (.int (0 : Int32))] [(.double (own_R 2 ((16 - x0) * (16 - x1)))), (.int (0 : Int32)), (.ref b43)]))
  have fc52 := f_46
  obtain ⟨cl52, Ar52, qk52, S52, N52', H52, G52⟩ := fc52
  have hin52 : ¬ ((0 : Int32) < 0 ∨ cl52.slots.size ≤ ((0 : Int32)).toNatClampNeg) := inb_of S52 ⟨by decide, by decide⟩
  obtain ⟨T52, h52, X52, e52, W52, st52⟩ := stD X43 hx hZ e43 Ar52 (j := (0 : Int32)) hin52 (g := (mkF m 62 #[.val (.ref r0), .val (.ref b15), .val (.ref r0), .val (.int (2 : Int32)), .val (.int (1 : Int32)), .val (.double (own_R 1 x1)), .second, .val (.ref b43), .val (.int (0 : Int32))] [(.double (own_R 2 ((16 - x0) * (16 - x1)))), (.int (0 : Int32)), (.ref b43)])) rfl rfl (hb hby own_d1_62)
  refine Good.back st52 ?_
  have f_53 : Arv Z h52 b43 k43 .double (3 : Int32) [(.double (own_R 2 ((16 - x0) * (16 - x1)))), (.double (FP.l2d 0)), (.double (FP.l2d 0))] (.double (FP.l2d 0)) := Arv.set Ar52 qk52 S52 N52' H52 G52 rfl W52 0 rfl (Nat.le_of_ble_eq_true rfl)
  have N52 := Fr.snoc X52 N31 g_b43
  have Z54 : n0 ≤ h52.size := Nat.le_trans Z44 (Keep.of_wr W52).1
  have K55 : Keep h0 h52 [] := K45.wr W52 (Or.inr sz_b43)
  show Good p e below _ (T52.setTop (mkF m 63 #[.val (.ref r0), .val (.ref b15), .val (.ref r0), .val (.int (2 : Int32)), .val (.int (1 : Int32)), .val (.double (own_R 1 x1)), .second, .val (.ref b43), .val (.int (0 : Int32))] []))
  refine Good.back (fun _ k => XS.aload X52.here hx rfl (hb hby own_d1_63) rfl rfl k) ?_
  show Good p e below _ (T52.setTop (mkF m 65 #[.val (.ref r0), .val (.ref b15), .val (.ref r0), .val (.int (2 : Int32)), .val (.int (1 : Int32)), .val (.double (own_R 1 x1)), .second, .val (.ref b43), .val (.int (0 : Int32))] [(.ref b43)]))
  refine Good.back (fun _ k => XS.iload X52.here hx rfl (hb hby own_d1_65) rfl k) ?_
  show Good p e below _ (T52.setTop (mkF m 67 #[.val (.ref r0), .val (.ref b15), .val (.ref r0), .val (.int (2 : Int32)), .val (.int (1 : Int32)), .val (.double (own_R 1 x1)), .second, .val (.ref b43), .val (.int (0 : Int32))] [(.int (0 : Int32)), (.ref b43)]))
  refine Good.back (fun _ k => XS.iconst X52.here hx rfl (hb hby own_d1_67) k) ?_
  show Good p e below _ (T52.setTop (mkF m 68 #[.val (.ref r0), .val (.ref b15), .val (.ref r0), .val (.int (2 : Int32)), .val (.int (1 : Int32)), .val (.double (own_R 1 x1)), .second, .val (.ref b43), .val (.int (0 : Int32))] [(.int (1 : Int32)), (.int (0 : Int32)), (.ref b43)]))
  refine Good.back (fun _ k => XS.iadd X52.here hx rfl (hb hby own_d1_68) rfl k) ?_
  show Good p e below _ (T52.setTop (mkF m 69 #[.val (.ref r0), .val (.ref b15), .val (.ref r0), .val (.int (2 : Int32)), .val (.int (1 : Int32)), .val (.double (own_R 1 x1)), .second, .val (.ref b43), .val (.int (0 : Int32))] [(.int ((0 : Int32) + (1 : Int32))), (.ref b43)]))
  rw [show (((0 : Int32) + (1 : Int32)) : Int32) = (1 : Int32) from by decide]
  show Good p e below _ (T52.setTop (mkF m 69 #[.val (.ref r0), .val (.ref b15), .val (.ref r0), .val (.int (2 : Int32)), .val (.int (1 : Int32)), .val (.double (own_R 1 x1)), .second, .val (.ref b43), .val (.int (0 : Int32))] [(.int (1 : Int32)), (.ref b43)]))
  refine Good.back (fun _ k => Jvm.Free.XT.dup2 X52.here hx rfl (hb hby own_d1_69) rfl rfl rfl k) ?_
  show Good p e below _ (T52.setTop (mkF m 70 #[.val (.ref r0), .val (.ref b15), .val (.ref r0), .val (.int (2 : Int32)), .val (.int (1 : Int32)), .val (.double (own_R 1 x1)), .second, .val (.ref b43), .val (.int (0 : Int32))] [(.int (1 : Int32)), (.ref b43), (.int (1 : Int32)), (.ref b43)]))
  have fc56 := f_53
  obtain ⟨cl56, Ar56, qk56, S56, N56', H56, G56⟩ := fc56
  have hin56 : ¬ ((1 : Int32) < 0 ∨ cl56.slots.size ≤ ((1 : Int32)).toNatClampNeg) := inb_of S56 ⟨by decide, by decide⟩
  have hat56 : cl56.slots[((1 : Int32)).toNatClampNeg]? = some (.double (FP.l2d 0)) := Has.at H56 hin56 rfl
  refine Good.back (X52.daload hx (j := (1 : Int32)) (v := (.double (FP.l2d 0))) (by rw [e52]; exact Ar56.1) (State.isArrayOf_alike hZ.alike Ar56.2.1) Ar56.2.2 hin56 hat56 (g := (mkF m 70 #[.val (.ref r0), .val (.ref b15), .val (.ref r0), .val (.int (2 : Int32)), .val (.int (1 : Int32)), .val (.double (own_R 1 x1)), .second, .val (.ref b43), .val (.int (0 : Int32))] [(.int (1 : Int32)), (.ref b43), (.int (1 : Int32)), (.ref b43)])) rfl rfl (hb hby own_d1_70)) ?_
  show Good p e below _ (T52.setTop (mkF m 71 #[.val (.ref r0), .val (.ref b15), .val (.ref r0), .val (.int (2 : Int32)), .val (.int (1 : Int32)), .val (.double (own_R 1 x1)), .second, .val (.ref b43), .val (.int (0 : Int32))] [(.double (FP.l2d 0)), (.int (1 : Int32)), (.ref b43)]))
  refine Good.back (fun _ k => XS.aloadN X52.here hx rfl (hb hby own_d1_71) rfl rfl k) ?_
  show Good p e below _ (T52.setTop (mkF m 72 #[.val (.ref r0), .val (.ref b15), .val (.ref r0), .val (.int (2 : Int32)), .val (.int (1 : Int32)), .val (.double (own_R 1 x1)), .second, .val (.ref b43), .val (.int (0 : Int32))] [(.ref b15), (.double (FP.l2d 0)), (.int (1 : Int32)), (.ref b43)]))
  refine Good.back (fun _ k => XS.iload X52.here hx rfl (hb hby own_d1_72) rfl k) ?_
  show Good p e below _ (T52.setTop (mkF m 74 #[.val (.ref r0), .val (.ref b15), .val (.ref r0), .val (.int (2 : Int32)), .val (.int (1 : Int32)), .val (.double (own_R 1 x1)), .second, .val (.ref b43), .val (.int (0 : Int32))] [(.int (0 : Int32)), (.ref b15), (.double (FP.l2d 0)), (.int (1 : Int32)), (.ref b43)]))
  have ne_b15_b43_58 : b15 ≠ b43 := Nat.ne_of_lt (Nat.lt_of_lt_of_le f_32.lt (Nat.le_of_eq g43.symm))
  have f_57 : Arv Z h52 b15 k15 .double (2 : Int32) [(.double (own_R 1 (16 - x0))), (.double (own_R 1 x0))] (.double (FP.l2d 0)) := Arv.other f_47 W52 ne_b15_b43_58
  have fc59 := f_57
  obtain ⟨cl59, Ar59, qk59, S59, N59', H59, G59⟩ := fc59
  have hin59 : ¬ ((0 : Int32) < 0 ∨ cl59.slots.size ≤ ((0 : Int32)).toNatClampNeg) := inb_of S59 ⟨by decide, by decide⟩
  have hat59 : cl59.slots[((0 : Int32)).toNatClampNeg]? = some (.double (own_R 1 (16 - x0))) := Has.at H59 hin59 rfl
  refine Good.back (X52.daload hx (j := (0 : Int32)) (v := (.double (own_R 1 (16 - x0)))) (by rw [e52]; exact Ar59.1) (State.isArrayOf_alike hZ.alike Ar59.2.1) Ar59.2.2 hin59 hat59 (g := (mkF m 74 #[.val (.ref r0), .val (.ref b15), .val (.ref r0), .val (.int (2 : Int32)), .val (.int (1 : Int32)), .val (.double (own_R 1 x1)), .second, .val (.ref b43), .val (.int (0 : Int32))] [(.int (0 : Int32)), (.ref b15), (.double (FP.l2d 0)), (.int (1 : Int32)), (.ref b43)])) rfl rfl (hb hby own_d1_74)) ?_
  show Good p e below _ (T52.setTop (mkF m 75 #[.val (.ref r0), .val (.ref b15), .val (.ref r0), .val (.int (2 : Int32)), .val (.int (1 : Int32)), .val (.double (own_R 1 x1)), .second, .val (.ref b43), .val (.int (0 : Int32))] [(.double (own_R 1 (16 - x0))), (.double (FP.l2d 0)), (.int (1 : Int32)), (.ref b43)]))
  refine Good.back (fun _ k => XS.dload X52.here hx rfl (hb hby own_d1_75) rfl k) ?_
  show Good p e below _ (T52.setTop (mkF m 77 #[.val (.ref r0), .val (.ref b15), .val (.ref r0), .val (.int (2 : Int32)), .val (.int (1 : Int32)), .val (.double (own_R 1 x1)), .second, .val (.ref b43), .val (.int (0 : Int32))] [(.double (own_R 1 x1)), (.double (own_R 1 (16 - x0))), (.double (FP.l2d 0)), (.int (1 : Int32)), (.ref b43)]))
  have hb60 := Nat.mul_le_mul (Nat.sub_le 16 x0) hx1
  refine Good.back (fun _ k => XS.dmulS X52.here hx rfl (hb hby own_d1_77) rfl ((own_Rmul (d := 1) (f := 1) (by decide) (Nat.lt_of_le_of_lt (Nat.sub_le 16 x0) (by decide)) (Nat.lt_of_le_of_lt hx1 (by decide))).symm ▸ own_Rnn (Nat.lt_of_le_of_lt hb60 (by decide))) (own_Rmul (d := 1) (f := 1) (by decide) (Nat.lt_of_le_of_lt (Nat.sub_le 16 x0) (by decide)) (Nat.lt_of_le_of_lt hx1 (by decide))) k) ?_
  show Good p e below _ (T52.setTop (mkF m 78 #[.val (.ref r0), .val (.ref b15), .val (.ref r0), .val (.int (2 : Int32)), .val (.int (1 : Int32)), .val (.double (own_R 1 x1)), .second, .val (.ref b43), .val (.int (0 : Int32))] [(.double (own_R 2 ((16 - x0) * x1))), (.double (FP.l2d 0)), (.int (1 : Int32)), (.ref b43)]))
  refine Good.back (fun _ k => XS.daddS X52.here hx rfl (hb hby own_d1_78) rfl ((own_Radd0 (Nat.lt_of_le_of_lt hb60 (by decide))).symm ▸ own_Rnn (Nat.lt_of_le_of_lt hb60 (by decide))) (own_Radd0 (Nat.lt_of_le_of_lt hb60 (by decide))) k) ?_
  show Good p e below _ (T52.setTop (mkF m 79 #[.val (.ref r0), .val (.ref b15), .val (.ref r0), .val (.int (2 : Int32)), .val (.int (1 : Int32)), .val (.double (own_R 1 x1)), .second, .val (.ref b43), .val (.int (0 : Int32))] [(.double (own_R 2 ((16 - x0) * x1))), (.int (1 : Int32)), (.ref b43)]))
  have fc61 := f_53
  obtain ⟨cl61, Ar61, qk61, S61, N61', H61, G61⟩ := fc61
  have hin61 : ¬ ((1 : Int32) < 0 ∨ cl61.slots.size ≤ ((1 : Int32)).toNatClampNeg) := inb_of S61 ⟨by decide, by decide⟩
  obtain ⟨T61, h61, X61, e61, W61, st61⟩ := stD X52 hx hZ e52 Ar61 (j := (1 : Int32)) hin61 (g := (mkF m 79 #[.val (.ref r0), .val (.ref b15), .val (.ref r0), .val (.int (2 : Int32)), .val (.int (1 : Int32)), .val (.double (own_R 1 x1)), .second, .val (.ref b43), .val (.int (0 : Int32))] [(.double (own_R 2 ((16 - x0) * x1))), (.int (1 : Int32)), (.ref b43)])) rfl rfl (hb hby own_d1_79)
  refine Good.back st61 ?_
  have f_62 : Arv Z h61 b43 k43 .double (3 : Int32) [(.double (own_R 2 ((16 - x0) * (16 - x1)))), (.double (own_R 2 ((16 - x0) * x1))), (.double (FP.l2d 0))] (.double (FP.l2d 0)) := Arv.set Ar61 qk61 S61 N61' H61 G61 rfl W61 1 rfl (Nat.le_of_ble_eq_true rfl)
  have N61 := Fr.snoc X61 N52 g_b43
  have Z63 : n0 ≤ h61.size := Nat.le_trans Z54 (Keep.of_wr W61).1
  have K64 : Keep h0 h61 [] := K55.wr W61 (Or.inr sz_b43)
  show Good p e below _ (T61.setTop (mkF m 80 #[.val (.ref r0), .val (.ref b15), .val (.ref r0), .val (.int (2 : Int32)), .val (.int (1 : Int32)), .val (.double (own_R 1 x1)), .second, .val (.ref b43), .val (.int (0 : Int32))] []))
  refine Good.back (fun _ k => XS.iinc X61.here hx rfl (hb hby own_d1_80) rfl (l' := #[.val (.ref r0), .val (.ref b15), .val (.ref r0), .val (.int (2 : Int32)), .val (.int (1 : Int32)), .val (.double (own_R 1 x1)), .second, .val (.ref b43), .val (.int ((0 : Int32) + (1 : Int32)))]) rfl k) ?_
  show Good p e below _ (T61.setTop (mkF m 83 #[.val (.ref r0), .val (.ref b15), .val (.ref r0), .val (.int (2 : Int32)), .val (.int (1 : Int32)), .val (.double (own_R 1 x1)), .second, .val (.ref b43), .val (.int ((0 : Int32) + (1 : Int32)))] []))
  rw [show (((0 : Int32) + (1 : Int32)) : Int32) = (1 : Int32) from by decide]
  show Good p e below _ (T61.setTop (mkF m 83 #[.val (.ref r0), .val (.ref b15), .val (.ref r0), .val (.int (2 : Int32)), .val (.int (1 : Int32)), .val (.double (own_R 1 x1)), .second, .val (.ref b43), .val (.int (1 : Int32))] []))
  refine Good.back (fun _ k => XS.goto X61.here hx rfl (pc0 := 83) (pc' := 39) rfl (hb hby own_d1_83) (by decide) (by decide) k) ?_
  show Good p e below _ (T61.setTop (mkF m 39 #[.val (.ref r0), .val (.ref b15), .val (.ref r0), .val (.int (2 : Int32)), .val (.int (1 : Int32)), .val (.double (own_R 1 x1)), .second, .val (.ref b43), .val (.int (1 : Int32))] []))
  refine Good.back (fun _ k => XS.iload X61.here hx rfl (hb hby own_d1_39) rfl k) ?_
  show Good p e below _ (T61.setTop (mkF m 41 #[.val (.ref r0), .val (.ref b15), .val (.ref r0), .val (.int (2 : Int32)), .val (.int (1 : Int32)), .val (.double (own_R 1 x1)), .second, .val (.ref b43), .val (.int (1 : Int32))] [(.int (1 : Int32))]))
  refine Good.back (fun _ k => XS.aloadN X61.here hx rfl (hb hby own_d1_41) rfl rfl k) ?_
  show Good p e below _ (T61.setTop (mkF m 42 #[.val (.ref r0), .val (.ref b15), .val (.ref r0), .val (.int (2 : Int32)), .val (.int (1 : Int32)), .val (.double (own_R 1 x1)), .second, .val (.ref b43), .val (.int (1 : Int32))] [(.ref b15), (.int (1 : Int32))]))
  have f_65 : Arv Z h61 b15 k15 .double (2 : Int32) [(.double (own_R 1 (16 - x0))), (.double (own_R 1 x0))] (.double (FP.l2d 0)) := Arv.other f_57 W61 ne_b15_b43_58
  have fc66 := f_65
  obtain ⟨cl66, Ar66, qk66, S66, N66', H66, G66⟩ := fc66
  refine Good.back (X61.arraylength hx (by rw [e61]; exact Ar66.1) (State.isArrayOf_alike hZ.alike Ar66.2.1) (g := (mkF m 42 #[.val (.ref r0), .val (.ref b15), .val (.ref r0), .val (.int (2 : Int32)), .val (.int (1 : Int32)), .val (.double (own_R 1 x1)), .second, .val (.ref b43), .val (.int (1 : Int32))] [(.ref b15), (.int (1 : Int32))])) rfl rfl (hb hby own_d1_42)) ?_
  rw [len_of S66 N66']
  show Good p e below _ (T61.setTop (mkF m 43 #[.val (.ref r0), .val (.ref b15), .val (.ref r0), .val (.int (2 : Int32)), .val (.int (1 : Int32)), .val (.double (own_R 1 x1)), .second, .val (.ref b43), .val (.int (1 : Int32))] [(.int (2 : Int32)), (.int (1 : Int32))]))
  refine Good.back (fun _ k => XS.icmpNo X61.here hx rfl (hb hby own_d1_43) rfl (tlt (by decide : ((1 : Int32) < (2 : Int32)))).2.1 k) ?_
  show Good p e below _ (T61.setTop (mkF m 46 #[.val (.ref r0), .val (.ref b15), .val (.ref r0), .val (.int (2 : Int32)), .val (.int (1 : Int32)), .val (.double (own_R 1 x1)), .second, .val (.ref b43), .val (.int (1 : Int32))] []))
  refine Good.back (fun _ k => XS.aload X61.here hx rfl (hb hby own_d1_46) rfl rfl k) ?_
  show Good p e below _ (T61.setTop (mkF m 48 #[.val (.ref r0), .val (.ref b15), .val (.ref r0), .val (.int (2 : Int32)), .val (.int (1 : Int32)), .val (.double (own_R 1 x1)), .second, .val (.ref b43), .val (.int (1 : Int32))] [(.ref b43)]))
  refine Good.back (fun _ k => XS.iload X61.here hx rfl (hb hby own_d1_48) rfl k) ?_
  show Good p e below _ (T61.setTop (mkF m 50 #[.val (.ref r0), .val (.ref b15), .val (.ref r0), .val (.int (2 : Int32)), .val (.int (1 : Int32)), .val (.double (own_R 1 x1)), .second, .val (.ref b43), .val (.int (1 : Int32))] [(.int (1 : Int32)), (.ref b43)]))
  refine Good.back (fun _ k => Jvm.Free.XT.dup2 X61.here hx rfl (hb hby own_d1_50) rfl rfl rfl k) ?_
  show Good p e below _ (T61.setTop (mkF m 51 #[.val (.ref r0), .val (.ref b15), .val (.ref r0), .val (.int (2 : Int32)), .val (.int (1 : Int32)), .val (.double (own_R 1 x1)), .second, .val (.ref b43), .val (.int (1 : Int32))] [(.int (1 : Int32)), (.ref b43), (.int (1 : Int32)), (.ref b43)]))
  have fc67 := f_62
  obtain ⟨cl67, Ar67, qk67, S67, N67', H67, G67⟩ := fc67
  have hin67 : ¬ ((1 : Int32) < 0 ∨ cl67.slots.size ≤ ((1 : Int32)).toNatClampNeg) := inb_of S67 ⟨by decide, by decide⟩
  have hat67 : cl67.slots[((1 : Int32)).toNatClampNeg]? = some (.double (own_R 2 ((16 - x0) * x1))) := Has.at H67 hin67 rfl
  refine Good.back (X61.daload hx (j := (1 : Int32)) (v := (.double (own_R 2 ((16 - x0) * x1)))) (by rw [e61]; exact Ar67.1) (State.isArrayOf_alike hZ.alike Ar67.2.1) Ar67.2.2 hin67 hat67 (g := (mkF m 51 #[.val (.ref r0), .val (.ref b15), .val (.ref r0), .val (.int (2 : Int32)), .val (.int (1 : Int32)), .val (.double (own_R 1 x1)), .second, .val (.ref b43), .val (.int (1 : Int32))] [(.int (1 : Int32)), (.ref b43), (.int (1 : Int32)), (.ref b43)])) rfl rfl (hb hby own_d1_51)) ?_
  show Good p e below _ (T61.setTop (mkF m 52 #[.val (.ref r0), .val (.ref b15), .val (.ref r0), .val (.int (2 : Int32)), .val (.int (1 : Int32)), .val (.double (own_R 1 x1)), .second, .val (.ref b43), .val (.int (1 : Int32))] [(.double (own_R 2 ((16 - x0) * x1))), (.int (1 : Int32)), (.ref b43)]))
  refine Good.back (fun _ k => XS.aloadN X61.here hx rfl (hb hby own_d1_52) rfl rfl k) ?_
  show Good p e below _ (T61.setTop (mkF m 53 #[.val (.ref r0), .val (.ref b15), .val (.ref r0), .val (.int (2 : Int32)), .val (.int (1 : Int32)), .val (.double (own_R 1 x1)), .second, .val (.ref b43), .val (.int (1 : Int32))] [(.ref b15), (.double (own_R 2 ((16 - x0) * x1))), (.int (1 : Int32)), (.ref b43)]))
  refine Good.back (fun _ k => XS.iload X61.here hx rfl (hb hby own_d1_53) rfl k) ?_
  show Good p e below _ (T61.setTop (mkF m 55 #[.val (.ref r0), .val (.ref b15), .val (.ref r0), .val (.int (2 : Int32)), .val (.int (1 : Int32)), .val (.double (own_R 1 x1)), .second, .val (.ref b43), .val (.int (1 : Int32))] [(.int (1 : Int32)), (.ref b15), (.double (own_R 2 ((16 - x0) * x1))), (.int (1 : Int32)), (.ref b43)]))
  have fc68 := f_65
  obtain ⟨cl68, Ar68, qk68, S68, N68', H68, G68⟩ := fc68
  have hin68 : ¬ ((1 : Int32) < 0 ∨ cl68.slots.size ≤ ((1 : Int32)).toNatClampNeg) := inb_of S68 ⟨by decide, by decide⟩
  have hat68 : cl68.slots[((1 : Int32)).toNatClampNeg]? = some (.double (own_R 1 x0)) := Has.at H68 hin68 rfl
  refine Good.back (X61.daload hx (j := (1 : Int32)) (v := (.double (own_R 1 x0))) (by rw [e61]; exact Ar68.1) (State.isArrayOf_alike hZ.alike Ar68.2.1) Ar68.2.2 hin68 hat68 (g := (mkF m 55 #[.val (.ref r0), .val (.ref b15), .val (.ref r0), .val (.int (2 : Int32)), .val (.int (1 : Int32)), .val (.double (own_R 1 x1)), .second, .val (.ref b43), .val (.int (1 : Int32))] [(.int (1 : Int32)), (.ref b15), (.double (own_R 2 ((16 - x0) * x1))), (.int (1 : Int32)), (.ref b43)])) rfl rfl (hb hby own_d1_55)) ?_
  show Good p e below _ (T61.setTop (mkF m 56 #[.val (.ref r0), .val (.ref b15), .val (.ref r0), .val (.int (2 : Int32)), .val (.int (1 : Int32)), .val (.double (own_R 1 x1)), .second, .val (.ref b43), .val (.int (1 : Int32))] [(.double (own_R 1 x0)), (.double (own_R 2 ((16 - x0) * x1))), (.int (1 : Int32)), (.ref b43)]))
  refine Good.back (fun _ k => XS.dconst1 X61.here hx rfl (hb hby own_d1_56) (v := (FP.l2d (1 : Int64))) (by decide +kernel) k) ?_
  show Good p e below _ (T61.setTop (mkF m 57 #[.val (.ref r0), .val (.ref b15), .val (.ref r0), .val (.int (2 : Int32)), .val (.int (1 : Int32)), .val (.double (own_R 1 x1)), .second, .val (.ref b43), .val (.int (1 : Int32))] [(.double (FP.l2d (1 : Int64))), (.double (own_R 1 x0)), (.double (own_R 2 ((16 - x0) * x1))), (.int (1 : Int32)), (.ref b43)]))
  refine Good.back (fun _ k => XS.dload X61.here hx rfl (hb hby own_d1_57) rfl k) ?_
  show Good p e below _ (T61.setTop (mkF m 59 #[.val (.ref r0), .val (.ref b15), .val (.ref r0), .val (.int (2 : Int32)), .val (.int (1 : Int32)), .val (.double (own_R 1 x1)), .second, .val (.ref b43), .val (.int (1 : Int32))] [(.double (own_R 1 x1)), (.double (FP.l2d (1 : Int64))), (.double (own_R 1 x0)), (.double (own_R 2 ((16 - x0) * x1))), (.int (1 : Int32)), (.ref b43)]))
  refine Good.back (fun _ k => XS.dsubS X61.here hx rfl (hb hby own_d1_59) rfl (own_Rsub hx1 ▸ own_Rnn (Nat.lt_of_le_of_lt (Nat.sub_le 16 x1) (by decide))) (own_Rsub hx1) k) ?_
  show Good p e below _ (T61.setTop (mkF m 60 #[.val (.ref r0), .val (.ref b15), .val (.ref r0), .val (.int (2 : Int32)), .val (.int (1 : Int32)), .val (.double (own_R 1 x1)), .second, .val (.ref b43), .val (.int (1 : Int32))] [(.double (own_R 1 (16 - x1))), (.double (own_R 1 x0)), (.double (own_R 2 ((16 - x0) * x1))), (.int (1 : Int32)), (.ref b43)]))
  have hb69 := Nat.mul_le_mul hx0 (Nat.sub_le 16 x1)
  refine Good.back (fun _ k => XS.dmulS X61.here hx rfl (hb hby own_d1_60) rfl ((own_Rmul (d := 1) (f := 1) (by decide) (Nat.lt_of_le_of_lt hx0 (by decide)) (Nat.lt_of_le_of_lt (Nat.sub_le 16 x1) (by decide))).symm ▸ own_Rnn (Nat.lt_of_le_of_lt hb69 (by decide))) (own_Rmul (d := 1) (f := 1) (by decide) (Nat.lt_of_le_of_lt hx0 (by decide)) (Nat.lt_of_le_of_lt (Nat.sub_le 16 x1) (by decide))) k) ?_
  show Good p e below _ (T61.setTop (mkF m 61 #[.val (.ref r0), .val (.ref b15), .val (.ref r0), .val (.int (2 : Int32)), .val (.int (1 : Int32)), .val (.double (own_R 1 x1)), .second, .val (.ref b43), .val (.int (1 : Int32))] [(.double (own_R 2 (x0 * (16 - x1)))), (.double (own_R 2 ((16 - x0) * x1))), (.int (1 : Int32)), (.ref b43)]))
  have hb70 := Nat.add_le_add hb60 hb69
  refine Good.back (fun _ k => XS.daddS X61.here hx rfl (hb hby own_d1_61) rfl ((own_Radd (Nat.lt_of_le_of_lt hb60 (by decide)) (Nat.lt_of_le_of_lt hb69 (by decide))).symm ▸ own_Rnn (Nat.lt_of_le_of_lt hb70 (by decide))) (own_Radd (Nat.lt_of_le_of_lt hb60 (by decide)) (Nat.lt_of_le_of_lt hb69 (by decide))) k) ?_
  show Good p e below _ (T61.setTop (mkF m 62 #[.val (.ref r0), .val (.ref b15), .val (.ref r0), .val (.int (2 : Int32)), .val (.int (1 : Int32)), .val (.double (own_R 1 x1)), .second, .val (.ref b43), .val (.int (1 : Int32))] [(.double (own_R 2 (((16 - x0) * x1) + (x0 * (16 - x1))))), (.int (1 : Int32)), (.ref b43)]))
  have fc71 := f_62
  obtain ⟨cl71, Ar71, qk71, S71, N71', H71, G71⟩ := fc71
  have hin71 : ¬ ((1 : Int32) < 0 ∨ cl71.slots.size ≤ ((1 : Int32)).toNatClampNeg) := inb_of S71 ⟨by decide, by decide⟩
  obtain ⟨T71, h71, X71, e71, W71, st71⟩ := stD X61 hx hZ e61 Ar71 (j := (1 : Int32)) hin71 (g := (mkF m 62 #[.val (.ref r0), .val (.ref b15), .val (.ref r0), .val (.int (2 : Int32)), .val (.int (1 : Int32)), .val (.double (own_R 1 x1)), .second, .val (.ref b43), .val (.int (1 : Int32))] [(.double (own_R 2 (((16 - x0) * x1) + (x0 * (16 - x1))))), (.int (1 : Int32)), (.ref b43)])) rfl rfl (hb hby own_d1_62)
  refine Good.back st71 ?_
  have f_72 : Arv Z h71 b43 k43 .double (3 : Int32) [(.double (own_R 2 ((16 - x0) * (16 - x1)))), (.double (own_R 2 (((16 - x0) * x1) + (x0 * (16 - x1))))), (.double (FP.l2d 0))] (.double (FP.l2d 0)) := Arv.set Ar71 qk71 S71 N71' H71 G71 rfl W71 1 rfl (Nat.le_of_ble_eq_true rfl)
  have N71 := Fr.snoc X71 N61 g_b43
  have Z73 : n0 ≤ h71.size := Nat.le_trans Z63 (Keep.of_wr W71).1
  have K74 : Keep h0 h71 [] := K64.wr W71 (Or.inr sz_b43)
  show Good p e below _ (T71.setTop (mkF m 63 #[.val (.ref r0), .val (.ref b15), .val (.ref r0), .val (.int (2 : Int32)), .val (.int (1 : Int32)), .val (.double (own_R 1 x1)), .second, .val (.ref b43), .val (.int (1 : Int32))] []))
  refine Good.back (fun _ k => XS.aload X71.here hx rfl (hb hby own_d1_63) rfl rfl k) ?_
  show Good p e below _ (T71.setTop (mkF m 65 #[.val (.ref r0), .val (.ref b15), .val (.ref r0), .val (.int (2 : Int32)), .val (.int (1 : Int32)), .val (.double (own_R 1 x1)), .second, .val (.ref b43), .val (.int (1 : Int32))] [(.ref b43)]))
  refine Good.back (fun _ k => XS.iload X71.here hx rfl (hb hby own_d1_65) rfl k) ?_
  show Good p e below _ (T71.setTop (mkF m 67 #[.val (.ref r0), .val (.ref b15), .val (.ref r0), .val (.int (2 : Int32)), .val (.int (1 : Int32)), .val (.double (own_R 1 x1)), .second, .val (.ref b43), .val (.int (1 : Int32))] [(.int (1 : Int32)), (.ref b43)]))
  refine Good.back (fun _ k => XS.iconst X71.here hx rfl (hb hby own_d1_67) k) ?_
  show Good p e below _ (T71.setTop (mkF m 68 #[.val (.ref r0), .val (.ref b15), .val (.ref r0), .val (.int (2 : Int32)), .val (.int (1 : Int32)), .val (.double (own_R 1 x1)), .second, .val (.ref b43), .val (.int (1 : Int32))] [(.int (1 : Int32)), (.int (1 : Int32)), (.ref b43)]))
  refine Good.back (fun _ k => XS.iadd X71.here hx rfl (hb hby own_d1_68) rfl k) ?_
  show Good p e below _ (T71.setTop (mkF m 69 #[.val (.ref r0), .val (.ref b15), .val (.ref r0), .val (.int (2 : Int32)), .val (.int (1 : Int32)), .val (.double (own_R 1 x1)), .second, .val (.ref b43), .val (.int (1 : Int32))] [(.int ((1 : Int32) + (1 : Int32))), (.ref b43)]))
  rw [show (((1 : Int32) + (1 : Int32)) : Int32) = (2 : Int32) from by decide]
  show Good p e below _ (T71.setTop (mkF m 69 #[.val (.ref r0), .val (.ref b15), .val (.ref r0), .val (.int (2 : Int32)), .val (.int (1 : Int32)), .val (.double (own_R 1 x1)), .second, .val (.ref b43), .val (.int (1 : Int32))] [(.int (2 : Int32)), (.ref b43)]))
  refine Good.back (fun _ k => Jvm.Free.XT.dup2 X71.here hx rfl (hb hby own_d1_69) rfl rfl rfl k) ?_
  show Good p e below _ (T71.setTop (mkF m 70 #[.val (.ref r0), .val (.ref b15), .val (.ref r0), .val (.int (2 : Int32)), .val (.int (1 : Int32)), .val (.double (own_R 1 x1)), .second, .val (.ref b43), .val (.int (1 : Int32))] [(.int (2 : Int32)), (.ref b43), (.int (2 : Int32)), (.ref b43)]))
  have fc75 := f_72
  obtain ⟨cl75, Ar75, qk75, S75, N75', H75, G75⟩ := fc75
  have hin75 : ¬ ((2 : Int32) < 0 ∨ cl75.slots.size ≤ ((2 : Int32)).toNatClampNeg) := inb_of S75 ⟨by decide, by decide⟩
  have hat75 : cl75.slots[((2 : Int32)).toNatClampNeg]? = some (.double (FP.l2d 0)) := Has.at H75 hin75 rfl
  refine Good.back (X71.daload hx (j := (2 : Int32)) (v := (.double (FP.l2d 0))) (by rw [e71]; exact Ar75.1) (State.isArrayOf_alike hZ.alike Ar75.2.1) Ar75.2.2 hin75 hat75 (g := (mkF m 70 #[.val (.ref r0), .val (.ref b15), .val (.ref r0), .val (.int (2 : Int32)), .val (.int (1 : Int32)), .val (.double (own_R 1 x1)), .second, .val (.ref b43), .val (.int (1 : Int32))] [(.int (2 : Int32)), (.ref b43), (.int (2 : Int32)), (.ref b43)])) rfl rfl (hb hby own_d1_70)) ?_
  show Good p e below _ (T71.setTop (mkF m 71 #[.val (.ref r0), .val (.ref b15), .val (.ref r0), .val (.int (2 : Int32)), .val (.int (1 : Int32)), .val (.double (own_R 1 x1)), .second, .val (.ref b43), .val (.int (1 : Int32))] [(.double (FP.l2d 0)), (.int (2 : Int32)), (.ref b43)]))
  refine Good.back (fun _ k => XS.aloadN X71.here hx rfl (hb hby own_d1_71) rfl rfl k) ?_
  show Good p e below _ (T71.setTop (mkF m 72 #[.val (.ref r0), .val (.ref b15), .val (.ref r0), .val (.int (2 : Int32)), .val (.int (1 : Int32)), .val (.double (own_R 1 x1)), .second, .val (.ref b43), .val (.int (1 : Int32))] [(.ref b15), (.double (FP.l2d 0)), (.int (2 : Int32)), (.ref b43)]))
  refine Good.back (fun _ k => XS.iload X71.here hx rfl (hb hby own_d1_72) rfl k) ?_
  show Good p e below _ (T71.setTop (mkF m 74 #[.val (.ref r0), .val (.ref b15), .val (.ref r0), .val (.int (2 : Int32)), .val (.int (1 : Int32)), .val (.double (own_R 1 x1)), .second, .val (.ref b43), .val (.int (1 : Int32))] [(.int (1 : Int32)), (.ref b15), (.double (FP.l2d 0)), (.int (2 : Int32)), (.ref b43)]))
  have f_76 : Arv Z h71 b15 k15 .double (2 : Int32) [(.double (own_R 1 (16 - x0))), (.double (own_R 1 x0))] (.double (FP.l2d 0)) := Arv.other f_65 W71 ne_b15_b43_58
  have fc77 := f_76
  obtain ⟨cl77, Ar77, qk77, S77, N77', H77, G77⟩ := fc77
  have hin77 : ¬ ((1 : Int32) < 0 ∨ cl77.slots.size ≤ ((1 : Int32)).toNatClampNeg) := inb_of S77 ⟨by decide, by decide⟩
  have hat77 : cl77.slots[((1 : Int32)).toNatClampNeg]? = some (.double (own_R 1 x0)) := Has.at H77 hin77 rfl
  refine Good.back (X71.daload hx (j := (1 : Int32)) (v := (.double (own_R 1 x0))) (by rw [e71]; exact Ar77.1) (State.isArrayOf_alike hZ.alike Ar77.2.1) Ar77.2.2 hin77 hat77 (g := (mkF m 74 #[.val (.ref r0), .val (.ref b15), .val (.ref r0), .val (.int (2 : Int32)), .val (.int (1 : Int32)), .val (.double (own_R 1 x1)), .second, .val (.ref b43), .val (.int (1 : Int32))] [(.int (1 : Int32)), (.ref b15), (.double (FP.l2d 0)), (.int (2 : Int32)), (.ref b43)])) rfl rfl (hb hby own_d1_74)) ?_
  show Good p e below _ (T71.setTop (mkF m 75 #[.val (.ref r0), .val (.ref b15), .val (.ref r0), .val (.int (2 : Int32)), .val (.int (1 : Int32)), .val (.double (own_R 1 x1)), .second, .val (.ref b43), .val (.int (1 : Int32))] [(.double (own_R 1 x0)), (.double (FP.l2d 0)), (.int (2 : Int32)), (.ref b43)]))
  refine Good.back (fun _ k => XS.dload X71.here hx rfl (hb hby own_d1_75) rfl k) ?_
  show Good p e below _ (T71.setTop (mkF m 77 #[.val (.ref r0), .val (.ref b15), .val (.ref r0), .val (.int (2 : Int32)), .val (.int (1 : Int32)), .val (.double (own_R 1 x1)), .second, .val (.ref b43), .val (.int (1 : Int32))] [(.double (own_R 1 x1)), (.double (own_R 1 x0)), (.double (FP.l2d 0)), (.int (2 : Int32)), (.ref b43)]))
  have hb78 := Nat.mul_le_mul hx0 hx1
  refine Good.back (fun _ k => XS.dmulS X71.here hx rfl (hb hby own_d1_77) rfl ((own_Rmul (d := 1) (f := 1) (by decide) (Nat.lt_of_le_of_lt hx0 (by decide)) (Nat.lt_of_le_of_lt hx1 (by decide))).symm ▸ own_Rnn (Nat.lt_of_le_of_lt hb78 (by decide))) (own_Rmul (d := 1) (f := 1) (by decide) (Nat.lt_of_le_of_lt hx0 (by decide)) (Nat.lt_of_le_of_lt hx1 (by decide))) k) ?_
  show Good p e below _ (T71.setTop (mkF m 78 #[.val (.ref r0), .val (.ref b15), .val (.ref r0), .val (.int (2 : Int32)), .val (.int (1 : Int32)), .val (.double (own_R 1 x1)), .second, .val (.ref b43), .val (.int (1 : Int32))] [(.double (own_R 2 (x0 * x1))), (.double (FP.l2d 0)), (.int (2 : Int32)), (.ref b43)]))
  refine Good.back (fun _ k => XS.daddS X71.here hx rfl (hb hby own_d1_78) rfl ((own_Radd0 (Nat.lt_of_le_of_lt hb78 (by decide))).symm ▸ own_Rnn (Nat.lt_of_le_of_lt hb78 (by decide))) (own_Radd0 (Nat.lt_of_le_of_lt hb78 (by decide))) k) ?_
  show Good p e below _ (T71.setTop (mkF m 79 #[.val (.ref r0), .val (.ref b15), .val (.ref r0), .val (.int (2 : Int32)), .val (.int (1 : Int32)), .val (.double (own_R 1 x1)), .second, .val (.ref b43), .val (.int (1 : Int32))] [(.double (own_R 2 (x0 * x1))), (.int (2 : Int32)), (.ref b43)]))
  have fc79 := f_72
  obtain ⟨cl79, Ar79, qk79, S79, N79', H79, G79⟩ := fc79
  have hin79 : ¬ ((2 : Int32) < 0 ∨ cl79.slots.size ≤ ((2 : Int32)).toNatClampNeg) := inb_of S79 ⟨by decide, by decide⟩
  obtain ⟨T79, h79, X79, e79, W79, st79⟩ := stD X71 hx hZ e71 Ar79 (j := (2 : Int32)) hin79 (g := (mkF m 79 #[.val (.ref r0), .val (.ref b15), .val (.ref r0), .val (.int (2 : Int32)), .val (.int (1 : Int32)), .val (.double (own_R 1 x1)), .second, .val (.ref b43), .val (.int (1 : Int32))] [(.double (own_R 2 (x0 * x1))), (.int (2 : Int32)), (.ref b43)])) rfl rfl (hb hby own_d1_79)
  refine Good.back st79 ?_
  have f_80 : Arv Z h79 b43 k43 .double (3 : Int32) [(.double (own_R 2 ((16 - x0) * (16 - x1)))), (.double (own_R 2 (((16 - x0) * x1) + (x0 * (16 - x1))))), (.double (own_R 2 (x0 * x1)))] (.double (FP.l2d 0)) := Arv.set Ar79 qk79 S79 N79' H79 G79 rfl W79 2 rfl (Nat.le_of_ble_eq_true rfl)
  have N79 := Fr.snoc X79 N71 g_b43
  have Z81 : n0 ≤ h79.size := Nat.le_trans Z73 (Keep.of_wr W79).1
  have K82 : Keep h0 h79 [] := K74.wr W79 (Or.inr sz_b43)
  show Good p e below _ (T79.setTop (mkF m 80 #[.val (.ref r0), .val (.ref b15), .val (.ref r0), .val (.int (2 : Int32)), .val (.int (1 : Int32)), .val (.double (own_R 1 x1)), .second, .val (.ref b43), .val (.int (1 : Int32))] []))
  refine Good.back (fun _ k => XS.iinc X79.here hx rfl (hb hby own_d1_80) rfl (l' := #[.val (.ref r0), .val (.ref b15), .val (.ref r0), .val (.int (2 : Int32)), .val (.int (1 : Int32)), .val (.double (own_R 1 x1)), .second, .val (.ref b43), .val (.int ((1 : Int32) + (1 : Int32)))]) rfl k) ?_
  show Good p e below _ (T79.setTop (mkF m 83 #[.val (.ref r0), .val (.ref b15), .val (.ref r0), .val (.int (2 : Int32)), .val (.int (1 : Int32)), .val (.double (own_R 1 x1)), .second, .val (.ref b43), .val (.int ((1 : Int32) + (1 : Int32)))] []))
  rw [show (((1 : Int32) + (1 : Int32)) : Int32) = (2 : Int32) from by decide]
  show Good p e below _ (T79.setTop (mkF m 83 #[.val (.ref r0), .val (.ref b15), .val (.ref r0), .val (.int (2 : Int32)), .val (.int (1 : Int32)), .val (.double (own_R 1 x1)), .second, .val (.ref b43), .val (.int (2 : Int32))] []))
  refine Good.back (fun _ k => XS.goto X79.here hx rfl (pc0 := 83) (pc' := 39) rfl (hb hby own_d1_83) (by decide) (by decide) k) ?_
  show Good p e below _ (T79.setTop (mkF m 39 #[.val (.ref r0), .val (.ref b15), .val (.ref r0), .val (.int (2 : Int32)), .val (.int (1 : Int32)), .val (.double (own_R 1 x1)), .second, .val (.ref b43), .val (.int (2 : Int32))] []))
  refine Good.back (fun _ k => XS.iload X79.here hx rfl (hb hby own_d1_39) rfl k) ?_
  show Good p e below _ (T79.setTop (mkF m 41 #[.val (.ref r0), .val (.ref b15), .val (.ref r0), .val (.int (2 : Int32)), .val (.int (1 : Int32)), .val (.double (own_R 1 x1)), .second, .val (.ref b43), .val (.int (2 : Int32))] [(.int (2 : Int32))]))
  refine Good.back (fun _ k => XS.aloadN X79.here hx rfl (hb hby own_d1_41) rfl rfl k) ?_
  show Good p e below _ (T79.setTop (mkF m 42 #[.val (.ref r0), .val (.ref b15), .val (.ref r0), .val (.int (2 : Int32)), .val (.int (1 : Int32)), .val (.double (own_R 1 x1)), .second, .val (.ref b43), .val (.int (2 : Int32))] [(.ref b15), (.int (2 : Int32))]))
  have f_83 : Arv Z h79 b15 k15 .double (2 : Int32) [(.double (own_R 1 (16 - x0))), (.double (own_R 1 x0))] (.double (FP.l2d 0)) := Arv.other f_76 W79 ne_b15_b43_58
  have fc84 := f_83
  obtain ⟨cl84, Ar84, qk84, S84, N84', H84, G84⟩ := fc84
  refine Good.back (X79.arraylength hx (by rw [e79]; exact Ar84.1) (State.isArrayOf_alike hZ.alike Ar84.2.1) (g := (mkF m 42 #[.val (.ref r0), .val (.ref b15), .val (.ref r0), .val (.int (2 : Int32)), .val (.int (1 : Int32)), .val (.double (own_R 1 x1)), .second, .val (.ref b43), .val (.int (2 : Int32))] [(.ref b15), (.int (2 : Int32))])) rfl rfl (hb hby own_d1_42)) ?_
  rw [len_of S84 N84']
  show Good p e below _ (T79.setTop (mkF m 43 #[.val (.ref r0), .val (.ref b15), .val (.ref r0), .val (.int (2 : Int32)), .val (.int (1 : Int32)), .val (.double (own_R 1 x1)), .second, .val (.ref b43), .val (.int (2 : Int32))] [(.int (2 : Int32)), (.int (2 : Int32))]))
  refine Good.back (fun _ k => XS.icmpYes X79.here hx rfl (pc0 := 43) (pc' := 86) rfl (hb hby own_d1_43) rfl (flt (by decide : ¬ ((2 : Int32) < (2 : Int32)))).2.1 (by decide) (by decide) k) ?_
  show Good p e below _ (T79.setTop (mkF m 86 #[.val (.ref r0), .val (.ref b15), .val (.ref r0), .val (.int (2 : Int32)), .val (.int (1 : Int32)), .val (.double (own_R 1 x1)), .second, .val (.ref b43), .val (.int (2 : Int32))] []))
  refine Good.back (fun _ k => XS.aload X79.here hx rfl (hb hby own_d1_86) rfl rfl k) ?_
  show Good p e below _ (T79.setTop (mkF m 88 #[.val (.ref r0), .val (.ref b15), .val (.ref r0), .val (.int (2 : Int32)), .val (.int (1 : Int32)), .val (.double (own_R 1 x1)), .second, .val (.ref b43), .val (.int (2 : Int32))] [(.ref b43)]))
  refine Good.back (fun _ k => XS.astoreN X79.here hx rfl (hb hby own_d1_88) rfl rfl (l' := #[.val (.ref r0), .val (.ref b43), .val (.ref r0), .val (.int (2 : Int32)), .val (.int (1 : Int32)), .val (.double (own_R 1 x1)), .second, .val (.ref b43), .val (.int (2 : Int32))]) rfl k) ?_
  show Good p e below _ (T79.setTop (mkF m 89 #[.val (.ref r0), .val (.ref b43), .val (.ref r0), .val (.int (2 : Int32)), .val (.int (1 : Int32)), .val (.double (own_R 1 x1)), .second, .val (.ref b43), .val (.int (2 : Int32))] []))
  refine Good.back (fun _ k => XS.iinc X79.here hx rfl (hb hby own_d1_89) rfl (l' := #[.val (.ref r0), .val (.ref b43), .val (.ref r0), .val (.int (2 : Int32)), .val (.int ((1 : Int32) + (1 : Int32))), .val (.double (own_R 1 x1)), .second, .val (.ref b43), .val (.int (2 : Int32))]) rfl k) ?_
  show Good p e below _ (T79.setTop (mkF m 92 #[.val (.ref r0), .val (.ref b43), .val (.ref r0), .val (.int (2 : Int32)), .val (.int ((1 : Int32) + (1 : Int32))), .val (.double (own_R 1 x1)), .second, .val (.ref b43), .val (.int (2 : Int32))] []))
  rw [show (((1 : Int32) + (1 : Int32)) : Int32) = (2 : Int32) from by decide]
  show Good p e below _ (T79.setTop (mkF m 92 #[.val (.ref r0), .val (.ref b43), .val (.ref r0), .val (.int (2 : Int32)), .val (.int (2 : Int32)), .val (.double (own_R 1 x1)), .second, .val (.ref b43), .val (.int (2 : Int32))] []))
  refine Good.back (fun _ k => XS.goto X79.here hx rfl (pc0 := 92) (pc' := 16) rfl (hb hby own_d1_92) (by decide) (by decide) k) ?_
  show Good p e below _ (T79.setTop (mkF m 16 #[.val (.ref r0), .val (.ref b43), .val (.ref r0), .val (.int (2 : Int32)), .val (.int (2 : Int32)), .val (.double (own_R 1 x1)), .second, .val (.ref b43), .val (.int (2 : Int32))] []))
  refine Good.back (fun _ k => XS.iload X79.here hx rfl (hb hby own_d1_16) rfl k) ?_
  show Good p e below _ (T79.setTop (mkF m 18 #[.val (.ref r0), .val (.ref b43), .val (.ref r0), .val (.int (2 : Int32)), .val (.int (2 : Int32)), .val (.double (own_R 1 x1)), .second, .val (.ref b43), .val (.int (2 : Int32))] [(.int (2 : Int32))]))
  refine Good.back (fun _ k => XS.iloadN X79.here hx rfl (hb hby own_d1_18) rfl k) ?_
  show Good p e below _ (T79.setTop (mkF m 19 #[.val (.ref r0), .val (.ref b43), .val (.ref r0), .val (.int (2 : Int32)), .val (.int (2 : Int32)), .val (.double (own_R 1 x1)), .second, .val (.ref b43), .val (.int (2 : Int32))] [(.int (2 : Int32)), (.int (2 : Int32))]))
  refine Good.back (fun _ k => XS.icmpYes X79.here hx rfl (pc0 := 19) (pc' := 95) rfl (hb hby own_d1_19) rfl (flt (by decide : ¬ ((2 : Int32) < (2 : Int32)))).2.1 (by decide) (by decide) k) ?_
  show Good p e below _ (T79.setTop (mkF m 95 #[.val (.ref r0), .val (.ref b43), .val (.ref r0), .val (.int (2 : Int32)), .val (.int (2 : Int32)), .val (.double (own_R 1 x1)), .second, .val (.ref b43), .val (.int (2 : Int32))] []))
  refine Good.back (fun _ k => XS.aloadN X79.here hx rfl (hb hby own_d1_95) rfl rfl k) ?_
  show Good p e below _ (T79.setTop (mkF m 96 #[.val (.ref r0), .val (.ref b43), .val (.ref r0), .val (.int (2 : Int32)), .val (.int (2 : Int32)), .val (.double (own_R 1 x1)), .second, .val (.ref b43), .val (.int (2 : Int32))] [(.ref r0)]))
  have f_85 : Arv Z h43 r0 kk .double (2 : Int32) [(.double (own_R 1 x0)), (.double (own_R 1 x1))] (.double (FP.l2d 0)) := Arv.ext f_40 E43
  have ne_r0_b43_87 : r0 ≠ b43 := Nat.ne_of_lt (Nat.lt_of_lt_of_le f_40.lt (Nat.le_of_eq g43.symm))
  have f_86 : Arv Z h52 r0 kk .double (2 : Int32) [(.double (own_R 1 x0)), (.double (own_R 1 x1))] (.double (FP.l2d 0)) := Arv.other f_85 W52 ne_r0_b43_87
  have f_88 : Arv Z h61 r0 kk .double (2 : Int32) [(.double (own_R 1 x0)), (.double (own_R 1 x1))] (.double (FP.l2d 0)) := Arv.other f_86 W61 ne_r0_b43_87
  have f_89 : Arv Z h71 r0 kk .double (2 : Int32) [(.double (own_R 1 x0)), (.double (own_R 1 x1))] (.double (FP.l2d 0)) := Arv.other f_88 W71 ne_r0_b43_87
  have f_90 : Arv Z h79 r0 kk .double (2 : Int32) [(.double (own_R 1 x0)), (.double (own_R 1 x1))] (.double (FP.l2d 0)) := Arv.other f_89 W79 ne_r0_b43_87
  have fc91 := f_90
  obtain ⟨cl91, Ar91, qk91, S91, N91', H91, G91⟩ := fc91
  refine Good.back (X79.arraylength hx (by rw [e79]; exact Ar91.1) (State.isArrayOf_alike hZ.alike Ar91.2.1) (g := (mkF m 96 #[.val (.ref r0), .val (.ref b43), .val (.ref r0), .val (.int (2 : Int32)), .val (.int (2 : Int32)), .val (.double (own_R 1 x1)), .second, .val (.ref b43), .val (.int (2 : Int32))] [(.ref r0)])) rfl rfl (hb hby own_d1_96)) ?_
  rw [len_of S91 N91']
  show Good p e below _ (T79.setTop (mkF m 97 #[.val (.ref r0), .val (.ref b43), .val (.ref r0), .val (.int (2 : Int32)), .val (.int (2 : Int32)), .val (.double (own_R 1 x1)), .second, .val (.ref b43), .val (.int (2 : Int32))] [(.int (2 : Int32))]))
  refine Good.back (fun _ k => XS.istoreN X79.here hx rfl (hb hby own_d1_97) rfl (l' := #[.val (.ref r0), .val (.ref b43), .val (.int (2 : Int32)), .val (.int (2 : Int32)), .val (.int (2 : Int32)), .val (.double (own_R 1 x1)), .second, .val (.ref b43), .val (.int (2 : Int32))]) rfl k) ?_
  show Good p e below _ (T79.setTop (mkF m 98 #[.val (.ref r0), .val (.ref b43), .val (.int (2 : Int32)), .val (.int (2 : Int32)), .val (.int (2 : Int32)), .val (.double (own_R 1 x1)), .second, .val (.ref b43), .val (.int (2 : Int32))] []))
  refine Good.back (fun _ k => XS.dconst0 X79.here hx rfl (hb hby own_d1_98) (v := (FP.l2d (0 : Int64))) (by decide +kernel) k) ?_
  show Good p e below _ (T79.setTop (mkF m 99 #[.val (.ref r0), .val (.ref b43), .val (.int (2 : Int32)), .val (.int (2 : Int32)), .val (.int (2 : Int32)), .val (.double (own_R 1 x1)), .second, .val (.ref b43), .val (.int (2 : Int32))] [(.double (FP.l2d (0 : Int64)))]))
  refine Good.back (fun _ k => XS.dstoreN X79.here hx rfl (hb hby own_d1_99) rfl (l' := #[.val (.ref r0), .val (.ref b43), .val (.int (2 : Int32)), .val (.double (FP.l2d (0 : Int64))), .second, .val (.double (own_R 1 x1)), .second, .val (.ref b43), .val (.int (2 : Int32))]) rfl k) ?_
  show Good p e below _ (T79.setTop (mkF m 100 #[.val (.ref r0), .val (.ref b43), .val (.int (2 : Int32)), .val (.double (FP.l2d (0 : Int64))), .second, .val (.double (own_R 1 x1)), .second, .val (.ref b43), .val (.int (2 : Int32))] []))
  refine Good.back (fun _ k => XS.aloadN X79.here hx rfl (hb hby own_d1_100) rfl rfl k) ?_
  show Good p e below _ (T79.setTop (mkF m 101 #[.val (.ref r0), .val (.ref b43), .val (.int (2 : Int32)), .val (.double (FP.l2d (0 : Int64))), .second, .val (.double (own_R 1 x1)), .second, .val (.ref b43), .val (.int (2 : Int32))] [(.ref r0)]))
  have fc92 := f_90
  obtain ⟨cl92, Ar92, qk92, S92, N92', H92, G92⟩ := fc92
  refine Good.back (X79.arraylength hx (by rw [e79]; exact Ar92.1) (State.isArrayOf_alike hZ.alike Ar92.2.1) (g := (mkF m 101 #[.val (.ref r0), .val (.ref b43), .val (.int (2 : Int32)), .val (.double (FP.l2d (0 : Int64))), .second, .val (.double (own_R 1 x1)), .second, .val (.ref b43), .val (.int (2 : Int32))] [(.ref r0)])) rfl rfl (hb hby own_d1_101)) ?_
  rw [len_of S92 N92']
  show Good p e below _ (T79.setTop (mkF m 102 #[.val (.ref r0), .val (.ref b43), .val (.int (2 : Int32)), .val (.double (FP.l2d (0 : Int64))), .second, .val (.double (own_R 1 x1)), .second, .val (.ref b43), .val (.int (2 : Int32))] [(.int (2 : Int32))]))
  refine Good.back (fun _ k => XS.istore X79.here hx rfl (hb hby own_d1_102) rfl (l' := #[.val (.ref r0), .val (.ref b43), .val (.int (2 : Int32)), .val (.double (FP.l2d (0 : Int64))), .second, .val (.int (2 : Int32)), .unset, .val (.ref b43), .val (.int (2 : Int32))]) rfl k) ?_
  show Good p e below _ (T79.setTop (mkF m 104 #[.val (.ref r0), .val (.ref b43), .val (.int (2 : Int32)), .val (.double (FP.l2d (0 : Int64))), .second, .val (.int (2 : Int32)), .unset, .val (.ref b43), .val (.int (2 : Int32))] []))
  refine Good.back (fun _ k => XS.iload X79.here hx rfl (hb hby own_d1_104) rfl k) ?_
  show Good p e below _ (T79.setTop (mkF m 106 #[.val (.ref r0), .val (.ref b43), .val (.int (2 : Int32)), .val (.double (FP.l2d (0 : Int64))), .second, .val (.int (2 : Int32)), .unset, .val (.ref b43), .val (.int (2 : Int32))] [(.int (2 : Int32))]))
  refine Good.back (fun _ k => XS.iconst X79.here hx rfl (hb hby own_d1_106) k) ?_
  show Good p e below _ (T79.setTop (mkF m 107 #[.val (.ref r0), .val (.ref b43), .val (.int (2 : Int32)), .val (.double (FP.l2d (0 : Int64))), .second, .val (.int (2 : Int32)), .unset, .val (.ref b43), .val (.int (2 : Int32))] [(.int (1 : Int32)), (.int (2 : Int32))]))
  refine Good.back (fun _ k => XS.icmpNo X79.here hx rfl (hb hby own_d1_107) rfl (flt (by decide : ¬ ((2 : Int32) < (1 : Int32)))).1 k) ?_
  show Good p e below _ (T79.setTop (mkF m 110 #[.val (.ref r0), .val (.ref b43), .val (.int (2 : Int32)), .val (.double (FP.l2d (0 : Int64))), .second, .val (.int (2 : Int32)), .unset, .val (.ref b43), .val (.int (2 : Int32))] []))
  refine Good.back (fun _ k => XS.dloadN X79.here hx rfl (hb hby own_d1_110) rfl k) ?_
  show Good p e below _ (T79.setTop (mkF m 111 #[.val (.ref r0), .val (.ref b43), .val (.int (2 : Int32)), .val (.double (FP.l2d (0 : Int64))), .second, .val (.int (2 : Int32)), .unset, .val (.ref b43), .val (.int (2 : Int32))] [(.double (FP.l2d (0 : Int64)))]))
  refine Good.back (fun _ k => XS.aloadN X79.here hx rfl (hb hby own_d1_111) rfl rfl k) ?_
  show Good p e below _ (T79.setTop (mkF m 112 #[.val (.ref r0), .val (.ref b43), .val (.int (2 : Int32)), .val (.double (FP.l2d (0 : Int64))), .second, .val (.int (2 : Int32)), .unset, .val (.ref b43), .val (.int (2 : Int32))] [(.ref b43), (.double (FP.l2d (0 : Int64)))]))
  refine Good.back (fun _ k => XS.iload X79.here hx rfl (hb hby own_d1_112) rfl k) ?_
  show Good p e below _ (T79.setTop (mkF m 114 #[.val (.ref r0), .val (.ref b43), .val (.int (2 : Int32)), .val (.double (FP.l2d (0 : Int64))), .second, .val (.int (2 : Int32)), .unset, .val (.ref b43), .val (.int (2 : Int32))] [(.int (2 : Int32)), (.ref b43), (.double (FP.l2d (0 : Int64)))]))
  have fc93 := f_80
  obtain ⟨cl93, Ar93, qk93, S93, N93', H93, G93⟩ := fc93
  have hin93 : ¬ ((2 : Int32) < 0 ∨ cl93.slots.size ≤ ((2 : Int32)).toNatClampNeg) := inb_of S93 ⟨by decide, by decide⟩
  have hat93 : cl93.slots[((2 : Int32)).toNatClampNeg]? = some (.double (own_R 2 (x0 * x1))) := Has.at H93 hin93 rfl
  refine Good.back (X79.daload hx (j := (2 : Int32)) (v := (.double (own_R 2 (x0 * x1)))) (by rw [e79]; exact Ar93.1) (State.isArrayOf_alike hZ.alike Ar93.2.1) Ar93.2.2 hin93 hat93 (g := (mkF m 114 #[.val (.ref r0), .val (.ref b43), .val (.int (2 : Int32)), .val (.double (FP.l2d (0 : Int64))), .second, .val (.int (2 : Int32)), .unset, .val (.ref b43), .val (.int (2 : Int32))] [(.int (2 : Int32)), (.ref b43), (.double (FP.l2d (0 : Int64)))])) rfl rfl (hb hby own_d1_114)) ?_
  show Good p e below _ (T79.setTop (mkF m 115 #[.val (.ref r0), .val (.ref b43), .val (.int (2 : Int32)), .val (.double (FP.l2d (0 : Int64))), .second, .val (.int (2 : Int32)), .unset, .val (.ref b43), .val (.int (2 : Int32))] [(.double (own_R 2 (x0 * x1))), (.double (FP.l2d (0 : Int64)))]))
  refine Good.back (fun _ k => XS.daddS X79.here hx rfl (hb hby own_d1_115) rfl ((own_Radd0 (Nat.lt_of_le_of_lt hb78 (by decide))).symm ▸ own_Rnn (Nat.lt_of_le_of_lt hb78 (by decide))) (own_Radd0 (Nat.lt_of_le_of_lt hb78 (by decide))) k) ?_
  show Good p e below _ (T79.setTop (mkF m 116 #[.val (.ref r0), .val (.ref b43), .val (.int (2 : Int32)), .val (.double (FP.l2d (0 : Int64))), .second, .val (.int (2 : Int32)), .unset, .val (.ref b43), .val (.int (2 : Int32))] [(.double (own_R 2 (x0 * x1)))]))
  refine Good.back (fun _ k => XS.dstoreN X79.here hx rfl (hb hby own_d1_116) rfl (l' := #[.val (.ref r0), .val (.ref b43), .val (.int (2 : Int32)), .val (.double (own_R 2 (x0 * x1))), .second, .val (.int (2 : Int32)), .unset, .val (.ref b43), .val (.int (2 : Int32))]) rfl k) ?_
  show Good p e below _ (T79.setTop (mkF m 117 #[.val (.ref r0), .val (.ref b43), .val (.int (2 : Int32)), .val (.double (own_R 2 (x0 * x1))), .second, .val (.int (2 : Int32)), .unset, .val (.ref b43), .val (.int (2 : Int32))] []))
  refine Good.back (fun _ k => XS.dloadN X79.here hx rfl (hb hby own_d1_117) rfl k) ?_
  show Good p e below _ (T79.setTop (mkF m 118 #[.val (.ref r0), .val (.ref b43), .val (.int (2 : Int32)), .val (.double (own_R 2 (x0 * x1))), .second, .val (.int (2 : Int32)), .unset, .val (.ref b43), .val (.int (2 : Int32))] [(.double (own_R 2 (x0 * x1)))]))
  refine Good.back (X79.ldc2DoubleC hx hown (mvT hZ (hw _ (List.mem_of_getElem? (i := 7) rfl))) (g := (mkF m 118 #[.val (.ref r0), .val (.ref b43), .val (.int (2 : Int32)), .val (.double (own_R 2 (x0 * x1))), .second, .val (.int (2 : Int32)), .unset, .val (.ref b43), .val (.int (2 : Int32))] [(.double (own_R 2 (x0 * x1)))])) rfl (hb hby own_d1_118)) ?_
  show Good p e below _ (T79.setTop (mkF m 121 #[.val (.ref r0), .val (.ref b43), .val (.int (2 : Int32)), .val (.double (own_R 2 (x0 * x1))), .second, .val (.int (2 : Int32)), .unset, .val (.ref b43), .val (.int (2 : Int32))] [(.double (4587366580439587226 : UInt64)), (.double (own_R 2 (x0 * x1)))]))
  refine Good.back (fun _ k => XS.dcmpS X79.here hx rfl (hb hby own_d1_121) rfl (v := (if 20 * (x0 * x1) < 16 ^ 2 then (-1 : Int32) else (1 : Int32))) (own_Rcmp (by decide) (Nat.lt_of_le_of_lt hb78 (by decide))) k) ?_
  show Good p e below _ (T79.setTop (mkF m 122 #[.val (.ref r0), .val (.ref b43), .val (.int (2 : Int32)), .val (.double (own_R 2 (x0 * x1))), .second, .val (.int (2 : Int32)), .unset, .val (.ref b43), .val (.int (2 : Int32))] [(.int (if 20 * (x0 * x1) < 16 ^ 2 then (-1 : Int32) else (1 : Int32)))]))
  by_cases hq2_94 : 20 * (x0 * x1) < 16 ^ 2
  · rw [if_pos hq2_94]
    show Good p e below _ (T79.setTop (mkF m 122 #[.val (.ref r0), .val (.ref b43), .val (.int (2 : Int32)), .val (.double (own_R 2 (x0 * x1))), .second, .val (.int (2 : Int32)), .unset, .val (.ref b43), .val (.int (2 : Int32))] [(.int (-1 : Int32))]))
    refine Good.back (fun _ k => XS.ifNo X79.here hx rfl (hb hby own_d1_122) rfl ((if0 _ _).trans (tlt (by decide : ((-1 : Int32) < (0 : Int32)))).2.1) k) ?_
    show Good p e below _ (T79.setTop (mkF m 125 #[.val (.ref r0), .val (.ref b43), .val (.int (2 : Int32)), .val (.double (own_R 2 (x0 * x1))), .second, .val (.int (2 : Int32)), .unset, .val (.ref b43), .val (.int (2 : Int32))] []))
    refine Good.back (fun _ k => XS.iload X79.here hx rfl (hb hby own_d1_125) rfl k) ?_
    show Good p e below _ (T79.setTop (mkF m 127 #[.val (.ref r0), .val (.ref b43), .val (.int (2 : Int32)), .val (.double (own_R 2 (x0 * x1))), .second, .val (.int (2 : Int32)), .unset, .val (.ref b43), .val (.int (2 : Int32))] [(.int (2 : Int32))]))
    refine Good.back (fun _ k => XS.istoreN X79.here hx rfl (hb hby own_d1_127) rfl (l' := #[.val (.ref r0), .val (.ref b43), .val (.int (2 : Int32)), .val (.double (own_R 2 (x0 * x1))), .second, .val (.int (2 : Int32)), .unset, .val (.ref b43), .val (.int (2 : Int32))]) rfl k) ?_
    show Good p e below _ (T79.setTop (mkF m 128 #[.val (.ref r0), .val (.ref b43), .val (.int (2 : Int32)), .val (.double (own_R 2 (x0 * x1))), .second, .val (.int (2 : Int32)), .unset, .val (.ref b43), .val (.int (2 : Int32))] []))
    refine Good.back (fun _ k => XS.iinc X79.here hx rfl (hb hby own_d1_128) rfl (l' := #[.val (.ref r0), .val (.ref b43), .val (.int (2 : Int32)), .val (.double (own_R 2 (x0 * x1))), .second, .val (.int ((2 : Int32) + (-1 : Int32))), .unset, .val (.ref b43), .val (.int (2 : Int32))]) rfl k) ?_
    show Good p e below _ (T79.setTop (mkF m 131 #[.val (.ref r0), .val (.ref b43), .val (.int (2 : Int32)), .val (.double (own_R 2 (x0 * x1))), .second, .val (.int ((2 : Int32) + (-1 : Int32))), .unset, .val (.ref b43), .val (.int (2 : Int32))] []))
    rw [show (((2 : Int32) + (-1 : Int32)) : Int32) = (1 : Int32) from by decide]
    show Good p e below _ (T79.setTop (mkF m 131 #[.val (.ref r0), .val (.ref b43), .val (.int (2 : Int32)), .val (.double (own_R 2 (x0 * x1))), .second, .val (.int (1 : Int32)), .unset, .val (.ref b43), .val (.int (2 : Int32))] []))
    refine Good.back (fun _ k => XS.goto X79.here hx rfl (pc0 := 131) (pc' := 104) rfl (hb hby own_d1_131) (by decide) (by decide) k) ?_
    show Good p e below _ (T79.setTop (mkF m 104 #[.val (.ref r0), .val (.ref b43), .val (.int (2 : Int32)), .val (.double (own_R 2 (x0 * x1))), .second, .val (.int (1 : Int32)), .unset, .val (.ref b43), .val (.int (2 : Int32))] []))
    refine Good.back (fun _ k => XS.iload X79.here hx rfl (hb hby own_d1_104) rfl k) ?_
    show Good p e below _ (T79.setTop (mkF m 106 #[.val (.ref r0), .val (.ref b43), .val (.int (2 : Int32)), .val (.double (own_R 2 (x0 * x1))), .second, .val (.int (1 : Int32)), .unset, .val (.ref b43), .val (.int (2 : Int32))] [(.int (1 : Int32))]))
    refine Good.back (fun _ k => XS.iconst X79.here hx rfl (hb hby own_d1_106) k) ?_
    show Good p e below _ (T79.setTop (mkF m 107 #[.val (.ref r0), .val (.ref b43), .val (.int (2 : Int32)), .val (.double (own_R 2 (x0 * x1))), .second, .val (.int (1 : Int32)), .unset, .val (.ref b43), .val (.int (2 : Int32))] [(.int (1 : Int32)), (.int (1 : Int32))]))
    refine Good.back (fun _ k => XS.icmpNo X79.here hx rfl (hb hby own_d1_107) rfl (flt (by decide : ¬ ((1 : Int32) < (1 : Int32)))).1 k) ?_
    show Good p e below _ (T79.setTop (mkF m 110 #[.val (.ref r0), .val (.ref b43), .val (.int (2 : Int32)), .val (.double (own_R 2 (x0 * x1))), .second, .val (.int (1 : Int32)), .unset, .val (.ref b43), .val (.int (2 : Int32))] []))
    refine Good.back (fun _ k => XS.dloadN X79.here hx rfl (hb hby own_d1_110) rfl k) ?_
    show Good p e below _ (T79.setTop (mkF m 111 #[.val (.ref r0), .val (.ref b43), .val (.int (2 : Int32)), .val (.double (own_R 2 (x0 * x1))), .second, .val (.int (1 : Int32)), .unset, .val (.ref b43), .val (.int (2 : Int32))] [(.double (own_R 2 (x0 * x1)))]))
    refine Good.back (fun _ k => XS.aloadN X79.here hx rfl (hb hby own_d1_111) rfl rfl k) ?_
    show Good p e below _ (T79.setTop (mkF m 112 #[.val (.ref r0), .val (.ref b43), .val (.int (2 : Int32)), .val (.double (own_R 2 (x0 * x1))), .second, .val (.int (1 : Int32)), .unset, .val (.ref b43), .val (.int (2 : Int32))] [(.ref b43), (.double (own_R 2 (x0 * x1)))]))
    refine Good.back (fun _ k => XS.iload X79.here hx rfl (hb hby own_d1_112) rfl k) ?_
    show Good p e below _ (T79.setTop (mkF m 114 #[.val (.ref r0), .val (.ref b43), .val (.int (2 : Int32)), .val (.double (own_R 2 (x0 * x1))), .second, .val (.int (1 : Int32)), .unset, .val (.ref b43), .val (.int (2 : Int32))] [(.int (1 : Int32)), (.ref b43), (.double (own_R 2 (x0 * x1)))]))
    have fc95 := f_80
    obtain ⟨cl95, Ar95, qk95, S95, N95', H95, G95⟩ := fc95
    have hin95 : ¬ ((1 : Int32) < 0 ∨ cl95.slots.size ≤ ((1 : Int32)).toNatClampNeg) := inb_of S95 ⟨by decide, by decide⟩
    have hat95 : cl95.slots[((1 : Int32)).toNatClampNeg]? = some (.double (own_R 2 (((16 - x0) * x1) + (x0 * (16 - x1))))) := Has.at H95 hin95 rfl
    refine Good.back (X79.daload hx (j := (1 : Int32)) (v := (.double (own_R 2 (((16 - x0) * x1) + (x0 * (16 - x1)))))) (by rw [e79]; exact Ar95.1) (State.isArrayOf_alike hZ.alike Ar95.2.1) Ar95.2.2 hin95 hat95 (g := (mkF m 114 #[.val (.ref r0), .val (.ref b43), .val (.int (2 : Int32)), .val (.double (own_R 2 (x0 * x1))), .second, .val (.int (1 : Int32)), .unset, .val (.ref b43), .val (.int (2 : Int32))] [(.int (1 : Int32)), (.ref b43), (.double (own_R 2 (x0 * x1)))])) rfl rfl (hb hby own_d1_114)) ?_
    show Good p e below _ (T79.setTop (mkF m 115 #[.val (.ref r0), .val (.ref b43), .val (.int (2 : Int32)), .val (.double (own_R 2 (x0 * x1))), .second, .val (.int (1 : Int32)), .unset, .val (.ref b43), .val (.int (2 : Int32))] [(.double (own_R 2 (((16 - x0) * x1) + (x0 * (16 - x1))))), (.double (own_R 2 (x0 * x1)))]))
    have hb96 := Nat.add_le_add hb78 hb70
    refine Good.back (fun _ k => XS.daddS X79.here hx rfl (hb hby own_d1_115) rfl ((own_Radd (Nat.lt_of_le_of_lt hb78 (by decide)) (Nat.lt_of_le_of_lt hb70 (by decide))).symm ▸ own_Rnn (Nat.lt_of_le_of_lt hb96 (by decide))) (own_Radd (Nat.lt_of_le_of_lt hb78 (by decide)) (Nat.lt_of_le_of_lt hb70 (by decide))) k) ?_
    show Good p e below _ (T79.setTop (mkF m 116 #[.val (.ref r0), .val (.ref b43), .val (.int (2 : Int32)), .val (.double (own_R 2 (x0 * x1))), .second, .val (.int (1 : Int32)), .unset, .val (.ref b43), .val (.int (2 : Int32))] [(.double (own_R 2 ((x0 * x1) + (((16 - x0) * x1) + (x0 * (16 - x1))))))]))
    refine Good.back (fun _ k => XS.dstoreN X79.here hx rfl (hb hby own_d1_116) rfl (l' := #[.val (.ref r0), .val (.ref b43), .val (.int (2 : Int32)), .val (.double (own_R 2 ((x0 * x1) + (((16 - x0) * x1) + (x0 * (16 - x1)))))), .second, .val (.int (1 : Int32)), .unset, .val (.ref b43), .val (.int (2 : Int32))]) rfl k) ?_
    show Good p e below _ (T79.setTop (mkF m 117 #[.val (.ref r0), .val (.ref b43), .val (.int (2 : Int32)), .val (.double (own_R 2 ((x0 * x1) + (((16 - x0) * x1) + (x0 * (16 - x1)))))), .second, .val (.int (1 : Int32)), .unset, .val (.ref b43), .val (.int (2 : Int32))] []))
    refine Good.back (fun _ k => XS.dloadN X79.here hx rfl (hb hby own_d1_117) rfl k) ?_
    show Good p e below _ (T79.setTop (mkF m 118 #[.val (.ref r0), .val (.ref b43), .val (.int (2 : Int32)), .val (.double (own_R 2 ((x0 * x1) + (((16 - x0) * x1) + (x0 * (16 - x1)))))), .second, .val (.int (1 : Int32)), .unset, .val (.ref b43), .val (.int (2 : Int32))] [(.double (own_R 2 ((x0 * x1) + (((16 - x0) * x1) + (x0 * (16 - x1))))))]))
    refine Good.back (X79.ldc2DoubleC hx hown (mvT hZ (hw _ (List.mem_of_getElem? (i := 7) rfl))) (g := (mkF m 118 #[.val (.ref r0), .val (.ref b43), .val (.int (2 : Int32)), .val (.double (own_R 2 ((x0 * x1) + (((16 - x0) * x1) + (x0 * (16 - x1)))))), .second, .val (.int (1 : Int32)), .unset, .val (.ref b43), .val (.int (2 : Int32))] [(.double (own_R 2 ((x0 * x1) + (((16 - x0) * x1) + (x0 * (16 - x1))))))])) rfl (hb hby own_d1_118)) ?_
    show Good p e below _ (T79.setTop (mkF m 121 #[.val (.ref r0), .val (.ref b43), .val (.int (2 : Int32)), .val (.double (own_R 2 ((x0 * x1) + (((16 - x0) * x1) + (x0 * (16 - x1)))))), .second, .val (.int (1 : Int32)), .unset, .val (.ref b43), .val (.int (2 : Int32))] [(.double (4587366580439587226 : UInt64)), (.double (own_R 2 ((x0 * x1) + (((16 - x0) * x1) + (x0 * (16 - x1))))))]))
    refine Good.back (fun _ k => XS.dcmpS X79.here hx rfl (hb hby own_d1_121) rfl (v := (if 20 * ((x0 * x1) + (((16 - x0) * x1) + (x0 * (16 - x1)))) < 16 ^ 2 then (-1 : Int32) else (1 : Int32))) (own_Rcmp (by decide) (Nat.lt_of_le_of_lt hb96 (by decide))) k) ?_
    show Good p e below _ (T79.setTop (mkF m 122 #[.val (.ref r0), .val (.ref b43), .val (.int (2 : Int32)), .val (.double (own_R 2 ((x0 * x1) + (((16 - x0) * x1) + (x0 * (16 - x1)))))), .second, .val (.int (1 : Int32)), .unset, .val (.ref b43), .val (.int (2 : Int32))] [(.int (if 20 * ((x0 * x1) + (((16 - x0) * x1) + (x0 * (16 - x1)))) < 16 ^ 2 then (-1 : Int32) else (1 : Int32)))]))
    by_cases hq1_97 : 20 * ((x0 * x1) + (((16 - x0) * x1) + (x0 * (16 - x1)))) < 16 ^ 2
    · rw [if_pos hq1_97]
      show Good p e below _ (T79.setTop (mkF m 122 #[.val (.ref r0), .val (.ref b43), .val (.int (2 : Int32)), .val (.double (own_R 2 ((x0 * x1) + (((16 - x0) * x1) + (x0 * (16 - x1)))))), .second, .val (.int (1 : Int32)), .unset, .val (.ref b43), .val (.int (2 : Int32))] [(.int (-1 : Int32))]))
      refine Good.back (fun _ k => XS.ifNo X79.here hx rfl (hb hby own_d1_122) rfl ((if0 _ _).trans (tlt (by decide : ((-1 : Int32) < (0 : Int32)))).2.1) k) ?_
      show Good p e below _ (T79.setTop (mkF m 125 #[.val (.ref r0), .val (.ref b43), .val (.int (2 : Int32)), .val (.double (own_R 2 ((x0 * x1) + (((16 - x0) * x1) + (x0 * (16 - x1)))))), .second, .val (.int (1 : Int32)), .unset, .val (.ref b43), .val (.int (2 : Int32))] []))
      refine Good.back (fun _ k => XS.iload X79.here hx rfl (hb hby own_d1_125) rfl k) ?_
      show Good p e below _ (T79.setTop (mkF m 127 #[.val (.ref r0), .val (.ref b43), .val (.int (2 : Int32)), .val (.double (own_R 2 ((x0 * x1) + (((16 - x0) * x1) + (x0 * (16 - x1)))))), .second, .val (.int (1 : Int32)), .unset, .val (.ref b43), .val (.int (2 : Int32))] [(.int (1 : Int32))]))
      refine Good.back (fun _ k => XS.istoreN X79.here hx rfl (hb hby own_d1_127) rfl (l' := #[.val (.ref r0), .val (.ref b43), .val (.int (1 : Int32)), .val (.double (own_R 2 ((x0 * x1) + (((16 - x0) * x1) + (x0 * (16 - x1)))))), .second, .val (.int (1 : Int32)), .unset, .val (.ref b43), .val (.int (2 : Int32))]) rfl k) ?_
      show Good p e below _ (T79.setTop (mkF m 128 #[.val (.ref r0), .val (.ref b43), .val (.int (1 : Int32)), .val (.double (own_R 2 ((x0 * x1) + (((16 - x0) * x1) + (x0 * (16 - x1)))))), .second, .val (.int (1 : Int32)), .unset, .val (.ref b43), .val (.int (2 : Int32))] []))
      refine Good.back (fun _ k => XS.iinc X79.here hx rfl (hb hby own_d1_128) rfl (l' := #[.val (.ref r0), .val (.ref b43), .val (.int (1 : Int32)), .val (.double (own_R 2 ((x0 * x1) + (((16 - x0) * x1) + (x0 * (16 - x1)))))), .second, .val (.int ((1 : Int32) + (-1 : Int32))), .unset, .val (.ref b43), .val (.int (2 : Int32))]) rfl k) ?_
      show Good p e below _ (T79.setTop (mkF m 131 #[.val (.ref r0), .val (.ref b43), .val (.int (1 : Int32)), .val (.double (own_R 2 ((x0 * x1) + (((16 - x0) * x1) + (x0 * (16 - x1)))))), .second, .val (.int ((1 : Int32) + (-1 : Int32))), .unset, .val (.ref b43), .val (.int (2 : Int32))] []))
      rw [show (((1 : Int32) + (-1 : Int32)) : Int32) = (0 : Int32) from by decide]
      show Good p e below _ (T79.setTop (mkF m 131 #[.val (.ref r0), .val (.ref b43), .val (.int (1 : Int32)), .val (.double (own_R 2 ((x0 * x1) + (((16 - x0) * x1) + (x0 * (16 - x1)))))), .second, .val (.int (0 : Int32)), .unset, .val (.ref b43), .val (.int (2 : Int32))] []))
      refine Good.back (fun _ k => XS.goto X79.here hx rfl (pc0 := 131) (pc' := 104) rfl (hb hby own_d1_131) (by decide) (by decide) k) ?_
      show Good p e below _ (T79.setTop (mkF m 104 #[.val (.ref r0), .val (.ref b43), .val (.int (1 : Int32)), .val (.double (own_R 2 ((x0 * x1) + (((16 - x0) * x1) + (x0 * (16 - x1)))))), .second, .val (.int (0 : Int32)), .unset, .val (.ref b43), .val (.int (2 : Int32))] []))
      refine Good.back (fun _ k => XS.iload X79.here hx rfl (hb hby own_d1_104) rfl k) ?_
      show Good p e below _ (T79.setTop (mkF m 106 #[.val (.ref r0), .val (.ref b43), .val (.int (1 : Int32)), .val (.double (own_R 2 ((x0 * x1) + (((16 - x0) * x1) + (x0 * (16 - x1)))))), .second, .val (.int (0 : Int32)), .unset, .val (.ref b43), .val (.int (2 : Int32))] [(.int (0 : Int32))]))
      refine Good.back (fun _ k => XS.iconst X79.here hx rfl (hb hby own_d1_106) k) ?_
      show Good p e below _ (T79.setTop (mkF m 107 #[.val (.ref r0), .val (.ref b43), .val (.int (1 : Int32)), .val (.double (own_R 2 ((x0 * x1) + (((16 - x0) * x1) + (x0 * (16 - x1)))))), .second, .val (.int (0 : Int32)), .unset, .val (.ref b43), .val (.int (2 : Int32))] [(.int (1 : Int32)), (.int (0 : Int32))]))
      refine Good.back (fun _ k => XS.icmpYes X79.here hx rfl (pc0 := 107) (pc' := 134) rfl (hb hby own_d1_107) rfl (tlt (by decide : ((0 : Int32) < (1 : Int32)))).1 (by decide) (by decide) k) ?_
      show Good p e below _ (T79.setTop (mkF m 134 #[.val (.ref r0), .val (.ref b43), .val (.int (1 : Int32)), .val (.double (own_R 2 ((x0 * x1) + (((16 - x0) * x1) + (x0 * (16 - x1)))))), .second, .val (.int (0 : Int32)), .unset, .val (.ref b43), .val (.int (2 : Int32))] []))
      refine Good.back (fun _ k => XS.iloadN X79.here hx rfl (hb hby own_d1_134) rfl k) ?_
      show Good p e below _ (T79.setTop (mkF m 135 #[.val (.ref r0), .val (.ref b43), .val (.int (1 : Int32)), .val (.double (own_R 2 ((x0 * x1) + (((16 - x0) * x1) + (x0 * (16 - x1)))))), .second, .val (.int (0 : Int32)), .unset, .val (.ref b43), .val (.int (2 : Int32))] [(.int (1 : Int32))]))
      obtain ⟨fs98, hr98, hrun98, hended98, hW98, hsame98⟩ := X79.leave (v := some (.int (1 : Int32))) (fun h => by rw [Bd.returns] at h; cases h)
      refine Good.done (retI X79 hx Bd.returns (hb hby own_d1_135) hr98) hrun98 hended98 ⟨_, _, rfl, ?_, ⟨_, rfl⟩, hW98, hsame98.mono (by decide) (by decide)⟩
      show Q1_2 Z r0 kk x0 x1 h0 n0 _ T79.heap _
      rw [e79]
      exact ⟨congrArg (fun z => some (Value.int z)) (by rw [if_pos hq1_97]), N79, K82⟩
    · rw [if_neg hq1_97]
      show Good p e below _ (T79.setTop (mkF m 122 #[.val (.ref r0), .val (.ref b43), .val (.int (2 : Int32)), .val (.double (own_R 2 ((x0 * x1) + (((16 - x0) * x1) + (x0 * (16 - x1)))))), .second, .val (.int (1 : Int32)), .unset, .val (.ref b43), .val (.int (2 : Int32))] [(.int (1 : Int32))]))
      refine Good.back (fun _ k => XS.ifYes X79.here hx rfl (pc0 := 122) (pc' := 128) rfl (hb hby own_d1_122) rfl ((if0 _ _).trans (flt (by decide : ¬ ((1 : Int32) < (0 : Int32)))).2.1) (by decide) (by decide) k) ?_
      show Good p e below _ (T79.setTop (mkF m 128 #[.val (.ref r0), .val (.ref b43), .val (.int (2 : Int32)), .val (.double (own_R 2 ((x0 * x1) + (((16 - x0) * x1) + (x0 * (16 - x1)))))), .second, .val (.int (1 : Int32)), .unset, .val (.ref b43), .val (.int (2 : Int32))] []))
      refine Good.back (fun _ k => XS.iinc X79.here hx rfl (hb hby own_d1_128) rfl (l' := #[.val (.ref r0), .val (.ref b43), .val (.int (2 : Int32)), .val (.double (own_R 2 ((x0 * x1) + (((16 - x0) * x1) + (x0 * (16 - x1)))))), .second, .val (.int ((1 : Int32) + (-1 : Int32))), .unset, .val (.ref b43), .val (.int (2 : Int32))]) rfl k) ?_
      show Good p e below _ (T79.setTop (mkF m 131 #[.val (.ref r0), .val (.ref b43), .val (.int (2 : Int32)), .val (.double (own_R 2 ((x0 * x1) + (((16 - x0) * x1) + (x0 * (16 - x1)))))), .second, .val (.int ((1 : Int32) + (-1 : Int32))), .unset, .val (.ref b43), .val (.int (2 : Int32))] []))
      rw [show (((1 : Int32) + (-1 : Int32)) : Int32) = (0 : Int32) from by decide]
      show Good p e below _ (T79.setTop (mkF m 131 #[.val (.ref r0), .val (.ref b43), .val (.int (2 : Int32)), .val (.double (own_R 2 ((x0 * x1) + (((16 - x0) * x1) + (x0 * (16 - x1)))))), .second, .val (.int (0 : Int32)), .unset, .val (.ref b43), .val (.int (2 : Int32))] []))
      refine Good.back (fun _ k => XS.goto X79.here hx rfl (pc0 := 131) (pc' := 104) rfl (hb hby own_d1_131) (by decide) (by decide) k) ?_
      show Good p e below _ (T79.setTop (mkF m 104 #[.val (.ref r0), .val (.ref b43), .val (.int (2 : Int32)), .val (.double (own_R 2 ((x0 * x1) + (((16 - x0) * x1) + (x0 * (16 - x1)))))), .second, .val (.int (0 : Int32)), .unset, .val (.ref b43), .val (.int (2 : Int32))] []))
      refine Good.back (fun _ k => XS.iload X79.here hx rfl (hb hby own_d1_104) rfl k) ?_
      show Good p e below _ (T79.setTop (mkF m 106 #[.val (.ref r0), .val (.ref b43), .val (.int (2 : Int32)), .val (.double (own_R 2 ((x0 * x1) + (((16 - x0) * x1) + (x0 * (16 - x1)))))), .second, .val (.int (0 : Int32)), .unset, .val (.ref b43), .val (.int (2 : Int32))] [(.int (0 : Int32))]))
      refine Good.back (fun _ k => XS.iconst X79.here hx rfl (hb hby own_d1_106) k) ?_
      show Good p e below _ (T79.setTop (mkF m 107 #[.val (.ref r0), .val (.ref b43), .val (.int (2 : Int32)), .val (.double (own_R 2 ((x0 * x1) + (((16 - x0) * x1) + (x0 * (16 - x1)))))), .second, .val (.int (0 : Int32)), .unset, .val (.ref b43), .val (.int (2 : Int32))] [(.int (1 : Int32)), (.int (0 : Int32))]))
      refine Good.back (fun _ k => XS.icmpYes X79.here hx rfl (pc0 := 107) (pc' := 134) rfl (hb hby own_d1_107) rfl (tlt (by decide : ((0 : Int32) < (1 : Int32)))).1 (by decide) (by decide) k) ?_
      show Good p e below _ (T79.setTop (mkF m 134 #[.val (.ref r0), .val (.ref b43), .val (.int (2 : Int32)), .val (.double (own_R 2 ((x0 * x1) + (((16 - x0) * x1) + (x0 * (16 - x1)))))), .second, .val (.int (0 : Int32)), .unset, .val (.ref b43), .val (.int (2 : Int32))] []))
      refine Good.back (fun _ k => XS.iloadN X79.here hx rfl (hb hby own_d1_134) rfl k) ?_
      show Good p e below _ (T79.setTop (mkF m 135 #[.val (.ref r0), .val (.ref b43), .val (.int (2 : Int32)), .val (.double (own_R 2 ((x0 * x1) + (((16 - x0) * x1) + (x0 * (16 - x1)))))), .second, .val (.int (0 : Int32)), .unset, .val (.ref b43), .val (.int (2 : Int32))] [(.int (2 : Int32))]))
      obtain ⟨fs99, hr99, hrun99, hended99, hW99, hsame99⟩ := X79.leave (v := some (.int (2 : Int32))) (fun h => by rw [Bd.returns] at h; cases h)
      refine Good.done (retI X79 hx Bd.returns (hb hby own_d1_135) hr99) hrun99 hended99 ⟨_, _, rfl, ?_, ⟨_, rfl⟩, hW99, hsame99.mono (by decide) (by decide)⟩
      show Q1_2 Z r0 kk x0 x1 h0 n0 _ T79.heap _
      rw [e79]
      exact ⟨congrArg (fun z => some (Value.int z)) (by rw [if_neg hq1_97]), N79, K82⟩
  · rw [if_neg hq2_94]
    show Good p e below _ (T79.setTop (mkF m 122 #[.val (.ref r0), .val (.ref b43), .val (.int (2 : Int32)), .val (.double (own_R 2 (x0 * x1))), .second, .val (.int (2 : Int32)), .unset, .val (.ref b43), .val (.int (2 : Int32))] [(.int (1 : Int32))]))
    refine Good.back (fun _ k => XS.ifYes X79.here hx rfl (pc0 := 122) (pc' := 128) rfl (hb hby own_d1_122) rfl ((if0 _ _).trans (flt (by decide : ¬ ((1 : Int32) < (0 : Int32)))).2.1) (by decide) (by decide) k) ?_
    show Good p e below _ (T79.setTop (mkF m 128 #[.val (.ref r0), .val (.ref b43), .val (.int (2 : Int32)), .val (.double (own_R 2 (x0 * x1))), .second, .val (.int (2 : Int32)), .unset, .val (.ref b43), .val (.int (2 : Int32))] []))
    refine Good.back (fun _ k => XS.iinc X79.here hx rfl (hb hby own_d1_128) rfl (l' := #[.val (.ref r0), .val (.ref b43), .val (.int (2 : Int32)), .val (.double (own_R 2 (x0 * x1))), .second, .val (.int ((2 : Int32) + (-1 : Int32))), .unset, .val (.ref b43), .val (.int (2 : Int32))]) rfl k) ?_
    show Good p e below _ (T79.setTop (mkF m 131 #[.val (.ref r0), .val (.ref b43), .val (.int (2 : Int32)), .val (.double (own_R 2 (x0 * x1))), .second, .val (.int ((2 : Int32) + (-1 : Int32))), .unset, .val (.ref b43), .val (.int (2 : Int32))] []))
    rw [show (((2 : Int32) + (-1 : Int32)) : Int32) = (1 : Int32) from by decide]
    show Good p e below _ (T79.setTop (mkF m 131 #[.val (.ref r0), .val (.ref b43), .val (.int (2 : Int32)), .val (.double (own_R 2 (x0 * x1))), .second, .val (.int (1 : Int32)), .unset, .val (.ref b43), .val (.int (2 : Int32))] []))
    refine Good.back (fun _ k => XS.goto X79.here hx rfl (pc0 := 131) (pc' := 104) rfl (hb hby own_d1_131) (by decide) (by decide) k) ?_
    show Good p e below _ (T79.setTop (mkF m 104 #[.val (.ref r0), .val (.ref b43), .val (.int (2 : Int32)), .val (.double (own_R 2 (x0 * x1))), .second, .val (.int (1 : Int32)), .unset, .val (.ref b43), .val (.int (2 : Int32))] []))
    refine Good.back (fun _ k => XS.iload X79.here hx rfl (hb hby own_d1_104) rfl k) ?_
    show Good p e below _ (T79.setTop (mkF m 106 #[.val (.ref r0), .val (.ref b43), .val (.int (2 : Int32)), .val (.double (own_R 2 (x0 * x1))), .second, .val (.int (1 : Int32)), .unset, .val (.ref b43), .val (.int (2 : Int32))] [(.int (1 : Int32))]))
    refine Good.back (fun _ k => XS.iconst X79.here hx rfl (hb hby own_d1_106) k) ?_
    show Good p e below _ (T79.setTop (mkF m 107 #[.val (.ref r0), .val (.ref b43), .val (.int (2 : Int32)), .val (.double (own_R 2 (x0 * x1))), .second, .val (.int (1 : Int32)), .unset, .val (.ref b43), .val (.int (2 : Int32))] [(.int (1 : Int32)), (.int (1 : Int32))]))
    refine Good.back (fun _ k => XS.icmpNo X79.here hx rfl (hb hby own_d1_107) rfl (flt (by decide : ¬ ((1 : Int32) < (1 : Int32)))).1 k) ?_
    show Good p e below _ (T79.setTop (mkF m 110 #[.val (.ref r0), .val (.ref b43), .val (.int (2 : Int32)), .val (.double (own_R 2 (x0 * x1))), .second, .val (.int (1 : Int32)), .unset, .val (.ref b43), .val (.int (2 : Int32))] []))
    refine Good.back (fun _ k => XS.dloadN X79.here hx rfl (hb hby own_d1_110) rfl k) ?_
    show Good p e below _ (T79.setTop (mkF m 111 #[.val (.ref r0), .val (.ref b43), .val (.int (2 : Int32)), .val (.double (own_R 2 (x0 * x1))), .second, .val (.int (1 : Int32)), .unset, .val (.ref b43), .val (.int (2 : Int32))] [(.double (own_R 2 (x0 * x1)))]))
    refine Good.back (fun _ k => XS.aloadN X79.here hx rfl (hb hby own_d1_111) rfl rfl k) ?_
    show Good p e below _ (T79.setTop (mkF m 112 #[.val (.ref r0), .val (.ref b43), .val (.int (2 : Int32)), .val (.double (own_R 2 (x0 * x1))), .second, .val (.int (1 : Int32)), .unset, .val (.ref b43), .val (.int (2 : Int32))] [(.ref b43), (.double (own_R 2 (x0 * x1)))]))
    refine Good.back (fun _ k => XS.iload X79.here hx rfl (hb hby own_d1_112) rfl k) ?_
    show Good p e below _ (T79.setTop (mkF m 114 #[.val (.ref r0), .val (.ref b43), .val (.int (2 : Int32)), .val (.double (own_R 2 (x0 * x1))), .second, .val (.int (1 : Int32)), .unset, .val (.ref b43), .val (.int (2 : Int32))] [(.int (1 : Int32)), (.ref b43), (.double (own_R 2 (x0 * x1)))]))
    have fc100 := f_80
    obtain ⟨cl100, Ar100, qk100, S100, N100', H100, G100⟩ := fc100
    have hin100 : ¬ ((1 : Int32) < 0 ∨ cl100.slots.size ≤ ((1 : Int32)).toNatClampNeg) := inb_of S100 ⟨by decide, by decide⟩
    have hat100 : cl100.slots[((1 : Int32)).toNatClampNeg]? = some (.double (own_R 2 (((16 - x0) * x1) + (x0 * (16 - x1))))) := Has.at H100 hin100 rfl
    refine Good.back (X79.daload hx (j := (1 : Int32)) (v := (.double (own_R 2 (((16 - x0) * x1) + (x0 * (16 - x1)))))) (by rw [e79]; exact Ar100.1) (State.isArrayOf_alike hZ.alike Ar100.2.1) Ar100.2.2 hin100 hat100 (g := (mkF m 114 #[.val (.ref r0), .val (.ref b43), .val (.int (2 : Int32)), .val (.double (own_R 2 (x0 * x1))), .second, .val (.int (1 : Int32)), .unset, .val (.ref b43), .val (.int (2 : Int32))] [(.int (1 : Int32)), (.ref b43), (.double (own_R 2 (x0 * x1)))])) rfl rfl (hb hby own_d1_114)) ?_
    show Good p e below _ (T79.setTop (mkF m 115 #[.val (.ref r0), .val (.ref b43), .val (.int (2 : Int32)), .val (.double (own_R 2 (x0 * x1))), .second, .val (.int (1 : Int32)), .unset, .val (.ref b43), .val (.int (2 : Int32))] [(.double (own_R 2 (((16 - x0) * x1) + (x0 * (16 - x1))))), (.double (own_R 2 (x0 * x1)))]))
    have hb101 := Nat.add_le_add hb78 hb70
    refine Good.back (fun _ k => XS.daddS X79.here hx rfl (hb hby own_d1_115) rfl ((own_Radd (Nat.lt_of_le_of_lt hb78 (by decide)) (Nat.lt_of_le_of_lt hb70 (by decide))).symm ▸ own_Rnn (Nat.lt_of_le_of_lt hb101 (by decide))) (own_Radd (Nat.lt_of_le_of_lt hb78 (by decide)) (Nat.lt_of_le_of_lt hb70 (by decide))) k) ?_
    show Good p e below _ (T79.setTop (mkF m 116 #[.val (.ref r0), .val (.ref b43), .val (.int (2 : Int32)), .val (.double (own_R 2 (x0 * x1))), .second, .val (.int (1 : Int32)), .unset, .val (.ref b43), .val (.int (2 : Int32))] [(.double (own_R 2 ((x0 * x1) + (((16 - x0) * x1) + (x0 * (16 - x1))))))]))
    refine Good.back (fun _ k => XS.dstoreN X79.here hx rfl (hb hby own_d1_116) rfl (l' := #[.val (.ref r0), .val (.ref b43), .val (.int (2 : Int32)), .val (.double (own_R 2 ((x0 * x1) + (((16 - x0) * x1) + (x0 * (16 - x1)))))), .second, .val (.int (1 : Int32)), .unset, .val (.ref b43), .val (.int (2 : Int32))]) rfl k) ?_
    show Good p e below _ (T79.setTop (mkF m 117 #[.val (.ref r0), .val (.ref b43), .val (.int (2 : Int32)), .val (.double (own_R 2 ((x0 * x1) + (((16 - x0) * x1) + (x0 * (16 - x1)))))), .second, .val (.int (1 : Int32)), .unset, .val (.ref b43), .val (.int (2 : Int32))] []))
    refine Good.back (fun _ k => XS.dloadN X79.here hx rfl (hb hby own_d1_117) rfl k) ?_
    show Good p e below _ (T79.setTop (mkF m 118 #[.val (.ref r0), .val (.ref b43), .val (.int (2 : Int32)), .val (.double (own_R 2 ((x0 * x1) + (((16 - x0) * x1) + (x0 * (16 - x1)))))), .second, .val (.int (1 : Int32)), .unset, .val (.ref b43), .val (.int (2 : Int32))] [(.double (own_R 2 ((x0 * x1) + (((16 - x0) * x1) + (x0 * (16 - x1))))))]))
    refine Good.back (X79.ldc2DoubleC hx hown (mvT hZ (hw _ (List.mem_of_getElem? (i := 7) rfl))) (g := (mkF m 118 #[.val (.ref r0), .val (.ref b43), .val (.int (2 : Int32)), .val (.double (own_R 2 ((x0 * x1) + (((16 - x0) * x1) + (x0 * (16 - x1)))))), .second, .val (.int (1 : Int32)), .unset, .val (.ref b43), .val (.int (2 : Int32))] [(.double (own_R 2 ((x0 * x1) + (((16 - x0) * x1) + (x0 * (16 - x1))))))])) rfl (hb hby own_d1_118)) ?_
    show Good p e below _ (T79.setTop (mkF m 121 #[.val (.ref r0), .val (.ref b43), .val (.int (2 : Int32)), .val (.double (own_R 2 ((x0 * x1) + (((16 - x0) * x1) + (x0 * (16 - x1)))))), .second, .val (.int (1 : Int32)), .unset, .val (.ref b43), .val (.int (2 : Int32))] [(.double (4587366580439587226 : UInt64)), (.double (own_R 2 ((x0 * x1) + (((16 - x0) * x1) + (x0 * (16 - x1))))))]))
    refine Good.back (fun _ k => XS.dcmpS X79.here hx rfl (hb hby own_d1_121) rfl (v := (if 20 * ((x0 * x1) + (((16 - x0) * x1) + (x0 * (16 - x1)))) < 16 ^ 2 then (-1 : Int32) else (1 : Int32))) (own_Rcmp (by decide) (Nat.lt_of_le_of_lt hb101 (by decide))) k) ?_
    show Good p e below _ (T79.setTop (mkF m 122 #[.val (.ref r0), .val (.ref b43), .val (.int (2 : Int32)), .val (.double (own_R 2 ((x0 * x1) + (((16 - x0) * x1) + (x0 * (16 - x1)))))), .second, .val (.int (1 : Int32)), .unset, .val (.ref b43), .val (.int (2 : Int32))] [(.int (if 20 * ((x0 * x1) + (((16 - x0) * x1) + (x0 * (16 - x1)))) < 16 ^ 2 then (-1 : Int32) else (1 : Int32)))]))
    by_cases hq1_102 : 20 * ((x0 * x1) + (((16 - x0) * x1) + (x0 * (16 - x1)))) < 16 ^ 2
    · rw [if_pos hq1_102]
      show Good p e below _ (T79.setTop (mkF m 122 #[.val (.ref r0), .val (.ref b43), .val (.int (2 : Int32)), .val (.double (own_R 2 ((x0 * x1) + (((16 - x0) * x1) + (x0 * (16 - x1)))))), .second, .val (.int (1 : Int32)), .unset, .val (.ref b43), .val (.int (2 : Int32))] [(.int (-1 : Int32))]))
      refine Good.back (fun _ k => XS.ifNo X79.here hx rfl (hb hby own_d1_122) rfl ((if0 _ _).trans (tlt (by decide : ((-1 : Int32) < (0 : Int32)))).2.1) k) ?_
      show Good p e below _ (T79.setTop (mkF m 125 #[.val (.ref r0), .val (.ref b43), .val (.int (2 : Int32)), .val (.double (own_R 2 ((x0 * x1) + (((16 - x0) * x1) + (x0 * (16 - x1)))))), .second, .val (.int (1 : Int32)), .unset, .val (.ref b43), .val (.int (2 : Int32))] []))
      refine Good.back (fun _ k => XS.iload X79.here hx rfl (hb hby own_d1_125) rfl k) ?_
      show Good p e below _ (T79.setTop (mkF m 127 #[.val (.ref r0), .val (.ref b43), .val (.int (2 : Int32)), .val (.double (own_R 2 ((x0 * x1) + (((16 - x0) * x1) + (x0 * (16 - x1)))))), .second, .val (.int (1 : Int32)), .unset, .val (.ref b43), .val (.int (2 : Int32))] [(.int (1 : Int32))]))
      refine Good.back (fun _ k => XS.istoreN X79.here hx rfl (hb hby own_d1_127) rfl (l' := #[.val (.ref r0), .val (.ref b43), .val (.int (1 : Int32)), .val (.double (own_R 2 ((x0 * x1) + (((16 - x0) * x1) + (x0 * (16 - x1)))))), .second, .val (.int (1 : Int32)), .unset, .val (.ref b43), .val (.int (2 : Int32))]) rfl k) ?_
      show Good p e below _ (T79.setTop (mkF m 128 #[.val (.ref r0), .val (.ref b43), .val (.int (1 : Int32)), .val (.double (own_R 2 ((x0 * x1) + (((16 - x0) * x1) + (x0 * (16 - x1)))))), .second, .val (.int (1 : Int32)), .unset, .val (.ref b43), .val (.int (2 : Int32))] []))
      refine Good.back (fun _ k => XS.iinc X79.here hx rfl (hb hby own_d1_128) rfl (l' := #[.val (.ref r0), .val (.ref b43), .val (.int (1 : Int32)), .val (.double (own_R 2 ((x0 * x1) + (((16 - x0) * x1) + (x0 * (16 - x1)))))), .second, .val (.int ((1 : Int32) + (-1 : Int32))), .unset, .val (.ref b43), .val (.int (2 : Int32))]) rfl k) ?_
      show Good p e below _ (T79.setTop (mkF m 131 #[.val (.ref r0), .val (.ref b43), .val (.int (1 : Int32)), .val (.double (own_R 2 ((x0 * x1) + (((16 - x0) * x1) + (x0 * (16 - x1)))))), .second, .val (.int ((1 : Int32) + (-1 : Int32))), .unset, .val (.ref b43), .val (.int (2 : Int32))] []))
      rw [show (((1 : Int32) + (-1 : Int32)) : Int32) = (0 : Int32) from by decide]
      show Good p e below _ (T79.setTop (mkF m 131 #[.val (.ref r0), .val (.ref b43), .val (.int (1 : Int32)), .val (.double (own_R 2 ((x0 * x1) + (((16 - x0) * x1) + (x0 * (16 - x1)))))), .second, .val (.int (0 : Int32)), .unset, .val (.ref b43), .val (.int (2 : Int32))] []))
      refine Good.back (fun _ k => XS.goto X79.here hx rfl (pc0 := 131) (pc' := 104) rfl (hb hby own_d1_131) (by decide) (by decide) k) ?_
      show Good p e below _ (T79.setTop (mkF m 104 #[.val (.ref r0), .val (.ref b43), .val (.int (1 : Int32)), .val (.double (own_R 2 ((x0 * x1) + (((16 - x0) * x1) + (x0 * (16 - x1)))))), .second, .val (.int (0 : Int32)), .unset, .val (.ref b43), .val (.int (2 : Int32))] []))
      refine Good.back (fun _ k => XS.iload X79.here hx rfl (hb hby own_d1_104) rfl k) ?_
      show Good p e below _ (T79.setTop (mkF m 106 #[.val (.ref r0), .val (.ref b43), .val (.int (1 : Int32)), .val (.double (own_R 2 ((x0 * x1) + (((16 - x0) * x1) + (x0 * (16 - x1)))))), .second, .val (.int (0 : Int32)), .unset, .val (.ref b43), .val (.int (2 : Int32))] [(.int (0 : Int32))]))
      refine Good.back (fun _ k => XS.iconst X79.here hx rfl (hb hby own_d1_106) k) ?_
      show Good p e below _ (T79.setTop (mkF m 107 #[.val (.ref r0), .val (.ref b43), .val (.int (1 : Int32)), .val (.double (own_R 2 ((x0 * x1) + (((16 - x0) * x1) + (x0 * (16 - x1)))))), .second, .val (.int (0 : Int32)), .unset, .val (.ref b43), .val (.int (2 : Int32))] [(.int (1 : Int32)), (.int (0 : Int32))]))
      refine Good.back (fun _ k => XS.icmpYes X79.here hx rfl (pc0 := 107) (pc' := 134) rfl (hb hby own_d1_107) rfl (tlt (by decide : ((0 : Int32) < (1 : Int32)))).1 (by decide) (by decide) k) ?_
      show Good p e below _ (T79.setTop (mkF m 134 #[.val (.ref r0), .val (.ref b43), .val (.int (1 : Int32)), .val (.double (own_R 2 ((x0 * x1) + (((16 - x0) * x1) + (x0 * (16 - x1)))))), .second, .val (.int (0 : Int32)), .unset, .val (.ref b43), .val (.int (2 : Int32))] []))
      refine Good.back (fun _ k => XS.iloadN X79.here hx rfl (hb hby own_d1_134) rfl k) ?_
      show Good p e below _ (T79.setTop (mkF m 135 #[.val (.ref r0), .val (.ref b43), .val (.int (1 : Int32)), .val (.double (own_R 2 ((x0 * x1) + (((16 - x0) * x1) + (x0 * (16 - x1)))))), .second, .val (.int (0 : Int32)), .unset, .val (.ref b43), .val (.int (2 : Int32))] [(.int (1 : Int32))]))
      obtain ⟨fs103, hr103, hrun103, hended103, hW103, hsame103⟩ := X79.leave (v := some (.int (1 : Int32))) (fun h => by rw [Bd.returns] at h; cases h)
      refine Good.done (retI X79 hx Bd.returns (hb hby own_d1_135) hr103) hrun103 hended103 ⟨_, _, rfl, ?_, ⟨_, rfl⟩, hW103, hsame103.mono (by decide) (by decide)⟩
      show Q1_2 Z r0 kk x0 x1 h0 n0 _ T79.heap _
      rw [e79]
      exact ⟨congrArg (fun z => some (Value.int z)) (by rw [if_pos hq1_102]), N79, K82⟩
    · rw [if_neg hq1_102]
      show Good p e below _ (T79.setTop (mkF m 122 #[.val (.ref r0), .val (.ref b43), .val (.int (2 : Int32)), .val (.double (own_R 2 ((x0 * x1) + (((16 - x0) * x1) + (x0 * (16 - x1)))))), .second, .val (.int (1 : Int32)), .unset, .val (.ref b43), .val (.int (2 : Int32))] [(.int (1 : Int32))]))
      refine Good.back (fun _ k => XS.ifYes X79.here hx rfl (pc0 := 122) (pc' := 128) rfl (hb hby own_d1_122) rfl ((if0 _ _).trans (flt (by decide : ¬ ((1 : Int32) < (0 : Int32)))).2.1) (by decide) (by decide) k) ?_
      show Good p e below _ (T79.setTop (mkF m 128 #[.val (.ref r0), .val (.ref b43), .val (.int (2 : Int32)), .val (.double (own_R 2 ((x0 * x1) + (((16 - x0) * x1) + (x0 * (16 - x1)))))), .second, .val (.int (1 : Int32)), .unset, .val (.ref b43), .val (.int (2 : Int32))] []))
      refine Good.back (fun _ k => XS.iinc X79.here hx rfl (hb hby own_d1_128) rfl (l' := #[.val (.ref r0), .val (.ref b43), .val (.int (2 : Int32)), .val (.double (own_R 2 ((x0 * x1) + (((16 - x0) * x1) + (x0 * (16 - x1)))))), .second, .val (.int ((1 : Int32) + (-1 : Int32))), .unset, .val (.ref b43), .val (.int (2 : Int32))]) rfl k) ?_
      show Good p e below _ (T79.setTop (mkF m 131 #[.val (.ref r0), .val (.ref b43), .val (.int (2 : Int32)), .val (.double (own_R 2 ((x0 * x1) + (((16 - x0) * x1) + (x0 * (16 - x1)))))), .second, .val (.int ((1 : Int32) + (-1 : Int32))), .unset, .val (.ref b43), .val (.int (2 : Int32))] []))
      rw [show (((1 : Int32) + (-1 : Int32)) : Int32) = (0 : Int32) from by decide]
      show Good p e below _ (T79.setTop (mkF m 131 #[.val (.ref r0), .val (.ref b43), .val (.int (2 : Int32)), .val (.double (own_R 2 ((x0 * x1) + (((16 - x0) * x1) + (x0 * (16 - x1)))))), .second, .val (.int (0 : Int32)), .unset, .val (.ref b43), .val (.int (2 : Int32))] []))
      refine Good.back (fun _ k => XS.goto X79.here hx rfl (pc0 := 131) (pc' := 104) rfl (hb hby own_d1_131) (by decide) (by decide) k) ?_
      show Good p e below _ (T79.setTop (mkF m 104 #[.val (.ref r0), .val (.ref b43), .val (.int (2 : Int32)), .val (.double (own_R 2 ((x0 * x1) + (((16 - x0) * x1) + (x0 * (16 - x1)))))), .second, .val (.int (0 : Int32)), .unset, .val (.ref b43), .val (.int (2 : Int32))] []))
      refine Good.back (fun _ k => XS.iload X79.here hx rfl (hb hby own_d1_104) rfl k) ?_
      show Good p e below _ (T79.setTop (mkF m 106 #[.val (.ref r0), .val (.ref b43), .val (.int (2 : Int32)), .val (.double (own_R 2 ((x0 * x1) + (((16 - x0) * x1) + (x0 * (16 - x1)))))), .second, .val (.int (0 : Int32)), .unset, .val (.ref b43), .val (.int (2 : Int32))] [(.int (0 : Int32))]))
      refine Good.back (fun _ k => XS.iconst X79.here hx rfl (hb hby own_d1_106) k) ?_
      show Good p e below _ (T79.setTop (mkF m 107 #[.val (.ref r0), .val (.ref b43), .val (.int (2 : Int32)), .val (.double (own_R 2 ((x0 * x1) + (((16 - x0) * x1) + (x0 * (16 - x1)))))), .second, .val (.int (0 : Int32)), .unset, .val (.ref b43), .val (.int (2 : Int32))] [(.int (1 : Int32)), (.int (0 : Int32))]))
      refine Good.back (fun _ k => XS.icmpYes X79.here hx rfl (pc0 := 107) (pc' := 134) rfl (hb hby own_d1_107) rfl (tlt (by decide : ((0 : Int32) < (1 : Int32)))).1 (by decide) (by decide) k) ?_
      show Good p e below _ (T79.setTop (mkF m 134 #[.val (.ref r0), .val (.ref b43), .val (.int (2 : Int32)), .val (.double (own_R 2 ((x0 * x1) + (((16 - x0) * x1) + (x0 * (16 - x1)))))), .second, .val (.int (0 : Int32)), .unset, .val (.ref b43), .val (.int (2 : Int32))] []))
      refine Good.back (fun _ k => XS.iloadN X79.here hx rfl (hb hby own_d1_134) rfl k) ?_
      show Good p e below _ (T79.setTop (mkF m 135 #[.val (.ref r0), .val (.ref b43), .val (.int (2 : Int32)), .val (.double (own_R 2 ((x0 * x1) + (((16 - x0) * x1) + (x0 * (16 - x1)))))), .second, .val (.int (0 : Int32)), .unset, .val (.ref b43), .val (.int (2 : Int32))] [(.int (2 : Int32))]))
      obtain ⟨fs104, hr104, hrun104, hended104, hW104, hsame104⟩ := X79.leave (v := some (.int (2 : Int32))) (fun h => by rw [Bd.returns] at h; cases h)
      refine Good.done (retI X79 hx Bd.returns (hb hby own_d1_135) hr104) hrun104 hended104 ⟨_, _, rfl, ?_, ⟨_, rfl⟩, hW104, hsame104.mono (by decide) (by decide)⟩
      show Q1_2 Z r0 kk x0 x1 h0 n0 _ T79.heap _
      rw [e79]
      exact ⟨congrArg (fun z => some (Value.int z)) (by rw [if_neg hq1_102]), N79, K82⟩
theorem own_ef_1_3 (m : MethodId) (x0 : Addr) : entryFrame m #[(.ref x0)] 9 = mkF m 0 #[.val (.ref x0), .unset, .unset, .unset, .unset, .unset, .unset, .unset, .unset] [] := by first | (simp [entryFrame, mkF, argsToLocals, Value.category]; done) | rfl
def Q1_3 (Z : State) (r0 : Addr) (kk : ClassId) (x0 : Nat) (x1 : Nat) (x2 : Nat) (h0 : Heap) (n0 : Nat) (v : Option Value) (h : Heap) (L : List Loc) : Prop := v = some (.int (if 20 * ((((x0 * x1) * x2) + (((((16 - x0) * x1) + (x0 * (16 - x1))) * x2) + ((x0 * x1) * (16 - x2)))) + ((((16 - x0) * (16 - x1)) * x2) + ((((16 - x0) * x1) + (x0 * (16 - x1))) * (16 - x2)))) < 16 ^ 3 then (1 : Int32) else (if 20 * (((x0 * x1) * x2) + (((((16 - x0) * x1) + (x0 * (16 - x1))) * x2) + ((x0 * x1) * (16 - x2)))) < 16 ^ 3 then (2 : Int32) else (3 : Int32)))) ∧ Fr n0 L ∧ Keep h0 h []
set_option maxRecDepth 65536 in
set_option maxHeartbeats 40000000 in
theorem rm1_3 (l : Launch) (Z : State) (a0 : Array Value) (hw : ∀ d ∈ tables_1, d.before a0 Z = true) (ws : List Jvm.Cond) (r0 : Addr) (kk : ClassId) (x0 : Nat) (x1 : Nat) (x2 : Nat) (h0 : Heap) (n0 : Nat) (Z0 : n0 ≤ h0.size) (V0 : Arv Z h0 r0 kk .double (3 : Int32) [(.double (own_R 1 x0)), (.double (own_R 1 x1)), (.double (own_R 1 x2))] (.double (FP.l2d 0))) (hx0 : x0 ≤ 16) (hx1 : x1 ≤ 16) (hx2 : x2 ≤ 16) :
    MetFree l (⟨"com/example/fradno/fradno/core/Consensus", "leastCount", "([D)I"⟩ : MethodName) (head1 (Jvm.Cond.code (⟨"com/example/fradno/fradno/core/Consensus", "leastCount", "([D)I"⟩ : MethodName) prog_43_method_5_code 9 (some .int) :: ws) ({ frames := 0, cells := 4, slots := 10, locals := 0 } : Room)) (fun a U => a = #[(.ref r0)] ∧ Z.Warmed39 U.vm ∧ U.heap = h0) (fun _ _ _ _ _ => True) (fun _ U o U' => ∃ v L, o = .returned v ∧ Q1_3 Z r0 kk x0 x1 x2 h0 n0 v U'.heap L ∧ FrameEnd U o U' L ({ frames := 0, cells := 4, slots := 10, locals := 0 } : Room).cells ({ frames := 0, cells := 4, slots := 10, locals := 0 } : Room).slots) := by
  refine MetFree.of_bodySF (plainFor_of_name own_pn0) hisR ?_
  intro p e s m args below meth c s₁ Bd hml0 hP hK
  obtain ⟨rfl, hZ, hh⟩ := hP
  have hx := Bd.exec
  have hby := Bd.bytes
  have hml : c.maxLocals = 9 := hml0
  have hown : s.vm.findClass "com/example/fradno/fradno/core/Consensus" = some m.cls := findClass_of_methodNamed Bd.named
  have hnm := (name_of_methodNamed Bd.named Bd.method).1
  have X0 : Stand p l e ({ frames := 0, cells := 4, slots := 10, locals := 0 } : Room) s m #[(.ref r0)] below meth c s₁ [] 0 0 := Stand.of_body Bd
  have e0 : s₁.heap = h0 := by rw [← hh, Bd.state]; rfl
  have N0 := Fr.nil n0
  have KR : Keep h0 h0 [] := Keep.refl h0 _
  show Good p e below (fun o U' => ∃ v L, o = .returned v ∧ Q1_3 Z r0 kk x0 x1 x2 h0 n0 v U'.heap L ∧ FrameEnd s o U' L ({ frames := 0, cells := 4, slots := 10, locals := 0 } : Room).cells ({ frames := 0, cells := 4, slots := 10, locals := 0 } : Room).slots) _
  refine Good.back (S' := s₁.setTop (mkF m 0 #[.val (.ref r0), .unset, .unset, .unset, .unset, .unset, .unset, .unset, .unset] [])) (fun t k => castTop (own_ef_1_3 m r0) k) ?_
  show Good p e below _ (s₁.setTop (mkF m 0 #[.val (.ref r0), .unset, .unset, .unset, .unset, .unset, .unset, .unset, .unset] []))
  refine Good.back (fun _ k => XS.iconst X0.here hx rfl (hb hby own_d1_0) k) ?_
  show Good p e below _ (s₁.setTop (mkF m 1 #[.val (.ref r0), .unset, .unset, .unset, .unset, .unset, .unset, .unset, .unset] [(.int (1 : Int32))]))
  obtain ⟨T1, h1, k1, X1, e1, E1, A1, st1⟩ := newP X0 hx hZ (hw _ (List.mem_of_getElem? (i := 2) rfl)) e0 (g := (mkF m 1 #[.val (.ref r0), .unset, .unset, .unset, .unset, .unset, .unset, .unset, .unset] [(.int (1 : Int32))])) rfl (hb hby own_d1_1) rfl (by decide) (cap := 1) (by decide) (by decide) (by decide) (by decide)
  obtain ⟨b1, g1⟩ : ∃ z, z = h0.size := ⟨_, rfl⟩
  rw [← g1] at A1 st1
  refine Good.back st1 ?_
  have g_b1 : n0 ≤ b1 := Nat.le_trans Z0 (Nat.le_of_eq g1.symm)
  have sz_b1 : h0.size ≤ b1 := Nat.le_trans KR.1 (Nat.le_of_eq g1.symm)
  have Z2 : n0 ≤ h1.size := Nat.le_trans Z0 E1.1
  have K3 : Keep h0 h1 [] := KR.ext E1
  have f_4 : Arv Z h1 b1 k1 .double (1 : Int32) [(.double (FP.l2d 0))] (.double (FP.l2d 0)) := (Arv.newD A1 (by decide)).pad (pad_rep [] (.double (FP.l2d 0)) 1)
  show Good p e below _ (T1.setTop (mkF m 3 #[.val (.ref r0), .unset, .unset, .unset, .unset, .unset, .unset, .unset, .unset] [(.ref b1)]))
  refine Good.back (fun _ k => XS.dup X1.here hx rfl (hb hby own_d1_3) rfl rfl k) ?_
  show Good p e below _ (T1.setTop (mkF m 4 #[.val (.ref r0), .unset, .unset, .unset, .unset, .unset, .unset, .unset, .unset] [(.ref b1), (.ref b1)]))
  refine Good.back (fun _ k => XS.iconst X1.here hx rfl (hb hby own_d1_4) k) ?_
  show Good p e below _ (T1.setTop (mkF m 5 #[.val (.ref r0), .unset, .unset, .unset, .unset, .unset, .unset, .unset, .unset] [(.int (0 : Int32)), (.ref b1), (.ref b1)]))
  refine Good.back (fun _ k => XS.dconst1 X1.here hx rfl (hb hby own_d1_5) (v := (FP.l2d (1 : Int64))) (by decide +kernel) k) ?_
  show Good p e below _ (T1.setTop (mkF m 6 #[.val (.ref r0), .unset, .unset, .unset, .unset, .unset, .unset, .unset, .unset] [(.double (FP.l2d (1 : Int64))), (.int (0 : Int32)), (.ref b1), (.ref b1)]))
  have fc5 := f_4
  obtain ⟨cl5, Ar5, qk5, S5, N5', H5, G5⟩ := fc5
  have hin5 : ¬ ((0 : Int32) < 0 ∨ cl5.slots.size ≤ ((0 : Int32)).toNatClampNeg) := inb_of S5 ⟨by decide, by decide⟩
  obtain ⟨T5, h5, X5, e5, W5, st5⟩ := stD X1 hx hZ e1 Ar5 (j := (0 : Int32)) hin5 (g := (mkF m 6 #[.val (.ref r0), .unset, .unset, .unset, .unset, .unset, .unset, .unset, .unset] [(.double (FP.l2d (1 : Int64))), (.int (0 : Int32)), (.ref b1), (.ref b1)])) rfl rfl (hb hby own_d1_6)
  refine Good.back st5 ?_
  have f_6 : Arv Z h5 b1 k1 .double (1 : Int32) [(.double (FP.l2d (1 : Int64)))] (.double (FP.l2d 0)) := Arv.set Ar5 qk5 S5 N5' H5 G5 rfl W5 0 rfl (Nat.le_of_ble_eq_true rfl)
  have N5 := Fr.snoc X5 N0 g_b1
  have Z7 : n0 ≤ h5.size := Nat.le_trans Z2 (Keep.of_wr W5).1
  have K8 : Keep h0 h5 [] := K3.wr W5 (Or.inr sz_b1)
  show Good p e below _ (T5.setTop (mkF m 7 #[.val (.ref r0), .unset, .unset, .unset, .unset, .unset, .unset, .unset, .unset] [(.ref b1)]))
  refine Good.back (fun _ k => XS.astoreN X5.here hx rfl (hb hby own_d1_7) rfl rfl (l' := #[.val (.ref r0), .val (.ref b1), .unset, .unset, .unset, .unset, .unset, .unset, .unset]) rfl k) ?_
  show Good p e below _ (T5.setTop (mkF m 8 #[.val (.ref r0), .val (.ref b1), .unset, .unset, .unset, .unset, .unset, .unset, .unset] []))
  refine Good.back (fun _ k => XS.aloadN X5.here hx rfl (hb hby own_d1_8) rfl rfl k) ?_
  show Good p e below _ (T5.setTop (mkF m 9 #[.val (.ref r0), .val (.ref b1), .unset, .unset, .unset, .unset, .unset, .unset, .unset] [(.ref r0)]))
  refine Good.back (fun _ k => XS.astoreN X5.here hx rfl (hb hby own_d1_9) rfl rfl (l' := #[.val (.ref r0), .val (.ref b1), .val (.ref r0), .unset, .unset, .unset, .unset, .unset, .unset]) rfl k) ?_
  show Good p e below _ (T5.setTop (mkF m 10 #[.val (.ref r0), .val (.ref b1), .val (.ref r0), .unset, .unset, .unset, .unset, .unset, .unset] []))
  refine Good.back (fun _ k => XS.aloadN X5.here hx rfl (hb hby own_d1_10) rfl rfl k) ?_
  show Good p e below _ (T5.setTop (mkF m 11 #[.val (.ref r0), .val (.ref b1), .val (.ref r0), .unset, .unset, .unset, .unset, .unset, .unset] [(.ref r0)]))
  have f_9 : Arv Z h1 r0 kk .double (3 : Int32) [(.double (own_R 1 x0)), (.double (own_R 1 x1)), (.double (own_R 1 x2))] (.double (FP.l2d 0)) := Arv.ext V0 E1
  have ne_r0_b1_11 : r0 ≠ b1 := Nat.ne_of_lt (Nat.lt_of_lt_of_le V0.lt (Nat.le_of_eq g1.symm))
  have f_10 : Arv Z h5 r0 kk .double (3 : Int32) [(.double (own_R 1 x0)), (.double (own_R 1 x1)), (.double (own_R 1 x2))] (.double (FP.l2d 0)) := Arv.other f_9 W5 ne_r0_b1_11
  have fc12 := f_10
  obtain ⟨cl12, Ar12, qk12, S12, N12', H12, G12⟩ := fc12
  refine Good.back (X5.arraylength hx (by rw [e5]; exact Ar12.1) (State.isArrayOf_alike hZ.alike Ar12.2.1) (g := (mkF m 11 #[.val (.ref r0), .val (.ref b1), .val (.ref r0), .unset, .unset, .unset, .unset, .unset, .unset] [(.ref r0)])) rfl rfl (hb hby own_d1_11)) ?_
  rw [len_of S12 N12']
  show Good p e below _ (T5.setTop (mkF m 12 #[.val (.ref r0), .val (.ref b1), .val (.ref r0), .unset, .unset, .unset, .unset, .unset, .unset] [(.int (3 : Int32))]))
  refine Good.back (fun _ k => XS.istoreN X5.here hx rfl (hb hby own_d1_12) rfl (l' := #[.val (.ref r0), .val (.ref b1), .val (.ref r0), .val (.int (3 : Int32)), .unset, .unset, .unset, .unset, .unset]) rfl k) ?_
  show Good p e below _ (T5.setTop (mkF m 13 #[.val (.ref r0), .val (.ref b1), .val (.ref r0), .val (.int (3 : Int32)), .unset, .unset, .unset, .unset, .unset] []))
  refine Good.back (fun _ k => XS.iconst X5.here hx rfl (hb hby own_d1_13) k) ?_
  show Good p e below _ (T5.setTop (mkF m 14 #[.val (.ref r0), .val (.ref b1), .val (.ref r0), .val (.int (3 : Int32)), .unset, .unset, .unset, .unset, .unset] [(.int (0 : Int32))]))
  refine Good.back (fun _ k => XS.istore X5.here hx rfl (hb hby own_d1_14) rfl (l' := #[.val (.ref r0), .val (.ref b1), .val (.ref r0), .val (.int (3 : Int32)), .val (.int (0 : Int32)), .unset, .unset, .unset, .unset]) rfl k) ?_
  show Good p e below _ (T5.setTop (mkF m 16 #[.val (.ref r0), .val (.ref b1), .val (.ref r0), .val (.int (3 : Int32)), .val (.int (0 : Int32)), .unset, .unset, .unset, .unset] []))
  refine Good.back (fun _ k => XS.iload X5.here hx rfl (hb hby own_d1_16) rfl k) ?_
  show Good p e below _ (T5.setTop (mkF m 18 #[.val (.ref r0), .val (.ref b1), .val (.ref r0), .val (.int (3 : Int32)), .val (.int (0 : Int32)), .unset, .unset, .unset, .unset] [(.int (0 : Int32))]))
  refine Good.back (fun _ k => XS.iloadN X5.here hx rfl (hb hby own_d1_18) rfl k) ?_
  show Good p e below _ (T5.setTop (mkF m 19 #[.val (.ref r0), .val (.ref b1), .val (.ref r0), .val (.int (3 : Int32)), .val (.int (0 : Int32)), .unset, .unset, .unset, .unset] [(.int (3 : Int32)), (.int (0 : Int32))]))
  refine Good.back (fun _ k => XS.icmpNo X5.here hx rfl (hb hby own_d1_19) rfl (tlt (by decide : ((0 : Int32) < (3 : Int32)))).2.1 k) ?_
  show Good p e below _ (T5.setTop (mkF m 22 #[.val (.ref r0), .val (.ref b1), .val (.ref r0), .val (.int (3 : Int32)), .val (.int (0 : Int32)), .unset, .unset, .unset, .unset] []))
  refine Good.back (fun _ k => XS.aloadN X5.here hx rfl (hb hby own_d1_22) rfl rfl k) ?_
  show Good p e below _ (T5.setTop (mkF m 23 #[.val (.ref r0), .val (.ref b1), .val (.ref r0), .val (.int (3 : Int32)), .val (.int (0 : Int32)), .unset, .unset, .unset, .unset] [(.ref r0)]))
  refine Good.back (fun _ k => XS.iload X5.here hx rfl (hb hby own_d1_23) rfl k) ?_
  show Good p e below _ (T5.setTop (mkF m 25 #[.val (.ref r0), .val (.ref b1), .val (.ref r0), .val (.int (3 : Int32)), .val (.int (0 : Int32)), .unset, .unset, .unset, .unset] [(.int (0 : Int32)), (.ref r0)]))
  have fc13 := f_10
  obtain ⟨cl13, Ar13, qk13, S13, N13', H13, G13⟩ := fc13
  have hin13 : ¬ ((0 : Int32) < 0 ∨ cl13.slots.size ≤ ((0 : Int32)).toNatClampNeg) := inb_of S13 ⟨by decide, by decide⟩
  have hat13 : cl13.slots[((0 : Int32)).toNatClampNeg]? = some (.double (own_R 1 x0)) := Has.at H13 hin13 rfl
  refine Good.back (X5.daload hx (j := (0 : Int32)) (v := (.double (own_R 1 x0))) (by rw [e5]; exact Ar13.1) (State.isArrayOf_alike hZ.alike Ar13.2.1) Ar13.2.2 hin13 hat13 (g := (mkF m 25 #[.val (.ref r0), .val (.ref b1), .val (.ref r0), .val (.int (3 : Int32)), .val (.int (0 : Int32)), .unset, .unset, .unset, .unset] [(.int (0 : Int32)), (.ref r0)])) rfl rfl (hb hby own_d1_25)) ?_
  show Good p e below _ (T5.setTop (mkF m 26 #[.val (.ref r0), .val (.ref b1), .val (.ref r0), .val (.int (3 : Int32)), .val (.int (0 : Int32)), .unset, .unset, .unset, .unset] [(.double (own_R 1 x0))]))
  refine Good.back (fun _ k => XS.dstore X5.here hx rfl (hb hby own_d1_26) rfl (l' := #[.val (.ref r0), .val (.ref b1), .val (.ref r0), .val (.int (3 : Int32)), .val (.int (0 : Int32)), .val (.double (own_R 1 x0)), .second, .unset, .unset]) rfl k) ?_
  show Good p e below _ (T5.setTop (mkF m 28 #[.val (.ref r0), .val (.ref b1), .val (.ref r0), .val (.int (3 : Int32)), .val (.int (0 : Int32)), .val (.double (own_R 1 x0)), .second, .unset, .unset] []))
  refine Good.back (fun _ k => XS.aloadN X5.here hx rfl (hb hby own_d1_28) rfl rfl k) ?_
  show Good p e below _ (T5.setTop (mkF m 29 #[.val (.ref r0), .val (.ref b1), .val (.ref r0), .val (.int (3 : Int32)), .val (.int (0 : Int32)), .val (.double (own_R 1 x0)), .second, .unset, .unset] [(.ref b1)]))
  have fc14 := f_6
  obtain ⟨cl14, Ar14, qk14, S14, N14', H14, G14⟩ := fc14
  refine Good.back (X5.arraylength hx (by rw [e5]; exact Ar14.1) (State.isArrayOf_alike hZ.alike Ar14.2.1) (g := (mkF m 29 #[.val (.ref r0), .val (.ref b1), .val (.ref r0), .val (.int (3 : Int32)), .val (.int (0 : Int32)), .val (.double (own_R 1 x0)), .second, .unset, .unset] [(.ref b1)])) rfl rfl (hb hby own_d1_29)) ?_
  rw [len_of S14 N14']
  show Good p e below _ (T5.setTop (mkF m 30 #[.val (.ref r0), .val (.ref b1), .val (.ref r0), .val (.int (3 : Int32)), .val (.int (0 : Int32)), .val (.double (own_R 1 x0)), .second, .unset, .unset] [(.int (1 : Int32))]))
  refine Good.back (fun _ k => XS.iconst X5.here hx rfl (hb hby own_d1_30) k) ?_
  show Good p e below _ (T5.setTop (mkF m 31 #[.val (.ref r0), .val (.ref b1), .val (.ref r0), .val (.int (3 : Int32)), .val (.int (0 : Int32)), .val (.double (own_R 1 x0)), .second, .unset, .unset] [(.int (1 : Int32)), (.int (1 : Int32))]))
  refine Good.back (fun _ k => XS.iadd X5.here hx rfl (hb hby own_d1_31) rfl k) ?_
  show Good p e below _ (T5.setTop (mkF m 32 #[.val (.ref r0), .val (.ref b1), .val (.ref r0), .val (.int (3 : Int32)), .val (.int (0 : Int32)), .val (.double (own_R 1 x0)), .second, .unset, .unset] [(.int ((1 : Int32) + (1 : Int32)))]))
  rw [show (((1 : Int32) + (1 : Int32)) : Int32) = (2 : Int32) from by decide]
  show Good p e below _ (T5.setTop (mkF m 32 #[.val (.ref r0), .val (.ref b1), .val (.ref r0), .val (.int (3 : Int32)), .val (.int (0 : Int32)), .val (.double (own_R 1 x0)), .second, .unset, .unset] [(.int (2 : Int32))]))
  obtain ⟨T15, h15, k15, X15, e15, E15, A15, st15⟩ := newP X5 hx hZ (hw _ (List.mem_of_getElem? (i := 2) rfl)) e5 (g := (mkF m 32 #[.val (.ref r0), .val (.ref b1), .val (.ref r0), .val (.int (3 : Int32)), .val (.int (0 : Int32)), .val (.double (own_R 1 x0)), .second, .unset, .unset] [(.int (2 : Int32))])) rfl (hb hby own_d1_32) rfl (by decide) (cap := 2) (by decide) (by decide) (by decide) (by decide)
  obtain ⟨b15, g15⟩ : ∃ z, z = h5.size := ⟨_, rfl⟩
  rw [← g15] at A15 st15
  refine Good.back st15 ?_
  have g_b15 : n0 ≤ b15 := Nat.le_trans Z7 (Nat.le_of_eq g15.symm)
  have sz_b15 : h0.size ≤ b15 := Nat.le_trans K8.1 (Nat.le_of_eq g15.symm)
  have Z16 : n0 ≤ h15.size := Nat.le_trans Z7 E15.1
  have K17 : Keep h0 h15 [] := K8.ext E15
  have f_18 : Arv Z h15 b15 k15 .double (2 : Int32) [(.double (FP.l2d 0)), (.double (FP.l2d 0))] (.double (FP.l2d 0)) := (Arv.newD A15 (by decide)).pad (pad_rep [] (.double (FP.l2d 0)) 2)
  show Good p e below _ (T15.setTop (mkF m 34 #[.val (.ref r0), .val (.ref b1), .val (.ref r0), .val (.int (3 : Int32)), .val (.int (0 : Int32)), .val (.double (own_R 1 x0)), .second, .unset, .unset] [(.ref b15)]))
  refine Good.back (fun _ k => XS.astore X15.here hx rfl (hb hby own_d1_34) rfl rfl (l' := #[.val (.ref r0), .val (.ref b1), .val (.ref r0), .val (.int (3 : Int32)), .val (.int (0 : Int32)), .val (.double (own_R 1 x0)), .second, .val (.ref b15), .unset]) rfl k) ?_
  show Good p e below _ (T15.setTop (mkF m 36 #[.val (.ref r0), .val (.ref b1), .val (.ref r0), .val (.int (3 : Int32)), .val (.int (0 : Int32)), .val (.double (own_R 1 x0)), .second, .val (.ref b15), .unset] []))
  refine Good.back (fun _ k => XS.iconst X15.here hx rfl (hb hby own_d1_36) k) ?_
  show Good p e below _ (T15.setTop (mkF m 37 #[.val (.ref r0), .val (.ref b1), .val (.ref r0), .val (.int (3 : Int32)), .val (.int (0 : Int32)), .val (.double (own_R 1 x0)), .second, .val (.ref b15), .unset] [(.int (0 : Int32))]))
  refine Good.back (fun _ k => XS.istore X15.here hx rfl (hb hby own_d1_37) rfl (l' := #[.val (.ref r0), .val (.ref b1), .val (.ref r0), .val (.int (3 : Int32)), .val (.int (0 : Int32)), .val (.double (own_R 1 x0)), .second, .val (.ref b15), .val (.int (0 : Int32))]) rfl k) ?_
  show Good p e below _ (T15.setTop (mkF m 39 #[.val (.ref r0), .val (.ref b1), .val (.ref r0), .val (.int (3 : Int32)), .val (.int (0 : Int32)), .val (.double (own_R 1 x0)), .second, .val (.ref b15), .val (.int (0 : Int32))] []))
  refine Good.back (fun _ k => XS.iload X15.here hx rfl (hb hby own_d1_39) rfl k) ?_
  show Good p e below _ (T15.setTop (mkF m 41 #[.val (.ref r0), .val (.ref b1), .val (.ref r0), .val (.int (3 : Int32)), .val (.int (0 : Int32)), .val (.double (own_R 1 x0)), .second, .val (.ref b15), .val (.int (0 : Int32))] [(.int (0 : Int32))]))
  refine Good.back (fun _ k => XS.aloadN X15.here hx rfl (hb hby own_d1_41) rfl rfl k) ?_
  show Good p e below _ (T15.setTop (mkF m 42 #[.val (.ref r0), .val (.ref b1), .val (.ref r0), .val (.int (3 : Int32)), .val (.int (0 : Int32)), .val (.double (own_R 1 x0)), .second, .val (.ref b15), .val (.int (0 : Int32))] [(.ref b1), (.int (0 : Int32))]))
  have f_19 : Arv Z h15 b1 k1 .double (1 : Int32) [(.double (FP.l2d (1 : Int64)))] (.double (FP.l2d 0)) := Arv.ext f_6 E15
  have fc20 := f_19
  obtain ⟨cl20, Ar20, qk20, S20, N20', H20, G20⟩ := fc20
  refine Good.back (X15.arraylength hx (by rw [e15]; exact Ar20.1) (State.isArrayOf_alike hZ.alike Ar20.2.1) (g := (mkF m 42 #[.val (.ref r0), .val (.ref b1), .val (.ref r0), .val (.int (3 : Int32)), .val (.int (0 : Int32)), .val (.double (own_R 1 x0)), .second, .val (.ref b15), .val (.int (0 : Int32))] [(.ref b1), (.int (0 : Int32))])) rfl rfl (hb hby own_d1_42)) ?_
  rw [len_of S20 N20']
  show Good p e below _ (T15.setTop (mkF m 43 #[.val (.ref r0), .val (.ref b1), .val (.ref r0), .val (.int (3 : Int32)), .val (.int (0 : Int32)), .val (.double (own_R 1 x0)), .second, .val (.ref b15), .val (.int (0 : Int32))] [(.int (1 : Int32)), (.int (0 : Int32))]))
  refine Good.back (fun _ k => XS.icmpNo X15.here hx rfl (hb hby own_d1_43) rfl (tlt (by decide : ((0 : Int32) < (1 : Int32)))).2.1 k) ?_
  show Good p e below _ (T15.setTop (mkF m 46 #[.val (.ref r0), .val (.ref b1), .val (.ref r0), .val (.int (3 : Int32)), .val (.int (0 : Int32)), .val (.double (own_R 1 x0)), .second, .val (.ref b15), .val (.int (0 : Int32))] []))
  refine Good.back (fun _ k => XS.aload X15.here hx rfl (hb hby own_d1_46) rfl rfl k) ?_
  show Good p e below _ (T15.setTop (mkF m 48 #[.val (.ref r0), .val (.ref b1), .val (.ref r0), .val (.int (3 : Int32)), .val (.int (0 : Int32)), .val (.double (own_R 1 x0)), .second, .val (.ref b15), .val (.int (0 : Int32))] [(.ref b15)]))
  refine Good.back (fun _ k => XS.iload X15.here hx rfl (hb hby own_d1_48) rfl k) ?_
  show Good p e below _ (T15.setTop (mkF m 50 #[.val (.ref r0), .val (.ref b1), .val (.ref r0), .val (.int (3 : Int32)), .val (.int (0 : Int32)), .val (.double (own_R 1 x0)), .second, .val (.ref b15), .val (.int (0 : Int32))] [(.int (0 : Int32)), (.ref b15)]))
  refine Good.back (fun _ k => Jvm.Free.XT.dup2 X15.here hx rfl (hb hby own_d1_50) rfl rfl rfl k) ?_
  show Good p e below _ (T15.setTop (mkF m 51 #[.val (.ref r0), .val (.ref b1), .val (.ref r0), .val (.int (3 : Int32)), .val (.int (0 : Int32)), .val (.double (own_R 1 x0)), .second, .val (.ref b15), .val (.int (0 : Int32))] [(.int (0 : Int32)), (.ref b15), (.int (0 : Int32)), (.ref b15)]))
  have fc21 := f_18
  obtain ⟨cl21, Ar21, qk21, S21, N21', H21, G21⟩ := fc21
  have hin21 : ¬ ((0 : Int32) < 0 ∨ cl21.slots.size ≤ ((0 : Int32)).toNatClampNeg) := inb_of S21 ⟨by decide, by decide⟩
  have hat21 : cl21.slots[((0 : Int32)).toNatClampNeg]? = some (.double (FP.l2d 0)) := Has.at H21 hin21 rfl
  refine Good.back (X15.daload hx (j := (0 : Int32)) (v := (.double (FP.l2d 0))) (by rw [e15]; exact Ar21.1) (State.isArrayOf_alike hZ.alike Ar21.2.1) Ar21.2.2 hin21 hat21 (g := (mkF m 51 #[.val (.ref r0), .val (.ref b1), .val (.ref r0), .val (.int (3 : Int32)), .val (.int (0 : Int32)), .val (.double (own_R 1 x0)), .second, .val (.ref b15), .val (.int (0 : Int32))] [(.int (0 : Int32)), (.ref b15), (.int (0 : Int32)), (.ref b15)])) rfl rfl (hb hby own_d1_51)) ?_
  show Good p e below _ (T15.setTop (mkF m 52 #[.val (.ref r0), .val (.ref b1), .val (.ref r0), .val (.int (3 : Int32)), .val (.int (0 : Int32)), .val (.double (own_R 1 x0)), .second, .val (.ref b15), .val (.int (0 : Int32))] [(.double (FP.l2d 0)), (.int (0 : Int32)), (.ref b15)]))
  refine Good.back (fun _ k => XS.aloadN X15.here hx rfl (hb hby own_d1_52) rfl rfl k) ?_
  show Good p e below _ (T15.setTop (mkF m 53 #[.val (.ref r0), .val (.ref b1), .val (.ref r0), .val (.int (3 : Int32)), .val (.int (0 : Int32)), .val (.double (own_R 1 x0)), .second, .val (.ref b15), .val (.int (0 : Int32))] [(.ref b1), (.double (FP.l2d 0)), (.int (0 : Int32)), (.ref b15)]))
  refine Good.back (fun _ k => XS.iload X15.here hx rfl (hb hby own_d1_53) rfl k) ?_
  show Good p e below _ (T15.setTop (mkF m 55 #[.val (.ref r0), .val (.ref b1), .val (.ref r0), .val (.int (3 : Int32)), .val (.int (0 : Int32)), .val (.double (own_R 1 x0)), .second, .val (.ref b15), .val (.int (0 : Int32))] [(.int (0 : Int32)), (.ref b1), (.double (FP.l2d 0)), (.int (0 : Int32)), (.ref b15)]))
  have fc22 := f_19
  obtain ⟨cl22, Ar22, qk22, S22, N22', H22, G22⟩ := fc22
  have hin22 : ¬ ((0 : Int32) < 0 ∨ cl22.slots.size ≤ ((0 : Int32)).toNatClampNeg) := inb_of S22 ⟨by decide, by decide⟩
  have hat22 : cl22.slots[((0 : Int32)).toNatClampNeg]? = some (.double (FP.l2d (1 : Int64))) := Has.at H22 hin22 rfl
  refine Good.back (X15.daload hx (j := (0 : Int32)) (v := (.double (FP.l2d (1 : Int64)))) (by rw [e15]; exact Ar22.1) (State.isArrayOf_alike hZ.alike Ar22.2.1) Ar22.2.2 hin22 hat22 (g := (mkF m 55 #[.val (.ref r0), .val (.ref b1), .val (.ref r0), .val (.int (3 : Int32)), .val (.int (0 : Int32)), .val (.double (own_R 1 x0)), .second, .val (.ref b15), .val (.int (0 : Int32))] [(.int (0 : Int32)), (.ref b1), (.double (FP.l2d 0)), (.int (0 : Int32)), (.ref b15)])) rfl rfl (hb hby own_d1_55)) ?_
  show Good p e below _ (T15.setTop (mkF m 56 #[.val (.ref r0), .val (.ref b1), .val (.ref r0), .val (.int (3 : Int32)), .val (.int (0 : Int32)), .val (.double (own_R 1 x0)), .second, .val (.ref b15), .val (.int (0 : Int32))] [(.double (FP.l2d (1 : Int64))), (.double (FP.l2d 0)), (.int (0 : Int32)), (.ref b15)]))
  refine Good.back (fun _ k => XS.dconst1 X15.here hx rfl (hb hby own_d1_56) (v := (FP.l2d (1 : Int64))) (by decide +kernel) k) ?_
  show Good p e below _ (T15.setTop (mkF m 57 #[.val (.ref r0), .val (.ref b1), .val (.ref r0), .val (.int (3 : Int32)), .val (.int (0 : Int32)), .val (.double (own_R 1 x0)), .second, .val (.ref b15), .val (.int (0 : Int32))] [(.double (FP.l2d (1 : Int64))), (.double (FP.l2d (1 : Int64))), (.double (FP.l2d 0)), (.int (0 : Int32)), (.ref b15)]))
  refine Good.back (fun _ k => XS.dload X15.here hx rfl (hb hby own_d1_57) rfl k) ?_
  show Good p e below _ (T15.setTop (mkF m 59 #[.val (.ref r0), .val (.ref b1), .val (.ref r0), .val (.int (3 : Int32)), .val (.int (0 : Int32)), .val (.double (own_R 1 x0)), .second, .val (.ref b15), .val (.int (0 : Int32))] [(.double (own_R 1 x0)), (.double (FP.l2d (1 : Int64))), (.double (FP.l2d (1 : Int64))), (.double (FP.l2d 0)), (.int (0 : Int32)), (.ref b15)]))
  refine Good.back (fun _ k => XS.dsubS X15.here hx rfl (hb hby own_d1_59) rfl (own_Rsub hx0 ▸ own_Rnn (Nat.lt_of_le_of_lt (Nat.sub_le 16 x0) (by decide))) (own_Rsub hx0) k) ?_
  show Good p e below _ (T15.setTop (mkF m 60 #[.val (.ref r0), .val (.ref b1), .val (.ref r0), .val (.int (3 : Int32)), .val (.int (0 : Int32)), .val (.double (own_R 1 x0)), .second, .val (.ref b15), .val (.int (0 : Int32))] [(.double (own_R 1 (16 - x0))), (.double (FP.l2d (1 : Int64))), (.double (FP.l2d 0)), (.int (0 : Int32)), (.ref b15)]))
  refine Good.back (fun _ k => XS.dmulS X15.here hx rfl (hb hby own_d1_60) rfl ((own_Rmul1 (d := 1) (by decide) (Nat.lt_of_le_of_lt (Nat.sub_le 16 x0) (by decide))).symm ▸ own_Rnn (Nat.lt_of_le_of_lt (Nat.sub_le 16 x0) (by decide))) (own_Rmul1 (d := 1) (by decide) (Nat.lt_of_le_of_lt (Nat.sub_le 16 x0) (by decide))) k) ?_
  show Good p e below _ (T15.setTop (mkF m 61 #[.val (.ref r0), .val (.ref b1), .val (.ref r0), .val (.int (3 : Int32)), .val (.int (0 : Int32)), .val (.double (own_R 1 x0)), .second, .val (.ref b15), .val (.int (0 : Int32))] [(.double (own_R 1 (16 - x0))), (.double (FP.l2d 0)), (.int (0 : Int32)), (.ref b15)]))
  refine Good.back (fun _ k => XS.daddS X15.here hx rfl (hb hby own_d1_61) rfl ((own_Radd0 (Nat.lt_of_le_of_lt (Nat.sub_le 16 x0) (by decide))).symm ▸ own_Rnn (Nat.lt_of_le_of_lt (Nat.sub_le 16 x0) (by decide))) (own_Radd0 (Nat.lt_of_le_of_lt (Nat.sub_le 16 x0) (by decide))) k) ?_
  show Good p e below _ (T15.setTop (mkF m 62 #[.val (.ref r0), .val (.ref b1), .val (.ref r0), .val (.int (3 : Int32)), .val (.int (0 : Int32)), .val (.double (own_R 1 x0)), .second, .val (.ref b15), .val (.int (0 : Int32))] [(.double (own_R 1 (16 - x0))), (.int (0 : Int32)), (.ref b15)]))
  have fc23 := f_18
  obtain ⟨cl23, Ar23, qk23, S23, N23', H23, G23⟩ := fc23
  have hin23 : ¬ ((0 : Int32) < 0 ∨ cl23.slots.size ≤ ((0 : Int32)).toNatClampNeg) := inb_of S23 ⟨by decide, by decide⟩
  obtain ⟨T23, h23, X23, e23, W23, st23⟩ := stD X15 hx hZ e15 Ar23 (j := (0 : Int32)) hin23 (g := (mkF m 62 #[.val (.ref r0), .val (.ref b1), .val (.ref r0), .val (.int (3 : Int32)), .val (.int (0 : Int32)), .val (.double (own_R 1 x0)), .second, .val (.ref b15), .val (.int (0 : Int32))] [(.double (own_R 1 (16 - x0))), (.int (0 : Int32)), (.ref b15)])) rfl rfl (hb hby own_d1_62)
  refine Good.back st23 ?_
  have f_24 : Arv Z h23 b15 k15 .double (2 : Int32) [(.double (own_R 1 (16 - x0))), (.double (FP.l2d 0))] (.double (FP.l2d 0)) := Arv.set Ar23 qk23 S23 N23' H23 G23 rfl W23 0 rfl (Nat.le_of_ble_eq_true rfl)
  have N23 := Fr.snoc X23 N5 g_b15
  have Z25 : n0 ≤ h23.size := Nat.le_trans Z16 (Keep.of_wr W23).1
  have K26 : Keep h0 h23 [] := K17.wr W23 (Or.inr sz_b15)
  show Good p e below _ (T23.setTop (mkF m 63 #[.val (.ref r0), .val (.ref b1), .val (.ref r0), .val (.int (3 : Int32)), .val (.int (0 : Int32)), .val (.double (own_R 1 x0)), .second, .val (.ref b15), .val (.int (0 : Int32))] []))
  refine Good.back (fun _ k => XS.aload X23.here hx rfl (hb hby own_d1_63) rfl rfl k) ?_
  show Good p e below _ (T23.setTop (mkF m 65 #[.val (.ref r0), .val (.ref b1), .val (.ref r0), .val (.int (3 : Int32)), .val (.int (0 : Int32)), .val (.double (own_R 1 x0)), .second, .val (.ref b15), .val (.int (0 : Int32))] [(.ref b15)]))
  refine Good.back (fun _ k => XS.iload X23.here hx rfl (hb hby own_d1_65) rfl k) ?_
  show Good p e below _ (T23.setTop (mkF m 67 #[.val (.ref r0), .val (.ref b1), .val (.ref r0), .val (.int (3 : Int32)), .val (.int (0 : Int32)), .val (.double (own_R 1 x0)), .second, .val (.ref b15), .val (.int (0 : Int32))] [(.int (0 : Int32)), (.ref b15)]))
  refine Good.back (fun _ k => XS.iconst X23.here hx rfl (hb hby own_d1_67) k) ?_
  show Good p e below _ (T23.setTop (mkF m 68 #[.val (.ref r0), .val (.ref b1), .val (.ref r0), .val (.int (3 : Int32)), .val (.int (0 : Int32)), .val (.double (own_R 1 x0)), .second, .val (.ref b15), .val (.int (0 : Int32))] [(.int (1 : Int32)), (.int (0 : Int32)), (.ref b15)]))
  refine Good.back (fun _ k => XS.iadd X23.here hx rfl (hb hby own_d1_68) rfl k) ?_
  show Good p e below _ (T23.setTop (mkF m 69 #[.val (.ref r0), .val (.ref b1), .val (.ref r0), .val (.int (3 : Int32)), .val (.int (0 : Int32)), .val (.double (own_R 1 x0)), .second, .val (.ref b15), .val (.int (0 : Int32))] [(.int ((0 : Int32) + (1 : Int32))), (.ref b15)]))
  rw [show (((0 : Int32) + (1 : Int32)) : Int32) = (1 : Int32) from by decide]
  show Good p e below _ (T23.setTop (mkF m 69 #[.val (.ref r0), .val (.ref b1), .val (.ref r0), .val (.int (3 : Int32)), .val (.int (0 : Int32)), .val (.double (own_R 1 x0)), .second, .val (.ref b15), .val (.int (0 : Int32))] [(.int (1 : Int32)), (.ref b15)]))
  refine Good.back (fun _ k => Jvm.Free.XT.dup2 X23.here hx rfl (hb hby own_d1_69) rfl rfl rfl k) ?_
  show Good p e below _ (T23.setTop (mkF m 70 #[.val (.ref r0), .val (.ref b1), .val (.ref r0), .val (.int (3 : Int32)), .val (.int (0 : Int32)), .val (.double (own_R 1 x0)), .second, .val (.ref b15), .val (.int (0 : Int32))] [(.int (1 : Int32)), (.ref b15), (.int (1 : Int32)), (.ref b15)]))
  have fc27 := f_24
  obtain ⟨cl27, Ar27, qk27, S27, N27', H27, G27⟩ := fc27
  have hin27 : ¬ ((1 : Int32) < 0 ∨ cl27.slots.size ≤ ((1 : Int32)).toNatClampNeg) := inb_of S27 ⟨by decide, by decide⟩
  have hat27 : cl27.slots[((1 : Int32)).toNatClampNeg]? = some (.double (FP.l2d 0)) := Has.at H27 hin27 rfl
  refine Good.back (X23.daload hx (j := (1 : Int32)) (v := (.double (FP.l2d 0))) (by rw [e23]; exact Ar27.1) (State.isArrayOf_alike hZ.alike Ar27.2.1) Ar27.2.2 hin27 hat27 (g := (mkF m 70 #[.val (.ref r0), .val (.ref b1), .val (.ref r0), .val (.int (3 : Int32)), .val (.int (0 : Int32)), .val (.double (own_R 1 x0)), .second, .val (.ref b15), .val (.int (0 : Int32))] [(.int (1 : Int32)), (.ref b15), (.int (1 : Int32)), (.ref b15)])) rfl rfl (hb hby own_d1_70)) ?_
  show Good p e below _ (T23.setTop (mkF m 71 #[.val (.ref r0), .val (.ref b1), .val (.ref r0), .val (.int (3 : Int32)), .val (.int (0 : Int32)), .val (.double (own_R 1 x0)), .second, .val (.ref b15), .val (.int (0 : Int32))] [(.double (FP.l2d 0)), (.int (1 : Int32)), (.ref b15)]))
  refine Good.back (fun _ k => XS.aloadN X23.here hx rfl (hb hby own_d1_71) rfl rfl k) ?_
  show Good p e below _ (T23.setTop (mkF m 72 #[.val (.ref r0), .val (.ref b1), .val (.ref r0), .val (.int (3 : Int32)), .val (.int (0 : Int32)), .val (.double (own_R 1 x0)), .second, .val (.ref b15), .val (.int (0 : Int32))] [(.ref b1), (.double (FP.l2d 0)), (.int (1 : Int32)), (.ref b15)]))
  refine Good.back (fun _ k => XS.iload X23.here hx rfl (hb hby own_d1_72) rfl k) ?_
  show Good p e below _ (T23.setTop (mkF m 74 #[.val (.ref r0), .val (.ref b1), .val (.ref r0), .val (.int (3 : Int32)), .val (.int (0 : Int32)), .val (.double (own_R 1 x0)), .second, .val (.ref b15), .val (.int (0 : Int32))] [(.int (0 : Int32)), (.ref b1), (.double (FP.l2d 0)), (.int (1 : Int32)), (.ref b15)]))
  have ne_b1_b15_29 : b1 ≠ b15 := Nat.ne_of_lt (Nat.lt_of_lt_of_le f_6.lt (Nat.le_of_eq g15.symm))
  have f_28 : Arv Z h23 b1 k1 .double (1 : Int32) [(.double (FP.l2d (1 : Int64)))] (.double (FP.l2d 0)) := Arv.other f_19 W23 ne_b1_b15_29
  have fc30 := f_28
  obtain ⟨cl30, Ar30, qk30, S30, N30', H30, G30⟩ := fc30
  have hin30 : ¬ ((0 : Int32) < 0 ∨ cl30.slots.size ≤ ((0 : Int32)).toNatClampNeg) := inb_of S30 ⟨by decide, by decide⟩
  have hat30 : cl30.slots[((0 : Int32)).toNatClampNeg]? = some (.double (FP.l2d (1 : Int64))) := Has.at H30 hin30 rfl
  refine Good.back (X23.daload hx (j := (0 : Int32)) (v := (.double (FP.l2d (1 : Int64)))) (by rw [e23]; exact Ar30.1) (State.isArrayOf_alike hZ.alike Ar30.2.1) Ar30.2.2 hin30 hat30 (g := (mkF m 74 #[.val (.ref r0), .val (.ref b1), .val (.ref r0), .val (.int (3 : Int32)), .val (.int (0 : Int32)), .val (.double (own_R 1 x0)), .second, .val (.ref b15), .val (.int (0 : Int32))] [(.int (0 : Int32)), (.ref b1), (.double (FP.l2d 0)), (.int (1 : Int32)), (.ref b15)])) rfl rfl (hb hby own_d1_74)) ?_
  show Good p e below _ (T23.setTop (mkF m 75 #[.val (.ref r0), .val (.ref b1), .val (.ref r0), .val (.int (3 : Int32)), .val (.int (0 : Int32)), .val (.double (own_R 1 x0)), .second, .val (.ref b15), .val (.int (0 : Int32))] [(.double (FP.l2d (1 : Int64))), (.double (FP.l2d 0)), (.int (1 : Int32)), (.ref b15)]))
  refine Good.back (fun _ k => XS.dload X23.here hx rfl (hb hby own_d1_75) rfl k) ?_
  show Good p e below _ (T23.setTop (mkF m 77 #[.val (.ref r0), .val (.ref b1), .val (.ref r0), .val (.int (3 : Int32)), .val (.int (0 : Int32)), .val (.double (own_R 1 x0)), .second, .val (.ref b15), .val (.int (0 : Int32))] [(.double (own_R 1 x0)), (.double (FP.l2d (1 : Int64))), (.double (FP.l2d 0)), (.int (1 : Int32)), (.ref b15)]))
  refine Good.back (fun _ k => XS.dmulS X23.here hx rfl (hb hby own_d1_77) rfl ((own_Rmul1 (d := 1) (by decide) (Nat.lt_of_le_of_lt hx0 (by decide))).symm ▸ own_Rnn (Nat.lt_of_le_of_lt hx0 (by decide))) (own_Rmul1 (d := 1) (by decide) (Nat.lt_of_le_of_lt hx0 (by decide))) k) ?_
  show Good p e below _ (T23.setTop (mkF m 78 #[.val (.ref r0), .val (.ref b1), .val (.ref r0), .val (.int (3 : Int32)), .val (.int (0 : Int32)), .val (.double (own_R 1 x0)), .second, .val (.ref b15), .val (.int (0 : Int32))] [(.double (own_R 1 x0)), (.double (FP.l2d 0)), (.int (1 : Int32)), (.ref b15)]))
  refine Good.back (fun _ k => XS.daddS X23.here hx rfl (hb hby own_d1_78) rfl ((own_Radd0 (Nat.lt_of_le_of_lt hx0 (by decide))).symm ▸ own_Rnn (Nat.lt_of_le_of_lt hx0 (by decide))) (own_Radd0 (Nat.lt_of_le_of_lt hx0 (by decide))) k) ?_
  show Good p e below _ (T23.setTop (mkF m 79 #[.val (.ref r0), .val (.ref b1), .val (.ref r0), .val (.int (3 : Int32)), .val (.int (0 : Int32)), .val (.double (own_R 1 x0)), .second, .val (.ref b15), .val (.int (0 : Int32))] [(.double (own_R 1 x0)), (.int (1 : Int32)), (.ref b15)]))
  have fc31 := f_24
  obtain ⟨cl31, Ar31, qk31, S31, N31', H31, G31⟩ := fc31
  have hin31 : ¬ ((1 : Int32) < 0 ∨ cl31.slots.size ≤ ((1 : Int32)).toNatClampNeg) := inb_of S31 ⟨by decide, by decide⟩
  obtain ⟨T31, h31, X31, e31, W31, st31⟩ := stD X23 hx hZ e23 Ar31 (j := (1 : Int32)) hin31 (g := (mkF m 79 #[.val (.ref r0), .val (.ref b1), .val (.ref r0), .val (.int (3 : Int32)), .val (.int (0 : Int32)), .val (.double (own_R 1 x0)), .second, .val (.ref b15), .val (.int (0 : Int32))] [(.double (own_R 1 x0)), (.int (1 : Int32)), (.ref b15)])) rfl rfl (hb hby own_d1_79)
  refine Good.back st31 ?_
  have f_32 : Arv Z h31 b15 k15 .double (2 : Int32) [(.double (own_R 1 (16 - x0))), (.double (own_R 1 x0))] (.double (FP.l2d 0)) := Arv.set Ar31 qk31 S31 N31' H31 G31 rfl W31 1 rfl (Nat.le_of_ble_eq_true rfl)
  have N31 := Fr.snoc X31 N23 g_b15
  have Z33 : n0 ≤ h31.size := Nat.le_trans Z25 (Keep.of_wr W31).1
  have K34 : Keep h0 h31 [] := K26.wr W31 (Or.inr sz_b15)
  show Good p e below _ (T31.setTop (mkF m 80 #[.val (.ref r0), .val (.ref b1), .val (.ref r0), .val (.int (3 : Int32)), .val (.int (0 : Int32)), .val (.double (own_R 1 x0)), .second, .val (.ref b15), .val (.int (0 : Int32))] []))
  refine Good.back (fun _ k => XS.iinc X31.here hx rfl (hb hby own_d1_80) rfl (l' := #[.val (.ref r0), .val (.ref b1), .val (.ref r0), .val (.int (3 : Int32)), .val (.int (0 : Int32)), .val (.double (own_R 1 x0)), .second, .val (.ref b15), .val (.int ((0 : Int32) + (1 : Int32)))]) rfl k) ?_
  show Good p e below _ (T31.setTop (mkF m 83 #[.val (.ref r0), .val (.ref b1), .val (.ref r0), .val (.int (3 : Int32)), .val (.int (0 : Int32)), .val (.double (own_R 1 x0)), .second, .val (.ref b15), .val (.int ((0 : Int32) + (1 : Int32)))] []))
  rw [show (((0 : Int32) + (1 : Int32)) : Int32) = (1 : Int32) from by decide]
  show Good p e below _ (T31.setTop (mkF m 83 #[.val (.ref r0), .val (.ref b1), .val (.ref r0), .val (.int (3 : Int32)), .val (.int (0 : Int32)), .val (.double (own_R 1 x0)), .second, .val (.ref b15), .val (.int (1 : Int32))] []))
  refine Good.back (fun _ k => XS.goto X31.here hx rfl (pc0 := 83) (pc' := 39) rfl (hb hby own_d1_83) (by decide) (by decide) k) ?_
  show Good p e below _ (T31.setTop (mkF m 39 #[.val (.ref r0), .val (.ref b1), .val (.ref r0), .val (.int (3 : Int32)), .val (.int (0 : Int32)), .val (.double (own_R 1 x0)), .second, .val (.ref b15), .val (.int (1 : Int32))] []))
  refine Good.back (fun _ k => XS.iload X31.here hx rfl (hb hby own_d1_39) rfl k) ?_
  show Good p e below _ (T31.setTop (mkF m 41 #[.val (.ref r0), .val (.ref b1), .val (.ref r0), .val (.int (3 : Int32)), .val (.int (0 : Int32)), .val (.double (own_R 1 x0)), .second, .val (.ref b15), .val (.int (1 : Int32))] [(.int (1 : Int32))]))
  refine Good.back (fun _ k => XS.aloadN X31.here hx rfl (hb hby own_d1_41) rfl rfl k) ?_
  show Good p e below _ (T31.setTop (mkF m 42 #[.val (.ref r0), .val (.ref b1), .val (.ref r0), .val (.int (3 : Int32)), .val (.int (0 : Int32)), .val (.double (own_R 1 x0)), .second, .val (.ref b15), .val (.int (1 : Int32))] [(.ref b1), (.int (1 : Int32))]))
  have f_35 : Arv Z h31 b1 k1 .double (1 : Int32) [(.double (FP.l2d (1 : Int64)))] (.double (FP.l2d 0)) := Arv.other f_28 W31 ne_b1_b15_29
  have fc36 := f_35
  obtain ⟨cl36, Ar36, qk36, S36, N36', H36, G36⟩ := fc36
  refine Good.back (X31.arraylength hx (by rw [e31]; exact Ar36.1) (State.isArrayOf_alike hZ.alike Ar36.2.1) (g := (mkF m 42 #[.val (.ref r0), .val (.ref b1), .val (.ref r0), .val (.int (3 : Int32)), .val (.int (0 : Int32)), .val (.double (own_R 1 x0)), .second, .val (.ref b15), .val (.int (1 : Int32))] [(.ref b1), (.int (1 : Int32))])) rfl rfl (hb hby own_d1_42)) ?_
  rw [len_of S36 N36']
  show Good p e below _ (T31.setTop (mkF m 43 #[.val (.ref r0), .val (.ref b1), .val (.ref r0), .val (.int (3 : Int32)), .val (.int (0 : Int32)), .val (.double (own_R 1 x0)), .second, .val (.ref b15), .val (.int (1 : Int32))] [(.int (1 : Int32)), (.int (1 : Int32))]))
  refine Good.back (fun _ k => XS.icmpYes X31.here hx rfl (pc0 := 43) (pc' := 86) rfl (hb hby own_d1_43) rfl (flt (by decide : ¬ ((1 : Int32) < (1 : Int32)))).2.1 (by decide) (by decide) k) ?_
  show Good p e below _ (T31.setTop (mkF m 86 #[.val (.ref r0), .val (.ref b1), .val (.ref r0), .val (.int (3 : Int32)), .val (.int (0 : Int32)), .val (.double (own_R 1 x0)), .second, .val (.ref b15), .val (.int (1 : Int32))] []))
  refine Good.back (fun _ k => XS.aload X31.here hx rfl (hb hby own_d1_86) rfl rfl k) ?_
  show Good p e below _ (T31.setTop (mkF m 88 #[.val (.ref r0), .val (.ref b1), .val (.ref r0), .val (.int (3 : Int32)), .val (.int (0 : Int32)), .val (.double (own_R 1 x0)), .second, .val (.ref b15), .val (.int (1 : Int32))] [(.ref b15)]))
  refine Good.back (fun _ k => XS.astoreN X31.here hx rfl (hb hby own_d1_88) rfl rfl (l' := #[.val (.ref r0), .val (.ref b15), .val (.ref r0), .val (.int (3 : Int32)), .val (.int (0 : Int32)), .val (.double (own_R 1 x0)), .second, .val (.ref b15), .val (.int (1 : Int32))]) rfl k) ?_
  show Good p e below _ (T31.setTop (mkF m 89 #[.val (.ref r0), .val (.ref b15), .val (.ref r0), .val (.int (3 : Int32)), .val (.int (0 : Int32)), .val (.double (own_R 1 x0)), .second, .val (.ref b15), .val (.int (1 : Int32))] []))
  refine Good.back (fun _ k => XS.iinc X31.here hx rfl (hb hby own_d1_89) rfl (l' := #[.val (.ref r0), .val (.ref b15), .val (.ref r0), .val (.int (3 : Int32)), .val (.int ((0 : Int32) + (1 : Int32))), .val (.double (own_R 1 x0)), .second, .val (.ref b15), .val (.int (1 : Int32))]) rfl k) ?_
  show Good p e below _ (T31.setTop (mkF m 92 #[.val (.ref r0), .val (.ref b15), .val (.ref r0), .val (.int (3 : Int32)), .val (.int ((0 : Int32) + (1 : Int32))), .val (.double (own_R 1 x0)), .second, .val (.ref b15), .val (.int (1 : Int32))] []))
  rw [show (((0 : Int32) + (1 : Int32)) : Int32) = (1 : Int32) from by decide]
  show Good p e below _ (T31.setTop (mkF m 92 #[.val (.ref r0), .val (.ref b15), .val (.ref r0), .val (.int (3 : Int32)), .val (.int (1 : Int32)), .val (.double (own_R 1 x0)), .second, .val (.ref b15), .val (.int (1 : Int32))] []))
  refine Good.back (fun _ k => XS.goto X31.here hx rfl (pc0 := 92) (pc' := 16) rfl (hb hby own_d1_92) (by decide) (by decide) k) ?_
  show Good p e below _ (T31.setTop (mkF m 16 #[.val (.ref r0), .val (.ref b15), .val (.ref r0), .val (.int (3 : Int32)), .val (.int (1 : Int32)), .val (.double (own_R 1 x0)), .second, .val (.ref b15), .val (.int (1 : Int32))] []))
  refine Good.back (fun _ k => XS.iload X31.here hx rfl (hb hby own_d1_16) rfl k) ?_
  show Good p e below _ (T31.setTop (mkF m 18 #[.val (.ref r0), .val (.ref b15), .val (.ref r0), .val (.int (3 : Int32)), .val (.int (1 : Int32)), .val (.double (own_R 1 x0)), .second, .val (.ref b15), .val (.int (1 : Int32))] [(.int (1 : Int32))]))
  refine Good.back (fun _ k => XS.iloadN X31.here hx rfl (hb hby own_d1_18) rfl k) ?_
  show Good p e below _ (T31.setTop (mkF m 19 #[.val (.ref r0), .val (.ref b15), .val (.ref r0), .val (.int (3 : Int32)), .val (.int (1 : Int32)), .val (.double (own_R 1 x0)), .second, .val (.ref b15), .val (.int (1 : Int32))] [(.int (3 : Int32)), (.int (1 : Int32))]))
  refine Good.back (fun _ k => XS.icmpNo X31.here hx rfl (hb hby own_d1_19) rfl (tlt (by decide : ((1 : Int32) < (3 : Int32)))).2.1 k) ?_
  show Good p e below _ (T31.setTop (mkF m 22 #[.val (.ref r0), .val (.ref b15), .val (.ref r0), .val (.int (3 : Int32)), .val (.int (1 : Int32)), .val (.double (own_R 1 x0)), .second, .val (.ref b15), .val (.int (1 : Int32))] []))
  refine Good.back (fun _ k => XS.aloadN X31.here hx rfl (hb hby own_d1_22) rfl rfl k) ?_
  show Good p e below _ (T31.setTop (mkF m 23 #[.val (.ref r0), .val (.ref b15), .val (.ref r0), .val (.int (3 : Int32)), .val (.int (1 : Int32)), .val (.double (own_R 1 x0)), .second, .val (.ref b15), .val (.int (1 : Int32))] [(.ref r0)]))
  refine Good.back (fun _ k => XS.iload X31.here hx rfl (hb hby own_d1_23) rfl k) ?_
  show Good p e below _ (T31.setTop (mkF m 25 #[.val (.ref r0), .val (.ref b15), .val (.ref r0), .val (.int (3 : Int32)), .val (.int (1 : Int32)), .val (.double (own_R 1 x0)), .second, .val (.ref b15), .val (.int (1 : Int32))] [(.int (1 : Int32)), (.ref r0)]))
  have f_37 : Arv Z h15 r0 kk .double (3 : Int32) [(.double (own_R 1 x0)), (.double (own_R 1 x1)), (.double (own_R 1 x2))] (.double (FP.l2d 0)) := Arv.ext f_10 E15
  have ne_r0_b15_39 : r0 ≠ b15 := Nat.ne_of_lt (Nat.lt_of_lt_of_le f_10.lt (Nat.le_of_eq g15.symm))
  have f_38 : Arv Z h23 r0 kk .double (3 : Int32) [(.double (own_R 1 x0)), (.double (own_R 1 x1)), (.double (own_R 1 x2))] (.double (FP.l2d 0)) := Arv.other f_37 W23 ne_r0_b15_39
  have f_40 : Arv Z h31 r0 kk .double (3 : Int32) [(.double (own_R 1 x0)), (.double (own_R 1 x1)), (.double (own_R 1 x2))] (.double (FP.l2d 0)) := Arv.other f_38 W31 ne_r0_b15_39
  have fc41 := f_40
  obtain ⟨cl41, Ar41, qk41, S41, N41', H41, G41⟩ := fc41
  have hin41 : ¬ ((1 : Int32) < 0 ∨ cl41.slots.size ≤ ((1 : Int32)).toNatClampNeg) := inb_of S41 ⟨by decide, by decide⟩
  have hat41 : cl41.slots[((1 : Int32)).toNatClampNeg]? = some (.double (own_R 1 x1)) := Has.at H41 hin41 rfl
  refine Good.back (X31.daload hx (j := (1 : Int32)) (v := (.double (own_R 1 x1))) (by rw [e31]; exact Ar41.1) (State.isArrayOf_alike hZ.alike Ar41.2.1) Ar41.2.2 hin41 hat41 (g := (mkF m 25 #[.val (.ref r0), .val (.ref b15), .val (.ref r0), .val (.int (3 : Int32)), .val (.int (1 : Int32)), .val (.double (own_R 1 x0)), .second, .val (.ref b15), .val (.int (1 : Int32))] [(.int (1 : Int32)), (.ref r0)])) rfl rfl (hb hby own_d1_25)) ?_
  show Good p e below _ (T31.setTop (mkF m 26 #[.val (.ref r0), .val (.ref b15), .val (.ref r0), .val (.int (3 : Int32)), .val (.int (1 : Int32)), .val (.double (own_R 1 x0)), .second, .val (.ref b15), .val (.int (1 : Int32))] [(.double (own_R 1 x1))]))
  refine Good.back (fun _ k => XS.dstore X31.here hx rfl (hb hby own_d1_26) rfl (l' := #[.val (.ref r0), .val (.ref b15), .val (.ref r0), .val (.int (3 : Int32)), .val (.int (1 : Int32)), .val (.double (own_R 1 x1)), .second, .val (.ref b15), .val (.int (1 : Int32))]) rfl k) ?_
  show Good p e below _ (T31.setTop (mkF m 28 #[.val (.ref r0), .val (.ref b15), .val (.ref r0), .val (.int (3 : Int32)), .val (.int (1 : Int32)), .val (.double (own_R 1 x1)), .second, .val (.ref b15), .val (.int (1 : Int32))] []))
  refine Good.back (fun _ k => XS.aloadN X31.here hx rfl (hb hby own_d1_28) rfl rfl k) ?_
  show Good p e below _ (T31.setTop (mkF m 29 #[.val (.ref r0), .val (.ref b15), .val (.ref r0), .val (.int (3 : Int32)), .val (.int (1 : Int32)), .val (.double (own_R 1 x1)), .second, .val (.ref b15), .val (.int (1 : Int32))] [(.ref b15)]))
  have fc42 := f_32
  obtain ⟨cl42, Ar42, qk42, S42, N42', H42, G42⟩ := fc42
  refine Good.back (X31.arraylength hx (by rw [e31]; exact Ar42.1) (State.isArrayOf_alike hZ.alike Ar42.2.1) (g := (mkF m 29 #[.val (.ref r0), .val (.ref b15), .val (.ref r0), .val (.int (3 : Int32)), .val (.int (1 : Int32)), .val (.double (own_R 1 x1)), .second, .val (.ref b15), .val (.int (1 : Int32))] [(.ref b15)])) rfl rfl (hb hby own_d1_29)) ?_
  rw [len_of S42 N42']
  show Good p e below _ (T31.setTop (mkF m 30 #[.val (.ref r0), .val (.ref b15), .val (.ref r0), .val (.int (3 : Int32)), .val (.int (1 : Int32)), .val (.double (own_R 1 x1)), .second, .val (.ref b15), .val (.int (1 : Int32))] [(.int (2 : Int32))]))
  refine Good.back (fun _ k => XS.iconst X31.here hx rfl (hb hby own_d1_30) k) ?_
  show Good p e below _ (T31.setTop (mkF m 31 #[.val (.ref r0), .val (.ref b15), .val (.ref r0), .val (.int (3 : Int32)), .val (.int (1 : Int32)), .val (.double (own_R 1 x1)), .second, .val (.ref b15), .val (.int (1 : Int32))] [(.int (1 : Int32)), (.int (2 : Int32))]))
  refine Good.back (fun _ k => XS.iadd X31.here hx rfl (hb hby own_d1_31) rfl k) ?_
  show Good p e below _ (T31.setTop (mkF m 32 #[.val (.ref r0), .val (.ref b15), .val (.ref r0), .val (.int (3 : Int32)), .val (.int (1 : Int32)), .val (.double (own_R 1 x1)), .second, .val (.ref b15), .val (.int (1 : Int32))] [(.int ((2 : Int32) + (1 : Int32)))]))
  rw [show (((2 : Int32) + (1 : Int32)) : Int32) = (3 : Int32) from by decide]
  show Good p e below _ (T31.setTop (mkF m 32 #[.val (.ref r0), .val (.ref b15), .val (.ref r0), .val (.int (3 : Int32)), .val (.int (1 : Int32)), .val (.double (own_R 1 x1)), .second, .val (.ref b15), .val (.int (1 : Int32))] [(.int (3 : Int32))]))
  obtain ⟨T43, h43, k43, X43, e43, E43, A43, st43⟩ := newP X31 hx hZ (hw _ (List.mem_of_getElem? (i := 2) rfl)) e31 (g := (mkF m 32 #[.val (.ref r0), .val (.ref b15), .val (.ref r0), .val (.int (3 : Int32)), .val (.int (1 : Int32)), .val (.double (own_R 1 x1)), .second, .val (.ref b15), .val (.int (1 : Int32))] [(.int (3 : Int32))])) rfl (hb hby own_d1_32) rfl (by decide) (cap := 3) (by decide) (by decide) (by decide) (by decide)
  obtain ⟨b43, g43⟩ : ∃ z, z = h31.size := ⟨_, rfl⟩
  rw [← g43] at A43 st43
  refine Good.back st43 ?_
  have g_b43 : n0 ≤ b43 := Nat.le_trans Z33 (Nat.le_of_eq g43.symm)
  have sz_b43 : h0.size ≤ b43 := Nat.le_trans K34.1 (Nat.le_of_eq g43.symm)
  have Z44 : n0 ≤ h43.size := Nat.le_trans Z33 E43.1
  have K45 : Keep h0 h43 [] := K34.ext E43
  have f_46 : Arv Z h43 b43 k43 .double (3 : Int32) [(.double (FP.l2d 0)), (.double (FP.l2d 0)), (.double (FP.l2d 0))] (.double (FP.l2d 0)) := (Arv.newD A43 (by decide)).pad (pad_rep [] (.double (FP.l2d 0)) 3)
  show Good p e below _ (T43.setTop (mkF m 34 #[.val (.ref r0), .val (.ref b15), .val (.ref r0), .val (.int (3 : Int32)), .val (.int (1 : Int32)), .val (.double (own_R 1 x1)), .second, .val (.ref b15), .val (.int (1 : Int32))] [(.ref b43)]))
  refine Good.back (fun _ k => XS.astore X43.here hx rfl (hb hby own_d1_34) rfl rfl (l' := #[.val (.ref r0), .val (.ref b15), .val (.ref r0), .val (.int (3 : Int32)), .val (.int (1 : Int32)), .val (.double (own_R 1 x1)), .second, .val (.ref b43), .val (.int (1 : Int32))]) rfl k) ?_
  show Good p e below _ (T43.setTop (mkF m 36 #[.val (.ref r0), .val (.ref b15), .val (.ref r0), .val (.int (3 : Int32)), .val (.int (1 : Int32)), .val (.double (own_R 1 x1)), .second, .val (.ref b43), .val (.int (1 : Int32))] []))
  refine Good.back (fun _ k => XS.iconst X43.here hx rfl (hb hby own_d1_36) k) ?_
  show Good p e below _ (T43.setTop (mkF m 37 #[.val (.ref r0), .val (.ref b15), .val (.ref r0), .val (.int (3 : Int32)), .val (.int (1 : Int32)), .val (.double (own_R 1 x1)), .second, .val (.ref b43), .val (.int (1 : Int32))] [(.int (0 : Int32))]))
  refine Good.back (fun _ k => XS.istore X43.here hx rfl (hb hby own_d1_37) rfl (l' := #[.val (.ref r0), .val (.ref b15), .val (.ref r0), .val (.int (3 : Int32)), .val (.int (1 : Int32)), .val (.double (own_R 1 x1)), .second, .val (.ref b43), .val (.int (0 : Int32))]) rfl k) ?_
  show Good p e below _ (T43.setTop (mkF m 39 #[.val (.ref r0), .val (.ref b15), .val (.ref r0), .val (.int (3 : Int32)), .val (.int (1 : Int32)), .val (.double (own_R 1 x1)), .second, .val (.ref b43), .val (.int (0 : Int32))] []))
  refine Good.back (fun _ k => XS.iload X43.here hx rfl (hb hby own_d1_39) rfl k) ?_
  show Good p e below _ (T43.setTop (mkF m 41 #[.val (.ref r0), .val (.ref b15), .val (.ref r0), .val (.int (3 : Int32)), .val (.int (1 : Int32)), .val (.double (own_R 1 x1)), .second, .val (.ref b43), .val (.int (0 : Int32))] [(.int (0 : Int32))]))
  refine Good.back (fun _ k => XS.aloadN X43.here hx rfl (hb hby own_d1_41) rfl rfl k) ?_
  show Good p e below _ (T43.setTop (mkF m 42 #[.val (.ref r0), .val (.ref b15), .val (.ref r0), .val (.int (3 : Int32)), .val (.int (1 : Int32)), .val (.double (own_R 1 x1)), .second, .val (.ref b43), .val (.int (0 : Int32))] [(.ref b15), (.int (0 : Int32))]))
  have f_47 : Arv Z h43 b15 k15 .double (2 : Int32) [(.double (own_R 1 (16 - x0))), (.double (own_R 1 x0))] (.double (FP.l2d 0)) := Arv.ext f_32 E43
  have fc48 := f_47
  obtain ⟨cl48, Ar48, qk48, S48, N48', H48, G48⟩ := fc48
  refine Good.back (X43.arraylength hx (by rw [e43]; exact Ar48.1) (State.isArrayOf_alike hZ.alike Ar48.2.1) (g := (mkF m 42 #[.val (.ref r0), .val (.ref b15), .val (.ref r0), .val (.int (3 : Int32)), .val (.int (1 : Int32)), .val (.double (own_R 1 x1)), .second, .val (.ref b43), .val (.int (0 : Int32))] [(.ref b15), (.int (0 : Int32))])) rfl rfl (hb hby own_d1_42)) ?_
  rw [len_of S48 N48']
  show Good p e below _ (T43.setTop (mkF m 43 #[.val (.ref r0), .val (.ref b15), .val (.ref r0), .val (.int (3 : Int32)), .val (.int (1 : Int32)), .val (.double (own_R 1 x1)), .second, .val (.ref b43), .val (.int (0 : Int32))] [(.int (2 : Int32)), (.int (0 : Int32))]))
  refine Good.back (fun _ k => XS.icmpNo X43.here hx rfl (hb hby own_d1_43) rfl (tlt (by decide : ((0 : Int32) < (2 : Int32)))).2.1 k) ?_
  show Good p e below _ (T43.setTop (mkF m 46 #[.val (.ref r0), .val (.ref b15), .val (.ref r0), .val (.int (3 : Int32)), .val (.int (1 : Int32)), .val (.double (own_R 1 x1)), .second, .val (.ref b43), .val (.int (0 : Int32))] []))
  refine Good.back (fun _ k => XS.aload X43.here hx rfl (hb hby own_d1_46) rfl rfl k) ?_
  show Good p e below _ (T43.setTop (mkF m 48 #[.val (.ref r0), .val (.ref b15), .val (.ref r0), .val (.int (3 : Int32)), .val (.int (1 : Int32)), .val (.double (own_R 1 x1)), .second, .val (.ref b43), .val (.int (0 : Int32))] [(.ref b43)]))
  refine Good.back (fun _ k => XS.iload X43.here hx rfl (hb hby own_d1_48) rfl k) ?_
  show Good p e below _ (T43.setTop (mkF m 50 #[.val (.ref r0), .val (.ref b15), .val (.ref r0), .val (.int (3 : Int32)), .val (.int (1 : Int32)), .val (.double (own_R 1 x1)), .second, .val (.ref b43), .val (.int (0 : Int32))] [(.int (0 : Int32)), (.ref b43)]))
  refine Good.back (fun _ k => Jvm.Free.XT.dup2 X43.here hx rfl (hb hby own_d1_50) rfl rfl rfl k) ?_
  show Good p e below _ (T43.setTop (mkF m 51 #[.val (.ref r0), .val (.ref b15), .val (.ref r0), .val (.int (3 : Int32)), .val (.int (1 : Int32)), .val (.double (own_R 1 x1)), .second, .val (.ref b43), .val (.int (0 : Int32))] [(.int (0 : Int32)), (.ref b43), (.int (0 : Int32)), (.ref b43)]))
  have fc49 := f_46
  obtain ⟨cl49, Ar49, qk49, S49, N49', H49, G49⟩ := fc49
  have hin49 : ¬ ((0 : Int32) < 0 ∨ cl49.slots.size ≤ ((0 : Int32)).toNatClampNeg) := inb_of S49 ⟨by decide, by decide⟩
  have hat49 : cl49.slots[((0 : Int32)).toNatClampNeg]? = some (.double (FP.l2d 0)) := Has.at H49 hin49 rfl
  refine Good.back (X43.daload hx (j := (0 : Int32)) (v := (.double (FP.l2d 0))) (by rw [e43]; exact Ar49.1) (State.isArrayOf_alike hZ.alike Ar49.2.1) Ar49.2.2 hin49 hat49 (g := (mkF m 51 #[.val (.ref r0), .val (.ref b15), .val (.ref r0), .val (.int (3 : Int32)), .val (.int (1 : Int32)), .val (.double (own_R 1 x1)), .second, .val (.ref b43), .val (.int (0 : Int32))] [(.int (0 : Int32)), (.ref b43), (.int (0 : Int32)), (.ref b43)])) rfl rfl (hb hby own_d1_51)) ?_
  show Good p e below _ (T43.setTop (mkF m 52 #[.val (.ref r0), .val (.ref b15), .val (.ref r0), .val (.int (3 : Int32)), .val (.int (1 : Int32)), .val (.double (own_R 1 x1)), .second, .val (.ref b43), .val (.int (0 : Int32))] [(.double (FP.l2d 0)), (.int (0 : Int32)), (.ref b43)]))
  refine Good.back (fun _ k => XS.aloadN X43.here hx rfl (hb hby own_d1_52) rfl rfl k) ?_
  show Good p e below _ (T43.setTop (mkF m 53 #[.val (.ref r0), .val (.ref b15), .val (.ref r0), .val (.int (3 : Int32)), .val (.int (1 : Int32)), .val (.double (own_R 1 x1)), .second, .val (.ref b43), .val (.int (0 : Int32))] [(.ref b15), (.double (FP.l2d 0)), (.int (0 : Int32)), (.ref b43)]))
  refine Good.back (fun _ k => XS.iload X43.here hx rfl (hb hby own_d1_53) rfl k) ?_
  show Good p e below _ (T43.setTop (mkF m 55 #[.val (.ref r0), .val (.ref b15), .val (.ref r0), .val (.int (3 : Int32)), .val (.int (1 : Int32)), .val (.double (own_R 1 x1)), .second, .val (.ref b43), .val (.int (0 : Int32))] [(.int (0 : Int32)), (.ref b15), (.double (FP.l2d 0)), (.int (0 : Int32)), (.ref b43)]))
  have fc50 := f_47
  obtain ⟨cl50, Ar50, qk50, S50, N50', H50, G50⟩ := fc50
  have hin50 : ¬ ((0 : Int32) < 0 ∨ cl50.slots.size ≤ ((0 : Int32)).toNatClampNeg) := inb_of S50 ⟨by decide, by decide⟩
  have hat50 : cl50.slots[((0 : Int32)).toNatClampNeg]? = some (.double (own_R 1 (16 - x0))) := Has.at H50 hin50 rfl
  refine Good.back (X43.daload hx (j := (0 : Int32)) (v := (.double (own_R 1 (16 - x0)))) (by rw [e43]; exact Ar50.1) (State.isArrayOf_alike hZ.alike Ar50.2.1) Ar50.2.2 hin50 hat50 (g := (mkF m 55 #[.val (.ref r0), .val (.ref b15), .val (.ref r0), .val (.int (3 : Int32)), .val (.int (1 : Int32)), .val (.double (own_R 1 x1)), .second, .val (.ref b43), .val (.int (0 : Int32))] [(.int (0 : Int32)), (.ref b15), (.double (FP.l2d 0)), (.int (0 : Int32)), (.ref b43)])) rfl rfl (hb hby own_d1_55)) ?_
  show Good p e below _ (T43.setTop (mkF m 56 #[.val (.ref r0), .val (.ref b15), .val (.ref r0), .val (.int (3 : Int32)), .val (.int (1 : Int32)), .val (.double (own_R 1 x1)), .second, .val (.ref b43), .val (.int (0 : Int32))] [(.double (own_R 1 (16 - x0))), (.double (FP.l2d 0)), (.int (0 : Int32)), (.ref b43)]))
  refine Good.back (fun _ k => XS.dconst1 X43.here hx rfl (hb hby own_d1_56) (v := (FP.l2d (1 : Int64))) (by decide +kernel) k) ?_
  show Good p e below _ (T43.setTop (mkF m 57 #[.val (.ref r0), .val (.ref b15), .val (.ref r0), .val (.int (3 : Int32)), .val (.int (1 : Int32)), .val (.double (own_R 1 x1)), .second, .val (.ref b43), .val (.int (0 : Int32))] [(.double (FP.l2d (1 : Int64))), (.double (own_R 1 (16 - x0))), (.double (FP.l2d 0)), (.int (0 : Int32)), (.ref b43)]))
  refine Good.back (fun _ k => XS.dload X43.here hx rfl (hb hby own_d1_57) rfl k) ?_
  show Good p e below _ (T43.setTop (mkF m 59 #[.val (.ref r0), .val (.ref b15), .val (.ref r0), .val (.int (3 : Int32)), .val (.int (1 : Int32)), .val (.double (own_R 1 x1)), .second, .val (.ref b43), .val (.int (0 : Int32))] [(.double (own_R 1 x1)), (.double (FP.l2d (1 : Int64))), (.double (own_R 1 (16 - x0))), (.double (FP.l2d 0)), (.int (0 : Int32)), (.ref b43)]))
  refine Good.back (fun _ k => XS.dsubS X43.here hx rfl (hb hby own_d1_59) rfl (own_Rsub hx1 ▸ own_Rnn (Nat.lt_of_le_of_lt (Nat.sub_le 16 x1) (by decide))) (own_Rsub hx1) k) ?_
  show Good p e below _ (T43.setTop (mkF m 60 #[.val (.ref r0), .val (.ref b15), .val (.ref r0), .val (.int (3 : Int32)), .val (.int (1 : Int32)), .val (.double (own_R 1 x1)), .second, .val (.ref b43), .val (.int (0 : Int32))] [(.double (own_R 1 (16 - x1))), (.double (own_R 1 (16 - x0))), (.double (FP.l2d 0)), (.int (0 : Int32)), (.ref b43)]))
  have hb51 := Nat.mul_le_mul (Nat.sub_le 16 x0) (Nat.sub_le 16 x1)
  refine Good.back (fun _ k => XS.dmulS X43.here hx rfl (hb hby own_d1_60) rfl ((own_Rmul (d := 1) (f := 1) (by decide) (Nat.lt_of_le_of_lt (Nat.sub_le 16 x0) (by decide)) (Nat.lt_of_le_of_lt (Nat.sub_le 16 x1) (by decide))).symm ▸ own_Rnn (Nat.lt_of_le_of_lt hb51 (by decide))) (own_Rmul (d := 1) (f := 1) (by decide) (Nat.lt_of_le_of_lt (Nat.sub_le 16 x0) (by decide)) (Nat.lt_of_le_of_lt (Nat.sub_le 16 x1) (by decide))) k) ?_
  show Good p e below _ (T43.setTop (mkF m 61 #[.val (.ref r0), .val (.ref b15), .val (.ref r0), .val (.int (3 : Int32)), .val (.int (1 : Int32)), .val (.double (own_R 1 x1)), .second, .val (.ref b43), .val (.int (0 : Int32))] [(.double (own_R 2 ((16 - x0) * (16 - x1)))), (.double (FP.l2d 0)), (.int (0 : Int32)), (.ref b43)]))
  refine Good.back (fun _ k => XS.daddS X43.here hx rfl (hb hby own_d1_61) rfl ((own_Radd0 (Nat.lt_of_le_of_lt hb51 (by decide))).symm ▸ own_Rnn (Nat.lt_of_le_of_lt hb51 (by decide))) (own_Radd0 (Nat.lt_of_le_of_lt hb51 (by decide))) k) ?_
  show Good p e below _ (T43.setTop (mkF m 62 #[.val (.ref r0), .val (.ref b15), .val (.ref r0), .val (.int (3 : Int32)), .val (.int (1 : Int32)), .val (.double (own_R 1 x1)), .second, .val (.ref b43), .val (.int (0 : Int32))] [(.double (own_R 2 ((16 - x0) * (16 - x1)))), (.int (0 : Int32)), (.ref b43)]))
  have fc52 := f_46
  obtain ⟨cl52, Ar52, qk52, S52, N52', H52, G52⟩ := fc52
  have hin52 : ¬ ((0 : Int32) < 0 ∨ cl52.slots.size ≤ ((0 : Int32)).toNatClampNeg) := inb_of S52 ⟨by decide, by decide⟩
  obtain ⟨T52, h52, X52, e52, W52, st52⟩ := stD X43 hx hZ e43 Ar52 (j := (0 : Int32)) hin52 (g := (mkF m 62 #[.val (.ref r0), .val (.ref b15), .val (.ref r0), .val (.int (3 : Int32)), .val (.int (1 : Int32)), .val (.double (own_R 1 x1)), .second, .val (.ref b43), .val (.int (0 : Int32))] [(.double (own_R 2 ((16 - x0) * (16 - x1)))), (.int (0 : Int32)), (.ref b43)])) rfl rfl (hb hby own_d1_62)
  refine Good.back st52 ?_
  have f_53 : Arv Z h52 b43 k43 .double (3 : Int32) [(.double (own_R 2 ((16 - x0) * (16 - x1)))), (.double (FP.l2d 0)), (.double (FP.l2d 0))] (.double (FP.l2d 0)) := Arv.set Ar52 qk52 S52 N52' H52 G52 rfl W52 0 rfl (Nat.le_of_ble_eq_true rfl)
  have N52 := Fr.snoc X52 N31 g_b43
  have Z54 : n0 ≤ h52.size := Nat.le_trans Z44 (Keep.of_wr W52).1
  have K55 : Keep h0 h52 [] := K45.wr W52 (Or.inr sz_b43)
  show Good p e below _ (T52.setTop (mkF m 63 #[.val (.ref r0), .val (.ref b15), .val (.ref r0), .val (.int (3 : Int32)), .val (.int (1 : Int32)), .val (.double (own_R 1 x1)), .second, .val (.ref b43), .val (.int (0 : Int32))] []))
  refine Good.back (fun _ k => XS.aload X52.here hx rfl (hb hby own_d1_63) rfl rfl k) ?_
  show Good p e below _ (T52.setTop (mkF m 65 #[.val (.ref r0), .val (.ref b15), .val (.ref r0), .val (.int (3 : Int32)), .val (.int (1 : Int32)), .val (.double (own_R 1 x1)), .second, .val (.ref b43), .val (.int (0 : Int32))] [(.ref b43)]))
  refine Good.back (fun _ k => XS.iload X52.here hx rfl (hb hby own_d1_65) rfl k) ?_
  show Good p e below _ (T52.setTop (mkF m 67 #[.val (.ref r0), .val (.ref b15), .val (.ref r0), .val (.int (3 : Int32)), .val (.int (1 : Int32)), .val (.double (own_R 1 x1)), .second, .val (.ref b43), .val (.int (0 : Int32))] [(.int (0 : Int32)), (.ref b43)]))
  refine Good.back (fun _ k => XS.iconst X52.here hx rfl (hb hby own_d1_67) k) ?_
  show Good p e below _ (T52.setTop (mkF m 68 #[.val (.ref r0), .val (.ref b15), .val (.ref r0), .val (.int (3 : Int32)), .val (.int (1 : Int32)), .val (.double (own_R 1 x1)), .second, .val (.ref b43), .val (.int (0 : Int32))] [(.int (1 : Int32)), (.int (0 : Int32)), (.ref b43)]))
  refine Good.back (fun _ k => XS.iadd X52.here hx rfl (hb hby own_d1_68) rfl k) ?_
  show Good p e below _ (T52.setTop (mkF m 69 #[.val (.ref r0), .val (.ref b15), .val (.ref r0), .val (.int (3 : Int32)), .val (.int (1 : Int32)), .val (.double (own_R 1 x1)), .second, .val (.ref b43), .val (.int (0 : Int32))] [(.int ((0 : Int32) + (1 : Int32))), (.ref b43)]))
  rw [show (((0 : Int32) + (1 : Int32)) : Int32) = (1 : Int32) from by decide]
  show Good p e below _ (T52.setTop (mkF m 69 #[.val (.ref r0), .val (.ref b15), .val (.ref r0), .val (.int (3 : Int32)), .val (.int (1 : Int32)), .val (.double (own_R 1 x1)), .second, .val (.ref b43), .val (.int (0 : Int32))] [(.int (1 : Int32)), (.ref b43)]))
  refine Good.back (fun _ k => Jvm.Free.XT.dup2 X52.here hx rfl (hb hby own_d1_69) rfl rfl rfl k) ?_
  show Good p e below _ (T52.setTop (mkF m 70 #[.val (.ref r0), .val (.ref b15), .val (.ref r0), .val (.int (3 : Int32)), .val (.int (1 : Int32)), .val (.double (own_R 1 x1)), .second, .val (.ref b43), .val (.int (0 : Int32))] [(.int (1 : Int32)), (.ref b43), (.int (1 : Int32)), (.ref b43)]))
  have fc56 := f_53
  obtain ⟨cl56, Ar56, qk56, S56, N56', H56, G56⟩ := fc56
  have hin56 : ¬ ((1 : Int32) < 0 ∨ cl56.slots.size ≤ ((1 : Int32)).toNatClampNeg) := inb_of S56 ⟨by decide, by decide⟩
  have hat56 : cl56.slots[((1 : Int32)).toNatClampNeg]? = some (.double (FP.l2d 0)) := Has.at H56 hin56 rfl
  refine Good.back (X52.daload hx (j := (1 : Int32)) (v := (.double (FP.l2d 0))) (by rw [e52]; exact Ar56.1) (State.isArrayOf_alike hZ.alike Ar56.2.1) Ar56.2.2 hin56 hat56 (g := (mkF m 70 #[.val (.ref r0), .val (.ref b15), .val (.ref r0), .val (.int (3 : Int32)), .val (.int (1 : Int32)), .val (.double (own_R 1 x1)), .second, .val (.ref b43), .val (.int (0 : Int32))] [(.int (1 : Int32)), (.ref b43), (.int (1 : Int32)), (.ref b43)])) rfl rfl (hb hby own_d1_70)) ?_
  show Good p e below _ (T52.setTop (mkF m 71 #[.val (.ref r0), .val (.ref b15), .val (.ref r0), .val (.int (3 : Int32)), .val (.int (1 : Int32)), .val (.double (own_R 1 x1)), .second, .val (.ref b43), .val (.int (0 : Int32))] [(.double (FP.l2d 0)), (.int (1 : Int32)), (.ref b43)]))
  refine Good.back (fun _ k => XS.aloadN X52.here hx rfl (hb hby own_d1_71) rfl rfl k) ?_
  show Good p e below _ (T52.setTop (mkF m 72 #[.val (.ref r0), .val (.ref b15), .val (.ref r0), .val (.int (3 : Int32)), .val (.int (1 : Int32)), .val (.double (own_R 1 x1)), .second, .val (.ref b43), .val (.int (0 : Int32))] [(.ref b15), (.double (FP.l2d 0)), (.int (1 : Int32)), (.ref b43)]))
  refine Good.back (fun _ k => XS.iload X52.here hx rfl (hb hby own_d1_72) rfl k) ?_
  show Good p e below _ (T52.setTop (mkF m 74 #[.val (.ref r0), .val (.ref b15), .val (.ref r0), .val (.int (3 : Int32)), .val (.int (1 : Int32)), .val (.double (own_R 1 x1)), .second, .val (.ref b43), .val (.int (0 : Int32))] [(.int (0 : Int32)), (.ref b15), (.double (FP.l2d 0)), (.int (1 : Int32)), (.ref b43)]))
  have ne_b15_b43_58 : b15 ≠ b43 := Nat.ne_of_lt (Nat.lt_of_lt_of_le f_32.lt (Nat.le_of_eq g43.symm))
  have f_57 : Arv Z h52 b15 k15 .double (2 : Int32) [(.double (own_R 1 (16 - x0))), (.double (own_R 1 x0))] (.double (FP.l2d 0)) := Arv.other f_47 W52 ne_b15_b43_58
  have fc59 := f_57
  obtain ⟨cl59, Ar59, qk59, S59, N59', H59, G59⟩ := fc59
  have hin59 : ¬ ((0 : Int32) < 0 ∨ cl59.slots.size ≤ ((0 : Int32)).toNatClampNeg) := inb_of S59 ⟨by decide, by decide⟩
  have hat59 : cl59.slots[((0 : Int32)).toNatClampNeg]? = some (.double (own_R 1 (16 - x0))) := Has.at H59 hin59 rfl
  refine Good.back (X52.daload hx (j := (0 : Int32)) (v := (.double (own_R 1 (16 - x0)))) (by rw [e52]; exact Ar59.1) (State.isArrayOf_alike hZ.alike Ar59.2.1) Ar59.2.2 hin59 hat59 (g := (mkF m 74 #[.val (.ref r0), .val (.ref b15), .val (.ref r0), .val (.int (3 : Int32)), .val (.int (1 : Int32)), .val (.double (own_R 1 x1)), .second, .val (.ref b43), .val (.int (0 : Int32))] [(.int (0 : Int32)), (.ref b15), (.double (FP.l2d 0)), (.int (1 : Int32)), (.ref b43)])) rfl rfl (hb hby own_d1_74)) ?_
  show Good p e below _ (T52.setTop (mkF m 75 #[.val (.ref r0), .val (.ref b15), .val (.ref r0), .val (.int (3 : Int32)), .val (.int (1 : Int32)), .val (.double (own_R 1 x1)), .second, .val (.ref b43), .val (.int (0 : Int32))] [(.double (own_R 1 (16 - x0))), (.double (FP.l2d 0)), (.int (1 : Int32)), (.ref b43)]))
  refine Good.back (fun _ k => XS.dload X52.here hx rfl (hb hby own_d1_75) rfl k) ?_
  show Good p e below _ (T52.setTop (mkF m 77 #[.val (.ref r0), .val (.ref b15), .val (.ref r0), .val (.int (3 : Int32)), .val (.int (1 : Int32)), .val (.double (own_R 1 x1)), .second, .val (.ref b43), .val (.int (0 : Int32))] [(.double (own_R 1 x1)), (.double (own_R 1 (16 - x0))), (.double (FP.l2d 0)), (.int (1 : Int32)), (.ref b43)]))
  have hb60 := Nat.mul_le_mul (Nat.sub_le 16 x0) hx1
  refine Good.back (fun _ k => XS.dmulS X52.here hx rfl (hb hby own_d1_77) rfl ((own_Rmul (d := 1) (f := 1) (by decide) (Nat.lt_of_le_of_lt (Nat.sub_le 16 x0) (by decide)) (Nat.lt_of_le_of_lt hx1 (by decide))).symm ▸ own_Rnn (Nat.lt_of_le_of_lt hb60 (by decide))) (own_Rmul (d := 1) (f := 1) (by decide) (Nat.lt_of_le_of_lt (Nat.sub_le 16 x0) (by decide)) (Nat.lt_of_le_of_lt hx1 (by decide))) k) ?_
  show Good p e below _ (T52.setTop (mkF m 78 #[.val (.ref r0), .val (.ref b15), .val (.ref r0), .val (.int (3 : Int32)), .val (.int (1 : Int32)), .val (.double (own_R 1 x1)), .second, .val (.ref b43), .val (.int (0 : Int32))] [(.double (own_R 2 ((16 - x0) * x1))), (.double (FP.l2d 0)), (.int (1 : Int32)), (.ref b43)]))
  refine Good.back (fun _ k => XS.daddS X52.here hx rfl (hb hby own_d1_78) rfl ((own_Radd0 (Nat.lt_of_le_of_lt hb60 (by decide))).symm ▸ own_Rnn (Nat.lt_of_le_of_lt hb60 (by decide))) (own_Radd0 (Nat.lt_of_le_of_lt hb60 (by decide))) k) ?_
  show Good p e below _ (T52.setTop (mkF m 79 #[.val (.ref r0), .val (.ref b15), .val (.ref r0), .val (.int (3 : Int32)), .val (.int (1 : Int32)), .val (.double (own_R 1 x1)), .second, .val (.ref b43), .val (.int (0 : Int32))] [(.double (own_R 2 ((16 - x0) * x1))), (.int (1 : Int32)), (.ref b43)]))
  have fc61 := f_53
  obtain ⟨cl61, Ar61, qk61, S61, N61', H61, G61⟩ := fc61
  have hin61 : ¬ ((1 : Int32) < 0 ∨ cl61.slots.size ≤ ((1 : Int32)).toNatClampNeg) := inb_of S61 ⟨by decide, by decide⟩
  obtain ⟨T61, h61, X61, e61, W61, st61⟩ := stD X52 hx hZ e52 Ar61 (j := (1 : Int32)) hin61 (g := (mkF m 79 #[.val (.ref r0), .val (.ref b15), .val (.ref r0), .val (.int (3 : Int32)), .val (.int (1 : Int32)), .val (.double (own_R 1 x1)), .second, .val (.ref b43), .val (.int (0 : Int32))] [(.double (own_R 2 ((16 - x0) * x1))), (.int (1 : Int32)), (.ref b43)])) rfl rfl (hb hby own_d1_79)
  refine Good.back st61 ?_
  have f_62 : Arv Z h61 b43 k43 .double (3 : Int32) [(.double (own_R 2 ((16 - x0) * (16 - x1)))), (.double (own_R 2 ((16 - x0) * x1))), (.double (FP.l2d 0))] (.double (FP.l2d 0)) := Arv.set Ar61 qk61 S61 N61' H61 G61 rfl W61 1 rfl (Nat.le_of_ble_eq_true rfl)
  have N61 := Fr.snoc X61 N52 g_b43
  have Z63 : n0 ≤ h61.size := Nat.le_trans Z54 (Keep.of_wr W61).1
  have K64 : Keep h0 h61 [] := K55.wr W61 (Or.inr sz_b43)
  show Good p e below _ (T61.setTop (mkF m 80 #[.val (.ref r0), .val (.ref b15), .val (.ref r0), .val (.int (3 : Int32)), .val (.int (1 : Int32)), .val (.double (own_R 1 x1)), .second, .val (.ref b43), .val (.int (0 : Int32))] []))
  refine Good.back (fun _ k => XS.iinc X61.here hx rfl (hb hby own_d1_80) rfl (l' := #[.val (.ref r0), .val (.ref b15), .val (.ref r0), .val (.int (3 : Int32)), .val (.int (1 : Int32)), .val (.double (own_R 1 x1)), .second, .val (.ref b43), .val (.int ((0 : Int32) + (1 : Int32)))]) rfl k) ?_
  show Good p e below _ (T61.setTop (mkF m 83 #[.val (.ref r0), .val (.ref b15), .val (.ref r0), .val (.int (3 : Int32)), .val (.int (1 : Int32)), .val (.double (own_R 1 x1)), .second, .val (.ref b43), .val (.int ((0 : Int32) + (1 : Int32)))] []))
  rw [show (((0 : Int32) + (1 : Int32)) : Int32) = (1 : Int32) from by decide]
  show Good p e below _ (T61.setTop (mkF m 83 #[.val (.ref r0), .val (.ref b15), .val (.ref r0), .val (.int (3 : Int32)), .val (.int (1 : Int32)), .val (.double (own_R 1 x1)), .second, .val (.ref b43), .val (.int (1 : Int32))] []))
  refine Good.back (fun _ k => XS.goto X61.here hx rfl (pc0 := 83) (pc' := 39) rfl (hb hby own_d1_83) (by decide) (by decide) k) ?_
  show Good p e below _ (T61.setTop (mkF m 39 #[.val (.ref r0), .val (.ref b15), .val (.ref r0), .val (.int (3 : Int32)), .val (.int (1 : Int32)), .val (.double (own_R 1 x1)), .second, .val (.ref b43), .val (.int (1 : Int32))] []))
  refine Good.back (fun _ k => XS.iload X61.here hx rfl (hb hby own_d1_39) rfl k) ?_
  show Good p e below _ (T61.setTop (mkF m 41 #[.val (.ref r0), .val (.ref b15), .val (.ref r0), .val (.int (3 : Int32)), .val (.int (1 : Int32)), .val (.double (own_R 1 x1)), .second, .val (.ref b43), .val (.int (1 : Int32))] [(.int (1 : Int32))]))
  refine Good.back (fun _ k => XS.aloadN X61.here hx rfl (hb hby own_d1_41) rfl rfl k) ?_
  show Good p e below _ (T61.setTop (mkF m 42 #[.val (.ref r0), .val (.ref b15), .val (.ref r0), .val (.int (3 : Int32)), .val (.int (1 : Int32)), .val (.double (own_R 1 x1)), .second, .val (.ref b43), .val (.int (1 : Int32))] [(.ref b15), (.int (1 : Int32))]))
  have f_65 : Arv Z h61 b15 k15 .double (2 : Int32) [(.double (own_R 1 (16 - x0))), (.double (own_R 1 x0))] (.double (FP.l2d 0)) := Arv.other f_57 W61 ne_b15_b43_58
  have fc66 := f_65
  obtain ⟨cl66, Ar66, qk66, S66, N66', H66, G66⟩ := fc66
  refine Good.back (X61.arraylength hx (by rw [e61]; exact Ar66.1) (State.isArrayOf_alike hZ.alike Ar66.2.1) (g := (mkF m 42 #[.val (.ref r0), .val (.ref b15), .val (.ref r0), .val (.int (3 : Int32)), .val (.int (1 : Int32)), .val (.double (own_R 1 x1)), .second, .val (.ref b43), .val (.int (1 : Int32))] [(.ref b15), (.int (1 : Int32))])) rfl rfl (hb hby own_d1_42)) ?_
  rw [len_of S66 N66']
  show Good p e below _ (T61.setTop (mkF m 43 #[.val (.ref r0), .val (.ref b15), .val (.ref r0), .val (.int (3 : Int32)), .val (.int (1 : Int32)), .val (.double (own_R 1 x1)), .second, .val (.ref b43), .val (.int (1 : Int32))] [(.int (2 : Int32)), (.int (1 : Int32))]))
  refine Good.back (fun _ k => XS.icmpNo X61.here hx rfl (hb hby own_d1_43) rfl (tlt (by decide : ((1 : Int32) < (2 : Int32)))).2.1 k) ?_
  show Good p e below _ (T61.setTop (mkF m 46 #[.val (.ref r0), .val (.ref b15), .val (.ref r0), .val (.int (3 : Int32)), .val (.int (1 : Int32)), .val (.double (own_R 1 x1)), .second, .val (.ref b43), .val (.int (1 : Int32))] []))
  refine Good.back (fun _ k => XS.aload X61.here hx rfl (hb hby own_d1_46) rfl rfl k) ?_
  show Good p e below _ (T61.setTop (mkF m 48 #[.val (.ref r0), .val (.ref b15), .val (.ref r0), .val (.int (3 : Int32)), .val (.int (1 : Int32)), .val (.double (own_R 1 x1)), .second, .val (.ref b43), .val (.int (1 : Int32))] [(.ref b43)]))
  refine Good.back (fun _ k => XS.iload X61.here hx rfl (hb hby own_d1_48) rfl k) ?_
  show Good p e below _ (T61.setTop (mkF m 50 #[.val (.ref r0), .val (.ref b15), .val (.ref r0), .val (.int (3 : Int32)), .val (.int (1 : Int32)), .val (.double (own_R 1 x1)), .second, .val (.ref b43), .val (.int (1 : Int32))] [(.int (1 : Int32)), (.ref b43)]))
  refine Good.back (fun _ k => Jvm.Free.XT.dup2 X61.here hx rfl (hb hby own_d1_50) rfl rfl rfl k) ?_
  show Good p e below _ (T61.setTop (mkF m 51 #[.val (.ref r0), .val (.ref b15), .val (.ref r0), .val (.int (3 : Int32)), .val (.int (1 : Int32)), .val (.double (own_R 1 x1)), .second, .val (.ref b43), .val (.int (1 : Int32))] [(.int (1 : Int32)), (.ref b43), (.int (1 : Int32)), (.ref b43)]))
  have fc67 := f_62
  obtain ⟨cl67, Ar67, qk67, S67, N67', H67, G67⟩ := fc67
  have hin67 : ¬ ((1 : Int32) < 0 ∨ cl67.slots.size ≤ ((1 : Int32)).toNatClampNeg) := inb_of S67 ⟨by decide, by decide⟩
  have hat67 : cl67.slots[((1 : Int32)).toNatClampNeg]? = some (.double (own_R 2 ((16 - x0) * x1))) := Has.at H67 hin67 rfl
  refine Good.back (X61.daload hx (j := (1 : Int32)) (v := (.double (own_R 2 ((16 - x0) * x1)))) (by rw [e61]; exact Ar67.1) (State.isArrayOf_alike hZ.alike Ar67.2.1) Ar67.2.2 hin67 hat67 (g := (mkF m 51 #[.val (.ref r0), .val (.ref b15), .val (.ref r0), .val (.int (3 : Int32)), .val (.int (1 : Int32)), .val (.double (own_R 1 x1)), .second, .val (.ref b43), .val (.int (1 : Int32))] [(.int (1 : Int32)), (.ref b43), (.int (1 : Int32)), (.ref b43)])) rfl rfl (hb hby own_d1_51)) ?_
  show Good p e below _ (T61.setTop (mkF m 52 #[.val (.ref r0), .val (.ref b15), .val (.ref r0), .val (.int (3 : Int32)), .val (.int (1 : Int32)), .val (.double (own_R 1 x1)), .second, .val (.ref b43), .val (.int (1 : Int32))] [(.double (own_R 2 ((16 - x0) * x1))), (.int (1 : Int32)), (.ref b43)]))
  refine Good.back (fun _ k => XS.aloadN X61.here hx rfl (hb hby own_d1_52) rfl rfl k) ?_
  show Good p e below _ (T61.setTop (mkF m 53 #[.val (.ref r0), .val (.ref b15), .val (.ref r0), .val (.int (3 : Int32)), .val (.int (1 : Int32)), .val (.double (own_R 1 x1)), .second, .val (.ref b43), .val (.int (1 : Int32))] [(.ref b15), (.double (own_R 2 ((16 - x0) * x1))), (.int (1 : Int32)), (.ref b43)]))
  refine Good.back (fun _ k => XS.iload X61.here hx rfl (hb hby own_d1_53) rfl k) ?_
  show Good p e below _ (T61.setTop (mkF m 55 #[.val (.ref r0), .val (.ref b15), .val (.ref r0), .val (.int (3 : Int32)), .val (.int (1 : Int32)), .val (.double (own_R 1 x1)), .second, .val (.ref b43), .val (.int (1 : Int32))] [(.int (1 : Int32)), (.ref b15), (.double (own_R 2 ((16 - x0) * x1))), (.int (1 : Int32)), (.ref b43)]))
  have fc68 := f_65
  obtain ⟨cl68, Ar68, qk68, S68, N68', H68, G68⟩ := fc68
  have hin68 : ¬ ((1 : Int32) < 0 ∨ cl68.slots.size ≤ ((1 : Int32)).toNatClampNeg) := inb_of S68 ⟨by decide, by decide⟩
  have hat68 : cl68.slots[((1 : Int32)).toNatClampNeg]? = some (.double (own_R 1 x0)) := Has.at H68 hin68 rfl
  refine Good.back (X61.daload hx (j := (1 : Int32)) (v := (.double (own_R 1 x0))) (by rw [e61]; exact Ar68.1) (State.isArrayOf_alike hZ.alike Ar68.2.1) Ar68.2.2 hin68 hat68 (g := (mkF m 55 #[.val (.ref r0), .val (.ref b15), .val (.ref r0), .val (.int (3 : Int32)), .val (.int (1 : Int32)), .val (.double (own_R 1 x1)), .second, .val (.ref b43), .val (.int (1 : Int32))] [(.int (1 : Int32)), (.ref b15), (.double (own_R 2 ((16 - x0) * x1))), (.int (1 : Int32)), (.ref b43)])) rfl rfl (hb hby own_d1_55)) ?_
  show Good p e below _ (T61.setTop (mkF m 56 #[.val (.ref r0), .val (.ref b15), .val (.ref r0), .val (.int (3 : Int32)), .val (.int (1 : Int32)), .val (.double (own_R 1 x1)), .second, .val (.ref b43), .val (.int (1 : Int32))] [(.double (own_R 1 x0)), (.double (own_R 2 ((16 - x0) * x1))), (.int (1 : Int32)), (.ref b43)]))
  refine Good.back (fun _ k => XS.dconst1 X61.here hx rfl (hb hby own_d1_56) (v := (FP.l2d (1 : Int64))) (by decide +kernel) k) ?_
  show Good p e below _ (T61.setTop (mkF m 57 #[.val (.ref r0), .val (.ref b15), .val (.ref r0), .val (.int (3 : Int32)), .val (.int (1 : Int32)), .val (.double (own_R 1 x1)), .second, .val (.ref b43), .val (.int (1 : Int32))] [(.double (FP.l2d (1 : Int64))), (.double (own_R 1 x0)), (.double (own_R 2 ((16 - x0) * x1))), (.int (1 : Int32)), (.ref b43)]))
  refine Good.back (fun _ k => XS.dload X61.here hx rfl (hb hby own_d1_57) rfl k) ?_
  show Good p e below _ (T61.setTop (mkF m 59 #[.val (.ref r0), .val (.ref b15), .val (.ref r0), .val (.int (3 : Int32)), .val (.int (1 : Int32)), .val (.double (own_R 1 x1)), .second, .val (.ref b43), .val (.int (1 : Int32))] [(.double (own_R 1 x1)), (.double (FP.l2d (1 : Int64))), (.double (own_R 1 x0)), (.double (own_R 2 ((16 - x0) * x1))), (.int (1 : Int32)), (.ref b43)]))
  refine Good.back (fun _ k => XS.dsubS X61.here hx rfl (hb hby own_d1_59) rfl (own_Rsub hx1 ▸ own_Rnn (Nat.lt_of_le_of_lt (Nat.sub_le 16 x1) (by decide))) (own_Rsub hx1) k) ?_
  show Good p e below _ (T61.setTop (mkF m 60 #[.val (.ref r0), .val (.ref b15), .val (.ref r0), .val (.int (3 : Int32)), .val (.int (1 : Int32)), .val (.double (own_R 1 x1)), .second, .val (.ref b43), .val (.int (1 : Int32))] [(.double (own_R 1 (16 - x1))), (.double (own_R 1 x0)), (.double (own_R 2 ((16 - x0) * x1))), (.int (1 : Int32)), (.ref b43)]))
  have hb69 := Nat.mul_le_mul hx0 (Nat.sub_le 16 x1)
  refine Good.back (fun _ k => XS.dmulS X61.here hx rfl (hb hby own_d1_60) rfl ((own_Rmul (d := 1) (f := 1) (by decide) (Nat.lt_of_le_of_lt hx0 (by decide)) (Nat.lt_of_le_of_lt (Nat.sub_le 16 x1) (by decide))).symm ▸ own_Rnn (Nat.lt_of_le_of_lt hb69 (by decide))) (own_Rmul (d := 1) (f := 1) (by decide) (Nat.lt_of_le_of_lt hx0 (by decide)) (Nat.lt_of_le_of_lt (Nat.sub_le 16 x1) (by decide))) k) ?_
  show Good p e below _ (T61.setTop (mkF m 61 #[.val (.ref r0), .val (.ref b15), .val (.ref r0), .val (.int (3 : Int32)), .val (.int (1 : Int32)), .val (.double (own_R 1 x1)), .second, .val (.ref b43), .val (.int (1 : Int32))] [(.double (own_R 2 (x0 * (16 - x1)))), (.double (own_R 2 ((16 - x0) * x1))), (.int (1 : Int32)), (.ref b43)]))
  have hb70 := Nat.add_le_add hb60 hb69
  refine Good.back (fun _ k => XS.daddS X61.here hx rfl (hb hby own_d1_61) rfl ((own_Radd (Nat.lt_of_le_of_lt hb60 (by decide)) (Nat.lt_of_le_of_lt hb69 (by decide))).symm ▸ own_Rnn (Nat.lt_of_le_of_lt hb70 (by decide))) (own_Radd (Nat.lt_of_le_of_lt hb60 (by decide)) (Nat.lt_of_le_of_lt hb69 (by decide))) k) ?_
  show Good p e below _ (T61.setTop (mkF m 62 #[.val (.ref r0), .val (.ref b15), .val (.ref r0), .val (.int (3 : Int32)), .val (.int (1 : Int32)), .val (.double (own_R 1 x1)), .second, .val (.ref b43), .val (.int (1 : Int32))] [(.double (own_R 2 (((16 - x0) * x1) + (x0 * (16 - x1))))), (.int (1 : Int32)), (.ref b43)]))
  have fc71 := f_62
  obtain ⟨cl71, Ar71, qk71, S71, N71', H71, G71⟩ := fc71
  have hin71 : ¬ ((1 : Int32) < 0 ∨ cl71.slots.size ≤ ((1 : Int32)).toNatClampNeg) := inb_of S71 ⟨by decide, by decide⟩
  obtain ⟨T71, h71, X71, e71, W71, st71⟩ := stD X61 hx hZ e61 Ar71 (j := (1 : Int32)) hin71 (g := (mkF m 62 #[.val (.ref r0), .val (.ref b15), .val (.ref r0), .val (.int (3 : Int32)), .val (.int (1 : Int32)), .val (.double (own_R 1 x1)), .second, .val (.ref b43), .val (.int (1 : Int32))] [(.double (own_R 2 (((16 - x0) * x1) + (x0 * (16 - x1))))), (.int (1 : Int32)), (.ref b43)])) rfl rfl (hb hby own_d1_62)
  refine Good.back st71 ?_
  have f_72 : Arv Z h71 b43 k43 .double (3 : Int32) [(.double (own_R 2 ((16 - x0) * (16 - x1)))), (.double (own_R 2 (((16 - x0) * x1) + (x0 * (16 - x1))))), (.double (FP.l2d 0))] (.double (FP.l2d 0)) := Arv.set Ar71 qk71 S71 N71' H71 G71 rfl W71 1 rfl (Nat.le_of_ble_eq_true rfl)
  have N71 := Fr.snoc X71 N61 g_b43
  have Z73 : n0 ≤ h71.size := Nat.le_trans Z63 (Keep.of_wr W71).1
  have K74 : Keep h0 h71 [] := K64.wr W71 (Or.inr sz_b43)
  show Good p e below _ (T71.setTop (mkF m 63 #[.val (.ref r0), .val (.ref b15), .val (.ref r0), .val (.int (3 : Int32)), .val (.int (1 : Int32)), .val (.double (own_R 1 x1)), .second, .val (.ref b43), .val (.int (1 : Int32))] []))
  refine Good.back (fun _ k => XS.aload X71.here hx rfl (hb hby own_d1_63) rfl rfl k) ?_
  show Good p e below _ (T71.setTop (mkF m 65 #[.val (.ref r0), .val (.ref b15), .val (.ref r0), .val (.int (3 : Int32)), .val (.int (1 : Int32)), .val (.double (own_R 1 x1)), .second, .val (.ref b43), .val (.int (1 : Int32))] [(.ref b43)]))
  refine Good.back (fun _ k => XS.iload X71.here hx rfl (hb hby own_d1_65) rfl k) ?_
  show Good p e below _ (T71.setTop (mkF m 67 #[.val (.ref r0), .val (.ref b15), .val (.ref r0), .val (.int (3 : Int32)), .val (.int (1 : Int32)), .val (.double (own_R 1 x1)), .second, .val (.ref b43), .val (.int (1 : Int32))] [(.int (1 : Int32)), (.ref b43)]))
  refine Good.back (fun _ k => XS.iconst X71.here hx rfl (hb hby own_d1_67) k) ?_
  show Good p e below _ (T71.setTop (mkF m 68 #[.val (.ref r0), .val (.ref b15), .val (.ref r0), .val (.int (3 : Int32)), .val (.int (1 : Int32)), .val (.double (own_R 1 x1)), .second, .val (.ref b43), .val (.int (1 : Int32))] [(.int (1 : Int32)), (.int (1 : Int32)), (.ref b43)]))
  refine Good.back (fun _ k => XS.iadd X71.here hx rfl (hb hby own_d1_68) rfl k) ?_
  show Good p e below _ (T71.setTop (mkF m 69 #[.val (.ref r0), .val (.ref b15), .val (.ref r0), .val (.int (3 : Int32)), .val (.int (1 : Int32)), .val (.double (own_R 1 x1)), .second, .val (.ref b43), .val (.int (1 : Int32))] [(.int ((1 : Int32) + (1 : Int32))), (.ref b43)]))
  rw [show (((1 : Int32) + (1 : Int32)) : Int32) = (2 : Int32) from by decide]
  show Good p e below _ (T71.setTop (mkF m 69 #[.val (.ref r0), .val (.ref b15), .val (.ref r0), .val (.int (3 : Int32)), .val (.int (1 : Int32)), .val (.double (own_R 1 x1)), .second, .val (.ref b43), .val (.int (1 : Int32))] [(.int (2 : Int32)), (.ref b43)]))
  refine Good.back (fun _ k => Jvm.Free.XT.dup2 X71.here hx rfl (hb hby own_d1_69) rfl rfl rfl k) ?_
  show Good p e below _ (T71.setTop (mkF m 70 #[.val (.ref r0), .val (.ref b15), .val (.ref r0), .val (.int (3 : Int32)), .val (.int (1 : Int32)), .val (.double (own_R 1 x1)), .second, .val (.ref b43), .val (.int (1 : Int32))] [(.int (2 : Int32)), (.ref b43), (.int (2 : Int32)), (.ref b43)]))
  have fc75 := f_72
  obtain ⟨cl75, Ar75, qk75, S75, N75', H75, G75⟩ := fc75
  have hin75 : ¬ ((2 : Int32) < 0 ∨ cl75.slots.size ≤ ((2 : Int32)).toNatClampNeg) := inb_of S75 ⟨by decide, by decide⟩
  have hat75 : cl75.slots[((2 : Int32)).toNatClampNeg]? = some (.double (FP.l2d 0)) := Has.at H75 hin75 rfl
  refine Good.back (X71.daload hx (j := (2 : Int32)) (v := (.double (FP.l2d 0))) (by rw [e71]; exact Ar75.1) (State.isArrayOf_alike hZ.alike Ar75.2.1) Ar75.2.2 hin75 hat75 (g := (mkF m 70 #[.val (.ref r0), .val (.ref b15), .val (.ref r0), .val (.int (3 : Int32)), .val (.int (1 : Int32)), .val (.double (own_R 1 x1)), .second, .val (.ref b43), .val (.int (1 : Int32))] [(.int (2 : Int32)), (.ref b43), (.int (2 : Int32)), (.ref b43)])) rfl rfl (hb hby own_d1_70)) ?_
  show Good p e below _ (T71.setTop (mkF m 71 #[.val (.ref r0), .val (.ref b15), .val (.ref r0), .val (.int (3 : Int32)), .val (.int (1 : Int32)), .val (.double (own_R 1 x1)), .second, .val (.ref b43), .val (.int (1 : Int32))] [(.double (FP.l2d 0)), (.int (2 : Int32)), (.ref b43)]))
  refine Good.back (fun _ k => XS.aloadN X71.here hx rfl (hb hby own_d1_71) rfl rfl k) ?_
  show Good p e below _ (T71.setTop (mkF m 72 #[.val (.ref r0), .val (.ref b15), .val (.ref r0), .val (.int (3 : Int32)), .val (.int (1 : Int32)), .val (.double (own_R 1 x1)), .second, .val (.ref b43), .val (.int (1 : Int32))] [(.ref b15), (.double (FP.l2d 0)), (.int (2 : Int32)), (.ref b43)]))
  refine Good.back (fun _ k => XS.iload X71.here hx rfl (hb hby own_d1_72) rfl k) ?_
  show Good p e below _ (T71.setTop (mkF m 74 #[.val (.ref r0), .val (.ref b15), .val (.ref r0), .val (.int (3 : Int32)), .val (.int (1 : Int32)), .val (.double (own_R 1 x1)), .second, .val (.ref b43), .val (.int (1 : Int32))] [(.int (1 : Int32)), (.ref b15), (.double (FP.l2d 0)), (.int (2 : Int32)), (.ref b43)]))
  have f_76 : Arv Z h71 b15 k15 .double (2 : Int32) [(.double (own_R 1 (16 - x0))), (.double (own_R 1 x0))] (.double (FP.l2d 0)) := Arv.other f_65 W71 ne_b15_b43_58
  have fc77 := f_76
  obtain ⟨cl77, Ar77, qk77, S77, N77', H77, G77⟩ := fc77
  have hin77 : ¬ ((1 : Int32) < 0 ∨ cl77.slots.size ≤ ((1 : Int32)).toNatClampNeg) := inb_of S77 ⟨by decide, by decide⟩
  have hat77 : cl77.slots[((1 : Int32)).toNatClampNeg]? = some (.double (own_R 1 x0)) := Has.at H77 hin77 rfl
  refine Good.back (X71.daload hx (j := (1 : Int32)) (v := (.double (own_R 1 x0))) (by rw [e71]; exact Ar77.1) (State.isArrayOf_alike hZ.alike Ar77.2.1) Ar77.2.2 hin77 hat77 (g := (mkF m 74 #[.val (.ref r0), .val (.ref b15), .val (.ref r0), .val (.int (3 : Int32)), .val (.int (1 : Int32)), .val (.double (own_R 1 x1)), .second, .val (.ref b43), .val (.int (1 : Int32))] [(.int (1 : Int32)), (.ref b15), (.double (FP.l2d 0)), (.int (2 : Int32)), (.ref b43)])) rfl rfl (hb hby own_d1_74)) ?_
  show Good p e below _ (T71.setTop (mkF m 75 #[.val (.ref r0), .val (.ref b15), .val (.ref r0), .val (.int (3 : Int32)), .val (.int (1 : Int32)), .val (.double (own_R 1 x1)), .second, .val (.ref b43), .val (.int (1 : Int32))] [(.double (own_R 1 x0)), (.double (FP.l2d 0)), (.int (2 : Int32)), (.ref b43)]))
  refine Good.back (fun _ k => XS.dload X71.here hx rfl (hb hby own_d1_75) rfl k) ?_
  show Good p e below _ (T71.setTop (mkF m 77 #[.val (.ref r0), .val (.ref b15), .val (.ref r0), .val (.int (3 : Int32)), .val (.int (1 : Int32)), .val (.double (own_R 1 x1)), .second, .val (.ref b43), .val (.int (1 : Int32))] [(.double (own_R 1 x1)), (.double (own_R 1 x0)), (.double (FP.l2d 0)), (.int (2 : Int32)), (.ref b43)]))
  have hb78 := Nat.mul_le_mul hx0 hx1
  refine Good.back (fun _ k => XS.dmulS X71.here hx rfl (hb hby own_d1_77) rfl ((own_Rmul (d := 1) (f := 1) (by decide) (Nat.lt_of_le_of_lt hx0 (by decide)) (Nat.lt_of_le_of_lt hx1 (by decide))).symm ▸ own_Rnn (Nat.lt_of_le_of_lt hb78 (by decide))) (own_Rmul (d := 1) (f := 1) (by decide) (Nat.lt_of_le_of_lt hx0 (by decide)) (Nat.lt_of_le_of_lt hx1 (by decide))) k) ?_
  show Good p e below _ (T71.setTop (mkF m 78 #[.val (.ref r0), .val (.ref b15), .val (.ref r0), .val (.int (3 : Int32)), .val (.int (1 : Int32)), .val (.double (own_R 1 x1)), .second, .val (.ref b43), .val (.int (1 : Int32))] [(.double (own_R 2 (x0 * x1))), (.double (FP.l2d 0)), (.int (2 : Int32)), (.ref b43)]))
  refine Good.back (fun _ k => XS.daddS X71.here hx rfl (hb hby own_d1_78) rfl ((own_Radd0 (Nat.lt_of_le_of_lt hb78 (by decide))).symm ▸ own_Rnn (Nat.lt_of_le_of_lt hb78 (by decide))) (own_Radd0 (Nat.lt_of_le_of_lt hb78 (by decide))) k) ?_
  show Good p e below _ (T71.setTop (mkF m 79 #[.val (.ref r0), .val (.ref b15), .val (.ref r0), .val (.int (3 : Int32)), .val (.int (1 : Int32)), .val (.double (own_R 1 x1)), .second, .val (.ref b43), .val (.int (1 : Int32))] [(.double (own_R 2 (x0 * x1))), (.int (2 : Int32)), (.ref b43)]))
  have fc79 := f_72
  obtain ⟨cl79, Ar79, qk79, S79, N79', H79, G79⟩ := fc79
  have hin79 : ¬ ((2 : Int32) < 0 ∨ cl79.slots.size ≤ ((2 : Int32)).toNatClampNeg) := inb_of S79 ⟨by decide, by decide⟩
  obtain ⟨T79, h79, X79, e79, W79, st79⟩ := stD X71 hx hZ e71 Ar79 (j := (2 : Int32)) hin79 (g := (mkF m 79 #[.val (.ref r0), .val (.ref b15), .val (.ref r0), .val (.int (3 : Int32)), .val (.int (1 : Int32)), .val (.double (own_R 1 x1)), .second, .val (.ref b43), .val (.int (1 : Int32))] [(.double (own_R 2 (x0 * x1))), (.int (2 : Int32)), (.ref b43)])) rfl rfl (hb hby own_d1_79)
  refine Good.back st79 ?_
  have f_80 : Arv Z h79 b43 k43 .double (3 : Int32) [(.double (own_R 2 ((16 - x0) * (16 - x1)))), (.double (own_R 2 (((16 - x0) * x1) + (x0 * (16 - x1))))), (.double (own_R 2 (x0 * x1)))] (.double (FP.l2d 0)) := Arv.set Ar79 qk79 S79 N79' H79 G79 rfl W79 2 rfl (Nat.le_of_ble_eq_true rfl)
  have N79 := Fr.snoc X79 N71 g_b43
  have Z81 : n0 ≤ h79.size := Nat.le_trans Z73 (Keep.of_wr W79).1
  have K82 : Keep h0 h79 [] := K74.wr W79 (Or.inr sz_b43)
  show Good p e below _ (T79.setTop (mkF m 80 #[.val (.ref r0), .val (.ref b15), .val (.ref r0), .val (.int (3 : Int32)), .val (.int (1 : Int32)), .val (.double (own_R 1 x1)), .second, .val (.ref b43), .val (.int (1 : Int32))] []))
  refine Good.back (fun _ k => XS.iinc X79.here hx rfl (hb hby own_d1_80) rfl (l' := #[.val (.ref r0), .val (.ref b15), .val (.ref r0), .val (.int (3 : Int32)), .val (.int (1 : Int32)), .val (.double (own_R 1 x1)), .second, .val (.ref b43), .val (.int ((1 : Int32) + (1 : Int32)))]) rfl k) ?_
  show Good p e below _ (T79.setTop (mkF m 83 #[.val (.ref r0), .val (.ref b15), .val (.ref r0), .val (.int (3 : Int32)), .val (.int (1 : Int32)), .val (.double (own_R 1 x1)), .second, .val (.ref b43), .val (.int ((1 : Int32) + (1 : Int32)))] []))
  rw [show (((1 : Int32) + (1 : Int32)) : Int32) = (2 : Int32) from by decide]
  show Good p e below _ (T79.setTop (mkF m 83 #[.val (.ref r0), .val (.ref b15), .val (.ref r0), .val (.int (3 : Int32)), .val (.int (1 : Int32)), .val (.double (own_R 1 x1)), .second, .val (.ref b43), .val (.int (2 : Int32))] []))
  refine Good.back (fun _ k => XS.goto X79.here hx rfl (pc0 := 83) (pc' := 39) rfl (hb hby own_d1_83) (by decide) (by decide) k) ?_
  show Good p e below _ (T79.setTop (mkF m 39 #[.val (.ref r0), .val (.ref b15), .val (.ref r0), .val (.int (3 : Int32)), .val (.int (1 : Int32)), .val (.double (own_R 1 x1)), .second, .val (.ref b43), .val (.int (2 : Int32))] []))
  refine Good.back (fun _ k => XS.iload X79.here hx rfl (hb hby own_d1_39) rfl k) ?_
  show Good p e below _ (T79.setTop (mkF m 41 #[.val (.ref r0), .val (.ref b15), .val (.ref r0), .val (.int (3 : Int32)), .val (.int (1 : Int32)), .val (.double (own_R 1 x1)), .second, .val (.ref b43), .val (.int (2 : Int32))] [(.int (2 : Int32))]))
  refine Good.back (fun _ k => XS.aloadN X79.here hx rfl (hb hby own_d1_41) rfl rfl k) ?_
  show Good p e below _ (T79.setTop (mkF m 42 #[.val (.ref r0), .val (.ref b15), .val (.ref r0), .val (.int (3 : Int32)), .val (.int (1 : Int32)), .val (.double (own_R 1 x1)), .second, .val (.ref b43), .val (.int (2 : Int32))] [(.ref b15), (.int (2 : Int32))]))
  have f_83 : Arv Z h79 b15 k15 .double (2 : Int32) [(.double (own_R 1 (16 - x0))), (.double (own_R 1 x0))] (.double (FP.l2d 0)) := Arv.other f_76 W79 ne_b15_b43_58
  have fc84 := f_83
  obtain ⟨cl84, Ar84, qk84, S84, N84', H84, G84⟩ := fc84
  refine Good.back (X79.arraylength hx (by rw [e79]; exact Ar84.1) (State.isArrayOf_alike hZ.alike Ar84.2.1) (g := (mkF m 42 #[.val (.ref r0), .val (.ref b15), .val (.ref r0), .val (.int (3 : Int32)), .val (.int (1 : Int32)), .val (.double (own_R 1 x1)), .second, .val (.ref b43), .val (.int (2 : Int32))] [(.ref b15), (.int (2 : Int32))])) rfl rfl (hb hby own_d1_42)) ?_
  rw [len_of S84 N84']
  show Good p e below _ (T79.setTop (mkF m 43 #[.val (.ref r0), .val (.ref b15), .val (.ref r0), .val (.int (3 : Int32)), .val (.int (1 : Int32)), .val (.double (own_R 1 x1)), .second, .val (.ref b43), .val (.int (2 : Int32))] [(.int (2 : Int32)), (.int (2 : Int32))]))
  refine Good.back (fun _ k => XS.icmpYes X79.here hx rfl (pc0 := 43) (pc' := 86) rfl (hb hby own_d1_43) rfl (flt (by decide : ¬ ((2 : Int32) < (2 : Int32)))).2.1 (by decide) (by decide) k) ?_
  show Good p e below _ (T79.setTop (mkF m 86 #[.val (.ref r0), .val (.ref b15), .val (.ref r0), .val (.int (3 : Int32)), .val (.int (1 : Int32)), .val (.double (own_R 1 x1)), .second, .val (.ref b43), .val (.int (2 : Int32))] []))
  refine Good.back (fun _ k => XS.aload X79.here hx rfl (hb hby own_d1_86) rfl rfl k) ?_
  show Good p e below _ (T79.setTop (mkF m 88 #[.val (.ref r0), .val (.ref b15), .val (.ref r0), .val (.int (3 : Int32)), .val (.int (1 : Int32)), .val (.double (own_R 1 x1)), .second, .val (.ref b43), .val (.int (2 : Int32))] [(.ref b43)]))
  refine Good.back (fun _ k => XS.astoreN X79.here hx rfl (hb hby own_d1_88) rfl rfl (l' := #[.val (.ref r0), .val (.ref b43), .val (.ref r0), .val (.int (3 : Int32)), .val (.int (1 : Int32)), .val (.double (own_R 1 x1)), .second, .val (.ref b43), .val (.int (2 : Int32))]) rfl k) ?_
  show Good p e below _ (T79.setTop (mkF m 89 #[.val (.ref r0), .val (.ref b43), .val (.ref r0), .val (.int (3 : Int32)), .val (.int (1 : Int32)), .val (.double (own_R 1 x1)), .second, .val (.ref b43), .val (.int (2 : Int32))] []))
  refine Good.back (fun _ k => XS.iinc X79.here hx rfl (hb hby own_d1_89) rfl (l' := #[.val (.ref r0), .val (.ref b43), .val (.ref r0), .val (.int (3 : Int32)), .val (.int ((1 : Int32) + (1 : Int32))), .val (.double (own_R 1 x1)), .second, .val (.ref b43), .val (.int (2 : Int32))]) rfl k) ?_
  show Good p e below _ (T79.setTop (mkF m 92 #[.val (.ref r0), .val (.ref b43), .val (.ref r0), .val (.int (3 : Int32)), .val (.int ((1 : Int32) + (1 : Int32))), .val (.double (own_R 1 x1)), .second, .val (.ref b43), .val (.int (2 : Int32))] []))
  rw [show (((1 : Int32) + (1 : Int32)) : Int32) = (2 : Int32) from by decide]
  show Good p e below _ (T79.setTop (mkF m 92 #[.val (.ref r0), .val (.ref b43), .val (.ref r0), .val (.int (3 : Int32)), .val (.int (2 : Int32)), .val (.double (own_R 1 x1)), .second, .val (.ref b43), .val (.int (2 : Int32))] []))
  refine Good.back (fun _ k => XS.goto X79.here hx rfl (pc0 := 92) (pc' := 16) rfl (hb hby own_d1_92) (by decide) (by decide) k) ?_
  show Good p e below _ (T79.setTop (mkF m 16 #[.val (.ref r0), .val (.ref b43), .val (.ref r0), .val (.int (3 : Int32)), .val (.int (2 : Int32)), .val (.double (own_R 1 x1)), .second, .val (.ref b43), .val (.int (2 : Int32))] []))
  refine Good.back (fun _ k => XS.iload X79.here hx rfl (hb hby own_d1_16) rfl k) ?_
  show Good p e below _ (T79.setTop (mkF m 18 #[.val (.ref r0), .val (.ref b43), .val (.ref r0), .val (.int (3 : Int32)), .val (.int (2 : Int32)), .val (.double (own_R 1 x1)), .second, .val (.ref b43), .val (.int (2 : Int32))] [(.int (2 : Int32))]))
  refine Good.back (fun _ k => XS.iloadN X79.here hx rfl (hb hby own_d1_18) rfl k) ?_
  show Good p e below _ (T79.setTop (mkF m 19 #[.val (.ref r0), .val (.ref b43), .val (.ref r0), .val (.int (3 : Int32)), .val (.int (2 : Int32)), .val (.double (own_R 1 x1)), .second, .val (.ref b43), .val (.int (2 : Int32))] [(.int (3 : Int32)), (.int (2 : Int32))]))
  refine Good.back (fun _ k => XS.icmpNo X79.here hx rfl (hb hby own_d1_19) rfl (tlt (by decide : ((2 : Int32) < (3 : Int32)))).2.1 k) ?_
  show Good p e below _ (T79.setTop (mkF m 22 #[.val (.ref r0), .val (.ref b43), .val (.ref r0), .val (.int (3 : Int32)), .val (.int (2 : Int32)), .val (.double (own_R 1 x1)), .second, .val (.ref b43), .val (.int (2 : Int32))] []))
  refine Good.back (fun _ k => XS.aloadN X79.here hx rfl (hb hby own_d1_22) rfl rfl k) ?_
  show Good p e below _ (T79.setTop (mkF m 23 #[.val (.ref r0), .val (.ref b43), .val (.ref r0), .val (.int (3 : Int32)), .val (.int (2 : Int32)), .val (.double (own_R 1 x1)), .second, .val (.ref b43), .val (.int (2 : Int32))] [(.ref r0)]))
  refine Good.back (fun _ k => XS.iload X79.here hx rfl (hb hby own_d1_23) rfl k) ?_
  show Good p e below _ (T79.setTop (mkF m 25 #[.val (.ref r0), .val (.ref b43), .val (.ref r0), .val (.int (3 : Int32)), .val (.int (2 : Int32)), .val (.double (own_R 1 x1)), .second, .val (.ref b43), .val (.int (2 : Int32))] [(.int (2 : Int32)), (.ref r0)]))
  have f_85 : Arv Z h43 r0 kk .double (3 : Int32) [(.double (own_R 1 x0)), (.double (own_R 1 x1)), (.double (own_R 1 x2))] (.double (FP.l2d 0)) := Arv.ext f_40 E43
  have ne_r0_b43_87 : r0 ≠ b43 := Nat.ne_of_lt (Nat.lt_of_lt_of_le f_40.lt (Nat.le_of_eq g43.symm))
  have f_86 : Arv Z h52 r0 kk .double (3 : Int32) [(.double (own_R 1 x0)), (.double (own_R 1 x1)), (.double (own_R 1 x2))] (.double (FP.l2d 0)) := Arv.other f_85 W52 ne_r0_b43_87
  have f_88 : Arv Z h61 r0 kk .double (3 : Int32) [(.double (own_R 1 x0)), (.double (own_R 1 x1)), (.double (own_R 1 x2))] (.double (FP.l2d 0)) := Arv.other f_86 W61 ne_r0_b43_87
  have f_89 : Arv Z h71 r0 kk .double (3 : Int32) [(.double (own_R 1 x0)), (.double (own_R 1 x1)), (.double (own_R 1 x2))] (.double (FP.l2d 0)) := Arv.other f_88 W71 ne_r0_b43_87
  have f_90 : Arv Z h79 r0 kk .double (3 : Int32) [(.double (own_R 1 x0)), (.double (own_R 1 x1)), (.double (own_R 1 x2))] (.double (FP.l2d 0)) := Arv.other f_89 W79 ne_r0_b43_87
  have fc91 := f_90
  obtain ⟨cl91, Ar91, qk91, S91, N91', H91, G91⟩ := fc91
  have hin91 : ¬ ((2 : Int32) < 0 ∨ cl91.slots.size ≤ ((2 : Int32)).toNatClampNeg) := inb_of S91 ⟨by decide, by decide⟩
  have hat91 : cl91.slots[((2 : Int32)).toNatClampNeg]? = some (.double (own_R 1 x2)) := Has.at H91 hin91 rfl
  refine Good.back (X79.daload hx (j := (2 : Int32)) (v := (.double (own_R 1 x2))) (by rw [e79]; exact Ar91.1) (State.isArrayOf_alike hZ.alike Ar91.2.1) Ar91.2.2 hin91 hat91 (g := (mkF m 25 #[.val (.ref r0), .val (.ref b43), .val (.ref r0), .val (.int (3 : Int32)), .val (.int (2 : Int32)), .val (.double (own_R 1 x1)), .second, .val (.ref b43), .val (.int (2 : Int32))] [(.int (2 : Int32)), (.ref r0)])) rfl rfl (hb hby own_d1_25)) ?_
  show Good p e below _ (T79.setTop (mkF m 26 #[.val (.ref r0), .val (.ref b43), .val (.ref r0), .val (.int (3 : Int32)), .val (.int (2 : Int32)), .val (.double (own_R 1 x1)), .second, .val (.ref b43), .val (.int (2 : Int32))] [(.double (own_R 1 x2))]))
  refine Good.back (fun _ k => XS.dstore X79.here hx rfl (hb hby own_d1_26) rfl (l' := #[.val (.ref r0), .val (.ref b43), .val (.ref r0), .val (.int (3 : Int32)), .val (.int (2 : Int32)), .val (.double (own_R 1 x2)), .second, .val (.ref b43), .val (.int (2 : Int32))]) rfl k) ?_
  show Good p e below _ (T79.setTop (mkF m 28 #[.val (.ref r0), .val (.ref b43), .val (.ref r0), .val (.int (3 : Int32)), .val (.int (2 : Int32)), .val (.double (own_R 1 x2)), .second, .val (.ref b43), .val (.int (2 : Int32))] []))
  refine Good.back (fun _ k => XS.aloadN X79.here hx rfl (hb hby own_d1_28) rfl rfl k) ?_
  show Good p e below _ (T79.setTop (mkF m 29 #[.val (.ref r0), .val (.ref b43), .val (.ref r0), .val (.int (3 : Int32)), .val (.int (2 : Int32)), .val (.double (own_R 1 x2)), .second, .val (.ref b43), .val (.int (2 : Int32))] [(.ref b43)]))
  have fc92 := f_80
  obtain ⟨cl92, Ar92, qk92, S92, N92', H92, G92⟩ := fc92
  refine Good.back (X79.arraylength hx (by rw [e79]; exact Ar92.1) (State.isArrayOf_alike hZ.alike Ar92.2.1) (g := (mkF m 29 #[.val (.ref r0), .val (.ref b43), .val (.ref r0), .val (.int (3 : Int32)), .val (.int (2 : Int32)), .val (.double (own_R 1 x2)), .second, .val (.ref b43), .val (.int (2 : Int32))] [(.ref b43)])) rfl rfl (hb hby own_d1_29)) ?_
  rw [len_of S92 N92']
  show Good p e below _ (T79.setTop (mkF m 30 #[.val (.ref r0), .val (.ref b43), .val (.ref r0), .val (.int (3 : Int32)), .val (.int (2 : Int32)), .val (.double (own_R 1 x2)), .second, .val (.ref b43), .val (.int (2 : Int32))] [(.int (3 : Int32))]))
  refine Good.back (fun _ k => XS.iconst X79.here hx rfl (hb hby own_d1_30) k) ?_
  show Good p e below _ (T79.setTop (mkF m 31 #[.val (.ref r0), .val (.ref b43), .val (.ref r0), .val (.int (3 : Int32)), .val (.int (2 : Int32)), .val (.double (own_R 1 x2)), .second, .val (.ref b43), .val (.int (2 : Int32))] [(.int (1 : Int32)), (.int (3 : Int32))]))
  refine Good.back (fun _ k => XS.iadd X79.here hx rfl (hb hby own_d1_31) rfl k) ?_
  show Good p e below _ (T79.setTop (mkF m 32 #[.val (.ref r0), .val (.ref b43), .val (.ref r0), .val (.int (3 : Int32)), .val (.int (2 : Int32)), .val (.double (own_R 1 x2)), .second, .val (.ref b43), .val (.int (2 : Int32))] [(.int ((3 : Int32) + (1 : Int32)))]))
  rw [show (((3 : Int32) + (1 : Int32)) : Int32) = (4 : Int32) from by decide]
  show Good p e below _ (T79.setTop (mkF m 32 #[.val (.ref r0), .val (.ref b43), .val (.ref r0), .val (.int (3 : Int32)), .val (.int (2 : Int32)), .val (.double (own_R 1 x2)), .second, .val (.ref b43), .val (.int (2 : Int32))] [(.int (4 : Int32))]))
  obtain ⟨T93, h93, k93, X93, e93, E93, A93, st93⟩ := newP X79 hx hZ (hw _ (List.mem_of_getElem? (i := 2) rfl)) e79 (g := (mkF m 32 #[.val (.ref r0), .val (.ref b43), .val (.ref r0), .val (.int (3 : Int32)), .val (.int (2 : Int32)), .val (.double (own_R 1 x2)), .second, .val (.ref b43), .val (.int (2 : Int32))] [(.int (4 : Int32))])) rfl (hb hby own_d1_32) rfl (by decide) (cap := 4) (by decide) (by decide) (by decide) (by decide)
  obtain ⟨b93, g93⟩ : ∃ z, z = h79.size := ⟨_, rfl⟩
  rw [← g93] at A93 st93
  refine Good.back st93 ?_
  have g_b93 : n0 ≤ b93 := Nat.le_trans Z81 (Nat.le_of_eq g93.symm)
  have sz_b93 : h0.size ≤ b93 := Nat.le_trans K82.1 (Nat.le_of_eq g93.symm)
  have Z94 : n0 ≤ h93.size := Nat.le_trans Z81 E93.1
  have K95 : Keep h0 h93 [] := K82.ext E93
  have f_96 : Arv Z h93 b93 k93 .double (4 : Int32) [(.double (FP.l2d 0)), (.double (FP.l2d 0)), (.double (FP.l2d 0)), (.double (FP.l2d 0))] (.double (FP.l2d 0)) := (Arv.newD A93 (by decide)).pad (pad_rep [] (.double (FP.l2d 0)) 4)
  show Good p e below _ (T93.setTop (mkF m 34 #[.val (.ref r0), .val (.ref b43), .val (.ref r0), .val (.int (3 : Int32)), .val (.int (2 : Int32)), .val (.double (own_R 1 x2)), .second, .val (.ref b43), .val (.int (2 : Int32))] [(.ref b93)]))
  refine Good.back (fun _ k => XS.astore X93.here hx rfl (hb hby own_d1_34) rfl rfl (l' := #[.val (.ref r0), .val (.ref b43), .val (.ref r0), .val (.int (3 : Int32)), .val (.int (2 : Int32)), .val (.double (own_R 1 x2)), .second, .val (.ref b93), .val (.int (2 : Int32))]) rfl k) ?_
  show Good p e below _ (T93.setTop (mkF m 36 #[.val (.ref r0), .val (.ref b43), .val (.ref r0), .val (.int (3 : Int32)), .val (.int (2 : Int32)), .val (.double (own_R 1 x2)), .second, .val (.ref b93), .val (.int (2 : Int32))] []))
  refine Good.back (fun _ k => XS.iconst X93.here hx rfl (hb hby own_d1_36) k) ?_
  show Good p e below _ (T93.setTop (mkF m 37 #[.val (.ref r0), .val (.ref b43), .val (.ref r0), .val (.int (3 : Int32)), .val (.int (2 : Int32)), .val (.double (own_R 1 x2)), .second, .val (.ref b93), .val (.int (2 : Int32))] [(.int (0 : Int32))]))
  refine Good.back (fun _ k => XS.istore X93.here hx rfl (hb hby own_d1_37) rfl (l' := #[.val (.ref r0), .val (.ref b43), .val (.ref r0), .val (.int (3 : Int32)), .val (.int (2 : Int32)), .val (.double (own_R 1 x2)), .second, .val (.ref b93), .val (.int (0 : Int32))]) rfl k) ?_
  show Good p e below _ (T93.setTop (mkF m 39 #[.val (.ref r0), .val (.ref b43), .val (.ref r0), .val (.int (3 : Int32)), .val (.int (2 : Int32)), .val (.double (own_R 1 x2)), .second, .val (.ref b93), .val (.int (0 : Int32))] []))
  refine Good.back (fun _ k => XS.iload X93.here hx rfl (hb hby own_d1_39) rfl k) ?_
  show Good p e below _ (T93.setTop (mkF m 41 #[.val (.ref r0), .val (.ref b43), .val (.ref r0), .val (.int (3 : Int32)), .val (.int (2 : Int32)), .val (.double (own_R 1 x2)), .second, .val (.ref b93), .val (.int (0 : Int32))] [(.int (0 : Int32))]))
  refine Good.back (fun _ k => XS.aloadN X93.here hx rfl (hb hby own_d1_41) rfl rfl k) ?_
  show Good p e below _ (T93.setTop (mkF m 42 #[.val (.ref r0), .val (.ref b43), .val (.ref r0), .val (.int (3 : Int32)), .val (.int (2 : Int32)), .val (.double (own_R 1 x2)), .second, .val (.ref b93), .val (.int (0 : Int32))] [(.ref b43), (.int (0 : Int32))]))
  have f_97 : Arv Z h93 b43 k43 .double (3 : Int32) [(.double (own_R 2 ((16 - x0) * (16 - x1)))), (.double (own_R 2 (((16 - x0) * x1) + (x0 * (16 - x1))))), (.double (own_R 2 (x0 * x1)))] (.double (FP.l2d 0)) := Arv.ext f_80 E93
  have fc98 := f_97
  obtain ⟨cl98, Ar98, qk98, S98, N98', H98, G98⟩ := fc98
  refine Good.back (X93.arraylength hx (by rw [e93]; exact Ar98.1) (State.isArrayOf_alike hZ.alike Ar98.2.1) (g := (mkF m 42 #[.val (.ref r0), .val (.ref b43), .val (.ref r0), .val (.int (3 : Int32)), .val (.int (2 : Int32)), .val (.double (own_R 1 x2)), .second, .val (.ref b93), .val (.int (0 : Int32))] [(.ref b43), (.int (0 : Int32))])) rfl rfl (hb hby own_d1_42)) ?_
  rw [len_of S98 N98']
  show Good p e below _ (T93.setTop (mkF m 43 #[.val (.ref r0), .val (.ref b43), .val (.ref r0), .val (.int (3 : Int32)), .val (.int (2 : Int32)), .val (.double (own_R 1 x2)), .second, .val (.ref b93), .val (.int (0 : Int32))] [(.int (3 : Int32)), (.int (0 : Int32))]))
  refine Good.back (fun _ k => XS.icmpNo X93.here hx rfl (hb hby own_d1_43) rfl (tlt (by decide : ((0 : Int32) < (3 : Int32)))).2.1 k) ?_
  show Good p e below _ (T93.setTop (mkF m 46 #[.val (.ref r0), .val (.ref b43), .val (.ref r0), .val (.int (3 : Int32)), .val (.int (2 : Int32)), .val (.double (own_R 1 x2)), .second, .val (.ref b93), .val (.int (0 : Int32))] []))
  refine Good.back (fun _ k => XS.aload X93.here hx rfl (hb hby own_d1_46) rfl rfl k) ?_
  show Good p e below _ (T93.setTop (mkF m 48 #[.val (.ref r0), .val (.ref b43), .val (.ref r0), .val (.int (3 : Int32)), .val (.int (2 : Int32)), .val (.double (own_R 1 x2)), .second, .val (.ref b93), .val (.int (0 : Int32))] [(.ref b93)]))
  refine Good.back (fun _ k => XS.iload X93.here hx rfl (hb hby own_d1_48) rfl k) ?_
  show Good p e below _ (T93.setTop (mkF m 50 #[.val (.ref r0), .val (.ref b43), .val (.ref r0), .val (.int (3 : Int32)), .val (.int (2 : Int32)), .val (.double (own_R 1 x2)), .second, .val (.ref b93), .val (.int (0 : Int32))] [(.int (0 : Int32)), (.ref b93)]))
  refine Good.back (fun _ k => Jvm.Free.XT.dup2 X93.here hx rfl (hb hby own_d1_50) rfl rfl rfl k) ?_
  show Good p e below _ (T93.setTop (mkF m 51 #[.val (.ref r0), .val (.ref b43), .val (.ref r0), .val (.int (3 : Int32)), .val (.int (2 : Int32)), .val (.double (own_R 1 x2)), .second, .val (.ref b93), .val (.int (0 : Int32))] [(.int (0 : Int32)), (.ref b93), (.int (0 : Int32)), (.ref b93)]))
  have fc99 := f_96
  obtain ⟨cl99, Ar99, qk99, S99, N99', H99, G99⟩ := fc99
  have hin99 : ¬ ((0 : Int32) < 0 ∨ cl99.slots.size ≤ ((0 : Int32)).toNatClampNeg) := inb_of S99 ⟨by decide, by decide⟩
  have hat99 : cl99.slots[((0 : Int32)).toNatClampNeg]? = some (.double (FP.l2d 0)) := Has.at H99 hin99 rfl
  refine Good.back (X93.daload hx (j := (0 : Int32)) (v := (.double (FP.l2d 0))) (by rw [e93]; exact Ar99.1) (State.isArrayOf_alike hZ.alike Ar99.2.1) Ar99.2.2 hin99 hat99 (g := (mkF m 51 #[.val (.ref r0), .val (.ref b43), .val (.ref r0), .val (.int (3 : Int32)), .val (.int (2 : Int32)), .val (.double (own_R 1 x2)), .second, .val (.ref b93), .val (.int (0 : Int32))] [(.int (0 : Int32)), (.ref b93), (.int (0 : Int32)), (.ref b93)])) rfl rfl (hb hby own_d1_51)) ?_
  show Good p e below _ (T93.setTop (mkF m 52 #[.val (.ref r0), .val (.ref b43), .val (.ref r0), .val (.int (3 : Int32)), .val (.int (2 : Int32)), .val (.double (own_R 1 x2)), .second, .val (.ref b93), .val (.int (0 : Int32))] [(.double (FP.l2d 0)), (.int (0 : Int32)), (.ref b93)]))
  refine Good.back (fun _ k => XS.aloadN X93.here hx rfl (hb hby own_d1_52) rfl rfl k) ?_
  show Good p e below _ (T93.setTop (mkF m 53 #[.val (.ref r0), .val (.ref b43), .val (.ref r0), .val (.int (3 : Int32)), .val (.int (2 : Int32)), .val (.double (own_R 1 x2)), .second, .val (.ref b93), .val (.int (0 : Int32))] [(.ref b43), (.double (FP.l2d 0)), (.int (0 : Int32)), (.ref b93)]))
  refine Good.back (fun _ k => XS.iload X93.here hx rfl (hb hby own_d1_53) rfl k) ?_
  show Good p e below _ (T93.setTop (mkF m 55 #[.val (.ref r0), .val (.ref b43), .val (.ref r0), .val (.int (3 : Int32)), .val (.int (2 : Int32)), .val (.double (own_R 1 x2)), .second, .val (.ref b93), .val (.int (0 : Int32))] [(.int (0 : Int32)), (.ref b43), (.double (FP.l2d 0)), (.int (0 : Int32)), (.ref b93)]))
  have fc100 := f_97
  obtain ⟨cl100, Ar100, qk100, S100, N100', H100, G100⟩ := fc100
  have hin100 : ¬ ((0 : Int32) < 0 ∨ cl100.slots.size ≤ ((0 : Int32)).toNatClampNeg) := inb_of S100 ⟨by decide, by decide⟩
  have hat100 : cl100.slots[((0 : Int32)).toNatClampNeg]? = some (.double (own_R 2 ((16 - x0) * (16 - x1)))) := Has.at H100 hin100 rfl
  refine Good.back (X93.daload hx (j := (0 : Int32)) (v := (.double (own_R 2 ((16 - x0) * (16 - x1))))) (by rw [e93]; exact Ar100.1) (State.isArrayOf_alike hZ.alike Ar100.2.1) Ar100.2.2 hin100 hat100 (g := (mkF m 55 #[.val (.ref r0), .val (.ref b43), .val (.ref r0), .val (.int (3 : Int32)), .val (.int (2 : Int32)), .val (.double (own_R 1 x2)), .second, .val (.ref b93), .val (.int (0 : Int32))] [(.int (0 : Int32)), (.ref b43), (.double (FP.l2d 0)), (.int (0 : Int32)), (.ref b93)])) rfl rfl (hb hby own_d1_55)) ?_
  show Good p e below _ (T93.setTop (mkF m 56 #[.val (.ref r0), .val (.ref b43), .val (.ref r0), .val (.int (3 : Int32)), .val (.int (2 : Int32)), .val (.double (own_R 1 x2)), .second, .val (.ref b93), .val (.int (0 : Int32))] [(.double (own_R 2 ((16 - x0) * (16 - x1)))), (.double (FP.l2d 0)), (.int (0 : Int32)), (.ref b93)]))
  refine Good.back (fun _ k => XS.dconst1 X93.here hx rfl (hb hby own_d1_56) (v := (FP.l2d (1 : Int64))) (by decide +kernel) k) ?_
  show Good p e below _ (T93.setTop (mkF m 57 #[.val (.ref r0), .val (.ref b43), .val (.ref r0), .val (.int (3 : Int32)), .val (.int (2 : Int32)), .val (.double (own_R 1 x2)), .second, .val (.ref b93), .val (.int (0 : Int32))] [(.double (FP.l2d (1 : Int64))), (.double (own_R 2 ((16 - x0) * (16 - x1)))), (.double (FP.l2d 0)), (.int (0 : Int32)), (.ref b93)]))
  refine Good.back (fun _ k => XS.dload X93.here hx rfl (hb hby own_d1_57) rfl k) ?_
  show Good p e below _ (T93.setTop (mkF m 59 #[.val (.ref r0), .val (.ref b43), .val (.ref r0), .val (.int (3 : Int32)), .val (.int (2 : Int32)), .val (.double (own_R 1 x2)), .second, .val (.ref b93), .val (.int (0 : Int32))] [(.double (own_R 1 x2)), (.double (FP.l2d (1 : Int64))), (.double (own_R 2 ((16 - x0) * (16 - x1)))), (.double (FP.l2d 0)), (.int (0 : Int32)), (.ref b93)]))
  refine Good.back (fun _ k => XS.dsubS X93.here hx rfl (hb hby own_d1_59) rfl (own_Rsub hx2 ▸ own_Rnn (Nat.lt_of_le_of_lt (Nat.sub_le 16 x2) (by decide))) (own_Rsub hx2) k) ?_
  show Good p e below _ (T93.setTop (mkF m 60 #[.val (.ref r0), .val (.ref b43), .val (.ref r0), .val (.int (3 : Int32)), .val (.int (2 : Int32)), .val (.double (own_R 1 x2)), .second, .val (.ref b93), .val (.int (0 : Int32))] [(.double (own_R 1 (16 - x2))), (.double (own_R 2 ((16 - x0) * (16 - x1)))), (.double (FP.l2d 0)), (.int (0 : Int32)), (.ref b93)]))
  have hb101 := Nat.mul_le_mul hb51 (Nat.sub_le 16 x2)
  refine Good.back (fun _ k => XS.dmulS X93.here hx rfl (hb hby own_d1_60) rfl ((own_Rmul (d := 2) (f := 1) (by decide) (Nat.lt_of_le_of_lt hb51 (by decide)) (Nat.lt_of_le_of_lt (Nat.sub_le 16 x2) (by decide))).symm ▸ own_Rnn (Nat.lt_of_le_of_lt hb101 (by decide))) (own_Rmul (d := 2) (f := 1) (by decide) (Nat.lt_of_le_of_lt hb51 (by decide)) (Nat.lt_of_le_of_lt (Nat.sub_le 16 x2) (by decide))) k) ?_
  show Good p e below _ (T93.setTop (mkF m 61 #[.val (.ref r0), .val (.ref b43), .val (.ref r0), .val (.int (3 : Int32)), .val (.int (2 : Int32)), .val (.double (own_R 1 x2)), .second, .val (.ref b93), .val (.int (0 : Int32))] [(.double (own_R 3 (((16 - x0) * (16 - x1)) * (16 - x2)))), (.double (FP.l2d 0)), (.int (0 : Int32)), (.ref b93)]))
  refine Good.back (fun _ k => XS.daddS X93.here hx rfl (hb hby own_d1_61) rfl ((own_Radd0 (Nat.lt_of_le_of_lt hb101 (by decide))).symm ▸ own_Rnn (Nat.lt_of_le_of_lt hb101 (by decide))) (own_Radd0 (Nat.lt_of_le_of_lt hb101 (by decide))) k) ?_
  show Good p e below _ (T93.setTop (mkF m 62 #[.val (.ref r0), .val (.ref b43), .val (.ref r0), .val (.int (3 : Int32)), .val (.int (2 : Int32)), .val (.double (own_R 1 x2)), .second, .val (.ref b93), .val (.int (0 : Int32))] [(.double (own_R 3 (((16 - x0) * (16 - x1)) * (16 - x2)))), (.int (0 : Int32)), (.ref b93)]))
  have fc102 := f_96
  obtain ⟨cl102, Ar102, qk102, S102, N102', H102, G102⟩ := fc102
  have hin102 : ¬ ((0 : Int32) < 0 ∨ cl102.slots.size ≤ ((0 : Int32)).toNatClampNeg) := inb_of S102 ⟨by decide, by decide⟩
  obtain ⟨T102, h102, X102, e102, W102, st102⟩ := stD X93 hx hZ e93 Ar102 (j := (0 : Int32)) hin102 (g := (mkF m 62 #[.val (.ref r0), .val (.ref b43), .val (.ref r0), .val (.int (3 : Int32)), .val (.int (2 : Int32)), .val (.double (own_R 1 x2)), .second, .val (.ref b93), .val (.int (0 : Int32))] [(.double (own_R 3 (((16 - x0) * (16 - x1)) * (16 - x2)))), (.int (0 : Int32)), (.ref b93)])) rfl rfl (hb hby own_d1_62)
  refine Good.back st102 ?_
  have f_103 : Arv Z h102 b93 k93 .double (4 : Int32) [(.double (own_R 3 (((16 - x0) * (16 - x1)) * (16 - x2)))), (.double (FP.l2d 0)), (.double (FP.l2d 0)), (.double (FP.l2d 0))] (.double (FP.l2d 0)) := Arv.set Ar102 qk102 S102 N102' H102 G102 rfl W102 0 rfl (Nat.le_of_ble_eq_true rfl)
  have N102 := Fr.snoc X102 N79 g_b93
  have Z104 : n0 ≤ h102.size := Nat.le_trans Z94 (Keep.of_wr W102).1
  have K105 : Keep h0 h102 [] := K95.wr W102 (Or.inr sz_b93)
  show Good p e below _ (T102.setTop (mkF m 63 #[.val (.ref r0), .val (.ref b43), .val (.ref r0), .val (.int (3 : Int32)), .val (.int (2 : Int32)), .val (.double (own_R 1 x2)), .second, .val (.ref b93), .val (.int (0 : Int32))] []))
  refine Good.back (fun _ k => XS.aload X102.here hx rfl (hb hby own_d1_63) rfl rfl k) ?_
  show Good p e below _ (T102.setTop (mkF m 65 #[.val (.ref r0), .val (.ref b43), .val (.ref r0), .val (.int (3 : Int32)), .val (.int (2 : Int32)), .val (.double (own_R 1 x2)), .second, .val (.ref b93), .val (.int (0 : Int32))] [(.ref b93)]))
  refine Good.back (fun _ k => XS.iload X102.here hx rfl (hb hby own_d1_65) rfl k) ?_
  show Good p e below _ (T102.setTop (mkF m 67 #[.val (.ref r0), .val (.ref b43), .val (.ref r0), .val (.int (3 : Int32)), .val (.int (2 : Int32)), .val (.double (own_R 1 x2)), .second, .val (.ref b93), .val (.int (0 : Int32))] [(.int (0 : Int32)), (.ref b93)]))
  refine Good.back (fun _ k => XS.iconst X102.here hx rfl (hb hby own_d1_67) k) ?_
  show Good p e below _ (T102.setTop (mkF m 68 #[.val (.ref r0), .val (.ref b43), .val (.ref r0), .val (.int (3 : Int32)), .val (.int (2 : Int32)), .val (.double (own_R 1 x2)), .second, .val (.ref b93), .val (.int (0 : Int32))] [(.int (1 : Int32)), (.int (0 : Int32)), (.ref b93)]))
  refine Good.back (fun _ k => XS.iadd X102.here hx rfl (hb hby own_d1_68) rfl k) ?_
  show Good p e below _ (T102.setTop (mkF m 69 #[.val (.ref r0), .val (.ref b43), .val (.ref r0), .val (.int (3 : Int32)), .val (.int (2 : Int32)), .val (.double (own_R 1 x2)), .second, .val (.ref b93), .val (.int (0 : Int32))] [(.int ((0 : Int32) + (1 : Int32))), (.ref b93)]))
  rw [show (((0 : Int32) + (1 : Int32)) : Int32) = (1 : Int32) from by decide]
  show Good p e below _ (T102.setTop (mkF m 69 #[.val (.ref r0), .val (.ref b43), .val (.ref r0), .val (.int (3 : Int32)), .val (.int (2 : Int32)), .val (.double (own_R 1 x2)), .second, .val (.ref b93), .val (.int (0 : Int32))] [(.int (1 : Int32)), (.ref b93)]))
  refine Good.back (fun _ k => Jvm.Free.XT.dup2 X102.here hx rfl (hb hby own_d1_69) rfl rfl rfl k) ?_
  show Good p e below _ (T102.setTop (mkF m 70 #[.val (.ref r0), .val (.ref b43), .val (.ref r0), .val (.int (3 : Int32)), .val (.int (2 : Int32)), .val (.double (own_R 1 x2)), .second, .val (.ref b93), .val (.int (0 : Int32))] [(.int (1 : Int32)), (.ref b93), (.int (1 : Int32)), (.ref b93)]))
  have fc106 := f_103
  obtain ⟨cl106, Ar106, qk106, S106, N106', H106, G106⟩ := fc106
  have hin106 : ¬ ((1 : Int32) < 0 ∨ cl106.slots.size ≤ ((1 : Int32)).toNatClampNeg) := inb_of S106 ⟨by decide, by decide⟩
  have hat106 : cl106.slots[((1 : Int32)).toNatClampNeg]? = some (.double (FP.l2d 0)) := Has.at H106 hin106 rfl
  refine Good.back (X102.daload hx (j := (1 : Int32)) (v := (.double (FP.l2d 0))) (by rw [e102]; exact Ar106.1) (State.isArrayOf_alike hZ.alike Ar106.2.1) Ar106.2.2 hin106 hat106 (g := (mkF m 70 #[.val (.ref r0), .val (.ref b43), .val (.ref r0), .val (.int (3 : Int32)), .val (.int (2 : Int32)), .val (.double (own_R 1 x2)), .second, .val (.ref b93), .val (.int (0 : Int32))] [(.int (1 : Int32)), (.ref b93), (.int (1 : Int32)), (.ref b93)])) rfl rfl (hb hby own_d1_70)) ?_
  show Good p e below _ (T102.setTop (mkF m 71 #[.val (.ref r0), .val (.ref b43), .val (.ref r0), .val (.int (3 : Int32)), .val (.int (2 : Int32)), .val (.double (own_R 1 x2)), .second, .val (.ref b93), .val (.int (0 : Int32))] [(.double (FP.l2d 0)), (.int (1 : Int32)), (.ref b93)]))
  refine Good.back (fun _ k => XS.aloadN X102.here hx rfl (hb hby own_d1_71) rfl rfl k) ?_
  show Good p e below _ (T102.setTop (mkF m 72 #[.val (.ref r0), .val (.ref b43), .val (.ref r0), .val (.int (3 : Int32)), .val (.int (2 : Int32)), .val (.double (own_R 1 x2)), .second, .val (.ref b93), .val (.int (0 : Int32))] [(.ref b43), (.double (FP.l2d 0)), (.int (1 : Int32)), (.ref b93)]))
  refine Good.back (fun _ k => XS.iload X102.here hx rfl (hb hby own_d1_72) rfl k) ?_
  show Good p e below _ (T102.setTop (mkF m 74 #[.val (.ref r0), .val (.ref b43), .val (.ref r0), .val (.int (3 : Int32)), .val (.int (2 : Int32)), .val (.double (own_R 1 x2)), .second, .val (.ref b93), .val (.int (0 : Int32))] [(.int (0 : Int32)), (.ref b43), (.double (FP.l2d 0)), (.int (1 : Int32)), (.ref b93)]))
  have ne_b43_b93_108 : b43 ≠ b93 := Nat.ne_of_lt (Nat.lt_of_lt_of_le f_80.lt (Nat.le_of_eq g93.symm))
  have f_107 : Arv Z h102 b43 k43 .double (3 : Int32) [(.double (own_R 2 ((16 - x0) * (16 - x1)))), (.double (own_R 2 (((16 - x0) * x1) + (x0 * (16 - x1))))), (.double (own_R 2 (x0 * x1)))] (.double (FP.l2d 0)) := Arv.other f_97 W102 ne_b43_b93_108
  have fc109 := f_107
  obtain ⟨cl109, Ar109, qk109, S109, N109', H109, G109⟩ := fc109
  have hin109 : ¬ ((0 : Int32) < 0 ∨ cl109.slots.size ≤ ((0 : Int32)).toNatClampNeg) := inb_of S109 ⟨by decide, by decide⟩
  have hat109 : cl109.slots[((0 : Int32)).toNatClampNeg]? = some (.double (own_R 2 ((16 - x0) * (16 - x1)))) := Has.at H109 hin109 rfl
  refine Good.back (X102.daload hx (j := (0 : Int32)) (v := (.double (own_R 2 ((16 - x0) * (16 - x1))))) (by rw [e102]; exact Ar109.1) (State.isArrayOf_alike hZ.alike Ar109.2.1) Ar109.2.2 hin109 hat109 (g := (mkF m 74 #[.val (.ref r0), .val (.ref b43), .val (.ref r0), .val (.int (3 : Int32)), .val (.int (2 : Int32)), .val (.double (own_R 1 x2)), .second, .val (.ref b93), .val (.int (0 : Int32))] [(.int (0 : Int32)), (.ref b43), (.double (FP.l2d 0)), (.int (1 : Int32)), (.ref b93)])) rfl rfl (hb hby own_d1_74)) ?_
  show Good p e below _ (T102.setTop (mkF m 75 #[.val (.ref r0), .val (.ref b43), .val (.ref r0), .val (.int (3 : Int32)), .val (.int (2 : Int32)), .val (.double (own_R 1 x2)), .second, .val (.ref b93), .val (.int (0 : Int32))] [(.double (own_R 2 ((16 - x0) * (16 - x1)))), (.double (FP.l2d 0)), (.int (1 : Int32)), (.ref b93)]))
  refine Good.back (fun _ k => XS.dload X102.here hx rfl (hb hby own_d1_75) rfl k) ?_
  show Good p e below _ (T102.setTop (mkF m 77 #[.val (.ref r0), .val (.ref b43), .val (.ref r0), .val (.int (3 : Int32)), .val (.int (2 : Int32)), .val (.double (own_R 1 x2)), .second, .val (.ref b93), .val (.int (0 : Int32))] [(.double (own_R 1 x2)), (.double (own_R 2 ((16 - x0) * (16 - x1)))), (.double (FP.l2d 0)), (.int (1 : Int32)), (.ref b93)]))
  have hb110 := Nat.mul_le_mul hb51 hx2
  refine Good.back (fun _ k => XS.dmulS X102.here hx rfl (hb hby own_d1_77) rfl ((own_Rmul (d := 2) (f := 1) (by decide) (Nat.lt_of_le_of_lt hb51 (by decide)) (Nat.lt_of_le_of_lt hx2 (by decide))).symm ▸ own_Rnn (Nat.lt_of_le_of_lt hb110 (by decide))) (own_Rmul (d := 2) (f := 1) (by decide) (Nat.lt_of_le_of_lt hb51 (by decide)) (Nat.lt_of_le_of_lt hx2 (by decide))) k) ?_
  show Good p e below _ (T102.setTop (mkF m 78 #[.val (.ref r0), .val (.ref b43), .val (.ref r0), .val (.int (3 : Int32)), .val (.int (2 : Int32)), .val (.double (own_R 1 x2)), .second, .val (.ref b93), .val (.int (0 : Int32))] [(.double (own_R 3 (((16 - x0) * (16 - x1)) * x2))), (.double (FP.l2d 0)), (.int (1 : Int32)), (.ref b93)]))
  refine Good.back (fun _ k => XS.daddS X102.here hx rfl (hb hby own_d1_78) rfl ((own_Radd0 (Nat.lt_of_le_of_lt hb110 (by decide))).symm ▸ own_Rnn (Nat.lt_of_le_of_lt hb110 (by decide))) (own_Radd0 (Nat.lt_of_le_of_lt hb110 (by decide))) k) ?_
  show Good p e below _ (T102.setTop (mkF m 79 #[.val (.ref r0), .val (.ref b43), .val (.ref r0), .val (.int (3 : Int32)), .val (.int (2 : Int32)), .val (.double (own_R 1 x2)), .second, .val (.ref b93), .val (.int (0 : Int32))] [(.double (own_R 3 (((16 - x0) * (16 - x1)) * x2))), (.int (1 : Int32)), (.ref b93)]))
  have fc111 := f_103
  obtain ⟨cl111, Ar111, qk111, S111, N111', H111, G111⟩ := fc111
  have hin111 : ¬ ((1 : Int32) < 0 ∨ cl111.slots.size ≤ ((1 : Int32)).toNatClampNeg) := inb_of S111 ⟨by decide, by decide⟩
  obtain ⟨T111, h111, X111, e111, W111, st111⟩ := stD X102 hx hZ e102 Ar111 (j := (1 : Int32)) hin111 (g := (mkF m 79 #[.val (.ref r0), .val (.ref b43), .val (.ref r0), .val (.int (3 : Int32)), .val (.int (2 : Int32)), .val (.double (own_R 1 x2)), .second, .val (.ref b93), .val (.int (0 : Int32))] [(.double (own_R 3 (((16 - x0) * (16 - x1)) * x2))), (.int (1 : Int32)), (.ref b93)])) rfl rfl (hb hby own_d1_79)
  refine Good.back st111 ?_
  have f_112 : Arv Z h111 b93 k93 .double (4 : Int32) [(.double (own_R 3 (((16 - x0) * (16 - x1)) * (16 - x2)))), (.double (own_R 3 (((16 - x0) * (16 - x1)) * x2))), (.double (FP.l2d 0)), (.double (FP.l2d 0))] (.double (FP.l2d 0)) := Arv.set Ar111 qk111 S111 N111' H111 G111 rfl W111 1 rfl (Nat.le_of_ble_eq_true rfl)
  have N111 := Fr.snoc X111 N102 g_b93
  have Z113 : n0 ≤ h111.size := Nat.le_trans Z104 (Keep.of_wr W111).1
  have K114 : Keep h0 h111 [] := K105.wr W111 (Or.inr sz_b93)
  show Good p e below _ (T111.setTop (mkF m 80 #[.val (.ref r0), .val (.ref b43), .val (.ref r0), .val (.int (3 : Int32)), .val (.int (2 : Int32)), .val (.double (own_R 1 x2)), .second, .val (.ref b93), .val (.int (0 : Int32))] []))
  refine Good.back (fun _ k => XS.iinc X111.here hx rfl (hb hby own_d1_80) rfl (l' := #[.val (.ref r0), .val (.ref b43), .val (.ref r0), .val (.int (3 : Int32)), .val (.int (2 : Int32)), .val (.double (own_R 1 x2)), .second, .val (.ref b93), .val (.int ((0 : Int32) + (1 : Int32)))]) rfl k) ?_
  show Good p e below _ (T111.setTop (mkF m 83 #[.val (.ref r0), .val (.ref b43), .val (.ref r0), .val (.int (3 : Int32)), .val (.int (2 : Int32)), .val (.double (own_R 1 x2)), .second, .val (.ref b93), .val (.int ((0 : Int32) + (1 : Int32)))] []))
  rw [show (((0 : Int32) + (1 : Int32)) : Int32) = (1 : Int32) from by decide]
  show Good p e below _ (T111.setTop (mkF m 83 #[.val (.ref r0), .val (.ref b43), .val (.ref r0), .val (.int (3 : Int32)), .val (.int (2 : Int32)), .val (.double (own_R 1 x2)), .second, .val (.ref b93), .val (.int (1 : Int32))] []))
  refine Good.back (fun _ k => XS.goto X111.here hx rfl (pc0 := 83) (pc' := 39) rfl (hb hby own_d1_83) (by decide) (by decide) k) ?_
  show Good p e below _ (T111.setTop (mkF m 39 #[.val (.ref r0), .val (.ref b43), .val (.ref r0), .val (.int (3 : Int32)), .val (.int (2 : Int32)), .val (.double (own_R 1 x2)), .second, .val (.ref b93), .val (.int (1 : Int32))] []))
  refine Good.back (fun _ k => XS.iload X111.here hx rfl (hb hby own_d1_39) rfl k) ?_
  show Good p e below _ (T111.setTop (mkF m 41 #[.val (.ref r0), .val (.ref b43), .val (.ref r0), .val (.int (3 : Int32)), .val (.int (2 : Int32)), .val (.double (own_R 1 x2)), .second, .val (.ref b93), .val (.int (1 : Int32))] [(.int (1 : Int32))]))
  refine Good.back (fun _ k => XS.aloadN X111.here hx rfl (hb hby own_d1_41) rfl rfl k) ?_
  show Good p e below _ (T111.setTop (mkF m 42 #[.val (.ref r0), .val (.ref b43), .val (.ref r0), .val (.int (3 : Int32)), .val (.int (2 : Int32)), .val (.double (own_R 1 x2)), .second, .val (.ref b93), .val (.int (1 : Int32))] [(.ref b43), (.int (1 : Int32))]))
  have f_115 : Arv Z h111 b43 k43 .double (3 : Int32) [(.double (own_R 2 ((16 - x0) * (16 - x1)))), (.double (own_R 2 (((16 - x0) * x1) + (x0 * (16 - x1))))), (.double (own_R 2 (x0 * x1)))] (.double (FP.l2d 0)) := Arv.other f_107 W111 ne_b43_b93_108
  have fc116 := f_115
  obtain ⟨cl116, Ar116, qk116, S116, N116', H116, G116⟩ := fc116
  refine Good.back (X111.arraylength hx (by rw [e111]; exact Ar116.1) (State.isArrayOf_alike hZ.alike Ar116.2.1) (g := (mkF m 42 #[.val (.ref r0), .val (.ref b43), .val (.ref r0), .val (.int (3 : Int32)), .val (.int (2 : Int32)), .val (.double (own_R 1 x2)), .second, .val (.ref b93), .val (.int (1 : Int32))] [(.ref b43), (.int (1 : Int32))])) rfl rfl (hb hby own_d1_42)) ?_
  rw [len_of S116 N116']
  show Good p e below _ (T111.setTop (mkF m 43 #[.val (.ref r0), .val (.ref b43), .val (.ref r0), .val (.int (3 : Int32)), .val (.int (2 : Int32)), .val (.double (own_R 1 x2)), .second, .val (.ref b93), .val (.int (1 : Int32))] [(.int (3 : Int32)), (.int (1 : Int32))]))
  refine Good.back (fun _ k => XS.icmpNo X111.here hx rfl (hb hby own_d1_43) rfl (tlt (by decide : ((1 : Int32) < (3 : Int32)))).2.1 k) ?_
  show Good p e below _ (T111.setTop (mkF m 46 #[.val (.ref r0), .val (.ref b43), .val (.ref r0), .val (.int (3 : Int32)), .val (.int (2 : Int32)), .val (.double (own_R 1 x2)), .second, .val (.ref b93), .val (.int (1 : Int32))] []))
  refine Good.back (fun _ k => XS.aload X111.here hx rfl (hb hby own_d1_46) rfl rfl k) ?_
  show Good p e below _ (T111.setTop (mkF m 48 #[.val (.ref r0), .val (.ref b43), .val (.ref r0), .val (.int (3 : Int32)), .val (.int (2 : Int32)), .val (.double (own_R 1 x2)), .second, .val (.ref b93), .val (.int (1 : Int32))] [(.ref b93)]))
  refine Good.back (fun _ k => XS.iload X111.here hx rfl (hb hby own_d1_48) rfl k) ?_
  show Good p e below _ (T111.setTop (mkF m 50 #[.val (.ref r0), .val (.ref b43), .val (.ref r0), .val (.int (3 : Int32)), .val (.int (2 : Int32)), .val (.double (own_R 1 x2)), .second, .val (.ref b93), .val (.int (1 : Int32))] [(.int (1 : Int32)), (.ref b93)]))
  refine Good.back (fun _ k => Jvm.Free.XT.dup2 X111.here hx rfl (hb hby own_d1_50) rfl rfl rfl k) ?_
  show Good p e below _ (T111.setTop (mkF m 51 #[.val (.ref r0), .val (.ref b43), .val (.ref r0), .val (.int (3 : Int32)), .val (.int (2 : Int32)), .val (.double (own_R 1 x2)), .second, .val (.ref b93), .val (.int (1 : Int32))] [(.int (1 : Int32)), (.ref b93), (.int (1 : Int32)), (.ref b93)]))
  have fc117 := f_112
  obtain ⟨cl117, Ar117, qk117, S117, N117', H117, G117⟩ := fc117
  have hin117 : ¬ ((1 : Int32) < 0 ∨ cl117.slots.size ≤ ((1 : Int32)).toNatClampNeg) := inb_of S117 ⟨by decide, by decide⟩
  have hat117 : cl117.slots[((1 : Int32)).toNatClampNeg]? = some (.double (own_R 3 (((16 - x0) * (16 - x1)) * x2))) := Has.at H117 hin117 rfl
  refine Good.back (X111.daload hx (j := (1 : Int32)) (v := (.double (own_R 3 (((16 - x0) * (16 - x1)) * x2)))) (by rw [e111]; exact Ar117.1) (State.isArrayOf_alike hZ.alike Ar117.2.1) Ar117.2.2 hin117 hat117 (g := (mkF m 51 #[.val (.ref r0), .val (.ref b43), .val (.ref r0), .val (.int (3 : Int32)), .val (.int (2 : Int32)), .val (.double (own_R 1 x2)), .second, .val (.ref b93), .val (.int (1 : Int32))] [(.int (1 : Int32)), (.ref b93), (.int (1 : Int32)), (.ref b93)])) rfl rfl (hb hby own_d1_51)) ?_
  show Good p e below _ (T111.setTop (mkF m 52 #[.val (.ref r0), .val (.ref b43), .val (.ref r0), .val (.int (3 : Int32)), .val (.int (2 : Int32)), .val (.double (own_R 1 x2)), .second, .val (.ref b93), .val (.int (1 : Int32))] [(.double (own_R 3 (((16 - x0) * (16 - x1)) * x2))), (.int (1 : Int32)), (.ref b93)]))
  refine Good.back (fun _ k => XS.aloadN X111.here hx rfl (hb hby own_d1_52) rfl rfl k) ?_
  show Good p e below _ (T111.setTop (mkF m 53 #[.val (.ref r0), .val (.ref b43), .val (.ref r0), .val (.int (3 : Int32)), .val (.int (2 : Int32)), .val (.double (own_R 1 x2)), .second, .val (.ref b93), .val (.int (1 : Int32))] [(.ref b43), (.double (own_R 3 (((16 - x0) * (16 - x1)) * x2))), (.int (1 : Int32)), (.ref b93)]))
  refine Good.back (fun _ k => XS.iload X111.here hx rfl (hb hby own_d1_53) rfl k) ?_
  show Good p e below _ (T111.setTop (mkF m 55 #[.val (.ref r0), .val (.ref b43), .val (.ref r0), .val (.int (3 : Int32)), .val (.int (2 : Int32)), .val (.double (own_R 1 x2)), .second, .val (.ref b93), .val (.int (1 : Int32))] [(.int (1 : Int32)), (.ref b43), (.double (own_R 3 (((16 - x0) * (16 - x1)) * x2))), (.int (1 : Int32)), (.ref b93)]))
  have fc118 := f_115
  obtain ⟨cl118, Ar118, qk118, S118, N118', H118, G118⟩ := fc118
  have hin118 : ¬ ((1 : Int32) < 0 ∨ cl118.slots.size ≤ ((1 : Int32)).toNatClampNeg) := inb_of S118 ⟨by decide, by decide⟩
  have hat118 : cl118.slots[((1 : Int32)).toNatClampNeg]? = some (.double (own_R 2 (((16 - x0) * x1) + (x0 * (16 - x1))))) := Has.at H118 hin118 rfl
  refine Good.back (X111.daload hx (j := (1 : Int32)) (v := (.double (own_R 2 (((16 - x0) * x1) + (x0 * (16 - x1)))))) (by rw [e111]; exact Ar118.1) (State.isArrayOf_alike hZ.alike Ar118.2.1) Ar118.2.2 hin118 hat118 (g := (mkF m 55 #[.val (.ref r0), .val (.ref b43), .val (.ref r0), .val (.int (3 : Int32)), .val (.int (2 : Int32)), .val (.double (own_R 1 x2)), .second, .val (.ref b93), .val (.int (1 : Int32))] [(.int (1 : Int32)), (.ref b43), (.double (own_R 3 (((16 - x0) * (16 - x1)) * x2))), (.int (1 : Int32)), (.ref b93)])) rfl rfl (hb hby own_d1_55)) ?_
  show Good p e below _ (T111.setTop (mkF m 56 #[.val (.ref r0), .val (.ref b43), .val (.ref r0), .val (.int (3 : Int32)), .val (.int (2 : Int32)), .val (.double (own_R 1 x2)), .second, .val (.ref b93), .val (.int (1 : Int32))] [(.double (own_R 2 (((16 - x0) * x1) + (x0 * (16 - x1))))), (.double (own_R 3 (((16 - x0) * (16 - x1)) * x2))), (.int (1 : Int32)), (.ref b93)]))
  refine Good.back (fun _ k => XS.dconst1 X111.here hx rfl (hb hby own_d1_56) (v := (FP.l2d (1 : Int64))) (by decide +kernel) k) ?_
  show Good p e below _ (T111.setTop (mkF m 57 #[.val (.ref r0), .val (.ref b43), .val (.ref r0), .val (.int (3 : Int32)), .val (.int (2 : Int32)), .val (.double (own_R 1 x2)), .second, .val (.ref b93), .val (.int (1 : Int32))] [(.double (FP.l2d (1 : Int64))), (.double (own_R 2 (((16 - x0) * x1) + (x0 * (16 - x1))))), (.double (own_R 3 (((16 - x0) * (16 - x1)) * x2))), (.int (1 : Int32)), (.ref b93)]))
  refine Good.back (fun _ k => XS.dload X111.here hx rfl (hb hby own_d1_57) rfl k) ?_
  show Good p e below _ (T111.setTop (mkF m 59 #[.val (.ref r0), .val (.ref b43), .val (.ref r0), .val (.int (3 : Int32)), .val (.int (2 : Int32)), .val (.double (own_R 1 x2)), .second, .val (.ref b93), .val (.int (1 : Int32))] [(.double (own_R 1 x2)), (.double (FP.l2d (1 : Int64))), (.double (own_R 2 (((16 - x0) * x1) + (x0 * (16 - x1))))), (.double (own_R 3 (((16 - x0) * (16 - x1)) * x2))), (.int (1 : Int32)), (.ref b93)]))
  refine Good.back (fun _ k => XS.dsubS X111.here hx rfl (hb hby own_d1_59) rfl (own_Rsub hx2 ▸ own_Rnn (Nat.lt_of_le_of_lt (Nat.sub_le 16 x2) (by decide))) (own_Rsub hx2) k) ?_
  show Good p e below _ (T111.setTop (mkF m 60 #[.val (.ref r0), .val (.ref b43), .val (.ref r0), .val (.int (3 : Int32)), .val (.int (2 : Int32)), .val (.double (own_R 1 x2)), .second, .val (.ref b93), .val (.int (1 : Int32))] [(.double (own_R 1 (16 - x2))), (.double (own_R 2 (((16 - x0) * x1) + (x0 * (16 - x1))))), (.double (own_R 3 (((16 - x0) * (16 - x1)) * x2))), (.int (1 : Int32)), (.ref b93)]))
  have hb119 := Nat.mul_le_mul hb70 (Nat.sub_le 16 x2)
  refine Good.back (fun _ k => XS.dmulS X111.here hx rfl (hb hby own_d1_60) rfl ((own_Rmul (d := 2) (f := 1) (by decide) (Nat.lt_of_le_of_lt hb70 (by decide)) (Nat.lt_of_le_of_lt (Nat.sub_le 16 x2) (by decide))).symm ▸ own_Rnn (Nat.lt_of_le_of_lt hb119 (by decide))) (own_Rmul (d := 2) (f := 1) (by decide) (Nat.lt_of_le_of_lt hb70 (by decide)) (Nat.lt_of_le_of_lt (Nat.sub_le 16 x2) (by decide))) k) ?_
  show Good p e below _ (T111.setTop (mkF m 61 #[.val (.ref r0), .val (.ref b43), .val (.ref r0), .val (.int (3 : Int32)), .val (.int (2 : Int32)), .val (.double (own_R 1 x2)), .second, .val (.ref b93), .val (.int (1 : Int32))] [(.double (own_R 3 ((((16 - x0) * x1) + (x0 * (16 - x1))) * (16 - x2)))), (.double (own_R 3 (((16 - x0) * (16 - x1)) * x2))), (.int (1 : Int32)), (.ref b93)]))
  have hb120 := Nat.add_le_add hb110 hb119
  refine Good.back (fun _ k => XS.daddS X111.here hx rfl (hb hby own_d1_61) rfl ((own_Radd (Nat.lt_of_le_of_lt hb110 (by decide)) (Nat.lt_of_le_of_lt hb119 (by decide))).symm ▸ own_Rnn (Nat.lt_of_le_of_lt hb120 (by decide))) (own_Radd (Nat.lt_of_le_of_lt hb110 (by decide)) (Nat.lt_of_le_of_lt hb119 (by decide))) k) ?_
  show Good p e below _ (T111.setTop (mkF m 62 #[.val (.ref r0), .val (.ref b43), .val (.ref r0), .val (.int (3 : Int32)), .val (.int (2 : Int32)), .val (.double (own_R 1 x2)), .second, .val (.ref b93), .val (.int (1 : Int32))] [(.double (own_R 3 ((((16 - x0) * (16 - x1)) * x2) + ((((16 - x0) * x1) + (x0 * (16 - x1))) * (16 - x2))))), (.int (1 : Int32)), (.ref b93)]))
  have fc121 := f_112
  obtain ⟨cl121, Ar121, qk121, S121, N121', H121, G121⟩ := fc121
  have hin121 : ¬ ((1 : Int32) < 0 ∨ cl121.slots.size ≤ ((1 : Int32)).toNatClampNeg) := inb_of S121 ⟨by decide, by decide⟩
  obtain ⟨T121, h121, X121, e121, W121, st121⟩ := stD X111 hx hZ e111 Ar121 (j := (1 : Int32)) hin121 (g := (mkF m 62 #[.val (.ref r0), .val (.ref b43), .val (.ref r0), .val (.int (3 : Int32)), .val (.int (2 : Int32)), .val (.double (own_R 1 x2)), .second, .val (.ref b93), .val (.int (1 : Int32))] [(.double (own_R 3 ((((16 - x0) * (16 - x1)) * x2) + ((((16 - x0) * x1) + (x0 * (16 - x1))) * (16 - x2))))), (.int (1 : Int32)), (.ref b93)])) rfl rfl (hb hby own_d1_62)
  refine Good.back st121 ?_
  have f_122 : Arv Z h121 b93 k93 .double (4 : Int32) [(.double (own_R 3 (((16 - x0) * (16 - x1)) * (16 - x2)))), (.double (own_R 3 ((((16 - x0) * (16 - x1)) * x2) + ((((16 - x0) * x1) + (x0 * (16 - x1))) * (16 - x2))))), (.double (FP.l2d 0)), (.double (FP.l2d 0))] (.double (FP.l2d 0)) := Arv.set Ar121 qk121 S121 N121' H121 G121 rfl W121 1 rfl (Nat.le_of_ble_eq_true rfl)
  have N121 := Fr.snoc X121 N111 g_b93
  have Z123 : n0 ≤ h121.size := Nat.le_trans Z113 (Keep.of_wr W121).1
  have K124 : Keep h0 h121 [] := K114.wr W121 (Or.inr sz_b93)
  show Good p e below _ (T121.setTop (mkF m 63 #[.val (.ref r0), .val (.ref b43), .val (.ref r0), .val (.int (3 : Int32)), .val (.int (2 : Int32)), .val (.double (own_R 1 x2)), .second, .val (.ref b93), .val (.int (1 : Int32))] []))
  refine Good.back (fun _ k => XS.aload X121.here hx rfl (hb hby own_d1_63) rfl rfl k) ?_
  show Good p e below _ (T121.setTop (mkF m 65 #[.val (.ref r0), .val (.ref b43), .val (.ref r0), .val (.int (3 : Int32)), .val (.int (2 : Int32)), .val (.double (own_R 1 x2)), .second, .val (.ref b93), .val (.int (1 : Int32))] [(.ref b93)]))
  refine Good.back (fun _ k => XS.iload X121.here hx rfl (hb hby own_d1_65) rfl k) ?_
  show Good p e below _ (T121.setTop (mkF m 67 #[.val (.ref r0), .val (.ref b43), .val (.ref r0), .val (.int (3 : Int32)), .val (.int (2 : Int32)), .val (.double (own_R 1 x2)), .second, .val (.ref b93), .val (.int (1 : Int32))] [(.int (1 : Int32)), (.ref b93)]))
  refine Good.back (fun _ k => XS.iconst X121.here hx rfl (hb hby own_d1_67) k) ?_
  show Good p e below _ (T121.setTop (mkF m 68 #[.val (.ref r0), .val (.ref b43), .val (.ref r0), .val (.int (3 : Int32)), .val (.int (2 : Int32)), .val (.double (own_R 1 x2)), .second, .val (.ref b93), .val (.int (1 : Int32))] [(.int (1 : Int32)), (.int (1 : Int32)), (.ref b93)]))
  refine Good.back (fun _ k => XS.iadd X121.here hx rfl (hb hby own_d1_68) rfl k) ?_
  show Good p e below _ (T121.setTop (mkF m 69 #[.val (.ref r0), .val (.ref b43), .val (.ref r0), .val (.int (3 : Int32)), .val (.int (2 : Int32)), .val (.double (own_R 1 x2)), .second, .val (.ref b93), .val (.int (1 : Int32))] [(.int ((1 : Int32) + (1 : Int32))), (.ref b93)]))
  rw [show (((1 : Int32) + (1 : Int32)) : Int32) = (2 : Int32) from by decide]
  show Good p e below _ (T121.setTop (mkF m 69 #[.val (.ref r0), .val (.ref b43), .val (.ref r0), .val (.int (3 : Int32)), .val (.int (2 : Int32)), .val (.double (own_R 1 x2)), .second, .val (.ref b93), .val (.int (1 : Int32))] [(.int (2 : Int32)), (.ref b93)]))
  refine Good.back (fun _ k => Jvm.Free.XT.dup2 X121.here hx rfl (hb hby own_d1_69) rfl rfl rfl k) ?_
  show Good p e below _ (T121.setTop (mkF m 70 #[.val (.ref r0), .val (.ref b43), .val (.ref r0), .val (.int (3 : Int32)), .val (.int (2 : Int32)), .val (.double (own_R 1 x2)), .second, .val (.ref b93), .val (.int (1 : Int32))] [(.int (2 : Int32)), (.ref b93), (.int (2 : Int32)), (.ref b93)]))
  have fc125 := f_122
  obtain ⟨cl125, Ar125, qk125, S125, N125', H125, G125⟩ := fc125
  have hin125 : ¬ ((2 : Int32) < 0 ∨ cl125.slots.size ≤ ((2 : Int32)).toNatClampNeg) := inb_of S125 ⟨by decide, by decide⟩
  have hat125 : cl125.slots[((2 : Int32)).toNatClampNeg]? = some (.double (FP.l2d 0)) := Has.at H125 hin125 rfl
  refine Good.back (X121.daload hx (j := (2 : Int32)) (v := (.double (FP.l2d 0))) (by rw [e121]; exact Ar125.1) (State.isArrayOf_alike hZ.alike Ar125.2.1) Ar125.2.2 hin125 hat125 (g := (mkF m 70 #[.val (.ref r0), .val (.ref b43), .val (.ref r0), .val (.int (3 : Int32)), .val (.int (2 : Int32)), .val (.double (own_R 1 x2)), .second, .val (.ref b93), .val (.int (1 : Int32))] [(.int (2 : Int32)), (.ref b93), (.int (2 : Int32)), (.ref b93)])) rfl rfl (hb hby own_d1_70)) ?_
  show Good p e below _ (T121.setTop (mkF m 71 #[.val (.ref r0), .val (.ref b43), .val (.ref r0), .val (.int (3 : Int32)), .val (.int (2 : Int32)), .val (.double (own_R 1 x2)), .second, .val (.ref b93), .val (.int (1 : Int32))] [(.double (FP.l2d 0)), (.int (2 : Int32)), (.ref b93)]))
  refine Good.back (fun _ k => XS.aloadN X121.here hx rfl (hb hby own_d1_71) rfl rfl k) ?_
  show Good p e below _ (T121.setTop (mkF m 72 #[.val (.ref r0), .val (.ref b43), .val (.ref r0), .val (.int (3 : Int32)), .val (.int (2 : Int32)), .val (.double (own_R 1 x2)), .second, .val (.ref b93), .val (.int (1 : Int32))] [(.ref b43), (.double (FP.l2d 0)), (.int (2 : Int32)), (.ref b93)]))
  refine Good.back (fun _ k => XS.iload X121.here hx rfl (hb hby own_d1_72) rfl k) ?_
  show Good p e below _ (T121.setTop (mkF m 74 #[.val (.ref r0), .val (.ref b43), .val (.ref r0), .val (.int (3 : Int32)), .val (.int (2 : Int32)), .val (.double (own_R 1 x2)), .second, .val (.ref b93), .val (.int (1 : Int32))] [(.int (1 : Int32)), (.ref b43), (.double (FP.l2d 0)), (.int (2 : Int32)), (.ref b93)]))
  have f_126 : Arv Z h121 b43 k43 .double (3 : Int32) [(.double (own_R 2 ((16 - x0) * (16 - x1)))), (.double (own_R 2 (((16 - x0) * x1) + (x0 * (16 - x1))))), (.double (own_R 2 (x0 * x1)))] (.double (FP.l2d 0)) := Arv.other f_115 W121 ne_b43_b93_108
  have fc127 := f_126
  obtain ⟨cl127, Ar127, qk127, S127, N127', H127, G127⟩ := fc127
  have hin127 : ¬ ((1 : Int32) < 0 ∨ cl127.slots.size ≤ ((1 : Int32)).toNatClampNeg) := inb_of S127 ⟨by decide, by decide⟩
  have hat127 : cl127.slots[((1 : Int32)).toNatClampNeg]? = some (.double (own_R 2 (((16 - x0) * x1) + (x0 * (16 - x1))))) := Has.at H127 hin127 rfl
  refine Good.back (X121.daload hx (j := (1 : Int32)) (v := (.double (own_R 2 (((16 - x0) * x1) + (x0 * (16 - x1)))))) (by rw [e121]; exact Ar127.1) (State.isArrayOf_alike hZ.alike Ar127.2.1) Ar127.2.2 hin127 hat127 (g := (mkF m 74 #[.val (.ref r0), .val (.ref b43), .val (.ref r0), .val (.int (3 : Int32)), .val (.int (2 : Int32)), .val (.double (own_R 1 x2)), .second, .val (.ref b93), .val (.int (1 : Int32))] [(.int (1 : Int32)), (.ref b43), (.double (FP.l2d 0)), (.int (2 : Int32)), (.ref b93)])) rfl rfl (hb hby own_d1_74)) ?_
  show Good p e below _ (T121.setTop (mkF m 75 #[.val (.ref r0), .val (.ref b43), .val (.ref r0), .val (.int (3 : Int32)), .val (.int (2 : Int32)), .val (.double (own_R 1 x2)), .second, .val (.ref b93), .val (.int (1 : Int32))] [(.double (own_R 2 (((16 - x0) * x1) + (x0 * (16 - x1))))), (.double (FP.l2d 0)), (.int (2 : Int32)), (.ref b93)]))
  refine Good.back (fun _ k => XS.dload X121.here hx rfl (hb hby own_d1_75) rfl k) ?_
  show Good p e below _ (T121.setTop (mkF m 77 #[.val (.ref r0), .val (.ref b43), .val (.ref r0), .val (.int (3 : Int32)), .val (.int (2 : Int32)), .val (.double (own_R 1 x2)), .second, .val (.ref b93), .val (.int (1 : Int32))] [(.double (own_R 1 x2)), (.double (own_R 2 (((16 - x0) * x1) + (x0 * (16 - x1))))), (.double (FP.l2d 0)), (.int (2 : Int32)), (.ref b93)]))
  have hb128 := Nat.mul_le_mul hb70 hx2
  refine Good.back (fun _ k => XS.dmulS X121.here hx rfl (hb hby own_d1_77) rfl ((own_Rmul (d := 2) (f := 1) (by decide) (Nat.lt_of_le_of_lt hb70 (by decide)) (Nat.lt_of_le_of_lt hx2 (by decide))).symm ▸ own_Rnn (Nat.lt_of_le_of_lt hb128 (by decide))) (own_Rmul (d := 2) (f := 1) (by decide) (Nat.lt_of_le_of_lt hb70 (by decide)) (Nat.lt_of_le_of_lt hx2 (by decide))) k) ?_
  show Good p e below _ (T121.setTop (mkF m 78 #[.val (.ref r0), .val (.ref b43), .val (.ref r0), .val (.int (3 : Int32)), .val (.int (2 : Int32)), .val (.double (own_R 1 x2)), .second, .val (.ref b93), .val (.int (1 : Int32))] [(.double (own_R 3 ((((16 - x0) * x1) + (x0 * (16 - x1))) * x2))), (.double (FP.l2d 0)), (.int (2 : Int32)), (.ref b93)]))
  refine Good.back (fun _ k => XS.daddS X121.here hx rfl (hb hby own_d1_78) rfl ((own_Radd0 (Nat.lt_of_le_of_lt hb128 (by decide))).symm ▸ own_Rnn (Nat.lt_of_le_of_lt hb128 (by decide))) (own_Radd0 (Nat.lt_of_le_of_lt hb128 (by decide))) k) ?_
  show Good p e below _ (T121.setTop (mkF m 79 #[.val (.ref r0), .val (.ref b43), .val (.ref r0), .val (.int (3 : Int32)), .val (.int (2 : Int32)), .val (.double (own_R 1 x2)), .second, .val (.ref b93), .val (.int (1 : Int32))] [(.double (own_R 3 ((((16 - x0) * x1) + (x0 * (16 - x1))) * x2))), (.int (2 : Int32)), (.ref b93)]))
  have fc129 := f_122
  obtain ⟨cl129, Ar129, qk129, S129, N129', H129, G129⟩ := fc129
  have hin129 : ¬ ((2 : Int32) < 0 ∨ cl129.slots.size ≤ ((2 : Int32)).toNatClampNeg) := inb_of S129 ⟨by decide, by decide⟩
  obtain ⟨T129, h129, X129, e129, W129, st129⟩ := stD X121 hx hZ e121 Ar129 (j := (2 : Int32)) hin129 (g := (mkF m 79 #[.val (.ref r0), .val (.ref b43), .val (.ref r0), .val (.int (3 : Int32)), .val (.int (2 : Int32)), .val (.double (own_R 1 x2)), .second, .val (.ref b93), .val (.int (1 : Int32))] [(.double (own_R 3 ((((16 - x0) * x1) + (x0 * (16 - x1))) * x2))), (.int (2 : Int32)), (.ref b93)])) rfl rfl (hb hby own_d1_79)
  refine Good.back st129 ?_
  have f_130 : Arv Z h129 b93 k93 .double (4 : Int32) [(.double (own_R 3 (((16 - x0) * (16 - x1)) * (16 - x2)))), (.double (own_R 3 ((((16 - x0) * (16 - x1)) * x2) + ((((16 - x0) * x1) + (x0 * (16 - x1))) * (16 - x2))))), (.double (own_R 3 ((((16 - x0) * x1) + (x0 * (16 - x1))) * x2))), (.double (FP.l2d 0))] (.double (FP.l2d 0)) := Arv.set Ar129 qk129 S129 N129' H129 G129 rfl W129 2 rfl (Nat.le_of_ble_eq_true rfl)
  have N129 := Fr.snoc X129 N121 g_b93
  have Z131 : n0 ≤ h129.size := Nat.le_trans Z123 (Keep.of_wr W129).1
  have K132 : Keep h0 h129 [] := K124.wr W129 (Or.inr sz_b93)
  show Good p e below _ (T129.setTop (mkF m 80 #[.val (.ref r0), .val (.ref b43), .val (.ref r0), .val (.int (3 : Int32)), .val (.int (2 : Int32)), .val (.double (own_R 1 x2)), .second, .val (.ref b93), .val (.int (1 : Int32))] []))
  refine Good.back (fun _ k => XS.iinc X129.here hx rfl (hb hby own_d1_80) rfl (l' := #[.val (.ref r0), .val (.ref b43), .val (.ref r0), .val (.int (3 : Int32)), .val (.int (2 : Int32)), .val (.double (own_R 1 x2)), .second, .val (.ref b93), .val (.int ((1 : Int32) + (1 : Int32)))]) rfl k) ?_
  show Good p e below _ (T129.setTop (mkF m 83 #[.val (.ref r0), .val (.ref b43), .val (.ref r0), .val (.int (3 : Int32)), .val (.int (2 : Int32)), .val (.double (own_R 1 x2)), .second, .val (.ref b93), .val (.int ((1 : Int32) + (1 : Int32)))] []))
  rw [show (((1 : Int32) + (1 : Int32)) : Int32) = (2 : Int32) from by decide]
  show Good p e below _ (T129.setTop (mkF m 83 #[.val (.ref r0), .val (.ref b43), .val (.ref r0), .val (.int (3 : Int32)), .val (.int (2 : Int32)), .val (.double (own_R 1 x2)), .second, .val (.ref b93), .val (.int (2 : Int32))] []))
  refine Good.back (fun _ k => XS.goto X129.here hx rfl (pc0 := 83) (pc' := 39) rfl (hb hby own_d1_83) (by decide) (by decide) k) ?_
  show Good p e below _ (T129.setTop (mkF m 39 #[.val (.ref r0), .val (.ref b43), .val (.ref r0), .val (.int (3 : Int32)), .val (.int (2 : Int32)), .val (.double (own_R 1 x2)), .second, .val (.ref b93), .val (.int (2 : Int32))] []))
  refine Good.back (fun _ k => XS.iload X129.here hx rfl (hb hby own_d1_39) rfl k) ?_
  show Good p e below _ (T129.setTop (mkF m 41 #[.val (.ref r0), .val (.ref b43), .val (.ref r0), .val (.int (3 : Int32)), .val (.int (2 : Int32)), .val (.double (own_R 1 x2)), .second, .val (.ref b93), .val (.int (2 : Int32))] [(.int (2 : Int32))]))
  refine Good.back (fun _ k => XS.aloadN X129.here hx rfl (hb hby own_d1_41) rfl rfl k) ?_
  show Good p e below _ (T129.setTop (mkF m 42 #[.val (.ref r0), .val (.ref b43), .val (.ref r0), .val (.int (3 : Int32)), .val (.int (2 : Int32)), .val (.double (own_R 1 x2)), .second, .val (.ref b93), .val (.int (2 : Int32))] [(.ref b43), (.int (2 : Int32))]))
  have f_133 : Arv Z h129 b43 k43 .double (3 : Int32) [(.double (own_R 2 ((16 - x0) * (16 - x1)))), (.double (own_R 2 (((16 - x0) * x1) + (x0 * (16 - x1))))), (.double (own_R 2 (x0 * x1)))] (.double (FP.l2d 0)) := Arv.other f_126 W129 ne_b43_b93_108
  have fc134 := f_133
  obtain ⟨cl134, Ar134, qk134, S134, N134', H134, G134⟩ := fc134
  refine Good.back (X129.arraylength hx (by rw [e129]; exact Ar134.1) (State.isArrayOf_alike hZ.alike Ar134.2.1) (g := (mkF m 42 #[.val (.ref r0), .val (.ref b43), .val (.ref r0), .val (.int (3 : Int32)), .val (.int (2 : Int32)), .val (.double (own_R 1 x2)), .second, .val (.ref b93), .val (.int (2 : Int32))] [(.ref b43), (.int (2 : Int32))])) rfl rfl (hb hby own_d1_42)) ?_
  rw [len_of S134 N134']
  show Good p e below _ (T129.setTop (mkF m 43 #[.val (.ref r0), .val (.ref b43), .val (.ref r0), .val (.int (3 : Int32)), .val (.int (2 : Int32)), .val (.double (own_R 1 x2)), .second, .val (.ref b93), .val (.int (2 : Int32))] [(.int (3 : Int32)), (.int (2 : Int32))]))
  refine Good.back (fun _ k => XS.icmpNo X129.here hx rfl (hb hby own_d1_43) rfl (tlt (by decide : ((2 : Int32) < (3 : Int32)))).2.1 k) ?_
  show Good p e below _ (T129.setTop (mkF m 46 #[.val (.ref r0), .val (.ref b43), .val (.ref r0), .val (.int (3 : Int32)), .val (.int (2 : Int32)), .val (.double (own_R 1 x2)), .second, .val (.ref b93), .val (.int (2 : Int32))] []))
  refine Good.back (fun _ k => XS.aload X129.here hx rfl (hb hby own_d1_46) rfl rfl k) ?_
  show Good p e below _ (T129.setTop (mkF m 48 #[.val (.ref r0), .val (.ref b43), .val (.ref r0), .val (.int (3 : Int32)), .val (.int (2 : Int32)), .val (.double (own_R 1 x2)), .second, .val (.ref b93), .val (.int (2 : Int32))] [(.ref b93)]))
  refine Good.back (fun _ k => XS.iload X129.here hx rfl (hb hby own_d1_48) rfl k) ?_
  show Good p e below _ (T129.setTop (mkF m 50 #[.val (.ref r0), .val (.ref b43), .val (.ref r0), .val (.int (3 : Int32)), .val (.int (2 : Int32)), .val (.double (own_R 1 x2)), .second, .val (.ref b93), .val (.int (2 : Int32))] [(.int (2 : Int32)), (.ref b93)]))
  refine Good.back (fun _ k => Jvm.Free.XT.dup2 X129.here hx rfl (hb hby own_d1_50) rfl rfl rfl k) ?_
  show Good p e below _ (T129.setTop (mkF m 51 #[.val (.ref r0), .val (.ref b43), .val (.ref r0), .val (.int (3 : Int32)), .val (.int (2 : Int32)), .val (.double (own_R 1 x2)), .second, .val (.ref b93), .val (.int (2 : Int32))] [(.int (2 : Int32)), (.ref b93), (.int (2 : Int32)), (.ref b93)]))
  have fc135 := f_130
  obtain ⟨cl135, Ar135, qk135, S135, N135', H135, G135⟩ := fc135
  have hin135 : ¬ ((2 : Int32) < 0 ∨ cl135.slots.size ≤ ((2 : Int32)).toNatClampNeg) := inb_of S135 ⟨by decide, by decide⟩
  have hat135 : cl135.slots[((2 : Int32)).toNatClampNeg]? = some (.double (own_R 3 ((((16 - x0) * x1) + (x0 * (16 - x1))) * x2))) := Has.at H135 hin135 rfl
  refine Good.back (X129.daload hx (j := (2 : Int32)) (v := (.double (own_R 3 ((((16 - x0) * x1) + (x0 * (16 - x1))) * x2)))) (by rw [e129]; exact Ar135.1) (State.isArrayOf_alike hZ.alike Ar135.2.1) Ar135.2.2 hin135 hat135 (g := (mkF m 51 #[.val (.ref r0), .val (.ref b43), .val (.ref r0), .val (.int (3 : Int32)), .val (.int (2 : Int32)), .val (.double (own_R 1 x2)), .second, .val (.ref b93), .val (.int (2 : Int32))] [(.int (2 : Int32)), (.ref b93), (.int (2 : Int32)), (.ref b93)])) rfl rfl (hb hby own_d1_51)) ?_
  show Good p e below _ (T129.setTop (mkF m 52 #[.val (.ref r0), .val (.ref b43), .val (.ref r0), .val (.int (3 : Int32)), .val (.int (2 : Int32)), .val (.double (own_R 1 x2)), .second, .val (.ref b93), .val (.int (2 : Int32))] [(.double (own_R 3 ((((16 - x0) * x1) + (x0 * (16 - x1))) * x2))), (.int (2 : Int32)), (.ref b93)]))
  refine Good.back (fun _ k => XS.aloadN X129.here hx rfl (hb hby own_d1_52) rfl rfl k) ?_
  show Good p e below _ (T129.setTop (mkF m 53 #[.val (.ref r0), .val (.ref b43), .val (.ref r0), .val (.int (3 : Int32)), .val (.int (2 : Int32)), .val (.double (own_R 1 x2)), .second, .val (.ref b93), .val (.int (2 : Int32))] [(.ref b43), (.double (own_R 3 ((((16 - x0) * x1) + (x0 * (16 - x1))) * x2))), (.int (2 : Int32)), (.ref b93)]))
  refine Good.back (fun _ k => XS.iload X129.here hx rfl (hb hby own_d1_53) rfl k) ?_
  show Good p e below _ (T129.setTop (mkF m 55 #[.val (.ref r0), .val (.ref b43), .val (.ref r0), .val (.int (3 : Int32)), .val (.int (2 : Int32)), .val (.double (own_R 1 x2)), .second, .val (.ref b93), .val (.int (2 : Int32))] [(.int (2 : Int32)), (.ref b43), (.double (own_R 3 ((((16 - x0) * x1) + (x0 * (16 - x1))) * x2))), (.int (2 : Int32)), (.ref b93)]))
  have fc136 := f_133
  obtain ⟨cl136, Ar136, qk136, S136, N136', H136, G136⟩ := fc136
  have hin136 : ¬ ((2 : Int32) < 0 ∨ cl136.slots.size ≤ ((2 : Int32)).toNatClampNeg) := inb_of S136 ⟨by decide, by decide⟩
  have hat136 : cl136.slots[((2 : Int32)).toNatClampNeg]? = some (.double (own_R 2 (x0 * x1))) := Has.at H136 hin136 rfl
  refine Good.back (X129.daload hx (j := (2 : Int32)) (v := (.double (own_R 2 (x0 * x1)))) (by rw [e129]; exact Ar136.1) (State.isArrayOf_alike hZ.alike Ar136.2.1) Ar136.2.2 hin136 hat136 (g := (mkF m 55 #[.val (.ref r0), .val (.ref b43), .val (.ref r0), .val (.int (3 : Int32)), .val (.int (2 : Int32)), .val (.double (own_R 1 x2)), .second, .val (.ref b93), .val (.int (2 : Int32))] [(.int (2 : Int32)), (.ref b43), (.double (own_R 3 ((((16 - x0) * x1) + (x0 * (16 - x1))) * x2))), (.int (2 : Int32)), (.ref b93)])) rfl rfl (hb hby own_d1_55)) ?_
  show Good p e below _ (T129.setTop (mkF m 56 #[.val (.ref r0), .val (.ref b43), .val (.ref r0), .val (.int (3 : Int32)), .val (.int (2 : Int32)), .val (.double (own_R 1 x2)), .second, .val (.ref b93), .val (.int (2 : Int32))] [(.double (own_R 2 (x0 * x1))), (.double (own_R 3 ((((16 - x0) * x1) + (x0 * (16 - x1))) * x2))), (.int (2 : Int32)), (.ref b93)]))
  refine Good.back (fun _ k => XS.dconst1 X129.here hx rfl (hb hby own_d1_56) (v := (FP.l2d (1 : Int64))) (by decide +kernel) k) ?_
  show Good p e below _ (T129.setTop (mkF m 57 #[.val (.ref r0), .val (.ref b43), .val (.ref r0), .val (.int (3 : Int32)), .val (.int (2 : Int32)), .val (.double (own_R 1 x2)), .second, .val (.ref b93), .val (.int (2 : Int32))] [(.double (FP.l2d (1 : Int64))), (.double (own_R 2 (x0 * x1))), (.double (own_R 3 ((((16 - x0) * x1) + (x0 * (16 - x1))) * x2))), (.int (2 : Int32)), (.ref b93)]))
  refine Good.back (fun _ k => XS.dload X129.here hx rfl (hb hby own_d1_57) rfl k) ?_
  show Good p e below _ (T129.setTop (mkF m 59 #[.val (.ref r0), .val (.ref b43), .val (.ref r0), .val (.int (3 : Int32)), .val (.int (2 : Int32)), .val (.double (own_R 1 x2)), .second, .val (.ref b93), .val (.int (2 : Int32))] [(.double (own_R 1 x2)), (.double (FP.l2d (1 : Int64))), (.double (own_R 2 (x0 * x1))), (.double (own_R 3 ((((16 - x0) * x1) + (x0 * (16 - x1))) * x2))), (.int (2 : Int32)), (.ref b93)]))
  refine Good.back (fun _ k => XS.dsubS X129.here hx rfl (hb hby own_d1_59) rfl (own_Rsub hx2 ▸ own_Rnn (Nat.lt_of_le_of_lt (Nat.sub_le 16 x2) (by decide))) (own_Rsub hx2) k) ?_
  show Good p e below _ (T129.setTop (mkF m 60 #[.val (.ref r0), .val (.ref b43), .val (.ref r0), .val (.int (3 : Int32)), .val (.int (2 : Int32)), .val (.double (own_R 1 x2)), .second, .val (.ref b93), .val (.int (2 : Int32))] [(.double (own_R 1 (16 - x2))), (.double (own_R 2 (x0 * x1))), (.double (own_R 3 ((((16 - x0) * x1) + (x0 * (16 - x1))) * x2))), (.int (2 : Int32)), (.ref b93)]))
  have hb137 := Nat.mul_le_mul hb78 (Nat.sub_le 16 x2)
  refine Good.back (fun _ k => XS.dmulS X129.here hx rfl (hb hby own_d1_60) rfl ((own_Rmul (d := 2) (f := 1) (by decide) (Nat.lt_of_le_of_lt hb78 (by decide)) (Nat.lt_of_le_of_lt (Nat.sub_le 16 x2) (by decide))).symm ▸ own_Rnn (Nat.lt_of_le_of_lt hb137 (by decide))) (own_Rmul (d := 2) (f := 1) (by decide) (Nat.lt_of_le_of_lt hb78 (by decide)) (Nat.lt_of_le_of_lt (Nat.sub_le 16 x2) (by decide))) k) ?_
  show Good p e below _ (T129.setTop (mkF m 61 #[.val (.ref r0), .val (.ref b43), .val (.ref r0), .val (.int (3 : Int32)), .val (.int (2 : Int32)), .val (.double (own_R 1 x2)), .second, .val (.ref b93), .val (.int (2 : Int32))] [(.double (own_R 3 ((x0 * x1) * (16 - x2)))), (.double (own_R 3 ((((16 - x0) * x1) + (x0 * (16 - x1))) * x2))), (.int (2 : Int32)), (.ref b93)]))
  have hb138 := Nat.add_le_add hb128 hb137
  refine Good.back (fun _ k => XS.daddS X129.here hx rfl (hb hby own_d1_61) rfl ((own_Radd (Nat.lt_of_le_of_lt hb128 (by decide)) (Nat.lt_of_le_of_lt hb137 (by decide))).symm ▸ own_Rnn (Nat.lt_of_le_of_lt hb138 (by decide))) (own_Radd (Nat.lt_of_le_of_lt hb128 (by decide)) (Nat.lt_of_le_of_lt hb137 (by decide))) k) ?_
  show Good p e below _ (T129.setTop (mkF m 62 #[.val (.ref r0), .val (.ref b43), .val (.ref r0), .val (.int (3 : Int32)), .val (.int (2 : Int32)), .val (.double (own_R 1 x2)), .second, .val (.ref b93), .val (.int (2 : Int32))] [(.double (own_R 3 (((((16 - x0) * x1) + (x0 * (16 - x1))) * x2) + ((x0 * x1) * (16 - x2))))), (.int (2 : Int32)), (.ref b93)]))
  have fc139 := f_130
  obtain ⟨cl139, Ar139, qk139, S139, N139', H139, G139⟩ := fc139
  have hin139 : ¬ ((2 : Int32) < 0 ∨ cl139.slots.size ≤ ((2 : Int32)).toNatClampNeg) := inb_of S139 ⟨by decide, by decide⟩
  obtain ⟨T139, h139, X139, e139, W139, st139⟩ := stD X129 hx hZ e129 Ar139 (j := (2 : Int32)) hin139 (g := (mkF m 62 #[.val (.ref r0), .val (.ref b43), .val (.ref r0), .val (.int (3 : Int32)), .val (.int (2 : Int32)), .val (.double (own_R 1 x2)), .second, .val (.ref b93), .val (.int (2 : Int32))] [(.double (own_R 3 (((((16 - x0) * x1) + (x0 * (16 - x1))) * x2) + ((x0 * x1) * (16 - x2))))), (.int (2 : Int32)), (.ref b93)])) rfl rfl (hb hby own_d1_62)
  refine Good.back st139 ?_
  have f_140 : Arv Z h139 b93 k93 .double (4 : Int32) [(.double (own_R 3 (((16 - x0) * (16 - x1)) * (16 - x2)))), (.double (own_R 3 ((((16 - x0) * (16 - x1)) * x2) + ((((16 - x0) * x1) + (x0 * (16 - x1))) * (16 - x2))))), (.double (own_R 3 (((((16 - x0) * x1) + (x0 * (16 - x1))) * x2) + ((x0 * x1) * (16 - x2))))), (.double (FP.l2d 0))] (.double (FP.l2d 0)) := Arv.set Ar139 qk139 S139 N139' H139 G139 rfl W139 2 rfl (Nat.le_of_ble_eq_true rfl)
  have N139 := Fr.snoc X139 N129 g_b93
  have Z141 : n0 ≤ h139.size := Nat.le_trans Z131 (Keep.of_wr W139).1
  have K142 : Keep h0 h139 [] := K132.wr W139 (Or.inr sz_b93)
  show Good p e below _ (T139.setTop (mkF m 63 #[.val (.ref r0), .val (.ref b43), .val (.ref r0), .val (.int (3 : Int32)), .val (.int (2 : Int32)), .val (.double (own_R 1 x2)), .second, .val (.ref b93), .val (.int (2 : Int32))] []))
  refine Good.back (fun _ k => XS.aload X139.here hx rfl (hb hby own_d1_63) rfl rfl k) ?_
  show Good p e below _ (T139.setTop (mkF m 65 #[.val (.ref r0), .val (.ref b43), .val (.ref r0), .val (.int (3 : Int32)), .val (.int (2 : Int32)), .val (.double (own_R 1 x2)), .second, .val (.ref b93), .val (.int (2 : Int32))] [(.ref b93)]))
  refine Good.back (fun _ k => XS.iload X139.here hx rfl (hb hby own_d1_65) rfl k) ?_
  show Good p e below _ (T139.setTop (mkF m 67 #[.val (.ref r0), .val (.ref b43), .val (.ref r0), .val (.int (3 : Int32)), .val (.int (2 : Int32)), .val (.double (own_R 1 x2)), .second, .val (.ref b93), .val (.int (2 : Int32))] [(.int (2 : Int32)), (.ref b93)]))
  refine Good.back (fun _ k => XS.iconst X139.here hx rfl (hb hby own_d1_67) k) ?_
  show Good p e below _ (T139.setTop (mkF m 68 #[.val (.ref r0), .val (.ref b43), .val (.ref r0), .val (.int (3 : Int32)), .val (.int (2 : Int32)), .val (.double (own_R 1 x2)), .second, .val (.ref b93), .val (.int (2 : Int32))] [(.int (1 : Int32)), (.int (2 : Int32)), (.ref b93)]))
  refine Good.back (fun _ k => XS.iadd X139.here hx rfl (hb hby own_d1_68) rfl k) ?_
  show Good p e below _ (T139.setTop (mkF m 69 #[.val (.ref r0), .val (.ref b43), .val (.ref r0), .val (.int (3 : Int32)), .val (.int (2 : Int32)), .val (.double (own_R 1 x2)), .second, .val (.ref b93), .val (.int (2 : Int32))] [(.int ((2 : Int32) + (1 : Int32))), (.ref b93)]))
  rw [show (((2 : Int32) + (1 : Int32)) : Int32) = (3 : Int32) from by decide]
  show Good p e below _ (T139.setTop (mkF m 69 #[.val (.ref r0), .val (.ref b43), .val (.ref r0), .val (.int (3 : Int32)), .val (.int (2 : Int32)), .val (.double (own_R 1 x2)), .second, .val (.ref b93), .val (.int (2 : Int32))] [(.int (3 : Int32)), (.ref b93)]))
  refine Good.back (fun _ k => Jvm.Free.XT.dup2 X139.here hx rfl (hb hby own_d1_69) rfl rfl rfl k) ?_
  show Good p e below _ (T139.setTop (mkF m 70 #[.val (.ref r0), .val (.ref b43), .val (.ref r0), .val (.int (3 : Int32)), .val (.int (2 : Int32)), .val (.double (own_R 1 x2)), .second, .val (.ref b93), .val (.int (2 : Int32))] [(.int (3 : Int32)), (.ref b93), (.int (3 : Int32)), (.ref b93)]))
  have fc143 := f_140
  obtain ⟨cl143, Ar143, qk143, S143, N143', H143, G143⟩ := fc143
  have hin143 : ¬ ((3 : Int32) < 0 ∨ cl143.slots.size ≤ ((3 : Int32)).toNatClampNeg) := inb_of S143 ⟨by decide, by decide⟩
  have hat143 : cl143.slots[((3 : Int32)).toNatClampNeg]? = some (.double (FP.l2d 0)) := Has.at H143 hin143 rfl
  refine Good.back (X139.daload hx (j := (3 : Int32)) (v := (.double (FP.l2d 0))) (by rw [e139]; exact Ar143.1) (State.isArrayOf_alike hZ.alike Ar143.2.1) Ar143.2.2 hin143 hat143 (g := (mkF m 70 #[.val (.ref r0), .val (.ref b43), .val (.ref r0), .val (.int (3 : Int32)), .val (.int (2 : Int32)), .val (.double (own_R 1 x2)), .second, .val (.ref b93), .val (.int (2 : Int32))] [(.int (3 : Int32)), (.ref b93), (.int (3 : Int32)), (.ref b93)])) rfl rfl (hb hby own_d1_70)) ?_
  show Good p e below _ (T139.setTop (mkF m 71 #[.val (.ref r0), .val (.ref b43), .val (.ref r0), .val (.int (3 : Int32)), .val (.int (2 : Int32)), .val (.double (own_R 1 x2)), .second, .val (.ref b93), .val (.int (2 : Int32))] [(.double (FP.l2d 0)), (.int (3 : Int32)), (.ref b93)]))
  refine Good.back (fun _ k => XS.aloadN X139.here hx rfl (hb hby own_d1_71) rfl rfl k) ?_
  show Good p e below _ (T139.setTop (mkF m 72 #[.val (.ref r0), .val (.ref b43), .val (.ref r0), .val (.int (3 : Int32)), .val (.int (2 : Int32)), .val (.double (own_R 1 x2)), .second, .val (.ref b93), .val (.int (2 : Int32))] [(.ref b43), (.double (FP.l2d 0)), (.int (3 : Int32)), (.ref b93)]))
  refine Good.back (fun _ k => XS.iload X139.here hx rfl (hb hby own_d1_72) rfl k) ?_
  show Good p e below _ (T139.setTop (mkF m 74 #[.val (.ref r0), .val (.ref b43), .val (.ref r0), .val (.int (3 : Int32)), .val (.int (2 : Int32)), .val (.double (own_R 1 x2)), .second, .val (.ref b93), .val (.int (2 : Int32))] [(.int (2 : Int32)), (.ref b43), (.double (FP.l2d 0)), (.int (3 : Int32)), (.ref b93)]))
  have f_144 : Arv Z h139 b43 k43 .double (3 : Int32) [(.double (own_R 2 ((16 - x0) * (16 - x1)))), (.double (own_R 2 (((16 - x0) * x1) + (x0 * (16 - x1))))), (.double (own_R 2 (x0 * x1)))] (.double (FP.l2d 0)) := Arv.other f_133 W139 ne_b43_b93_108
  have fc145 := f_144
  obtain ⟨cl145, Ar145, qk145, S145, N145', H145, G145⟩ := fc145
  have hin145 : ¬ ((2 : Int32) < 0 ∨ cl145.slots.size ≤ ((2 : Int32)).toNatClampNeg) := inb_of S145 ⟨by decide, by decide⟩
  have hat145 : cl145.slots[((2 : Int32)).toNatClampNeg]? = some (.double (own_R 2 (x0 * x1))) := Has.at H145 hin145 rfl
  refine Good.back (X139.daload hx (j := (2 : Int32)) (v := (.double (own_R 2 (x0 * x1)))) (by rw [e139]; exact Ar145.1) (State.isArrayOf_alike hZ.alike Ar145.2.1) Ar145.2.2 hin145 hat145 (g := (mkF m 74 #[.val (.ref r0), .val (.ref b43), .val (.ref r0), .val (.int (3 : Int32)), .val (.int (2 : Int32)), .val (.double (own_R 1 x2)), .second, .val (.ref b93), .val (.int (2 : Int32))] [(.int (2 : Int32)), (.ref b43), (.double (FP.l2d 0)), (.int (3 : Int32)), (.ref b93)])) rfl rfl (hb hby own_d1_74)) ?_
  show Good p e below _ (T139.setTop (mkF m 75 #[.val (.ref r0), .val (.ref b43), .val (.ref r0), .val (.int (3 : Int32)), .val (.int (2 : Int32)), .val (.double (own_R 1 x2)), .second, .val (.ref b93), .val (.int (2 : Int32))] [(.double (own_R 2 (x0 * x1))), (.double (FP.l2d 0)), (.int (3 : Int32)), (.ref b93)]))
  refine Good.back (fun _ k => XS.dload X139.here hx rfl (hb hby own_d1_75) rfl k) ?_
  show Good p e below _ (T139.setTop (mkF m 77 #[.val (.ref r0), .val (.ref b43), .val (.ref r0), .val (.int (3 : Int32)), .val (.int (2 : Int32)), .val (.double (own_R 1 x2)), .second, .val (.ref b93), .val (.int (2 : Int32))] [(.double (own_R 1 x2)), (.double (own_R 2 (x0 * x1))), (.double (FP.l2d 0)), (.int (3 : Int32)), (.ref b93)]))
  have hb146 := Nat.mul_le_mul hb78 hx2
  refine Good.back (fun _ k => XS.dmulS X139.here hx rfl (hb hby own_d1_77) rfl ((own_Rmul (d := 2) (f := 1) (by decide) (Nat.lt_of_le_of_lt hb78 (by decide)) (Nat.lt_of_le_of_lt hx2 (by decide))).symm ▸ own_Rnn (Nat.lt_of_le_of_lt hb146 (by decide))) (own_Rmul (d := 2) (f := 1) (by decide) (Nat.lt_of_le_of_lt hb78 (by decide)) (Nat.lt_of_le_of_lt hx2 (by decide))) k) ?_
  show Good p e below _ (T139.setTop (mkF m 78 #[.val (.ref r0), .val (.ref b43), .val (.ref r0), .val (.int (3 : Int32)), .val (.int (2 : Int32)), .val (.double (own_R 1 x2)), .second, .val (.ref b93), .val (.int (2 : Int32))] [(.double (own_R 3 ((x0 * x1) * x2))), (.double (FP.l2d 0)), (.int (3 : Int32)), (.ref b93)]))
  refine Good.back (fun _ k => XS.daddS X139.here hx rfl (hb hby own_d1_78) rfl ((own_Radd0 (Nat.lt_of_le_of_lt hb146 (by decide))).symm ▸ own_Rnn (Nat.lt_of_le_of_lt hb146 (by decide))) (own_Radd0 (Nat.lt_of_le_of_lt hb146 (by decide))) k) ?_
  show Good p e below _ (T139.setTop (mkF m 79 #[.val (.ref r0), .val (.ref b43), .val (.ref r0), .val (.int (3 : Int32)), .val (.int (2 : Int32)), .val (.double (own_R 1 x2)), .second, .val (.ref b93), .val (.int (2 : Int32))] [(.double (own_R 3 ((x0 * x1) * x2))), (.int (3 : Int32)), (.ref b93)]))
  have fc147 := f_140
  obtain ⟨cl147, Ar147, qk147, S147, N147', H147, G147⟩ := fc147
  have hin147 : ¬ ((3 : Int32) < 0 ∨ cl147.slots.size ≤ ((3 : Int32)).toNatClampNeg) := inb_of S147 ⟨by decide, by decide⟩
  obtain ⟨T147, h147, X147, e147, W147, st147⟩ := stD X139 hx hZ e139 Ar147 (j := (3 : Int32)) hin147 (g := (mkF m 79 #[.val (.ref r0), .val (.ref b43), .val (.ref r0), .val (.int (3 : Int32)), .val (.int (2 : Int32)), .val (.double (own_R 1 x2)), .second, .val (.ref b93), .val (.int (2 : Int32))] [(.double (own_R 3 ((x0 * x1) * x2))), (.int (3 : Int32)), (.ref b93)])) rfl rfl (hb hby own_d1_79)
  refine Good.back st147 ?_
  have f_148 : Arv Z h147 b93 k93 .double (4 : Int32) [(.double (own_R 3 (((16 - x0) * (16 - x1)) * (16 - x2)))), (.double (own_R 3 ((((16 - x0) * (16 - x1)) * x2) + ((((16 - x0) * x1) + (x0 * (16 - x1))) * (16 - x2))))), (.double (own_R 3 (((((16 - x0) * x1) + (x0 * (16 - x1))) * x2) + ((x0 * x1) * (16 - x2))))), (.double (own_R 3 ((x0 * x1) * x2)))] (.double (FP.l2d 0)) := Arv.set Ar147 qk147 S147 N147' H147 G147 rfl W147 3 rfl (Nat.le_of_ble_eq_true rfl)
  have N147 := Fr.snoc X147 N139 g_b93
  have Z149 : n0 ≤ h147.size := Nat.le_trans Z141 (Keep.of_wr W147).1
  have K150 : Keep h0 h147 [] := K142.wr W147 (Or.inr sz_b93)
  show Good p e below _ (T147.setTop (mkF m 80 #[.val (.ref r0), .val (.ref b43), .val (.ref r0), .val (.int (3 : Int32)), .val (.int (2 : Int32)), .val (.double (own_R 1 x2)), .second, .val (.ref b93), .val (.int (2 : Int32))] []))
  refine Good.back (fun _ k => XS.iinc X147.here hx rfl (hb hby own_d1_80) rfl (l' := #[.val (.ref r0), .val (.ref b43), .val (.ref r0), .val (.int (3 : Int32)), .val (.int (2 : Int32)), .val (.double (own_R 1 x2)), .second, .val (.ref b93), .val (.int ((2 : Int32) + (1 : Int32)))]) rfl k) ?_
  show Good p e below _ (T147.setTop (mkF m 83 #[.val (.ref r0), .val (.ref b43), .val (.ref r0), .val (.int (3 : Int32)), .val (.int (2 : Int32)), .val (.double (own_R 1 x2)), .second, .val (.ref b93), .val (.int ((2 : Int32) + (1 : Int32)))] []))
  rw [show (((2 : Int32) + (1 : Int32)) : Int32) = (3 : Int32) from by decide]
  show Good p e below _ (T147.setTop (mkF m 83 #[.val (.ref r0), .val (.ref b43), .val (.ref r0), .val (.int (3 : Int32)), .val (.int (2 : Int32)), .val (.double (own_R 1 x2)), .second, .val (.ref b93), .val (.int (3 : Int32))] []))
  refine Good.back (fun _ k => XS.goto X147.here hx rfl (pc0 := 83) (pc' := 39) rfl (hb hby own_d1_83) (by decide) (by decide) k) ?_
  show Good p e below _ (T147.setTop (mkF m 39 #[.val (.ref r0), .val (.ref b43), .val (.ref r0), .val (.int (3 : Int32)), .val (.int (2 : Int32)), .val (.double (own_R 1 x2)), .second, .val (.ref b93), .val (.int (3 : Int32))] []))
  refine Good.back (fun _ k => XS.iload X147.here hx rfl (hb hby own_d1_39) rfl k) ?_
  show Good p e below _ (T147.setTop (mkF m 41 #[.val (.ref r0), .val (.ref b43), .val (.ref r0), .val (.int (3 : Int32)), .val (.int (2 : Int32)), .val (.double (own_R 1 x2)), .second, .val (.ref b93), .val (.int (3 : Int32))] [(.int (3 : Int32))]))
  refine Good.back (fun _ k => XS.aloadN X147.here hx rfl (hb hby own_d1_41) rfl rfl k) ?_
  show Good p e below _ (T147.setTop (mkF m 42 #[.val (.ref r0), .val (.ref b43), .val (.ref r0), .val (.int (3 : Int32)), .val (.int (2 : Int32)), .val (.double (own_R 1 x2)), .second, .val (.ref b93), .val (.int (3 : Int32))] [(.ref b43), (.int (3 : Int32))]))
  have f_151 : Arv Z h147 b43 k43 .double (3 : Int32) [(.double (own_R 2 ((16 - x0) * (16 - x1)))), (.double (own_R 2 (((16 - x0) * x1) + (x0 * (16 - x1))))), (.double (own_R 2 (x0 * x1)))] (.double (FP.l2d 0)) := Arv.other f_144 W147 ne_b43_b93_108
  have fc152 := f_151
  obtain ⟨cl152, Ar152, qk152, S152, N152', H152, G152⟩ := fc152
  refine Good.back (X147.arraylength hx (by rw [e147]; exact Ar152.1) (State.isArrayOf_alike hZ.alike Ar152.2.1) (g := (mkF m 42 #[.val (.ref r0), .val (.ref b43), .val (.ref r0), .val (.int (3 : Int32)), .val (.int (2 : Int32)), .val (.double (own_R 1 x2)), .second, .val (.ref b93), .val (.int (3 : Int32))] [(.ref b43), (.int (3 : Int32))])) rfl rfl (hb hby own_d1_42)) ?_
  rw [len_of S152 N152']
  show Good p e below _ (T147.setTop (mkF m 43 #[.val (.ref r0), .val (.ref b43), .val (.ref r0), .val (.int (3 : Int32)), .val (.int (2 : Int32)), .val (.double (own_R 1 x2)), .second, .val (.ref b93), .val (.int (3 : Int32))] [(.int (3 : Int32)), (.int (3 : Int32))]))
  refine Good.back (fun _ k => XS.icmpYes X147.here hx rfl (pc0 := 43) (pc' := 86) rfl (hb hby own_d1_43) rfl (flt (by decide : ¬ ((3 : Int32) < (3 : Int32)))).2.1 (by decide) (by decide) k) ?_
  show Good p e below _ (T147.setTop (mkF m 86 #[.val (.ref r0), .val (.ref b43), .val (.ref r0), .val (.int (3 : Int32)), .val (.int (2 : Int32)), .val (.double (own_R 1 x2)), .second, .val (.ref b93), .val (.int (3 : Int32))] []))
  refine Good.back (fun _ k => XS.aload X147.here hx rfl (hb hby own_d1_86) rfl rfl k) ?_
  show Good p e below _ (T147.setTop (mkF m 88 #[.val (.ref r0), .val (.ref b43), .val (.ref r0), .val (.int (3 : Int32)), .val (.int (2 : Int32)), .val (.double (own_R 1 x2)), .second, .val (.ref b93), .val (.int (3 : Int32))] [(.ref b93)]))
  refine Good.back (fun _ k => XS.astoreN X147.here hx rfl (hb hby own_d1_88) rfl rfl (l' := #[.val (.ref r0), .val (.ref b93), .val (.ref r0), .val (.int (3 : Int32)), .val (.int (2 : Int32)), .val (.double (own_R 1 x2)), .second, .val (.ref b93), .val (.int (3 : Int32))]) rfl k) ?_
  show Good p e below _ (T147.setTop (mkF m 89 #[.val (.ref r0), .val (.ref b93), .val (.ref r0), .val (.int (3 : Int32)), .val (.int (2 : Int32)), .val (.double (own_R 1 x2)), .second, .val (.ref b93), .val (.int (3 : Int32))] []))
  refine Good.back (fun _ k => XS.iinc X147.here hx rfl (hb hby own_d1_89) rfl (l' := #[.val (.ref r0), .val (.ref b93), .val (.ref r0), .val (.int (3 : Int32)), .val (.int ((2 : Int32) + (1 : Int32))), .val (.double (own_R 1 x2)), .second, .val (.ref b93), .val (.int (3 : Int32))]) rfl k) ?_
  show Good p e below _ (T147.setTop (mkF m 92 #[.val (.ref r0), .val (.ref b93), .val (.ref r0), .val (.int (3 : Int32)), .val (.int ((2 : Int32) + (1 : Int32))), .val (.double (own_R 1 x2)), .second, .val (.ref b93), .val (.int (3 : Int32))] []))
  rw [show (((2 : Int32) + (1 : Int32)) : Int32) = (3 : Int32) from by decide]
  show Good p e below _ (T147.setTop (mkF m 92 #[.val (.ref r0), .val (.ref b93), .val (.ref r0), .val (.int (3 : Int32)), .val (.int (3 : Int32)), .val (.double (own_R 1 x2)), .second, .val (.ref b93), .val (.int (3 : Int32))] []))
  refine Good.back (fun _ k => XS.goto X147.here hx rfl (pc0 := 92) (pc' := 16) rfl (hb hby own_d1_92) (by decide) (by decide) k) ?_
  show Good p e below _ (T147.setTop (mkF m 16 #[.val (.ref r0), .val (.ref b93), .val (.ref r0), .val (.int (3 : Int32)), .val (.int (3 : Int32)), .val (.double (own_R 1 x2)), .second, .val (.ref b93), .val (.int (3 : Int32))] []))
  refine Good.back (fun _ k => XS.iload X147.here hx rfl (hb hby own_d1_16) rfl k) ?_
  show Good p e below _ (T147.setTop (mkF m 18 #[.val (.ref r0), .val (.ref b93), .val (.ref r0), .val (.int (3 : Int32)), .val (.int (3 : Int32)), .val (.double (own_R 1 x2)), .second, .val (.ref b93), .val (.int (3 : Int32))] [(.int (3 : Int32))]))
  refine Good.back (fun _ k => XS.iloadN X147.here hx rfl (hb hby own_d1_18) rfl k) ?_
  show Good p e below _ (T147.setTop (mkF m 19 #[.val (.ref r0), .val (.ref b93), .val (.ref r0), .val (.int (3 : Int32)), .val (.int (3 : Int32)), .val (.double (own_R 1 x2)), .second, .val (.ref b93), .val (.int (3 : Int32))] [(.int (3 : Int32)), (.int (3 : Int32))]))
  refine Good.back (fun _ k => XS.icmpYes X147.here hx rfl (pc0 := 19) (pc' := 95) rfl (hb hby own_d1_19) rfl (flt (by decide : ¬ ((3 : Int32) < (3 : Int32)))).2.1 (by decide) (by decide) k) ?_
  show Good p e below _ (T147.setTop (mkF m 95 #[.val (.ref r0), .val (.ref b93), .val (.ref r0), .val (.int (3 : Int32)), .val (.int (3 : Int32)), .val (.double (own_R 1 x2)), .second, .val (.ref b93), .val (.int (3 : Int32))] []))
  refine Good.back (fun _ k => XS.aloadN X147.here hx rfl (hb hby own_d1_95) rfl rfl k) ?_
  show Good p e below _ (T147.setTop (mkF m 96 #[.val (.ref r0), .val (.ref b93), .val (.ref r0), .val (.int (3 : Int32)), .val (.int (3 : Int32)), .val (.double (own_R 1 x2)), .second, .val (.ref b93), .val (.int (3 : Int32))] [(.ref r0)]))
  have f_153 : Arv Z h93 r0 kk .double (3 : Int32) [(.double (own_R 1 x0)), (.double (own_R 1 x1)), (.double (own_R 1 x2))] (.double (FP.l2d 0)) := Arv.ext f_90 E93
  have ne_r0_b93_155 : r0 ≠ b93 := Nat.ne_of_lt (Nat.lt_of_lt_of_le f_90.lt (Nat.le_of_eq g93.symm))
  have f_154 : Arv Z h102 r0 kk .double (3 : Int32) [(.double (own_R 1 x0)), (.double (own_R 1 x1)), (.double (own_R 1 x2))] (.double (FP.l2d 0)) := Arv.other f_153 W102 ne_r0_b93_155
  have f_156 : Arv Z h111 r0 kk .double (3 : Int32) [(.double (own_R 1 x0)), (.double (own_R 1 x1)), (.double (own_R 1 x2))] (.double (FP.l2d 0)) := Arv.other f_154 W111 ne_r0_b93_155
  have f_157 : Arv Z h121 r0 kk .double (3 : Int32) [(.double (own_R 1 x0)), (.double (own_R 1 x1)), (.double (own_R 1 x2))] (.double (FP.l2d 0)) := Arv.other f_156 W121 ne_r0_b93_155
  have f_158 : Arv Z h129 r0 kk .double (3 : Int32) [(.double (own_R 1 x0)), (.double (own_R 1 x1)), (.double (own_R 1 x2))] (.double (FP.l2d 0)) := Arv.other f_157 W129 ne_r0_b93_155
  have f_159 : Arv Z h139 r0 kk .double (3 : Int32) [(.double (own_R 1 x0)), (.double (own_R 1 x1)), (.double (own_R 1 x2))] (.double (FP.l2d 0)) := Arv.other f_158 W139 ne_r0_b93_155
  have f_160 : Arv Z h147 r0 kk .double (3 : Int32) [(.double (own_R 1 x0)), (.double (own_R 1 x1)), (.double (own_R 1 x2))] (.double (FP.l2d 0)) := Arv.other f_159 W147 ne_r0_b93_155
  have fc161 := f_160
  obtain ⟨cl161, Ar161, qk161, S161, N161', H161, G161⟩ := fc161
  refine Good.back (X147.arraylength hx (by rw [e147]; exact Ar161.1) (State.isArrayOf_alike hZ.alike Ar161.2.1) (g := (mkF m 96 #[.val (.ref r0), .val (.ref b93), .val (.ref r0), .val (.int (3 : Int32)), .val (.int (3 : Int32)), .val (.double (own_R 1 x2)), .second, .val (.ref b93), .val (.int (3 : Int32))] [(.ref r0)])) rfl rfl (hb hby own_d1_96)) ?_
  rw [len_of S161 N161']
  show Good p e below _ (T147.setTop (mkF m 97 #[.val (.ref r0), .val (.ref b93), .val (.ref r0), .val (.int (3 : Int32)), .val (.int (3 : Int32)), .val (.double (own_R 1 x2)), .second, .val (.ref b93), .val (.int (3 : Int32))] [(.int (3 : Int32))]))
  refine Good.back (fun _ k => XS.istoreN X147.here hx rfl (hb hby own_d1_97) rfl (l' := #[.val (.ref r0), .val (.ref b93), .val (.int (3 : Int32)), .val (.int (3 : Int32)), .val (.int (3 : Int32)), .val (.double (own_R 1 x2)), .second, .val (.ref b93), .val (.int (3 : Int32))]) rfl k) ?_
  show Good p e below _ (T147.setTop (mkF m 98 #[.val (.ref r0), .val (.ref b93), .val (.int (3 : Int32)), .val (.int (3 : Int32)), .val (.int (3 : Int32)), .val (.double (own_R 1 x2)), .second, .val (.ref b93), .val (.int (3 : Int32))] []))
  refine Good.back (fun _ k => XS.dconst0 X147.here hx rfl (hb hby own_d1_98) (v := (FP.l2d (0 : Int64))) (by decide +kernel) k) ?_
  show Good p e below _ (T147.setTop (mkF m 99 #[.val (.ref r0), .val (.ref b93), .val (.int (3 : Int32)), .val (.int (3 : Int32)), .val (.int (3 : Int32)), .val (.double (own_R 1 x2)), .second, .val (.ref b93), .val (.int (3 : Int32))] [(.double (FP.l2d (0 : Int64)))]))
  refine Good.back (fun _ k => XS.dstoreN X147.here hx rfl (hb hby own_d1_99) rfl (l' := #[.val (.ref r0), .val (.ref b93), .val (.int (3 : Int32)), .val (.double (FP.l2d (0 : Int64))), .second, .val (.double (own_R 1 x2)), .second, .val (.ref b93), .val (.int (3 : Int32))]) rfl k) ?_
  show Good p e below _ (T147.setTop (mkF m 100 #[.val (.ref r0), .val (.ref b93), .val (.int (3 : Int32)), .val (.double (FP.l2d (0 : Int64))), .second, .val (.double (own_R 1 x2)), .second, .val (.ref b93), .val (.int (3 : Int32))] []))
  refine Good.back (fun _ k => XS.aloadN X147.here hx rfl (hb hby own_d1_100) rfl rfl k) ?_
  show Good p e below _ (T147.setTop (mkF m 101 #[.val (.ref r0), .val (.ref b93), .val (.int (3 : Int32)), .val (.double (FP.l2d (0 : Int64))), .second, .val (.double (own_R 1 x2)), .second, .val (.ref b93), .val (.int (3 : Int32))] [(.ref r0)]))
  have fc162 := f_160
  obtain ⟨cl162, Ar162, qk162, S162, N162', H162, G162⟩ := fc162
  refine Good.back (X147.arraylength hx (by rw [e147]; exact Ar162.1) (State.isArrayOf_alike hZ.alike Ar162.2.1) (g := (mkF m 101 #[.val (.ref r0), .val (.ref b93), .val (.int (3 : Int32)), .val (.double (FP.l2d (0 : Int64))), .second, .val (.double (own_R 1 x2)), .second, .val (.ref b93), .val (.int (3 : Int32))] [(.ref r0)])) rfl rfl (hb hby own_d1_101)) ?_
  rw [len_of S162 N162']
  show Good p e below _ (T147.setTop (mkF m 102 #[.val (.ref r0), .val (.ref b93), .val (.int (3 : Int32)), .val (.double (FP.l2d (0 : Int64))), .second, .val (.double (own_R 1 x2)), .second, .val (.ref b93), .val (.int (3 : Int32))] [(.int (3 : Int32))]))
  refine Good.back (fun _ k => XS.istore X147.here hx rfl (hb hby own_d1_102) rfl (l' := #[.val (.ref r0), .val (.ref b93), .val (.int (3 : Int32)), .val (.double (FP.l2d (0 : Int64))), .second, .val (.int (3 : Int32)), .unset, .val (.ref b93), .val (.int (3 : Int32))]) rfl k) ?_
  show Good p e below _ (T147.setTop (mkF m 104 #[.val (.ref r0), .val (.ref b93), .val (.int (3 : Int32)), .val (.double (FP.l2d (0 : Int64))), .second, .val (.int (3 : Int32)), .unset, .val (.ref b93), .val (.int (3 : Int32))] []))
  refine Good.back (fun _ k => XS.iload X147.here hx rfl (hb hby own_d1_104) rfl k) ?_
  show Good p e below _ (T147.setTop (mkF m 106 #[.val (.ref r0), .val (.ref b93), .val (.int (3 : Int32)), .val (.double (FP.l2d (0 : Int64))), .second, .val (.int (3 : Int32)), .unset, .val (.ref b93), .val (.int (3 : Int32))] [(.int (3 : Int32))]))
  refine Good.back (fun _ k => XS.iconst X147.here hx rfl (hb hby own_d1_106) k) ?_
  show Good p e below _ (T147.setTop (mkF m 107 #[.val (.ref r0), .val (.ref b93), .val (.int (3 : Int32)), .val (.double (FP.l2d (0 : Int64))), .second, .val (.int (3 : Int32)), .unset, .val (.ref b93), .val (.int (3 : Int32))] [(.int (1 : Int32)), (.int (3 : Int32))]))
  refine Good.back (fun _ k => XS.icmpNo X147.here hx rfl (hb hby own_d1_107) rfl (flt (by decide : ¬ ((3 : Int32) < (1 : Int32)))).1 k) ?_
  show Good p e below _ (T147.setTop (mkF m 110 #[.val (.ref r0), .val (.ref b93), .val (.int (3 : Int32)), .val (.double (FP.l2d (0 : Int64))), .second, .val (.int (3 : Int32)), .unset, .val (.ref b93), .val (.int (3 : Int32))] []))
  refine Good.back (fun _ k => XS.dloadN X147.here hx rfl (hb hby own_d1_110) rfl k) ?_
  show Good p e below _ (T147.setTop (mkF m 111 #[.val (.ref r0), .val (.ref b93), .val (.int (3 : Int32)), .val (.double (FP.l2d (0 : Int64))), .second, .val (.int (3 : Int32)), .unset, .val (.ref b93), .val (.int (3 : Int32))] [(.double (FP.l2d (0 : Int64)))]))
  refine Good.back (fun _ k => XS.aloadN X147.here hx rfl (hb hby own_d1_111) rfl rfl k) ?_
  show Good p e below _ (T147.setTop (mkF m 112 #[.val (.ref r0), .val (.ref b93), .val (.int (3 : Int32)), .val (.double (FP.l2d (0 : Int64))), .second, .val (.int (3 : Int32)), .unset, .val (.ref b93), .val (.int (3 : Int32))] [(.ref b93), (.double (FP.l2d (0 : Int64)))]))
  refine Good.back (fun _ k => XS.iload X147.here hx rfl (hb hby own_d1_112) rfl k) ?_
  show Good p e below _ (T147.setTop (mkF m 114 #[.val (.ref r0), .val (.ref b93), .val (.int (3 : Int32)), .val (.double (FP.l2d (0 : Int64))), .second, .val (.int (3 : Int32)), .unset, .val (.ref b93), .val (.int (3 : Int32))] [(.int (3 : Int32)), (.ref b93), (.double (FP.l2d (0 : Int64)))]))
  have fc163 := f_148
  obtain ⟨cl163, Ar163, qk163, S163, N163', H163, G163⟩ := fc163
  have hin163 : ¬ ((3 : Int32) < 0 ∨ cl163.slots.size ≤ ((3 : Int32)).toNatClampNeg) := inb_of S163 ⟨by decide, by decide⟩
  have hat163 : cl163.slots[((3 : Int32)).toNatClampNeg]? = some (.double (own_R 3 ((x0 * x1) * x2))) := Has.at H163 hin163 rfl
  refine Good.back (X147.daload hx (j := (3 : Int32)) (v := (.double (own_R 3 ((x0 * x1) * x2)))) (by rw [e147]; exact Ar163.1) (State.isArrayOf_alike hZ.alike Ar163.2.1) Ar163.2.2 hin163 hat163 (g := (mkF m 114 #[.val (.ref r0), .val (.ref b93), .val (.int (3 : Int32)), .val (.double (FP.l2d (0 : Int64))), .second, .val (.int (3 : Int32)), .unset, .val (.ref b93), .val (.int (3 : Int32))] [(.int (3 : Int32)), (.ref b93), (.double (FP.l2d (0 : Int64)))])) rfl rfl (hb hby own_d1_114)) ?_
  show Good p e below _ (T147.setTop (mkF m 115 #[.val (.ref r0), .val (.ref b93), .val (.int (3 : Int32)), .val (.double (FP.l2d (0 : Int64))), .second, .val (.int (3 : Int32)), .unset, .val (.ref b93), .val (.int (3 : Int32))] [(.double (own_R 3 ((x0 * x1) * x2))), (.double (FP.l2d (0 : Int64)))]))
  refine Good.back (fun _ k => XS.daddS X147.here hx rfl (hb hby own_d1_115) rfl ((own_Radd0 (Nat.lt_of_le_of_lt hb146 (by decide))).symm ▸ own_Rnn (Nat.lt_of_le_of_lt hb146 (by decide))) (own_Radd0 (Nat.lt_of_le_of_lt hb146 (by decide))) k) ?_
  show Good p e below _ (T147.setTop (mkF m 116 #[.val (.ref r0), .val (.ref b93), .val (.int (3 : Int32)), .val (.double (FP.l2d (0 : Int64))), .second, .val (.int (3 : Int32)), .unset, .val (.ref b93), .val (.int (3 : Int32))] [(.double (own_R 3 ((x0 * x1) * x2)))]))
  refine Good.back (fun _ k => XS.dstoreN X147.here hx rfl (hb hby own_d1_116) rfl (l' := #[.val (.ref r0), .val (.ref b93), .val (.int (3 : Int32)), .val (.double (own_R 3 ((x0 * x1) * x2))), .second, .val (.int (3 : Int32)), .unset, .val (.ref b93), .val (.int (3 : Int32))]) rfl k) ?_
  show Good p e below _ (T147.setTop (mkF m 117 #[.val (.ref r0), .val (.ref b93), .val (.int (3 : Int32)), .val (.double (own_R 3 ((x0 * x1) * x2))), .second, .val (.int (3 : Int32)), .unset, .val (.ref b93), .val (.int (3 : Int32))] []))
  refine Good.back (fun _ k => XS.dloadN X147.here hx rfl (hb hby own_d1_117) rfl k) ?_
  show Good p e below _ (T147.setTop (mkF m 118 #[.val (.ref r0), .val (.ref b93), .val (.int (3 : Int32)), .val (.double (own_R 3 ((x0 * x1) * x2))), .second, .val (.int (3 : Int32)), .unset, .val (.ref b93), .val (.int (3 : Int32))] [(.double (own_R 3 ((x0 * x1) * x2)))]))
  refine Good.back (X147.ldc2DoubleC hx hown (mvT hZ (hw _ (List.mem_of_getElem? (i := 7) rfl))) (g := (mkF m 118 #[.val (.ref r0), .val (.ref b93), .val (.int (3 : Int32)), .val (.double (own_R 3 ((x0 * x1) * x2))), .second, .val (.int (3 : Int32)), .unset, .val (.ref b93), .val (.int (3 : Int32))] [(.double (own_R 3 ((x0 * x1) * x2)))])) rfl (hb hby own_d1_118)) ?_
  show Good p e below _ (T147.setTop (mkF m 121 #[.val (.ref r0), .val (.ref b93), .val (.int (3 : Int32)), .val (.double (own_R 3 ((x0 * x1) * x2))), .second, .val (.int (3 : Int32)), .unset, .val (.ref b93), .val (.int (3 : Int32))] [(.double (4587366580439587226 : UInt64)), (.double (own_R 3 ((x0 * x1) * x2)))]))
  refine Good.back (fun _ k => XS.dcmpS X147.here hx rfl (hb hby own_d1_121) rfl (v := (if 20 * ((x0 * x1) * x2) < 16 ^ 3 then (-1 : Int32) else (1 : Int32))) (own_Rcmp (by decide) (Nat.lt_of_le_of_lt hb146 (by decide))) k) ?_
  show Good p e below _ (T147.setTop (mkF m 122 #[.val (.ref r0), .val (.ref b93), .val (.int (3 : Int32)), .val (.double (own_R 3 ((x0 * x1) * x2))), .second, .val (.int (3 : Int32)), .unset, .val (.ref b93), .val (.int (3 : Int32))] [(.int (if 20 * ((x0 * x1) * x2) < 16 ^ 3 then (-1 : Int32) else (1 : Int32)))]))
  by_cases hq3_164 : 20 * ((x0 * x1) * x2) < 16 ^ 3
  · rw [if_pos hq3_164]
    show Good p e below _ (T147.setTop (mkF m 122 #[.val (.ref r0), .val (.ref b93), .val (.int (3 : Int32)), .val (.double (own_R 3 ((x0 * x1) * x2))), .second, .val (.int (3 : Int32)), .unset, .val (.ref b93), .val (.int (3 : Int32))] [(.int (-1 : Int32))]))
    refine Good.back (fun _ k => XS.ifNo X147.here hx rfl (hb hby own_d1_122) rfl ((if0 _ _).trans (tlt (by decide : ((-1 : Int32) < (0 : Int32)))).2.1) k) ?_
    show Good p e below _ (T147.setTop (mkF m 125 #[.val (.ref r0), .val (.ref b93), .val (.int (3 : Int32)), .val (.double (own_R 3 ((x0 * x1) * x2))), .second, .val (.int (3 : Int32)), .unset, .val (.ref b93), .val (.int (3 : Int32))] []))
    refine Good.back (fun _ k => XS.iload X147.here hx rfl (hb hby own_d1_125) rfl k) ?_
    show Good p e below _ (T147.setTop (mkF m 127 #[.val (.ref r0), .val (.ref b93), .val (.int (3 : Int32)), .val (.double (own_R 3 ((x0 * x1) * x2))), .second, .val (.int (3 : Int32)), .unset, .val (.ref b93), .val (.int (3 : Int32))] [(.int (3 : Int32))]))
    refine Good.back (fun _ k => XS.istoreN X147.here hx rfl (hb hby own_d1_127) rfl (l' := #[.val (.ref r0), .val (.ref b93), .val (.int (3 : Int32)), .val (.double (own_R 3 ((x0 * x1) * x2))), .second, .val (.int (3 : Int32)), .unset, .val (.ref b93), .val (.int (3 : Int32))]) rfl k) ?_
    show Good p e below _ (T147.setTop (mkF m 128 #[.val (.ref r0), .val (.ref b93), .val (.int (3 : Int32)), .val (.double (own_R 3 ((x0 * x1) * x2))), .second, .val (.int (3 : Int32)), .unset, .val (.ref b93), .val (.int (3 : Int32))] []))
    refine Good.back (fun _ k => XS.iinc X147.here hx rfl (hb hby own_d1_128) rfl (l' := #[.val (.ref r0), .val (.ref b93), .val (.int (3 : Int32)), .val (.double (own_R 3 ((x0 * x1) * x2))), .second, .val (.int ((3 : Int32) + (-1 : Int32))), .unset, .val (.ref b93), .val (.int (3 : Int32))]) rfl k) ?_
    show Good p e below _ (T147.setTop (mkF m 131 #[.val (.ref r0), .val (.ref b93), .val (.int (3 : Int32)), .val (.double (own_R 3 ((x0 * x1) * x2))), .second, .val (.int ((3 : Int32) + (-1 : Int32))), .unset, .val (.ref b93), .val (.int (3 : Int32))] []))
    rw [show (((3 : Int32) + (-1 : Int32)) : Int32) = (2 : Int32) from by decide]
    show Good p e below _ (T147.setTop (mkF m 131 #[.val (.ref r0), .val (.ref b93), .val (.int (3 : Int32)), .val (.double (own_R 3 ((x0 * x1) * x2))), .second, .val (.int (2 : Int32)), .unset, .val (.ref b93), .val (.int (3 : Int32))] []))
    refine Good.back (fun _ k => XS.goto X147.here hx rfl (pc0 := 131) (pc' := 104) rfl (hb hby own_d1_131) (by decide) (by decide) k) ?_
    show Good p e below _ (T147.setTop (mkF m 104 #[.val (.ref r0), .val (.ref b93), .val (.int (3 : Int32)), .val (.double (own_R 3 ((x0 * x1) * x2))), .second, .val (.int (2 : Int32)), .unset, .val (.ref b93), .val (.int (3 : Int32))] []))
    refine Good.back (fun _ k => XS.iload X147.here hx rfl (hb hby own_d1_104) rfl k) ?_
    show Good p e below _ (T147.setTop (mkF m 106 #[.val (.ref r0), .val (.ref b93), .val (.int (3 : Int32)), .val (.double (own_R 3 ((x0 * x1) * x2))), .second, .val (.int (2 : Int32)), .unset, .val (.ref b93), .val (.int (3 : Int32))] [(.int (2 : Int32))]))
    refine Good.back (fun _ k => XS.iconst X147.here hx rfl (hb hby own_d1_106) k) ?_
    show Good p e below _ (T147.setTop (mkF m 107 #[.val (.ref r0), .val (.ref b93), .val (.int (3 : Int32)), .val (.double (own_R 3 ((x0 * x1) * x2))), .second, .val (.int (2 : Int32)), .unset, .val (.ref b93), .val (.int (3 : Int32))] [(.int (1 : Int32)), (.int (2 : Int32))]))
    refine Good.back (fun _ k => XS.icmpNo X147.here hx rfl (hb hby own_d1_107) rfl (flt (by decide : ¬ ((2 : Int32) < (1 : Int32)))).1 k) ?_
    show Good p e below _ (T147.setTop (mkF m 110 #[.val (.ref r0), .val (.ref b93), .val (.int (3 : Int32)), .val (.double (own_R 3 ((x0 * x1) * x2))), .second, .val (.int (2 : Int32)), .unset, .val (.ref b93), .val (.int (3 : Int32))] []))
    refine Good.back (fun _ k => XS.dloadN X147.here hx rfl (hb hby own_d1_110) rfl k) ?_
    show Good p e below _ (T147.setTop (mkF m 111 #[.val (.ref r0), .val (.ref b93), .val (.int (3 : Int32)), .val (.double (own_R 3 ((x0 * x1) * x2))), .second, .val (.int (2 : Int32)), .unset, .val (.ref b93), .val (.int (3 : Int32))] [(.double (own_R 3 ((x0 * x1) * x2)))]))
    refine Good.back (fun _ k => XS.aloadN X147.here hx rfl (hb hby own_d1_111) rfl rfl k) ?_
    show Good p e below _ (T147.setTop (mkF m 112 #[.val (.ref r0), .val (.ref b93), .val (.int (3 : Int32)), .val (.double (own_R 3 ((x0 * x1) * x2))), .second, .val (.int (2 : Int32)), .unset, .val (.ref b93), .val (.int (3 : Int32))] [(.ref b93), (.double (own_R 3 ((x0 * x1) * x2)))]))
    refine Good.back (fun _ k => XS.iload X147.here hx rfl (hb hby own_d1_112) rfl k) ?_
    show Good p e below _ (T147.setTop (mkF m 114 #[.val (.ref r0), .val (.ref b93), .val (.int (3 : Int32)), .val (.double (own_R 3 ((x0 * x1) * x2))), .second, .val (.int (2 : Int32)), .unset, .val (.ref b93), .val (.int (3 : Int32))] [(.int (2 : Int32)), (.ref b93), (.double (own_R 3 ((x0 * x1) * x2)))]))
    have fc165 := f_148
    obtain ⟨cl165, Ar165, qk165, S165, N165', H165, G165⟩ := fc165
    have hin165 : ¬ ((2 : Int32) < 0 ∨ cl165.slots.size ≤ ((2 : Int32)).toNatClampNeg) := inb_of S165 ⟨by decide, by decide⟩
    have hat165 : cl165.slots[((2 : Int32)).toNatClampNeg]? = some (.double (own_R 3 (((((16 - x0) * x1) + (x0 * (16 - x1))) * x2) + ((x0 * x1) * (16 - x2))))) := Has.at H165 hin165 rfl
    refine Good.back (X147.daload hx (j := (2 : Int32)) (v := (.double (own_R 3 (((((16 - x0) * x1) + (x0 * (16 - x1))) * x2) + ((x0 * x1) * (16 - x2)))))) (by rw [e147]; exact Ar165.1) (State.isArrayOf_alike hZ.alike Ar165.2.1) Ar165.2.2 hin165 hat165 (g := (mkF m 114 #[.val (.ref r0), .val (.ref b93), .val (.int (3 : Int32)), .val (.double (own_R 3 ((x0 * x1) * x2))), .second, .val (.int (2 : Int32)), .unset, .val (.ref b93), .val (.int (3 : Int32))] [(.int (2 : Int32)), (.ref b93), (.double (own_R 3 ((x0 * x1) * x2)))])) rfl rfl (hb hby own_d1_114)) ?_
    show Good p e below _ (T147.setTop (mkF m 115 #[.val (.ref r0), .val (.ref b93), .val (.int (3 : Int32)), .val (.double (own_R 3 ((x0 * x1) * x2))), .second, .val (.int (2 : Int32)), .unset, .val (.ref b93), .val (.int (3 : Int32))] [(.double (own_R 3 (((((16 - x0) * x1) + (x0 * (16 - x1))) * x2) + ((x0 * x1) * (16 - x2))))), (.double (own_R 3 ((x0 * x1) * x2)))]))
    have hb166 := Nat.add_le_add hb146 hb138
    refine Good.back (fun _ k => XS.daddS X147.here hx rfl (hb hby own_d1_115) rfl ((own_Radd (Nat.lt_of_le_of_lt hb146 (by decide)) (Nat.lt_of_le_of_lt hb138 (by decide))).symm ▸ own_Rnn (Nat.lt_of_le_of_lt hb166 (by decide))) (own_Radd (Nat.lt_of_le_of_lt hb146 (by decide)) (Nat.lt_of_le_of_lt hb138 (by decide))) k) ?_
    show Good p e below _ (T147.setTop (mkF m 116 #[.val (.ref r0), .val (.ref b93), .val (.int (3 : Int32)), .val (.double (own_R 3 ((x0 * x1) * x2))), .second, .val (.int (2 : Int32)), .unset, .val (.ref b93), .val (.int (3 : Int32))] [(.double (own_R 3 (((x0 * x1) * x2) + (((((16 - x0) * x1) + (x0 * (16 - x1))) * x2) + ((x0 * x1) * (16 - x2))))))]))
    refine Good.back (fun _ k => XS.dstoreN X147.here hx rfl (hb hby own_d1_116) rfl (l' := #[.val (.ref r0), .val (.ref b93), .val (.int (3 : Int32)), .val (.double (own_R 3 (((x0 * x1) * x2) + (((((16 - x0) * x1) + (x0 * (16 - x1))) * x2) + ((x0 * x1) * (16 - x2)))))), .second, .val (.int (2 : Int32)), .unset, .val (.ref b93), .val (.int (3 : Int32))]) rfl k) ?_
    show Good p e below _ (T147.setTop (mkF m 117 #[.val (.ref r0), .val (.ref b93), .val (.int (3 : Int32)), .val (.double (own_R 3 (((x0 * x1) * x2) + (((((16 - x0) * x1) + (x0 * (16 - x1))) * x2) + ((x0 * x1) * (16 - x2)))))), .second, .val (.int (2 : Int32)), .unset, .val (.ref b93), .val (.int (3 : Int32))] []))
    refine Good.back (fun _ k => XS.dloadN X147.here hx rfl (hb hby own_d1_117) rfl k) ?_
    show Good p e below _ (T147.setTop (mkF m 118 #[.val (.ref r0), .val (.ref b93), .val (.int (3 : Int32)), .val (.double (own_R 3 (((x0 * x1) * x2) + (((((16 - x0) * x1) + (x0 * (16 - x1))) * x2) + ((x0 * x1) * (16 - x2)))))), .second, .val (.int (2 : Int32)), .unset, .val (.ref b93), .val (.int (3 : Int32))] [(.double (own_R 3 (((x0 * x1) * x2) + (((((16 - x0) * x1) + (x0 * (16 - x1))) * x2) + ((x0 * x1) * (16 - x2))))))]))
    refine Good.back (X147.ldc2DoubleC hx hown (mvT hZ (hw _ (List.mem_of_getElem? (i := 7) rfl))) (g := (mkF m 118 #[.val (.ref r0), .val (.ref b93), .val (.int (3 : Int32)), .val (.double (own_R 3 (((x0 * x1) * x2) + (((((16 - x0) * x1) + (x0 * (16 - x1))) * x2) + ((x0 * x1) * (16 - x2)))))), .second, .val (.int (2 : Int32)), .unset, .val (.ref b93), .val (.int (3 : Int32))] [(.double (own_R 3 (((x0 * x1) * x2) + (((((16 - x0) * x1) + (x0 * (16 - x1))) * x2) + ((x0 * x1) * (16 - x2))))))])) rfl (hb hby own_d1_118)) ?_
    show Good p e below _ (T147.setTop (mkF m 121 #[.val (.ref r0), .val (.ref b93), .val (.int (3 : Int32)), .val (.double (own_R 3 (((x0 * x1) * x2) + (((((16 - x0) * x1) + (x0 * (16 - x1))) * x2) + ((x0 * x1) * (16 - x2)))))), .second, .val (.int (2 : Int32)), .unset, .val (.ref b93), .val (.int (3 : Int32))] [(.double (4587366580439587226 : UInt64)), (.double (own_R 3 (((x0 * x1) * x2) + (((((16 - x0) * x1) + (x0 * (16 - x1))) * x2) + ((x0 * x1) * (16 - x2))))))]))
    refine Good.back (fun _ k => XS.dcmpS X147.here hx rfl (hb hby own_d1_121) rfl (v := (if 20 * (((x0 * x1) * x2) + (((((16 - x0) * x1) + (x0 * (16 - x1))) * x2) + ((x0 * x1) * (16 - x2)))) < 16 ^ 3 then (-1 : Int32) else (1 : Int32))) (own_Rcmp (by decide) (Nat.lt_of_le_of_lt hb166 (by decide))) k) ?_
    show Good p e below _ (T147.setTop (mkF m 122 #[.val (.ref r0), .val (.ref b93), .val (.int (3 : Int32)), .val (.double (own_R 3 (((x0 * x1) * x2) + (((((16 - x0) * x1) + (x0 * (16 - x1))) * x2) + ((x0 * x1) * (16 - x2)))))), .second, .val (.int (2 : Int32)), .unset, .val (.ref b93), .val (.int (3 : Int32))] [(.int (if 20 * (((x0 * x1) * x2) + (((((16 - x0) * x1) + (x0 * (16 - x1))) * x2) + ((x0 * x1) * (16 - x2)))) < 16 ^ 3 then (-1 : Int32) else (1 : Int32)))]))
    by_cases hq2_167 : 20 * (((x0 * x1) * x2) + (((((16 - x0) * x1) + (x0 * (16 - x1))) * x2) + ((x0 * x1) * (16 - x2)))) < 16 ^ 3
    · rw [if_pos hq2_167]
      show Good p e below _ (T147.setTop (mkF m 122 #[.val (.ref r0), .val (.ref b93), .val (.int (3 : Int32)), .val (.double (own_R 3 (((x0 * x1) * x2) + (((((16 - x0) * x1) + (x0 * (16 - x1))) * x2) + ((x0 * x1) * (16 - x2)))))), .second, .val (.int (2 : Int32)), .unset, .val (.ref b93), .val (.int (3 : Int32))] [(.int (-1 : Int32))]))
      refine Good.back (fun _ k => XS.ifNo X147.here hx rfl (hb hby own_d1_122) rfl ((if0 _ _).trans (tlt (by decide : ((-1 : Int32) < (0 : Int32)))).2.1) k) ?_
      show Good p e below _ (T147.setTop (mkF m 125 #[.val (.ref r0), .val (.ref b93), .val (.int (3 : Int32)), .val (.double (own_R 3 (((x0 * x1) * x2) + (((((16 - x0) * x1) + (x0 * (16 - x1))) * x2) + ((x0 * x1) * (16 - x2)))))), .second, .val (.int (2 : Int32)), .unset, .val (.ref b93), .val (.int (3 : Int32))] []))
      refine Good.back (fun _ k => XS.iload X147.here hx rfl (hb hby own_d1_125) rfl k) ?_
      show Good p e below _ (T147.setTop (mkF m 127 #[.val (.ref r0), .val (.ref b93), .val (.int (3 : Int32)), .val (.double (own_R 3 (((x0 * x1) * x2) + (((((16 - x0) * x1) + (x0 * (16 - x1))) * x2) + ((x0 * x1) * (16 - x2)))))), .second, .val (.int (2 : Int32)), .unset, .val (.ref b93), .val (.int (3 : Int32))] [(.int (2 : Int32))]))
      refine Good.back (fun _ k => XS.istoreN X147.here hx rfl (hb hby own_d1_127) rfl (l' := #[.val (.ref r0), .val (.ref b93), .val (.int (2 : Int32)), .val (.double (own_R 3 (((x0 * x1) * x2) + (((((16 - x0) * x1) + (x0 * (16 - x1))) * x2) + ((x0 * x1) * (16 - x2)))))), .second, .val (.int (2 : Int32)), .unset, .val (.ref b93), .val (.int (3 : Int32))]) rfl k) ?_
      show Good p e below _ (T147.setTop (mkF m 128 #[.val (.ref r0), .val (.ref b93), .val (.int (2 : Int32)), .val (.double (own_R 3 (((x0 * x1) * x2) + (((((16 - x0) * x1) + (x0 * (16 - x1))) * x2) + ((x0 * x1) * (16 - x2)))))), .second, .val (.int (2 : Int32)), .unset, .val (.ref b93), .val (.int (3 : Int32))] []))
      refine Good.back (fun _ k => XS.iinc X147.here hx rfl (hb hby own_d1_128) rfl (l' := #[.val (.ref r0), .val (.ref b93), .val (.int (2 : Int32)), .val (.double (own_R 3 (((x0 * x1) * x2) + (((((16 - x0) * x1) + (x0 * (16 - x1))) * x2) + ((x0 * x1) * (16 - x2)))))), .second, .val (.int ((2 : Int32) + (-1 : Int32))), .unset, .val (.ref b93), .val (.int (3 : Int32))]) rfl k) ?_
      show Good p e below _ (T147.setTop (mkF m 131 #[.val (.ref r0), .val (.ref b93), .val (.int (2 : Int32)), .val (.double (own_R 3 (((x0 * x1) * x2) + (((((16 - x0) * x1) + (x0 * (16 - x1))) * x2) + ((x0 * x1) * (16 - x2)))))), .second, .val (.int ((2 : Int32) + (-1 : Int32))), .unset, .val (.ref b93), .val (.int (3 : Int32))] []))
      rw [show (((2 : Int32) + (-1 : Int32)) : Int32) = (1 : Int32) from by decide]
      show Good p e below _ (T147.setTop (mkF m 131 #[.val (.ref r0), .val (.ref b93), .val (.int (2 : Int32)), .val (.double (own_R 3 (((x0 * x1) * x2) + (((((16 - x0) * x1) + (x0 * (16 - x1))) * x2) + ((x0 * x1) * (16 - x2)))))), .second, .val (.int (1 : Int32)), .unset, .val (.ref b93), .val (.int (3 : Int32))] []))
      refine Good.back (fun _ k => XS.goto X147.here hx rfl (pc0 := 131) (pc' := 104) rfl (hb hby own_d1_131) (by decide) (by decide) k) ?_
      show Good p e below _ (T147.setTop (mkF m 104 #[.val (.ref r0), .val (.ref b93), .val (.int (2 : Int32)), .val (.double (own_R 3 (((x0 * x1) * x2) + (((((16 - x0) * x1) + (x0 * (16 - x1))) * x2) + ((x0 * x1) * (16 - x2)))))), .second, .val (.int (1 : Int32)), .unset, .val (.ref b93), .val (.int (3 : Int32))] []))
      refine Good.back (fun _ k => XS.iload X147.here hx rfl (hb hby own_d1_104) rfl k) ?_
      show Good p e below _ (T147.setTop (mkF m 106 #[.val (.ref r0), .val (.ref b93), .val (.int (2 : Int32)), .val (.double (own_R 3 (((x0 * x1) * x2) + (((((16 - x0) * x1) + (x0 * (16 - x1))) * x2) + ((x0 * x1) * (16 - x2)))))), .second, .val (.int (1 : Int32)), .unset, .val (.ref b93), .val (.int (3 : Int32))] [(.int (1 : Int32))]))
      refine Good.back (fun _ k => XS.iconst X147.here hx rfl (hb hby own_d1_106) k) ?_
      show Good p e below _ (T147.setTop (mkF m 107 #[.val (.ref r0), .val (.ref b93), .val (.int (2 : Int32)), .val (.double (own_R 3 (((x0 * x1) * x2) + (((((16 - x0) * x1) + (x0 * (16 - x1))) * x2) + ((x0 * x1) * (16 - x2)))))), .second, .val (.int (1 : Int32)), .unset, .val (.ref b93), .val (.int (3 : Int32))] [(.int (1 : Int32)), (.int (1 : Int32))]))
      refine Good.back (fun _ k => XS.icmpNo X147.here hx rfl (hb hby own_d1_107) rfl (flt (by decide : ¬ ((1 : Int32) < (1 : Int32)))).1 k) ?_
      show Good p e below _ (T147.setTop (mkF m 110 #[.val (.ref r0), .val (.ref b93), .val (.int (2 : Int32)), .val (.double (own_R 3 (((x0 * x1) * x2) + (((((16 - x0) * x1) + (x0 * (16 - x1))) * x2) + ((x0 * x1) * (16 - x2)))))), .second, .val (.int (1 : Int32)), .unset, .val (.ref b93), .val (.int (3 : Int32))] []))
      refine Good.back (fun _ k => XS.dloadN X147.here hx rfl (hb hby own_d1_110) rfl k) ?_
      show Good p e below _ (T147.setTop (mkF m 111 #[.val (.ref r0), .val (.ref b93), .val (.int (2 : Int32)), .val (.double (own_R 3 (((x0 * x1) * x2) + (((((16 - x0) * x1) + (x0 * (16 - x1))) * x2) + ((x0 * x1) * (16 - x2)))))), .second, .val (.int (1 : Int32)), .unset, .val (.ref b93), .val (.int (3 : Int32))] [(.double (own_R 3 (((x0 * x1) * x2) + (((((16 - x0) * x1) + (x0 * (16 - x1))) * x2) + ((x0 * x1) * (16 - x2))))))]))
      refine Good.back (fun _ k => XS.aloadN X147.here hx rfl (hb hby own_d1_111) rfl rfl k) ?_
      show Good p e below _ (T147.setTop (mkF m 112 #[.val (.ref r0), .val (.ref b93), .val (.int (2 : Int32)), .val (.double (own_R 3 (((x0 * x1) * x2) + (((((16 - x0) * x1) + (x0 * (16 - x1))) * x2) + ((x0 * x1) * (16 - x2)))))), .second, .val (.int (1 : Int32)), .unset, .val (.ref b93), .val (.int (3 : Int32))] [(.ref b93), (.double (own_R 3 (((x0 * x1) * x2) + (((((16 - x0) * x1) + (x0 * (16 - x1))) * x2) + ((x0 * x1) * (16 - x2))))))]))
      refine Good.back (fun _ k => XS.iload X147.here hx rfl (hb hby own_d1_112) rfl k) ?_
      show Good p e below _ (T147.setTop (mkF m 114 #[.val (.ref r0), .val (.ref b93), .val (.int (2 : Int32)), .val (.double (own_R 3 (((x0 * x1) * x2) + (((((16 - x0) * x1) + (x0 * (16 - x1))) * x2) + ((x0 * x1) * (16 - x2)))))), .second, .val (.int (1 : Int32)), .unset, .val (.ref b93), .val (.int (3 : Int32))] [(.int (1 : Int32)), (.ref b93), (.double (own_R 3 (((x0 * x1) * x2) + (((((16 - x0) * x1) + (x0 * (16 - x1))) * x2) + ((x0 * x1) * (16 - x2))))))]))
      have fc168 := f_148
      obtain ⟨cl168, Ar168, qk168, S168, N168', H168, G168⟩ := fc168
      have hin168 : ¬ ((1 : Int32) < 0 ∨ cl168.slots.size ≤ ((1 : Int32)).toNatClampNeg) := inb_of S168 ⟨by decide, by decide⟩
      have hat168 : cl168.slots[((1 : Int32)).toNatClampNeg]? = some (.double (own_R 3 ((((16 - x0) * (16 - x1)) * x2) + ((((16 - x0) * x1) + (x0 * (16 - x1))) * (16 - x2))))) := Has.at H168 hin168 rfl
      refine Good.back (X147.daload hx (j := (1 : Int32)) (v := (.double (own_R 3 ((((16 - x0) * (16 - x1)) * x2) + ((((16 - x0) * x1) + (x0 * (16 - x1))) * (16 - x2)))))) (by rw [e147]; exact Ar168.1) (State.isArrayOf_alike hZ.alike Ar168.2.1) Ar168.2.2 hin168 hat168 (g := (mkF m 114 #[.val (.ref r0), .val (.ref b93), .val (.int (2 : Int32)), .val (.double (own_R 3 (((x0 * x1) * x2) + (((((16 - x0) * x1) + (x0 * (16 - x1))) * x2) + ((x0 * x1) * (16 - x2)))))), .second, .val (.int (1 : Int32)), .unset, .val (.ref b93), .val (.int (3 : Int32))] [(.int (1 : Int32)), (.ref b93), (.double (own_R 3 (((x0 * x1) * x2) + (((((16 - x0) * x1) + (x0 * (16 - x1))) * x2) + ((x0 * x1) * (16 - x2))))))])) rfl rfl (hb hby own_d1_114)) ?_
      show Good p e below _ (T147.setTop (mkF m 115 #[.val (.ref r0), .val (.ref b93), .val (.int (2 : Int32)), .val (.double (own_R 3 (((x0 * x1) * x2) + (((((16 - x0) * x1) + (x0 * (16 - x1))) * x2) + ((x0 * x1) * (16 - x2)))))), .second, .val (.int (1 : Int32)), .unset, .val (.ref b93), .val (.int (3 : Int32))] [(.double (own_R 3 ((((16 - x0) * (16 - x1)) * x2) + ((((16 - x0) * x1) + (x0 * (16 - x1))) * (16 - x2))))), (.double (own_R 3 (((x0 * x1) * x2) + (((((16 - x0) * x1) + (x0 * (16 - x1))) * x2) + ((x0 * x1) * (16 - x2))))))]))
      have hb169 := Nat.add_le_add hb166 hb120
      refine Good.back (fun _ k => XS.daddS X147.here hx rfl (hb hby own_d1_115) rfl ((own_Radd (Nat.lt_of_le_of_lt hb166 (by decide)) (Nat.lt_of_le_of_lt hb120 (by decide))).symm ▸ own_Rnn (Nat.lt_of_le_of_lt hb169 (by decide))) (own_Radd (Nat.lt_of_le_of_lt hb166 (by decide)) (Nat.lt_of_le_of_lt hb120 (by decide))) k) ?_
      show Good p e below _ (T147.setTop (mkF m 116 #[.val (.ref r0), .val (.ref b93), .val (.int (2 : Int32)), .val (.double (own_R 3 (((x0 * x1) * x2) + (((((16 - x0) * x1) + (x0 * (16 - x1))) * x2) + ((x0 * x1) * (16 - x2)))))), .second, .val (.int (1 : Int32)), .unset, .val (.ref b93), .val (.int (3 : Int32))] [(.double (own_R 3 ((((x0 * x1) * x2) + (((((16 - x0) * x1) + (x0 * (16 - x1))) * x2) + ((x0 * x1) * (16 - x2)))) + ((((16 - x0) * (16 - x1)) * x2) + ((((16 - x0) * x1) + (x0 * (16 - x1))) * (16 - x2))))))]))
      refine Good.back (fun _ k => XS.dstoreN X147.here hx rfl (hb hby own_d1_116) rfl (l' := #[.val (.ref r0), .val (.ref b93), .val (.int (2 : Int32)), .val (.double (own_R 3 ((((x0 * x1) * x2) + (((((16 - x0) * x1) + (x0 * (16 - x1))) * x2) + ((x0 * x1) * (16 - x2)))) + ((((16 - x0) * (16 - x1)) * x2) + ((((16 - x0) * x1) + (x0 * (16 - x1))) * (16 - x2)))))), .second, .val (.int (1 : Int32)), .unset, .val (.ref b93), .val (.int (3 : Int32))]) rfl k) ?_
      show Good p e below _ (T147.setTop (mkF m 117 #[.val (.ref r0), .val (.ref b93), .val (.int (2 : Int32)), .val (.double (own_R 3 ((((x0 * x1) * x2) + (((((16 - x0) * x1) + (x0 * (16 - x1))) * x2) + ((x0 * x1) * (16 - x2)))) + ((((16 - x0) * (16 - x1)) * x2) + ((((16 - x0) * x1) + (x0 * (16 - x1))) * (16 - x2)))))), .second, .val (.int (1 : Int32)), .unset, .val (.ref b93), .val (.int (3 : Int32))] []))
      refine Good.back (fun _ k => XS.dloadN X147.here hx rfl (hb hby own_d1_117) rfl k) ?_
      show Good p e below _ (T147.setTop (mkF m 118 #[.val (.ref r0), .val (.ref b93), .val (.int (2 : Int32)), .val (.double (own_R 3 ((((x0 * x1) * x2) + (((((16 - x0) * x1) + (x0 * (16 - x1))) * x2) + ((x0 * x1) * (16 - x2)))) + ((((16 - x0) * (16 - x1)) * x2) + ((((16 - x0) * x1) + (x0 * (16 - x1))) * (16 - x2)))))), .second, .val (.int (1 : Int32)), .unset, .val (.ref b93), .val (.int (3 : Int32))] [(.double (own_R 3 ((((x0 * x1) * x2) + (((((16 - x0) * x1) + (x0 * (16 - x1))) * x2) + ((x0 * x1) * (16 - x2)))) + ((((16 - x0) * (16 - x1)) * x2) + ((((16 - x0) * x1) + (x0 * (16 - x1))) * (16 - x2))))))]))
      refine Good.back (X147.ldc2DoubleC hx hown (mvT hZ (hw _ (List.mem_of_getElem? (i := 7) rfl))) (g := (mkF m 118 #[.val (.ref r0), .val (.ref b93), .val (.int (2 : Int32)), .val (.double (own_R 3 ((((x0 * x1) * x2) + (((((16 - x0) * x1) + (x0 * (16 - x1))) * x2) + ((x0 * x1) * (16 - x2)))) + ((((16 - x0) * (16 - x1)) * x2) + ((((16 - x0) * x1) + (x0 * (16 - x1))) * (16 - x2)))))), .second, .val (.int (1 : Int32)), .unset, .val (.ref b93), .val (.int (3 : Int32))] [(.double (own_R 3 ((((x0 * x1) * x2) + (((((16 - x0) * x1) + (x0 * (16 - x1))) * x2) + ((x0 * x1) * (16 - x2)))) + ((((16 - x0) * (16 - x1)) * x2) + ((((16 - x0) * x1) + (x0 * (16 - x1))) * (16 - x2))))))])) rfl (hb hby own_d1_118)) ?_
      show Good p e below _ (T147.setTop (mkF m 121 #[.val (.ref r0), .val (.ref b93), .val (.int (2 : Int32)), .val (.double (own_R 3 ((((x0 * x1) * x2) + (((((16 - x0) * x1) + (x0 * (16 - x1))) * x2) + ((x0 * x1) * (16 - x2)))) + ((((16 - x0) * (16 - x1)) * x2) + ((((16 - x0) * x1) + (x0 * (16 - x1))) * (16 - x2)))))), .second, .val (.int (1 : Int32)), .unset, .val (.ref b93), .val (.int (3 : Int32))] [(.double (4587366580439587226 : UInt64)), (.double (own_R 3 ((((x0 * x1) * x2) + (((((16 - x0) * x1) + (x0 * (16 - x1))) * x2) + ((x0 * x1) * (16 - x2)))) + ((((16 - x0) * (16 - x1)) * x2) + ((((16 - x0) * x1) + (x0 * (16 - x1))) * (16 - x2))))))]))
      refine Good.back (fun _ k => XS.dcmpS X147.here hx rfl (hb hby own_d1_121) rfl (v := (if 20 * ((((x0 * x1) * x2) + (((((16 - x0) * x1) + (x0 * (16 - x1))) * x2) + ((x0 * x1) * (16 - x2)))) + ((((16 - x0) * (16 - x1)) * x2) + ((((16 - x0) * x1) + (x0 * (16 - x1))) * (16 - x2)))) < 16 ^ 3 then (-1 : Int32) else (1 : Int32))) (own_Rcmp (by decide) (Nat.lt_of_le_of_lt hb169 (by decide))) k) ?_
      show Good p e below _ (T147.setTop (mkF m 122 #[.val (.ref r0), .val (.ref b93), .val (.int (2 : Int32)), .val (.double (own_R 3 ((((x0 * x1) * x2) + (((((16 - x0) * x1) + (x0 * (16 - x1))) * x2) + ((x0 * x1) * (16 - x2)))) + ((((16 - x0) * (16 - x1)) * x2) + ((((16 - x0) * x1) + (x0 * (16 - x1))) * (16 - x2)))))), .second, .val (.int (1 : Int32)), .unset, .val (.ref b93), .val (.int (3 : Int32))] [(.int (if 20 * ((((x0 * x1) * x2) + (((((16 - x0) * x1) + (x0 * (16 - x1))) * x2) + ((x0 * x1) * (16 - x2)))) + ((((16 - x0) * (16 - x1)) * x2) + ((((16 - x0) * x1) + (x0 * (16 - x1))) * (16 - x2)))) < 16 ^ 3 then (-1 : Int32) else (1 : Int32)))]))
      by_cases hq1_170 : 20 * ((((x0 * x1) * x2) + (((((16 - x0) * x1) + (x0 * (16 - x1))) * x2) + ((x0 * x1) * (16 - x2)))) + ((((16 - x0) * (16 - x1)) * x2) + ((((16 - x0) * x1) + (x0 * (16 - x1))) * (16 - x2)))) < 16 ^ 3
      · rw [if_pos hq1_170]
        show Good p e below _ (T147.setTop (mkF m 122 #[.val (.ref r0), .val (.ref b93), .val (.int (2 : Int32)), .val (.double (own_R 3 ((((x0 * x1) * x2) + (((((16 - x0) * x1) + (x0 * (16 - x1))) * x2) + ((x0 * x1) * (16 - x2)))) + ((((16 - x0) * (16 - x1)) * x2) + ((((16 - x0) * x1) + (x0 * (16 - x1))) * (16 - x2)))))), .second, .val (.int (1 : Int32)), .unset, .val (.ref b93), .val (.int (3 : Int32))] [(.int (-1 : Int32))]))
        refine Good.back (fun _ k => XS.ifNo X147.here hx rfl (hb hby own_d1_122) rfl ((if0 _ _).trans (tlt (by decide : ((-1 : Int32) < (0 : Int32)))).2.1) k) ?_
        show Good p e below _ (T147.setTop (mkF m 125 #[.val (.ref r0), .val (.ref b93), .val (.int (2 : Int32)), .val (.double (own_R 3 ((((x0 * x1) * x2) + (((((16 - x0) * x1) + (x0 * (16 - x1))) * x2) + ((x0 * x1) * (16 - x2)))) + ((((16 - x0) * (16 - x1)) * x2) + ((((16 - x0) * x1) + (x0 * (16 - x1))) * (16 - x2)))))), .second, .val (.int (1 : Int32)), .unset, .val (.ref b93), .val (.int (3 : Int32))] []))
        refine Good.back (fun _ k => XS.iload X147.here hx rfl (hb hby own_d1_125) rfl k) ?_
        show Good p e below _ (T147.setTop (mkF m 127 #[.val (.ref r0), .val (.ref b93), .val (.int (2 : Int32)), .val (.double (own_R 3 ((((x0 * x1) * x2) + (((((16 - x0) * x1) + (x0 * (16 - x1))) * x2) + ((x0 * x1) * (16 - x2)))) + ((((16 - x0) * (16 - x1)) * x2) + ((((16 - x0) * x1) + (x0 * (16 - x1))) * (16 - x2)))))), .second, .val (.int (1 : Int32)), .unset, .val (.ref b93), .val (.int (3 : Int32))] [(.int (1 : Int32))]))
        refine Good.back (fun _ k => XS.istoreN X147.here hx rfl (hb hby own_d1_127) rfl (l' := #[.val (.ref r0), .val (.ref b93), .val (.int (1 : Int32)), .val (.double (own_R 3 ((((x0 * x1) * x2) + (((((16 - x0) * x1) + (x0 * (16 - x1))) * x2) + ((x0 * x1) * (16 - x2)))) + ((((16 - x0) * (16 - x1)) * x2) + ((((16 - x0) * x1) + (x0 * (16 - x1))) * (16 - x2)))))), .second, .val (.int (1 : Int32)), .unset, .val (.ref b93), .val (.int (3 : Int32))]) rfl k) ?_
        show Good p e below _ (T147.setTop (mkF m 128 #[.val (.ref r0), .val (.ref b93), .val (.int (1 : Int32)), .val (.double (own_R 3 ((((x0 * x1) * x2) + (((((16 - x0) * x1) + (x0 * (16 - x1))) * x2) + ((x0 * x1) * (16 - x2)))) + ((((16 - x0) * (16 - x1)) * x2) + ((((16 - x0) * x1) + (x0 * (16 - x1))) * (16 - x2)))))), .second, .val (.int (1 : Int32)), .unset, .val (.ref b93), .val (.int (3 : Int32))] []))
        refine Good.back (fun _ k => XS.iinc X147.here hx rfl (hb hby own_d1_128) rfl (l' := #[.val (.ref r0), .val (.ref b93), .val (.int (1 : Int32)), .val (.double (own_R 3 ((((x0 * x1) * x2) + (((((16 - x0) * x1) + (x0 * (16 - x1))) * x2) + ((x0 * x1) * (16 - x2)))) + ((((16 - x0) * (16 - x1)) * x2) + ((((16 - x0) * x1) + (x0 * (16 - x1))) * (16 - x2)))))), .second, .val (.int ((1 : Int32) + (-1 : Int32))), .unset, .val (.ref b93), .val (.int (3 : Int32))]) rfl k) ?_
        show Good p e below _ (T147.setTop (mkF m 131 #[.val (.ref r0), .val (.ref b93), .val (.int (1 : Int32)), .val (.double (own_R 3 ((((x0 * x1) * x2) + (((((16 - x0) * x1) + (x0 * (16 - x1))) * x2) + ((x0 * x1) * (16 - x2)))) + ((((16 - x0) * (16 - x1)) * x2) + ((((16 - x0) * x1) + (x0 * (16 - x1))) * (16 - x2)))))), .second, .val (.int ((1 : Int32) + (-1 : Int32))), .unset, .val (.ref b93), .val (.int (3 : Int32))] []))
        rw [show (((1 : Int32) + (-1 : Int32)) : Int32) = (0 : Int32) from by decide]
        show Good p e below _ (T147.setTop (mkF m 131 #[.val (.ref r0), .val (.ref b93), .val (.int (1 : Int32)), .val (.double (own_R 3 ((((x0 * x1) * x2) + (((((16 - x0) * x1) + (x0 * (16 - x1))) * x2) + ((x0 * x1) * (16 - x2)))) + ((((16 - x0) * (16 - x1)) * x2) + ((((16 - x0) * x1) + (x0 * (16 - x1))) * (16 - x2)))))), .second, .val (.int (0 : Int32)), .unset, .val (.ref b93), .val (.int (3 : Int32))] []))
        refine Good.back (fun _ k => XS.goto X147.here hx rfl (pc0 := 131) (pc' := 104) rfl (hb hby own_d1_131) (by decide) (by decide) k) ?_
        show Good p e below _ (T147.setTop (mkF m 104 #[.val (.ref r0), .val (.ref b93), .val (.int (1 : Int32)), .val (.double (own_R 3 ((((x0 * x1) * x2) + (((((16 - x0) * x1) + (x0 * (16 - x1))) * x2) + ((x0 * x1) * (16 - x2)))) + ((((16 - x0) * (16 - x1)) * x2) + ((((16 - x0) * x1) + (x0 * (16 - x1))) * (16 - x2)))))), .second, .val (.int (0 : Int32)), .unset, .val (.ref b93), .val (.int (3 : Int32))] []))
        refine Good.back (fun _ k => XS.iload X147.here hx rfl (hb hby own_d1_104) rfl k) ?_
        show Good p e below _ (T147.setTop (mkF m 106 #[.val (.ref r0), .val (.ref b93), .val (.int (1 : Int32)), .val (.double (own_R 3 ((((x0 * x1) * x2) + (((((16 - x0) * x1) + (x0 * (16 - x1))) * x2) + ((x0 * x1) * (16 - x2)))) + ((((16 - x0) * (16 - x1)) * x2) + ((((16 - x0) * x1) + (x0 * (16 - x1))) * (16 - x2)))))), .second, .val (.int (0 : Int32)), .unset, .val (.ref b93), .val (.int (3 : Int32))] [(.int (0 : Int32))]))
        refine Good.back (fun _ k => XS.iconst X147.here hx rfl (hb hby own_d1_106) k) ?_
        show Good p e below _ (T147.setTop (mkF m 107 #[.val (.ref r0), .val (.ref b93), .val (.int (1 : Int32)), .val (.double (own_R 3 ((((x0 * x1) * x2) + (((((16 - x0) * x1) + (x0 * (16 - x1))) * x2) + ((x0 * x1) * (16 - x2)))) + ((((16 - x0) * (16 - x1)) * x2) + ((((16 - x0) * x1) + (x0 * (16 - x1))) * (16 - x2)))))), .second, .val (.int (0 : Int32)), .unset, .val (.ref b93), .val (.int (3 : Int32))] [(.int (1 : Int32)), (.int (0 : Int32))]))
        refine Good.back (fun _ k => XS.icmpYes X147.here hx rfl (pc0 := 107) (pc' := 134) rfl (hb hby own_d1_107) rfl (tlt (by decide : ((0 : Int32) < (1 : Int32)))).1 (by decide) (by decide) k) ?_
        show Good p e below _ (T147.setTop (mkF m 134 #[.val (.ref r0), .val (.ref b93), .val (.int (1 : Int32)), .val (.double (own_R 3 ((((x0 * x1) * x2) + (((((16 - x0) * x1) + (x0 * (16 - x1))) * x2) + ((x0 * x1) * (16 - x2)))) + ((((16 - x0) * (16 - x1)) * x2) + ((((16 - x0) * x1) + (x0 * (16 - x1))) * (16 - x2)))))), .second, .val (.int (0 : Int32)), .unset, .val (.ref b93), .val (.int (3 : Int32))] []))
        refine Good.back (fun _ k => XS.iloadN X147.here hx rfl (hb hby own_d1_134) rfl k) ?_
        show Good p e below _ (T147.setTop (mkF m 135 #[.val (.ref r0), .val (.ref b93), .val (.int (1 : Int32)), .val (.double (own_R 3 ((((x0 * x1) * x2) + (((((16 - x0) * x1) + (x0 * (16 - x1))) * x2) + ((x0 * x1) * (16 - x2)))) + ((((16 - x0) * (16 - x1)) * x2) + ((((16 - x0) * x1) + (x0 * (16 - x1))) * (16 - x2)))))), .second, .val (.int (0 : Int32)), .unset, .val (.ref b93), .val (.int (3 : Int32))] [(.int (1 : Int32))]))
        obtain ⟨fs171, hr171, hrun171, hended171, hW171, hsame171⟩ := X147.leave (v := some (.int (1 : Int32))) (fun h => by rw [Bd.returns] at h; cases h)
        refine Good.done (retI X147 hx Bd.returns (hb hby own_d1_135) hr171) hrun171 hended171 ⟨_, _, rfl, ?_, ⟨_, rfl⟩, hW171, hsame171.mono (by decide) (by decide)⟩
        show Q1_3 Z r0 kk x0 x1 x2 h0 n0 _ T147.heap _
        rw [e147]
        exact ⟨congrArg (fun z => some (Value.int z)) (by rw [if_pos hq1_170]), N147, K150⟩
      · rw [if_neg hq1_170]
        show Good p e below _ (T147.setTop (mkF m 122 #[.val (.ref r0), .val (.ref b93), .val (.int (2 : Int32)), .val (.double (own_R 3 ((((x0 * x1) * x2) + (((((16 - x0) * x1) + (x0 * (16 - x1))) * x2) + ((x0 * x1) * (16 - x2)))) + ((((16 - x0) * (16 - x1)) * x2) + ((((16 - x0) * x1) + (x0 * (16 - x1))) * (16 - x2)))))), .second, .val (.int (1 : Int32)), .unset, .val (.ref b93), .val (.int (3 : Int32))] [(.int (1 : Int32))]))
        refine Good.back (fun _ k => XS.ifYes X147.here hx rfl (pc0 := 122) (pc' := 128) rfl (hb hby own_d1_122) rfl ((if0 _ _).trans (flt (by decide : ¬ ((1 : Int32) < (0 : Int32)))).2.1) (by decide) (by decide) k) ?_
        show Good p e below _ (T147.setTop (mkF m 128 #[.val (.ref r0), .val (.ref b93), .val (.int (2 : Int32)), .val (.double (own_R 3 ((((x0 * x1) * x2) + (((((16 - x0) * x1) + (x0 * (16 - x1))) * x2) + ((x0 * x1) * (16 - x2)))) + ((((16 - x0) * (16 - x1)) * x2) + ((((16 - x0) * x1) + (x0 * (16 - x1))) * (16 - x2)))))), .second, .val (.int (1 : Int32)), .unset, .val (.ref b93), .val (.int (3 : Int32))] []))
        refine Good.back (fun _ k => XS.iinc X147.here hx rfl (hb hby own_d1_128) rfl (l' := #[.val (.ref r0), .val (.ref b93), .val (.int (2 : Int32)), .val (.double (own_R 3 ((((x0 * x1) * x2) + (((((16 - x0) * x1) + (x0 * (16 - x1))) * x2) + ((x0 * x1) * (16 - x2)))) + ((((16 - x0) * (16 - x1)) * x2) + ((((16 - x0) * x1) + (x0 * (16 - x1))) * (16 - x2)))))), .second, .val (.int ((1 : Int32) + (-1 : Int32))), .unset, .val (.ref b93), .val (.int (3 : Int32))]) rfl k) ?_
        show Good p e below _ (T147.setTop (mkF m 131 #[.val (.ref r0), .val (.ref b93), .val (.int (2 : Int32)), .val (.double (own_R 3 ((((x0 * x1) * x2) + (((((16 - x0) * x1) + (x0 * (16 - x1))) * x2) + ((x0 * x1) * (16 - x2)))) + ((((16 - x0) * (16 - x1)) * x2) + ((((16 - x0) * x1) + (x0 * (16 - x1))) * (16 - x2)))))), .second, .val (.int ((1 : Int32) + (-1 : Int32))), .unset, .val (.ref b93), .val (.int (3 : Int32))] []))
        rw [show (((1 : Int32) + (-1 : Int32)) : Int32) = (0 : Int32) from by decide]
        show Good p e below _ (T147.setTop (mkF m 131 #[.val (.ref r0), .val (.ref b93), .val (.int (2 : Int32)), .val (.double (own_R 3 ((((x0 * x1) * x2) + (((((16 - x0) * x1) + (x0 * (16 - x1))) * x2) + ((x0 * x1) * (16 - x2)))) + ((((16 - x0) * (16 - x1)) * x2) + ((((16 - x0) * x1) + (x0 * (16 - x1))) * (16 - x2)))))), .second, .val (.int (0 : Int32)), .unset, .val (.ref b93), .val (.int (3 : Int32))] []))
        refine Good.back (fun _ k => XS.goto X147.here hx rfl (pc0 := 131) (pc' := 104) rfl (hb hby own_d1_131) (by decide) (by decide) k) ?_
        show Good p e below _ (T147.setTop (mkF m 104 #[.val (.ref r0), .val (.ref b93), .val (.int (2 : Int32)), .val (.double (own_R 3 ((((x0 * x1) * x2) + (((((16 - x0) * x1) + (x0 * (16 - x1))) * x2) + ((x0 * x1) * (16 - x2)))) + ((((16 - x0) * (16 - x1)) * x2) + ((((16 - x0) * x1) + (x0 * (16 - x1))) * (16 - x2)))))), .second, .val (.int (0 : Int32)), .unset, .val (.ref b93), .val (.int (3 : Int32))] []))
        refine Good.back (fun _ k => XS.iload X147.here hx rfl (hb hby own_d1_104) rfl k) ?_
        show Good p e below _ (T147.setTop (mkF m 106 #[.val (.ref r0), .val (.ref b93), .val (.int (2 : Int32)), .val (.double (own_R 3 ((((x0 * x1) * x2) + (((((16 - x0) * x1) + (x0 * (16 - x1))) * x2) + ((x0 * x1) * (16 - x2)))) + ((((16 - x0) * (16 - x1)) * x2) + ((((16 - x0) * x1) + (x0 * (16 - x1))) * (16 - x2)))))), .second, .val (.int (0 : Int32)), .unset, .val (.ref b93), .val (.int (3 : Int32))] [(.int (0 : Int32))]))
        refine Good.back (fun _ k => XS.iconst X147.here hx rfl (hb hby own_d1_106) k) ?_
        show Good p e below _ (T147.setTop (mkF m 107 #[.val (.ref r0), .val (.ref b93), .val (.int (2 : Int32)), .val (.double (own_R 3 ((((x0 * x1) * x2) + (((((16 - x0) * x1) + (x0 * (16 - x1))) * x2) + ((x0 * x1) * (16 - x2)))) + ((((16 - x0) * (16 - x1)) * x2) + ((((16 - x0) * x1) + (x0 * (16 - x1))) * (16 - x2)))))), .second, .val (.int (0 : Int32)), .unset, .val (.ref b93), .val (.int (3 : Int32))] [(.int (1 : Int32)), (.int (0 : Int32))]))
        refine Good.back (fun _ k => XS.icmpYes X147.here hx rfl (pc0 := 107) (pc' := 134) rfl (hb hby own_d1_107) rfl (tlt (by decide : ((0 : Int32) < (1 : Int32)))).1 (by decide) (by decide) k) ?_
        show Good p e below _ (T147.setTop (mkF m 134 #[.val (.ref r0), .val (.ref b93), .val (.int (2 : Int32)), .val (.double (own_R 3 ((((x0 * x1) * x2) + (((((16 - x0) * x1) + (x0 * (16 - x1))) * x2) + ((x0 * x1) * (16 - x2)))) + ((((16 - x0) * (16 - x1)) * x2) + ((((16 - x0) * x1) + (x0 * (16 - x1))) * (16 - x2)))))), .second, .val (.int (0 : Int32)), .unset, .val (.ref b93), .val (.int (3 : Int32))] []))
        refine Good.back (fun _ k => XS.iloadN X147.here hx rfl (hb hby own_d1_134) rfl k) ?_
        show Good p e below _ (T147.setTop (mkF m 135 #[.val (.ref r0), .val (.ref b93), .val (.int (2 : Int32)), .val (.double (own_R 3 ((((x0 * x1) * x2) + (((((16 - x0) * x1) + (x0 * (16 - x1))) * x2) + ((x0 * x1) * (16 - x2)))) + ((((16 - x0) * (16 - x1)) * x2) + ((((16 - x0) * x1) + (x0 * (16 - x1))) * (16 - x2)))))), .second, .val (.int (0 : Int32)), .unset, .val (.ref b93), .val (.int (3 : Int32))] [(.int (2 : Int32))]))
        obtain ⟨fs172, hr172, hrun172, hended172, hW172, hsame172⟩ := X147.leave (v := some (.int (2 : Int32))) (fun h => by rw [Bd.returns] at h; cases h)
        refine Good.done (retI X147 hx Bd.returns (hb hby own_d1_135) hr172) hrun172 hended172 ⟨_, _, rfl, ?_, ⟨_, rfl⟩, hW172, hsame172.mono (by decide) (by decide)⟩
        show Q1_3 Z r0 kk x0 x1 x2 h0 n0 _ T147.heap _
        rw [e147]
        exact ⟨congrArg (fun z => some (Value.int z)) (by rw [if_neg hq1_170, if_pos hq2_167]), N147, K150⟩
    · rw [if_neg hq2_167]
      show Good p e below _ (T147.setTop (mkF m 122 #[.val (.ref r0), .val (.ref b93), .val (.int (3 : Int32)), .val (.double (own_R 3 (((x0 * x1) * x2) + (((((16 - x0) * x1) + (x0 * (16 - x1))) * x2) + ((x0 * x1) * (16 - x2)))))), .second, .val (.int (2 : Int32)), .unset, .val (.ref b93), .val (.int (3 : Int32))] [(.int (1 : Int32))]))
      refine Good.back (fun _ k => XS.ifYes X147.here hx rfl (pc0 := 122) (pc' := 128) rfl (hb hby own_d1_122) rfl ((if0 _ _).trans (flt (by decide : ¬ ((1 : Int32) < (0 : Int32)))).2.1) (by decide) (by decide) k) ?_
      show Good p e below _ (T147.setTop (mkF m 128 #[.val (.ref r0), .val (.ref b93), .val (.int (3 : Int32)), .val (.double (own_R 3 (((x0 * x1) * x2) + (((((16 - x0) * x1) + (x0 * (16 - x1))) * x2) + ((x0 * x1) * (16 - x2)))))), .second, .val (.int (2 : Int32)), .unset, .val (.ref b93), .val (.int (3 : Int32))] []))
      refine Good.back (fun _ k => XS.iinc X147.here hx rfl (hb hby own_d1_128) rfl (l' := #[.val (.ref r0), .val (.ref b93), .val (.int (3 : Int32)), .val (.double (own_R 3 (((x0 * x1) * x2) + (((((16 - x0) * x1) + (x0 * (16 - x1))) * x2) + ((x0 * x1) * (16 - x2)))))), .second, .val (.int ((2 : Int32) + (-1 : Int32))), .unset, .val (.ref b93), .val (.int (3 : Int32))]) rfl k) ?_
      show Good p e below _ (T147.setTop (mkF m 131 #[.val (.ref r0), .val (.ref b93), .val (.int (3 : Int32)), .val (.double (own_R 3 (((x0 * x1) * x2) + (((((16 - x0) * x1) + (x0 * (16 - x1))) * x2) + ((x0 * x1) * (16 - x2)))))), .second, .val (.int ((2 : Int32) + (-1 : Int32))), .unset, .val (.ref b93), .val (.int (3 : Int32))] []))
      rw [show (((2 : Int32) + (-1 : Int32)) : Int32) = (1 : Int32) from by decide]
      show Good p e below _ (T147.setTop (mkF m 131 #[.val (.ref r0), .val (.ref b93), .val (.int (3 : Int32)), .val (.double (own_R 3 (((x0 * x1) * x2) + (((((16 - x0) * x1) + (x0 * (16 - x1))) * x2) + ((x0 * x1) * (16 - x2)))))), .second, .val (.int (1 : Int32)), .unset, .val (.ref b93), .val (.int (3 : Int32))] []))
      refine Good.back (fun _ k => XS.goto X147.here hx rfl (pc0 := 131) (pc' := 104) rfl (hb hby own_d1_131) (by decide) (by decide) k) ?_
      show Good p e below _ (T147.setTop (mkF m 104 #[.val (.ref r0), .val (.ref b93), .val (.int (3 : Int32)), .val (.double (own_R 3 (((x0 * x1) * x2) + (((((16 - x0) * x1) + (x0 * (16 - x1))) * x2) + ((x0 * x1) * (16 - x2)))))), .second, .val (.int (1 : Int32)), .unset, .val (.ref b93), .val (.int (3 : Int32))] []))
      refine Good.back (fun _ k => XS.iload X147.here hx rfl (hb hby own_d1_104) rfl k) ?_
      show Good p e below _ (T147.setTop (mkF m 106 #[.val (.ref r0), .val (.ref b93), .val (.int (3 : Int32)), .val (.double (own_R 3 (((x0 * x1) * x2) + (((((16 - x0) * x1) + (x0 * (16 - x1))) * x2) + ((x0 * x1) * (16 - x2)))))), .second, .val (.int (1 : Int32)), .unset, .val (.ref b93), .val (.int (3 : Int32))] [(.int (1 : Int32))]))
      refine Good.back (fun _ k => XS.iconst X147.here hx rfl (hb hby own_d1_106) k) ?_
      show Good p e below _ (T147.setTop (mkF m 107 #[.val (.ref r0), .val (.ref b93), .val (.int (3 : Int32)), .val (.double (own_R 3 (((x0 * x1) * x2) + (((((16 - x0) * x1) + (x0 * (16 - x1))) * x2) + ((x0 * x1) * (16 - x2)))))), .second, .val (.int (1 : Int32)), .unset, .val (.ref b93), .val (.int (3 : Int32))] [(.int (1 : Int32)), (.int (1 : Int32))]))
      refine Good.back (fun _ k => XS.icmpNo X147.here hx rfl (hb hby own_d1_107) rfl (flt (by decide : ¬ ((1 : Int32) < (1 : Int32)))).1 k) ?_
      show Good p e below _ (T147.setTop (mkF m 110 #[.val (.ref r0), .val (.ref b93), .val (.int (3 : Int32)), .val (.double (own_R 3 (((x0 * x1) * x2) + (((((16 - x0) * x1) + (x0 * (16 - x1))) * x2) + ((x0 * x1) * (16 - x2)))))), .second, .val (.int (1 : Int32)), .unset, .val (.ref b93), .val (.int (3 : Int32))] []))
      refine Good.back (fun _ k => XS.dloadN X147.here hx rfl (hb hby own_d1_110) rfl k) ?_
      show Good p e below _ (T147.setTop (mkF m 111 #[.val (.ref r0), .val (.ref b93), .val (.int (3 : Int32)), .val (.double (own_R 3 (((x0 * x1) * x2) + (((((16 - x0) * x1) + (x0 * (16 - x1))) * x2) + ((x0 * x1) * (16 - x2)))))), .second, .val (.int (1 : Int32)), .unset, .val (.ref b93), .val (.int (3 : Int32))] [(.double (own_R 3 (((x0 * x1) * x2) + (((((16 - x0) * x1) + (x0 * (16 - x1))) * x2) + ((x0 * x1) * (16 - x2))))))]))
      refine Good.back (fun _ k => XS.aloadN X147.here hx rfl (hb hby own_d1_111) rfl rfl k) ?_
      show Good p e below _ (T147.setTop (mkF m 112 #[.val (.ref r0), .val (.ref b93), .val (.int (3 : Int32)), .val (.double (own_R 3 (((x0 * x1) * x2) + (((((16 - x0) * x1) + (x0 * (16 - x1))) * x2) + ((x0 * x1) * (16 - x2)))))), .second, .val (.int (1 : Int32)), .unset, .val (.ref b93), .val (.int (3 : Int32))] [(.ref b93), (.double (own_R 3 (((x0 * x1) * x2) + (((((16 - x0) * x1) + (x0 * (16 - x1))) * x2) + ((x0 * x1) * (16 - x2))))))]))
      refine Good.back (fun _ k => XS.iload X147.here hx rfl (hb hby own_d1_112) rfl k) ?_
      show Good p e below _ (T147.setTop (mkF m 114 #[.val (.ref r0), .val (.ref b93), .val (.int (3 : Int32)), .val (.double (own_R 3 (((x0 * x1) * x2) + (((((16 - x0) * x1) + (x0 * (16 - x1))) * x2) + ((x0 * x1) * (16 - x2)))))), .second, .val (.int (1 : Int32)), .unset, .val (.ref b93), .val (.int (3 : Int32))] [(.int (1 : Int32)), (.ref b93), (.double (own_R 3 (((x0 * x1) * x2) + (((((16 - x0) * x1) + (x0 * (16 - x1))) * x2) + ((x0 * x1) * (16 - x2))))))]))
      have fc173 := f_148
      obtain ⟨cl173, Ar173, qk173, S173, N173', H173, G173⟩ := fc173
      have hin173 : ¬ ((1 : Int32) < 0 ∨ cl173.slots.size ≤ ((1 : Int32)).toNatClampNeg) := inb_of S173 ⟨by decide, by decide⟩
      have hat173 : cl173.slots[((1 : Int32)).toNatClampNeg]? = some (.double (own_R 3 ((((16 - x0) * (16 - x1)) * x2) + ((((16 - x0) * x1) + (x0 * (16 - x1))) * (16 - x2))))) := Has.at H173 hin173 rfl
      refine Good.back (X147.daload hx (j := (1 : Int32)) (v := (.double (own_R 3 ((((16 - x0) * (16 - x1)) * x2) + ((((16 - x0) * x1) + (x0 * (16 - x1))) * (16 - x2)))))) (by rw [e147]; exact Ar173.1) (State.isArrayOf_alike hZ.alike Ar173.2.1) Ar173.2.2 hin173 hat173 (g := (mkF m 114 #[.val (.ref r0), .val (.ref b93), .val (.int (3 : Int32)), .val (.double (own_R 3 (((x0 * x1) * x2) + (((((16 - x0) * x1) + (x0 * (16 - x1))) * x2) + ((x0 * x1) * (16 - x2)))))), .second, .val (.int (1 : Int32)), .unset, .val (.ref b93), .val (.int (3 : Int32))] [(.int (1 : Int32)), (.ref b93), (.double (own_R 3 (((x0 * x1) * x2) + (((((16 - x0) * x1) + (x0 * (16 - x1))) * x2) + ((x0 * x1) * (16 - x2))))))])) rfl rfl (hb hby own_d1_114)) ?_
      show Good p e below _ (T147.setTop (mkF m 115 #[.val (.ref r0), .val (.ref b93), .val (.int (3 : Int32)), .val (.double (own_R 3 (((x0 * x1) * x2) + (((((16 - x0) * x1) + (x0 * (16 - x1))) * x2) + ((x0 * x1) * (16 - x2)))))), .second, .val (.int (1 : Int32)), .unset, .val (.ref b93), .val (.int (3 : Int32))] [(.double (own_R 3 ((((16 - x0) * (16 - x1)) * x2) + ((((16 - x0) * x1) + (x0 * (16 - x1))) * (16 - x2))))), (.double (own_R 3 (((x0 * x1) * x2) + (((((16 - x0) * x1) + (x0 * (16 - x1))) * x2) + ((x0 * x1) * (16 - x2))))))]))
      have hb174 := Nat.add_le_add hb166 hb120
      refine Good.back (fun _ k => XS.daddS X147.here hx rfl (hb hby own_d1_115) rfl ((own_Radd (Nat.lt_of_le_of_lt hb166 (by decide)) (Nat.lt_of_le_of_lt hb120 (by decide))).symm ▸ own_Rnn (Nat.lt_of_le_of_lt hb174 (by decide))) (own_Radd (Nat.lt_of_le_of_lt hb166 (by decide)) (Nat.lt_of_le_of_lt hb120 (by decide))) k) ?_
      show Good p e below _ (T147.setTop (mkF m 116 #[.val (.ref r0), .val (.ref b93), .val (.int (3 : Int32)), .val (.double (own_R 3 (((x0 * x1) * x2) + (((((16 - x0) * x1) + (x0 * (16 - x1))) * x2) + ((x0 * x1) * (16 - x2)))))), .second, .val (.int (1 : Int32)), .unset, .val (.ref b93), .val (.int (3 : Int32))] [(.double (own_R 3 ((((x0 * x1) * x2) + (((((16 - x0) * x1) + (x0 * (16 - x1))) * x2) + ((x0 * x1) * (16 - x2)))) + ((((16 - x0) * (16 - x1)) * x2) + ((((16 - x0) * x1) + (x0 * (16 - x1))) * (16 - x2))))))]))
      refine Good.back (fun _ k => XS.dstoreN X147.here hx rfl (hb hby own_d1_116) rfl (l' := #[.val (.ref r0), .val (.ref b93), .val (.int (3 : Int32)), .val (.double (own_R 3 ((((x0 * x1) * x2) + (((((16 - x0) * x1) + (x0 * (16 - x1))) * x2) + ((x0 * x1) * (16 - x2)))) + ((((16 - x0) * (16 - x1)) * x2) + ((((16 - x0) * x1) + (x0 * (16 - x1))) * (16 - x2)))))), .second, .val (.int (1 : Int32)), .unset, .val (.ref b93), .val (.int (3 : Int32))]) rfl k) ?_
      show Good p e below _ (T147.setTop (mkF m 117 #[.val (.ref r0), .val (.ref b93), .val (.int (3 : Int32)), .val (.double (own_R 3 ((((x0 * x1) * x2) + (((((16 - x0) * x1) + (x0 * (16 - x1))) * x2) + ((x0 * x1) * (16 - x2)))) + ((((16 - x0) * (16 - x1)) * x2) + ((((16 - x0) * x1) + (x0 * (16 - x1))) * (16 - x2)))))), .second, .val (.int (1 : Int32)), .unset, .val (.ref b93), .val (.int (3 : Int32))] []))
      refine Good.back (fun _ k => XS.dloadN X147.here hx rfl (hb hby own_d1_117) rfl k) ?_
      show Good p e below _ (T147.setTop (mkF m 118 #[.val (.ref r0), .val (.ref b93), .val (.int (3 : Int32)), .val (.double (own_R 3 ((((x0 * x1) * x2) + (((((16 - x0) * x1) + (x0 * (16 - x1))) * x2) + ((x0 * x1) * (16 - x2)))) + ((((16 - x0) * (16 - x1)) * x2) + ((((16 - x0) * x1) + (x0 * (16 - x1))) * (16 - x2)))))), .second, .val (.int (1 : Int32)), .unset, .val (.ref b93), .val (.int (3 : Int32))] [(.double (own_R 3 ((((x0 * x1) * x2) + (((((16 - x0) * x1) + (x0 * (16 - x1))) * x2) + ((x0 * x1) * (16 - x2)))) + ((((16 - x0) * (16 - x1)) * x2) + ((((16 - x0) * x1) + (x0 * (16 - x1))) * (16 - x2))))))]))
      refine Good.back (X147.ldc2DoubleC hx hown (mvT hZ (hw _ (List.mem_of_getElem? (i := 7) rfl))) (g := (mkF m 118 #[.val (.ref r0), .val (.ref b93), .val (.int (3 : Int32)), .val (.double (own_R 3 ((((x0 * x1) * x2) + (((((16 - x0) * x1) + (x0 * (16 - x1))) * x2) + ((x0 * x1) * (16 - x2)))) + ((((16 - x0) * (16 - x1)) * x2) + ((((16 - x0) * x1) + (x0 * (16 - x1))) * (16 - x2)))))), .second, .val (.int (1 : Int32)), .unset, .val (.ref b93), .val (.int (3 : Int32))] [(.double (own_R 3 ((((x0 * x1) * x2) + (((((16 - x0) * x1) + (x0 * (16 - x1))) * x2) + ((x0 * x1) * (16 - x2)))) + ((((16 - x0) * (16 - x1)) * x2) + ((((16 - x0) * x1) + (x0 * (16 - x1))) * (16 - x2))))))])) rfl (hb hby own_d1_118)) ?_
      show Good p e below _ (T147.setTop (mkF m 121 #[.val (.ref r0), .val (.ref b93), .val (.int (3 : Int32)), .val (.double (own_R 3 ((((x0 * x1) * x2) + (((((16 - x0) * x1) + (x0 * (16 - x1))) * x2) + ((x0 * x1) * (16 - x2)))) + ((((16 - x0) * (16 - x1)) * x2) + ((((16 - x0) * x1) + (x0 * (16 - x1))) * (16 - x2)))))), .second, .val (.int (1 : Int32)), .unset, .val (.ref b93), .val (.int (3 : Int32))] [(.double (4587366580439587226 : UInt64)), (.double (own_R 3 ((((x0 * x1) * x2) + (((((16 - x0) * x1) + (x0 * (16 - x1))) * x2) + ((x0 * x1) * (16 - x2)))) + ((((16 - x0) * (16 - x1)) * x2) + ((((16 - x0) * x1) + (x0 * (16 - x1))) * (16 - x2))))))]))
      refine Good.back (fun _ k => XS.dcmpS X147.here hx rfl (hb hby own_d1_121) rfl (v := (if 20 * ((((x0 * x1) * x2) + (((((16 - x0) * x1) + (x0 * (16 - x1))) * x2) + ((x0 * x1) * (16 - x2)))) + ((((16 - x0) * (16 - x1)) * x2) + ((((16 - x0) * x1) + (x0 * (16 - x1))) * (16 - x2)))) < 16 ^ 3 then (-1 : Int32) else (1 : Int32))) (own_Rcmp (by decide) (Nat.lt_of_le_of_lt hb174 (by decide))) k) ?_
      show Good p e below _ (T147.setTop (mkF m 122 #[.val (.ref r0), .val (.ref b93), .val (.int (3 : Int32)), .val (.double (own_R 3 ((((x0 * x1) * x2) + (((((16 - x0) * x1) + (x0 * (16 - x1))) * x2) + ((x0 * x1) * (16 - x2)))) + ((((16 - x0) * (16 - x1)) * x2) + ((((16 - x0) * x1) + (x0 * (16 - x1))) * (16 - x2)))))), .second, .val (.int (1 : Int32)), .unset, .val (.ref b93), .val (.int (3 : Int32))] [(.int (if 20 * ((((x0 * x1) * x2) + (((((16 - x0) * x1) + (x0 * (16 - x1))) * x2) + ((x0 * x1) * (16 - x2)))) + ((((16 - x0) * (16 - x1)) * x2) + ((((16 - x0) * x1) + (x0 * (16 - x1))) * (16 - x2)))) < 16 ^ 3 then (-1 : Int32) else (1 : Int32)))]))
      by_cases hq1_175 : 20 * ((((x0 * x1) * x2) + (((((16 - x0) * x1) + (x0 * (16 - x1))) * x2) + ((x0 * x1) * (16 - x2)))) + ((((16 - x0) * (16 - x1)) * x2) + ((((16 - x0) * x1) + (x0 * (16 - x1))) * (16 - x2)))) < 16 ^ 3
      · rw [if_pos hq1_175]
        show Good p e below _ (T147.setTop (mkF m 122 #[.val (.ref r0), .val (.ref b93), .val (.int (3 : Int32)), .val (.double (own_R 3 ((((x0 * x1) * x2) + (((((16 - x0) * x1) + (x0 * (16 - x1))) * x2) + ((x0 * x1) * (16 - x2)))) + ((((16 - x0) * (16 - x1)) * x2) + ((((16 - x0) * x1) + (x0 * (16 - x1))) * (16 - x2)))))), .second, .val (.int (1 : Int32)), .unset, .val (.ref b93), .val (.int (3 : Int32))] [(.int (-1 : Int32))]))
        refine Good.back (fun _ k => XS.ifNo X147.here hx rfl (hb hby own_d1_122) rfl ((if0 _ _).trans (tlt (by decide : ((-1 : Int32) < (0 : Int32)))).2.1) k) ?_
        show Good p e below _ (T147.setTop (mkF m 125 #[.val (.ref r0), .val (.ref b93), .val (.int (3 : Int32)), .val (.double (own_R 3 ((((x0 * x1) * x2) + (((((16 - x0) * x1) + (x0 * (16 - x1))) * x2) + ((x0 * x1) * (16 - x2)))) + ((((16 - x0) * (16 - x1)) * x2) + ((((16 - x0) * x1) + (x0 * (16 - x1))) * (16 - x2)))))), .second, .val (.int (1 : Int32)), .unset, .val (.ref b93), .val (.int (3 : Int32))] []))
        refine Good.back (fun _ k => XS.iload X147.here hx rfl (hb hby own_d1_125) rfl k) ?_
        show Good p e below _ (T147.setTop (mkF m 127 #[.val (.ref r0), .val (.ref b93), .val (.int (3 : Int32)), .val (.double (own_R 3 ((((x0 * x1) * x2) + (((((16 - x0) * x1) + (x0 * (16 - x1))) * x2) + ((x0 * x1) * (16 - x2)))) + ((((16 - x0) * (16 - x1)) * x2) + ((((16 - x0) * x1) + (x0 * (16 - x1))) * (16 - x2)))))), .second, .val (.int (1 : Int32)), .unset, .val (.ref b93), .val (.int (3 : Int32))] [(.int (1 : Int32))]))
        refine Good.back (fun _ k => XS.istoreN X147.here hx rfl (hb hby own_d1_127) rfl (l' := #[.val (.ref r0), .val (.ref b93), .val (.int (1 : Int32)), .val (.double (own_R 3 ((((x0 * x1) * x2) + (((((16 - x0) * x1) + (x0 * (16 - x1))) * x2) + ((x0 * x1) * (16 - x2)))) + ((((16 - x0) * (16 - x1)) * x2) + ((((16 - x0) * x1) + (x0 * (16 - x1))) * (16 - x2)))))), .second, .val (.int (1 : Int32)), .unset, .val (.ref b93), .val (.int (3 : Int32))]) rfl k) ?_
        show Good p e below _ (T147.setTop (mkF m 128 #[.val (.ref r0), .val (.ref b93), .val (.int (1 : Int32)), .val (.double (own_R 3 ((((x0 * x1) * x2) + (((((16 - x0) * x1) + (x0 * (16 - x1))) * x2) + ((x0 * x1) * (16 - x2)))) + ((((16 - x0) * (16 - x1)) * x2) + ((((16 - x0) * x1) + (x0 * (16 - x1))) * (16 - x2)))))), .second, .val (.int (1 : Int32)), .unset, .val (.ref b93), .val (.int (3 : Int32))] []))
        refine Good.back (fun _ k => XS.iinc X147.here hx rfl (hb hby own_d1_128) rfl (l' := #[.val (.ref r0), .val (.ref b93), .val (.int (1 : Int32)), .val (.double (own_R 3 ((((x0 * x1) * x2) + (((((16 - x0) * x1) + (x0 * (16 - x1))) * x2) + ((x0 * x1) * (16 - x2)))) + ((((16 - x0) * (16 - x1)) * x2) + ((((16 - x0) * x1) + (x0 * (16 - x1))) * (16 - x2)))))), .second, .val (.int ((1 : Int32) + (-1 : Int32))), .unset, .val (.ref b93), .val (.int (3 : Int32))]) rfl k) ?_
        show Good p e below _ (T147.setTop (mkF m 131 #[.val (.ref r0), .val (.ref b93), .val (.int (1 : Int32)), .val (.double (own_R 3 ((((x0 * x1) * x2) + (((((16 - x0) * x1) + (x0 * (16 - x1))) * x2) + ((x0 * x1) * (16 - x2)))) + ((((16 - x0) * (16 - x1)) * x2) + ((((16 - x0) * x1) + (x0 * (16 - x1))) * (16 - x2)))))), .second, .val (.int ((1 : Int32) + (-1 : Int32))), .unset, .val (.ref b93), .val (.int (3 : Int32))] []))
        rw [show (((1 : Int32) + (-1 : Int32)) : Int32) = (0 : Int32) from by decide]
        show Good p e below _ (T147.setTop (mkF m 131 #[.val (.ref r0), .val (.ref b93), .val (.int (1 : Int32)), .val (.double (own_R 3 ((((x0 * x1) * x2) + (((((16 - x0) * x1) + (x0 * (16 - x1))) * x2) + ((x0 * x1) * (16 - x2)))) + ((((16 - x0) * (16 - x1)) * x2) + ((((16 - x0) * x1) + (x0 * (16 - x1))) * (16 - x2)))))), .second, .val (.int (0 : Int32)), .unset, .val (.ref b93), .val (.int (3 : Int32))] []))
        refine Good.back (fun _ k => XS.goto X147.here hx rfl (pc0 := 131) (pc' := 104) rfl (hb hby own_d1_131) (by decide) (by decide) k) ?_
        show Good p e below _ (T147.setTop (mkF m 104 #[.val (.ref r0), .val (.ref b93), .val (.int (1 : Int32)), .val (.double (own_R 3 ((((x0 * x1) * x2) + (((((16 - x0) * x1) + (x0 * (16 - x1))) * x2) + ((x0 * x1) * (16 - x2)))) + ((((16 - x0) * (16 - x1)) * x2) + ((((16 - x0) * x1) + (x0 * (16 - x1))) * (16 - x2)))))), .second, .val (.int (0 : Int32)), .unset, .val (.ref b93), .val (.int (3 : Int32))] []))
        refine Good.back (fun _ k => XS.iload X147.here hx rfl (hb hby own_d1_104) rfl k) ?_
        show Good p e below _ (T147.setTop (mkF m 106 #[.val (.ref r0), .val (.ref b93), .val (.int (1 : Int32)), .val (.double (own_R 3 ((((x0 * x1) * x2) + (((((16 - x0) * x1) + (x0 * (16 - x1))) * x2) + ((x0 * x1) * (16 - x2)))) + ((((16 - x0) * (16 - x1)) * x2) + ((((16 - x0) * x1) + (x0 * (16 - x1))) * (16 - x2)))))), .second, .val (.int (0 : Int32)), .unset, .val (.ref b93), .val (.int (3 : Int32))] [(.int (0 : Int32))]))
        refine Good.back (fun _ k => XS.iconst X147.here hx rfl (hb hby own_d1_106) k) ?_
        show Good p e below _ (T147.setTop (mkF m 107 #[.val (.ref r0), .val (.ref b93), .val (.int (1 : Int32)), .val (.double (own_R 3 ((((x0 * x1) * x2) + (((((16 - x0) * x1) + (x0 * (16 - x1))) * x2) + ((x0 * x1) * (16 - x2)))) + ((((16 - x0) * (16 - x1)) * x2) + ((((16 - x0) * x1) + (x0 * (16 - x1))) * (16 - x2)))))), .second, .val (.int (0 : Int32)), .unset, .val (.ref b93), .val (.int (3 : Int32))] [(.int (1 : Int32)), (.int (0 : Int32))]))
        refine Good.back (fun _ k => XS.icmpYes X147.here hx rfl (pc0 := 107) (pc' := 134) rfl (hb hby own_d1_107) rfl (tlt (by decide : ((0 : Int32) < (1 : Int32)))).1 (by decide) (by decide) k) ?_
        show Good p e below _ (T147.setTop (mkF m 134 #[.val (.ref r0), .val (.ref b93), .val (.int (1 : Int32)), .val (.double (own_R 3 ((((x0 * x1) * x2) + (((((16 - x0) * x1) + (x0 * (16 - x1))) * x2) + ((x0 * x1) * (16 - x2)))) + ((((16 - x0) * (16 - x1)) * x2) + ((((16 - x0) * x1) + (x0 * (16 - x1))) * (16 - x2)))))), .second, .val (.int (0 : Int32)), .unset, .val (.ref b93), .val (.int (3 : Int32))] []))
        refine Good.back (fun _ k => XS.iloadN X147.here hx rfl (hb hby own_d1_134) rfl k) ?_
        show Good p e below _ (T147.setTop (mkF m 135 #[.val (.ref r0), .val (.ref b93), .val (.int (1 : Int32)), .val (.double (own_R 3 ((((x0 * x1) * x2) + (((((16 - x0) * x1) + (x0 * (16 - x1))) * x2) + ((x0 * x1) * (16 - x2)))) + ((((16 - x0) * (16 - x1)) * x2) + ((((16 - x0) * x1) + (x0 * (16 - x1))) * (16 - x2)))))), .second, .val (.int (0 : Int32)), .unset, .val (.ref b93), .val (.int (3 : Int32))] [(.int (1 : Int32))]))
        obtain ⟨fs176, hr176, hrun176, hended176, hW176, hsame176⟩ := X147.leave (v := some (.int (1 : Int32))) (fun h => by rw [Bd.returns] at h; cases h)
        refine Good.done (retI X147 hx Bd.returns (hb hby own_d1_135) hr176) hrun176 hended176 ⟨_, _, rfl, ?_, ⟨_, rfl⟩, hW176, hsame176.mono (by decide) (by decide)⟩
        show Q1_3 Z r0 kk x0 x1 x2 h0 n0 _ T147.heap _
        rw [e147]
        exact ⟨congrArg (fun z => some (Value.int z)) (by rw [if_pos hq1_175]), N147, K150⟩
      · rw [if_neg hq1_175]
        show Good p e below _ (T147.setTop (mkF m 122 #[.val (.ref r0), .val (.ref b93), .val (.int (3 : Int32)), .val (.double (own_R 3 ((((x0 * x1) * x2) + (((((16 - x0) * x1) + (x0 * (16 - x1))) * x2) + ((x0 * x1) * (16 - x2)))) + ((((16 - x0) * (16 - x1)) * x2) + ((((16 - x0) * x1) + (x0 * (16 - x1))) * (16 - x2)))))), .second, .val (.int (1 : Int32)), .unset, .val (.ref b93), .val (.int (3 : Int32))] [(.int (1 : Int32))]))
        refine Good.back (fun _ k => XS.ifYes X147.here hx rfl (pc0 := 122) (pc' := 128) rfl (hb hby own_d1_122) rfl ((if0 _ _).trans (flt (by decide : ¬ ((1 : Int32) < (0 : Int32)))).2.1) (by decide) (by decide) k) ?_
        show Good p e below _ (T147.setTop (mkF m 128 #[.val (.ref r0), .val (.ref b93), .val (.int (3 : Int32)), .val (.double (own_R 3 ((((x0 * x1) * x2) + (((((16 - x0) * x1) + (x0 * (16 - x1))) * x2) + ((x0 * x1) * (16 - x2)))) + ((((16 - x0) * (16 - x1)) * x2) + ((((16 - x0) * x1) + (x0 * (16 - x1))) * (16 - x2)))))), .second, .val (.int (1 : Int32)), .unset, .val (.ref b93), .val (.int (3 : Int32))] []))
        refine Good.back (fun _ k => XS.iinc X147.here hx rfl (hb hby own_d1_128) rfl (l' := #[.val (.ref r0), .val (.ref b93), .val (.int (3 : Int32)), .val (.double (own_R 3 ((((x0 * x1) * x2) + (((((16 - x0) * x1) + (x0 * (16 - x1))) * x2) + ((x0 * x1) * (16 - x2)))) + ((((16 - x0) * (16 - x1)) * x2) + ((((16 - x0) * x1) + (x0 * (16 - x1))) * (16 - x2)))))), .second, .val (.int ((1 : Int32) + (-1 : Int32))), .unset, .val (.ref b93), .val (.int (3 : Int32))]) rfl k) ?_
        show Good p e below _ (T147.setTop (mkF m 131 #[.val (.ref r0), .val (.ref b93), .val (.int (3 : Int32)), .val (.double (own_R 3 ((((x0 * x1) * x2) + (((((16 - x0) * x1) + (x0 * (16 - x1))) * x2) + ((x0 * x1) * (16 - x2)))) + ((((16 - x0) * (16 - x1)) * x2) + ((((16 - x0) * x1) + (x0 * (16 - x1))) * (16 - x2)))))), .second, .val (.int ((1 : Int32) + (-1 : Int32))), .unset, .val (.ref b93), .val (.int (3 : Int32))] []))
        rw [show (((1 : Int32) + (-1 : Int32)) : Int32) = (0 : Int32) from by decide]
        show Good p e below _ (T147.setTop (mkF m 131 #[.val (.ref r0), .val (.ref b93), .val (.int (3 : Int32)), .val (.double (own_R 3 ((((x0 * x1) * x2) + (((((16 - x0) * x1) + (x0 * (16 - x1))) * x2) + ((x0 * x1) * (16 - x2)))) + ((((16 - x0) * (16 - x1)) * x2) + ((((16 - x0) * x1) + (x0 * (16 - x1))) * (16 - x2)))))), .second, .val (.int (0 : Int32)), .unset, .val (.ref b93), .val (.int (3 : Int32))] []))
        refine Good.back (fun _ k => XS.goto X147.here hx rfl (pc0 := 131) (pc' := 104) rfl (hb hby own_d1_131) (by decide) (by decide) k) ?_
        show Good p e below _ (T147.setTop (mkF m 104 #[.val (.ref r0), .val (.ref b93), .val (.int (3 : Int32)), .val (.double (own_R 3 ((((x0 * x1) * x2) + (((((16 - x0) * x1) + (x0 * (16 - x1))) * x2) + ((x0 * x1) * (16 - x2)))) + ((((16 - x0) * (16 - x1)) * x2) + ((((16 - x0) * x1) + (x0 * (16 - x1))) * (16 - x2)))))), .second, .val (.int (0 : Int32)), .unset, .val (.ref b93), .val (.int (3 : Int32))] []))
        refine Good.back (fun _ k => XS.iload X147.here hx rfl (hb hby own_d1_104) rfl k) ?_
        show Good p e below _ (T147.setTop (mkF m 106 #[.val (.ref r0), .val (.ref b93), .val (.int (3 : Int32)), .val (.double (own_R 3 ((((x0 * x1) * x2) + (((((16 - x0) * x1) + (x0 * (16 - x1))) * x2) + ((x0 * x1) * (16 - x2)))) + ((((16 - x0) * (16 - x1)) * x2) + ((((16 - x0) * x1) + (x0 * (16 - x1))) * (16 - x2)))))), .second, .val (.int (0 : Int32)), .unset, .val (.ref b93), .val (.int (3 : Int32))] [(.int (0 : Int32))]))
        refine Good.back (fun _ k => XS.iconst X147.here hx rfl (hb hby own_d1_106) k) ?_
        show Good p e below _ (T147.setTop (mkF m 107 #[.val (.ref r0), .val (.ref b93), .val (.int (3 : Int32)), .val (.double (own_R 3 ((((x0 * x1) * x2) + (((((16 - x0) * x1) + (x0 * (16 - x1))) * x2) + ((x0 * x1) * (16 - x2)))) + ((((16 - x0) * (16 - x1)) * x2) + ((((16 - x0) * x1) + (x0 * (16 - x1))) * (16 - x2)))))), .second, .val (.int (0 : Int32)), .unset, .val (.ref b93), .val (.int (3 : Int32))] [(.int (1 : Int32)), (.int (0 : Int32))]))
        refine Good.back (fun _ k => XS.icmpYes X147.here hx rfl (pc0 := 107) (pc' := 134) rfl (hb hby own_d1_107) rfl (tlt (by decide : ((0 : Int32) < (1 : Int32)))).1 (by decide) (by decide) k) ?_
        show Good p e below _ (T147.setTop (mkF m 134 #[.val (.ref r0), .val (.ref b93), .val (.int (3 : Int32)), .val (.double (own_R 3 ((((x0 * x1) * x2) + (((((16 - x0) * x1) + (x0 * (16 - x1))) * x2) + ((x0 * x1) * (16 - x2)))) + ((((16 - x0) * (16 - x1)) * x2) + ((((16 - x0) * x1) + (x0 * (16 - x1))) * (16 - x2)))))), .second, .val (.int (0 : Int32)), .unset, .val (.ref b93), .val (.int (3 : Int32))] []))
        refine Good.back (fun _ k => XS.iloadN X147.here hx rfl (hb hby own_d1_134) rfl k) ?_
        show Good p e below _ (T147.setTop (mkF m 135 #[.val (.ref r0), .val (.ref b93), .val (.int (3 : Int32)), .val (.double (own_R 3 ((((x0 * x1) * x2) + (((((16 - x0) * x1) + (x0 * (16 - x1))) * x2) + ((x0 * x1) * (16 - x2)))) + ((((16 - x0) * (16 - x1)) * x2) + ((((16 - x0) * x1) + (x0 * (16 - x1))) * (16 - x2)))))), .second, .val (.int (0 : Int32)), .unset, .val (.ref b93), .val (.int (3 : Int32))] [(.int (3 : Int32))]))
        obtain ⟨fs177, hr177, hrun177, hended177, hW177, hsame177⟩ := X147.leave (v := some (.int (3 : Int32))) (fun h => by rw [Bd.returns] at h; cases h)
        refine Good.done (retI X147 hx Bd.returns (hb hby own_d1_135) hr177) hrun177 hended177 ⟨_, _, rfl, ?_, ⟨_, rfl⟩, hW177, hsame177.mono (by decide) (by decide)⟩
        show Q1_3 Z r0 kk x0 x1 x2 h0 n0 _ T147.heap _
        rw [e147]
        exact ⟨congrArg (fun z => some (Value.int z)) (by rw [if_neg hq1_175, if_neg hq2_167]), N147, K150⟩
  · rw [if_neg hq3_164]
    show Good p e below _ (T147.setTop (mkF m 122 #[.val (.ref r0), .val (.ref b93), .val (.int (3 : Int32)), .val (.double (own_R 3 ((x0 * x1) * x2))), .second, .val (.int (3 : Int32)), .unset, .val (.ref b93), .val (.int (3 : Int32))] [(.int (1 : Int32))]))
    refine Good.back (fun _ k => XS.ifYes X147.here hx rfl (pc0 := 122) (pc' := 128) rfl (hb hby own_d1_122) rfl ((if0 _ _).trans (flt (by decide : ¬ ((1 : Int32) < (0 : Int32)))).2.1) (by decide) (by decide) k) ?_
    show Good p e below _ (T147.setTop (mkF m 128 #[.val (.ref r0), .val (.ref b93), .val (.int (3 : Int32)), .val (.double (own_R 3 ((x0 * x1) * x2))), .second, .val (.int (3 : Int32)), .unset, .val (.ref b93), .val (.int (3 : Int32))] []))
    refine Good.back (fun _ k => XS.iinc X147.here hx rfl (hb hby own_d1_128) rfl (l' := #[.val (.ref r0), .val (.ref b93), .val (.int (3 : Int32)), .val (.double (own_R 3 ((x0 * x1) * x2))), .second, .val (.int ((3 : Int32) + (-1 : Int32))), .unset, .val (.ref b93), .val (.int (3 : Int32))]) rfl k) ?_
    show Good p e below _ (T147.setTop (mkF m 131 #[.val (.ref r0), .val (.ref b93), .val (.int (3 : Int32)), .val (.double (own_R 3 ((x0 * x1) * x2))), .second, .val (.int ((3 : Int32) + (-1 : Int32))), .unset, .val (.ref b93), .val (.int (3 : Int32))] []))
    rw [show (((3 : Int32) + (-1 : Int32)) : Int32) = (2 : Int32) from by decide]
    show Good p e below _ (T147.setTop (mkF m 131 #[.val (.ref r0), .val (.ref b93), .val (.int (3 : Int32)), .val (.double (own_R 3 ((x0 * x1) * x2))), .second, .val (.int (2 : Int32)), .unset, .val (.ref b93), .val (.int (3 : Int32))] []))
    refine Good.back (fun _ k => XS.goto X147.here hx rfl (pc0 := 131) (pc' := 104) rfl (hb hby own_d1_131) (by decide) (by decide) k) ?_
    show Good p e below _ (T147.setTop (mkF m 104 #[.val (.ref r0), .val (.ref b93), .val (.int (3 : Int32)), .val (.double (own_R 3 ((x0 * x1) * x2))), .second, .val (.int (2 : Int32)), .unset, .val (.ref b93), .val (.int (3 : Int32))] []))
    refine Good.back (fun _ k => XS.iload X147.here hx rfl (hb hby own_d1_104) rfl k) ?_
    show Good p e below _ (T147.setTop (mkF m 106 #[.val (.ref r0), .val (.ref b93), .val (.int (3 : Int32)), .val (.double (own_R 3 ((x0 * x1) * x2))), .second, .val (.int (2 : Int32)), .unset, .val (.ref b93), .val (.int (3 : Int32))] [(.int (2 : Int32))]))
    refine Good.back (fun _ k => XS.iconst X147.here hx rfl (hb hby own_d1_106) k) ?_
    show Good p e below _ (T147.setTop (mkF m 107 #[.val (.ref r0), .val (.ref b93), .val (.int (3 : Int32)), .val (.double (own_R 3 ((x0 * x1) * x2))), .second, .val (.int (2 : Int32)), .unset, .val (.ref b93), .val (.int (3 : Int32))] [(.int (1 : Int32)), (.int (2 : Int32))]))
    refine Good.back (fun _ k => XS.icmpNo X147.here hx rfl (hb hby own_d1_107) rfl (flt (by decide : ¬ ((2 : Int32) < (1 : Int32)))).1 k) ?_
    show Good p e below _ (T147.setTop (mkF m 110 #[.val (.ref r0), .val (.ref b93), .val (.int (3 : Int32)), .val (.double (own_R 3 ((x0 * x1) * x2))), .second, .val (.int (2 : Int32)), .unset, .val (.ref b93), .val (.int (3 : Int32))] []))
    refine Good.back (fun _ k => XS.dloadN X147.here hx rfl (hb hby own_d1_110) rfl k) ?_
    show Good p e below _ (T147.setTop (mkF m 111 #[.val (.ref r0), .val (.ref b93), .val (.int (3 : Int32)), .val (.double (own_R 3 ((x0 * x1) * x2))), .second, .val (.int (2 : Int32)), .unset, .val (.ref b93), .val (.int (3 : Int32))] [(.double (own_R 3 ((x0 * x1) * x2)))]))
    refine Good.back (fun _ k => XS.aloadN X147.here hx rfl (hb hby own_d1_111) rfl rfl k) ?_
    show Good p e below _ (T147.setTop (mkF m 112 #[.val (.ref r0), .val (.ref b93), .val (.int (3 : Int32)), .val (.double (own_R 3 ((x0 * x1) * x2))), .second, .val (.int (2 : Int32)), .unset, .val (.ref b93), .val (.int (3 : Int32))] [(.ref b93), (.double (own_R 3 ((x0 * x1) * x2)))]))
    refine Good.back (fun _ k => XS.iload X147.here hx rfl (hb hby own_d1_112) rfl k) ?_
    show Good p e below _ (T147.setTop (mkF m 114 #[.val (.ref r0), .val (.ref b93), .val (.int (3 : Int32)), .val (.double (own_R 3 ((x0 * x1) * x2))), .second, .val (.int (2 : Int32)), .unset, .val (.ref b93), .val (.int (3 : Int32))] [(.int (2 : Int32)), (.ref b93), (.double (own_R 3 ((x0 * x1) * x2)))]))
    have fc178 := f_148
    obtain ⟨cl178, Ar178, qk178, S178, N178', H178, G178⟩ := fc178
    have hin178 : ¬ ((2 : Int32) < 0 ∨ cl178.slots.size ≤ ((2 : Int32)).toNatClampNeg) := inb_of S178 ⟨by decide, by decide⟩
    have hat178 : cl178.slots[((2 : Int32)).toNatClampNeg]? = some (.double (own_R 3 (((((16 - x0) * x1) + (x0 * (16 - x1))) * x2) + ((x0 * x1) * (16 - x2))))) := Has.at H178 hin178 rfl
    refine Good.back (X147.daload hx (j := (2 : Int32)) (v := (.double (own_R 3 (((((16 - x0) * x1) + (x0 * (16 - x1))) * x2) + ((x0 * x1) * (16 - x2)))))) (by rw [e147]; exact Ar178.1) (State.isArrayOf_alike hZ.alike Ar178.2.1) Ar178.2.2 hin178 hat178 (g := (mkF m 114 #[.val (.ref r0), .val (.ref b93), .val (.int (3 : Int32)), .val (.double (own_R 3 ((x0 * x1) * x2))), .second, .val (.int (2 : Int32)), .unset, .val (.ref b93), .val (.int (3 : Int32))] [(.int (2 : Int32)), (.ref b93), (.double (own_R 3 ((x0 * x1) * x2)))])) rfl rfl (hb hby own_d1_114)) ?_
    show Good p e below _ (T147.setTop (mkF m 115 #[.val (.ref r0), .val (.ref b93), .val (.int (3 : Int32)), .val (.double (own_R 3 ((x0 * x1) * x2))), .second, .val (.int (2 : Int32)), .unset, .val (.ref b93), .val (.int (3 : Int32))] [(.double (own_R 3 (((((16 - x0) * x1) + (x0 * (16 - x1))) * x2) + ((x0 * x1) * (16 - x2))))), (.double (own_R 3 ((x0 * x1) * x2)))]))
    have hb179 := Nat.add_le_add hb146 hb138
    refine Good.back (fun _ k => XS.daddS X147.here hx rfl (hb hby own_d1_115) rfl ((own_Radd (Nat.lt_of_le_of_lt hb146 (by decide)) (Nat.lt_of_le_of_lt hb138 (by decide))).symm ▸ own_Rnn (Nat.lt_of_le_of_lt hb179 (by decide))) (own_Radd (Nat.lt_of_le_of_lt hb146 (by decide)) (Nat.lt_of_le_of_lt hb138 (by decide))) k) ?_
    show Good p e below _ (T147.setTop (mkF m 116 #[.val (.ref r0), .val (.ref b93), .val (.int (3 : Int32)), .val (.double (own_R 3 ((x0 * x1) * x2))), .second, .val (.int (2 : Int32)), .unset, .val (.ref b93), .val (.int (3 : Int32))] [(.double (own_R 3 (((x0 * x1) * x2) + (((((16 - x0) * x1) + (x0 * (16 - x1))) * x2) + ((x0 * x1) * (16 - x2))))))]))
    refine Good.back (fun _ k => XS.dstoreN X147.here hx rfl (hb hby own_d1_116) rfl (l' := #[.val (.ref r0), .val (.ref b93), .val (.int (3 : Int32)), .val (.double (own_R 3 (((x0 * x1) * x2) + (((((16 - x0) * x1) + (x0 * (16 - x1))) * x2) + ((x0 * x1) * (16 - x2)))))), .second, .val (.int (2 : Int32)), .unset, .val (.ref b93), .val (.int (3 : Int32))]) rfl k) ?_
    show Good p e below _ (T147.setTop (mkF m 117 #[.val (.ref r0), .val (.ref b93), .val (.int (3 : Int32)), .val (.double (own_R 3 (((x0 * x1) * x2) + (((((16 - x0) * x1) + (x0 * (16 - x1))) * x2) + ((x0 * x1) * (16 - x2)))))), .second, .val (.int (2 : Int32)), .unset, .val (.ref b93), .val (.int (3 : Int32))] []))
    refine Good.back (fun _ k => XS.dloadN X147.here hx rfl (hb hby own_d1_117) rfl k) ?_
    show Good p e below _ (T147.setTop (mkF m 118 #[.val (.ref r0), .val (.ref b93), .val (.int (3 : Int32)), .val (.double (own_R 3 (((x0 * x1) * x2) + (((((16 - x0) * x1) + (x0 * (16 - x1))) * x2) + ((x0 * x1) * (16 - x2)))))), .second, .val (.int (2 : Int32)), .unset, .val (.ref b93), .val (.int (3 : Int32))] [(.double (own_R 3 (((x0 * x1) * x2) + (((((16 - x0) * x1) + (x0 * (16 - x1))) * x2) + ((x0 * x1) * (16 - x2))))))]))
    refine Good.back (X147.ldc2DoubleC hx hown (mvT hZ (hw _ (List.mem_of_getElem? (i := 7) rfl))) (g := (mkF m 118 #[.val (.ref r0), .val (.ref b93), .val (.int (3 : Int32)), .val (.double (own_R 3 (((x0 * x1) * x2) + (((((16 - x0) * x1) + (x0 * (16 - x1))) * x2) + ((x0 * x1) * (16 - x2)))))), .second, .val (.int (2 : Int32)), .unset, .val (.ref b93), .val (.int (3 : Int32))] [(.double (own_R 3 (((x0 * x1) * x2) + (((((16 - x0) * x1) + (x0 * (16 - x1))) * x2) + ((x0 * x1) * (16 - x2))))))])) rfl (hb hby own_d1_118)) ?_
    show Good p e below _ (T147.setTop (mkF m 121 #[.val (.ref r0), .val (.ref b93), .val (.int (3 : Int32)), .val (.double (own_R 3 (((x0 * x1) * x2) + (((((16 - x0) * x1) + (x0 * (16 - x1))) * x2) + ((x0 * x1) * (16 - x2)))))), .second, .val (.int (2 : Int32)), .unset, .val (.ref b93), .val (.int (3 : Int32))] [(.double (4587366580439587226 : UInt64)), (.double (own_R 3 (((x0 * x1) * x2) + (((((16 - x0) * x1) + (x0 * (16 - x1))) * x2) + ((x0 * x1) * (16 - x2))))))]))
    refine Good.back (fun _ k => XS.dcmpS X147.here hx rfl (hb hby own_d1_121) rfl (v := (if 20 * (((x0 * x1) * x2) + (((((16 - x0) * x1) + (x0 * (16 - x1))) * x2) + ((x0 * x1) * (16 - x2)))) < 16 ^ 3 then (-1 : Int32) else (1 : Int32))) (own_Rcmp (by decide) (Nat.lt_of_le_of_lt hb179 (by decide))) k) ?_
    show Good p e below _ (T147.setTop (mkF m 122 #[.val (.ref r0), .val (.ref b93), .val (.int (3 : Int32)), .val (.double (own_R 3 (((x0 * x1) * x2) + (((((16 - x0) * x1) + (x0 * (16 - x1))) * x2) + ((x0 * x1) * (16 - x2)))))), .second, .val (.int (2 : Int32)), .unset, .val (.ref b93), .val (.int (3 : Int32))] [(.int (if 20 * (((x0 * x1) * x2) + (((((16 - x0) * x1) + (x0 * (16 - x1))) * x2) + ((x0 * x1) * (16 - x2)))) < 16 ^ 3 then (-1 : Int32) else (1 : Int32)))]))
    by_cases hq2_180 : 20 * (((x0 * x1) * x2) + (((((16 - x0) * x1) + (x0 * (16 - x1))) * x2) + ((x0 * x1) * (16 - x2)))) < 16 ^ 3
    · rw [if_pos hq2_180]
      show Good p e below _ (T147.setTop (mkF m 122 #[.val (.ref r0), .val (.ref b93), .val (.int (3 : Int32)), .val (.double (own_R 3 (((x0 * x1) * x2) + (((((16 - x0) * x1) + (x0 * (16 - x1))) * x2) + ((x0 * x1) * (16 - x2)))))), .second, .val (.int (2 : Int32)), .unset, .val (.ref b93), .val (.int (3 : Int32))] [(.int (-1 : Int32))]))
      refine Good.back (fun _ k => XS.ifNo X147.here hx rfl (hb hby own_d1_122) rfl ((if0 _ _).trans (tlt (by decide : ((-1 : Int32) < (0 : Int32)))).2.1) k) ?_
      show Good p e below _ (T147.setTop (mkF m 125 #[.val (.ref r0), .val (.ref b93), .val (.int (3 : Int32)), .val (.double (own_R 3 (((x0 * x1) * x2) + (((((16 - x0) * x1) + (x0 * (16 - x1))) * x2) + ((x0 * x1) * (16 - x2)))))), .second, .val (.int (2 : Int32)), .unset, .val (.ref b93), .val (.int (3 : Int32))] []))
      refine Good.back (fun _ k => XS.iload X147.here hx rfl (hb hby own_d1_125) rfl k) ?_
      show Good p e below _ (T147.setTop (mkF m 127 #[.val (.ref r0), .val (.ref b93), .val (.int (3 : Int32)), .val (.double (own_R 3 (((x0 * x1) * x2) + (((((16 - x0) * x1) + (x0 * (16 - x1))) * x2) + ((x0 * x1) * (16 - x2)))))), .second, .val (.int (2 : Int32)), .unset, .val (.ref b93), .val (.int (3 : Int32))] [(.int (2 : Int32))]))
      refine Good.back (fun _ k => XS.istoreN X147.here hx rfl (hb hby own_d1_127) rfl (l' := #[.val (.ref r0), .val (.ref b93), .val (.int (2 : Int32)), .val (.double (own_R 3 (((x0 * x1) * x2) + (((((16 - x0) * x1) + (x0 * (16 - x1))) * x2) + ((x0 * x1) * (16 - x2)))))), .second, .val (.int (2 : Int32)), .unset, .val (.ref b93), .val (.int (3 : Int32))]) rfl k) ?_
      show Good p e below _ (T147.setTop (mkF m 128 #[.val (.ref r0), .val (.ref b93), .val (.int (2 : Int32)), .val (.double (own_R 3 (((x0 * x1) * x2) + (((((16 - x0) * x1) + (x0 * (16 - x1))) * x2) + ((x0 * x1) * (16 - x2)))))), .second, .val (.int (2 : Int32)), .unset, .val (.ref b93), .val (.int (3 : Int32))] []))
      refine Good.back (fun _ k => XS.iinc X147.here hx rfl (hb hby own_d1_128) rfl (l' := #[.val (.ref r0), .val (.ref b93), .val (.int (2 : Int32)), .val (.double (own_R 3 (((x0 * x1) * x2) + (((((16 - x0) * x1) + (x0 * (16 - x1))) * x2) + ((x0 * x1) * (16 - x2)))))), .second, .val (.int ((2 : Int32) + (-1 : Int32))), .unset, .val (.ref b93), .val (.int (3 : Int32))]) rfl k) ?_
      show Good p e below _ (T147.setTop (mkF m 131 #[.val (.ref r0), .val (.ref b93), .val (.int (2 : Int32)), .val (.double (own_R 3 (((x0 * x1) * x2) + (((((16 - x0) * x1) + (x0 * (16 - x1))) * x2) + ((x0 * x1) * (16 - x2)))))), .second, .val (.int ((2 : Int32) + (-1 : Int32))), .unset, .val (.ref b93), .val (.int (3 : Int32))] []))
      rw [show (((2 : Int32) + (-1 : Int32)) : Int32) = (1 : Int32) from by decide]
      show Good p e below _ (T147.setTop (mkF m 131 #[.val (.ref r0), .val (.ref b93), .val (.int (2 : Int32)), .val (.double (own_R 3 (((x0 * x1) * x2) + (((((16 - x0) * x1) + (x0 * (16 - x1))) * x2) + ((x0 * x1) * (16 - x2)))))), .second, .val (.int (1 : Int32)), .unset, .val (.ref b93), .val (.int (3 : Int32))] []))
      refine Good.back (fun _ k => XS.goto X147.here hx rfl (pc0 := 131) (pc' := 104) rfl (hb hby own_d1_131) (by decide) (by decide) k) ?_
      show Good p e below _ (T147.setTop (mkF m 104 #[.val (.ref r0), .val (.ref b93), .val (.int (2 : Int32)), .val (.double (own_R 3 (((x0 * x1) * x2) + (((((16 - x0) * x1) + (x0 * (16 - x1))) * x2) + ((x0 * x1) * (16 - x2)))))), .second, .val (.int (1 : Int32)), .unset, .val (.ref b93), .val (.int (3 : Int32))] []))
      refine Good.back (fun _ k => XS.iload X147.here hx rfl (hb hby own_d1_104) rfl k) ?_
      show Good p e below _ (T147.setTop (mkF m 106 #[.val (.ref r0), .val (.ref b93), .val (.int (2 : Int32)), .val (.double (own_R 3 (((x0 * x1) * x2) + (((((16 - x0) * x1) + (x0 * (16 - x1))) * x2) + ((x0 * x1) * (16 - x2)))))), .second, .val (.int (1 : Int32)), .unset, .val (.ref b93), .val (.int (3 : Int32))] [(.int (1 : Int32))]))
      refine Good.back (fun _ k => XS.iconst X147.here hx rfl (hb hby own_d1_106) k) ?_
      show Good p e below _ (T147.setTop (mkF m 107 #[.val (.ref r0), .val (.ref b93), .val (.int (2 : Int32)), .val (.double (own_R 3 (((x0 * x1) * x2) + (((((16 - x0) * x1) + (x0 * (16 - x1))) * x2) + ((x0 * x1) * (16 - x2)))))), .second, .val (.int (1 : Int32)), .unset, .val (.ref b93), .val (.int (3 : Int32))] [(.int (1 : Int32)), (.int (1 : Int32))]))
      refine Good.back (fun _ k => XS.icmpNo X147.here hx rfl (hb hby own_d1_107) rfl (flt (by decide : ¬ ((1 : Int32) < (1 : Int32)))).1 k) ?_
      show Good p e below _ (T147.setTop (mkF m 110 #[.val (.ref r0), .val (.ref b93), .val (.int (2 : Int32)), .val (.double (own_R 3 (((x0 * x1) * x2) + (((((16 - x0) * x1) + (x0 * (16 - x1))) * x2) + ((x0 * x1) * (16 - x2)))))), .second, .val (.int (1 : Int32)), .unset, .val (.ref b93), .val (.int (3 : Int32))] []))
      refine Good.back (fun _ k => XS.dloadN X147.here hx rfl (hb hby own_d1_110) rfl k) ?_
      show Good p e below _ (T147.setTop (mkF m 111 #[.val (.ref r0), .val (.ref b93), .val (.int (2 : Int32)), .val (.double (own_R 3 (((x0 * x1) * x2) + (((((16 - x0) * x1) + (x0 * (16 - x1))) * x2) + ((x0 * x1) * (16 - x2)))))), .second, .val (.int (1 : Int32)), .unset, .val (.ref b93), .val (.int (3 : Int32))] [(.double (own_R 3 (((x0 * x1) * x2) + (((((16 - x0) * x1) + (x0 * (16 - x1))) * x2) + ((x0 * x1) * (16 - x2))))))]))
      refine Good.back (fun _ k => XS.aloadN X147.here hx rfl (hb hby own_d1_111) rfl rfl k) ?_
      show Good p e below _ (T147.setTop (mkF m 112 #[.val (.ref r0), .val (.ref b93), .val (.int (2 : Int32)), .val (.double (own_R 3 (((x0 * x1) * x2) + (((((16 - x0) * x1) + (x0 * (16 - x1))) * x2) + ((x0 * x1) * (16 - x2)))))), .second, .val (.int (1 : Int32)), .unset, .val (.ref b93), .val (.int (3 : Int32))] [(.ref b93), (.double (own_R 3 (((x0 * x1) * x2) + (((((16 - x0) * x1) + (x0 * (16 - x1))) * x2) + ((x0 * x1) * (16 - x2))))))]))
      refine Good.back (fun _ k => XS.iload X147.here hx rfl (hb hby own_d1_112) rfl k) ?_
      show Good p e below _ (T147.setTop (mkF m 114 #[.val (.ref r0), .val (.ref b93), .val (.int (2 : Int32)), .val (.double (own_R 3 (((x0 * x1) * x2) + (((((16 - x0) * x1) + (x0 * (16 - x1))) * x2) + ((x0 * x1) * (16 - x2)))))), .second, .val (.int (1 : Int32)), .unset, .val (.ref b93), .val (.int (3 : Int32))] [(.int (1 : Int32)), (.ref b93), (.double (own_R 3 (((x0 * x1) * x2) + (((((16 - x0) * x1) + (x0 * (16 - x1))) * x2) + ((x0 * x1) * (16 - x2))))))]))
      have fc181 := f_148
      obtain ⟨cl181, Ar181, qk181, S181, N181', H181, G181⟩ := fc181
      have hin181 : ¬ ((1 : Int32) < 0 ∨ cl181.slots.size ≤ ((1 : Int32)).toNatClampNeg) := inb_of S181 ⟨by decide, by decide⟩
      have hat181 : cl181.slots[((1 : Int32)).toNatClampNeg]? = some (.double (own_R 3 ((((16 - x0) * (16 - x1)) * x2) + ((((16 - x0) * x1) + (x0 * (16 - x1))) * (16 - x2))))) := Has.at H181 hin181 rfl
      refine Good.back (X147.daload hx (j := (1 : Int32)) (v := (.double (own_R 3 ((((16 - x0) * (16 - x1)) * x2) + ((((16 - x0) * x1) + (x0 * (16 - x1))) * (16 - x2)))))) (by rw [e147]; exact Ar181.1) (State.isArrayOf_alike hZ.alike Ar181.2.1) Ar181.2.2 hin181 hat181 (g := (mkF m 114 #[.val (.ref r0), .val (.ref b93), .val (.int (2 : Int32)), .val (.double (own_R 3 (((x0 * x1) * x2) + (((((16 - x0) * x1) + (x0 * (16 - x1))) * x2) + ((x0 * x1) * (16 - x2)))))), .second, .val (.int (1 : Int32)), .unset, .val (.ref b93), .val (.int (3 : Int32))] [(.int (1 : Int32)), (.ref b93), (.double (own_R 3 (((x0 * x1) * x2) + (((((16 - x0) * x1) + (x0 * (16 - x1))) * x2) + ((x0 * x1) * (16 - x2))))))])) rfl rfl (hb hby own_d1_114)) ?_
      show Good p e below _ (T147.setTop (mkF m 115 #[.val (.ref r0), .val (.ref b93), .val (.int (2 : Int32)), .val (.double (own_R 3 (((x0 * x1) * x2) + (((((16 - x0) * x1) + (x0 * (16 - x1))) * x2) + ((x0 * x1) * (16 - x2)))))), .second, .val (.int (1 : Int32)), .unset, .val (.ref b93), .val (.int (3 : Int32))] [(.double (own_R 3 ((((16 - x0) * (16 - x1)) * x2) + ((((16 - x0) * x1) + (x0 * (16 - x1))) * (16 - x2))))), (.double (own_R 3 (((x0 * x1) * x2) + (((((16 - x0) * x1) + (x0 * (16 - x1))) * x2) + ((x0 * x1) * (16 - x2))))))]))
      have hb182 := Nat.add_le_add hb179 hb120
      refine Good.back (fun _ k => XS.daddS X147.here hx rfl (hb hby own_d1_115) rfl ((own_Radd (Nat.lt_of_le_of_lt hb179 (by decide)) (Nat.lt_of_le_of_lt hb120 (by decide))).symm ▸ own_Rnn (Nat.lt_of_le_of_lt hb182 (by decide))) (own_Radd (Nat.lt_of_le_of_lt hb179 (by decide)) (Nat.lt_of_le_of_lt hb120 (by decide))) k) ?_
      show Good p e below _ (T147.setTop (mkF m 116 #[.val (.ref r0), .val (.ref b93), .val (.int (2 : Int32)), .val (.double (own_R 3 (((x0 * x1) * x2) + (((((16 - x0) * x1) + (x0 * (16 - x1))) * x2) + ((x0 * x1) * (16 - x2)))))), .second, .val (.int (1 : Int32)), .unset, .val (.ref b93), .val (.int (3 : Int32))] [(.double (own_R 3 ((((x0 * x1) * x2) + (((((16 - x0) * x1) + (x0 * (16 - x1))) * x2) + ((x0 * x1) * (16 - x2)))) + ((((16 - x0) * (16 - x1)) * x2) + ((((16 - x0) * x1) + (x0 * (16 - x1))) * (16 - x2))))))]))
      refine Good.back (fun _ k => XS.dstoreN X147.here hx rfl (hb hby own_d1_116) rfl (l' := #[.val (.ref r0), .val (.ref b93), .val (.int (2 : Int32)), .val (.double (own_R 3 ((((x0 * x1) * x2) + (((((16 - x0) * x1) + (x0 * (16 - x1))) * x2) + ((x0 * x1) * (16 - x2)))) + ((((16 - x0) * (16 - x1)) * x2) + ((((16 - x0) * x1) + (x0 * (16 - x1))) * (16 - x2)))))), .second, .val (.int (1 : Int32)), .unset, .val (.ref b93), .val (.int (3 : Int32))]) rfl k) ?_
      show Good p e below _ (T147.setTop (mkF m 117 #[.val (.ref r0), .val (.ref b93), .val (.int (2 : Int32)), .val (.double (own_R 3 ((((x0 * x1) * x2) + (((((16 - x0) * x1) + (x0 * (16 - x1))) * x2) + ((x0 * x1) * (16 - x2)))) + ((((16 - x0) * (16 - x1)) * x2) + ((((16 - x0) * x1) + (x0 * (16 - x1))) * (16 - x2)))))), .second, .val (.int (1 : Int32)), .unset, .val (.ref b93), .val (.int (3 : Int32))] []))
      refine Good.back (fun _ k => XS.dloadN X147.here hx rfl (hb hby own_d1_117) rfl k) ?_
      show Good p e below _ (T147.setTop (mkF m 118 #[.val (.ref r0), .val (.ref b93), .val (.int (2 : Int32)), .val (.double (own_R 3 ((((x0 * x1) * x2) + (((((16 - x0) * x1) + (x0 * (16 - x1))) * x2) + ((x0 * x1) * (16 - x2)))) + ((((16 - x0) * (16 - x1)) * x2) + ((((16 - x0) * x1) + (x0 * (16 - x1))) * (16 - x2)))))), .second, .val (.int (1 : Int32)), .unset, .val (.ref b93), .val (.int (3 : Int32))] [(.double (own_R 3 ((((x0 * x1) * x2) + (((((16 - x0) * x1) + (x0 * (16 - x1))) * x2) + ((x0 * x1) * (16 - x2)))) + ((((16 - x0) * (16 - x1)) * x2) + ((((16 - x0) * x1) + (x0 * (16 - x1))) * (16 - x2))))))]))
      refine Good.back (X147.ldc2DoubleC hx hown (mvT hZ (hw _ (List.mem_of_getElem? (i := 7) rfl))) (g := (mkF m 118 #[.val (.ref r0), .val (.ref b93), .val (.int (2 : Int32)), .val (.double (own_R 3 ((((x0 * x1) * x2) + (((((16 - x0) * x1) + (x0 * (16 - x1))) * x2) + ((x0 * x1) * (16 - x2)))) + ((((16 - x0) * (16 - x1)) * x2) + ((((16 - x0) * x1) + (x0 * (16 - x1))) * (16 - x2)))))), .second, .val (.int (1 : Int32)), .unset, .val (.ref b93), .val (.int (3 : Int32))] [(.double (own_R 3 ((((x0 * x1) * x2) + (((((16 - x0) * x1) + (x0 * (16 - x1))) * x2) + ((x0 * x1) * (16 - x2)))) + ((((16 - x0) * (16 - x1)) * x2) + ((((16 - x0) * x1) + (x0 * (16 - x1))) * (16 - x2))))))])) rfl (hb hby own_d1_118)) ?_
      show Good p e below _ (T147.setTop (mkF m 121 #[.val (.ref r0), .val (.ref b93), .val (.int (2 : Int32)), .val (.double (own_R 3 ((((x0 * x1) * x2) + (((((16 - x0) * x1) + (x0 * (16 - x1))) * x2) + ((x0 * x1) * (16 - x2)))) + ((((16 - x0) * (16 - x1)) * x2) + ((((16 - x0) * x1) + (x0 * (16 - x1))) * (16 - x2)))))), .second, .val (.int (1 : Int32)), .unset, .val (.ref b93), .val (.int (3 : Int32))] [(.double (4587366580439587226 : UInt64)), (.double (own_R 3 ((((x0 * x1) * x2) + (((((16 - x0) * x1) + (x0 * (16 - x1))) * x2) + ((x0 * x1) * (16 - x2)))) + ((((16 - x0) * (16 - x1)) * x2) + ((((16 - x0) * x1) + (x0 * (16 - x1))) * (16 - x2))))))]))
      refine Good.back (fun _ k => XS.dcmpS X147.here hx rfl (hb hby own_d1_121) rfl (v := (if 20 * ((((x0 * x1) * x2) + (((((16 - x0) * x1) + (x0 * (16 - x1))) * x2) + ((x0 * x1) * (16 - x2)))) + ((((16 - x0) * (16 - x1)) * x2) + ((((16 - x0) * x1) + (x0 * (16 - x1))) * (16 - x2)))) < 16 ^ 3 then (-1 : Int32) else (1 : Int32))) (own_Rcmp (by decide) (Nat.lt_of_le_of_lt hb182 (by decide))) k) ?_
      show Good p e below _ (T147.setTop (mkF m 122 #[.val (.ref r0), .val (.ref b93), .val (.int (2 : Int32)), .val (.double (own_R 3 ((((x0 * x1) * x2) + (((((16 - x0) * x1) + (x0 * (16 - x1))) * x2) + ((x0 * x1) * (16 - x2)))) + ((((16 - x0) * (16 - x1)) * x2) + ((((16 - x0) * x1) + (x0 * (16 - x1))) * (16 - x2)))))), .second, .val (.int (1 : Int32)), .unset, .val (.ref b93), .val (.int (3 : Int32))] [(.int (if 20 * ((((x0 * x1) * x2) + (((((16 - x0) * x1) + (x0 * (16 - x1))) * x2) + ((x0 * x1) * (16 - x2)))) + ((((16 - x0) * (16 - x1)) * x2) + ((((16 - x0) * x1) + (x0 * (16 - x1))) * (16 - x2)))) < 16 ^ 3 then (-1 : Int32) else (1 : Int32)))]))
      by_cases hq1_183 : 20 * ((((x0 * x1) * x2) + (((((16 - x0) * x1) + (x0 * (16 - x1))) * x2) + ((x0 * x1) * (16 - x2)))) + ((((16 - x0) * (16 - x1)) * x2) + ((((16 - x0) * x1) + (x0 * (16 - x1))) * (16 - x2)))) < 16 ^ 3
      · rw [if_pos hq1_183]
        show Good p e below _ (T147.setTop (mkF m 122 #[.val (.ref r0), .val (.ref b93), .val (.int (2 : Int32)), .val (.double (own_R 3 ((((x0 * x1) * x2) + (((((16 - x0) * x1) + (x0 * (16 - x1))) * x2) + ((x0 * x1) * (16 - x2)))) + ((((16 - x0) * (16 - x1)) * x2) + ((((16 - x0) * x1) + (x0 * (16 - x1))) * (16 - x2)))))), .second, .val (.int (1 : Int32)), .unset, .val (.ref b93), .val (.int (3 : Int32))] [(.int (-1 : Int32))]))
        refine Good.back (fun _ k => XS.ifNo X147.here hx rfl (hb hby own_d1_122) rfl ((if0 _ _).trans (tlt (by decide : ((-1 : Int32) < (0 : Int32)))).2.1) k) ?_
        show Good p e below _ (T147.setTop (mkF m 125 #[.val (.ref r0), .val (.ref b93), .val (.int (2 : Int32)), .val (.double (own_R 3 ((((x0 * x1) * x2) + (((((16 - x0) * x1) + (x0 * (16 - x1))) * x2) + ((x0 * x1) * (16 - x2)))) + ((((16 - x0) * (16 - x1)) * x2) + ((((16 - x0) * x1) + (x0 * (16 - x1))) * (16 - x2)))))), .second, .val (.int (1 : Int32)), .unset, .val (.ref b93), .val (.int (3 : Int32))] []))
        refine Good.back (fun _ k => XS.iload X147.here hx rfl (hb hby own_d1_125) rfl k) ?_
        show Good p e below _ (T147.setTop (mkF m 127 #[.val (.ref r0), .val (.ref b93), .val (.int (2 : Int32)), .val (.double (own_R 3 ((((x0 * x1) * x2) + (((((16 - x0) * x1) + (x0 * (16 - x1))) * x2) + ((x0 * x1) * (16 - x2)))) + ((((16 - x0) * (16 - x1)) * x2) + ((((16 - x0) * x1) + (x0 * (16 - x1))) * (16 - x2)))))), .second, .val (.int (1 : Int32)), .unset, .val (.ref b93), .val (.int (3 : Int32))] [(.int (1 : Int32))]))
        refine Good.back (fun _ k => XS.istoreN X147.here hx rfl (hb hby own_d1_127) rfl (l' := #[.val (.ref r0), .val (.ref b93), .val (.int (1 : Int32)), .val (.double (own_R 3 ((((x0 * x1) * x2) + (((((16 - x0) * x1) + (x0 * (16 - x1))) * x2) + ((x0 * x1) * (16 - x2)))) + ((((16 - x0) * (16 - x1)) * x2) + ((((16 - x0) * x1) + (x0 * (16 - x1))) * (16 - x2)))))), .second, .val (.int (1 : Int32)), .unset, .val (.ref b93), .val (.int (3 : Int32))]) rfl k) ?_
        show Good p e below _ (T147.setTop (mkF m 128 #[.val (.ref r0), .val (.ref b93), .val (.int (1 : Int32)), .val (.double (own_R 3 ((((x0 * x1) * x2) + (((((16 - x0) * x1) + (x0 * (16 - x1))) * x2) + ((x0 * x1) * (16 - x2)))) + ((((16 - x0) * (16 - x1)) * x2) + ((((16 - x0) * x1) + (x0 * (16 - x1))) * (16 - x2)))))), .second, .val (.int (1 : Int32)), .unset, .val (.ref b93), .val (.int (3 : Int32))] []))
        refine Good.back (fun _ k => XS.iinc X147.here hx rfl (hb hby own_d1_128) rfl (l' := #[.val (.ref r0), .val (.ref b93), .val (.int (1 : Int32)), .val (.double (own_R 3 ((((x0 * x1) * x2) + (((((16 - x0) * x1) + (x0 * (16 - x1))) * x2) + ((x0 * x1) * (16 - x2)))) + ((((16 - x0) * (16 - x1)) * x2) + ((((16 - x0) * x1) + (x0 * (16 - x1))) * (16 - x2)))))), .second, .val (.int ((1 : Int32) + (-1 : Int32))), .unset, .val (.ref b93), .val (.int (3 : Int32))]) rfl k) ?_
        show Good p e below _ (T147.setTop (mkF m 131 #[.val (.ref r0), .val (.ref b93), .val (.int (1 : Int32)), .val (.double (own_R 3 ((((x0 * x1) * x2) + (((((16 - x0) * x1) + (x0 * (16 - x1))) * x2) + ((x0 * x1) * (16 - x2)))) + ((((16 - x0) * (16 - x1)) * x2) + ((((16 - x0) * x1) + (x0 * (16 - x1))) * (16 - x2)))))), .second, .val (.int ((1 : Int32) + (-1 : Int32))), .unset, .val (.ref b93), .val (.int (3 : Int32))] []))
        rw [show (((1 : Int32) + (-1 : Int32)) : Int32) = (0 : Int32) from by decide]
        show Good p e below _ (T147.setTop (mkF m 131 #[.val (.ref r0), .val (.ref b93), .val (.int (1 : Int32)), .val (.double (own_R 3 ((((x0 * x1) * x2) + (((((16 - x0) * x1) + (x0 * (16 - x1))) * x2) + ((x0 * x1) * (16 - x2)))) + ((((16 - x0) * (16 - x1)) * x2) + ((((16 - x0) * x1) + (x0 * (16 - x1))) * (16 - x2)))))), .second, .val (.int (0 : Int32)), .unset, .val (.ref b93), .val (.int (3 : Int32))] []))
        refine Good.back (fun _ k => XS.goto X147.here hx rfl (pc0 := 131) (pc' := 104) rfl (hb hby own_d1_131) (by decide) (by decide) k) ?_
        show Good p e below _ (T147.setTop (mkF m 104 #[.val (.ref r0), .val (.ref b93), .val (.int (1 : Int32)), .val (.double (own_R 3 ((((x0 * x1) * x2) + (((((16 - x0) * x1) + (x0 * (16 - x1))) * x2) + ((x0 * x1) * (16 - x2)))) + ((((16 - x0) * (16 - x1)) * x2) + ((((16 - x0) * x1) + (x0 * (16 - x1))) * (16 - x2)))))), .second, .val (.int (0 : Int32)), .unset, .val (.ref b93), .val (.int (3 : Int32))] []))
        refine Good.back (fun _ k => XS.iload X147.here hx rfl (hb hby own_d1_104) rfl k) ?_
        show Good p e below _ (T147.setTop (mkF m 106 #[.val (.ref r0), .val (.ref b93), .val (.int (1 : Int32)), .val (.double (own_R 3 ((((x0 * x1) * x2) + (((((16 - x0) * x1) + (x0 * (16 - x1))) * x2) + ((x0 * x1) * (16 - x2)))) + ((((16 - x0) * (16 - x1)) * x2) + ((((16 - x0) * x1) + (x0 * (16 - x1))) * (16 - x2)))))), .second, .val (.int (0 : Int32)), .unset, .val (.ref b93), .val (.int (3 : Int32))] [(.int (0 : Int32))]))
        refine Good.back (fun _ k => XS.iconst X147.here hx rfl (hb hby own_d1_106) k) ?_
        show Good p e below _ (T147.setTop (mkF m 107 #[.val (.ref r0), .val (.ref b93), .val (.int (1 : Int32)), .val (.double (own_R 3 ((((x0 * x1) * x2) + (((((16 - x0) * x1) + (x0 * (16 - x1))) * x2) + ((x0 * x1) * (16 - x2)))) + ((((16 - x0) * (16 - x1)) * x2) + ((((16 - x0) * x1) + (x0 * (16 - x1))) * (16 - x2)))))), .second, .val (.int (0 : Int32)), .unset, .val (.ref b93), .val (.int (3 : Int32))] [(.int (1 : Int32)), (.int (0 : Int32))]))
        refine Good.back (fun _ k => XS.icmpYes X147.here hx rfl (pc0 := 107) (pc' := 134) rfl (hb hby own_d1_107) rfl (tlt (by decide : ((0 : Int32) < (1 : Int32)))).1 (by decide) (by decide) k) ?_
        show Good p e below _ (T147.setTop (mkF m 134 #[.val (.ref r0), .val (.ref b93), .val (.int (1 : Int32)), .val (.double (own_R 3 ((((x0 * x1) * x2) + (((((16 - x0) * x1) + (x0 * (16 - x1))) * x2) + ((x0 * x1) * (16 - x2)))) + ((((16 - x0) * (16 - x1)) * x2) + ((((16 - x0) * x1) + (x0 * (16 - x1))) * (16 - x2)))))), .second, .val (.int (0 : Int32)), .unset, .val (.ref b93), .val (.int (3 : Int32))] []))
        refine Good.back (fun _ k => XS.iloadN X147.here hx rfl (hb hby own_d1_134) rfl k) ?_
        show Good p e below _ (T147.setTop (mkF m 135 #[.val (.ref r0), .val (.ref b93), .val (.int (1 : Int32)), .val (.double (own_R 3 ((((x0 * x1) * x2) + (((((16 - x0) * x1) + (x0 * (16 - x1))) * x2) + ((x0 * x1) * (16 - x2)))) + ((((16 - x0) * (16 - x1)) * x2) + ((((16 - x0) * x1) + (x0 * (16 - x1))) * (16 - x2)))))), .second, .val (.int (0 : Int32)), .unset, .val (.ref b93), .val (.int (3 : Int32))] [(.int (1 : Int32))]))
        obtain ⟨fs184, hr184, hrun184, hended184, hW184, hsame184⟩ := X147.leave (v := some (.int (1 : Int32))) (fun h => by rw [Bd.returns] at h; cases h)
        refine Good.done (retI X147 hx Bd.returns (hb hby own_d1_135) hr184) hrun184 hended184 ⟨_, _, rfl, ?_, ⟨_, rfl⟩, hW184, hsame184.mono (by decide) (by decide)⟩
        show Q1_3 Z r0 kk x0 x1 x2 h0 n0 _ T147.heap _
        rw [e147]
        exact ⟨congrArg (fun z => some (Value.int z)) (by rw [if_pos hq1_183]), N147, K150⟩
      · rw [if_neg hq1_183]
        show Good p e below _ (T147.setTop (mkF m 122 #[.val (.ref r0), .val (.ref b93), .val (.int (2 : Int32)), .val (.double (own_R 3 ((((x0 * x1) * x2) + (((((16 - x0) * x1) + (x0 * (16 - x1))) * x2) + ((x0 * x1) * (16 - x2)))) + ((((16 - x0) * (16 - x1)) * x2) + ((((16 - x0) * x1) + (x0 * (16 - x1))) * (16 - x2)))))), .second, .val (.int (1 : Int32)), .unset, .val (.ref b93), .val (.int (3 : Int32))] [(.int (1 : Int32))]))
        refine Good.back (fun _ k => XS.ifYes X147.here hx rfl (pc0 := 122) (pc' := 128) rfl (hb hby own_d1_122) rfl ((if0 _ _).trans (flt (by decide : ¬ ((1 : Int32) < (0 : Int32)))).2.1) (by decide) (by decide) k) ?_
        show Good p e below _ (T147.setTop (mkF m 128 #[.val (.ref r0), .val (.ref b93), .val (.int (2 : Int32)), .val (.double (own_R 3 ((((x0 * x1) * x2) + (((((16 - x0) * x1) + (x0 * (16 - x1))) * x2) + ((x0 * x1) * (16 - x2)))) + ((((16 - x0) * (16 - x1)) * x2) + ((((16 - x0) * x1) + (x0 * (16 - x1))) * (16 - x2)))))), .second, .val (.int (1 : Int32)), .unset, .val (.ref b93), .val (.int (3 : Int32))] []))
        refine Good.back (fun _ k => XS.iinc X147.here hx rfl (hb hby own_d1_128) rfl (l' := #[.val (.ref r0), .val (.ref b93), .val (.int (2 : Int32)), .val (.double (own_R 3 ((((x0 * x1) * x2) + (((((16 - x0) * x1) + (x0 * (16 - x1))) * x2) + ((x0 * x1) * (16 - x2)))) + ((((16 - x0) * (16 - x1)) * x2) + ((((16 - x0) * x1) + (x0 * (16 - x1))) * (16 - x2)))))), .second, .val (.int ((1 : Int32) + (-1 : Int32))), .unset, .val (.ref b93), .val (.int (3 : Int32))]) rfl k) ?_
        show Good p e below _ (T147.setTop (mkF m 131 #[.val (.ref r0), .val (.ref b93), .val (.int (2 : Int32)), .val (.double (own_R 3 ((((x0 * x1) * x2) + (((((16 - x0) * x1) + (x0 * (16 - x1))) * x2) + ((x0 * x1) * (16 - x2)))) + ((((16 - x0) * (16 - x1)) * x2) + ((((16 - x0) * x1) + (x0 * (16 - x1))) * (16 - x2)))))), .second, .val (.int ((1 : Int32) + (-1 : Int32))), .unset, .val (.ref b93), .val (.int (3 : Int32))] []))
        rw [show (((1 : Int32) + (-1 : Int32)) : Int32) = (0 : Int32) from by decide]
        show Good p e below _ (T147.setTop (mkF m 131 #[.val (.ref r0), .val (.ref b93), .val (.int (2 : Int32)), .val (.double (own_R 3 ((((x0 * x1) * x2) + (((((16 - x0) * x1) + (x0 * (16 - x1))) * x2) + ((x0 * x1) * (16 - x2)))) + ((((16 - x0) * (16 - x1)) * x2) + ((((16 - x0) * x1) + (x0 * (16 - x1))) * (16 - x2)))))), .second, .val (.int (0 : Int32)), .unset, .val (.ref b93), .val (.int (3 : Int32))] []))
        refine Good.back (fun _ k => XS.goto X147.here hx rfl (pc0 := 131) (pc' := 104) rfl (hb hby own_d1_131) (by decide) (by decide) k) ?_
        show Good p e below _ (T147.setTop (mkF m 104 #[.val (.ref r0), .val (.ref b93), .val (.int (2 : Int32)), .val (.double (own_R 3 ((((x0 * x1) * x2) + (((((16 - x0) * x1) + (x0 * (16 - x1))) * x2) + ((x0 * x1) * (16 - x2)))) + ((((16 - x0) * (16 - x1)) * x2) + ((((16 - x0) * x1) + (x0 * (16 - x1))) * (16 - x2)))))), .second, .val (.int (0 : Int32)), .unset, .val (.ref b93), .val (.int (3 : Int32))] []))
        refine Good.back (fun _ k => XS.iload X147.here hx rfl (hb hby own_d1_104) rfl k) ?_
        show Good p e below _ (T147.setTop (mkF m 106 #[.val (.ref r0), .val (.ref b93), .val (.int (2 : Int32)), .val (.double (own_R 3 ((((x0 * x1) * x2) + (((((16 - x0) * x1) + (x0 * (16 - x1))) * x2) + ((x0 * x1) * (16 - x2)))) + ((((16 - x0) * (16 - x1)) * x2) + ((((16 - x0) * x1) + (x0 * (16 - x1))) * (16 - x2)))))), .second, .val (.int (0 : Int32)), .unset, .val (.ref b93), .val (.int (3 : Int32))] [(.int (0 : Int32))]))
        refine Good.back (fun _ k => XS.iconst X147.here hx rfl (hb hby own_d1_106) k) ?_
        show Good p e below _ (T147.setTop (mkF m 107 #[.val (.ref r0), .val (.ref b93), .val (.int (2 : Int32)), .val (.double (own_R 3 ((((x0 * x1) * x2) + (((((16 - x0) * x1) + (x0 * (16 - x1))) * x2) + ((x0 * x1) * (16 - x2)))) + ((((16 - x0) * (16 - x1)) * x2) + ((((16 - x0) * x1) + (x0 * (16 - x1))) * (16 - x2)))))), .second, .val (.int (0 : Int32)), .unset, .val (.ref b93), .val (.int (3 : Int32))] [(.int (1 : Int32)), (.int (0 : Int32))]))
        refine Good.back (fun _ k => XS.icmpYes X147.here hx rfl (pc0 := 107) (pc' := 134) rfl (hb hby own_d1_107) rfl (tlt (by decide : ((0 : Int32) < (1 : Int32)))).1 (by decide) (by decide) k) ?_
        show Good p e below _ (T147.setTop (mkF m 134 #[.val (.ref r0), .val (.ref b93), .val (.int (2 : Int32)), .val (.double (own_R 3 ((((x0 * x1) * x2) + (((((16 - x0) * x1) + (x0 * (16 - x1))) * x2) + ((x0 * x1) * (16 - x2)))) + ((((16 - x0) * (16 - x1)) * x2) + ((((16 - x0) * x1) + (x0 * (16 - x1))) * (16 - x2)))))), .second, .val (.int (0 : Int32)), .unset, .val (.ref b93), .val (.int (3 : Int32))] []))
        refine Good.back (fun _ k => XS.iloadN X147.here hx rfl (hb hby own_d1_134) rfl k) ?_
        show Good p e below _ (T147.setTop (mkF m 135 #[.val (.ref r0), .val (.ref b93), .val (.int (2 : Int32)), .val (.double (own_R 3 ((((x0 * x1) * x2) + (((((16 - x0) * x1) + (x0 * (16 - x1))) * x2) + ((x0 * x1) * (16 - x2)))) + ((((16 - x0) * (16 - x1)) * x2) + ((((16 - x0) * x1) + (x0 * (16 - x1))) * (16 - x2)))))), .second, .val (.int (0 : Int32)), .unset, .val (.ref b93), .val (.int (3 : Int32))] [(.int (2 : Int32))]))
        obtain ⟨fs185, hr185, hrun185, hended185, hW185, hsame185⟩ := X147.leave (v := some (.int (2 : Int32))) (fun h => by rw [Bd.returns] at h; cases h)
        refine Good.done (retI X147 hx Bd.returns (hb hby own_d1_135) hr185) hrun185 hended185 ⟨_, _, rfl, ?_, ⟨_, rfl⟩, hW185, hsame185.mono (by decide) (by decide)⟩
        show Q1_3 Z r0 kk x0 x1 x2 h0 n0 _ T147.heap _
        rw [e147]
        exact ⟨congrArg (fun z => some (Value.int z)) (by rw [if_neg hq1_183, if_pos hq2_180]), N147, K150⟩
    · rw [if_neg hq2_180]
      show Good p e below _ (T147.setTop (mkF m 122 #[.val (.ref r0), .val (.ref b93), .val (.int (3 : Int32)), .val (.double (own_R 3 (((x0 * x1) * x2) + (((((16 - x0) * x1) + (x0 * (16 - x1))) * x2) + ((x0 * x1) * (16 - x2)))))), .second, .val (.int (2 : Int32)), .unset, .val (.ref b93), .val (.int (3 : Int32))] [(.int (1 : Int32))]))
      refine Good.back (fun _ k => XS.ifYes X147.here hx rfl (pc0 := 122) (pc' := 128) rfl (hb hby own_d1_122) rfl ((if0 _ _).trans (flt (by decide : ¬ ((1 : Int32) < (0 : Int32)))).2.1) (by decide) (by decide) k) ?_
      show Good p e below _ (T147.setTop (mkF m 128 #[.val (.ref r0), .val (.ref b93), .val (.int (3 : Int32)), .val (.double (own_R 3 (((x0 * x1) * x2) + (((((16 - x0) * x1) + (x0 * (16 - x1))) * x2) + ((x0 * x1) * (16 - x2)))))), .second, .val (.int (2 : Int32)), .unset, .val (.ref b93), .val (.int (3 : Int32))] []))
      refine Good.back (fun _ k => XS.iinc X147.here hx rfl (hb hby own_d1_128) rfl (l' := #[.val (.ref r0), .val (.ref b93), .val (.int (3 : Int32)), .val (.double (own_R 3 (((x0 * x1) * x2) + (((((16 - x0) * x1) + (x0 * (16 - x1))) * x2) + ((x0 * x1) * (16 - x2)))))), .second, .val (.int ((2 : Int32) + (-1 : Int32))), .unset, .val (.ref b93), .val (.int (3 : Int32))]) rfl k) ?_
      show Good p e below _ (T147.setTop (mkF m 131 #[.val (.ref r0), .val (.ref b93), .val (.int (3 : Int32)), .val (.double (own_R 3 (((x0 * x1) * x2) + (((((16 - x0) * x1) + (x0 * (16 - x1))) * x2) + ((x0 * x1) * (16 - x2)))))), .second, .val (.int ((2 : Int32) + (-1 : Int32))), .unset, .val (.ref b93), .val (.int (3 : Int32))] []))
      rw [show (((2 : Int32) + (-1 : Int32)) : Int32) = (1 : Int32) from by decide]
      show Good p e below _ (T147.setTop (mkF m 131 #[.val (.ref r0), .val (.ref b93), .val (.int (3 : Int32)), .val (.double (own_R 3 (((x0 * x1) * x2) + (((((16 - x0) * x1) + (x0 * (16 - x1))) * x2) + ((x0 * x1) * (16 - x2)))))), .second, .val (.int (1 : Int32)), .unset, .val (.ref b93), .val (.int (3 : Int32))] []))
      refine Good.back (fun _ k => XS.goto X147.here hx rfl (pc0 := 131) (pc' := 104) rfl (hb hby own_d1_131) (by decide) (by decide) k) ?_
      show Good p e below _ (T147.setTop (mkF m 104 #[.val (.ref r0), .val (.ref b93), .val (.int (3 : Int32)), .val (.double (own_R 3 (((x0 * x1) * x2) + (((((16 - x0) * x1) + (x0 * (16 - x1))) * x2) + ((x0 * x1) * (16 - x2)))))), .second, .val (.int (1 : Int32)), .unset, .val (.ref b93), .val (.int (3 : Int32))] []))
      refine Good.back (fun _ k => XS.iload X147.here hx rfl (hb hby own_d1_104) rfl k) ?_
      show Good p e below _ (T147.setTop (mkF m 106 #[.val (.ref r0), .val (.ref b93), .val (.int (3 : Int32)), .val (.double (own_R 3 (((x0 * x1) * x2) + (((((16 - x0) * x1) + (x0 * (16 - x1))) * x2) + ((x0 * x1) * (16 - x2)))))), .second, .val (.int (1 : Int32)), .unset, .val (.ref b93), .val (.int (3 : Int32))] [(.int (1 : Int32))]))
      refine Good.back (fun _ k => XS.iconst X147.here hx rfl (hb hby own_d1_106) k) ?_
      show Good p e below _ (T147.setTop (mkF m 107 #[.val (.ref r0), .val (.ref b93), .val (.int (3 : Int32)), .val (.double (own_R 3 (((x0 * x1) * x2) + (((((16 - x0) * x1) + (x0 * (16 - x1))) * x2) + ((x0 * x1) * (16 - x2)))))), .second, .val (.int (1 : Int32)), .unset, .val (.ref b93), .val (.int (3 : Int32))] [(.int (1 : Int32)), (.int (1 : Int32))]))
      refine Good.back (fun _ k => XS.icmpNo X147.here hx rfl (hb hby own_d1_107) rfl (flt (by decide : ¬ ((1 : Int32) < (1 : Int32)))).1 k) ?_
      show Good p e below _ (T147.setTop (mkF m 110 #[.val (.ref r0), .val (.ref b93), .val (.int (3 : Int32)), .val (.double (own_R 3 (((x0 * x1) * x2) + (((((16 - x0) * x1) + (x0 * (16 - x1))) * x2) + ((x0 * x1) * (16 - x2)))))), .second, .val (.int (1 : Int32)), .unset, .val (.ref b93), .val (.int (3 : Int32))] []))
      refine Good.back (fun _ k => XS.dloadN X147.here hx rfl (hb hby own_d1_110) rfl k) ?_
      show Good p e below _ (T147.setTop (mkF m 111 #[.val (.ref r0), .val (.ref b93), .val (.int (3 : Int32)), .val (.double (own_R 3 (((x0 * x1) * x2) + (((((16 - x0) * x1) + (x0 * (16 - x1))) * x2) + ((x0 * x1) * (16 - x2)))))), .second, .val (.int (1 : Int32)), .unset, .val (.ref b93), .val (.int (3 : Int32))] [(.double (own_R 3 (((x0 * x1) * x2) + (((((16 - x0) * x1) + (x0 * (16 - x1))) * x2) + ((x0 * x1) * (16 - x2))))))]))
      refine Good.back (fun _ k => XS.aloadN X147.here hx rfl (hb hby own_d1_111) rfl rfl k) ?_
      show Good p e below _ (T147.setTop (mkF m 112 #[.val (.ref r0), .val (.ref b93), .val (.int (3 : Int32)), .val (.double (own_R 3 (((x0 * x1) * x2) + (((((16 - x0) * x1) + (x0 * (16 - x1))) * x2) + ((x0 * x1) * (16 - x2)))))), .second, .val (.int (1 : Int32)), .unset, .val (.ref b93), .val (.int (3 : Int32))] [(.ref b93), (.double (own_R 3 (((x0 * x1) * x2) + (((((16 - x0) * x1) + (x0 * (16 - x1))) * x2) + ((x0 * x1) * (16 - x2))))))]))
      refine Good.back (fun _ k => XS.iload X147.here hx rfl (hb hby own_d1_112) rfl k) ?_
      show Good p e below _ (T147.setTop (mkF m 114 #[.val (.ref r0), .val (.ref b93), .val (.int (3 : Int32)), .val (.double (own_R 3 (((x0 * x1) * x2) + (((((16 - x0) * x1) + (x0 * (16 - x1))) * x2) + ((x0 * x1) * (16 - x2)))))), .second, .val (.int (1 : Int32)), .unset, .val (.ref b93), .val (.int (3 : Int32))] [(.int (1 : Int32)), (.ref b93), (.double (own_R 3 (((x0 * x1) * x2) + (((((16 - x0) * x1) + (x0 * (16 - x1))) * x2) + ((x0 * x1) * (16 - x2))))))]))
      have fc186 := f_148
      obtain ⟨cl186, Ar186, qk186, S186, N186', H186, G186⟩ := fc186
      have hin186 : ¬ ((1 : Int32) < 0 ∨ cl186.slots.size ≤ ((1 : Int32)).toNatClampNeg) := inb_of S186 ⟨by decide, by decide⟩
      have hat186 : cl186.slots[((1 : Int32)).toNatClampNeg]? = some (.double (own_R 3 ((((16 - x0) * (16 - x1)) * x2) + ((((16 - x0) * x1) + (x0 * (16 - x1))) * (16 - x2))))) := Has.at H186 hin186 rfl
      refine Good.back (X147.daload hx (j := (1 : Int32)) (v := (.double (own_R 3 ((((16 - x0) * (16 - x1)) * x2) + ((((16 - x0) * x1) + (x0 * (16 - x1))) * (16 - x2)))))) (by rw [e147]; exact Ar186.1) (State.isArrayOf_alike hZ.alike Ar186.2.1) Ar186.2.2 hin186 hat186 (g := (mkF m 114 #[.val (.ref r0), .val (.ref b93), .val (.int (3 : Int32)), .val (.double (own_R 3 (((x0 * x1) * x2) + (((((16 - x0) * x1) + (x0 * (16 - x1))) * x2) + ((x0 * x1) * (16 - x2)))))), .second, .val (.int (1 : Int32)), .unset, .val (.ref b93), .val (.int (3 : Int32))] [(.int (1 : Int32)), (.ref b93), (.double (own_R 3 (((x0 * x1) * x2) + (((((16 - x0) * x1) + (x0 * (16 - x1))) * x2) + ((x0 * x1) * (16 - x2))))))])) rfl rfl (hb hby own_d1_114)) ?_
      show Good p e below _ (T147.setTop (mkF m 115 #[.val (.ref r0), .val (.ref b93), .val (.int (3 : Int32)), .val (.double (own_R 3 (((x0 * x1) * x2) + (((((16 - x0) * x1) + (x0 * (16 - x1))) * x2) + ((x0 * x1) * (16 - x2)))))), .second, .val (.int (1 : Int32)), .unset, .val (.ref b93), .val (.int (3 : Int32))] [(.double (own_R 3 ((((16 - x0) * (16 - x1)) * x2) + ((((16 - x0) * x1) + (x0 * (16 - x1))) * (16 - x2))))), (.double (own_R 3 (((x0 * x1) * x2) + (((((16 - x0) * x1) + (x0 * (16 - x1))) * x2) + ((x0 * x1) * (16 - x2))))))]))
      have hb187 := Nat.add_le_add hb179 hb120
      refine Good.back (fun _ k => XS.daddS X147.here hx rfl (hb hby own_d1_115) rfl ((own_Radd (Nat.lt_of_le_of_lt hb179 (by decide)) (Nat.lt_of_le_of_lt hb120 (by decide))).symm ▸ own_Rnn (Nat.lt_of_le_of_lt hb187 (by decide))) (own_Radd (Nat.lt_of_le_of_lt hb179 (by decide)) (Nat.lt_of_le_of_lt hb120 (by decide))) k) ?_
      show Good p e below _ (T147.setTop (mkF m 116 #[.val (.ref r0), .val (.ref b93), .val (.int (3 : Int32)), .val (.double (own_R 3 (((x0 * x1) * x2) + (((((16 - x0) * x1) + (x0 * (16 - x1))) * x2) + ((x0 * x1) * (16 - x2)))))), .second, .val (.int (1 : Int32)), .unset, .val (.ref b93), .val (.int (3 : Int32))] [(.double (own_R 3 ((((x0 * x1) * x2) + (((((16 - x0) * x1) + (x0 * (16 - x1))) * x2) + ((x0 * x1) * (16 - x2)))) + ((((16 - x0) * (16 - x1)) * x2) + ((((16 - x0) * x1) + (x0 * (16 - x1))) * (16 - x2))))))]))
      refine Good.back (fun _ k => XS.dstoreN X147.here hx rfl (hb hby own_d1_116) rfl (l' := #[.val (.ref r0), .val (.ref b93), .val (.int (3 : Int32)), .val (.double (own_R 3 ((((x0 * x1) * x2) + (((((16 - x0) * x1) + (x0 * (16 - x1))) * x2) + ((x0 * x1) * (16 - x2)))) + ((((16 - x0) * (16 - x1)) * x2) + ((((16 - x0) * x1) + (x0 * (16 - x1))) * (16 - x2)))))), .second, .val (.int (1 : Int32)), .unset, .val (.ref b93), .val (.int (3 : Int32))]) rfl k) ?_
      show Good p e below _ (T147.setTop (mkF m 117 #[.val (.ref r0), .val (.ref b93), .val (.int (3 : Int32)), .val (.double (own_R 3 ((((x0 * x1) * x2) + (((((16 - x0) * x1) + (x0 * (16 - x1))) * x2) + ((x0 * x1) * (16 - x2)))) + ((((16 - x0) * (16 - x1)) * x2) + ((((16 - x0) * x1) + (x0 * (16 - x1))) * (16 - x2)))))), .second, .val (.int (1 : Int32)), .unset, .val (.ref b93), .val (.int (3 : Int32))] []))
      refine Good.back (fun _ k => XS.dloadN X147.here hx rfl (hb hby own_d1_117) rfl k) ?_
      show Good p e below _ (T147.setTop (mkF m 118 #[.val (.ref r0), .val (.ref b93), .val (.int (3 : Int32)), .val (.double (own_R 3 ((((x0 * x1) * x2) + (((((16 - x0) * x1) + (x0 * (16 - x1))) * x2) + ((x0 * x1) * (16 - x2)))) + ((((16 - x0) * (16 - x1)) * x2) + ((((16 - x0) * x1) + (x0 * (16 - x1))) * (16 - x2)))))), .second, .val (.int (1 : Int32)), .unset, .val (.ref b93), .val (.int (3 : Int32))] [(.double (own_R 3 ((((x0 * x1) * x2) + (((((16 - x0) * x1) + (x0 * (16 - x1))) * x2) + ((x0 * x1) * (16 - x2)))) + ((((16 - x0) * (16 - x1)) * x2) + ((((16 - x0) * x1) + (x0 * (16 - x1))) * (16 - x2))))))]))
      refine Good.back (X147.ldc2DoubleC hx hown (mvT hZ (hw _ (List.mem_of_getElem? (i := 7) rfl))) (g := (mkF m 118 #[.val (.ref r0), .val (.ref b93), .val (.int (3 : Int32)), .val (.double (own_R 3 ((((x0 * x1) * x2) + (((((16 - x0) * x1) + (x0 * (16 - x1))) * x2) + ((x0 * x1) * (16 - x2)))) + ((((16 - x0) * (16 - x1)) * x2) + ((((16 - x0) * x1) + (x0 * (16 - x1))) * (16 - x2)))))), .second, .val (.int (1 : Int32)), .unset, .val (.ref b93), .val (.int (3 : Int32))] [(.double (own_R 3 ((((x0 * x1) * x2) + (((((16 - x0) * x1) + (x0 * (16 - x1))) * x2) + ((x0 * x1) * (16 - x2)))) + ((((16 - x0) * (16 - x1)) * x2) + ((((16 - x0) * x1) + (x0 * (16 - x1))) * (16 - x2))))))])) rfl (hb hby own_d1_118)) ?_
      show Good p e below _ (T147.setTop (mkF m 121 #[.val (.ref r0), .val (.ref b93), .val (.int (3 : Int32)), .val (.double (own_R 3 ((((x0 * x1) * x2) + (((((16 - x0) * x1) + (x0 * (16 - x1))) * x2) + ((x0 * x1) * (16 - x2)))) + ((((16 - x0) * (16 - x1)) * x2) + ((((16 - x0) * x1) + (x0 * (16 - x1))) * (16 - x2)))))), .second, .val (.int (1 : Int32)), .unset, .val (.ref b93), .val (.int (3 : Int32))] [(.double (4587366580439587226 : UInt64)), (.double (own_R 3 ((((x0 * x1) * x2) + (((((16 - x0) * x1) + (x0 * (16 - x1))) * x2) + ((x0 * x1) * (16 - x2)))) + ((((16 - x0) * (16 - x1)) * x2) + ((((16 - x0) * x1) + (x0 * (16 - x1))) * (16 - x2))))))]))
      refine Good.back (fun _ k => XS.dcmpS X147.here hx rfl (hb hby own_d1_121) rfl (v := (if 20 * ((((x0 * x1) * x2) + (((((16 - x0) * x1) + (x0 * (16 - x1))) * x2) + ((x0 * x1) * (16 - x2)))) + ((((16 - x0) * (16 - x1)) * x2) + ((((16 - x0) * x1) + (x0 * (16 - x1))) * (16 - x2)))) < 16 ^ 3 then (-1 : Int32) else (1 : Int32))) (own_Rcmp (by decide) (Nat.lt_of_le_of_lt hb187 (by decide))) k) ?_
      show Good p e below _ (T147.setTop (mkF m 122 #[.val (.ref r0), .val (.ref b93), .val (.int (3 : Int32)), .val (.double (own_R 3 ((((x0 * x1) * x2) + (((((16 - x0) * x1) + (x0 * (16 - x1))) * x2) + ((x0 * x1) * (16 - x2)))) + ((((16 - x0) * (16 - x1)) * x2) + ((((16 - x0) * x1) + (x0 * (16 - x1))) * (16 - x2)))))), .second, .val (.int (1 : Int32)), .unset, .val (.ref b93), .val (.int (3 : Int32))] [(.int (if 20 * ((((x0 * x1) * x2) + (((((16 - x0) * x1) + (x0 * (16 - x1))) * x2) + ((x0 * x1) * (16 - x2)))) + ((((16 - x0) * (16 - x1)) * x2) + ((((16 - x0) * x1) + (x0 * (16 - x1))) * (16 - x2)))) < 16 ^ 3 then (-1 : Int32) else (1 : Int32)))]))
      by_cases hq1_188 : 20 * ((((x0 * x1) * x2) + (((((16 - x0) * x1) + (x0 * (16 - x1))) * x2) + ((x0 * x1) * (16 - x2)))) + ((((16 - x0) * (16 - x1)) * x2) + ((((16 - x0) * x1) + (x0 * (16 - x1))) * (16 - x2)))) < 16 ^ 3
      · rw [if_pos hq1_188]
        show Good p e below _ (T147.setTop (mkF m 122 #[.val (.ref r0), .val (.ref b93), .val (.int (3 : Int32)), .val (.double (own_R 3 ((((x0 * x1) * x2) + (((((16 - x0) * x1) + (x0 * (16 - x1))) * x2) + ((x0 * x1) * (16 - x2)))) + ((((16 - x0) * (16 - x1)) * x2) + ((((16 - x0) * x1) + (x0 * (16 - x1))) * (16 - x2)))))), .second, .val (.int (1 : Int32)), .unset, .val (.ref b93), .val (.int (3 : Int32))] [(.int (-1 : Int32))]))
        refine Good.back (fun _ k => XS.ifNo X147.here hx rfl (hb hby own_d1_122) rfl ((if0 _ _).trans (tlt (by decide : ((-1 : Int32) < (0 : Int32)))).2.1) k) ?_
        show Good p e below _ (T147.setTop (mkF m 125 #[.val (.ref r0), .val (.ref b93), .val (.int (3 : Int32)), .val (.double (own_R 3 ((((x0 * x1) * x2) + (((((16 - x0) * x1) + (x0 * (16 - x1))) * x2) + ((x0 * x1) * (16 - x2)))) + ((((16 - x0) * (16 - x1)) * x2) + ((((16 - x0) * x1) + (x0 * (16 - x1))) * (16 - x2)))))), .second, .val (.int (1 : Int32)), .unset, .val (.ref b93), .val (.int (3 : Int32))] []))
        refine Good.back (fun _ k => XS.iload X147.here hx rfl (hb hby own_d1_125) rfl k) ?_
        show Good p e below _ (T147.setTop (mkF m 127 #[.val (.ref r0), .val (.ref b93), .val (.int (3 : Int32)), .val (.double (own_R 3 ((((x0 * x1) * x2) + (((((16 - x0) * x1) + (x0 * (16 - x1))) * x2) + ((x0 * x1) * (16 - x2)))) + ((((16 - x0) * (16 - x1)) * x2) + ((((16 - x0) * x1) + (x0 * (16 - x1))) * (16 - x2)))))), .second, .val (.int (1 : Int32)), .unset, .val (.ref b93), .val (.int (3 : Int32))] [(.int (1 : Int32))]))
        refine Good.back (fun _ k => XS.istoreN X147.here hx rfl (hb hby own_d1_127) rfl (l' := #[.val (.ref r0), .val (.ref b93), .val (.int (1 : Int32)), .val (.double (own_R 3 ((((x0 * x1) * x2) + (((((16 - x0) * x1) + (x0 * (16 - x1))) * x2) + ((x0 * x1) * (16 - x2)))) + ((((16 - x0) * (16 - x1)) * x2) + ((((16 - x0) * x1) + (x0 * (16 - x1))) * (16 - x2)))))), .second, .val (.int (1 : Int32)), .unset, .val (.ref b93), .val (.int (3 : Int32))]) rfl k) ?_
        show Good p e below _ (T147.setTop (mkF m 128 #[.val (.ref r0), .val (.ref b93), .val (.int (1 : Int32)), .val (.double (own_R 3 ((((x0 * x1) * x2) + (((((16 - x0) * x1) + (x0 * (16 - x1))) * x2) + ((x0 * x1) * (16 - x2)))) + ((((16 - x0) * (16 - x1)) * x2) + ((((16 - x0) * x1) + (x0 * (16 - x1))) * (16 - x2)))))), .second, .val (.int (1 : Int32)), .unset, .val (.ref b93), .val (.int (3 : Int32))] []))
        refine Good.back (fun _ k => XS.iinc X147.here hx rfl (hb hby own_d1_128) rfl (l' := #[.val (.ref r0), .val (.ref b93), .val (.int (1 : Int32)), .val (.double (own_R 3 ((((x0 * x1) * x2) + (((((16 - x0) * x1) + (x0 * (16 - x1))) * x2) + ((x0 * x1) * (16 - x2)))) + ((((16 - x0) * (16 - x1)) * x2) + ((((16 - x0) * x1) + (x0 * (16 - x1))) * (16 - x2)))))), .second, .val (.int ((1 : Int32) + (-1 : Int32))), .unset, .val (.ref b93), .val (.int (3 : Int32))]) rfl k) ?_
        show Good p e below _ (T147.setTop (mkF m 131 #[.val (.ref r0), .val (.ref b93), .val (.int (1 : Int32)), .val (.double (own_R 3 ((((x0 * x1) * x2) + (((((16 - x0) * x1) + (x0 * (16 - x1))) * x2) + ((x0 * x1) * (16 - x2)))) + ((((16 - x0) * (16 - x1)) * x2) + ((((16 - x0) * x1) + (x0 * (16 - x1))) * (16 - x2)))))), .second, .val (.int ((1 : Int32) + (-1 : Int32))), .unset, .val (.ref b93), .val (.int (3 : Int32))] []))
        rw [show (((1 : Int32) + (-1 : Int32)) : Int32) = (0 : Int32) from by decide]
        show Good p e below _ (T147.setTop (mkF m 131 #[.val (.ref r0), .val (.ref b93), .val (.int (1 : Int32)), .val (.double (own_R 3 ((((x0 * x1) * x2) + (((((16 - x0) * x1) + (x0 * (16 - x1))) * x2) + ((x0 * x1) * (16 - x2)))) + ((((16 - x0) * (16 - x1)) * x2) + ((((16 - x0) * x1) + (x0 * (16 - x1))) * (16 - x2)))))), .second, .val (.int (0 : Int32)), .unset, .val (.ref b93), .val (.int (3 : Int32))] []))
        refine Good.back (fun _ k => XS.goto X147.here hx rfl (pc0 := 131) (pc' := 104) rfl (hb hby own_d1_131) (by decide) (by decide) k) ?_
        show Good p e below _ (T147.setTop (mkF m 104 #[.val (.ref r0), .val (.ref b93), .val (.int (1 : Int32)), .val (.double (own_R 3 ((((x0 * x1) * x2) + (((((16 - x0) * x1) + (x0 * (16 - x1))) * x2) + ((x0 * x1) * (16 - x2)))) + ((((16 - x0) * (16 - x1)) * x2) + ((((16 - x0) * x1) + (x0 * (16 - x1))) * (16 - x2)))))), .second, .val (.int (0 : Int32)), .unset, .val (.ref b93), .val (.int (3 : Int32))] []))
        refine Good.back (fun _ k => XS.iload X147.here hx rfl (hb hby own_d1_104) rfl k) ?_
        show Good p e below _ (T147.setTop (mkF m 106 #[.val (.ref r0), .val (.ref b93), .val (.int (1 : Int32)), .val (.double (own_R 3 ((((x0 * x1) * x2) + (((((16 - x0) * x1) + (x0 * (16 - x1))) * x2) + ((x0 * x1) * (16 - x2)))) + ((((16 - x0) * (16 - x1)) * x2) + ((((16 - x0) * x1) + (x0 * (16 - x1))) * (16 - x2)))))), .second, .val (.int (0 : Int32)), .unset, .val (.ref b93), .val (.int (3 : Int32))] [(.int (0 : Int32))]))
        refine Good.back (fun _ k => XS.iconst X147.here hx rfl (hb hby own_d1_106) k) ?_
        show Good p e below _ (T147.setTop (mkF m 107 #[.val (.ref r0), .val (.ref b93), .val (.int (1 : Int32)), .val (.double (own_R 3 ((((x0 * x1) * x2) + (((((16 - x0) * x1) + (x0 * (16 - x1))) * x2) + ((x0 * x1) * (16 - x2)))) + ((((16 - x0) * (16 - x1)) * x2) + ((((16 - x0) * x1) + (x0 * (16 - x1))) * (16 - x2)))))), .second, .val (.int (0 : Int32)), .unset, .val (.ref b93), .val (.int (3 : Int32))] [(.int (1 : Int32)), (.int (0 : Int32))]))
        refine Good.back (fun _ k => XS.icmpYes X147.here hx rfl (pc0 := 107) (pc' := 134) rfl (hb hby own_d1_107) rfl (tlt (by decide : ((0 : Int32) < (1 : Int32)))).1 (by decide) (by decide) k) ?_
        show Good p e below _ (T147.setTop (mkF m 134 #[.val (.ref r0), .val (.ref b93), .val (.int (1 : Int32)), .val (.double (own_R 3 ((((x0 * x1) * x2) + (((((16 - x0) * x1) + (x0 * (16 - x1))) * x2) + ((x0 * x1) * (16 - x2)))) + ((((16 - x0) * (16 - x1)) * x2) + ((((16 - x0) * x1) + (x0 * (16 - x1))) * (16 - x2)))))), .second, .val (.int (0 : Int32)), .unset, .val (.ref b93), .val (.int (3 : Int32))] []))
        refine Good.back (fun _ k => XS.iloadN X147.here hx rfl (hb hby own_d1_134) rfl k) ?_
        show Good p e below _ (T147.setTop (mkF m 135 #[.val (.ref r0), .val (.ref b93), .val (.int (1 : Int32)), .val (.double (own_R 3 ((((x0 * x1) * x2) + (((((16 - x0) * x1) + (x0 * (16 - x1))) * x2) + ((x0 * x1) * (16 - x2)))) + ((((16 - x0) * (16 - x1)) * x2) + ((((16 - x0) * x1) + (x0 * (16 - x1))) * (16 - x2)))))), .second, .val (.int (0 : Int32)), .unset, .val (.ref b93), .val (.int (3 : Int32))] [(.int (1 : Int32))]))
        obtain ⟨fs189, hr189, hrun189, hended189, hW189, hsame189⟩ := X147.leave (v := some (.int (1 : Int32))) (fun h => by rw [Bd.returns] at h; cases h)
        refine Good.done (retI X147 hx Bd.returns (hb hby own_d1_135) hr189) hrun189 hended189 ⟨_, _, rfl, ?_, ⟨_, rfl⟩, hW189, hsame189.mono (by decide) (by decide)⟩
        show Q1_3 Z r0 kk x0 x1 x2 h0 n0 _ T147.heap _
        rw [e147]
        exact ⟨congrArg (fun z => some (Value.int z)) (by rw [if_pos hq1_188]), N147, K150⟩
      · rw [if_neg hq1_188]
        show Good p e below _ (T147.setTop (mkF m 122 #[.val (.ref r0), .val (.ref b93), .val (.int (3 : Int32)), .val (.double (own_R 3 ((((x0 * x1) * x2) + (((((16 - x0) * x1) + (x0 * (16 - x1))) * x2) + ((x0 * x1) * (16 - x2)))) + ((((16 - x0) * (16 - x1)) * x2) + ((((16 - x0) * x1) + (x0 * (16 - x1))) * (16 - x2)))))), .second, .val (.int (1 : Int32)), .unset, .val (.ref b93), .val (.int (3 : Int32))] [(.int (1 : Int32))]))
        refine Good.back (fun _ k => XS.ifYes X147.here hx rfl (pc0 := 122) (pc' := 128) rfl (hb hby own_d1_122) rfl ((if0 _ _).trans (flt (by decide : ¬ ((1 : Int32) < (0 : Int32)))).2.1) (by decide) (by decide) k) ?_
        show Good p e below _ (T147.setTop (mkF m 128 #[.val (.ref r0), .val (.ref b93), .val (.int (3 : Int32)), .val (.double (own_R 3 ((((x0 * x1) * x2) + (((((16 - x0) * x1) + (x0 * (16 - x1))) * x2) + ((x0 * x1) * (16 - x2)))) + ((((16 - x0) * (16 - x1)) * x2) + ((((16 - x0) * x1) + (x0 * (16 - x1))) * (16 - x2)))))), .second, .val (.int (1 : Int32)), .unset, .val (.ref b93), .val (.int (3 : Int32))] []))
        refine Good.back (fun _ k => XS.iinc X147.here hx rfl (hb hby own_d1_128) rfl (l' := #[.val (.ref r0), .val (.ref b93), .val (.int (3 : Int32)), .val (.double (own_R 3 ((((x0 * x1) * x2) + (((((16 - x0) * x1) + (x0 * (16 - x1))) * x2) + ((x0 * x1) * (16 - x2)))) + ((((16 - x0) * (16 - x1)) * x2) + ((((16 - x0) * x1) + (x0 * (16 - x1))) * (16 - x2)))))), .second, .val (.int ((1 : Int32) + (-1 : Int32))), .unset, .val (.ref b93), .val (.int (3 : Int32))]) rfl k) ?_
        show Good p e below _ (T147.setTop (mkF m 131 #[.val (.ref r0), .val (.ref b93), .val (.int (3 : Int32)), .val (.double (own_R 3 ((((x0 * x1) * x2) + (((((16 - x0) * x1) + (x0 * (16 - x1))) * x2) + ((x0 * x1) * (16 - x2)))) + ((((16 - x0) * (16 - x1)) * x2) + ((((16 - x0) * x1) + (x0 * (16 - x1))) * (16 - x2)))))), .second, .val (.int ((1 : Int32) + (-1 : Int32))), .unset, .val (.ref b93), .val (.int (3 : Int32))] []))
        rw [show (((1 : Int32) + (-1 : Int32)) : Int32) = (0 : Int32) from by decide]
        show Good p e below _ (T147.setTop (mkF m 131 #[.val (.ref r0), .val (.ref b93), .val (.int (3 : Int32)), .val (.double (own_R 3 ((((x0 * x1) * x2) + (((((16 - x0) * x1) + (x0 * (16 - x1))) * x2) + ((x0 * x1) * (16 - x2)))) + ((((16 - x0) * (16 - x1)) * x2) + ((((16 - x0) * x1) + (x0 * (16 - x1))) * (16 - x2)))))), .second, .val (.int (0 : Int32)), .unset, .val (.ref b93), .val (.int (3 : Int32))] []))
        refine Good.back (fun _ k => XS.goto X147.here hx rfl (pc0 := 131) (pc' := 104) rfl (hb hby own_d1_131) (by decide) (by decide) k) ?_
        show Good p e below _ (T147.setTop (mkF m 104 #[.val (.ref r0), .val (.ref b93), .val (.int (3 : Int32)), .val (.double (own_R 3 ((((x0 * x1) * x2) + (((((16 - x0) * x1) + (x0 * (16 - x1))) * x2) + ((x0 * x1) * (16 - x2)))) + ((((16 - x0) * (16 - x1)) * x2) + ((((16 - x0) * x1) + (x0 * (16 - x1))) * (16 - x2)))))), .second, .val (.int (0 : Int32)), .unset, .val (.ref b93), .val (.int (3 : Int32))] []))
        refine Good.back (fun _ k => XS.iload X147.here hx rfl (hb hby own_d1_104) rfl k) ?_
        show Good p e below _ (T147.setTop (mkF m 106 #[.val (.ref r0), .val (.ref b93), .val (.int (3 : Int32)), .val (.double (own_R 3 ((((x0 * x1) * x2) + (((((16 - x0) * x1) + (x0 * (16 - x1))) * x2) + ((x0 * x1) * (16 - x2)))) + ((((16 - x0) * (16 - x1)) * x2) + ((((16 - x0) * x1) + (x0 * (16 - x1))) * (16 - x2)))))), .second, .val (.int (0 : Int32)), .unset, .val (.ref b93), .val (.int (3 : Int32))] [(.int (0 : Int32))]))
        refine Good.back (fun _ k => XS.iconst X147.here hx rfl (hb hby own_d1_106) k) ?_
        show Good p e below _ (T147.setTop (mkF m 107 #[.val (.ref r0), .val (.ref b93), .val (.int (3 : Int32)), .val (.double (own_R 3 ((((x0 * x1) * x2) + (((((16 - x0) * x1) + (x0 * (16 - x1))) * x2) + ((x0 * x1) * (16 - x2)))) + ((((16 - x0) * (16 - x1)) * x2) + ((((16 - x0) * x1) + (x0 * (16 - x1))) * (16 - x2)))))), .second, .val (.int (0 : Int32)), .unset, .val (.ref b93), .val (.int (3 : Int32))] [(.int (1 : Int32)), (.int (0 : Int32))]))
        refine Good.back (fun _ k => XS.icmpYes X147.here hx rfl (pc0 := 107) (pc' := 134) rfl (hb hby own_d1_107) rfl (tlt (by decide : ((0 : Int32) < (1 : Int32)))).1 (by decide) (by decide) k) ?_
        show Good p e below _ (T147.setTop (mkF m 134 #[.val (.ref r0), .val (.ref b93), .val (.int (3 : Int32)), .val (.double (own_R 3 ((((x0 * x1) * x2) + (((((16 - x0) * x1) + (x0 * (16 - x1))) * x2) + ((x0 * x1) * (16 - x2)))) + ((((16 - x0) * (16 - x1)) * x2) + ((((16 - x0) * x1) + (x0 * (16 - x1))) * (16 - x2)))))), .second, .val (.int (0 : Int32)), .unset, .val (.ref b93), .val (.int (3 : Int32))] []))
        refine Good.back (fun _ k => XS.iloadN X147.here hx rfl (hb hby own_d1_134) rfl k) ?_
        show Good p e below _ (T147.setTop (mkF m 135 #[.val (.ref r0), .val (.ref b93), .val (.int (3 : Int32)), .val (.double (own_R 3 ((((x0 * x1) * x2) + (((((16 - x0) * x1) + (x0 * (16 - x1))) * x2) + ((x0 * x1) * (16 - x2)))) + ((((16 - x0) * (16 - x1)) * x2) + ((((16 - x0) * x1) + (x0 * (16 - x1))) * (16 - x2)))))), .second, .val (.int (0 : Int32)), .unset, .val (.ref b93), .val (.int (3 : Int32))] [(.int (3 : Int32))]))
        obtain ⟨fs190, hr190, hrun190, hended190, hW190, hsame190⟩ := X147.leave (v := some (.int (3 : Int32))) (fun h => by rw [Bd.returns] at h; cases h)
        refine Good.done (retI X147 hx Bd.returns (hb hby own_d1_135) hr190) hrun190 hended190 ⟨_, _, rfl, ?_, ⟨_, rfl⟩, hW190, hsame190.mono (by decide) (by decide)⟩
        show Q1_3 Z r0 kk x0 x1 x2 h0 n0 _ T147.heap _
        rw [e147]
        exact ⟨congrArg (fun z => some (Value.int z)) (by rw [if_neg hq1_188, if_neg hq2_180]), N147, K150⟩
set_option maxRecDepth 1000000 in
set_option maxHeartbeats 40000000 in
theorem own_e146 : ∀ (a b : Fin 17), (((20 : Int32) * ((256 : Int32) - (((16 : Int32) - (Int32.ofNat a.val)) * ((16 : Int32) - (Int32.ofNat b.val))))) < (256 : Int32)) ↔ (20 * ((a.val * b.val) + (((16 - a.val) * b.val) + (a.val * (16 - b.val)))) < 16 ^ 2) := by decide +kernel
set_option maxRecDepth 1000000 in
set_option maxHeartbeats 40000000 in
theorem own_e243 : ∀ (a b c : Fin 17), (((20 : Int32) * ((4096 : Int32) - ((((16 : Int32) - (Int32.ofNat a.val)) * ((16 : Int32) - (Int32.ofNat b.val))) * ((16 : Int32) - (Int32.ofNat c.val))))) < (4096 : Int32)) ↔ (20 * ((((a.val * b.val) * c.val) + (((((16 - a.val) * b.val) + (a.val * (16 - b.val))) * c.val) + ((a.val * b.val) * (16 - c.val)))) + ((((16 - a.val) * (16 - b.val)) * c.val) + ((((16 - a.val) * b.val) + (a.val * (16 - b.val))) * (16 - c.val)))) < 16 ^ 3) := by decide +kernel
set_option maxRecDepth 1000000 in
set_option maxHeartbeats 40000000 in
theorem own_e258 : ∀ (a b c : Fin 17), (((20 : Int32) * (((16 : Int32) * ((((Int32.ofNat a.val) * (Int32.ofNat b.val)) + ((Int32.ofNat b.val) * (Int32.ofNat c.val))) + ((Int32.ofNat c.val) * (Int32.ofNat a.val)))) - ((((2 : Int32) * (Int32.ofNat a.val)) * (Int32.ofNat b.val)) * (Int32.ofNat c.val)))) < (4096 : Int32)) ↔ (20 * (((a.val * b.val) * c.val) + (((((16 - a.val) * b.val) + (a.val * (16 - b.val))) * c.val) + ((a.val * b.val) * (16 - c.val)))) < 16 ^ 3) := by decide +kernel
theorem own_pd92 : parseMethodDescriptor "([D)I" = some ⟨[(.array .double)], some .int⟩ := by decide +kernel
theorem own_pn1 : plainName "com/example/fradno/fradno/core/ConsensusLeastCountPinLaw" = true := by first | (simp [plainName, overriddenIn]; done) | decide +kernel
theorem own_ef_0 (m : MethodId) (x0 : Int32) (x1 : Int32) (x2 : Int32) (x3 : Int32) : entryFrame m #[(.int x0), (.int x1), (.int x2), (.int x3)] maxLocals = mkF m 0 #[.val (.int x0), .val (.int x1), .val (.int x2), .val (.int x3), .unset, .unset, .unset, .unset, .unset, .unset, .unset, .unset, .unset, .unset, .unset, .unset, .unset, .unset] [] := by first | (simp [entryFrame, mkF, argsToLocals, Value.category, maxLocals]; done) | rfl
def Q0 (Z : State) (p0 : Int32) (p1 : Int32) (p2 : Int32) (p3 : Int32) (h0 : Heap) (n0 : Nat) (v : Option Value) (h : Heap) (L : List Loc) : Prop := v = some (.int 1) ∧ Fr n0 L
set_option maxRecDepth 65536 in
set_option maxHeartbeats 40000000 in
theorem rm0 (l : Launch) (Z : State) (a0 : Array Value) (hw : ∀ d ∈ tables_1, d.before a0 Z = true) (ws : List Jvm.Cond) (p0 : Int32) (p1 : Int32) (p2 : Int32) (p3 : Int32) (h0 : Heap) (n0 : Nat) (Z0 : n0 ≤ h0.size)  :
    MetFree l x (head1 (Jvm.Cond.code x code maxLocals ret :: ws) room_1) (fun a U => a = #[(.int p0), (.int p1), (.int p2), (.int p3)] ∧ Z.Warmed39 U.vm ∧ U.heap = h0) (fun _ _ _ _ _ => True) (fun _ U o U' => ∃ v L, o = .returned v ∧ Q0 Z p0 p1 p2 p3 h0 n0 v U'.heap L ∧ FrameEnd U o U' L 24 128) := by
  refine MetFree.of_bodySF (plainFor_of_name own_pn1) hisR ?_
  intro p e s m args below meth c s₁ Bd hml0 hP hK
  obtain ⟨rfl, hZ, hh⟩ := hP
  have hx := Bd.exec
  have hby := Bd.bytes
  have hml : c.maxLocals = 18 := hml0
  have hown : s.vm.findClass "com/example/fradno/fradno/core/ConsensusLeastCountPinLaw" = some m.cls := findClass_of_methodNamed Bd.named
  have hnm := (name_of_methodNamed Bd.named Bd.method).1
  have X0 : Stand p l e room_1 s m #[(.int p0), (.int p1), (.int p2), (.int p3)] below meth c s₁ [] 0 0 := Stand.of_body Bd
  have e0 : s₁.heap = h0 := by rw [← hh, Bd.state]; rfl
  have N0 := Fr.nil n0
  show Good p e below (fun o U' => ∃ v L, o = .returned v ∧ Q0 Z p0 p1 p2 p3 h0 n0 v U'.heap L ∧ FrameEnd s o U' L 24 128) _
  refine Good.back (S' := s₁.setTop (mkF m 0 #[.val (.int p0), .val (.int p1), .val (.int p2), .val (.int p3), .unset, .unset, .unset, .unset, .unset, .unset, .unset, .unset, .unset, .unset, .unset, .unset, .unset, .unset] [])) (fun t k => castTop (own_ef_0 m p0 p1 p2 p3) k) ?_
  show Good p e below _ (s₁.setTop (mkF m 0 #[.val (.int p0), .val (.int p1), .val (.int p2), .val (.int p3), .unset, .unset, .unset, .unset, .unset, .unset, .unset, .unset, .unset, .unset, .unset, .unset, .unset, .unset] []))
  refine Good.back (fun _ k => XS.iloadN X0.here hx rfl (hb hby at_0) rfl k) ?_
  show Good p e below _ (s₁.setTop (mkF m 1 #[.val (.int p0), .val (.int p1), .val (.int p2), .val (.int p3), .unset, .unset, .unset, .unset, .unset, .unset, .unset, .unset, .unset, .unset, .unset, .unset, .unset, .unset] [(.int p0)]))
  refine Good.back (X0.ldcInt hx hown (mvT hZ (hw _ (List.mem_of_getElem? (i := 0) rfl))) (g := (mkF m 1 #[.val (.int p0), .val (.int p1), .val (.int p2), .val (.int p3), .unset, .unset, .unset, .unset, .unset, .unset, .unset, .unset, .unset, .unset, .unset, .unset, .unset, .unset] [(.int p0)])) rfl (hb hby at_1)) ?_
  show Good p e below _ (s₁.setTop (mkF m 3 #[.val (.int p0), .val (.int p1), .val (.int p2), .val (.int p3), .unset, .unset, .unset, .unset, .unset, .unset, .unset, .unset, .unset, .unset, .unset, .unset, .unset, .unset] [(.int (2147483647 : Int32)), (.int p0)]))
  refine Good.back (fun _ k => XS.iand X0.here hx rfl (hb hby at_3) rfl k) ?_
  show Good p e below _ (s₁.setTop (mkF m 4 #[.val (.int p0), .val (.int p1), .val (.int p2), .val (.int p3), .unset, .unset, .unset, .unset, .unset, .unset, .unset, .unset, .unset, .unset, .unset, .unset, .unset, .unset] [(.int (p0 &&& (2147483647 : Int32)))]))
  refine Good.back (fun _ k => XS.iconst X0.here hx rfl (hb hby at_4) k) ?_
  show Good p e below _ (s₁.setTop (mkF m 5 #[.val (.int p0), .val (.int p1), .val (.int p2), .val (.int p3), .unset, .unset, .unset, .unset, .unset, .unset, .unset, .unset, .unset, .unset, .unset, .unset, .unset, .unset] [(.int (4 : Int32)), (.int (p0 &&& (2147483647 : Int32)))]))
  refine Good.back (fun _ k => iremM (g := (mkF m 5 #[.val (.int p0), .val (.int p1), .val (.int p2), .val (.int p3), .unset, .unset, .unset, .unset, .unset, .unset, .unset, .unset, .unset, .unset, .unset, .unset, .unset, .unset] [(.int (4 : Int32)), (.int (p0 &&& (2147483647 : Int32)))])) X0 hx rfl (hb hby at_5) rfl (by decide) k) ?_
  show Good p e below _ (s₁.setTop (mkF m 6 #[.val (.int p0), .val (.int p1), .val (.int p2), .val (.int p3), .unset, .unset, .unset, .unset, .unset, .unset, .unset, .unset, .unset, .unset, .unset, .unset, .unset, .unset] [(.int ((p0 &&& (2147483647 : Int32)) % (4 : Int32)))]))
  refine Good.back (fun _ k => XS.istore X0.here hx rfl (hb hby at_6) rfl (l' := #[.val (.int p0), .val (.int p1), .val (.int p2), .val (.int p3), .val (.int ((p0 &&& (2147483647 : Int32)) % (4 : Int32))), .unset, .unset, .unset, .unset, .unset, .unset, .unset, .unset, .unset, .unset, .unset, .unset, .unset]) rfl k) ?_
  show Good p e below _ (s₁.setTop (mkF m 8 #[.val (.int p0), .val (.int p1), .val (.int p2), .val (.int p3), .val (.int ((p0 &&& (2147483647 : Int32)) % (4 : Int32))), .unset, .unset, .unset, .unset, .unset, .unset, .unset, .unset, .unset, .unset, .unset, .unset, .unset] []))
  refine Good.back (fun _ k => XS.iloadN X0.here hx rfl (hb hby at_8) rfl k) ?_
  show Good p e below _ (s₁.setTop (mkF m 9 #[.val (.int p0), .val (.int p1), .val (.int p2), .val (.int p3), .val (.int ((p0 &&& (2147483647 : Int32)) % (4 : Int32))), .unset, .unset, .unset, .unset, .unset, .unset, .unset, .unset, .unset, .unset, .unset, .unset, .unset] [(.int p1)]))
  refine Good.back (X0.ldcInt hx hown (mvT hZ (hw _ (List.mem_of_getElem? (i := 0) rfl))) (g := (mkF m 9 #[.val (.int p0), .val (.int p1), .val (.int p2), .val (.int p3), .val (.int ((p0 &&& (2147483647 : Int32)) % (4 : Int32))), .unset, .unset, .unset, .unset, .unset, .unset, .unset, .unset, .unset, .unset, .unset, .unset, .unset] [(.int p1)])) rfl (hb hby at_9)) ?_
  show Good p e below _ (s₁.setTop (mkF m 11 #[.val (.int p0), .val (.int p1), .val (.int p2), .val (.int p3), .val (.int ((p0 &&& (2147483647 : Int32)) % (4 : Int32))), .unset, .unset, .unset, .unset, .unset, .unset, .unset, .unset, .unset, .unset, .unset, .unset, .unset] [(.int (2147483647 : Int32)), (.int p1)]))
  refine Good.back (fun _ k => XS.iand X0.here hx rfl (hb hby at_11) rfl k) ?_
  show Good p e below _ (s₁.setTop (mkF m 12 #[.val (.int p0), .val (.int p1), .val (.int p2), .val (.int p3), .val (.int ((p0 &&& (2147483647 : Int32)) % (4 : Int32))), .unset, .unset, .unset, .unset, .unset, .unset, .unset, .unset, .unset, .unset, .unset, .unset, .unset] [(.int (p1 &&& (2147483647 : Int32)))]))
  refine Good.back (fun _ k => XS.bipush X0.here hx rfl (hb hby at_12) k) ?_
  show Good p e below _ (s₁.setTop (mkF m 14 #[.val (.int p0), .val (.int p1), .val (.int p2), .val (.int p3), .val (.int ((p0 &&& (2147483647 : Int32)) % (4 : Int32))), .unset, .unset, .unset, .unset, .unset, .unset, .unset, .unset, .unset, .unset, .unset, .unset, .unset] [(.int (17 : Int32)), (.int (p1 &&& (2147483647 : Int32)))]))
  refine Good.back (fun _ k => iremM (g := (mkF m 14 #[.val (.int p0), .val (.int p1), .val (.int p2), .val (.int p3), .val (.int ((p0 &&& (2147483647 : Int32)) % (4 : Int32))), .unset, .unset, .unset, .unset, .unset, .unset, .unset, .unset, .unset, .unset, .unset, .unset, .unset] [(.int (17 : Int32)), (.int (p1 &&& (2147483647 : Int32)))])) X0 hx rfl (hb hby at_14) rfl (by decide) k) ?_
  show Good p e below _ (s₁.setTop (mkF m 15 #[.val (.int p0), .val (.int p1), .val (.int p2), .val (.int p3), .val (.int ((p0 &&& (2147483647 : Int32)) % (4 : Int32))), .unset, .unset, .unset, .unset, .unset, .unset, .unset, .unset, .unset, .unset, .unset, .unset, .unset] [(.int ((p1 &&& (2147483647 : Int32)) % (17 : Int32)))]))
  refine Good.back (fun _ k => XS.istore X0.here hx rfl (hb hby at_15) rfl (l' := #[.val (.int p0), .val (.int p1), .val (.int p2), .val (.int p3), .val (.int ((p0 &&& (2147483647 : Int32)) % (4 : Int32))), .val (.int ((p1 &&& (2147483647 : Int32)) % (17 : Int32))), .unset, .unset, .unset, .unset, .unset, .unset, .unset, .unset, .unset, .unset, .unset, .unset]) rfl k) ?_
  show Good p e below _ (s₁.setTop (mkF m 17 #[.val (.int p0), .val (.int p1), .val (.int p2), .val (.int p3), .val (.int ((p0 &&& (2147483647 : Int32)) % (4 : Int32))), .val (.int ((p1 &&& (2147483647 : Int32)) % (17 : Int32))), .unset, .unset, .unset, .unset, .unset, .unset, .unset, .unset, .unset, .unset, .unset, .unset] []))
  obtain ⟨ka, hka, eka⟩ := own_modm (x := p1) (y := 17) (d := 17) (n := 17) (by decide) (by decide) (by decide)
  rw [eka]
  show Good p e below _ (s₁.setTop (mkF m 17 #[.val (.int p0), .val (.int p1), .val (.int p2), .val (.int p3), .val (.int ((p0 &&& (2147483647 : Int32)) % (4 : Int32))), .val (.int (Int32.ofNat ka)), .unset, .unset, .unset, .unset, .unset, .unset, .unset, .unset, .unset, .unset, .unset, .unset] []))
  refine Good.back (fun _ k => XS.iloadN X0.here hx rfl (hb hby at_17) rfl k) ?_
  show Good p e below _ (s₁.setTop (mkF m 18 #[.val (.int p0), .val (.int p1), .val (.int p2), .val (.int p3), .val (.int ((p0 &&& (2147483647 : Int32)) % (4 : Int32))), .val (.int (Int32.ofNat ka)), .unset, .unset, .unset, .unset, .unset, .unset, .unset, .unset, .unset, .unset, .unset, .unset] [(.int p2)]))
  refine Good.back (X0.ldcInt hx hown (mvT hZ (hw _ (List.mem_of_getElem? (i := 0) rfl))) (g := (mkF m 18 #[.val (.int p0), .val (.int p1), .val (.int p2), .val (.int p3), .val (.int ((p0 &&& (2147483647 : Int32)) % (4 : Int32))), .val (.int (Int32.ofNat ka)), .unset, .unset, .unset, .unset, .unset, .unset, .unset, .unset, .unset, .unset, .unset, .unset] [(.int p2)])) rfl (hb hby at_18)) ?_
  show Good p e below _ (s₁.setTop (mkF m 20 #[.val (.int p0), .val (.int p1), .val (.int p2), .val (.int p3), .val (.int ((p0 &&& (2147483647 : Int32)) % (4 : Int32))), .val (.int (Int32.ofNat ka)), .unset, .unset, .unset, .unset, .unset, .unset, .unset, .unset, .unset, .unset, .unset, .unset] [(.int (2147483647 : Int32)), (.int p2)]))
  refine Good.back (fun _ k => XS.iand X0.here hx rfl (hb hby at_20) rfl k) ?_
  show Good p e below _ (s₁.setTop (mkF m 21 #[.val (.int p0), .val (.int p1), .val (.int p2), .val (.int p3), .val (.int ((p0 &&& (2147483647 : Int32)) % (4 : Int32))), .val (.int (Int32.ofNat ka)), .unset, .unset, .unset, .unset, .unset, .unset, .unset, .unset, .unset, .unset, .unset, .unset] [(.int (p2 &&& (2147483647 : Int32)))]))
  refine Good.back (fun _ k => XS.bipush X0.here hx rfl (hb hby at_21) k) ?_
  show Good p e below _ (s₁.setTop (mkF m 23 #[.val (.int p0), .val (.int p1), .val (.int p2), .val (.int p3), .val (.int ((p0 &&& (2147483647 : Int32)) % (4 : Int32))), .val (.int (Int32.ofNat ka)), .unset, .unset, .unset, .unset, .unset, .unset, .unset, .unset, .unset, .unset, .unset, .unset] [(.int (17 : Int32)), (.int (p2 &&& (2147483647 : Int32)))]))
  refine Good.back (fun _ k => iremM (g := (mkF m 23 #[.val (.int p0), .val (.int p1), .val (.int p2), .val (.int p3), .val (.int ((p0 &&& (2147483647 : Int32)) % (4 : Int32))), .val (.int (Int32.ofNat ka)), .unset, .unset, .unset, .unset, .unset, .unset, .unset, .unset, .unset, .unset, .unset, .unset] [(.int (17 : Int32)), (.int (p2 &&& (2147483647 : Int32)))])) X0 hx rfl (hb hby at_23) rfl (by decide) k) ?_
  show Good p e below _ (s₁.setTop (mkF m 24 #[.val (.int p0), .val (.int p1), .val (.int p2), .val (.int p3), .val (.int ((p0 &&& (2147483647 : Int32)) % (4 : Int32))), .val (.int (Int32.ofNat ka)), .unset, .unset, .unset, .unset, .unset, .unset, .unset, .unset, .unset, .unset, .unset, .unset] [(.int ((p2 &&& (2147483647 : Int32)) % (17 : Int32)))]))
  refine Good.back (fun _ k => XS.istore X0.here hx rfl (hb hby at_24) rfl (l' := #[.val (.int p0), .val (.int p1), .val (.int p2), .val (.int p3), .val (.int ((p0 &&& (2147483647 : Int32)) % (4 : Int32))), .val (.int (Int32.ofNat ka)), .val (.int ((p2 &&& (2147483647 : Int32)) % (17 : Int32))), .unset, .unset, .unset, .unset, .unset, .unset, .unset, .unset, .unset, .unset, .unset]) rfl k) ?_
  show Good p e below _ (s₁.setTop (mkF m 26 #[.val (.int p0), .val (.int p1), .val (.int p2), .val (.int p3), .val (.int ((p0 &&& (2147483647 : Int32)) % (4 : Int32))), .val (.int (Int32.ofNat ka)), .val (.int ((p2 &&& (2147483647 : Int32)) % (17 : Int32))), .unset, .unset, .unset, .unset, .unset, .unset, .unset, .unset, .unset, .unset, .unset] []))
  obtain ⟨kb, hkb, ekb⟩ := own_modm (x := p2) (y := 17) (d := 17) (n := 17) (by decide) (by decide) (by decide)
  rw [ekb]
  show Good p e below _ (s₁.setTop (mkF m 26 #[.val (.int p0), .val (.int p1), .val (.int p2), .val (.int p3), .val (.int ((p0 &&& (2147483647 : Int32)) % (4 : Int32))), .val (.int (Int32.ofNat ka)), .val (.int (Int32.ofNat kb)), .unset, .unset, .unset, .unset, .unset, .unset, .unset, .unset, .unset, .unset, .unset] []))
  refine Good.back (fun _ k => XS.iloadN X0.here hx rfl (hb hby at_26) rfl k) ?_
  show Good p e below _ (s₁.setTop (mkF m 27 #[.val (.int p0), .val (.int p1), .val (.int p2), .val (.int p3), .val (.int ((p0 &&& (2147483647 : Int32)) % (4 : Int32))), .val (.int (Int32.ofNat ka)), .val (.int (Int32.ofNat kb)), .unset, .unset, .unset, .unset, .unset, .unset, .unset, .unset, .unset, .unset, .unset] [(.int p3)]))
  refine Good.back (X0.ldcInt hx hown (mvT hZ (hw _ (List.mem_of_getElem? (i := 0) rfl))) (g := (mkF m 27 #[.val (.int p0), .val (.int p1), .val (.int p2), .val (.int p3), .val (.int ((p0 &&& (2147483647 : Int32)) % (4 : Int32))), .val (.int (Int32.ofNat ka)), .val (.int (Int32.ofNat kb)), .unset, .unset, .unset, .unset, .unset, .unset, .unset, .unset, .unset, .unset, .unset] [(.int p3)])) rfl (hb hby at_27)) ?_
  show Good p e below _ (s₁.setTop (mkF m 29 #[.val (.int p0), .val (.int p1), .val (.int p2), .val (.int p3), .val (.int ((p0 &&& (2147483647 : Int32)) % (4 : Int32))), .val (.int (Int32.ofNat ka)), .val (.int (Int32.ofNat kb)), .unset, .unset, .unset, .unset, .unset, .unset, .unset, .unset, .unset, .unset, .unset] [(.int (2147483647 : Int32)), (.int p3)]))
  refine Good.back (fun _ k => XS.iand X0.here hx rfl (hb hby at_29) rfl k) ?_
  show Good p e below _ (s₁.setTop (mkF m 30 #[.val (.int p0), .val (.int p1), .val (.int p2), .val (.int p3), .val (.int ((p0 &&& (2147483647 : Int32)) % (4 : Int32))), .val (.int (Int32.ofNat ka)), .val (.int (Int32.ofNat kb)), .unset, .unset, .unset, .unset, .unset, .unset, .unset, .unset, .unset, .unset, .unset] [(.int (p3 &&& (2147483647 : Int32)))]))
  refine Good.back (fun _ k => XS.bipush X0.here hx rfl (hb hby at_30) k) ?_
  show Good p e below _ (s₁.setTop (mkF m 32 #[.val (.int p0), .val (.int p1), .val (.int p2), .val (.int p3), .val (.int ((p0 &&& (2147483647 : Int32)) % (4 : Int32))), .val (.int (Int32.ofNat ka)), .val (.int (Int32.ofNat kb)), .unset, .unset, .unset, .unset, .unset, .unset, .unset, .unset, .unset, .unset, .unset] [(.int (17 : Int32)), (.int (p3 &&& (2147483647 : Int32)))]))
  refine Good.back (fun _ k => iremM (g := (mkF m 32 #[.val (.int p0), .val (.int p1), .val (.int p2), .val (.int p3), .val (.int ((p0 &&& (2147483647 : Int32)) % (4 : Int32))), .val (.int (Int32.ofNat ka)), .val (.int (Int32.ofNat kb)), .unset, .unset, .unset, .unset, .unset, .unset, .unset, .unset, .unset, .unset, .unset] [(.int (17 : Int32)), (.int (p3 &&& (2147483647 : Int32)))])) X0 hx rfl (hb hby at_32) rfl (by decide) k) ?_
  show Good p e below _ (s₁.setTop (mkF m 33 #[.val (.int p0), .val (.int p1), .val (.int p2), .val (.int p3), .val (.int ((p0 &&& (2147483647 : Int32)) % (4 : Int32))), .val (.int (Int32.ofNat ka)), .val (.int (Int32.ofNat kb)), .unset, .unset, .unset, .unset, .unset, .unset, .unset, .unset, .unset, .unset, .unset] [(.int ((p3 &&& (2147483647 : Int32)) % (17 : Int32)))]))
  refine Good.back (fun _ k => XS.istore X0.here hx rfl (hb hby at_33) rfl (l' := #[.val (.int p0), .val (.int p1), .val (.int p2), .val (.int p3), .val (.int ((p0 &&& (2147483647 : Int32)) % (4 : Int32))), .val (.int (Int32.ofNat ka)), .val (.int (Int32.ofNat kb)), .val (.int ((p3 &&& (2147483647 : Int32)) % (17 : Int32))), .unset, .unset, .unset, .unset, .unset, .unset, .unset, .unset, .unset, .unset]) rfl k) ?_
  show Good p e below _ (s₁.setTop (mkF m 35 #[.val (.int p0), .val (.int p1), .val (.int p2), .val (.int p3), .val (.int ((p0 &&& (2147483647 : Int32)) % (4 : Int32))), .val (.int (Int32.ofNat ka)), .val (.int (Int32.ofNat kb)), .val (.int ((p3 &&& (2147483647 : Int32)) % (17 : Int32))), .unset, .unset, .unset, .unset, .unset, .unset, .unset, .unset, .unset, .unset] []))
  obtain ⟨kc, hkc, ekc⟩ := own_modm (x := p3) (y := 17) (d := 17) (n := 17) (by decide) (by decide) (by decide)
  rw [ekc]
  show Good p e below _ (s₁.setTop (mkF m 35 #[.val (.int p0), .val (.int p1), .val (.int p2), .val (.int p3), .val (.int ((p0 &&& (2147483647 : Int32)) % (4 : Int32))), .val (.int (Int32.ofNat ka)), .val (.int (Int32.ofNat kb)), .val (.int (Int32.ofNat kc)), .unset, .unset, .unset, .unset, .unset, .unset, .unset, .unset, .unset, .unset] []))
  refine Good.back (fun _ k => XS.iload X0.here hx rfl (hb hby at_35) rfl k) ?_
  show Good p e below _ (s₁.setTop (mkF m 37 #[.val (.int p0), .val (.int p1), .val (.int p2), .val (.int p3), .val (.int ((p0 &&& (2147483647 : Int32)) % (4 : Int32))), .val (.int (Int32.ofNat ka)), .val (.int (Int32.ofNat kb)), .val (.int (Int32.ofNat kc)), .unset, .unset, .unset, .unset, .unset, .unset, .unset, .unset, .unset, .unset] [(.int (Int32.ofNat ka))]))
  refine Good.back (fun _ k => XS.i2dS X0.here hx rfl (hb hby at_37) rfl (i2d_w (Int32.ofNat ka)) k) ?_
  show Good p e below _ (s₁.setTop (mkF m 38 #[.val (.int p0), .val (.int p1), .val (.int p2), .val (.int p3), .val (.int ((p0 &&& (2147483647 : Int32)) % (4 : Int32))), .val (.int (Int32.ofNat ka)), .val (.int (Int32.ofNat kb)), .val (.int (Int32.ofNat kc)), .unset, .unset, .unset, .unset, .unset, .unset, .unset, .unset, .unset, .unset] [(.double (FP.l2d ((Int32.ofNat ka).toInt64)))]))
  refine Good.back (X0.ldc2DoubleC hx hown (mvT hZ (hw _ (List.mem_of_getElem? (i := 1) rfl))) (g := (mkF m 38 #[.val (.int p0), .val (.int p1), .val (.int p2), .val (.int p3), .val (.int ((p0 &&& (2147483647 : Int32)) % (4 : Int32))), .val (.int (Int32.ofNat ka)), .val (.int (Int32.ofNat kb)), .val (.int (Int32.ofNat kc)), .unset, .unset, .unset, .unset, .unset, .unset, .unset, .unset, .unset, .unset] [(.double (FP.l2d ((Int32.ofNat ka).toInt64)))])) rfl (hb hby at_38)) ?_
  show Good p e below _ (s₁.setTop (mkF m 41 #[.val (.int p0), .val (.int p1), .val (.int p2), .val (.int p3), .val (.int ((p0 &&& (2147483647 : Int32)) % (4 : Int32))), .val (.int (Int32.ofNat ka)), .val (.int (Int32.ofNat kb)), .val (.int (Int32.ofNat kc)), .unset, .unset, .unset, .unset, .unset, .unset, .unset, .unset, .unset, .unset] [(.double (4625196817309499392 : UInt64)), (.double (FP.l2d ((Int32.ofNat ka).toInt64)))]))
  refine Good.back (fun _ k => XS.ddivS X0.here hx rfl (hb hby at_41) rfl ((own_div hka).symm ▸ own_Rnn (Nat.lt_trans hka (by decide))) (own_div hka) k) ?_
  show Good p e below _ (s₁.setTop (mkF m 42 #[.val (.int p0), .val (.int p1), .val (.int p2), .val (.int p3), .val (.int ((p0 &&& (2147483647 : Int32)) % (4 : Int32))), .val (.int (Int32.ofNat ka)), .val (.int (Int32.ofNat kb)), .val (.int (Int32.ofNat kc)), .unset, .unset, .unset, .unset, .unset, .unset, .unset, .unset, .unset, .unset] [(.double (own_R 1 ka))]))
  refine Good.back (fun _ k => XS.dstore X0.here hx rfl (hb hby at_42) rfl (l' := #[.val (.int p0), .val (.int p1), .val (.int p2), .val (.int p3), .val (.int ((p0 &&& (2147483647 : Int32)) % (4 : Int32))), .val (.int (Int32.ofNat ka)), .val (.int (Int32.ofNat kb)), .val (.int (Int32.ofNat kc)), .val (.double (own_R 1 ka)), .second, .unset, .unset, .unset, .unset, .unset, .unset, .unset, .unset]) rfl k) ?_
  show Good p e below _ (s₁.setTop (mkF m 44 #[.val (.int p0), .val (.int p1), .val (.int p2), .val (.int p3), .val (.int ((p0 &&& (2147483647 : Int32)) % (4 : Int32))), .val (.int (Int32.ofNat ka)), .val (.int (Int32.ofNat kb)), .val (.int (Int32.ofNat kc)), .val (.double (own_R 1 ka)), .second, .unset, .unset, .unset, .unset, .unset, .unset, .unset, .unset] []))
  refine Good.back (fun _ k => XS.iload X0.here hx rfl (hb hby at_44) rfl k) ?_
  show Good p e below _ (s₁.setTop (mkF m 46 #[.val (.int p0), .val (.int p1), .val (.int p2), .val (.int p3), .val (.int ((p0 &&& (2147483647 : Int32)) % (4 : Int32))), .val (.int (Int32.ofNat ka)), .val (.int (Int32.ofNat kb)), .val (.int (Int32.ofNat kc)), .val (.double (own_R 1 ka)), .second, .unset, .unset, .unset, .unset, .unset, .unset, .unset, .unset] [(.int (Int32.ofNat kb))]))
  refine Good.back (fun _ k => XS.i2dS X0.here hx rfl (hb hby at_46) rfl (i2d_w (Int32.ofNat kb)) k) ?_
  show Good p e below _ (s₁.setTop (mkF m 47 #[.val (.int p0), .val (.int p1), .val (.int p2), .val (.int p3), .val (.int ((p0 &&& (2147483647 : Int32)) % (4 : Int32))), .val (.int (Int32.ofNat ka)), .val (.int (Int32.ofNat kb)), .val (.int (Int32.ofNat kc)), .val (.double (own_R 1 ka)), .second, .unset, .unset, .unset, .unset, .unset, .unset, .unset, .unset] [(.double (FP.l2d ((Int32.ofNat kb).toInt64)))]))
  refine Good.back (X0.ldc2DoubleC hx hown (mvT hZ (hw _ (List.mem_of_getElem? (i := 1) rfl))) (g := (mkF m 47 #[.val (.int p0), .val (.int p1), .val (.int p2), .val (.int p3), .val (.int ((p0 &&& (2147483647 : Int32)) % (4 : Int32))), .val (.int (Int32.ofNat ka)), .val (.int (Int32.ofNat kb)), .val (.int (Int32.ofNat kc)), .val (.double (own_R 1 ka)), .second, .unset, .unset, .unset, .unset, .unset, .unset, .unset, .unset] [(.double (FP.l2d ((Int32.ofNat kb).toInt64)))])) rfl (hb hby at_47)) ?_
  show Good p e below _ (s₁.setTop (mkF m 50 #[.val (.int p0), .val (.int p1), .val (.int p2), .val (.int p3), .val (.int ((p0 &&& (2147483647 : Int32)) % (4 : Int32))), .val (.int (Int32.ofNat ka)), .val (.int (Int32.ofNat kb)), .val (.int (Int32.ofNat kc)), .val (.double (own_R 1 ka)), .second, .unset, .unset, .unset, .unset, .unset, .unset, .unset, .unset] [(.double (4625196817309499392 : UInt64)), (.double (FP.l2d ((Int32.ofNat kb).toInt64)))]))
  refine Good.back (fun _ k => XS.ddivS X0.here hx rfl (hb hby at_50) rfl ((own_div hkb).symm ▸ own_Rnn (Nat.lt_trans hkb (by decide))) (own_div hkb) k) ?_
  show Good p e below _ (s₁.setTop (mkF m 51 #[.val (.int p0), .val (.int p1), .val (.int p2), .val (.int p3), .val (.int ((p0 &&& (2147483647 : Int32)) % (4 : Int32))), .val (.int (Int32.ofNat ka)), .val (.int (Int32.ofNat kb)), .val (.int (Int32.ofNat kc)), .val (.double (own_R 1 ka)), .second, .unset, .unset, .unset, .unset, .unset, .unset, .unset, .unset] [(.double (own_R 1 kb))]))
  refine Good.back (fun _ k => XS.dstore X0.here hx rfl (hb hby at_51) rfl (l' := #[.val (.int p0), .val (.int p1), .val (.int p2), .val (.int p3), .val (.int ((p0 &&& (2147483647 : Int32)) % (4 : Int32))), .val (.int (Int32.ofNat ka)), .val (.int (Int32.ofNat kb)), .val (.int (Int32.ofNat kc)), .val (.double (own_R 1 ka)), .second, .val (.double (own_R 1 kb)), .second, .unset, .unset, .unset, .unset, .unset, .unset]) rfl k) ?_
  show Good p e below _ (s₁.setTop (mkF m 53 #[.val (.int p0), .val (.int p1), .val (.int p2), .val (.int p3), .val (.int ((p0 &&& (2147483647 : Int32)) % (4 : Int32))), .val (.int (Int32.ofNat ka)), .val (.int (Int32.ofNat kb)), .val (.int (Int32.ofNat kc)), .val (.double (own_R 1 ka)), .second, .val (.double (own_R 1 kb)), .second, .unset, .unset, .unset, .unset, .unset, .unset] []))
  refine Good.back (fun _ k => XS.iload X0.here hx rfl (hb hby at_53) rfl k) ?_
  show Good p e below _ (s₁.setTop (mkF m 55 #[.val (.int p0), .val (.int p1), .val (.int p2), .val (.int p3), .val (.int ((p0 &&& (2147483647 : Int32)) % (4 : Int32))), .val (.int (Int32.ofNat ka)), .val (.int (Int32.ofNat kb)), .val (.int (Int32.ofNat kc)), .val (.double (own_R 1 ka)), .second, .val (.double (own_R 1 kb)), .second, .unset, .unset, .unset, .unset, .unset, .unset] [(.int (Int32.ofNat kc))]))
  refine Good.back (fun _ k => XS.i2dS X0.here hx rfl (hb hby at_55) rfl (i2d_w (Int32.ofNat kc)) k) ?_
  show Good p e below _ (s₁.setTop (mkF m 56 #[.val (.int p0), .val (.int p1), .val (.int p2), .val (.int p3), .val (.int ((p0 &&& (2147483647 : Int32)) % (4 : Int32))), .val (.int (Int32.ofNat ka)), .val (.int (Int32.ofNat kb)), .val (.int (Int32.ofNat kc)), .val (.double (own_R 1 ka)), .second, .val (.double (own_R 1 kb)), .second, .unset, .unset, .unset, .unset, .unset, .unset] [(.double (FP.l2d ((Int32.ofNat kc).toInt64)))]))
  refine Good.back (X0.ldc2DoubleC hx hown (mvT hZ (hw _ (List.mem_of_getElem? (i := 1) rfl))) (g := (mkF m 56 #[.val (.int p0), .val (.int p1), .val (.int p2), .val (.int p3), .val (.int ((p0 &&& (2147483647 : Int32)) % (4 : Int32))), .val (.int (Int32.ofNat ka)), .val (.int (Int32.ofNat kb)), .val (.int (Int32.ofNat kc)), .val (.double (own_R 1 ka)), .second, .val (.double (own_R 1 kb)), .second, .unset, .unset, .unset, .unset, .unset, .unset] [(.double (FP.l2d ((Int32.ofNat kc).toInt64)))])) rfl (hb hby at_56)) ?_
  show Good p e below _ (s₁.setTop (mkF m 59 #[.val (.int p0), .val (.int p1), .val (.int p2), .val (.int p3), .val (.int ((p0 &&& (2147483647 : Int32)) % (4 : Int32))), .val (.int (Int32.ofNat ka)), .val (.int (Int32.ofNat kb)), .val (.int (Int32.ofNat kc)), .val (.double (own_R 1 ka)), .second, .val (.double (own_R 1 kb)), .second, .unset, .unset, .unset, .unset, .unset, .unset] [(.double (4625196817309499392 : UInt64)), (.double (FP.l2d ((Int32.ofNat kc).toInt64)))]))
  refine Good.back (fun _ k => XS.ddivS X0.here hx rfl (hb hby at_59) rfl ((own_div hkc).symm ▸ own_Rnn (Nat.lt_trans hkc (by decide))) (own_div hkc) k) ?_
  show Good p e below _ (s₁.setTop (mkF m 60 #[.val (.int p0), .val (.int p1), .val (.int p2), .val (.int p3), .val (.int ((p0 &&& (2147483647 : Int32)) % (4 : Int32))), .val (.int (Int32.ofNat ka)), .val (.int (Int32.ofNat kb)), .val (.int (Int32.ofNat kc)), .val (.double (own_R 1 ka)), .second, .val (.double (own_R 1 kb)), .second, .unset, .unset, .unset, .unset, .unset, .unset] [(.double (own_R 1 kc))]))
  refine Good.back (fun _ k => XS.dstore X0.here hx rfl (hb hby at_60) rfl (l' := #[.val (.int p0), .val (.int p1), .val (.int p2), .val (.int p3), .val (.int ((p0 &&& (2147483647 : Int32)) % (4 : Int32))), .val (.int (Int32.ofNat ka)), .val (.int (Int32.ofNat kb)), .val (.int (Int32.ofNat kc)), .val (.double (own_R 1 ka)), .second, .val (.double (own_R 1 kb)), .second, .val (.double (own_R 1 kc)), .second, .unset, .unset, .unset, .unset]) rfl k) ?_
  show Good p e below _ (s₁.setTop (mkF m 62 #[.val (.int p0), .val (.int p1), .val (.int p2), .val (.int p3), .val (.int ((p0 &&& (2147483647 : Int32)) % (4 : Int32))), .val (.int (Int32.ofNat ka)), .val (.int (Int32.ofNat kb)), .val (.int (Int32.ofNat kc)), .val (.double (own_R 1 ka)), .second, .val (.double (own_R 1 kb)), .second, .val (.double (own_R 1 kc)), .second, .unset, .unset, .unset, .unset] []))
  obtain ⟨k1, hk1, he1⟩ := own_modm (x := p0) (y := 4) (d := 4) (n := 4) (by decide) (by decide) (by decide)
  rcases (by omega : k1 = 0 ∨ k1 = 1 ∨ k1 = 2 ∨ k1 = 3) with rfl | rfl | rfl | rfl
  · have he1' : ((p0 &&& (2147483647 : Int32)) % (4 : Int32)) = (0 : Int32) := he1
    rw [he1']
    show Good p e below _ (s₁.setTop (mkF m 62 #[.val (.int p0), .val (.int p1), .val (.int p2), .val (.int p3), .val (.int (0 : Int32)), .val (.int (Int32.ofNat ka)), .val (.int (Int32.ofNat kb)), .val (.int (Int32.ofNat kc)), .val (.double (own_R 1 ka)), .second, .val (.double (own_R 1 kb)), .second, .val (.double (own_R 1 kc)), .second, .unset, .unset, .unset, .unset] []))
    refine Good.back (fun _ k => XS.iload X0.here hx rfl (hb hby at_62) rfl k) ?_
    show Good p e below _ (s₁.setTop (mkF m 64 #[.val (.int p0), .val (.int p1), .val (.int p2), .val (.int p3), .val (.int (0 : Int32)), .val (.int (Int32.ofNat ka)), .val (.int (Int32.ofNat kb)), .val (.int (Int32.ofNat kc)), .val (.double (own_R 1 ka)), .second, .val (.double (own_R 1 kb)), .second, .val (.double (own_R 1 kc)), .second, .unset, .unset, .unset, .unset] [(.int (0 : Int32))]))
    refine Good.back (fun _ k => XS.ifNo X0.here hx rfl (hb hby at_64) rfl ((if0 _ _).trans (teq (by decide : ((0 : Int32) = (0 : Int32)))).2) k) ?_
    show Good p e below _ (s₁.setTop (mkF m 67 #[.val (.int p0), .val (.int p1), .val (.int p2), .val (.int p3), .val (.int (0 : Int32)), .val (.int (Int32.ofNat ka)), .val (.int (Int32.ofNat kb)), .val (.int (Int32.ofNat kc)), .val (.double (own_R 1 ka)), .second, .val (.double (own_R 1 kb)), .second, .val (.double (own_R 1 kc)), .second, .unset, .unset, .unset, .unset] []))
    refine Good.back (fun _ k => XS.iconst X0.here hx rfl (hb hby at_67) k) ?_
    show Good p e below _ (s₁.setTop (mkF m 68 #[.val (.int p0), .val (.int p1), .val (.int p2), .val (.int p3), .val (.int (0 : Int32)), .val (.int (Int32.ofNat ka)), .val (.int (Int32.ofNat kb)), .val (.int (Int32.ofNat kc)), .val (.double (own_R 1 ka)), .second, .val (.double (own_R 1 kb)), .second, .val (.double (own_R 1 kc)), .second, .unset, .unset, .unset, .unset] [(.int (0 : Int32))]))
    obtain ⟨T2, h2, k2, X2, e2, E2, A2, st2⟩ := newP X0 hx hZ (hw _ (List.mem_of_getElem? (i := 2) rfl)) e0 (g := (mkF m 68 #[.val (.int p0), .val (.int p1), .val (.int p2), .val (.int p3), .val (.int (0 : Int32)), .val (.int (Int32.ofNat ka)), .val (.int (Int32.ofNat kb)), .val (.int (Int32.ofNat kc)), .val (.double (own_R 1 ka)), .second, .val (.double (own_R 1 kb)), .second, .val (.double (own_R 1 kc)), .second, .unset, .unset, .unset, .unset] [(.int (0 : Int32))])) rfl (hb hby at_68) rfl (by decide) (cap := 0) (by decide) (by decide) (by decide) (by decide)
    obtain ⟨b2, g2⟩ : ∃ z, z = h0.size := ⟨_, rfl⟩
    rw [← g2] at A2 st2
    refine Good.back st2 ?_
    have g_b2 : n0 ≤ b2 := Nat.le_trans Z0 (Nat.le_of_eq g2.symm)
    have Z3 : n0 ≤ h2.size := Nat.le_trans Z0 E2.1
    have f_4 : Arv Z h2 b2 k2 .double (0 : Int32) [] (.double (FP.l2d 0)) := (Arv.newD A2 (by decide)).pad (pad_rep [] (.double (FP.l2d 0)) 0)
    show Good p e below _ (T2.setTop (mkF m 70 #[.val (.int p0), .val (.int p1), .val (.int p2), .val (.int p3), .val (.int (0 : Int32)), .val (.int (Int32.ofNat ka)), .val (.int (Int32.ofNat kb)), .val (.int (Int32.ofNat kc)), .val (.double (own_R 1 ka)), .second, .val (.double (own_R 1 kb)), .second, .val (.double (own_R 1 kc)), .second, .unset, .unset, .unset, .unset] [(.ref b2)]))
    refine Good.back (fun _ k => XS.astore X2.here hx rfl (hb hby at_70) rfl rfl (l' := #[.val (.int p0), .val (.int p1), .val (.int p2), .val (.int p3), .val (.int (0 : Int32)), .val (.int (Int32.ofNat ka)), .val (.int (Int32.ofNat kb)), .val (.int (Int32.ofNat kc)), .val (.double (own_R 1 ka)), .second, .val (.double (own_R 1 kb)), .second, .val (.double (own_R 1 kc)), .second, .val (.ref b2), .unset, .unset, .unset]) rfl k) ?_
    show Good p e below _ (T2.setTop (mkF m 72 #[.val (.int p0), .val (.int p1), .val (.int p2), .val (.int p3), .val (.int (0 : Int32)), .val (.int (Int32.ofNat ka)), .val (.int (Int32.ofNat kb)), .val (.int (Int32.ofNat kc)), .val (.double (own_R 1 ka)), .second, .val (.double (own_R 1 kb)), .second, .val (.double (own_R 1 kc)), .second, .val (.ref b2), .unset, .unset, .unset] []))
    refine Good.back (fun _ k => XS.iconst X2.here hx rfl (hb hby at_72) k) ?_
    show Good p e below _ (T2.setTop (mkF m 73 #[.val (.int p0), .val (.int p1), .val (.int p2), .val (.int p3), .val (.int (0 : Int32)), .val (.int (Int32.ofNat ka)), .val (.int (Int32.ofNat kb)), .val (.int (Int32.ofNat kc)), .val (.double (own_R 1 ka)), .second, .val (.double (own_R 1 kb)), .second, .val (.double (own_R 1 kc)), .second, .val (.ref b2), .unset, .unset, .unset] [(.int (0 : Int32))]))
    refine Good.back (fun _ k => XS.istore X2.here hx rfl (hb hby at_73) rfl (l' := #[.val (.int p0), .val (.int p1), .val (.int p2), .val (.int p3), .val (.int (0 : Int32)), .val (.int (Int32.ofNat ka)), .val (.int (Int32.ofNat kb)), .val (.int (Int32.ofNat kc)), .val (.double (own_R 1 ka)), .second, .val (.double (own_R 1 kb)), .second, .val (.double (own_R 1 kc)), .second, .val (.ref b2), .val (.int (0 : Int32)), .unset, .unset]) rfl k) ?_
    show Good p e below _ (T2.setTop (mkF m 75 #[.val (.int p0), .val (.int p1), .val (.int p2), .val (.int p3), .val (.int (0 : Int32)), .val (.int (Int32.ofNat ka)), .val (.int (Int32.ofNat kb)), .val (.int (Int32.ofNat kc)), .val (.double (own_R 1 ka)), .second, .val (.double (own_R 1 kb)), .second, .val (.double (own_R 1 kc)), .second, .val (.ref b2), .val (.int (0 : Int32)), .unset, .unset] []))
    refine Good.back (fun _ k => XS.goto X2.here hx rfl (pc0 := 75) (pc' := 268) rfl (hb hby at_75) (by decide) (by decide) k) ?_
    show Good p e below _ (T2.setTop (mkF m 268 #[.val (.int p0), .val (.int p1), .val (.int p2), .val (.int p3), .val (.int (0 : Int32)), .val (.int (Int32.ofNat ka)), .val (.int (Int32.ofNat kb)), .val (.int (Int32.ofNat kc)), .val (.double (own_R 1 ka)), .second, .val (.double (own_R 1 kb)), .second, .val (.double (own_R 1 kc)), .second, .val (.ref b2), .val (.int (0 : Int32)), .unset, .unset] []))
    refine Good.back (fun _ k => XS.aload X2.here hx rfl (hb hby at_268) rfl rfl k) ?_
    show Good p e below _ (T2.setTop (mkF m 270 #[.val (.int p0), .val (.int p1), .val (.int p2), .val (.int p3), .val (.int (0 : Int32)), .val (.int (Int32.ofNat ka)), .val (.int (Int32.ofNat kb)), .val (.int (Int32.ofNat kc)), .val (.double (own_R 1 ka)), .second, .val (.double (own_R 1 kb)), .second, .val (.double (own_R 1 kc)), .second, .val (.ref b2), .val (.int (0 : Int32)), .unset, .unset] [(.ref b2)]))
    obtain ⟨_, _, ⟨T5, L5, k5, n5⟩, -, X5, ⟨Lc5, hQ5, l5, y5, z5⟩, st5⟩ := Jvm.LawKit.callS X2 hx (y := (⟨"com/example/fradno/fradno/core/Consensus", "leastCount", "([D)I"⟩ : MethodName)) hown (mvT hZ (hw _ (List.mem_of_getElem? (i := 3) rfl))) (mvT hZ (hw _ (List.mem_of_getElem? (i := 4) rfl))) (mvT hZ (hw _ (List.mem_of_getElem? (i := 5) rfl))) (mvT hZ (hw _ (List.mem_of_getElem? (i := 6) rfl))) (by decide) (backOf (W := 0) (rm1_0 l Z a0 hw [] b2 k2 h2 n0 Z3 f_4) hZ (hw _ (List.mem_of_getElem? (i := 6) rfl)) (hw _ (List.mem_of_getElem? (i := 5) rfl)) (by decide) (by decide)) (g := (mkF m 270 #[.val (.int p0), .val (.int p1), .val (.int p2), .val (.int p3), .val (.int (0 : Int32)), .val (.int (Int32.ofNat ka)), .val (.int (Int32.ofNat kb)), .val (.int (Int32.ofNat kc)), .val (.double (own_R 1 ka)), .second, .val (.double (own_R 1 kb)), .second, .val (.double (own_R 1 kc)), .second, .val (.ref b2), .val (.int (0 : Int32)), .unset, .unset] [(.ref b2)])) rfl (by rw [hml]; rfl) (argsL := [(.ref b2)]) (rest := []) (lenOf own_pd92 rfl) rfl (by show 2 * 0 + _ ≤ _; exact Nat.le_of_eq rfl) (hb hby at_270) (fun _ _ => ⟨rfl, e2, (by decide : 1 + 1 ≤ _), (by decide : 0 + 1 ≤ _)⟩)
    dsimp only [Pt.U, Pt.locs, Pt.cells, Pt.slots] at X5 l5 y5 z5 st5 hQ5
    subst l5 y5 z5
    obtain ⟨rfl, N5q, Kq5⟩ := hQ5
    have N5 := Fr.app N0 N5q
    have Z6 : n0 ≤ T5.heap.size := Nat.le_trans Z3 Kq5.1
    refine Good.back st5 ?_
    show Good p e below _ (T5.setTop (mkF m 273 #[.val (.int p0), .val (.int p1), .val (.int p2), .val (.int p3), .val (.int (0 : Int32)), .val (.int (Int32.ofNat ka)), .val (.int (Int32.ofNat kb)), .val (.int (Int32.ofNat kc)), .val (.double (own_R 1 ka)), .second, .val (.double (own_R 1 kb)), .second, .val (.double (own_R 1 kc)), .second, .val (.ref b2), .val (.int (0 : Int32)), .unset, .unset] [(.int (0 : Int32))]))
    refine Good.back (fun _ k => XS.iload X5.here hx rfl (hb hby at_273) rfl k) ?_
    show Good p e below _ (T5.setTop (mkF m 275 #[.val (.int p0), .val (.int p1), .val (.int p2), .val (.int p3), .val (.int (0 : Int32)), .val (.int (Int32.ofNat ka)), .val (.int (Int32.ofNat kb)), .val (.int (Int32.ofNat kc)), .val (.double (own_R 1 ka)), .second, .val (.double (own_R 1 kb)), .second, .val (.double (own_R 1 kc)), .second, .val (.ref b2), .val (.int (0 : Int32)), .unset, .unset] [(.int (0 : Int32)), (.int (0 : Int32))]))
    refine Good.back (fun _ k => XS.icmpNo X5.here hx rfl (hb hby at_275) rfl (teq (by decide : ((0 : Int32) = (0 : Int32)))).2 k) ?_
    show Good p e below _ (T5.setTop (mkF m 278 #[.val (.int p0), .val (.int p1), .val (.int p2), .val (.int p3), .val (.int (0 : Int32)), .val (.int (Int32.ofNat ka)), .val (.int (Int32.ofNat kb)), .val (.int (Int32.ofNat kc)), .val (.double (own_R 1 ka)), .second, .val (.double (own_R 1 kb)), .second, .val (.double (own_R 1 kc)), .second, .val (.ref b2), .val (.int (0 : Int32)), .unset, .unset] []))
    refine Good.back (fun _ k => XS.iconst X5.here hx rfl (hb hby at_278) k) ?_
    show Good p e below _ (T5.setTop (mkF m 279 #[.val (.int p0), .val (.int p1), .val (.int p2), .val (.int p3), .val (.int (0 : Int32)), .val (.int (Int32.ofNat ka)), .val (.int (Int32.ofNat kb)), .val (.int (Int32.ofNat kc)), .val (.double (own_R 1 ka)), .second, .val (.double (own_R 1 kb)), .second, .val (.double (own_R 1 kc)), .second, .val (.ref b2), .val (.int (0 : Int32)), .unset, .unset] [(.int (1 : Int32))]))
    refine Good.back (fun _ k => XS.goto X5.here hx rfl (pc0 := 279) (pc' := 283) rfl (hb hby at_279) (by decide) (by decide) k) ?_
    show Good p e below _ (T5.setTop (mkF m 283 #[.val (.int p0), .val (.int p1), .val (.int p2), .val (.int p3), .val (.int (0 : Int32)), .val (.int (Int32.ofNat ka)), .val (.int (Int32.ofNat kb)), .val (.int (Int32.ofNat kc)), .val (.double (own_R 1 ka)), .second, .val (.double (own_R 1 kb)), .second, .val (.double (own_R 1 kc)), .second, .val (.ref b2), .val (.int (0 : Int32)), .unset, .unset] [(.int (1 : Int32))]))
    obtain ⟨fs7, hr7, hrun7, hended7, hW7, hsame7⟩ := X5.leave (v := some (.int (1 : Int32))) (fun h => by rw [Bd.returns] at h; cases h)
    refine Good.done (retN X5 hx (t := .boolean) Bd.returns (by simp) (hb hby at_283) hr7) hrun7 hended7 ⟨_, _, rfl, ?_, ⟨_, rfl⟩, hW7, hsame7.mono (by decide) (by decide)⟩
    show Q0 Z p0 p1 p2 p3 h0 n0 _ T5.heap _
    exact ⟨rfl, N5⟩
  · have he1' : ((p0 &&& (2147483647 : Int32)) % (4 : Int32)) = (1 : Int32) := he1
    rw [he1']
    show Good p e below _ (s₁.setTop (mkF m 62 #[.val (.int p0), .val (.int p1), .val (.int p2), .val (.int p3), .val (.int (1 : Int32)), .val (.int (Int32.ofNat ka)), .val (.int (Int32.ofNat kb)), .val (.int (Int32.ofNat kc)), .val (.double (own_R 1 ka)), .second, .val (.double (own_R 1 kb)), .second, .val (.double (own_R 1 kc)), .second, .unset, .unset, .unset, .unset] []))
    refine Good.back (fun _ k => XS.iload X0.here hx rfl (hb hby at_62) rfl k) ?_
    show Good p e below _ (s₁.setTop (mkF m 64 #[.val (.int p0), .val (.int p1), .val (.int p2), .val (.int p3), .val (.int (1 : Int32)), .val (.int (Int32.ofNat ka)), .val (.int (Int32.ofNat kb)), .val (.int (Int32.ofNat kc)), .val (.double (own_R 1 ka)), .second, .val (.double (own_R 1 kb)), .second, .val (.double (own_R 1 kc)), .second, .unset, .unset, .unset, .unset] [(.int (1 : Int32))]))
    refine Good.back (fun _ k => XS.ifYes X0.here hx rfl (pc0 := 64) (pc' := 78) rfl (hb hby at_64) rfl ((if0 _ _).trans (feq (by decide : ¬ ((1 : Int32) = (0 : Int32)))).2) (by decide) (by decide) k) ?_
    show Good p e below _ (s₁.setTop (mkF m 78 #[.val (.int p0), .val (.int p1), .val (.int p2), .val (.int p3), .val (.int (1 : Int32)), .val (.int (Int32.ofNat ka)), .val (.int (Int32.ofNat kb)), .val (.int (Int32.ofNat kc)), .val (.double (own_R 1 ka)), .second, .val (.double (own_R 1 kb)), .second, .val (.double (own_R 1 kc)), .second, .unset, .unset, .unset, .unset] []))
    refine Good.back (fun _ k => XS.iload X0.here hx rfl (hb hby at_78) rfl k) ?_
    show Good p e below _ (s₁.setTop (mkF m 80 #[.val (.int p0), .val (.int p1), .val (.int p2), .val (.int p3), .val (.int (1 : Int32)), .val (.int (Int32.ofNat ka)), .val (.int (Int32.ofNat kb)), .val (.int (Int32.ofNat kc)), .val (.double (own_R 1 ka)), .second, .val (.double (own_R 1 kb)), .second, .val (.double (own_R 1 kc)), .second, .unset, .unset, .unset, .unset] [(.int (1 : Int32))]))
    refine Good.back (fun _ k => XS.iconst X0.here hx rfl (hb hby at_80) k) ?_
    show Good p e below _ (s₁.setTop (mkF m 81 #[.val (.int p0), .val (.int p1), .val (.int p2), .val (.int p3), .val (.int (1 : Int32)), .val (.int (Int32.ofNat ka)), .val (.int (Int32.ofNat kb)), .val (.int (Int32.ofNat kc)), .val (.double (own_R 1 ka)), .second, .val (.double (own_R 1 kb)), .second, .val (.double (own_R 1 kc)), .second, .unset, .unset, .unset, .unset] [(.int (1 : Int32)), (.int (1 : Int32))]))
    refine Good.back (fun _ k => XS.icmpNo X0.here hx rfl (hb hby at_81) rfl (teq (by decide : ((1 : Int32) = (1 : Int32)))).2 k) ?_
    show Good p e below _ (s₁.setTop (mkF m 84 #[.val (.int p0), .val (.int p1), .val (.int p2), .val (.int p3), .val (.int (1 : Int32)), .val (.int (Int32.ofNat ka)), .val (.int (Int32.ofNat kb)), .val (.int (Int32.ofNat kc)), .val (.double (own_R 1 ka)), .second, .val (.double (own_R 1 kb)), .second, .val (.double (own_R 1 kc)), .second, .unset, .unset, .unset, .unset] []))
    refine Good.back (fun _ k => XS.iconst X0.here hx rfl (hb hby at_84) k) ?_
    show Good p e below _ (s₁.setTop (mkF m 85 #[.val (.int p0), .val (.int p1), .val (.int p2), .val (.int p3), .val (.int (1 : Int32)), .val (.int (Int32.ofNat ka)), .val (.int (Int32.ofNat kb)), .val (.int (Int32.ofNat kc)), .val (.double (own_R 1 ka)), .second, .val (.double (own_R 1 kb)), .second, .val (.double (own_R 1 kc)), .second, .unset, .unset, .unset, .unset] [(.int (1 : Int32))]))
    obtain ⟨T8, h8, k8, X8, e8, E8, A8, st8⟩ := newP X0 hx hZ (hw _ (List.mem_of_getElem? (i := 2) rfl)) e0 (g := (mkF m 85 #[.val (.int p0), .val (.int p1), .val (.int p2), .val (.int p3), .val (.int (1 : Int32)), .val (.int (Int32.ofNat ka)), .val (.int (Int32.ofNat kb)), .val (.int (Int32.ofNat kc)), .val (.double (own_R 1 ka)), .second, .val (.double (own_R 1 kb)), .second, .val (.double (own_R 1 kc)), .second, .unset, .unset, .unset, .unset] [(.int (1 : Int32))])) rfl (hb hby at_85) rfl (by decide) (cap := 1) (by decide) (by decide) (by decide) (by decide)
    obtain ⟨b8, g8⟩ : ∃ z, z = h0.size := ⟨_, rfl⟩
    rw [← g8] at A8 st8
    refine Good.back st8 ?_
    have g_b8 : n0 ≤ b8 := Nat.le_trans Z0 (Nat.le_of_eq g8.symm)
    have Z9 : n0 ≤ h8.size := Nat.le_trans Z0 E8.1
    have f_10 : Arv Z h8 b8 k8 .double (1 : Int32) [(.double (FP.l2d 0))] (.double (FP.l2d 0)) := (Arv.newD A8 (by decide)).pad (pad_rep [] (.double (FP.l2d 0)) 1)
    show Good p e below _ (T8.setTop (mkF m 87 #[.val (.int p0), .val (.int p1), .val (.int p2), .val (.int p3), .val (.int (1 : Int32)), .val (.int (Int32.ofNat ka)), .val (.int (Int32.ofNat kb)), .val (.int (Int32.ofNat kc)), .val (.double (own_R 1 ka)), .second, .val (.double (own_R 1 kb)), .second, .val (.double (own_R 1 kc)), .second, .unset, .unset, .unset, .unset] [(.ref b8)]))
    refine Good.back (fun _ k => XS.dup X8.here hx rfl (hb hby at_87) rfl rfl k) ?_
    show Good p e below _ (T8.setTop (mkF m 88 #[.val (.int p0), .val (.int p1), .val (.int p2), .val (.int p3), .val (.int (1 : Int32)), .val (.int (Int32.ofNat ka)), .val (.int (Int32.ofNat kb)), .val (.int (Int32.ofNat kc)), .val (.double (own_R 1 ka)), .second, .val (.double (own_R 1 kb)), .second, .val (.double (own_R 1 kc)), .second, .unset, .unset, .unset, .unset] [(.ref b8), (.ref b8)]))
    refine Good.back (fun _ k => XS.iconst X8.here hx rfl (hb hby at_88) k) ?_
    show Good p e below _ (T8.setTop (mkF m 89 #[.val (.int p0), .val (.int p1), .val (.int p2), .val (.int p3), .val (.int (1 : Int32)), .val (.int (Int32.ofNat ka)), .val (.int (Int32.ofNat kb)), .val (.int (Int32.ofNat kc)), .val (.double (own_R 1 ka)), .second, .val (.double (own_R 1 kb)), .second, .val (.double (own_R 1 kc)), .second, .unset, .unset, .unset, .unset] [(.int (0 : Int32)), (.ref b8), (.ref b8)]))
    refine Good.back (fun _ k => XS.dload X8.here hx rfl (hb hby at_89) rfl k) ?_
    show Good p e below _ (T8.setTop (mkF m 91 #[.val (.int p0), .val (.int p1), .val (.int p2), .val (.int p3), .val (.int (1 : Int32)), .val (.int (Int32.ofNat ka)), .val (.int (Int32.ofNat kb)), .val (.int (Int32.ofNat kc)), .val (.double (own_R 1 ka)), .second, .val (.double (own_R 1 kb)), .second, .val (.double (own_R 1 kc)), .second, .unset, .unset, .unset, .unset] [(.double (own_R 1 ka)), (.int (0 : Int32)), (.ref b8), (.ref b8)]))
    have fc11 := f_10
    obtain ⟨cl11, Ar11, qk11, S11, N11', H11, G11⟩ := fc11
    have hin11 : ¬ ((0 : Int32) < 0 ∨ cl11.slots.size ≤ ((0 : Int32)).toNatClampNeg) := inb_of S11 ⟨by decide, by decide⟩
    obtain ⟨T11, h11, X11, e11, W11, st11⟩ := stD X8 hx hZ e8 Ar11 (j := (0 : Int32)) hin11 (g := (mkF m 91 #[.val (.int p0), .val (.int p1), .val (.int p2), .val (.int p3), .val (.int (1 : Int32)), .val (.int (Int32.ofNat ka)), .val (.int (Int32.ofNat kb)), .val (.int (Int32.ofNat kc)), .val (.double (own_R 1 ka)), .second, .val (.double (own_R 1 kb)), .second, .val (.double (own_R 1 kc)), .second, .unset, .unset, .unset, .unset] [(.double (own_R 1 ka)), (.int (0 : Int32)), (.ref b8), (.ref b8)])) rfl rfl (hb hby at_91)
    refine Good.back st11 ?_
    have f_12 : Arv Z h11 b8 k8 .double (1 : Int32) [(.double (own_R 1 ka))] (.double (FP.l2d 0)) := Arv.set Ar11 qk11 S11 N11' H11 G11 rfl W11 0 rfl (Nat.le_of_ble_eq_true rfl)
    have N11 := Fr.snoc X11 N0 g_b8
    have Z13 : n0 ≤ h11.size := Nat.le_trans Z9 (Keep.of_wr W11).1
    show Good p e below _ (T11.setTop (mkF m 92 #[.val (.int p0), .val (.int p1), .val (.int p2), .val (.int p3), .val (.int (1 : Int32)), .val (.int (Int32.ofNat ka)), .val (.int (Int32.ofNat kb)), .val (.int (Int32.ofNat kc)), .val (.double (own_R 1 ka)), .second, .val (.double (own_R 1 kb)), .second, .val (.double (own_R 1 kc)), .second, .unset, .unset, .unset, .unset] [(.ref b8)]))
    refine Good.back (fun _ k => XS.astore X11.here hx rfl (hb hby at_92) rfl rfl (l' := #[.val (.int p0), .val (.int p1), .val (.int p2), .val (.int p3), .val (.int (1 : Int32)), .val (.int (Int32.ofNat ka)), .val (.int (Int32.ofNat kb)), .val (.int (Int32.ofNat kc)), .val (.double (own_R 1 ka)), .second, .val (.double (own_R 1 kb)), .second, .val (.double (own_R 1 kc)), .second, .val (.ref b8), .unset, .unset, .unset]) rfl k) ?_
    show Good p e below _ (T11.setTop (mkF m 94 #[.val (.int p0), .val (.int p1), .val (.int p2), .val (.int p3), .val (.int (1 : Int32)), .val (.int (Int32.ofNat ka)), .val (.int (Int32.ofNat kb)), .val (.int (Int32.ofNat kc)), .val (.double (own_R 1 ka)), .second, .val (.double (own_R 1 kb)), .second, .val (.double (own_R 1 kc)), .second, .val (.ref b8), .unset, .unset, .unset] []))
    refine Good.back (fun _ k => XS.iconst X11.here hx rfl (hb hby at_94) k) ?_
    show Good p e below _ (T11.setTop (mkF m 95 #[.val (.int p0), .val (.int p1), .val (.int p2), .val (.int p3), .val (.int (1 : Int32)), .val (.int (Int32.ofNat ka)), .val (.int (Int32.ofNat kb)), .val (.int (Int32.ofNat kc)), .val (.double (own_R 1 ka)), .second, .val (.double (own_R 1 kb)), .second, .val (.double (own_R 1 kc)), .second, .val (.ref b8), .unset, .unset, .unset] [(.int (1 : Int32))]))
    refine Good.back (fun _ k => XS.istore X11.here hx rfl (hb hby at_95) rfl (l' := #[.val (.int p0), .val (.int p1), .val (.int p2), .val (.int p3), .val (.int (1 : Int32)), .val (.int (Int32.ofNat ka)), .val (.int (Int32.ofNat kb)), .val (.int (Int32.ofNat kc)), .val (.double (own_R 1 ka)), .second, .val (.double (own_R 1 kb)), .second, .val (.double (own_R 1 kc)), .second, .val (.ref b8), .val (.int (1 : Int32)), .unset, .unset]) rfl k) ?_
    show Good p e below _ (T11.setTop (mkF m 97 #[.val (.int p0), .val (.int p1), .val (.int p2), .val (.int p3), .val (.int (1 : Int32)), .val (.int (Int32.ofNat ka)), .val (.int (Int32.ofNat kb)), .val (.int (Int32.ofNat kc)), .val (.double (own_R 1 ka)), .second, .val (.double (own_R 1 kb)), .second, .val (.double (own_R 1 kc)), .second, .val (.ref b8), .val (.int (1 : Int32)), .unset, .unset] []))
    refine Good.back (fun _ k => XS.goto X11.here hx rfl (pc0 := 97) (pc' := 268) rfl (hb hby at_97) (by decide) (by decide) k) ?_
    show Good p e below _ (T11.setTop (mkF m 268 #[.val (.int p0), .val (.int p1), .val (.int p2), .val (.int p3), .val (.int (1 : Int32)), .val (.int (Int32.ofNat ka)), .val (.int (Int32.ofNat kb)), .val (.int (Int32.ofNat kc)), .val (.double (own_R 1 ka)), .second, .val (.double (own_R 1 kb)), .second, .val (.double (own_R 1 kc)), .second, .val (.ref b8), .val (.int (1 : Int32)), .unset, .unset] []))
    refine Good.back (fun _ k => XS.aload X11.here hx rfl (hb hby at_268) rfl rfl k) ?_
    show Good p e below _ (T11.setTop (mkF m 270 #[.val (.int p0), .val (.int p1), .val (.int p2), .val (.int p3), .val (.int (1 : Int32)), .val (.int (Int32.ofNat ka)), .val (.int (Int32.ofNat kb)), .val (.int (Int32.ofNat kc)), .val (.double (own_R 1 ka)), .second, .val (.double (own_R 1 kb)), .second, .val (.double (own_R 1 kc)), .second, .val (.ref b8), .val (.int (1 : Int32)), .unset, .unset] [(.ref b8)]))
    obtain ⟨_, _, ⟨T14, L14, k14, n14⟩, -, X14, ⟨Lc14, hQ14, l14, y14, z14⟩, st14⟩ := Jvm.LawKit.callS X11 hx (y := (⟨"com/example/fradno/fradno/core/Consensus", "leastCount", "([D)I"⟩ : MethodName)) hown (mvT hZ (hw _ (List.mem_of_getElem? (i := 3) rfl))) (mvT hZ (hw _ (List.mem_of_getElem? (i := 4) rfl))) (mvT hZ (hw _ (List.mem_of_getElem? (i := 5) rfl))) (mvT hZ (hw _ (List.mem_of_getElem? (i := 6) rfl))) (by decide) (backOf (W := 0) (rm1_1 l Z a0 hw [] b8 k8 ka h11 n0 Z13 f_12 (Nat.le_of_lt_succ hka)) hZ (hw _ (List.mem_of_getElem? (i := 6) rfl)) (hw _ (List.mem_of_getElem? (i := 5) rfl)) (by decide) (by decide)) (g := (mkF m 270 #[.val (.int p0), .val (.int p1), .val (.int p2), .val (.int p3), .val (.int (1 : Int32)), .val (.int (Int32.ofNat ka)), .val (.int (Int32.ofNat kb)), .val (.int (Int32.ofNat kc)), .val (.double (own_R 1 ka)), .second, .val (.double (own_R 1 kb)), .second, .val (.double (own_R 1 kc)), .second, .val (.ref b8), .val (.int (1 : Int32)), .unset, .unset] [(.ref b8)])) rfl (by rw [hml]; rfl) (argsL := [(.ref b8)]) (rest := []) (lenOf own_pd92 rfl) rfl (by show 2 * 0 + _ ≤ _; exact Nat.le_of_eq rfl) (hb hby at_270) (fun _ _ => ⟨rfl, e11, (by decide : 1 + 2 ≤ _), (by decide : 1 + 3 ≤ _)⟩)
    dsimp only [Pt.U, Pt.locs, Pt.cells, Pt.slots] at X14 l14 y14 z14 st14 hQ14
    subst l14 y14 z14
    obtain ⟨rfl, N14q, Kq14⟩ := hQ14
    have N14 := Fr.app N11 N14q
    have Z15 : n0 ≤ T14.heap.size := Nat.le_trans Z13 Kq14.1
    refine Good.back st14 ?_
    show Good p e below _ (T14.setTop (mkF m 273 #[.val (.int p0), .val (.int p1), .val (.int p2), .val (.int p3), .val (.int (1 : Int32)), .val (.int (Int32.ofNat ka)), .val (.int (Int32.ofNat kb)), .val (.int (Int32.ofNat kc)), .val (.double (own_R 1 ka)), .second, .val (.double (own_R 1 kb)), .second, .val (.double (own_R 1 kc)), .second, .val (.ref b8), .val (.int (1 : Int32)), .unset, .unset] [(.int (1 : Int32))]))
    refine Good.back (fun _ k => XS.iload X14.here hx rfl (hb hby at_273) rfl k) ?_
    show Good p e below _ (T14.setTop (mkF m 275 #[.val (.int p0), .val (.int p1), .val (.int p2), .val (.int p3), .val (.int (1 : Int32)), .val (.int (Int32.ofNat ka)), .val (.int (Int32.ofNat kb)), .val (.int (Int32.ofNat kc)), .val (.double (own_R 1 ka)), .second, .val (.double (own_R 1 kb)), .second, .val (.double (own_R 1 kc)), .second, .val (.ref b8), .val (.int (1 : Int32)), .unset, .unset] [(.int (1 : Int32)), (.int (1 : Int32))]))
    refine Good.back (fun _ k => XS.icmpNo X14.here hx rfl (hb hby at_275) rfl (teq (by decide : ((1 : Int32) = (1 : Int32)))).2 k) ?_
    show Good p e below _ (T14.setTop (mkF m 278 #[.val (.int p0), .val (.int p1), .val (.int p2), .val (.int p3), .val (.int (1 : Int32)), .val (.int (Int32.ofNat ka)), .val (.int (Int32.ofNat kb)), .val (.int (Int32.ofNat kc)), .val (.double (own_R 1 ka)), .second, .val (.double (own_R 1 kb)), .second, .val (.double (own_R 1 kc)), .second, .val (.ref b8), .val (.int (1 : Int32)), .unset, .unset] []))
    refine Good.back (fun _ k => XS.iconst X14.here hx rfl (hb hby at_278) k) ?_
    show Good p e below _ (T14.setTop (mkF m 279 #[.val (.int p0), .val (.int p1), .val (.int p2), .val (.int p3), .val (.int (1 : Int32)), .val (.int (Int32.ofNat ka)), .val (.int (Int32.ofNat kb)), .val (.int (Int32.ofNat kc)), .val (.double (own_R 1 ka)), .second, .val (.double (own_R 1 kb)), .second, .val (.double (own_R 1 kc)), .second, .val (.ref b8), .val (.int (1 : Int32)), .unset, .unset] [(.int (1 : Int32))]))
    refine Good.back (fun _ k => XS.goto X14.here hx rfl (pc0 := 279) (pc' := 283) rfl (hb hby at_279) (by decide) (by decide) k) ?_
    show Good p e below _ (T14.setTop (mkF m 283 #[.val (.int p0), .val (.int p1), .val (.int p2), .val (.int p3), .val (.int (1 : Int32)), .val (.int (Int32.ofNat ka)), .val (.int (Int32.ofNat kb)), .val (.int (Int32.ofNat kc)), .val (.double (own_R 1 ka)), .second, .val (.double (own_R 1 kb)), .second, .val (.double (own_R 1 kc)), .second, .val (.ref b8), .val (.int (1 : Int32)), .unset, .unset] [(.int (1 : Int32))]))
    obtain ⟨fs16, hr16, hrun16, hended16, hW16, hsame16⟩ := X14.leave (v := some (.int (1 : Int32))) (fun h => by rw [Bd.returns] at h; cases h)
    refine Good.done (retN X14 hx (t := .boolean) Bd.returns (by simp) (hb hby at_283) hr16) hrun16 hended16 ⟨_, _, rfl, ?_, ⟨_, rfl⟩, hW16, hsame16.mono (by decide) (by decide)⟩
    show Q0 Z p0 p1 p2 p3 h0 n0 _ T14.heap _
    exact ⟨rfl, N14⟩
  · have he1' : ((p0 &&& (2147483647 : Int32)) % (4 : Int32)) = (2 : Int32) := he1
    rw [he1']
    show Good p e below _ (s₁.setTop (mkF m 62 #[.val (.int p0), .val (.int p1), .val (.int p2), .val (.int p3), .val (.int (2 : Int32)), .val (.int (Int32.ofNat ka)), .val (.int (Int32.ofNat kb)), .val (.int (Int32.ofNat kc)), .val (.double (own_R 1 ka)), .second, .val (.double (own_R 1 kb)), .second, .val (.double (own_R 1 kc)), .second, .unset, .unset, .unset, .unset] []))
    refine Good.back (fun _ k => XS.iload X0.here hx rfl (hb hby at_62) rfl k) ?_
    show Good p e below _ (s₁.setTop (mkF m 64 #[.val (.int p0), .val (.int p1), .val (.int p2), .val (.int p3), .val (.int (2 : Int32)), .val (.int (Int32.ofNat ka)), .val (.int (Int32.ofNat kb)), .val (.int (Int32.ofNat kc)), .val (.double (own_R 1 ka)), .second, .val (.double (own_R 1 kb)), .second, .val (.double (own_R 1 kc)), .second, .unset, .unset, .unset, .unset] [(.int (2 : Int32))]))
    refine Good.back (fun _ k => XS.ifYes X0.here hx rfl (pc0 := 64) (pc' := 78) rfl (hb hby at_64) rfl ((if0 _ _).trans (feq (by decide : ¬ ((2 : Int32) = (0 : Int32)))).2) (by decide) (by decide) k) ?_
    show Good p e below _ (s₁.setTop (mkF m 78 #[.val (.int p0), .val (.int p1), .val (.int p2), .val (.int p3), .val (.int (2 : Int32)), .val (.int (Int32.ofNat ka)), .val (.int (Int32.ofNat kb)), .val (.int (Int32.ofNat kc)), .val (.double (own_R 1 ka)), .second, .val (.double (own_R 1 kb)), .second, .val (.double (own_R 1 kc)), .second, .unset, .unset, .unset, .unset] []))
    refine Good.back (fun _ k => XS.iload X0.here hx rfl (hb hby at_78) rfl k) ?_
    show Good p e below _ (s₁.setTop (mkF m 80 #[.val (.int p0), .val (.int p1), .val (.int p2), .val (.int p3), .val (.int (2 : Int32)), .val (.int (Int32.ofNat ka)), .val (.int (Int32.ofNat kb)), .val (.int (Int32.ofNat kc)), .val (.double (own_R 1 ka)), .second, .val (.double (own_R 1 kb)), .second, .val (.double (own_R 1 kc)), .second, .unset, .unset, .unset, .unset] [(.int (2 : Int32))]))
    refine Good.back (fun _ k => XS.iconst X0.here hx rfl (hb hby at_80) k) ?_
    show Good p e below _ (s₁.setTop (mkF m 81 #[.val (.int p0), .val (.int p1), .val (.int p2), .val (.int p3), .val (.int (2 : Int32)), .val (.int (Int32.ofNat ka)), .val (.int (Int32.ofNat kb)), .val (.int (Int32.ofNat kc)), .val (.double (own_R 1 ka)), .second, .val (.double (own_R 1 kb)), .second, .val (.double (own_R 1 kc)), .second, .unset, .unset, .unset, .unset] [(.int (1 : Int32)), (.int (2 : Int32))]))
    refine Good.back (fun _ k => XS.icmpYes X0.here hx rfl (pc0 := 81) (pc' := 100) rfl (hb hby at_81) rfl (feq (by decide : ¬ ((2 : Int32) = (1 : Int32)))).2 (by decide) (by decide) k) ?_
    show Good p e below _ (s₁.setTop (mkF m 100 #[.val (.int p0), .val (.int p1), .val (.int p2), .val (.int p3), .val (.int (2 : Int32)), .val (.int (Int32.ofNat ka)), .val (.int (Int32.ofNat kb)), .val (.int (Int32.ofNat kc)), .val (.double (own_R 1 ka)), .second, .val (.double (own_R 1 kb)), .second, .val (.double (own_R 1 kc)), .second, .unset, .unset, .unset, .unset] []))
    refine Good.back (fun _ k => XS.iload X0.here hx rfl (hb hby at_100) rfl k) ?_
    show Good p e below _ (s₁.setTop (mkF m 102 #[.val (.int p0), .val (.int p1), .val (.int p2), .val (.int p3), .val (.int (2 : Int32)), .val (.int (Int32.ofNat ka)), .val (.int (Int32.ofNat kb)), .val (.int (Int32.ofNat kc)), .val (.double (own_R 1 ka)), .second, .val (.double (own_R 1 kb)), .second, .val (.double (own_R 1 kc)), .second, .unset, .unset, .unset, .unset] [(.int (2 : Int32))]))
    refine Good.back (fun _ k => XS.iconst X0.here hx rfl (hb hby at_102) k) ?_
    show Good p e below _ (s₁.setTop (mkF m 103 #[.val (.int p0), .val (.int p1), .val (.int p2), .val (.int p3), .val (.int (2 : Int32)), .val (.int (Int32.ofNat ka)), .val (.int (Int32.ofNat kb)), .val (.int (Int32.ofNat kc)), .val (.double (own_R 1 ka)), .second, .val (.double (own_R 1 kb)), .second, .val (.double (own_R 1 kc)), .second, .unset, .unset, .unset, .unset] [(.int (2 : Int32)), (.int (2 : Int32))]))
    refine Good.back (fun _ k => XS.icmpNo X0.here hx rfl (hb hby at_103) rfl (teq (by decide : ((2 : Int32) = (2 : Int32)))).2 k) ?_
    show Good p e below _ (s₁.setTop (mkF m 106 #[.val (.int p0), .val (.int p1), .val (.int p2), .val (.int p3), .val (.int (2 : Int32)), .val (.int (Int32.ofNat ka)), .val (.int (Int32.ofNat kb)), .val (.int (Int32.ofNat kc)), .val (.double (own_R 1 ka)), .second, .val (.double (own_R 1 kb)), .second, .val (.double (own_R 1 kc)), .second, .unset, .unset, .unset, .unset] []))
    refine Good.back (fun _ k => XS.iconst X0.here hx rfl (hb hby at_106) k) ?_
    show Good p e below _ (s₁.setTop (mkF m 107 #[.val (.int p0), .val (.int p1), .val (.int p2), .val (.int p3), .val (.int (2 : Int32)), .val (.int (Int32.ofNat ka)), .val (.int (Int32.ofNat kb)), .val (.int (Int32.ofNat kc)), .val (.double (own_R 1 ka)), .second, .val (.double (own_R 1 kb)), .second, .val (.double (own_R 1 kc)), .second, .unset, .unset, .unset, .unset] [(.int (2 : Int32))]))
    obtain ⟨T17, h17, k17, X17, e17, E17, A17, st17⟩ := newP X0 hx hZ (hw _ (List.mem_of_getElem? (i := 2) rfl)) e0 (g := (mkF m 107 #[.val (.int p0), .val (.int p1), .val (.int p2), .val (.int p3), .val (.int (2 : Int32)), .val (.int (Int32.ofNat ka)), .val (.int (Int32.ofNat kb)), .val (.int (Int32.ofNat kc)), .val (.double (own_R 1 ka)), .second, .val (.double (own_R 1 kb)), .second, .val (.double (own_R 1 kc)), .second, .unset, .unset, .unset, .unset] [(.int (2 : Int32))])) rfl (hb hby at_107) rfl (by decide) (cap := 2) (by decide) (by decide) (by decide) (by decide)
    obtain ⟨b17, g17⟩ : ∃ z, z = h0.size := ⟨_, rfl⟩
    rw [← g17] at A17 st17
    refine Good.back st17 ?_
    have g_b17 : n0 ≤ b17 := Nat.le_trans Z0 (Nat.le_of_eq g17.symm)
    have Z18 : n0 ≤ h17.size := Nat.le_trans Z0 E17.1
    have f_19 : Arv Z h17 b17 k17 .double (2 : Int32) [(.double (FP.l2d 0)), (.double (FP.l2d 0))] (.double (FP.l2d 0)) := (Arv.newD A17 (by decide)).pad (pad_rep [] (.double (FP.l2d 0)) 2)
    show Good p e below _ (T17.setTop (mkF m 109 #[.val (.int p0), .val (.int p1), .val (.int p2), .val (.int p3), .val (.int (2 : Int32)), .val (.int (Int32.ofNat ka)), .val (.int (Int32.ofNat kb)), .val (.int (Int32.ofNat kc)), .val (.double (own_R 1 ka)), .second, .val (.double (own_R 1 kb)), .second, .val (.double (own_R 1 kc)), .second, .unset, .unset, .unset, .unset] [(.ref b17)]))
    refine Good.back (fun _ k => XS.dup X17.here hx rfl (hb hby at_109) rfl rfl k) ?_
    show Good p e below _ (T17.setTop (mkF m 110 #[.val (.int p0), .val (.int p1), .val (.int p2), .val (.int p3), .val (.int (2 : Int32)), .val (.int (Int32.ofNat ka)), .val (.int (Int32.ofNat kb)), .val (.int (Int32.ofNat kc)), .val (.double (own_R 1 ka)), .second, .val (.double (own_R 1 kb)), .second, .val (.double (own_R 1 kc)), .second, .unset, .unset, .unset, .unset] [(.ref b17), (.ref b17)]))
    refine Good.back (fun _ k => XS.iconst X17.here hx rfl (hb hby at_110) k) ?_
    show Good p e below _ (T17.setTop (mkF m 111 #[.val (.int p0), .val (.int p1), .val (.int p2), .val (.int p3), .val (.int (2 : Int32)), .val (.int (Int32.ofNat ka)), .val (.int (Int32.ofNat kb)), .val (.int (Int32.ofNat kc)), .val (.double (own_R 1 ka)), .second, .val (.double (own_R 1 kb)), .second, .val (.double (own_R 1 kc)), .second, .unset, .unset, .unset, .unset] [(.int (0 : Int32)), (.ref b17), (.ref b17)]))
    refine Good.back (fun _ k => XS.dload X17.here hx rfl (hb hby at_111) rfl k) ?_
    show Good p e below _ (T17.setTop (mkF m 113 #[.val (.int p0), .val (.int p1), .val (.int p2), .val (.int p3), .val (.int (2 : Int32)), .val (.int (Int32.ofNat ka)), .val (.int (Int32.ofNat kb)), .val (.int (Int32.ofNat kc)), .val (.double (own_R 1 ka)), .second, .val (.double (own_R 1 kb)), .second, .val (.double (own_R 1 kc)), .second, .unset, .unset, .unset, .unset] [(.double (own_R 1 ka)), (.int (0 : Int32)), (.ref b17), (.ref b17)]))
    have fc20 := f_19
    obtain ⟨cl20, Ar20, qk20, S20, N20', H20, G20⟩ := fc20
    have hin20 : ¬ ((0 : Int32) < 0 ∨ cl20.slots.size ≤ ((0 : Int32)).toNatClampNeg) := inb_of S20 ⟨by decide, by decide⟩
    obtain ⟨T20, h20, X20, e20, W20, st20⟩ := stD X17 hx hZ e17 Ar20 (j := (0 : Int32)) hin20 (g := (mkF m 113 #[.val (.int p0), .val (.int p1), .val (.int p2), .val (.int p3), .val (.int (2 : Int32)), .val (.int (Int32.ofNat ka)), .val (.int (Int32.ofNat kb)), .val (.int (Int32.ofNat kc)), .val (.double (own_R 1 ka)), .second, .val (.double (own_R 1 kb)), .second, .val (.double (own_R 1 kc)), .second, .unset, .unset, .unset, .unset] [(.double (own_R 1 ka)), (.int (0 : Int32)), (.ref b17), (.ref b17)])) rfl rfl (hb hby at_113)
    refine Good.back st20 ?_
    have f_21 : Arv Z h20 b17 k17 .double (2 : Int32) [(.double (own_R 1 ka)), (.double (FP.l2d 0))] (.double (FP.l2d 0)) := Arv.set Ar20 qk20 S20 N20' H20 G20 rfl W20 0 rfl (Nat.le_of_ble_eq_true rfl)
    have N20 := Fr.snoc X20 N0 g_b17
    have Z22 : n0 ≤ h20.size := Nat.le_trans Z18 (Keep.of_wr W20).1
    show Good p e below _ (T20.setTop (mkF m 114 #[.val (.int p0), .val (.int p1), .val (.int p2), .val (.int p3), .val (.int (2 : Int32)), .val (.int (Int32.ofNat ka)), .val (.int (Int32.ofNat kb)), .val (.int (Int32.ofNat kc)), .val (.double (own_R 1 ka)), .second, .val (.double (own_R 1 kb)), .second, .val (.double (own_R 1 kc)), .second, .unset, .unset, .unset, .unset] [(.ref b17)]))
    refine Good.back (fun _ k => XS.dup X20.here hx rfl (hb hby at_114) rfl rfl k) ?_
    show Good p e below _ (T20.setTop (mkF m 115 #[.val (.int p0), .val (.int p1), .val (.int p2), .val (.int p3), .val (.int (2 : Int32)), .val (.int (Int32.ofNat ka)), .val (.int (Int32.ofNat kb)), .val (.int (Int32.ofNat kc)), .val (.double (own_R 1 ka)), .second, .val (.double (own_R 1 kb)), .second, .val (.double (own_R 1 kc)), .second, .unset, .unset, .unset, .unset] [(.ref b17), (.ref b17)]))
    refine Good.back (fun _ k => XS.iconst X20.here hx rfl (hb hby at_115) k) ?_
    show Good p e below _ (T20.setTop (mkF m 116 #[.val (.int p0), .val (.int p1), .val (.int p2), .val (.int p3), .val (.int (2 : Int32)), .val (.int (Int32.ofNat ka)), .val (.int (Int32.ofNat kb)), .val (.int (Int32.ofNat kc)), .val (.double (own_R 1 ka)), .second, .val (.double (own_R 1 kb)), .second, .val (.double (own_R 1 kc)), .second, .unset, .unset, .unset, .unset] [(.int (1 : Int32)), (.ref b17), (.ref b17)]))
    refine Good.back (fun _ k => XS.dload X20.here hx rfl (hb hby at_116) rfl k) ?_
    show Good p e below _ (T20.setTop (mkF m 118 #[.val (.int p0), .val (.int p1), .val (.int p2), .val (.int p3), .val (.int (2 : Int32)), .val (.int (Int32.ofNat ka)), .val (.int (Int32.ofNat kb)), .val (.int (Int32.ofNat kc)), .val (.double (own_R 1 ka)), .second, .val (.double (own_R 1 kb)), .second, .val (.double (own_R 1 kc)), .second, .unset, .unset, .unset, .unset] [(.double (own_R 1 kb)), (.int (1 : Int32)), (.ref b17), (.ref b17)]))
    have fc23 := f_21
    obtain ⟨cl23, Ar23, qk23, S23, N23', H23, G23⟩ := fc23
    have hin23 : ¬ ((1 : Int32) < 0 ∨ cl23.slots.size ≤ ((1 : Int32)).toNatClampNeg) := inb_of S23 ⟨by decide, by decide⟩
    obtain ⟨T23, h23, X23, e23, W23, st23⟩ := stD X20 hx hZ e20 Ar23 (j := (1 : Int32)) hin23 (g := (mkF m 118 #[.val (.int p0), .val (.int p1), .val (.int p2), .val (.int p3), .val (.int (2 : Int32)), .val (.int (Int32.ofNat ka)), .val (.int (Int32.ofNat kb)), .val (.int (Int32.ofNat kc)), .val (.double (own_R 1 ka)), .second, .val (.double (own_R 1 kb)), .second, .val (.double (own_R 1 kc)), .second, .unset, .unset, .unset, .unset] [(.double (own_R 1 kb)), (.int (1 : Int32)), (.ref b17), (.ref b17)])) rfl rfl (hb hby at_118)
    refine Good.back st23 ?_
    have f_24 : Arv Z h23 b17 k17 .double (2 : Int32) [(.double (own_R 1 ka)), (.double (own_R 1 kb))] (.double (FP.l2d 0)) := Arv.set Ar23 qk23 S23 N23' H23 G23 rfl W23 1 rfl (Nat.le_of_ble_eq_true rfl)
    have N23 := Fr.snoc X23 N20 g_b17
    have Z25 : n0 ≤ h23.size := Nat.le_trans Z22 (Keep.of_wr W23).1
    show Good p e below _ (T23.setTop (mkF m 119 #[.val (.int p0), .val (.int p1), .val (.int p2), .val (.int p3), .val (.int (2 : Int32)), .val (.int (Int32.ofNat ka)), .val (.int (Int32.ofNat kb)), .val (.int (Int32.ofNat kc)), .val (.double (own_R 1 ka)), .second, .val (.double (own_R 1 kb)), .second, .val (.double (own_R 1 kc)), .second, .unset, .unset, .unset, .unset] [(.ref b17)]))
    refine Good.back (fun _ k => XS.astore X23.here hx rfl (hb hby at_119) rfl rfl (l' := #[.val (.int p0), .val (.int p1), .val (.int p2), .val (.int p3), .val (.int (2 : Int32)), .val (.int (Int32.ofNat ka)), .val (.int (Int32.ofNat kb)), .val (.int (Int32.ofNat kc)), .val (.double (own_R 1 ka)), .second, .val (.double (own_R 1 kb)), .second, .val (.double (own_R 1 kc)), .second, .val (.ref b17), .unset, .unset, .unset]) rfl k) ?_
    show Good p e below _ (T23.setTop (mkF m 121 #[.val (.int p0), .val (.int p1), .val (.int p2), .val (.int p3), .val (.int (2 : Int32)), .val (.int (Int32.ofNat ka)), .val (.int (Int32.ofNat kb)), .val (.int (Int32.ofNat kc)), .val (.double (own_R 1 ka)), .second, .val (.double (own_R 1 kb)), .second, .val (.double (own_R 1 kc)), .second, .val (.ref b17), .unset, .unset, .unset] []))
    refine Good.back (fun _ k => XS.sipush X23.here hx rfl (hb hby at_121) k) ?_
    show Good p e below _ (T23.setTop (mkF m 124 #[.val (.int p0), .val (.int p1), .val (.int p2), .val (.int p3), .val (.int (2 : Int32)), .val (.int (Int32.ofNat ka)), .val (.int (Int32.ofNat kb)), .val (.int (Int32.ofNat kc)), .val (.double (own_R 1 ka)), .second, .val (.double (own_R 1 kb)), .second, .val (.double (own_R 1 kc)), .second, .val (.ref b17), .unset, .unset, .unset] [(.int (256 : Int32))]))
    refine Good.back (fun _ k => XS.bipush X23.here hx rfl (hb hby at_124) k) ?_
    show Good p e below _ (T23.setTop (mkF m 126 #[.val (.int p0), .val (.int p1), .val (.int p2), .val (.int p3), .val (.int (2 : Int32)), .val (.int (Int32.ofNat ka)), .val (.int (Int32.ofNat kb)), .val (.int (Int32.ofNat kc)), .val (.double (own_R 1 ka)), .second, .val (.double (own_R 1 kb)), .second, .val (.double (own_R 1 kc)), .second, .val (.ref b17), .unset, .unset, .unset] [(.int (16 : Int32)), (.int (256 : Int32))]))
    refine Good.back (fun _ k => XS.iload X23.here hx rfl (hb hby at_126) rfl k) ?_
    show Good p e below _ (T23.setTop (mkF m 128 #[.val (.int p0), .val (.int p1), .val (.int p2), .val (.int p3), .val (.int (2 : Int32)), .val (.int (Int32.ofNat ka)), .val (.int (Int32.ofNat kb)), .val (.int (Int32.ofNat kc)), .val (.double (own_R 1 ka)), .second, .val (.double (own_R 1 kb)), .second, .val (.double (own_R 1 kc)), .second, .val (.ref b17), .unset, .unset, .unset] [(.int (Int32.ofNat ka)), (.int (16 : Int32)), (.int (256 : Int32))]))
    refine Good.back (fun _ k => XS.isub X23.here hx rfl (hb hby at_128) rfl k) ?_
    show Good p e below _ (T23.setTop (mkF m 129 #[.val (.int p0), .val (.int p1), .val (.int p2), .val (.int p3), .val (.int (2 : Int32)), .val (.int (Int32.ofNat ka)), .val (.int (Int32.ofNat kb)), .val (.int (Int32.ofNat kc)), .val (.double (own_R 1 ka)), .second, .val (.double (own_R 1 kb)), .second, .val (.double (own_R 1 kc)), .second, .val (.ref b17), .unset, .unset, .unset] [(.int ((16 : Int32) - (Int32.ofNat ka))), (.int (256 : Int32))]))
    refine Good.back (fun _ k => XS.bipush X23.here hx rfl (hb hby at_129) k) ?_
    show Good p e below _ (T23.setTop (mkF m 131 #[.val (.int p0), .val (.int p1), .val (.int p2), .val (.int p3), .val (.int (2 : Int32)), .val (.int (Int32.ofNat ka)), .val (.int (Int32.ofNat kb)), .val (.int (Int32.ofNat kc)), .val (.double (own_R 1 ka)), .second, .val (.double (own_R 1 kb)), .second, .val (.double (own_R 1 kc)), .second, .val (.ref b17), .unset, .unset, .unset] [(.int (16 : Int32)), (.int ((16 : Int32) - (Int32.ofNat ka))), (.int (256 : Int32))]))
    refine Good.back (fun _ k => XS.iload X23.here hx rfl (hb hby at_131) rfl k) ?_
    show Good p e below _ (T23.setTop (mkF m 133 #[.val (.int p0), .val (.int p1), .val (.int p2), .val (.int p3), .val (.int (2 : Int32)), .val (.int (Int32.ofNat ka)), .val (.int (Int32.ofNat kb)), .val (.int (Int32.ofNat kc)), .val (.double (own_R 1 ka)), .second, .val (.double (own_R 1 kb)), .second, .val (.double (own_R 1 kc)), .second, .val (.ref b17), .unset, .unset, .unset] [(.int (Int32.ofNat kb)), (.int (16 : Int32)), (.int ((16 : Int32) - (Int32.ofNat ka))), (.int (256 : Int32))]))
    refine Good.back (fun _ k => XS.isub X23.here hx rfl (hb hby at_133) rfl k) ?_
    show Good p e below _ (T23.setTop (mkF m 134 #[.val (.int p0), .val (.int p1), .val (.int p2), .val (.int p3), .val (.int (2 : Int32)), .val (.int (Int32.ofNat ka)), .val (.int (Int32.ofNat kb)), .val (.int (Int32.ofNat kc)), .val (.double (own_R 1 ka)), .second, .val (.double (own_R 1 kb)), .second, .val (.double (own_R 1 kc)), .second, .val (.ref b17), .unset, .unset, .unset] [(.int ((16 : Int32) - (Int32.ofNat kb))), (.int ((16 : Int32) - (Int32.ofNat ka))), (.int (256 : Int32))]))
    refine Good.back (fun _ k => XS.imul X23.here hx rfl (hb hby at_134) rfl k) ?_
    show Good p e below _ (T23.setTop (mkF m 135 #[.val (.int p0), .val (.int p1), .val (.int p2), .val (.int p3), .val (.int (2 : Int32)), .val (.int (Int32.ofNat ka)), .val (.int (Int32.ofNat kb)), .val (.int (Int32.ofNat kc)), .val (.double (own_R 1 ka)), .second, .val (.double (own_R 1 kb)), .second, .val (.double (own_R 1 kc)), .second, .val (.ref b17), .unset, .unset, .unset] [(.int (((16 : Int32) - (Int32.ofNat ka)) * ((16 : Int32) - (Int32.ofNat kb)))), (.int (256 : Int32))]))
    refine Good.back (fun _ k => XS.isub X23.here hx rfl (hb hby at_135) rfl k) ?_
    show Good p e below _ (T23.setTop (mkF m 136 #[.val (.int p0), .val (.int p1), .val (.int p2), .val (.int p3), .val (.int (2 : Int32)), .val (.int (Int32.ofNat ka)), .val (.int (Int32.ofNat kb)), .val (.int (Int32.ofNat kc)), .val (.double (own_R 1 ka)), .second, .val (.double (own_R 1 kb)), .second, .val (.double (own_R 1 kc)), .second, .val (.ref b17), .unset, .unset, .unset] [(.int ((256 : Int32) - (((16 : Int32) - (Int32.ofNat ka)) * ((16 : Int32) - (Int32.ofNat kb)))))]))
    refine Good.back (fun _ k => XS.istore X23.here hx rfl (hb hby at_136) rfl (l' := #[.val (.int p0), .val (.int p1), .val (.int p2), .val (.int p3), .val (.int (2 : Int32)), .val (.int (Int32.ofNat ka)), .val (.int (Int32.ofNat kb)), .val (.int (Int32.ofNat kc)), .val (.double (own_R 1 ka)), .second, .val (.double (own_R 1 kb)), .second, .val (.double (own_R 1 kc)), .second, .val (.ref b17), .unset, .val (.int ((256 : Int32) - (((16 : Int32) - (Int32.ofNat ka)) * ((16 : Int32) - (Int32.ofNat kb))))), .unset]) rfl k) ?_
    show Good p e below _ (T23.setTop (mkF m 138 #[.val (.int p0), .val (.int p1), .val (.int p2), .val (.int p3), .val (.int (2 : Int32)), .val (.int (Int32.ofNat ka)), .val (.int (Int32.ofNat kb)), .val (.int (Int32.ofNat kc)), .val (.double (own_R 1 ka)), .second, .val (.double (own_R 1 kb)), .second, .val (.double (own_R 1 kc)), .second, .val (.ref b17), .unset, .val (.int ((256 : Int32) - (((16 : Int32) - (Int32.ofNat ka)) * ((16 : Int32) - (Int32.ofNat kb))))), .unset] []))
    refine Good.back (fun _ k => XS.bipush X23.here hx rfl (hb hby at_138) k) ?_
    show Good p e below _ (T23.setTop (mkF m 140 #[.val (.int p0), .val (.int p1), .val (.int p2), .val (.int p3), .val (.int (2 : Int32)), .val (.int (Int32.ofNat ka)), .val (.int (Int32.ofNat kb)), .val (.int (Int32.ofNat kc)), .val (.double (own_R 1 ka)), .second, .val (.double (own_R 1 kb)), .second, .val (.double (own_R 1 kc)), .second, .val (.ref b17), .unset, .val (.int ((256 : Int32) - (((16 : Int32) - (Int32.ofNat ka)) * ((16 : Int32) - (Int32.ofNat kb))))), .unset] [(.int (20 : Int32))]))
    refine Good.back (fun _ k => XS.iload X23.here hx rfl (hb hby at_140) rfl k) ?_
    show Good p e below _ (T23.setTop (mkF m 142 #[.val (.int p0), .val (.int p1), .val (.int p2), .val (.int p3), .val (.int (2 : Int32)), .val (.int (Int32.ofNat ka)), .val (.int (Int32.ofNat kb)), .val (.int (Int32.ofNat kc)), .val (.double (own_R 1 ka)), .second, .val (.double (own_R 1 kb)), .second, .val (.double (own_R 1 kc)), .second, .val (.ref b17), .unset, .val (.int ((256 : Int32) - (((16 : Int32) - (Int32.ofNat ka)) * ((16 : Int32) - (Int32.ofNat kb))))), .unset] [(.int ((256 : Int32) - (((16 : Int32) - (Int32.ofNat ka)) * ((16 : Int32) - (Int32.ofNat kb))))), (.int (20 : Int32))]))
    refine Good.back (fun _ k => XS.imul X23.here hx rfl (hb hby at_142) rfl k) ?_
    show Good p e below _ (T23.setTop (mkF m 143 #[.val (.int p0), .val (.int p1), .val (.int p2), .val (.int p3), .val (.int (2 : Int32)), .val (.int (Int32.ofNat ka)), .val (.int (Int32.ofNat kb)), .val (.int (Int32.ofNat kc)), .val (.double (own_R 1 ka)), .second, .val (.double (own_R 1 kb)), .second, .val (.double (own_R 1 kc)), .second, .val (.ref b17), .unset, .val (.int ((256 : Int32) - (((16 : Int32) - (Int32.ofNat ka)) * ((16 : Int32) - (Int32.ofNat kb))))), .unset] [(.int ((20 : Int32) * ((256 : Int32) - (((16 : Int32) - (Int32.ofNat ka)) * ((16 : Int32) - (Int32.ofNat kb))))))]))
    refine Good.back (fun _ k => XS.sipush X23.here hx rfl (hb hby at_143) k) ?_
    show Good p e below _ (T23.setTop (mkF m 146 #[.val (.int p0), .val (.int p1), .val (.int p2), .val (.int p3), .val (.int (2 : Int32)), .val (.int (Int32.ofNat ka)), .val (.int (Int32.ofNat kb)), .val (.int (Int32.ofNat kc)), .val (.double (own_R 1 ka)), .second, .val (.double (own_R 1 kb)), .second, .val (.double (own_R 1 kc)), .second, .val (.ref b17), .unset, .val (.int ((256 : Int32) - (((16 : Int32) - (Int32.ofNat ka)) * ((16 : Int32) - (Int32.ofNat kb))))), .unset] [(.int (256 : Int32)), (.int ((20 : Int32) * ((256 : Int32) - (((16 : Int32) - (Int32.ofNat ka)) * ((16 : Int32) - (Int32.ofNat kb))))))]))
    by_cases hc146_26 : ((20 : Int32) * ((256 : Int32) - (((16 : Int32) - (Int32.ofNat ka)) * ((16 : Int32) - (Int32.ofNat kb))))) < (256 : Int32)
    · refine Good.back (fun _ k => XS.icmpNo X23.here hx rfl (hb hby at_146) rfl (tlt hc146_26).2.1 k) ?_
      show Good p e below _ (T23.setTop (mkF m 149 #[.val (.int p0), .val (.int p1), .val (.int p2), .val (.int p3), .val (.int (2 : Int32)), .val (.int (Int32.ofNat ka)), .val (.int (Int32.ofNat kb)), .val (.int (Int32.ofNat kc)), .val (.double (own_R 1 ka)), .second, .val (.double (own_R 1 kb)), .second, .val (.double (own_R 1 kc)), .second, .val (.ref b17), .unset, .val (.int ((256 : Int32) - (((16 : Int32) - (Int32.ofNat ka)) * ((16 : Int32) - (Int32.ofNat kb))))), .unset] []))
      refine Good.back (fun _ k => XS.iconst X23.here hx rfl (hb hby at_149) k) ?_
      show Good p e below _ (T23.setTop (mkF m 150 #[.val (.int p0), .val (.int p1), .val (.int p2), .val (.int p3), .val (.int (2 : Int32)), .val (.int (Int32.ofNat ka)), .val (.int (Int32.ofNat kb)), .val (.int (Int32.ofNat kc)), .val (.double (own_R 1 ka)), .second, .val (.double (own_R 1 kb)), .second, .val (.double (own_R 1 kc)), .second, .val (.ref b17), .unset, .val (.int ((256 : Int32) - (((16 : Int32) - (Int32.ofNat ka)) * ((16 : Int32) - (Int32.ofNat kb))))), .unset] [(.int (1 : Int32))]))
      refine Good.back (fun _ k => XS.goto X23.here hx rfl (pc0 := 150) (pc' := 154) rfl (hb hby at_150) (by decide) (by decide) k) ?_
      show Good p e below _ (T23.setTop (mkF m 154 #[.val (.int p0), .val (.int p1), .val (.int p2), .val (.int p3), .val (.int (2 : Int32)), .val (.int (Int32.ofNat ka)), .val (.int (Int32.ofNat kb)), .val (.int (Int32.ofNat kc)), .val (.double (own_R 1 ka)), .second, .val (.double (own_R 1 kb)), .second, .val (.double (own_R 1 kc)), .second, .val (.ref b17), .unset, .val (.int ((256 : Int32) - (((16 : Int32) - (Int32.ofNat ka)) * ((16 : Int32) - (Int32.ofNat kb))))), .unset] [(.int (1 : Int32))]))
      refine Good.back (fun _ k => XS.istore X23.here hx rfl (hb hby at_154) rfl (l' := #[.val (.int p0), .val (.int p1), .val (.int p2), .val (.int p3), .val (.int (2 : Int32)), .val (.int (Int32.ofNat ka)), .val (.int (Int32.ofNat kb)), .val (.int (Int32.ofNat kc)), .val (.double (own_R 1 ka)), .second, .val (.double (own_R 1 kb)), .second, .val (.double (own_R 1 kc)), .second, .val (.ref b17), .val (.int (1 : Int32)), .val (.int ((256 : Int32) - (((16 : Int32) - (Int32.ofNat ka)) * ((16 : Int32) - (Int32.ofNat kb))))), .unset]) rfl k) ?_
      show Good p e below _ (T23.setTop (mkF m 156 #[.val (.int p0), .val (.int p1), .val (.int p2), .val (.int p3), .val (.int (2 : Int32)), .val (.int (Int32.ofNat ka)), .val (.int (Int32.ofNat kb)), .val (.int (Int32.ofNat kc)), .val (.double (own_R 1 ka)), .second, .val (.double (own_R 1 kb)), .second, .val (.double (own_R 1 kc)), .second, .val (.ref b17), .val (.int (1 : Int32)), .val (.int ((256 : Int32) - (((16 : Int32) - (Int32.ofNat ka)) * ((16 : Int32) - (Int32.ofNat kb))))), .unset] []))
      refine Good.back (fun _ k => XS.goto X23.here hx rfl (pc0 := 156) (pc' := 268) rfl (hb hby at_156) (by decide) (by decide) k) ?_
      show Good p e below _ (T23.setTop (mkF m 268 #[.val (.int p0), .val (.int p1), .val (.int p2), .val (.int p3), .val (.int (2 : Int32)), .val (.int (Int32.ofNat ka)), .val (.int (Int32.ofNat kb)), .val (.int (Int32.ofNat kc)), .val (.double (own_R 1 ka)), .second, .val (.double (own_R 1 kb)), .second, .val (.double (own_R 1 kc)), .second, .val (.ref b17), .val (.int (1 : Int32)), .val (.int ((256 : Int32) - (((16 : Int32) - (Int32.ofNat ka)) * ((16 : Int32) - (Int32.ofNat kb))))), .unset] []))
      refine Good.back (fun _ k => XS.aload X23.here hx rfl (hb hby at_268) rfl rfl k) ?_
      show Good p e below _ (T23.setTop (mkF m 270 #[.val (.int p0), .val (.int p1), .val (.int p2), .val (.int p3), .val (.int (2 : Int32)), .val (.int (Int32.ofNat ka)), .val (.int (Int32.ofNat kb)), .val (.int (Int32.ofNat kc)), .val (.double (own_R 1 ka)), .second, .val (.double (own_R 1 kb)), .second, .val (.double (own_R 1 kc)), .second, .val (.ref b17), .val (.int (1 : Int32)), .val (.int ((256 : Int32) - (((16 : Int32) - (Int32.ofNat ka)) * ((16 : Int32) - (Int32.ofNat kb))))), .unset] [(.ref b17)]))
      obtain ⟨_, _, ⟨T27, L27, k27, n27⟩, -, X27, ⟨Lc27, hQ27, l27, y27, z27⟩, st27⟩ := Jvm.LawKit.callS X23 hx (y := (⟨"com/example/fradno/fradno/core/Consensus", "leastCount", "([D)I"⟩ : MethodName)) hown (mvT hZ (hw _ (List.mem_of_getElem? (i := 3) rfl))) (mvT hZ (hw _ (List.mem_of_getElem? (i := 4) rfl))) (mvT hZ (hw _ (List.mem_of_getElem? (i := 5) rfl))) (mvT hZ (hw _ (List.mem_of_getElem? (i := 6) rfl))) (by decide) (backOf (W := 0) (rm1_2 l Z a0 hw [] b17 k17 ka kb h23 n0 Z25 f_24 (Nat.le_of_lt_succ hka) (Nat.le_of_lt_succ hkb)) hZ (hw _ (List.mem_of_getElem? (i := 6) rfl)) (hw _ (List.mem_of_getElem? (i := 5) rfl)) (by decide) (by decide)) (g := (mkF m 270 #[.val (.int p0), .val (.int p1), .val (.int p2), .val (.int p3), .val (.int (2 : Int32)), .val (.int (Int32.ofNat ka)), .val (.int (Int32.ofNat kb)), .val (.int (Int32.ofNat kc)), .val (.double (own_R 1 ka)), .second, .val (.double (own_R 1 kb)), .second, .val (.double (own_R 1 kc)), .second, .val (.ref b17), .val (.int (1 : Int32)), .val (.int ((256 : Int32) - (((16 : Int32) - (Int32.ofNat ka)) * ((16 : Int32) - (Int32.ofNat kb))))), .unset] [(.ref b17)])) rfl (by rw [hml]; rfl) (argsL := [(.ref b17)]) (rest := []) (lenOf own_pd92 rfl) rfl (by show 2 * 0 + _ ≤ _; exact Nat.le_of_eq rfl) (hb hby at_270) (fun _ _ => ⟨rfl, e23, (by decide : 1 + 3 ≤ _), (by decide : 2 + 6 ≤ _)⟩)
      dsimp only [Pt.U, Pt.locs, Pt.cells, Pt.slots] at X27 l27 y27 z27 st27 hQ27
      subst l27 y27 z27
      obtain ⟨rfl, N27q, Kq27⟩ := hQ27
      have N27 := Fr.app N23 N27q
      have Z28 : n0 ≤ T27.heap.size := Nat.le_trans Z25 Kq27.1
      refine Good.back st27 ?_
      show Good p e below _ (T27.setTop (mkF m 273 #[.val (.int p0), .val (.int p1), .val (.int p2), .val (.int p3), .val (.int (2 : Int32)), .val (.int (Int32.ofNat ka)), .val (.int (Int32.ofNat kb)), .val (.int (Int32.ofNat kc)), .val (.double (own_R 1 ka)), .second, .val (.double (own_R 1 kb)), .second, .val (.double (own_R 1 kc)), .second, .val (.ref b17), .val (.int (1 : Int32)), .val (.int ((256 : Int32) - (((16 : Int32) - (Int32.ofNat ka)) * ((16 : Int32) - (Int32.ofNat kb))))), .unset] [(.int (if 20 * ((ka * kb) + (((16 - ka) * kb) + (ka * (16 - kb)))) < 16 ^ 2 then (1 : Int32) else (2 : Int32)))]))
      rw [show ((if 20 * ((ka * kb) + (((16 - ka) * kb) + (ka * (16 - kb)))) < 16 ^ 2 then (1 : Int32) else (2 : Int32)) : Int32) = (1 : Int32) from by rw [if_pos ((own_e146 ⟨ka, hka⟩ ⟨kb, hkb⟩).mp hc146_26)]]
      show Good p e below _ (T27.setTop (mkF m 273 #[.val (.int p0), .val (.int p1), .val (.int p2), .val (.int p3), .val (.int (2 : Int32)), .val (.int (Int32.ofNat ka)), .val (.int (Int32.ofNat kb)), .val (.int (Int32.ofNat kc)), .val (.double (own_R 1 ka)), .second, .val (.double (own_R 1 kb)), .second, .val (.double (own_R 1 kc)), .second, .val (.ref b17), .val (.int (1 : Int32)), .val (.int ((256 : Int32) - (((16 : Int32) - (Int32.ofNat ka)) * ((16 : Int32) - (Int32.ofNat kb))))), .unset] [(.int (1 : Int32))]))
      refine Good.back (fun _ k => XS.iload X27.here hx rfl (hb hby at_273) rfl k) ?_
      show Good p e below _ (T27.setTop (mkF m 275 #[.val (.int p0), .val (.int p1), .val (.int p2), .val (.int p3), .val (.int (2 : Int32)), .val (.int (Int32.ofNat ka)), .val (.int (Int32.ofNat kb)), .val (.int (Int32.ofNat kc)), .val (.double (own_R 1 ka)), .second, .val (.double (own_R 1 kb)), .second, .val (.double (own_R 1 kc)), .second, .val (.ref b17), .val (.int (1 : Int32)), .val (.int ((256 : Int32) - (((16 : Int32) - (Int32.ofNat ka)) * ((16 : Int32) - (Int32.ofNat kb))))), .unset] [(.int (1 : Int32)), (.int (1 : Int32))]))
      refine Good.back (fun _ k => XS.icmpNo X27.here hx rfl (hb hby at_275) rfl (teq (by decide : ((1 : Int32) = (1 : Int32)))).2 k) ?_
      show Good p e below _ (T27.setTop (mkF m 278 #[.val (.int p0), .val (.int p1), .val (.int p2), .val (.int p3), .val (.int (2 : Int32)), .val (.int (Int32.ofNat ka)), .val (.int (Int32.ofNat kb)), .val (.int (Int32.ofNat kc)), .val (.double (own_R 1 ka)), .second, .val (.double (own_R 1 kb)), .second, .val (.double (own_R 1 kc)), .second, .val (.ref b17), .val (.int (1 : Int32)), .val (.int ((256 : Int32) - (((16 : Int32) - (Int32.ofNat ka)) * ((16 : Int32) - (Int32.ofNat kb))))), .unset] []))
      refine Good.back (fun _ k => XS.iconst X27.here hx rfl (hb hby at_278) k) ?_
      show Good p e below _ (T27.setTop (mkF m 279 #[.val (.int p0), .val (.int p1), .val (.int p2), .val (.int p3), .val (.int (2 : Int32)), .val (.int (Int32.ofNat ka)), .val (.int (Int32.ofNat kb)), .val (.int (Int32.ofNat kc)), .val (.double (own_R 1 ka)), .second, .val (.double (own_R 1 kb)), .second, .val (.double (own_R 1 kc)), .second, .val (.ref b17), .val (.int (1 : Int32)), .val (.int ((256 : Int32) - (((16 : Int32) - (Int32.ofNat ka)) * ((16 : Int32) - (Int32.ofNat kb))))), .unset] [(.int (1 : Int32))]))
      refine Good.back (fun _ k => XS.goto X27.here hx rfl (pc0 := 279) (pc' := 283) rfl (hb hby at_279) (by decide) (by decide) k) ?_
      show Good p e below _ (T27.setTop (mkF m 283 #[.val (.int p0), .val (.int p1), .val (.int p2), .val (.int p3), .val (.int (2 : Int32)), .val (.int (Int32.ofNat ka)), .val (.int (Int32.ofNat kb)), .val (.int (Int32.ofNat kc)), .val (.double (own_R 1 ka)), .second, .val (.double (own_R 1 kb)), .second, .val (.double (own_R 1 kc)), .second, .val (.ref b17), .val (.int (1 : Int32)), .val (.int ((256 : Int32) - (((16 : Int32) - (Int32.ofNat ka)) * ((16 : Int32) - (Int32.ofNat kb))))), .unset] [(.int (1 : Int32))]))
      obtain ⟨fs29, hr29, hrun29, hended29, hW29, hsame29⟩ := X27.leave (v := some (.int (1 : Int32))) (fun h => by rw [Bd.returns] at h; cases h)
      refine Good.done (retN X27 hx (t := .boolean) Bd.returns (by simp) (hb hby at_283) hr29) hrun29 hended29 ⟨_, _, rfl, ?_, ⟨_, rfl⟩, hW29, hsame29.mono (by decide) (by decide)⟩
      show Q0 Z p0 p1 p2 p3 h0 n0 _ T27.heap _
      exact ⟨rfl, N27⟩
    · refine Good.back (fun _ k => XS.icmpYes X23.here hx rfl (pc0 := 146) (pc' := 153) rfl (hb hby at_146) rfl (flt hc146_26).2.1 (by decide) (by decide) k) ?_
      show Good p e below _ (T23.setTop (mkF m 153 #[.val (.int p0), .val (.int p1), .val (.int p2), .val (.int p3), .val (.int (2 : Int32)), .val (.int (Int32.ofNat ka)), .val (.int (Int32.ofNat kb)), .val (.int (Int32.ofNat kc)), .val (.double (own_R 1 ka)), .second, .val (.double (own_R 1 kb)), .second, .val (.double (own_R 1 kc)), .second, .val (.ref b17), .unset, .val (.int ((256 : Int32) - (((16 : Int32) - (Int32.ofNat ka)) * ((16 : Int32) - (Int32.ofNat kb))))), .unset] []))
      refine Good.back (fun _ k => XS.iconst X23.here hx rfl (hb hby at_153) k) ?_
      show Good p e below _ (T23.setTop (mkF m 154 #[.val (.int p0), .val (.int p1), .val (.int p2), .val (.int p3), .val (.int (2 : Int32)), .val (.int (Int32.ofNat ka)), .val (.int (Int32.ofNat kb)), .val (.int (Int32.ofNat kc)), .val (.double (own_R 1 ka)), .second, .val (.double (own_R 1 kb)), .second, .val (.double (own_R 1 kc)), .second, .val (.ref b17), .unset, .val (.int ((256 : Int32) - (((16 : Int32) - (Int32.ofNat ka)) * ((16 : Int32) - (Int32.ofNat kb))))), .unset] [(.int (2 : Int32))]))
      refine Good.back (fun _ k => XS.istore X23.here hx rfl (hb hby at_154) rfl (l' := #[.val (.int p0), .val (.int p1), .val (.int p2), .val (.int p3), .val (.int (2 : Int32)), .val (.int (Int32.ofNat ka)), .val (.int (Int32.ofNat kb)), .val (.int (Int32.ofNat kc)), .val (.double (own_R 1 ka)), .second, .val (.double (own_R 1 kb)), .second, .val (.double (own_R 1 kc)), .second, .val (.ref b17), .val (.int (2 : Int32)), .val (.int ((256 : Int32) - (((16 : Int32) - (Int32.ofNat ka)) * ((16 : Int32) - (Int32.ofNat kb))))), .unset]) rfl k) ?_
      show Good p e below _ (T23.setTop (mkF m 156 #[.val (.int p0), .val (.int p1), .val (.int p2), .val (.int p3), .val (.int (2 : Int32)), .val (.int (Int32.ofNat ka)), .val (.int (Int32.ofNat kb)), .val (.int (Int32.ofNat kc)), .val (.double (own_R 1 ka)), .second, .val (.double (own_R 1 kb)), .second, .val (.double (own_R 1 kc)), .second, .val (.ref b17), .val (.int (2 : Int32)), .val (.int ((256 : Int32) - (((16 : Int32) - (Int32.ofNat ka)) * ((16 : Int32) - (Int32.ofNat kb))))), .unset] []))
      refine Good.back (fun _ k => XS.goto X23.here hx rfl (pc0 := 156) (pc' := 268) rfl (hb hby at_156) (by decide) (by decide) k) ?_
      show Good p e below _ (T23.setTop (mkF m 268 #[.val (.int p0), .val (.int p1), .val (.int p2), .val (.int p3), .val (.int (2 : Int32)), .val (.int (Int32.ofNat ka)), .val (.int (Int32.ofNat kb)), .val (.int (Int32.ofNat kc)), .val (.double (own_R 1 ka)), .second, .val (.double (own_R 1 kb)), .second, .val (.double (own_R 1 kc)), .second, .val (.ref b17), .val (.int (2 : Int32)), .val (.int ((256 : Int32) - (((16 : Int32) - (Int32.ofNat ka)) * ((16 : Int32) - (Int32.ofNat kb))))), .unset] []))
      refine Good.back (fun _ k => XS.aload X23.here hx rfl (hb hby at_268) rfl rfl k) ?_
      show Good p e below _ (T23.setTop (mkF m 270 #[.val (.int p0), .val (.int p1), .val (.int p2), .val (.int p3), .val (.int (2 : Int32)), .val (.int (Int32.ofNat ka)), .val (.int (Int32.ofNat kb)), .val (.int (Int32.ofNat kc)), .val (.double (own_R 1 ka)), .second, .val (.double (own_R 1 kb)), .second, .val (.double (own_R 1 kc)), .second, .val (.ref b17), .val (.int (2 : Int32)), .val (.int ((256 : Int32) - (((16 : Int32) - (Int32.ofNat ka)) * ((16 : Int32) - (Int32.ofNat kb))))), .unset] [(.ref b17)]))
      obtain ⟨_, _, ⟨T30, L30, k30, n30⟩, -, X30, ⟨Lc30, hQ30, l30, y30, z30⟩, st30⟩ := Jvm.LawKit.callS X23 hx (y := (⟨"com/example/fradno/fradno/core/Consensus", "leastCount", "([D)I"⟩ : MethodName)) hown (mvT hZ (hw _ (List.mem_of_getElem? (i := 3) rfl))) (mvT hZ (hw _ (List.mem_of_getElem? (i := 4) rfl))) (mvT hZ (hw _ (List.mem_of_getElem? (i := 5) rfl))) (mvT hZ (hw _ (List.mem_of_getElem? (i := 6) rfl))) (by decide) (backOf (W := 0) (rm1_2 l Z a0 hw [] b17 k17 ka kb h23 n0 Z25 f_24 (Nat.le_of_lt_succ hka) (Nat.le_of_lt_succ hkb)) hZ (hw _ (List.mem_of_getElem? (i := 6) rfl)) (hw _ (List.mem_of_getElem? (i := 5) rfl)) (by decide) (by decide)) (g := (mkF m 270 #[.val (.int p0), .val (.int p1), .val (.int p2), .val (.int p3), .val (.int (2 : Int32)), .val (.int (Int32.ofNat ka)), .val (.int (Int32.ofNat kb)), .val (.int (Int32.ofNat kc)), .val (.double (own_R 1 ka)), .second, .val (.double (own_R 1 kb)), .second, .val (.double (own_R 1 kc)), .second, .val (.ref b17), .val (.int (2 : Int32)), .val (.int ((256 : Int32) - (((16 : Int32) - (Int32.ofNat ka)) * ((16 : Int32) - (Int32.ofNat kb))))), .unset] [(.ref b17)])) rfl (by rw [hml]; rfl) (argsL := [(.ref b17)]) (rest := []) (lenOf own_pd92 rfl) rfl (by show 2 * 0 + _ ≤ _; exact Nat.le_of_eq rfl) (hb hby at_270) (fun _ _ => ⟨rfl, e23, (by decide : 1 + 3 ≤ _), (by decide : 2 + 6 ≤ _)⟩)
      dsimp only [Pt.U, Pt.locs, Pt.cells, Pt.slots] at X30 l30 y30 z30 st30 hQ30
      subst l30 y30 z30
      obtain ⟨rfl, N30q, Kq30⟩ := hQ30
      have N30 := Fr.app N23 N30q
      have Z31 : n0 ≤ T30.heap.size := Nat.le_trans Z25 Kq30.1
      refine Good.back st30 ?_
      show Good p e below _ (T30.setTop (mkF m 273 #[.val (.int p0), .val (.int p1), .val (.int p2), .val (.int p3), .val (.int (2 : Int32)), .val (.int (Int32.ofNat ka)), .val (.int (Int32.ofNat kb)), .val (.int (Int32.ofNat kc)), .val (.double (own_R 1 ka)), .second, .val (.double (own_R 1 kb)), .second, .val (.double (own_R 1 kc)), .second, .val (.ref b17), .val (.int (2 : Int32)), .val (.int ((256 : Int32) - (((16 : Int32) - (Int32.ofNat ka)) * ((16 : Int32) - (Int32.ofNat kb))))), .unset] [(.int (if 20 * ((ka * kb) + (((16 - ka) * kb) + (ka * (16 - kb)))) < 16 ^ 2 then (1 : Int32) else (2 : Int32)))]))
      rw [show ((if 20 * ((ka * kb) + (((16 - ka) * kb) + (ka * (16 - kb)))) < 16 ^ 2 then (1 : Int32) else (2 : Int32)) : Int32) = (2 : Int32) from by rw [if_neg (fun q => hc146_26 ((own_e146 ⟨ka, hka⟩ ⟨kb, hkb⟩).mpr q))]]
      show Good p e below _ (T30.setTop (mkF m 273 #[.val (.int p0), .val (.int p1), .val (.int p2), .val (.int p3), .val (.int (2 : Int32)), .val (.int (Int32.ofNat ka)), .val (.int (Int32.ofNat kb)), .val (.int (Int32.ofNat kc)), .val (.double (own_R 1 ka)), .second, .val (.double (own_R 1 kb)), .second, .val (.double (own_R 1 kc)), .second, .val (.ref b17), .val (.int (2 : Int32)), .val (.int ((256 : Int32) - (((16 : Int32) - (Int32.ofNat ka)) * ((16 : Int32) - (Int32.ofNat kb))))), .unset] [(.int (2 : Int32))]))
      refine Good.back (fun _ k => XS.iload X30.here hx rfl (hb hby at_273) rfl k) ?_
      show Good p e below _ (T30.setTop (mkF m 275 #[.val (.int p0), .val (.int p1), .val (.int p2), .val (.int p3), .val (.int (2 : Int32)), .val (.int (Int32.ofNat ka)), .val (.int (Int32.ofNat kb)), .val (.int (Int32.ofNat kc)), .val (.double (own_R 1 ka)), .second, .val (.double (own_R 1 kb)), .second, .val (.double (own_R 1 kc)), .second, .val (.ref b17), .val (.int (2 : Int32)), .val (.int ((256 : Int32) - (((16 : Int32) - (Int32.ofNat ka)) * ((16 : Int32) - (Int32.ofNat kb))))), .unset] [(.int (2 : Int32)), (.int (2 : Int32))]))
      refine Good.back (fun _ k => XS.icmpNo X30.here hx rfl (hb hby at_275) rfl (teq (by decide : ((2 : Int32) = (2 : Int32)))).2 k) ?_
      show Good p e below _ (T30.setTop (mkF m 278 #[.val (.int p0), .val (.int p1), .val (.int p2), .val (.int p3), .val (.int (2 : Int32)), .val (.int (Int32.ofNat ka)), .val (.int (Int32.ofNat kb)), .val (.int (Int32.ofNat kc)), .val (.double (own_R 1 ka)), .second, .val (.double (own_R 1 kb)), .second, .val (.double (own_R 1 kc)), .second, .val (.ref b17), .val (.int (2 : Int32)), .val (.int ((256 : Int32) - (((16 : Int32) - (Int32.ofNat ka)) * ((16 : Int32) - (Int32.ofNat kb))))), .unset] []))
      refine Good.back (fun _ k => XS.iconst X30.here hx rfl (hb hby at_278) k) ?_
      show Good p e below _ (T30.setTop (mkF m 279 #[.val (.int p0), .val (.int p1), .val (.int p2), .val (.int p3), .val (.int (2 : Int32)), .val (.int (Int32.ofNat ka)), .val (.int (Int32.ofNat kb)), .val (.int (Int32.ofNat kc)), .val (.double (own_R 1 ka)), .second, .val (.double (own_R 1 kb)), .second, .val (.double (own_R 1 kc)), .second, .val (.ref b17), .val (.int (2 : Int32)), .val (.int ((256 : Int32) - (((16 : Int32) - (Int32.ofNat ka)) * ((16 : Int32) - (Int32.ofNat kb))))), .unset] [(.int (1 : Int32))]))
      refine Good.back (fun _ k => XS.goto X30.here hx rfl (pc0 := 279) (pc' := 283) rfl (hb hby at_279) (by decide) (by decide) k) ?_
      show Good p e below _ (T30.setTop (mkF m 283 #[.val (.int p0), .val (.int p1), .val (.int p2), .val (.int p3), .val (.int (2 : Int32)), .val (.int (Int32.ofNat ka)), .val (.int (Int32.ofNat kb)), .val (.int (Int32.ofNat kc)), .val (.double (own_R 1 ka)), .second, .val (.double (own_R 1 kb)), .second, .val (.double (own_R 1 kc)), .second, .val (.ref b17), .val (.int (2 : Int32)), .val (.int ((256 : Int32) - (((16 : Int32) - (Int32.ofNat ka)) * ((16 : Int32) - (Int32.ofNat kb))))), .unset] [(.int (1 : Int32))]))
      obtain ⟨fs32, hr32, hrun32, hended32, hW32, hsame32⟩ := X30.leave (v := some (.int (1 : Int32))) (fun h => by rw [Bd.returns] at h; cases h)
      refine Good.done (retN X30 hx (t := .boolean) Bd.returns (by simp) (hb hby at_283) hr32) hrun32 hended32 ⟨_, _, rfl, ?_, ⟨_, rfl⟩, hW32, hsame32.mono (by decide) (by decide)⟩
      show Q0 Z p0 p1 p2 p3 h0 n0 _ T30.heap _
      exact ⟨rfl, N30⟩
  · have he1' : ((p0 &&& (2147483647 : Int32)) % (4 : Int32)) = (3 : Int32) := he1
    rw [he1']
    show Good p e below _ (s₁.setTop (mkF m 62 #[.val (.int p0), .val (.int p1), .val (.int p2), .val (.int p3), .val (.int (3 : Int32)), .val (.int (Int32.ofNat ka)), .val (.int (Int32.ofNat kb)), .val (.int (Int32.ofNat kc)), .val (.double (own_R 1 ka)), .second, .val (.double (own_R 1 kb)), .second, .val (.double (own_R 1 kc)), .second, .unset, .unset, .unset, .unset] []))
    refine Good.back (fun _ k => XS.iload X0.here hx rfl (hb hby at_62) rfl k) ?_
    show Good p e below _ (s₁.setTop (mkF m 64 #[.val (.int p0), .val (.int p1), .val (.int p2), .val (.int p3), .val (.int (3 : Int32)), .val (.int (Int32.ofNat ka)), .val (.int (Int32.ofNat kb)), .val (.int (Int32.ofNat kc)), .val (.double (own_R 1 ka)), .second, .val (.double (own_R 1 kb)), .second, .val (.double (own_R 1 kc)), .second, .unset, .unset, .unset, .unset] [(.int (3 : Int32))]))
    refine Good.back (fun _ k => XS.ifYes X0.here hx rfl (pc0 := 64) (pc' := 78) rfl (hb hby at_64) rfl ((if0 _ _).trans (feq (by decide : ¬ ((3 : Int32) = (0 : Int32)))).2) (by decide) (by decide) k) ?_
    show Good p e below _ (s₁.setTop (mkF m 78 #[.val (.int p0), .val (.int p1), .val (.int p2), .val (.int p3), .val (.int (3 : Int32)), .val (.int (Int32.ofNat ka)), .val (.int (Int32.ofNat kb)), .val (.int (Int32.ofNat kc)), .val (.double (own_R 1 ka)), .second, .val (.double (own_R 1 kb)), .second, .val (.double (own_R 1 kc)), .second, .unset, .unset, .unset, .unset] []))
    refine Good.back (fun _ k => XS.iload X0.here hx rfl (hb hby at_78) rfl k) ?_
    show Good p e below _ (s₁.setTop (mkF m 80 #[.val (.int p0), .val (.int p1), .val (.int p2), .val (.int p3), .val (.int (3 : Int32)), .val (.int (Int32.ofNat ka)), .val (.int (Int32.ofNat kb)), .val (.int (Int32.ofNat kc)), .val (.double (own_R 1 ka)), .second, .val (.double (own_R 1 kb)), .second, .val (.double (own_R 1 kc)), .second, .unset, .unset, .unset, .unset] [(.int (3 : Int32))]))
    refine Good.back (fun _ k => XS.iconst X0.here hx rfl (hb hby at_80) k) ?_
    show Good p e below _ (s₁.setTop (mkF m 81 #[.val (.int p0), .val (.int p1), .val (.int p2), .val (.int p3), .val (.int (3 : Int32)), .val (.int (Int32.ofNat ka)), .val (.int (Int32.ofNat kb)), .val (.int (Int32.ofNat kc)), .val (.double (own_R 1 ka)), .second, .val (.double (own_R 1 kb)), .second, .val (.double (own_R 1 kc)), .second, .unset, .unset, .unset, .unset] [(.int (1 : Int32)), (.int (3 : Int32))]))
    refine Good.back (fun _ k => XS.icmpYes X0.here hx rfl (pc0 := 81) (pc' := 100) rfl (hb hby at_81) rfl (feq (by decide : ¬ ((3 : Int32) = (1 : Int32)))).2 (by decide) (by decide) k) ?_
    show Good p e below _ (s₁.setTop (mkF m 100 #[.val (.int p0), .val (.int p1), .val (.int p2), .val (.int p3), .val (.int (3 : Int32)), .val (.int (Int32.ofNat ka)), .val (.int (Int32.ofNat kb)), .val (.int (Int32.ofNat kc)), .val (.double (own_R 1 ka)), .second, .val (.double (own_R 1 kb)), .second, .val (.double (own_R 1 kc)), .second, .unset, .unset, .unset, .unset] []))
    refine Good.back (fun _ k => XS.iload X0.here hx rfl (hb hby at_100) rfl k) ?_
    show Good p e below _ (s₁.setTop (mkF m 102 #[.val (.int p0), .val (.int p1), .val (.int p2), .val (.int p3), .val (.int (3 : Int32)), .val (.int (Int32.ofNat ka)), .val (.int (Int32.ofNat kb)), .val (.int (Int32.ofNat kc)), .val (.double (own_R 1 ka)), .second, .val (.double (own_R 1 kb)), .second, .val (.double (own_R 1 kc)), .second, .unset, .unset, .unset, .unset] [(.int (3 : Int32))]))
    refine Good.back (fun _ k => XS.iconst X0.here hx rfl (hb hby at_102) k) ?_
    show Good p e below _ (s₁.setTop (mkF m 103 #[.val (.int p0), .val (.int p1), .val (.int p2), .val (.int p3), .val (.int (3 : Int32)), .val (.int (Int32.ofNat ka)), .val (.int (Int32.ofNat kb)), .val (.int (Int32.ofNat kc)), .val (.double (own_R 1 ka)), .second, .val (.double (own_R 1 kb)), .second, .val (.double (own_R 1 kc)), .second, .unset, .unset, .unset, .unset] [(.int (2 : Int32)), (.int (3 : Int32))]))
    refine Good.back (fun _ k => XS.icmpYes X0.here hx rfl (pc0 := 103) (pc' := 159) rfl (hb hby at_103) rfl (feq (by decide : ¬ ((3 : Int32) = (2 : Int32)))).2 (by decide) (by decide) k) ?_
    show Good p e below _ (s₁.setTop (mkF m 159 #[.val (.int p0), .val (.int p1), .val (.int p2), .val (.int p3), .val (.int (3 : Int32)), .val (.int (Int32.ofNat ka)), .val (.int (Int32.ofNat kb)), .val (.int (Int32.ofNat kc)), .val (.double (own_R 1 ka)), .second, .val (.double (own_R 1 kb)), .second, .val (.double (own_R 1 kc)), .second, .unset, .unset, .unset, .unset] []))
    refine Good.back (fun _ k => XS.iconst X0.here hx rfl (hb hby at_159) k) ?_
    show Good p e below _ (s₁.setTop (mkF m 160 #[.val (.int p0), .val (.int p1), .val (.int p2), .val (.int p3), .val (.int (3 : Int32)), .val (.int (Int32.ofNat ka)), .val (.int (Int32.ofNat kb)), .val (.int (Int32.ofNat kc)), .val (.double (own_R 1 ka)), .second, .val (.double (own_R 1 kb)), .second, .val (.double (own_R 1 kc)), .second, .unset, .unset, .unset, .unset] [(.int (3 : Int32))]))
    obtain ⟨T33, h33, k33, X33, e33, E33, A33, st33⟩ := newP X0 hx hZ (hw _ (List.mem_of_getElem? (i := 2) rfl)) e0 (g := (mkF m 160 #[.val (.int p0), .val (.int p1), .val (.int p2), .val (.int p3), .val (.int (3 : Int32)), .val (.int (Int32.ofNat ka)), .val (.int (Int32.ofNat kb)), .val (.int (Int32.ofNat kc)), .val (.double (own_R 1 ka)), .second, .val (.double (own_R 1 kb)), .second, .val (.double (own_R 1 kc)), .second, .unset, .unset, .unset, .unset] [(.int (3 : Int32))])) rfl (hb hby at_160) rfl (by decide) (cap := 3) (by decide) (by decide) (by decide) (by decide)
    obtain ⟨b33, g33⟩ : ∃ z, z = h0.size := ⟨_, rfl⟩
    rw [← g33] at A33 st33
    refine Good.back st33 ?_
    have g_b33 : n0 ≤ b33 := Nat.le_trans Z0 (Nat.le_of_eq g33.symm)
    have Z34 : n0 ≤ h33.size := Nat.le_trans Z0 E33.1
    have f_35 : Arv Z h33 b33 k33 .double (3 : Int32) [(.double (FP.l2d 0)), (.double (FP.l2d 0)), (.double (FP.l2d 0))] (.double (FP.l2d 0)) := (Arv.newD A33 (by decide)).pad (pad_rep [] (.double (FP.l2d 0)) 3)
    show Good p e below _ (T33.setTop (mkF m 162 #[.val (.int p0), .val (.int p1), .val (.int p2), .val (.int p3), .val (.int (3 : Int32)), .val (.int (Int32.ofNat ka)), .val (.int (Int32.ofNat kb)), .val (.int (Int32.ofNat kc)), .val (.double (own_R 1 ka)), .second, .val (.double (own_R 1 kb)), .second, .val (.double (own_R 1 kc)), .second, .unset, .unset, .unset, .unset] [(.ref b33)]))
    refine Good.back (fun _ k => XS.dup X33.here hx rfl (hb hby at_162) rfl rfl k) ?_
    show Good p e below _ (T33.setTop (mkF m 163 #[.val (.int p0), .val (.int p1), .val (.int p2), .val (.int p3), .val (.int (3 : Int32)), .val (.int (Int32.ofNat ka)), .val (.int (Int32.ofNat kb)), .val (.int (Int32.ofNat kc)), .val (.double (own_R 1 ka)), .second, .val (.double (own_R 1 kb)), .second, .val (.double (own_R 1 kc)), .second, .unset, .unset, .unset, .unset] [(.ref b33), (.ref b33)]))
    refine Good.back (fun _ k => XS.iconst X33.here hx rfl (hb hby at_163) k) ?_
    show Good p e below _ (T33.setTop (mkF m 164 #[.val (.int p0), .val (.int p1), .val (.int p2), .val (.int p3), .val (.int (3 : Int32)), .val (.int (Int32.ofNat ka)), .val (.int (Int32.ofNat kb)), .val (.int (Int32.ofNat kc)), .val (.double (own_R 1 ka)), .second, .val (.double (own_R 1 kb)), .second, .val (.double (own_R 1 kc)), .second, .unset, .unset, .unset, .unset] [(.int (0 : Int32)), (.ref b33), (.ref b33)]))
    refine Good.back (fun _ k => XS.dload X33.here hx rfl (hb hby at_164) rfl k) ?_
    show Good p e below _ (T33.setTop (mkF m 166 #[.val (.int p0), .val (.int p1), .val (.int p2), .val (.int p3), .val (.int (3 : Int32)), .val (.int (Int32.ofNat ka)), .val (.int (Int32.ofNat kb)), .val (.int (Int32.ofNat kc)), .val (.double (own_R 1 ka)), .second, .val (.double (own_R 1 kb)), .second, .val (.double (own_R 1 kc)), .second, .unset, .unset, .unset, .unset] [(.double (own_R 1 ka)), (.int (0 : Int32)), (.ref b33), (.ref b33)]))
    have fc36 := f_35
    obtain ⟨cl36, Ar36, qk36, S36, N36', H36, G36⟩ := fc36
    have hin36 : ¬ ((0 : Int32) < 0 ∨ cl36.slots.size ≤ ((0 : Int32)).toNatClampNeg) := inb_of S36 ⟨by decide, by decide⟩
    obtain ⟨T36, h36, X36, e36, W36, st36⟩ := stD X33 hx hZ e33 Ar36 (j := (0 : Int32)) hin36 (g := (mkF m 166 #[.val (.int p0), .val (.int p1), .val (.int p2), .val (.int p3), .val (.int (3 : Int32)), .val (.int (Int32.ofNat ka)), .val (.int (Int32.ofNat kb)), .val (.int (Int32.ofNat kc)), .val (.double (own_R 1 ka)), .second, .val (.double (own_R 1 kb)), .second, .val (.double (own_R 1 kc)), .second, .unset, .unset, .unset, .unset] [(.double (own_R 1 ka)), (.int (0 : Int32)), (.ref b33), (.ref b33)])) rfl rfl (hb hby at_166)
    refine Good.back st36 ?_
    have f_37 : Arv Z h36 b33 k33 .double (3 : Int32) [(.double (own_R 1 ka)), (.double (FP.l2d 0)), (.double (FP.l2d 0))] (.double (FP.l2d 0)) := Arv.set Ar36 qk36 S36 N36' H36 G36 rfl W36 0 rfl (Nat.le_of_ble_eq_true rfl)
    have N36 := Fr.snoc X36 N0 g_b33
    have Z38 : n0 ≤ h36.size := Nat.le_trans Z34 (Keep.of_wr W36).1
    show Good p e below _ (T36.setTop (mkF m 167 #[.val (.int p0), .val (.int p1), .val (.int p2), .val (.int p3), .val (.int (3 : Int32)), .val (.int (Int32.ofNat ka)), .val (.int (Int32.ofNat kb)), .val (.int (Int32.ofNat kc)), .val (.double (own_R 1 ka)), .second, .val (.double (own_R 1 kb)), .second, .val (.double (own_R 1 kc)), .second, .unset, .unset, .unset, .unset] [(.ref b33)]))
    refine Good.back (fun _ k => XS.dup X36.here hx rfl (hb hby at_167) rfl rfl k) ?_
    show Good p e below _ (T36.setTop (mkF m 168 #[.val (.int p0), .val (.int p1), .val (.int p2), .val (.int p3), .val (.int (3 : Int32)), .val (.int (Int32.ofNat ka)), .val (.int (Int32.ofNat kb)), .val (.int (Int32.ofNat kc)), .val (.double (own_R 1 ka)), .second, .val (.double (own_R 1 kb)), .second, .val (.double (own_R 1 kc)), .second, .unset, .unset, .unset, .unset] [(.ref b33), (.ref b33)]))
    refine Good.back (fun _ k => XS.iconst X36.here hx rfl (hb hby at_168) k) ?_
    show Good p e below _ (T36.setTop (mkF m 169 #[.val (.int p0), .val (.int p1), .val (.int p2), .val (.int p3), .val (.int (3 : Int32)), .val (.int (Int32.ofNat ka)), .val (.int (Int32.ofNat kb)), .val (.int (Int32.ofNat kc)), .val (.double (own_R 1 ka)), .second, .val (.double (own_R 1 kb)), .second, .val (.double (own_R 1 kc)), .second, .unset, .unset, .unset, .unset] [(.int (1 : Int32)), (.ref b33), (.ref b33)]))
    refine Good.back (fun _ k => XS.dload X36.here hx rfl (hb hby at_169) rfl k) ?_
    show Good p e below _ (T36.setTop (mkF m 171 #[.val (.int p0), .val (.int p1), .val (.int p2), .val (.int p3), .val (.int (3 : Int32)), .val (.int (Int32.ofNat ka)), .val (.int (Int32.ofNat kb)), .val (.int (Int32.ofNat kc)), .val (.double (own_R 1 ka)), .second, .val (.double (own_R 1 kb)), .second, .val (.double (own_R 1 kc)), .second, .unset, .unset, .unset, .unset] [(.double (own_R 1 kb)), (.int (1 : Int32)), (.ref b33), (.ref b33)]))
    have fc39 := f_37
    obtain ⟨cl39, Ar39, qk39, S39, N39', H39, G39⟩ := fc39
    have hin39 : ¬ ((1 : Int32) < 0 ∨ cl39.slots.size ≤ ((1 : Int32)).toNatClampNeg) := inb_of S39 ⟨by decide, by decide⟩
    obtain ⟨T39, h39, X39, e39, W39, st39⟩ := stD X36 hx hZ e36 Ar39 (j := (1 : Int32)) hin39 (g := (mkF m 171 #[.val (.int p0), .val (.int p1), .val (.int p2), .val (.int p3), .val (.int (3 : Int32)), .val (.int (Int32.ofNat ka)), .val (.int (Int32.ofNat kb)), .val (.int (Int32.ofNat kc)), .val (.double (own_R 1 ka)), .second, .val (.double (own_R 1 kb)), .second, .val (.double (own_R 1 kc)), .second, .unset, .unset, .unset, .unset] [(.double (own_R 1 kb)), (.int (1 : Int32)), (.ref b33), (.ref b33)])) rfl rfl (hb hby at_171)
    refine Good.back st39 ?_
    have f_40 : Arv Z h39 b33 k33 .double (3 : Int32) [(.double (own_R 1 ka)), (.double (own_R 1 kb)), (.double (FP.l2d 0))] (.double (FP.l2d 0)) := Arv.set Ar39 qk39 S39 N39' H39 G39 rfl W39 1 rfl (Nat.le_of_ble_eq_true rfl)
    have N39 := Fr.snoc X39 N36 g_b33
    have Z41 : n0 ≤ h39.size := Nat.le_trans Z38 (Keep.of_wr W39).1
    show Good p e below _ (T39.setTop (mkF m 172 #[.val (.int p0), .val (.int p1), .val (.int p2), .val (.int p3), .val (.int (3 : Int32)), .val (.int (Int32.ofNat ka)), .val (.int (Int32.ofNat kb)), .val (.int (Int32.ofNat kc)), .val (.double (own_R 1 ka)), .second, .val (.double (own_R 1 kb)), .second, .val (.double (own_R 1 kc)), .second, .unset, .unset, .unset, .unset] [(.ref b33)]))
    refine Good.back (fun _ k => XS.dup X39.here hx rfl (hb hby at_172) rfl rfl k) ?_
    show Good p e below _ (T39.setTop (mkF m 173 #[.val (.int p0), .val (.int p1), .val (.int p2), .val (.int p3), .val (.int (3 : Int32)), .val (.int (Int32.ofNat ka)), .val (.int (Int32.ofNat kb)), .val (.int (Int32.ofNat kc)), .val (.double (own_R 1 ka)), .second, .val (.double (own_R 1 kb)), .second, .val (.double (own_R 1 kc)), .second, .unset, .unset, .unset, .unset] [(.ref b33), (.ref b33)]))
    refine Good.back (fun _ k => XS.iconst X39.here hx rfl (hb hby at_173) k) ?_
    show Good p e below _ (T39.setTop (mkF m 174 #[.val (.int p0), .val (.int p1), .val (.int p2), .val (.int p3), .val (.int (3 : Int32)), .val (.int (Int32.ofNat ka)), .val (.int (Int32.ofNat kb)), .val (.int (Int32.ofNat kc)), .val (.double (own_R 1 ka)), .second, .val (.double (own_R 1 kb)), .second, .val (.double (own_R 1 kc)), .second, .unset, .unset, .unset, .unset] [(.int (2 : Int32)), (.ref b33), (.ref b33)]))
    refine Good.back (fun _ k => XS.dload X39.here hx rfl (hb hby at_174) rfl k) ?_
    show Good p e below _ (T39.setTop (mkF m 176 #[.val (.int p0), .val (.int p1), .val (.int p2), .val (.int p3), .val (.int (3 : Int32)), .val (.int (Int32.ofNat ka)), .val (.int (Int32.ofNat kb)), .val (.int (Int32.ofNat kc)), .val (.double (own_R 1 ka)), .second, .val (.double (own_R 1 kb)), .second, .val (.double (own_R 1 kc)), .second, .unset, .unset, .unset, .unset] [(.double (own_R 1 kc)), (.int (2 : Int32)), (.ref b33), (.ref b33)]))
    have fc42 := f_40
    obtain ⟨cl42, Ar42, qk42, S42, N42', H42, G42⟩ := fc42
    have hin42 : ¬ ((2 : Int32) < 0 ∨ cl42.slots.size ≤ ((2 : Int32)).toNatClampNeg) := inb_of S42 ⟨by decide, by decide⟩
    obtain ⟨T42, h42, X42, e42, W42, st42⟩ := stD X39 hx hZ e39 Ar42 (j := (2 : Int32)) hin42 (g := (mkF m 176 #[.val (.int p0), .val (.int p1), .val (.int p2), .val (.int p3), .val (.int (3 : Int32)), .val (.int (Int32.ofNat ka)), .val (.int (Int32.ofNat kb)), .val (.int (Int32.ofNat kc)), .val (.double (own_R 1 ka)), .second, .val (.double (own_R 1 kb)), .second, .val (.double (own_R 1 kc)), .second, .unset, .unset, .unset, .unset] [(.double (own_R 1 kc)), (.int (2 : Int32)), (.ref b33), (.ref b33)])) rfl rfl (hb hby at_176)
    refine Good.back st42 ?_
    have f_43 : Arv Z h42 b33 k33 .double (3 : Int32) [(.double (own_R 1 ka)), (.double (own_R 1 kb)), (.double (own_R 1 kc))] (.double (FP.l2d 0)) := Arv.set Ar42 qk42 S42 N42' H42 G42 rfl W42 2 rfl (Nat.le_of_ble_eq_true rfl)
    have N42 := Fr.snoc X42 N39 g_b33
    have Z44 : n0 ≤ h42.size := Nat.le_trans Z41 (Keep.of_wr W42).1
    show Good p e below _ (T42.setTop (mkF m 177 #[.val (.int p0), .val (.int p1), .val (.int p2), .val (.int p3), .val (.int (3 : Int32)), .val (.int (Int32.ofNat ka)), .val (.int (Int32.ofNat kb)), .val (.int (Int32.ofNat kc)), .val (.double (own_R 1 ka)), .second, .val (.double (own_R 1 kb)), .second, .val (.double (own_R 1 kc)), .second, .unset, .unset, .unset, .unset] [(.ref b33)]))
    refine Good.back (fun _ k => XS.astore X42.here hx rfl (hb hby at_177) rfl rfl (l' := #[.val (.int p0), .val (.int p1), .val (.int p2), .val (.int p3), .val (.int (3 : Int32)), .val (.int (Int32.ofNat ka)), .val (.int (Int32.ofNat kb)), .val (.int (Int32.ofNat kc)), .val (.double (own_R 1 ka)), .second, .val (.double (own_R 1 kb)), .second, .val (.double (own_R 1 kc)), .second, .val (.ref b33), .unset, .unset, .unset]) rfl k) ?_
    show Good p e below _ (T42.setTop (mkF m 179 #[.val (.int p0), .val (.int p1), .val (.int p2), .val (.int p3), .val (.int (3 : Int32)), .val (.int (Int32.ofNat ka)), .val (.int (Int32.ofNat kb)), .val (.int (Int32.ofNat kc)), .val (.double (own_R 1 ka)), .second, .val (.double (own_R 1 kb)), .second, .val (.double (own_R 1 kc)), .second, .val (.ref b33), .unset, .unset, .unset] []))
    refine Good.back (fun _ k => XS.sipush X42.here hx rfl (hb hby at_179) k) ?_
    show Good p e below _ (T42.setTop (mkF m 182 #[.val (.int p0), .val (.int p1), .val (.int p2), .val (.int p3), .val (.int (3 : Int32)), .val (.int (Int32.ofNat ka)), .val (.int (Int32.ofNat kb)), .val (.int (Int32.ofNat kc)), .val (.double (own_R 1 ka)), .second, .val (.double (own_R 1 kb)), .second, .val (.double (own_R 1 kc)), .second, .val (.ref b33), .unset, .unset, .unset] [(.int (4096 : Int32))]))
    refine Good.back (fun _ k => XS.bipush X42.here hx rfl (hb hby at_182) k) ?_
    show Good p e below _ (T42.setTop (mkF m 184 #[.val (.int p0), .val (.int p1), .val (.int p2), .val (.int p3), .val (.int (3 : Int32)), .val (.int (Int32.ofNat ka)), .val (.int (Int32.ofNat kb)), .val (.int (Int32.ofNat kc)), .val (.double (own_R 1 ka)), .second, .val (.double (own_R 1 kb)), .second, .val (.double (own_R 1 kc)), .second, .val (.ref b33), .unset, .unset, .unset] [(.int (16 : Int32)), (.int (4096 : Int32))]))
    refine Good.back (fun _ k => XS.iload X42.here hx rfl (hb hby at_184) rfl k) ?_
    show Good p e below _ (T42.setTop (mkF m 186 #[.val (.int p0), .val (.int p1), .val (.int p2), .val (.int p3), .val (.int (3 : Int32)), .val (.int (Int32.ofNat ka)), .val (.int (Int32.ofNat kb)), .val (.int (Int32.ofNat kc)), .val (.double (own_R 1 ka)), .second, .val (.double (own_R 1 kb)), .second, .val (.double (own_R 1 kc)), .second, .val (.ref b33), .unset, .unset, .unset] [(.int (Int32.ofNat ka)), (.int (16 : Int32)), (.int (4096 : Int32))]))
    refine Good.back (fun _ k => XS.isub X42.here hx rfl (hb hby at_186) rfl k) ?_
    show Good p e below _ (T42.setTop (mkF m 187 #[.val (.int p0), .val (.int p1), .val (.int p2), .val (.int p3), .val (.int (3 : Int32)), .val (.int (Int32.ofNat ka)), .val (.int (Int32.ofNat kb)), .val (.int (Int32.ofNat kc)), .val (.double (own_R 1 ka)), .second, .val (.double (own_R 1 kb)), .second, .val (.double (own_R 1 kc)), .second, .val (.ref b33), .unset, .unset, .unset] [(.int ((16 : Int32) - (Int32.ofNat ka))), (.int (4096 : Int32))]))
    refine Good.back (fun _ k => XS.bipush X42.here hx rfl (hb hby at_187) k) ?_
    show Good p e below _ (T42.setTop (mkF m 189 #[.val (.int p0), .val (.int p1), .val (.int p2), .val (.int p3), .val (.int (3 : Int32)), .val (.int (Int32.ofNat ka)), .val (.int (Int32.ofNat kb)), .val (.int (Int32.ofNat kc)), .val (.double (own_R 1 ka)), .second, .val (.double (own_R 1 kb)), .second, .val (.double (own_R 1 kc)), .second, .val (.ref b33), .unset, .unset, .unset] [(.int (16 : Int32)), (.int ((16 : Int32) - (Int32.ofNat ka))), (.int (4096 : Int32))]))
    refine Good.back (fun _ k => XS.iload X42.here hx rfl (hb hby at_189) rfl k) ?_
    show Good p e below _ (T42.setTop (mkF m 191 #[.val (.int p0), .val (.int p1), .val (.int p2), .val (.int p3), .val (.int (3 : Int32)), .val (.int (Int32.ofNat ka)), .val (.int (Int32.ofNat kb)), .val (.int (Int32.ofNat kc)), .val (.double (own_R 1 ka)), .second, .val (.double (own_R 1 kb)), .second, .val (.double (own_R 1 kc)), .second, .val (.ref b33), .unset, .unset, .unset] [(.int (Int32.ofNat kb)), (.int (16 : Int32)), (.int ((16 : Int32) - (Int32.ofNat ka))), (.int (4096 : Int32))]))
    refine Good.back (fun _ k => XS.isub X42.here hx rfl (hb hby at_191) rfl k) ?_
    show Good p e below _ (T42.setTop (mkF m 192 #[.val (.int p0), .val (.int p1), .val (.int p2), .val (.int p3), .val (.int (3 : Int32)), .val (.int (Int32.ofNat ka)), .val (.int (Int32.ofNat kb)), .val (.int (Int32.ofNat kc)), .val (.double (own_R 1 ka)), .second, .val (.double (own_R 1 kb)), .second, .val (.double (own_R 1 kc)), .second, .val (.ref b33), .unset, .unset, .unset] [(.int ((16 : Int32) - (Int32.ofNat kb))), (.int ((16 : Int32) - (Int32.ofNat ka))), (.int (4096 : Int32))]))
    refine Good.back (fun _ k => XS.imul X42.here hx rfl (hb hby at_192) rfl k) ?_
    show Good p e below _ (T42.setTop (mkF m 193 #[.val (.int p0), .val (.int p1), .val (.int p2), .val (.int p3), .val (.int (3 : Int32)), .val (.int (Int32.ofNat ka)), .val (.int (Int32.ofNat kb)), .val (.int (Int32.ofNat kc)), .val (.double (own_R 1 ka)), .second, .val (.double (own_R 1 kb)), .second, .val (.double (own_R 1 kc)), .second, .val (.ref b33), .unset, .unset, .unset] [(.int (((16 : Int32) - (Int32.ofNat ka)) * ((16 : Int32) - (Int32.ofNat kb)))), (.int (4096 : Int32))]))
    refine Good.back (fun _ k => XS.bipush X42.here hx rfl (hb hby at_193) k) ?_
    show Good p e below _ (T42.setTop (mkF m 195 #[.val (.int p0), .val (.int p1), .val (.int p2), .val (.int p3), .val (.int (3 : Int32)), .val (.int (Int32.ofNat ka)), .val (.int (Int32.ofNat kb)), .val (.int (Int32.ofNat kc)), .val (.double (own_R 1 ka)), .second, .val (.double (own_R 1 kb)), .second, .val (.double (own_R 1 kc)), .second, .val (.ref b33), .unset, .unset, .unset] [(.int (16 : Int32)), (.int (((16 : Int32) - (Int32.ofNat ka)) * ((16 : Int32) - (Int32.ofNat kb)))), (.int (4096 : Int32))]))
    refine Good.back (fun _ k => XS.iload X42.here hx rfl (hb hby at_195) rfl k) ?_
    show Good p e below _ (T42.setTop (mkF m 197 #[.val (.int p0), .val (.int p1), .val (.int p2), .val (.int p3), .val (.int (3 : Int32)), .val (.int (Int32.ofNat ka)), .val (.int (Int32.ofNat kb)), .val (.int (Int32.ofNat kc)), .val (.double (own_R 1 ka)), .second, .val (.double (own_R 1 kb)), .second, .val (.double (own_R 1 kc)), .second, .val (.ref b33), .unset, .unset, .unset] [(.int (Int32.ofNat kc)), (.int (16 : Int32)), (.int (((16 : Int32) - (Int32.ofNat ka)) * ((16 : Int32) - (Int32.ofNat kb)))), (.int (4096 : Int32))]))
    refine Good.back (fun _ k => XS.isub X42.here hx rfl (hb hby at_197) rfl k) ?_
    show Good p e below _ (T42.setTop (mkF m 198 #[.val (.int p0), .val (.int p1), .val (.int p2), .val (.int p3), .val (.int (3 : Int32)), .val (.int (Int32.ofNat ka)), .val (.int (Int32.ofNat kb)), .val (.int (Int32.ofNat kc)), .val (.double (own_R 1 ka)), .second, .val (.double (own_R 1 kb)), .second, .val (.double (own_R 1 kc)), .second, .val (.ref b33), .unset, .unset, .unset] [(.int ((16 : Int32) - (Int32.ofNat kc))), (.int (((16 : Int32) - (Int32.ofNat ka)) * ((16 : Int32) - (Int32.ofNat kb)))), (.int (4096 : Int32))]))
    refine Good.back (fun _ k => XS.imul X42.here hx rfl (hb hby at_198) rfl k) ?_
    show Good p e below _ (T42.setTop (mkF m 199 #[.val (.int p0), .val (.int p1), .val (.int p2), .val (.int p3), .val (.int (3 : Int32)), .val (.int (Int32.ofNat ka)), .val (.int (Int32.ofNat kb)), .val (.int (Int32.ofNat kc)), .val (.double (own_R 1 ka)), .second, .val (.double (own_R 1 kb)), .second, .val (.double (own_R 1 kc)), .second, .val (.ref b33), .unset, .unset, .unset] [(.int ((((16 : Int32) - (Int32.ofNat ka)) * ((16 : Int32) - (Int32.ofNat kb))) * ((16 : Int32) - (Int32.ofNat kc)))), (.int (4096 : Int32))]))
    refine Good.back (fun _ k => XS.isub X42.here hx rfl (hb hby at_199) rfl k) ?_
    show Good p e below _ (T42.setTop (mkF m 200 #[.val (.int p0), .val (.int p1), .val (.int p2), .val (.int p3), .val (.int (3 : Int32)), .val (.int (Int32.ofNat ka)), .val (.int (Int32.ofNat kb)), .val (.int (Int32.ofNat kc)), .val (.double (own_R 1 ka)), .second, .val (.double (own_R 1 kb)), .second, .val (.double (own_R 1 kc)), .second, .val (.ref b33), .unset, .unset, .unset] [(.int ((4096 : Int32) - ((((16 : Int32) - (Int32.ofNat ka)) * ((16 : Int32) - (Int32.ofNat kb))) * ((16 : Int32) - (Int32.ofNat kc)))))]))
    refine Good.back (fun _ k => XS.istore X42.here hx rfl (hb hby at_200) rfl (l' := #[.val (.int p0), .val (.int p1), .val (.int p2), .val (.int p3), .val (.int (3 : Int32)), .val (.int (Int32.ofNat ka)), .val (.int (Int32.ofNat kb)), .val (.int (Int32.ofNat kc)), .val (.double (own_R 1 ka)), .second, .val (.double (own_R 1 kb)), .second, .val (.double (own_R 1 kc)), .second, .val (.ref b33), .unset, .val (.int ((4096 : Int32) - ((((16 : Int32) - (Int32.ofNat ka)) * ((16 : Int32) - (Int32.ofNat kb))) * ((16 : Int32) - (Int32.ofNat kc))))), .unset]) rfl k) ?_
    show Good p e below _ (T42.setTop (mkF m 202 #[.val (.int p0), .val (.int p1), .val (.int p2), .val (.int p3), .val (.int (3 : Int32)), .val (.int (Int32.ofNat ka)), .val (.int (Int32.ofNat kb)), .val (.int (Int32.ofNat kc)), .val (.double (own_R 1 ka)), .second, .val (.double (own_R 1 kb)), .second, .val (.double (own_R 1 kc)), .second, .val (.ref b33), .unset, .val (.int ((4096 : Int32) - ((((16 : Int32) - (Int32.ofNat ka)) * ((16 : Int32) - (Int32.ofNat kb))) * ((16 : Int32) - (Int32.ofNat kc))))), .unset] []))
    refine Good.back (fun _ k => XS.bipush X42.here hx rfl (hb hby at_202) k) ?_
    show Good p e below _ (T42.setTop (mkF m 204 #[.val (.int p0), .val (.int p1), .val (.int p2), .val (.int p3), .val (.int (3 : Int32)), .val (.int (Int32.ofNat ka)), .val (.int (Int32.ofNat kb)), .val (.int (Int32.ofNat kc)), .val (.double (own_R 1 ka)), .second, .val (.double (own_R 1 kb)), .second, .val (.double (own_R 1 kc)), .second, .val (.ref b33), .unset, .val (.int ((4096 : Int32) - ((((16 : Int32) - (Int32.ofNat ka)) * ((16 : Int32) - (Int32.ofNat kb))) * ((16 : Int32) - (Int32.ofNat kc))))), .unset] [(.int (16 : Int32))]))
    refine Good.back (fun _ k => XS.iload X42.here hx rfl (hb hby at_204) rfl k) ?_
    show Good p e below _ (T42.setTop (mkF m 206 #[.val (.int p0), .val (.int p1), .val (.int p2), .val (.int p3), .val (.int (3 : Int32)), .val (.int (Int32.ofNat ka)), .val (.int (Int32.ofNat kb)), .val (.int (Int32.ofNat kc)), .val (.double (own_R 1 ka)), .second, .val (.double (own_R 1 kb)), .second, .val (.double (own_R 1 kc)), .second, .val (.ref b33), .unset, .val (.int ((4096 : Int32) - ((((16 : Int32) - (Int32.ofNat ka)) * ((16 : Int32) - (Int32.ofNat kb))) * ((16 : Int32) - (Int32.ofNat kc))))), .unset] [(.int (Int32.ofNat ka)), (.int (16 : Int32))]))
    refine Good.back (fun _ k => XS.iload X42.here hx rfl (hb hby at_206) rfl k) ?_
    show Good p e below _ (T42.setTop (mkF m 208 #[.val (.int p0), .val (.int p1), .val (.int p2), .val (.int p3), .val (.int (3 : Int32)), .val (.int (Int32.ofNat ka)), .val (.int (Int32.ofNat kb)), .val (.int (Int32.ofNat kc)), .val (.double (own_R 1 ka)), .second, .val (.double (own_R 1 kb)), .second, .val (.double (own_R 1 kc)), .second, .val (.ref b33), .unset, .val (.int ((4096 : Int32) - ((((16 : Int32) - (Int32.ofNat ka)) * ((16 : Int32) - (Int32.ofNat kb))) * ((16 : Int32) - (Int32.ofNat kc))))), .unset] [(.int (Int32.ofNat kb)), (.int (Int32.ofNat ka)), (.int (16 : Int32))]))
    refine Good.back (fun _ k => XS.imul X42.here hx rfl (hb hby at_208) rfl k) ?_
    show Good p e below _ (T42.setTop (mkF m 209 #[.val (.int p0), .val (.int p1), .val (.int p2), .val (.int p3), .val (.int (3 : Int32)), .val (.int (Int32.ofNat ka)), .val (.int (Int32.ofNat kb)), .val (.int (Int32.ofNat kc)), .val (.double (own_R 1 ka)), .second, .val (.double (own_R 1 kb)), .second, .val (.double (own_R 1 kc)), .second, .val (.ref b33), .unset, .val (.int ((4096 : Int32) - ((((16 : Int32) - (Int32.ofNat ka)) * ((16 : Int32) - (Int32.ofNat kb))) * ((16 : Int32) - (Int32.ofNat kc))))), .unset] [(.int ((Int32.ofNat ka) * (Int32.ofNat kb))), (.int (16 : Int32))]))
    refine Good.back (fun _ k => XS.iload X42.here hx rfl (hb hby at_209) rfl k) ?_
    show Good p e below _ (T42.setTop (mkF m 211 #[.val (.int p0), .val (.int p1), .val (.int p2), .val (.int p3), .val (.int (3 : Int32)), .val (.int (Int32.ofNat ka)), .val (.int (Int32.ofNat kb)), .val (.int (Int32.ofNat kc)), .val (.double (own_R 1 ka)), .second, .val (.double (own_R 1 kb)), .second, .val (.double (own_R 1 kc)), .second, .val (.ref b33), .unset, .val (.int ((4096 : Int32) - ((((16 : Int32) - (Int32.ofNat ka)) * ((16 : Int32) - (Int32.ofNat kb))) * ((16 : Int32) - (Int32.ofNat kc))))), .unset] [(.int (Int32.ofNat kb)), (.int ((Int32.ofNat ka) * (Int32.ofNat kb))), (.int (16 : Int32))]))
    refine Good.back (fun _ k => XS.iload X42.here hx rfl (hb hby at_211) rfl k) ?_
    show Good p e below _ (T42.setTop (mkF m 213 #[.val (.int p0), .val (.int p1), .val (.int p2), .val (.int p3), .val (.int (3 : Int32)), .val (.int (Int32.ofNat ka)), .val (.int (Int32.ofNat kb)), .val (.int (Int32.ofNat kc)), .val (.double (own_R 1 ka)), .second, .val (.double (own_R 1 kb)), .second, .val (.double (own_R 1 kc)), .second, .val (.ref b33), .unset, .val (.int ((4096 : Int32) - ((((16 : Int32) - (Int32.ofNat ka)) * ((16 : Int32) - (Int32.ofNat kb))) * ((16 : Int32) - (Int32.ofNat kc))))), .unset] [(.int (Int32.ofNat kc)), (.int (Int32.ofNat kb)), (.int ((Int32.ofNat ka) * (Int32.ofNat kb))), (.int (16 : Int32))]))
    refine Good.back (fun _ k => XS.imul X42.here hx rfl (hb hby at_213) rfl k) ?_
    show Good p e below _ (T42.setTop (mkF m 214 #[.val (.int p0), .val (.int p1), .val (.int p2), .val (.int p3), .val (.int (3 : Int32)), .val (.int (Int32.ofNat ka)), .val (.int (Int32.ofNat kb)), .val (.int (Int32.ofNat kc)), .val (.double (own_R 1 ka)), .second, .val (.double (own_R 1 kb)), .second, .val (.double (own_R 1 kc)), .second, .val (.ref b33), .unset, .val (.int ((4096 : Int32) - ((((16 : Int32) - (Int32.ofNat ka)) * ((16 : Int32) - (Int32.ofNat kb))) * ((16 : Int32) - (Int32.ofNat kc))))), .unset] [(.int ((Int32.ofNat kb) * (Int32.ofNat kc))), (.int ((Int32.ofNat ka) * (Int32.ofNat kb))), (.int (16 : Int32))]))
    refine Good.back (fun _ k => XS.iadd X42.here hx rfl (hb hby at_214) rfl k) ?_
    show Good p e below _ (T42.setTop (mkF m 215 #[.val (.int p0), .val (.int p1), .val (.int p2), .val (.int p3), .val (.int (3 : Int32)), .val (.int (Int32.ofNat ka)), .val (.int (Int32.ofNat kb)), .val (.int (Int32.ofNat kc)), .val (.double (own_R 1 ka)), .second, .val (.double (own_R 1 kb)), .second, .val (.double (own_R 1 kc)), .second, .val (.ref b33), .unset, .val (.int ((4096 : Int32) - ((((16 : Int32) - (Int32.ofNat ka)) * ((16 : Int32) - (Int32.ofNat kb))) * ((16 : Int32) - (Int32.ofNat kc))))), .unset] [(.int (((Int32.ofNat ka) * (Int32.ofNat kb)) + ((Int32.ofNat kb) * (Int32.ofNat kc)))), (.int (16 : Int32))]))
    refine Good.back (fun _ k => XS.iload X42.here hx rfl (hb hby at_215) rfl k) ?_
    show Good p e below _ (T42.setTop (mkF m 217 #[.val (.int p0), .val (.int p1), .val (.int p2), .val (.int p3), .val (.int (3 : Int32)), .val (.int (Int32.ofNat ka)), .val (.int (Int32.ofNat kb)), .val (.int (Int32.ofNat kc)), .val (.double (own_R 1 ka)), .second, .val (.double (own_R 1 kb)), .second, .val (.double (own_R 1 kc)), .second, .val (.ref b33), .unset, .val (.int ((4096 : Int32) - ((((16 : Int32) - (Int32.ofNat ka)) * ((16 : Int32) - (Int32.ofNat kb))) * ((16 : Int32) - (Int32.ofNat kc))))), .unset] [(.int (Int32.ofNat kc)), (.int (((Int32.ofNat ka) * (Int32.ofNat kb)) + ((Int32.ofNat kb) * (Int32.ofNat kc)))), (.int (16 : Int32))]))
    refine Good.back (fun _ k => XS.iload X42.here hx rfl (hb hby at_217) rfl k) ?_
    show Good p e below _ (T42.setTop (mkF m 219 #[.val (.int p0), .val (.int p1), .val (.int p2), .val (.int p3), .val (.int (3 : Int32)), .val (.int (Int32.ofNat ka)), .val (.int (Int32.ofNat kb)), .val (.int (Int32.ofNat kc)), .val (.double (own_R 1 ka)), .second, .val (.double (own_R 1 kb)), .second, .val (.double (own_R 1 kc)), .second, .val (.ref b33), .unset, .val (.int ((4096 : Int32) - ((((16 : Int32) - (Int32.ofNat ka)) * ((16 : Int32) - (Int32.ofNat kb))) * ((16 : Int32) - (Int32.ofNat kc))))), .unset] [(.int (Int32.ofNat ka)), (.int (Int32.ofNat kc)), (.int (((Int32.ofNat ka) * (Int32.ofNat kb)) + ((Int32.ofNat kb) * (Int32.ofNat kc)))), (.int (16 : Int32))]))
    refine Good.back (fun _ k => XS.imul X42.here hx rfl (hb hby at_219) rfl k) ?_
    show Good p e below _ (T42.setTop (mkF m 220 #[.val (.int p0), .val (.int p1), .val (.int p2), .val (.int p3), .val (.int (3 : Int32)), .val (.int (Int32.ofNat ka)), .val (.int (Int32.ofNat kb)), .val (.int (Int32.ofNat kc)), .val (.double (own_R 1 ka)), .second, .val (.double (own_R 1 kb)), .second, .val (.double (own_R 1 kc)), .second, .val (.ref b33), .unset, .val (.int ((4096 : Int32) - ((((16 : Int32) - (Int32.ofNat ka)) * ((16 : Int32) - (Int32.ofNat kb))) * ((16 : Int32) - (Int32.ofNat kc))))), .unset] [(.int ((Int32.ofNat kc) * (Int32.ofNat ka))), (.int (((Int32.ofNat ka) * (Int32.ofNat kb)) + ((Int32.ofNat kb) * (Int32.ofNat kc)))), (.int (16 : Int32))]))
    refine Good.back (fun _ k => XS.iadd X42.here hx rfl (hb hby at_220) rfl k) ?_
    show Good p e below _ (T42.setTop (mkF m 221 #[.val (.int p0), .val (.int p1), .val (.int p2), .val (.int p3), .val (.int (3 : Int32)), .val (.int (Int32.ofNat ka)), .val (.int (Int32.ofNat kb)), .val (.int (Int32.ofNat kc)), .val (.double (own_R 1 ka)), .second, .val (.double (own_R 1 kb)), .second, .val (.double (own_R 1 kc)), .second, .val (.ref b33), .unset, .val (.int ((4096 : Int32) - ((((16 : Int32) - (Int32.ofNat ka)) * ((16 : Int32) - (Int32.ofNat kb))) * ((16 : Int32) - (Int32.ofNat kc))))), .unset] [(.int ((((Int32.ofNat ka) * (Int32.ofNat kb)) + ((Int32.ofNat kb) * (Int32.ofNat kc))) + ((Int32.ofNat kc) * (Int32.ofNat ka)))), (.int (16 : Int32))]))
    refine Good.back (fun _ k => XS.imul X42.here hx rfl (hb hby at_221) rfl k) ?_
    show Good p e below _ (T42.setTop (mkF m 222 #[.val (.int p0), .val (.int p1), .val (.int p2), .val (.int p3), .val (.int (3 : Int32)), .val (.int (Int32.ofNat ka)), .val (.int (Int32.ofNat kb)), .val (.int (Int32.ofNat kc)), .val (.double (own_R 1 ka)), .second, .val (.double (own_R 1 kb)), .second, .val (.double (own_R 1 kc)), .second, .val (.ref b33), .unset, .val (.int ((4096 : Int32) - ((((16 : Int32) - (Int32.ofNat ka)) * ((16 : Int32) - (Int32.ofNat kb))) * ((16 : Int32) - (Int32.ofNat kc))))), .unset] [(.int ((16 : Int32) * ((((Int32.ofNat ka) * (Int32.ofNat kb)) + ((Int32.ofNat kb) * (Int32.ofNat kc))) + ((Int32.ofNat kc) * (Int32.ofNat ka)))))]))
    refine Good.back (fun _ k => XS.iconst X42.here hx rfl (hb hby at_222) k) ?_
    show Good p e below _ (T42.setTop (mkF m 223 #[.val (.int p0), .val (.int p1), .val (.int p2), .val (.int p3), .val (.int (3 : Int32)), .val (.int (Int32.ofNat ka)), .val (.int (Int32.ofNat kb)), .val (.int (Int32.ofNat kc)), .val (.double (own_R 1 ka)), .second, .val (.double (own_R 1 kb)), .second, .val (.double (own_R 1 kc)), .second, .val (.ref b33), .unset, .val (.int ((4096 : Int32) - ((((16 : Int32) - (Int32.ofNat ka)) * ((16 : Int32) - (Int32.ofNat kb))) * ((16 : Int32) - (Int32.ofNat kc))))), .unset] [(.int (2 : Int32)), (.int ((16 : Int32) * ((((Int32.ofNat ka) * (Int32.ofNat kb)) + ((Int32.ofNat kb) * (Int32.ofNat kc))) + ((Int32.ofNat kc) * (Int32.ofNat ka)))))]))
    refine Good.back (fun _ k => XS.iload X42.here hx rfl (hb hby at_223) rfl k) ?_
    show Good p e below _ (T42.setTop (mkF m 225 #[.val (.int p0), .val (.int p1), .val (.int p2), .val (.int p3), .val (.int (3 : Int32)), .val (.int (Int32.ofNat ka)), .val (.int (Int32.ofNat kb)), .val (.int (Int32.ofNat kc)), .val (.double (own_R 1 ka)), .second, .val (.double (own_R 1 kb)), .second, .val (.double (own_R 1 kc)), .second, .val (.ref b33), .unset, .val (.int ((4096 : Int32) - ((((16 : Int32) - (Int32.ofNat ka)) * ((16 : Int32) - (Int32.ofNat kb))) * ((16 : Int32) - (Int32.ofNat kc))))), .unset] [(.int (Int32.ofNat ka)), (.int (2 : Int32)), (.int ((16 : Int32) * ((((Int32.ofNat ka) * (Int32.ofNat kb)) + ((Int32.ofNat kb) * (Int32.ofNat kc))) + ((Int32.ofNat kc) * (Int32.ofNat ka)))))]))
    refine Good.back (fun _ k => XS.imul X42.here hx rfl (hb hby at_225) rfl k) ?_
    show Good p e below _ (T42.setTop (mkF m 226 #[.val (.int p0), .val (.int p1), .val (.int p2), .val (.int p3), .val (.int (3 : Int32)), .val (.int (Int32.ofNat ka)), .val (.int (Int32.ofNat kb)), .val (.int (Int32.ofNat kc)), .val (.double (own_R 1 ka)), .second, .val (.double (own_R 1 kb)), .second, .val (.double (own_R 1 kc)), .second, .val (.ref b33), .unset, .val (.int ((4096 : Int32) - ((((16 : Int32) - (Int32.ofNat ka)) * ((16 : Int32) - (Int32.ofNat kb))) * ((16 : Int32) - (Int32.ofNat kc))))), .unset] [(.int ((2 : Int32) * (Int32.ofNat ka))), (.int ((16 : Int32) * ((((Int32.ofNat ka) * (Int32.ofNat kb)) + ((Int32.ofNat kb) * (Int32.ofNat kc))) + ((Int32.ofNat kc) * (Int32.ofNat ka)))))]))
    refine Good.back (fun _ k => XS.iload X42.here hx rfl (hb hby at_226) rfl k) ?_
    show Good p e below _ (T42.setTop (mkF m 228 #[.val (.int p0), .val (.int p1), .val (.int p2), .val (.int p3), .val (.int (3 : Int32)), .val (.int (Int32.ofNat ka)), .val (.int (Int32.ofNat kb)), .val (.int (Int32.ofNat kc)), .val (.double (own_R 1 ka)), .second, .val (.double (own_R 1 kb)), .second, .val (.double (own_R 1 kc)), .second, .val (.ref b33), .unset, .val (.int ((4096 : Int32) - ((((16 : Int32) - (Int32.ofNat ka)) * ((16 : Int32) - (Int32.ofNat kb))) * ((16 : Int32) - (Int32.ofNat kc))))), .unset] [(.int (Int32.ofNat kb)), (.int ((2 : Int32) * (Int32.ofNat ka))), (.int ((16 : Int32) * ((((Int32.ofNat ka) * (Int32.ofNat kb)) + ((Int32.ofNat kb) * (Int32.ofNat kc))) + ((Int32.ofNat kc) * (Int32.ofNat ka)))))]))
    refine Good.back (fun _ k => XS.imul X42.here hx rfl (hb hby at_228) rfl k) ?_
    show Good p e below _ (T42.setTop (mkF m 229 #[.val (.int p0), .val (.int p1), .val (.int p2), .val (.int p3), .val (.int (3 : Int32)), .val (.int (Int32.ofNat ka)), .val (.int (Int32.ofNat kb)), .val (.int (Int32.ofNat kc)), .val (.double (own_R 1 ka)), .second, .val (.double (own_R 1 kb)), .second, .val (.double (own_R 1 kc)), .second, .val (.ref b33), .unset, .val (.int ((4096 : Int32) - ((((16 : Int32) - (Int32.ofNat ka)) * ((16 : Int32) - (Int32.ofNat kb))) * ((16 : Int32) - (Int32.ofNat kc))))), .unset] [(.int (((2 : Int32) * (Int32.ofNat ka)) * (Int32.ofNat kb))), (.int ((16 : Int32) * ((((Int32.ofNat ka) * (Int32.ofNat kb)) + ((Int32.ofNat kb) * (Int32.ofNat kc))) + ((Int32.ofNat kc) * (Int32.ofNat ka)))))]))
    refine Good.back (fun _ k => XS.iload X42.here hx rfl (hb hby at_229) rfl k) ?_
    show Good p e below _ (T42.setTop (mkF m 231 #[.val (.int p0), .val (.int p1), .val (.int p2), .val (.int p3), .val (.int (3 : Int32)), .val (.int (Int32.ofNat ka)), .val (.int (Int32.ofNat kb)), .val (.int (Int32.ofNat kc)), .val (.double (own_R 1 ka)), .second, .val (.double (own_R 1 kb)), .second, .val (.double (own_R 1 kc)), .second, .val (.ref b33), .unset, .val (.int ((4096 : Int32) - ((((16 : Int32) - (Int32.ofNat ka)) * ((16 : Int32) - (Int32.ofNat kb))) * ((16 : Int32) - (Int32.ofNat kc))))), .unset] [(.int (Int32.ofNat kc)), (.int (((2 : Int32) * (Int32.ofNat ka)) * (Int32.ofNat kb))), (.int ((16 : Int32) * ((((Int32.ofNat ka) * (Int32.ofNat kb)) + ((Int32.ofNat kb) * (Int32.ofNat kc))) + ((Int32.ofNat kc) * (Int32.ofNat ka)))))]))
    refine Good.back (fun _ k => XS.imul X42.here hx rfl (hb hby at_231) rfl k) ?_
    show Good p e below _ (T42.setTop (mkF m 232 #[.val (.int p0), .val (.int p1), .val (.int p2), .val (.int p3), .val (.int (3 : Int32)), .val (.int (Int32.ofNat ka)), .val (.int (Int32.ofNat kb)), .val (.int (Int32.ofNat kc)), .val (.double (own_R 1 ka)), .second, .val (.double (own_R 1 kb)), .second, .val (.double (own_R 1 kc)), .second, .val (.ref b33), .unset, .val (.int ((4096 : Int32) - ((((16 : Int32) - (Int32.ofNat ka)) * ((16 : Int32) - (Int32.ofNat kb))) * ((16 : Int32) - (Int32.ofNat kc))))), .unset] [(.int ((((2 : Int32) * (Int32.ofNat ka)) * (Int32.ofNat kb)) * (Int32.ofNat kc))), (.int ((16 : Int32) * ((((Int32.ofNat ka) * (Int32.ofNat kb)) + ((Int32.ofNat kb) * (Int32.ofNat kc))) + ((Int32.ofNat kc) * (Int32.ofNat ka)))))]))
    refine Good.back (fun _ k => XS.isub X42.here hx rfl (hb hby at_232) rfl k) ?_
    show Good p e below _ (T42.setTop (mkF m 233 #[.val (.int p0), .val (.int p1), .val (.int p2), .val (.int p3), .val (.int (3 : Int32)), .val (.int (Int32.ofNat ka)), .val (.int (Int32.ofNat kb)), .val (.int (Int32.ofNat kc)), .val (.double (own_R 1 ka)), .second, .val (.double (own_R 1 kb)), .second, .val (.double (own_R 1 kc)), .second, .val (.ref b33), .unset, .val (.int ((4096 : Int32) - ((((16 : Int32) - (Int32.ofNat ka)) * ((16 : Int32) - (Int32.ofNat kb))) * ((16 : Int32) - (Int32.ofNat kc))))), .unset] [(.int (((16 : Int32) * ((((Int32.ofNat ka) * (Int32.ofNat kb)) + ((Int32.ofNat kb) * (Int32.ofNat kc))) + ((Int32.ofNat kc) * (Int32.ofNat ka)))) - ((((2 : Int32) * (Int32.ofNat ka)) * (Int32.ofNat kb)) * (Int32.ofNat kc))))]))
    refine Good.back (fun _ k => XS.istore X42.here hx rfl (hb hby at_233) rfl (l' := #[.val (.int p0), .val (.int p1), .val (.int p2), .val (.int p3), .val (.int (3 : Int32)), .val (.int (Int32.ofNat ka)), .val (.int (Int32.ofNat kb)), .val (.int (Int32.ofNat kc)), .val (.double (own_R 1 ka)), .second, .val (.double (own_R 1 kb)), .second, .val (.double (own_R 1 kc)), .second, .val (.ref b33), .unset, .val (.int ((4096 : Int32) - ((((16 : Int32) - (Int32.ofNat ka)) * ((16 : Int32) - (Int32.ofNat kb))) * ((16 : Int32) - (Int32.ofNat kc))))), .val (.int (((16 : Int32) * ((((Int32.ofNat ka) * (Int32.ofNat kb)) + ((Int32.ofNat kb) * (Int32.ofNat kc))) + ((Int32.ofNat kc) * (Int32.ofNat ka)))) - ((((2 : Int32) * (Int32.ofNat ka)) * (Int32.ofNat kb)) * (Int32.ofNat kc))))]) rfl k) ?_
    show Good p e below _ (T42.setTop (mkF m 235 #[.val (.int p0), .val (.int p1), .val (.int p2), .val (.int p3), .val (.int (3 : Int32)), .val (.int (Int32.ofNat ka)), .val (.int (Int32.ofNat kb)), .val (.int (Int32.ofNat kc)), .val (.double (own_R 1 ka)), .second, .val (.double (own_R 1 kb)), .second, .val (.double (own_R 1 kc)), .second, .val (.ref b33), .unset, .val (.int ((4096 : Int32) - ((((16 : Int32) - (Int32.ofNat ka)) * ((16 : Int32) - (Int32.ofNat kb))) * ((16 : Int32) - (Int32.ofNat kc))))), .val (.int (((16 : Int32) * ((((Int32.ofNat ka) * (Int32.ofNat kb)) + ((Int32.ofNat kb) * (Int32.ofNat kc))) + ((Int32.ofNat kc) * (Int32.ofNat ka)))) - ((((2 : Int32) * (Int32.ofNat ka)) * (Int32.ofNat kb)) * (Int32.ofNat kc))))] []))
    refine Good.back (fun _ k => XS.bipush X42.here hx rfl (hb hby at_235) k) ?_
    show Good p e below _ (T42.setTop (mkF m 237 #[.val (.int p0), .val (.int p1), .val (.int p2), .val (.int p3), .val (.int (3 : Int32)), .val (.int (Int32.ofNat ka)), .val (.int (Int32.ofNat kb)), .val (.int (Int32.ofNat kc)), .val (.double (own_R 1 ka)), .second, .val (.double (own_R 1 kb)), .second, .val (.double (own_R 1 kc)), .second, .val (.ref b33), .unset, .val (.int ((4096 : Int32) - ((((16 : Int32) - (Int32.ofNat ka)) * ((16 : Int32) - (Int32.ofNat kb))) * ((16 : Int32) - (Int32.ofNat kc))))), .val (.int (((16 : Int32) * ((((Int32.ofNat ka) * (Int32.ofNat kb)) + ((Int32.ofNat kb) * (Int32.ofNat kc))) + ((Int32.ofNat kc) * (Int32.ofNat ka)))) - ((((2 : Int32) * (Int32.ofNat ka)) * (Int32.ofNat kb)) * (Int32.ofNat kc))))] [(.int (20 : Int32))]))
    refine Good.back (fun _ k => XS.iload X42.here hx rfl (hb hby at_237) rfl k) ?_
    show Good p e below _ (T42.setTop (mkF m 239 #[.val (.int p0), .val (.int p1), .val (.int p2), .val (.int p3), .val (.int (3 : Int32)), .val (.int (Int32.ofNat ka)), .val (.int (Int32.ofNat kb)), .val (.int (Int32.ofNat kc)), .val (.double (own_R 1 ka)), .second, .val (.double (own_R 1 kb)), .second, .val (.double (own_R 1 kc)), .second, .val (.ref b33), .unset, .val (.int ((4096 : Int32) - ((((16 : Int32) - (Int32.ofNat ka)) * ((16 : Int32) - (Int32.ofNat kb))) * ((16 : Int32) - (Int32.ofNat kc))))), .val (.int (((16 : Int32) * ((((Int32.ofNat ka) * (Int32.ofNat kb)) + ((Int32.ofNat kb) * (Int32.ofNat kc))) + ((Int32.ofNat kc) * (Int32.ofNat ka)))) - ((((2 : Int32) * (Int32.ofNat ka)) * (Int32.ofNat kb)) * (Int32.ofNat kc))))] [(.int ((4096 : Int32) - ((((16 : Int32) - (Int32.ofNat ka)) * ((16 : Int32) - (Int32.ofNat kb))) * ((16 : Int32) - (Int32.ofNat kc))))), (.int (20 : Int32))]))
    refine Good.back (fun _ k => XS.imul X42.here hx rfl (hb hby at_239) rfl k) ?_
    show Good p e below _ (T42.setTop (mkF m 240 #[.val (.int p0), .val (.int p1), .val (.int p2), .val (.int p3), .val (.int (3 : Int32)), .val (.int (Int32.ofNat ka)), .val (.int (Int32.ofNat kb)), .val (.int (Int32.ofNat kc)), .val (.double (own_R 1 ka)), .second, .val (.double (own_R 1 kb)), .second, .val (.double (own_R 1 kc)), .second, .val (.ref b33), .unset, .val (.int ((4096 : Int32) - ((((16 : Int32) - (Int32.ofNat ka)) * ((16 : Int32) - (Int32.ofNat kb))) * ((16 : Int32) - (Int32.ofNat kc))))), .val (.int (((16 : Int32) * ((((Int32.ofNat ka) * (Int32.ofNat kb)) + ((Int32.ofNat kb) * (Int32.ofNat kc))) + ((Int32.ofNat kc) * (Int32.ofNat ka)))) - ((((2 : Int32) * (Int32.ofNat ka)) * (Int32.ofNat kb)) * (Int32.ofNat kc))))] [(.int ((20 : Int32) * ((4096 : Int32) - ((((16 : Int32) - (Int32.ofNat ka)) * ((16 : Int32) - (Int32.ofNat kb))) * ((16 : Int32) - (Int32.ofNat kc))))))]))
    refine Good.back (fun _ k => XS.sipush X42.here hx rfl (hb hby at_240) k) ?_
    show Good p e below _ (T42.setTop (mkF m 243 #[.val (.int p0), .val (.int p1), .val (.int p2), .val (.int p3), .val (.int (3 : Int32)), .val (.int (Int32.ofNat ka)), .val (.int (Int32.ofNat kb)), .val (.int (Int32.ofNat kc)), .val (.double (own_R 1 ka)), .second, .val (.double (own_R 1 kb)), .second, .val (.double (own_R 1 kc)), .second, .val (.ref b33), .unset, .val (.int ((4096 : Int32) - ((((16 : Int32) - (Int32.ofNat ka)) * ((16 : Int32) - (Int32.ofNat kb))) * ((16 : Int32) - (Int32.ofNat kc))))), .val (.int (((16 : Int32) * ((((Int32.ofNat ka) * (Int32.ofNat kb)) + ((Int32.ofNat kb) * (Int32.ofNat kc))) + ((Int32.ofNat kc) * (Int32.ofNat ka)))) - ((((2 : Int32) * (Int32.ofNat ka)) * (Int32.ofNat kb)) * (Int32.ofNat kc))))] [(.int (4096 : Int32)), (.int ((20 : Int32) * ((4096 : Int32) - ((((16 : Int32) - (Int32.ofNat ka)) * ((16 : Int32) - (Int32.ofNat kb))) * ((16 : Int32) - (Int32.ofNat kc))))))]))
    by_cases hc243_45 : ((20 : Int32) * ((4096 : Int32) - ((((16 : Int32) - (Int32.ofNat ka)) * ((16 : Int32) - (Int32.ofNat kb))) * ((16 : Int32) - (Int32.ofNat kc))))) < (4096 : Int32)
    · refine Good.back (fun _ k => XS.icmpNo X42.here hx rfl (hb hby at_243) rfl (tlt hc243_45).2.1 k) ?_
      show Good p e below _ (T42.setTop (mkF m 246 #[.val (.int p0), .val (.int p1), .val (.int p2), .val (.int p3), .val (.int (3 : Int32)), .val (.int (Int32.ofNat ka)), .val (.int (Int32.ofNat kb)), .val (.int (Int32.ofNat kc)), .val (.double (own_R 1 ka)), .second, .val (.double (own_R 1 kb)), .second, .val (.double (own_R 1 kc)), .second, .val (.ref b33), .unset, .val (.int ((4096 : Int32) - ((((16 : Int32) - (Int32.ofNat ka)) * ((16 : Int32) - (Int32.ofNat kb))) * ((16 : Int32) - (Int32.ofNat kc))))), .val (.int (((16 : Int32) * ((((Int32.ofNat ka) * (Int32.ofNat kb)) + ((Int32.ofNat kb) * (Int32.ofNat kc))) + ((Int32.ofNat kc) * (Int32.ofNat ka)))) - ((((2 : Int32) * (Int32.ofNat ka)) * (Int32.ofNat kb)) * (Int32.ofNat kc))))] []))
      refine Good.back (fun _ k => XS.iconst X42.here hx rfl (hb hby at_246) k) ?_
      show Good p e below _ (T42.setTop (mkF m 247 #[.val (.int p0), .val (.int p1), .val (.int p2), .val (.int p3), .val (.int (3 : Int32)), .val (.int (Int32.ofNat ka)), .val (.int (Int32.ofNat kb)), .val (.int (Int32.ofNat kc)), .val (.double (own_R 1 ka)), .second, .val (.double (own_R 1 kb)), .second, .val (.double (own_R 1 kc)), .second, .val (.ref b33), .unset, .val (.int ((4096 : Int32) - ((((16 : Int32) - (Int32.ofNat ka)) * ((16 : Int32) - (Int32.ofNat kb))) * ((16 : Int32) - (Int32.ofNat kc))))), .val (.int (((16 : Int32) * ((((Int32.ofNat ka) * (Int32.ofNat kb)) + ((Int32.ofNat kb) * (Int32.ofNat kc))) + ((Int32.ofNat kc) * (Int32.ofNat ka)))) - ((((2 : Int32) * (Int32.ofNat ka)) * (Int32.ofNat kb)) * (Int32.ofNat kc))))] [(.int (1 : Int32))]))
      refine Good.back (fun _ k => XS.goto X42.here hx rfl (pc0 := 247) (pc' := 266) rfl (hb hby at_247) (by decide) (by decide) k) ?_
      show Good p e below _ (T42.setTop (mkF m 266 #[.val (.int p0), .val (.int p1), .val (.int p2), .val (.int p3), .val (.int (3 : Int32)), .val (.int (Int32.ofNat ka)), .val (.int (Int32.ofNat kb)), .val (.int (Int32.ofNat kc)), .val (.double (own_R 1 ka)), .second, .val (.double (own_R 1 kb)), .second, .val (.double (own_R 1 kc)), .second, .val (.ref b33), .unset, .val (.int ((4096 : Int32) - ((((16 : Int32) - (Int32.ofNat ka)) * ((16 : Int32) - (Int32.ofNat kb))) * ((16 : Int32) - (Int32.ofNat kc))))), .val (.int (((16 : Int32) * ((((Int32.ofNat ka) * (Int32.ofNat kb)) + ((Int32.ofNat kb) * (Int32.ofNat kc))) + ((Int32.ofNat kc) * (Int32.ofNat ka)))) - ((((2 : Int32) * (Int32.ofNat ka)) * (Int32.ofNat kb)) * (Int32.ofNat kc))))] [(.int (1 : Int32))]))
      refine Good.back (fun _ k => XS.istore X42.here hx rfl (hb hby at_266) rfl (l' := #[.val (.int p0), .val (.int p1), .val (.int p2), .val (.int p3), .val (.int (3 : Int32)), .val (.int (Int32.ofNat ka)), .val (.int (Int32.ofNat kb)), .val (.int (Int32.ofNat kc)), .val (.double (own_R 1 ka)), .second, .val (.double (own_R 1 kb)), .second, .val (.double (own_R 1 kc)), .second, .val (.ref b33), .val (.int (1 : Int32)), .val (.int ((4096 : Int32) - ((((16 : Int32) - (Int32.ofNat ka)) * ((16 : Int32) - (Int32.ofNat kb))) * ((16 : Int32) - (Int32.ofNat kc))))), .val (.int (((16 : Int32) * ((((Int32.ofNat ka) * (Int32.ofNat kb)) + ((Int32.ofNat kb) * (Int32.ofNat kc))) + ((Int32.ofNat kc) * (Int32.ofNat ka)))) - ((((2 : Int32) * (Int32.ofNat ka)) * (Int32.ofNat kb)) * (Int32.ofNat kc))))]) rfl k) ?_
      show Good p e below _ (T42.setTop (mkF m 268 #[.val (.int p0), .val (.int p1), .val (.int p2), .val (.int p3), .val (.int (3 : Int32)), .val (.int (Int32.ofNat ka)), .val (.int (Int32.ofNat kb)), .val (.int (Int32.ofNat kc)), .val (.double (own_R 1 ka)), .second, .val (.double (own_R 1 kb)), .second, .val (.double (own_R 1 kc)), .second, .val (.ref b33), .val (.int (1 : Int32)), .val (.int ((4096 : Int32) - ((((16 : Int32) - (Int32.ofNat ka)) * ((16 : Int32) - (Int32.ofNat kb))) * ((16 : Int32) - (Int32.ofNat kc))))), .val (.int (((16 : Int32) * ((((Int32.ofNat ka) * (Int32.ofNat kb)) + ((Int32.ofNat kb) * (Int32.ofNat kc))) + ((Int32.ofNat kc) * (Int32.ofNat ka)))) - ((((2 : Int32) * (Int32.ofNat ka)) * (Int32.ofNat kb)) * (Int32.ofNat kc))))] []))
      refine Good.back (fun _ k => XS.aload X42.here hx rfl (hb hby at_268) rfl rfl k) ?_
      show Good p e below _ (T42.setTop (mkF m 270 #[.val (.int p0), .val (.int p1), .val (.int p2), .val (.int p3), .val (.int (3 : Int32)), .val (.int (Int32.ofNat ka)), .val (.int (Int32.ofNat kb)), .val (.int (Int32.ofNat kc)), .val (.double (own_R 1 ka)), .second, .val (.double (own_R 1 kb)), .second, .val (.double (own_R 1 kc)), .second, .val (.ref b33), .val (.int (1 : Int32)), .val (.int ((4096 : Int32) - ((((16 : Int32) - (Int32.ofNat ka)) * ((16 : Int32) - (Int32.ofNat kb))) * ((16 : Int32) - (Int32.ofNat kc))))), .val (.int (((16 : Int32) * ((((Int32.ofNat ka) * (Int32.ofNat kb)) + ((Int32.ofNat kb) * (Int32.ofNat kc))) + ((Int32.ofNat kc) * (Int32.ofNat ka)))) - ((((2 : Int32) * (Int32.ofNat ka)) * (Int32.ofNat kb)) * (Int32.ofNat kc))))] [(.ref b33)]))
      obtain ⟨_, _, ⟨T46, L46, k46, n46⟩, -, X46, ⟨Lc46, hQ46, l46, y46, z46⟩, st46⟩ := Jvm.LawKit.callS X42 hx (y := (⟨"com/example/fradno/fradno/core/Consensus", "leastCount", "([D)I"⟩ : MethodName)) hown (mvT hZ (hw _ (List.mem_of_getElem? (i := 3) rfl))) (mvT hZ (hw _ (List.mem_of_getElem? (i := 4) rfl))) (mvT hZ (hw _ (List.mem_of_getElem? (i := 5) rfl))) (mvT hZ (hw _ (List.mem_of_getElem? (i := 6) rfl))) (by decide) (backOf (W := 0) (rm1_3 l Z a0 hw [] b33 k33 ka kb kc h42 n0 Z44 f_43 (Nat.le_of_lt_succ hka) (Nat.le_of_lt_succ hkb) (Nat.le_of_lt_succ hkc)) hZ (hw _ (List.mem_of_getElem? (i := 6) rfl)) (hw _ (List.mem_of_getElem? (i := 5) rfl)) (by decide) (by decide)) (g := (mkF m 270 #[.val (.int p0), .val (.int p1), .val (.int p2), .val (.int p3), .val (.int (3 : Int32)), .val (.int (Int32.ofNat ka)), .val (.int (Int32.ofNat kb)), .val (.int (Int32.ofNat kc)), .val (.double (own_R 1 ka)), .second, .val (.double (own_R 1 kb)), .second, .val (.double (own_R 1 kc)), .second, .val (.ref b33), .val (.int (1 : Int32)), .val (.int ((4096 : Int32) - ((((16 : Int32) - (Int32.ofNat ka)) * ((16 : Int32) - (Int32.ofNat kb))) * ((16 : Int32) - (Int32.ofNat kc))))), .val (.int (((16 : Int32) * ((((Int32.ofNat ka) * (Int32.ofNat kb)) + ((Int32.ofNat kb) * (Int32.ofNat kc))) + ((Int32.ofNat kc) * (Int32.ofNat ka)))) - ((((2 : Int32) * (Int32.ofNat ka)) * (Int32.ofNat kb)) * (Int32.ofNat kc))))] [(.ref b33)])) rfl (by rw [hml]; rfl) (argsL := [(.ref b33)]) (rest := []) (lenOf own_pd92 rfl) rfl (by show 2 * 0 + _ ≤ _; exact Nat.le_of_eq rfl) (hb hby at_270) (fun _ _ => ⟨rfl, e42, (by decide : 1 + 4 ≤ _), (by decide : 3 + 10 ≤ _)⟩)
      dsimp only [Pt.U, Pt.locs, Pt.cells, Pt.slots] at X46 l46 y46 z46 st46 hQ46
      subst l46 y46 z46
      obtain ⟨rfl, N46q, Kq46⟩ := hQ46
      have N46 := Fr.app N42 N46q
      have Z47 : n0 ≤ T46.heap.size := Nat.le_trans Z44 Kq46.1
      refine Good.back st46 ?_
      show Good p e below _ (T46.setTop (mkF m 273 #[.val (.int p0), .val (.int p1), .val (.int p2), .val (.int p3), .val (.int (3 : Int32)), .val (.int (Int32.ofNat ka)), .val (.int (Int32.ofNat kb)), .val (.int (Int32.ofNat kc)), .val (.double (own_R 1 ka)), .second, .val (.double (own_R 1 kb)), .second, .val (.double (own_R 1 kc)), .second, .val (.ref b33), .val (.int (1 : Int32)), .val (.int ((4096 : Int32) - ((((16 : Int32) - (Int32.ofNat ka)) * ((16 : Int32) - (Int32.ofNat kb))) * ((16 : Int32) - (Int32.ofNat kc))))), .val (.int (((16 : Int32) * ((((Int32.ofNat ka) * (Int32.ofNat kb)) + ((Int32.ofNat kb) * (Int32.ofNat kc))) + ((Int32.ofNat kc) * (Int32.ofNat ka)))) - ((((2 : Int32) * (Int32.ofNat ka)) * (Int32.ofNat kb)) * (Int32.ofNat kc))))] [(.int (if 20 * ((((ka * kb) * kc) + (((((16 - ka) * kb) + (ka * (16 - kb))) * kc) + ((ka * kb) * (16 - kc)))) + ((((16 - ka) * (16 - kb)) * kc) + ((((16 - ka) * kb) + (ka * (16 - kb))) * (16 - kc)))) < 16 ^ 3 then (1 : Int32) else (if 20 * (((ka * kb) * kc) + (((((16 - ka) * kb) + (ka * (16 - kb))) * kc) + ((ka * kb) * (16 - kc)))) < 16 ^ 3 then (2 : Int32) else (3 : Int32))))]))
      rw [show ((if 20 * ((((ka * kb) * kc) + (((((16 - ka) * kb) + (ka * (16 - kb))) * kc) + ((ka * kb) * (16 - kc)))) + ((((16 - ka) * (16 - kb)) * kc) + ((((16 - ka) * kb) + (ka * (16 - kb))) * (16 - kc)))) < 16 ^ 3 then (1 : Int32) else (if 20 * (((ka * kb) * kc) + (((((16 - ka) * kb) + (ka * (16 - kb))) * kc) + ((ka * kb) * (16 - kc)))) < 16 ^ 3 then (2 : Int32) else (3 : Int32))) : Int32) = (1 : Int32) from by rw [if_pos ((own_e243 ⟨ka, hka⟩ ⟨kb, hkb⟩ ⟨kc, hkc⟩).mp hc243_45)]]
      show Good p e below _ (T46.setTop (mkF m 273 #[.val (.int p0), .val (.int p1), .val (.int p2), .val (.int p3), .val (.int (3 : Int32)), .val (.int (Int32.ofNat ka)), .val (.int (Int32.ofNat kb)), .val (.int (Int32.ofNat kc)), .val (.double (own_R 1 ka)), .second, .val (.double (own_R 1 kb)), .second, .val (.double (own_R 1 kc)), .second, .val (.ref b33), .val (.int (1 : Int32)), .val (.int ((4096 : Int32) - ((((16 : Int32) - (Int32.ofNat ka)) * ((16 : Int32) - (Int32.ofNat kb))) * ((16 : Int32) - (Int32.ofNat kc))))), .val (.int (((16 : Int32) * ((((Int32.ofNat ka) * (Int32.ofNat kb)) + ((Int32.ofNat kb) * (Int32.ofNat kc))) + ((Int32.ofNat kc) * (Int32.ofNat ka)))) - ((((2 : Int32) * (Int32.ofNat ka)) * (Int32.ofNat kb)) * (Int32.ofNat kc))))] [(.int (1 : Int32))]))
      refine Good.back (fun _ k => XS.iload X46.here hx rfl (hb hby at_273) rfl k) ?_
      show Good p e below _ (T46.setTop (mkF m 275 #[.val (.int p0), .val (.int p1), .val (.int p2), .val (.int p3), .val (.int (3 : Int32)), .val (.int (Int32.ofNat ka)), .val (.int (Int32.ofNat kb)), .val (.int (Int32.ofNat kc)), .val (.double (own_R 1 ka)), .second, .val (.double (own_R 1 kb)), .second, .val (.double (own_R 1 kc)), .second, .val (.ref b33), .val (.int (1 : Int32)), .val (.int ((4096 : Int32) - ((((16 : Int32) - (Int32.ofNat ka)) * ((16 : Int32) - (Int32.ofNat kb))) * ((16 : Int32) - (Int32.ofNat kc))))), .val (.int (((16 : Int32) * ((((Int32.ofNat ka) * (Int32.ofNat kb)) + ((Int32.ofNat kb) * (Int32.ofNat kc))) + ((Int32.ofNat kc) * (Int32.ofNat ka)))) - ((((2 : Int32) * (Int32.ofNat ka)) * (Int32.ofNat kb)) * (Int32.ofNat kc))))] [(.int (1 : Int32)), (.int (1 : Int32))]))
      refine Good.back (fun _ k => XS.icmpNo X46.here hx rfl (hb hby at_275) rfl (teq (by decide : ((1 : Int32) = (1 : Int32)))).2 k) ?_
      show Good p e below _ (T46.setTop (mkF m 278 #[.val (.int p0), .val (.int p1), .val (.int p2), .val (.int p3), .val (.int (3 : Int32)), .val (.int (Int32.ofNat ka)), .val (.int (Int32.ofNat kb)), .val (.int (Int32.ofNat kc)), .val (.double (own_R 1 ka)), .second, .val (.double (own_R 1 kb)), .second, .val (.double (own_R 1 kc)), .second, .val (.ref b33), .val (.int (1 : Int32)), .val (.int ((4096 : Int32) - ((((16 : Int32) - (Int32.ofNat ka)) * ((16 : Int32) - (Int32.ofNat kb))) * ((16 : Int32) - (Int32.ofNat kc))))), .val (.int (((16 : Int32) * ((((Int32.ofNat ka) * (Int32.ofNat kb)) + ((Int32.ofNat kb) * (Int32.ofNat kc))) + ((Int32.ofNat kc) * (Int32.ofNat ka)))) - ((((2 : Int32) * (Int32.ofNat ka)) * (Int32.ofNat kb)) * (Int32.ofNat kc))))] []))
      refine Good.back (fun _ k => XS.iconst X46.here hx rfl (hb hby at_278) k) ?_
      show Good p e below _ (T46.setTop (mkF m 279 #[.val (.int p0), .val (.int p1), .val (.int p2), .val (.int p3), .val (.int (3 : Int32)), .val (.int (Int32.ofNat ka)), .val (.int (Int32.ofNat kb)), .val (.int (Int32.ofNat kc)), .val (.double (own_R 1 ka)), .second, .val (.double (own_R 1 kb)), .second, .val (.double (own_R 1 kc)), .second, .val (.ref b33), .val (.int (1 : Int32)), .val (.int ((4096 : Int32) - ((((16 : Int32) - (Int32.ofNat ka)) * ((16 : Int32) - (Int32.ofNat kb))) * ((16 : Int32) - (Int32.ofNat kc))))), .val (.int (((16 : Int32) * ((((Int32.ofNat ka) * (Int32.ofNat kb)) + ((Int32.ofNat kb) * (Int32.ofNat kc))) + ((Int32.ofNat kc) * (Int32.ofNat ka)))) - ((((2 : Int32) * (Int32.ofNat ka)) * (Int32.ofNat kb)) * (Int32.ofNat kc))))] [(.int (1 : Int32))]))
      refine Good.back (fun _ k => XS.goto X46.here hx rfl (pc0 := 279) (pc' := 283) rfl (hb hby at_279) (by decide) (by decide) k) ?_
      show Good p e below _ (T46.setTop (mkF m 283 #[.val (.int p0), .val (.int p1), .val (.int p2), .val (.int p3), .val (.int (3 : Int32)), .val (.int (Int32.ofNat ka)), .val (.int (Int32.ofNat kb)), .val (.int (Int32.ofNat kc)), .val (.double (own_R 1 ka)), .second, .val (.double (own_R 1 kb)), .second, .val (.double (own_R 1 kc)), .second, .val (.ref b33), .val (.int (1 : Int32)), .val (.int ((4096 : Int32) - ((((16 : Int32) - (Int32.ofNat ka)) * ((16 : Int32) - (Int32.ofNat kb))) * ((16 : Int32) - (Int32.ofNat kc))))), .val (.int (((16 : Int32) * ((((Int32.ofNat ka) * (Int32.ofNat kb)) + ((Int32.ofNat kb) * (Int32.ofNat kc))) + ((Int32.ofNat kc) * (Int32.ofNat ka)))) - ((((2 : Int32) * (Int32.ofNat ka)) * (Int32.ofNat kb)) * (Int32.ofNat kc))))] [(.int (1 : Int32))]))
      obtain ⟨fs48, hr48, hrun48, hended48, hW48, hsame48⟩ := X46.leave (v := some (.int (1 : Int32))) (fun h => by rw [Bd.returns] at h; cases h)
      refine Good.done (retN X46 hx (t := .boolean) Bd.returns (by simp) (hb hby at_283) hr48) hrun48 hended48 ⟨_, _, rfl, ?_, ⟨_, rfl⟩, hW48, hsame48.mono (by decide) (by decide)⟩
      show Q0 Z p0 p1 p2 p3 h0 n0 _ T46.heap _
      exact ⟨rfl, N46⟩
    · refine Good.back (fun _ k => XS.icmpYes X42.here hx rfl (pc0 := 243) (pc' := 250) rfl (hb hby at_243) rfl (flt hc243_45).2.1 (by decide) (by decide) k) ?_
      show Good p e below _ (T42.setTop (mkF m 250 #[.val (.int p0), .val (.int p1), .val (.int p2), .val (.int p3), .val (.int (3 : Int32)), .val (.int (Int32.ofNat ka)), .val (.int (Int32.ofNat kb)), .val (.int (Int32.ofNat kc)), .val (.double (own_R 1 ka)), .second, .val (.double (own_R 1 kb)), .second, .val (.double (own_R 1 kc)), .second, .val (.ref b33), .unset, .val (.int ((4096 : Int32) - ((((16 : Int32) - (Int32.ofNat ka)) * ((16 : Int32) - (Int32.ofNat kb))) * ((16 : Int32) - (Int32.ofNat kc))))), .val (.int (((16 : Int32) * ((((Int32.ofNat ka) * (Int32.ofNat kb)) + ((Int32.ofNat kb) * (Int32.ofNat kc))) + ((Int32.ofNat kc) * (Int32.ofNat ka)))) - ((((2 : Int32) * (Int32.ofNat ka)) * (Int32.ofNat kb)) * (Int32.ofNat kc))))] []))
      refine Good.back (fun _ k => XS.bipush X42.here hx rfl (hb hby at_250) k) ?_
      show Good p e below _ (T42.setTop (mkF m 252 #[.val (.int p0), .val (.int p1), .val (.int p2), .val (.int p3), .val (.int (3 : Int32)), .val (.int (Int32.ofNat ka)), .val (.int (Int32.ofNat kb)), .val (.int (Int32.ofNat kc)), .val (.double (own_R 1 ka)), .second, .val (.double (own_R 1 kb)), .second, .val (.double (own_R 1 kc)), .second, .val (.ref b33), .unset, .val (.int ((4096 : Int32) - ((((16 : Int32) - (Int32.ofNat ka)) * ((16 : Int32) - (Int32.ofNat kb))) * ((16 : Int32) - (Int32.ofNat kc))))), .val (.int (((16 : Int32) * ((((Int32.ofNat ka) * (Int32.ofNat kb)) + ((Int32.ofNat kb) * (Int32.ofNat kc))) + ((Int32.ofNat kc) * (Int32.ofNat ka)))) - ((((2 : Int32) * (Int32.ofNat ka)) * (Int32.ofNat kb)) * (Int32.ofNat kc))))] [(.int (20 : Int32))]))
      refine Good.back (fun _ k => XS.iload X42.here hx rfl (hb hby at_252) rfl k) ?_
      show Good p e below _ (T42.setTop (mkF m 254 #[.val (.int p0), .val (.int p1), .val (.int p2), .val (.int p3), .val (.int (3 : Int32)), .val (.int (Int32.ofNat ka)), .val (.int (Int32.ofNat kb)), .val (.int (Int32.ofNat kc)), .val (.double (own_R 1 ka)), .second, .val (.double (own_R 1 kb)), .second, .val (.double (own_R 1 kc)), .second, .val (.ref b33), .unset, .val (.int ((4096 : Int32) - ((((16 : Int32) - (Int32.ofNat ka)) * ((16 : Int32) - (Int32.ofNat kb))) * ((16 : Int32) - (Int32.ofNat kc))))), .val (.int (((16 : Int32) * ((((Int32.ofNat ka) * (Int32.ofNat kb)) + ((Int32.ofNat kb) * (Int32.ofNat kc))) + ((Int32.ofNat kc) * (Int32.ofNat ka)))) - ((((2 : Int32) * (Int32.ofNat ka)) * (Int32.ofNat kb)) * (Int32.ofNat kc))))] [(.int (((16 : Int32) * ((((Int32.ofNat ka) * (Int32.ofNat kb)) + ((Int32.ofNat kb) * (Int32.ofNat kc))) + ((Int32.ofNat kc) * (Int32.ofNat ka)))) - ((((2 : Int32) * (Int32.ofNat ka)) * (Int32.ofNat kb)) * (Int32.ofNat kc)))), (.int (20 : Int32))]))
      refine Good.back (fun _ k => XS.imul X42.here hx rfl (hb hby at_254) rfl k) ?_
      show Good p e below _ (T42.setTop (mkF m 255 #[.val (.int p0), .val (.int p1), .val (.int p2), .val (.int p3), .val (.int (3 : Int32)), .val (.int (Int32.ofNat ka)), .val (.int (Int32.ofNat kb)), .val (.int (Int32.ofNat kc)), .val (.double (own_R 1 ka)), .second, .val (.double (own_R 1 kb)), .second, .val (.double (own_R 1 kc)), .second, .val (.ref b33), .unset, .val (.int ((4096 : Int32) - ((((16 : Int32) - (Int32.ofNat ka)) * ((16 : Int32) - (Int32.ofNat kb))) * ((16 : Int32) - (Int32.ofNat kc))))), .val (.int (((16 : Int32) * ((((Int32.ofNat ka) * (Int32.ofNat kb)) + ((Int32.ofNat kb) * (Int32.ofNat kc))) + ((Int32.ofNat kc) * (Int32.ofNat ka)))) - ((((2 : Int32) * (Int32.ofNat ka)) * (Int32.ofNat kb)) * (Int32.ofNat kc))))] [(.int ((20 : Int32) * (((16 : Int32) * ((((Int32.ofNat ka) * (Int32.ofNat kb)) + ((Int32.ofNat kb) * (Int32.ofNat kc))) + ((Int32.ofNat kc) * (Int32.ofNat ka)))) - ((((2 : Int32) * (Int32.ofNat ka)) * (Int32.ofNat kb)) * (Int32.ofNat kc)))))]))
      refine Good.back (fun _ k => XS.sipush X42.here hx rfl (hb hby at_255) k) ?_
      show Good p e below _ (T42.setTop (mkF m 258 #[.val (.int p0), .val (.int p1), .val (.int p2), .val (.int p3), .val (.int (3 : Int32)), .val (.int (Int32.ofNat ka)), .val (.int (Int32.ofNat kb)), .val (.int (Int32.ofNat kc)), .val (.double (own_R 1 ka)), .second, .val (.double (own_R 1 kb)), .second, .val (.double (own_R 1 kc)), .second, .val (.ref b33), .unset, .val (.int ((4096 : Int32) - ((((16 : Int32) - (Int32.ofNat ka)) * ((16 : Int32) - (Int32.ofNat kb))) * ((16 : Int32) - (Int32.ofNat kc))))), .val (.int (((16 : Int32) * ((((Int32.ofNat ka) * (Int32.ofNat kb)) + ((Int32.ofNat kb) * (Int32.ofNat kc))) + ((Int32.ofNat kc) * (Int32.ofNat ka)))) - ((((2 : Int32) * (Int32.ofNat ka)) * (Int32.ofNat kb)) * (Int32.ofNat kc))))] [(.int (4096 : Int32)), (.int ((20 : Int32) * (((16 : Int32) * ((((Int32.ofNat ka) * (Int32.ofNat kb)) + ((Int32.ofNat kb) * (Int32.ofNat kc))) + ((Int32.ofNat kc) * (Int32.ofNat ka)))) - ((((2 : Int32) * (Int32.ofNat ka)) * (Int32.ofNat kb)) * (Int32.ofNat kc)))))]))
      by_cases hc258_49 : ((20 : Int32) * (((16 : Int32) * ((((Int32.ofNat ka) * (Int32.ofNat kb)) + ((Int32.ofNat kb) * (Int32.ofNat kc))) + ((Int32.ofNat kc) * (Int32.ofNat ka)))) - ((((2 : Int32) * (Int32.ofNat ka)) * (Int32.ofNat kb)) * (Int32.ofNat kc)))) < (4096 : Int32)
      · refine Good.back (fun _ k => XS.icmpNo X42.here hx rfl (hb hby at_258) rfl (tlt hc258_49).2.1 k) ?_
        show Good p e below _ (T42.setTop (mkF m 261 #[.val (.int p0), .val (.int p1), .val (.int p2), .val (.int p3), .val (.int (3 : Int32)), .val (.int (Int32.ofNat ka)), .val (.int (Int32.ofNat kb)), .val (.int (Int32.ofNat kc)), .val (.double (own_R 1 ka)), .second, .val (.double (own_R 1 kb)), .second, .val (.double (own_R 1 kc)), .second, .val (.ref b33), .unset, .val (.int ((4096 : Int32) - ((((16 : Int32) - (Int32.ofNat ka)) * ((16 : Int32) - (Int32.ofNat kb))) * ((16 : Int32) - (Int32.ofNat kc))))), .val (.int (((16 : Int32) * ((((Int32.ofNat ka) * (Int32.ofNat kb)) + ((Int32.ofNat kb) * (Int32.ofNat kc))) + ((Int32.ofNat kc) * (Int32.ofNat ka)))) - ((((2 : Int32) * (Int32.ofNat ka)) * (Int32.ofNat kb)) * (Int32.ofNat kc))))] []))
        refine Good.back (fun _ k => XS.iconst X42.here hx rfl (hb hby at_261) k) ?_
        show Good p e below _ (T42.setTop (mkF m 262 #[.val (.int p0), .val (.int p1), .val (.int p2), .val (.int p3), .val (.int (3 : Int32)), .val (.int (Int32.ofNat ka)), .val (.int (Int32.ofNat kb)), .val (.int (Int32.ofNat kc)), .val (.double (own_R 1 ka)), .second, .val (.double (own_R 1 kb)), .second, .val (.double (own_R 1 kc)), .second, .val (.ref b33), .unset, .val (.int ((4096 : Int32) - ((((16 : Int32) - (Int32.ofNat ka)) * ((16 : Int32) - (Int32.ofNat kb))) * ((16 : Int32) - (Int32.ofNat kc))))), .val (.int (((16 : Int32) * ((((Int32.ofNat ka) * (Int32.ofNat kb)) + ((Int32.ofNat kb) * (Int32.ofNat kc))) + ((Int32.ofNat kc) * (Int32.ofNat ka)))) - ((((2 : Int32) * (Int32.ofNat ka)) * (Int32.ofNat kb)) * (Int32.ofNat kc))))] [(.int (2 : Int32))]))
        refine Good.back (fun _ k => XS.goto X42.here hx rfl (pc0 := 262) (pc' := 266) rfl (hb hby at_262) (by decide) (by decide) k) ?_
        show Good p e below _ (T42.setTop (mkF m 266 #[.val (.int p0), .val (.int p1), .val (.int p2), .val (.int p3), .val (.int (3 : Int32)), .val (.int (Int32.ofNat ka)), .val (.int (Int32.ofNat kb)), .val (.int (Int32.ofNat kc)), .val (.double (own_R 1 ka)), .second, .val (.double (own_R 1 kb)), .second, .val (.double (own_R 1 kc)), .second, .val (.ref b33), .unset, .val (.int ((4096 : Int32) - ((((16 : Int32) - (Int32.ofNat ka)) * ((16 : Int32) - (Int32.ofNat kb))) * ((16 : Int32) - (Int32.ofNat kc))))), .val (.int (((16 : Int32) * ((((Int32.ofNat ka) * (Int32.ofNat kb)) + ((Int32.ofNat kb) * (Int32.ofNat kc))) + ((Int32.ofNat kc) * (Int32.ofNat ka)))) - ((((2 : Int32) * (Int32.ofNat ka)) * (Int32.ofNat kb)) * (Int32.ofNat kc))))] [(.int (2 : Int32))]))
        refine Good.back (fun _ k => XS.istore X42.here hx rfl (hb hby at_266) rfl (l' := #[.val (.int p0), .val (.int p1), .val (.int p2), .val (.int p3), .val (.int (3 : Int32)), .val (.int (Int32.ofNat ka)), .val (.int (Int32.ofNat kb)), .val (.int (Int32.ofNat kc)), .val (.double (own_R 1 ka)), .second, .val (.double (own_R 1 kb)), .second, .val (.double (own_R 1 kc)), .second, .val (.ref b33), .val (.int (2 : Int32)), .val (.int ((4096 : Int32) - ((((16 : Int32) - (Int32.ofNat ka)) * ((16 : Int32) - (Int32.ofNat kb))) * ((16 : Int32) - (Int32.ofNat kc))))), .val (.int (((16 : Int32) * ((((Int32.ofNat ka) * (Int32.ofNat kb)) + ((Int32.ofNat kb) * (Int32.ofNat kc))) + ((Int32.ofNat kc) * (Int32.ofNat ka)))) - ((((2 : Int32) * (Int32.ofNat ka)) * (Int32.ofNat kb)) * (Int32.ofNat kc))))]) rfl k) ?_
        show Good p e below _ (T42.setTop (mkF m 268 #[.val (.int p0), .val (.int p1), .val (.int p2), .val (.int p3), .val (.int (3 : Int32)), .val (.int (Int32.ofNat ka)), .val (.int (Int32.ofNat kb)), .val (.int (Int32.ofNat kc)), .val (.double (own_R 1 ka)), .second, .val (.double (own_R 1 kb)), .second, .val (.double (own_R 1 kc)), .second, .val (.ref b33), .val (.int (2 : Int32)), .val (.int ((4096 : Int32) - ((((16 : Int32) - (Int32.ofNat ka)) * ((16 : Int32) - (Int32.ofNat kb))) * ((16 : Int32) - (Int32.ofNat kc))))), .val (.int (((16 : Int32) * ((((Int32.ofNat ka) * (Int32.ofNat kb)) + ((Int32.ofNat kb) * (Int32.ofNat kc))) + ((Int32.ofNat kc) * (Int32.ofNat ka)))) - ((((2 : Int32) * (Int32.ofNat ka)) * (Int32.ofNat kb)) * (Int32.ofNat kc))))] []))
        refine Good.back (fun _ k => XS.aload X42.here hx rfl (hb hby at_268) rfl rfl k) ?_
        show Good p e below _ (T42.setTop (mkF m 270 #[.val (.int p0), .val (.int p1), .val (.int p2), .val (.int p3), .val (.int (3 : Int32)), .val (.int (Int32.ofNat ka)), .val (.int (Int32.ofNat kb)), .val (.int (Int32.ofNat kc)), .val (.double (own_R 1 ka)), .second, .val (.double (own_R 1 kb)), .second, .val (.double (own_R 1 kc)), .second, .val (.ref b33), .val (.int (2 : Int32)), .val (.int ((4096 : Int32) - ((((16 : Int32) - (Int32.ofNat ka)) * ((16 : Int32) - (Int32.ofNat kb))) * ((16 : Int32) - (Int32.ofNat kc))))), .val (.int (((16 : Int32) * ((((Int32.ofNat ka) * (Int32.ofNat kb)) + ((Int32.ofNat kb) * (Int32.ofNat kc))) + ((Int32.ofNat kc) * (Int32.ofNat ka)))) - ((((2 : Int32) * (Int32.ofNat ka)) * (Int32.ofNat kb)) * (Int32.ofNat kc))))] [(.ref b33)]))
        obtain ⟨_, _, ⟨T50, L50, k50, n50⟩, -, X50, ⟨Lc50, hQ50, l50, y50, z50⟩, st50⟩ := Jvm.LawKit.callS X42 hx (y := (⟨"com/example/fradno/fradno/core/Consensus", "leastCount", "([D)I"⟩ : MethodName)) hown (mvT hZ (hw _ (List.mem_of_getElem? (i := 3) rfl))) (mvT hZ (hw _ (List.mem_of_getElem? (i := 4) rfl))) (mvT hZ (hw _ (List.mem_of_getElem? (i := 5) rfl))) (mvT hZ (hw _ (List.mem_of_getElem? (i := 6) rfl))) (by decide) (backOf (W := 0) (rm1_3 l Z a0 hw [] b33 k33 ka kb kc h42 n0 Z44 f_43 (Nat.le_of_lt_succ hka) (Nat.le_of_lt_succ hkb) (Nat.le_of_lt_succ hkc)) hZ (hw _ (List.mem_of_getElem? (i := 6) rfl)) (hw _ (List.mem_of_getElem? (i := 5) rfl)) (by decide) (by decide)) (g := (mkF m 270 #[.val (.int p0), .val (.int p1), .val (.int p2), .val (.int p3), .val (.int (3 : Int32)), .val (.int (Int32.ofNat ka)), .val (.int (Int32.ofNat kb)), .val (.int (Int32.ofNat kc)), .val (.double (own_R 1 ka)), .second, .val (.double (own_R 1 kb)), .second, .val (.double (own_R 1 kc)), .second, .val (.ref b33), .val (.int (2 : Int32)), .val (.int ((4096 : Int32) - ((((16 : Int32) - (Int32.ofNat ka)) * ((16 : Int32) - (Int32.ofNat kb))) * ((16 : Int32) - (Int32.ofNat kc))))), .val (.int (((16 : Int32) * ((((Int32.ofNat ka) * (Int32.ofNat kb)) + ((Int32.ofNat kb) * (Int32.ofNat kc))) + ((Int32.ofNat kc) * (Int32.ofNat ka)))) - ((((2 : Int32) * (Int32.ofNat ka)) * (Int32.ofNat kb)) * (Int32.ofNat kc))))] [(.ref b33)])) rfl (by rw [hml]; rfl) (argsL := [(.ref b33)]) (rest := []) (lenOf own_pd92 rfl) rfl (by show 2 * 0 + _ ≤ _; exact Nat.le_of_eq rfl) (hb hby at_270) (fun _ _ => ⟨rfl, e42, (by decide : 1 + 4 ≤ _), (by decide : 3 + 10 ≤ _)⟩)
        dsimp only [Pt.U, Pt.locs, Pt.cells, Pt.slots] at X50 l50 y50 z50 st50 hQ50
        subst l50 y50 z50
        obtain ⟨rfl, N50q, Kq50⟩ := hQ50
        have N50 := Fr.app N42 N50q
        have Z51 : n0 ≤ T50.heap.size := Nat.le_trans Z44 Kq50.1
        refine Good.back st50 ?_
        show Good p e below _ (T50.setTop (mkF m 273 #[.val (.int p0), .val (.int p1), .val (.int p2), .val (.int p3), .val (.int (3 : Int32)), .val (.int (Int32.ofNat ka)), .val (.int (Int32.ofNat kb)), .val (.int (Int32.ofNat kc)), .val (.double (own_R 1 ka)), .second, .val (.double (own_R 1 kb)), .second, .val (.double (own_R 1 kc)), .second, .val (.ref b33), .val (.int (2 : Int32)), .val (.int ((4096 : Int32) - ((((16 : Int32) - (Int32.ofNat ka)) * ((16 : Int32) - (Int32.ofNat kb))) * ((16 : Int32) - (Int32.ofNat kc))))), .val (.int (((16 : Int32) * ((((Int32.ofNat ka) * (Int32.ofNat kb)) + ((Int32.ofNat kb) * (Int32.ofNat kc))) + ((Int32.ofNat kc) * (Int32.ofNat ka)))) - ((((2 : Int32) * (Int32.ofNat ka)) * (Int32.ofNat kb)) * (Int32.ofNat kc))))] [(.int (if 20 * ((((ka * kb) * kc) + (((((16 - ka) * kb) + (ka * (16 - kb))) * kc) + ((ka * kb) * (16 - kc)))) + ((((16 - ka) * (16 - kb)) * kc) + ((((16 - ka) * kb) + (ka * (16 - kb))) * (16 - kc)))) < 16 ^ 3 then (1 : Int32) else (if 20 * (((ka * kb) * kc) + (((((16 - ka) * kb) + (ka * (16 - kb))) * kc) + ((ka * kb) * (16 - kc)))) < 16 ^ 3 then (2 : Int32) else (3 : Int32))))]))
        rw [show ((if 20 * ((((ka * kb) * kc) + (((((16 - ka) * kb) + (ka * (16 - kb))) * kc) + ((ka * kb) * (16 - kc)))) + ((((16 - ka) * (16 - kb)) * kc) + ((((16 - ka) * kb) + (ka * (16 - kb))) * (16 - kc)))) < 16 ^ 3 then (1 : Int32) else (if 20 * (((ka * kb) * kc) + (((((16 - ka) * kb) + (ka * (16 - kb))) * kc) + ((ka * kb) * (16 - kc)))) < 16 ^ 3 then (2 : Int32) else (3 : Int32))) : Int32) = (2 : Int32) from by rw [if_neg (fun q => hc243_45 ((own_e243 ⟨ka, hka⟩ ⟨kb, hkb⟩ ⟨kc, hkc⟩).mpr q)), if_pos ((own_e258 ⟨ka, hka⟩ ⟨kb, hkb⟩ ⟨kc, hkc⟩).mp hc258_49)]]
        show Good p e below _ (T50.setTop (mkF m 273 #[.val (.int p0), .val (.int p1), .val (.int p2), .val (.int p3), .val (.int (3 : Int32)), .val (.int (Int32.ofNat ka)), .val (.int (Int32.ofNat kb)), .val (.int (Int32.ofNat kc)), .val (.double (own_R 1 ka)), .second, .val (.double (own_R 1 kb)), .second, .val (.double (own_R 1 kc)), .second, .val (.ref b33), .val (.int (2 : Int32)), .val (.int ((4096 : Int32) - ((((16 : Int32) - (Int32.ofNat ka)) * ((16 : Int32) - (Int32.ofNat kb))) * ((16 : Int32) - (Int32.ofNat kc))))), .val (.int (((16 : Int32) * ((((Int32.ofNat ka) * (Int32.ofNat kb)) + ((Int32.ofNat kb) * (Int32.ofNat kc))) + ((Int32.ofNat kc) * (Int32.ofNat ka)))) - ((((2 : Int32) * (Int32.ofNat ka)) * (Int32.ofNat kb)) * (Int32.ofNat kc))))] [(.int (2 : Int32))]))
        refine Good.back (fun _ k => XS.iload X50.here hx rfl (hb hby at_273) rfl k) ?_
        show Good p e below _ (T50.setTop (mkF m 275 #[.val (.int p0), .val (.int p1), .val (.int p2), .val (.int p3), .val (.int (3 : Int32)), .val (.int (Int32.ofNat ka)), .val (.int (Int32.ofNat kb)), .val (.int (Int32.ofNat kc)), .val (.double (own_R 1 ka)), .second, .val (.double (own_R 1 kb)), .second, .val (.double (own_R 1 kc)), .second, .val (.ref b33), .val (.int (2 : Int32)), .val (.int ((4096 : Int32) - ((((16 : Int32) - (Int32.ofNat ka)) * ((16 : Int32) - (Int32.ofNat kb))) * ((16 : Int32) - (Int32.ofNat kc))))), .val (.int (((16 : Int32) * ((((Int32.ofNat ka) * (Int32.ofNat kb)) + ((Int32.ofNat kb) * (Int32.ofNat kc))) + ((Int32.ofNat kc) * (Int32.ofNat ka)))) - ((((2 : Int32) * (Int32.ofNat ka)) * (Int32.ofNat kb)) * (Int32.ofNat kc))))] [(.int (2 : Int32)), (.int (2 : Int32))]))
        refine Good.back (fun _ k => XS.icmpNo X50.here hx rfl (hb hby at_275) rfl (teq (by decide : ((2 : Int32) = (2 : Int32)))).2 k) ?_
        show Good p e below _ (T50.setTop (mkF m 278 #[.val (.int p0), .val (.int p1), .val (.int p2), .val (.int p3), .val (.int (3 : Int32)), .val (.int (Int32.ofNat ka)), .val (.int (Int32.ofNat kb)), .val (.int (Int32.ofNat kc)), .val (.double (own_R 1 ka)), .second, .val (.double (own_R 1 kb)), .second, .val (.double (own_R 1 kc)), .second, .val (.ref b33), .val (.int (2 : Int32)), .val (.int ((4096 : Int32) - ((((16 : Int32) - (Int32.ofNat ka)) * ((16 : Int32) - (Int32.ofNat kb))) * ((16 : Int32) - (Int32.ofNat kc))))), .val (.int (((16 : Int32) * ((((Int32.ofNat ka) * (Int32.ofNat kb)) + ((Int32.ofNat kb) * (Int32.ofNat kc))) + ((Int32.ofNat kc) * (Int32.ofNat ka)))) - ((((2 : Int32) * (Int32.ofNat ka)) * (Int32.ofNat kb)) * (Int32.ofNat kc))))] []))
        refine Good.back (fun _ k => XS.iconst X50.here hx rfl (hb hby at_278) k) ?_
        show Good p e below _ (T50.setTop (mkF m 279 #[.val (.int p0), .val (.int p1), .val (.int p2), .val (.int p3), .val (.int (3 : Int32)), .val (.int (Int32.ofNat ka)), .val (.int (Int32.ofNat kb)), .val (.int (Int32.ofNat kc)), .val (.double (own_R 1 ka)), .second, .val (.double (own_R 1 kb)), .second, .val (.double (own_R 1 kc)), .second, .val (.ref b33), .val (.int (2 : Int32)), .val (.int ((4096 : Int32) - ((((16 : Int32) - (Int32.ofNat ka)) * ((16 : Int32) - (Int32.ofNat kb))) * ((16 : Int32) - (Int32.ofNat kc))))), .val (.int (((16 : Int32) * ((((Int32.ofNat ka) * (Int32.ofNat kb)) + ((Int32.ofNat kb) * (Int32.ofNat kc))) + ((Int32.ofNat kc) * (Int32.ofNat ka)))) - ((((2 : Int32) * (Int32.ofNat ka)) * (Int32.ofNat kb)) * (Int32.ofNat kc))))] [(.int (1 : Int32))]))
        refine Good.back (fun _ k => XS.goto X50.here hx rfl (pc0 := 279) (pc' := 283) rfl (hb hby at_279) (by decide) (by decide) k) ?_
        show Good p e below _ (T50.setTop (mkF m 283 #[.val (.int p0), .val (.int p1), .val (.int p2), .val (.int p3), .val (.int (3 : Int32)), .val (.int (Int32.ofNat ka)), .val (.int (Int32.ofNat kb)), .val (.int (Int32.ofNat kc)), .val (.double (own_R 1 ka)), .second, .val (.double (own_R 1 kb)), .second, .val (.double (own_R 1 kc)), .second, .val (.ref b33), .val (.int (2 : Int32)), .val (.int ((4096 : Int32) - ((((16 : Int32) - (Int32.ofNat ka)) * ((16 : Int32) - (Int32.ofNat kb))) * ((16 : Int32) - (Int32.ofNat kc))))), .val (.int (((16 : Int32) * ((((Int32.ofNat ka) * (Int32.ofNat kb)) + ((Int32.ofNat kb) * (Int32.ofNat kc))) + ((Int32.ofNat kc) * (Int32.ofNat ka)))) - ((((2 : Int32) * (Int32.ofNat ka)) * (Int32.ofNat kb)) * (Int32.ofNat kc))))] [(.int (1 : Int32))]))
        obtain ⟨fs52, hr52, hrun52, hended52, hW52, hsame52⟩ := X50.leave (v := some (.int (1 : Int32))) (fun h => by rw [Bd.returns] at h; cases h)
        refine Good.done (retN X50 hx (t := .boolean) Bd.returns (by simp) (hb hby at_283) hr52) hrun52 hended52 ⟨_, _, rfl, ?_, ⟨_, rfl⟩, hW52, hsame52.mono (by decide) (by decide)⟩
        show Q0 Z p0 p1 p2 p3 h0 n0 _ T50.heap _
        exact ⟨rfl, N50⟩
      · refine Good.back (fun _ k => XS.icmpYes X42.here hx rfl (pc0 := 258) (pc' := 265) rfl (hb hby at_258) rfl (flt hc258_49).2.1 (by decide) (by decide) k) ?_
        show Good p e below _ (T42.setTop (mkF m 265 #[.val (.int p0), .val (.int p1), .val (.int p2), .val (.int p3), .val (.int (3 : Int32)), .val (.int (Int32.ofNat ka)), .val (.int (Int32.ofNat kb)), .val (.int (Int32.ofNat kc)), .val (.double (own_R 1 ka)), .second, .val (.double (own_R 1 kb)), .second, .val (.double (own_R 1 kc)), .second, .val (.ref b33), .unset, .val (.int ((4096 : Int32) - ((((16 : Int32) - (Int32.ofNat ka)) * ((16 : Int32) - (Int32.ofNat kb))) * ((16 : Int32) - (Int32.ofNat kc))))), .val (.int (((16 : Int32) * ((((Int32.ofNat ka) * (Int32.ofNat kb)) + ((Int32.ofNat kb) * (Int32.ofNat kc))) + ((Int32.ofNat kc) * (Int32.ofNat ka)))) - ((((2 : Int32) * (Int32.ofNat ka)) * (Int32.ofNat kb)) * (Int32.ofNat kc))))] []))
        refine Good.back (fun _ k => XS.iconst X42.here hx rfl (hb hby at_265) k) ?_
        show Good p e below _ (T42.setTop (mkF m 266 #[.val (.int p0), .val (.int p1), .val (.int p2), .val (.int p3), .val (.int (3 : Int32)), .val (.int (Int32.ofNat ka)), .val (.int (Int32.ofNat kb)), .val (.int (Int32.ofNat kc)), .val (.double (own_R 1 ka)), .second, .val (.double (own_R 1 kb)), .second, .val (.double (own_R 1 kc)), .second, .val (.ref b33), .unset, .val (.int ((4096 : Int32) - ((((16 : Int32) - (Int32.ofNat ka)) * ((16 : Int32) - (Int32.ofNat kb))) * ((16 : Int32) - (Int32.ofNat kc))))), .val (.int (((16 : Int32) * ((((Int32.ofNat ka) * (Int32.ofNat kb)) + ((Int32.ofNat kb) * (Int32.ofNat kc))) + ((Int32.ofNat kc) * (Int32.ofNat ka)))) - ((((2 : Int32) * (Int32.ofNat ka)) * (Int32.ofNat kb)) * (Int32.ofNat kc))))] [(.int (3 : Int32))]))
        refine Good.back (fun _ k => XS.istore X42.here hx rfl (hb hby at_266) rfl (l' := #[.val (.int p0), .val (.int p1), .val (.int p2), .val (.int p3), .val (.int (3 : Int32)), .val (.int (Int32.ofNat ka)), .val (.int (Int32.ofNat kb)), .val (.int (Int32.ofNat kc)), .val (.double (own_R 1 ka)), .second, .val (.double (own_R 1 kb)), .second, .val (.double (own_R 1 kc)), .second, .val (.ref b33), .val (.int (3 : Int32)), .val (.int ((4096 : Int32) - ((((16 : Int32) - (Int32.ofNat ka)) * ((16 : Int32) - (Int32.ofNat kb))) * ((16 : Int32) - (Int32.ofNat kc))))), .val (.int (((16 : Int32) * ((((Int32.ofNat ka) * (Int32.ofNat kb)) + ((Int32.ofNat kb) * (Int32.ofNat kc))) + ((Int32.ofNat kc) * (Int32.ofNat ka)))) - ((((2 : Int32) * (Int32.ofNat ka)) * (Int32.ofNat kb)) * (Int32.ofNat kc))))]) rfl k) ?_
        show Good p e below _ (T42.setTop (mkF m 268 #[.val (.int p0), .val (.int p1), .val (.int p2), .val (.int p3), .val (.int (3 : Int32)), .val (.int (Int32.ofNat ka)), .val (.int (Int32.ofNat kb)), .val (.int (Int32.ofNat kc)), .val (.double (own_R 1 ka)), .second, .val (.double (own_R 1 kb)), .second, .val (.double (own_R 1 kc)), .second, .val (.ref b33), .val (.int (3 : Int32)), .val (.int ((4096 : Int32) - ((((16 : Int32) - (Int32.ofNat ka)) * ((16 : Int32) - (Int32.ofNat kb))) * ((16 : Int32) - (Int32.ofNat kc))))), .val (.int (((16 : Int32) * ((((Int32.ofNat ka) * (Int32.ofNat kb)) + ((Int32.ofNat kb) * (Int32.ofNat kc))) + ((Int32.ofNat kc) * (Int32.ofNat ka)))) - ((((2 : Int32) * (Int32.ofNat ka)) * (Int32.ofNat kb)) * (Int32.ofNat kc))))] []))
        refine Good.back (fun _ k => XS.aload X42.here hx rfl (hb hby at_268) rfl rfl k) ?_
        show Good p e below _ (T42.setTop (mkF m 270 #[.val (.int p0), .val (.int p1), .val (.int p2), .val (.int p3), .val (.int (3 : Int32)), .val (.int (Int32.ofNat ka)), .val (.int (Int32.ofNat kb)), .val (.int (Int32.ofNat kc)), .val (.double (own_R 1 ka)), .second, .val (.double (own_R 1 kb)), .second, .val (.double (own_R 1 kc)), .second, .val (.ref b33), .val (.int (3 : Int32)), .val (.int ((4096 : Int32) - ((((16 : Int32) - (Int32.ofNat ka)) * ((16 : Int32) - (Int32.ofNat kb))) * ((16 : Int32) - (Int32.ofNat kc))))), .val (.int (((16 : Int32) * ((((Int32.ofNat ka) * (Int32.ofNat kb)) + ((Int32.ofNat kb) * (Int32.ofNat kc))) + ((Int32.ofNat kc) * (Int32.ofNat ka)))) - ((((2 : Int32) * (Int32.ofNat ka)) * (Int32.ofNat kb)) * (Int32.ofNat kc))))] [(.ref b33)]))
        obtain ⟨_, _, ⟨T53, L53, k53, n53⟩, -, X53, ⟨Lc53, hQ53, l53, y53, z53⟩, st53⟩ := Jvm.LawKit.callS X42 hx (y := (⟨"com/example/fradno/fradno/core/Consensus", "leastCount", "([D)I"⟩ : MethodName)) hown (mvT hZ (hw _ (List.mem_of_getElem? (i := 3) rfl))) (mvT hZ (hw _ (List.mem_of_getElem? (i := 4) rfl))) (mvT hZ (hw _ (List.mem_of_getElem? (i := 5) rfl))) (mvT hZ (hw _ (List.mem_of_getElem? (i := 6) rfl))) (by decide) (backOf (W := 0) (rm1_3 l Z a0 hw [] b33 k33 ka kb kc h42 n0 Z44 f_43 (Nat.le_of_lt_succ hka) (Nat.le_of_lt_succ hkb) (Nat.le_of_lt_succ hkc)) hZ (hw _ (List.mem_of_getElem? (i := 6) rfl)) (hw _ (List.mem_of_getElem? (i := 5) rfl)) (by decide) (by decide)) (g := (mkF m 270 #[.val (.int p0), .val (.int p1), .val (.int p2), .val (.int p3), .val (.int (3 : Int32)), .val (.int (Int32.ofNat ka)), .val (.int (Int32.ofNat kb)), .val (.int (Int32.ofNat kc)), .val (.double (own_R 1 ka)), .second, .val (.double (own_R 1 kb)), .second, .val (.double (own_R 1 kc)), .second, .val (.ref b33), .val (.int (3 : Int32)), .val (.int ((4096 : Int32) - ((((16 : Int32) - (Int32.ofNat ka)) * ((16 : Int32) - (Int32.ofNat kb))) * ((16 : Int32) - (Int32.ofNat kc))))), .val (.int (((16 : Int32) * ((((Int32.ofNat ka) * (Int32.ofNat kb)) + ((Int32.ofNat kb) * (Int32.ofNat kc))) + ((Int32.ofNat kc) * (Int32.ofNat ka)))) - ((((2 : Int32) * (Int32.ofNat ka)) * (Int32.ofNat kb)) * (Int32.ofNat kc))))] [(.ref b33)])) rfl (by rw [hml]; rfl) (argsL := [(.ref b33)]) (rest := []) (lenOf own_pd92 rfl) rfl (by show 2 * 0 + _ ≤ _; exact Nat.le_of_eq rfl) (hb hby at_270) (fun _ _ => ⟨rfl, e42, (by decide : 1 + 4 ≤ _), (by decide : 3 + 10 ≤ _)⟩)
        dsimp only [Pt.U, Pt.locs, Pt.cells, Pt.slots] at X53 l53 y53 z53 st53 hQ53
        subst l53 y53 z53
        obtain ⟨rfl, N53q, Kq53⟩ := hQ53
        have N53 := Fr.app N42 N53q
        have Z54 : n0 ≤ T53.heap.size := Nat.le_trans Z44 Kq53.1
        refine Good.back st53 ?_
        show Good p e below _ (T53.setTop (mkF m 273 #[.val (.int p0), .val (.int p1), .val (.int p2), .val (.int p3), .val (.int (3 : Int32)), .val (.int (Int32.ofNat ka)), .val (.int (Int32.ofNat kb)), .val (.int (Int32.ofNat kc)), .val (.double (own_R 1 ka)), .second, .val (.double (own_R 1 kb)), .second, .val (.double (own_R 1 kc)), .second, .val (.ref b33), .val (.int (3 : Int32)), .val (.int ((4096 : Int32) - ((((16 : Int32) - (Int32.ofNat ka)) * ((16 : Int32) - (Int32.ofNat kb))) * ((16 : Int32) - (Int32.ofNat kc))))), .val (.int (((16 : Int32) * ((((Int32.ofNat ka) * (Int32.ofNat kb)) + ((Int32.ofNat kb) * (Int32.ofNat kc))) + ((Int32.ofNat kc) * (Int32.ofNat ka)))) - ((((2 : Int32) * (Int32.ofNat ka)) * (Int32.ofNat kb)) * (Int32.ofNat kc))))] [(.int (if 20 * ((((ka * kb) * kc) + (((((16 - ka) * kb) + (ka * (16 - kb))) * kc) + ((ka * kb) * (16 - kc)))) + ((((16 - ka) * (16 - kb)) * kc) + ((((16 - ka) * kb) + (ka * (16 - kb))) * (16 - kc)))) < 16 ^ 3 then (1 : Int32) else (if 20 * (((ka * kb) * kc) + (((((16 - ka) * kb) + (ka * (16 - kb))) * kc) + ((ka * kb) * (16 - kc)))) < 16 ^ 3 then (2 : Int32) else (3 : Int32))))]))
        rw [show ((if 20 * ((((ka * kb) * kc) + (((((16 - ka) * kb) + (ka * (16 - kb))) * kc) + ((ka * kb) * (16 - kc)))) + ((((16 - ka) * (16 - kb)) * kc) + ((((16 - ka) * kb) + (ka * (16 - kb))) * (16 - kc)))) < 16 ^ 3 then (1 : Int32) else (if 20 * (((ka * kb) * kc) + (((((16 - ka) * kb) + (ka * (16 - kb))) * kc) + ((ka * kb) * (16 - kc)))) < 16 ^ 3 then (2 : Int32) else (3 : Int32))) : Int32) = (3 : Int32) from by rw [if_neg (fun q => hc243_45 ((own_e243 ⟨ka, hka⟩ ⟨kb, hkb⟩ ⟨kc, hkc⟩).mpr q)), if_neg (fun q => hc258_49 ((own_e258 ⟨ka, hka⟩ ⟨kb, hkb⟩ ⟨kc, hkc⟩).mpr q))]]
        show Good p e below _ (T53.setTop (mkF m 273 #[.val (.int p0), .val (.int p1), .val (.int p2), .val (.int p3), .val (.int (3 : Int32)), .val (.int (Int32.ofNat ka)), .val (.int (Int32.ofNat kb)), .val (.int (Int32.ofNat kc)), .val (.double (own_R 1 ka)), .second, .val (.double (own_R 1 kb)), .second, .val (.double (own_R 1 kc)), .second, .val (.ref b33), .val (.int (3 : Int32)), .val (.int ((4096 : Int32) - ((((16 : Int32) - (Int32.ofNat ka)) * ((16 : Int32) - (Int32.ofNat kb))) * ((16 : Int32) - (Int32.ofNat kc))))), .val (.int (((16 : Int32) * ((((Int32.ofNat ka) * (Int32.ofNat kb)) + ((Int32.ofNat kb) * (Int32.ofNat kc))) + ((Int32.ofNat kc) * (Int32.ofNat ka)))) - ((((2 : Int32) * (Int32.ofNat ka)) * (Int32.ofNat kb)) * (Int32.ofNat kc))))] [(.int (3 : Int32))]))
        refine Good.back (fun _ k => XS.iload X53.here hx rfl (hb hby at_273) rfl k) ?_
        show Good p e below _ (T53.setTop (mkF m 275 #[.val (.int p0), .val (.int p1), .val (.int p2), .val (.int p3), .val (.int (3 : Int32)), .val (.int (Int32.ofNat ka)), .val (.int (Int32.ofNat kb)), .val (.int (Int32.ofNat kc)), .val (.double (own_R 1 ka)), .second, .val (.double (own_R 1 kb)), .second, .val (.double (own_R 1 kc)), .second, .val (.ref b33), .val (.int (3 : Int32)), .val (.int ((4096 : Int32) - ((((16 : Int32) - (Int32.ofNat ka)) * ((16 : Int32) - (Int32.ofNat kb))) * ((16 : Int32) - (Int32.ofNat kc))))), .val (.int (((16 : Int32) * ((((Int32.ofNat ka) * (Int32.ofNat kb)) + ((Int32.ofNat kb) * (Int32.ofNat kc))) + ((Int32.ofNat kc) * (Int32.ofNat ka)))) - ((((2 : Int32) * (Int32.ofNat ka)) * (Int32.ofNat kb)) * (Int32.ofNat kc))))] [(.int (3 : Int32)), (.int (3 : Int32))]))
        refine Good.back (fun _ k => XS.icmpNo X53.here hx rfl (hb hby at_275) rfl (teq (by decide : ((3 : Int32) = (3 : Int32)))).2 k) ?_
        show Good p e below _ (T53.setTop (mkF m 278 #[.val (.int p0), .val (.int p1), .val (.int p2), .val (.int p3), .val (.int (3 : Int32)), .val (.int (Int32.ofNat ka)), .val (.int (Int32.ofNat kb)), .val (.int (Int32.ofNat kc)), .val (.double (own_R 1 ka)), .second, .val (.double (own_R 1 kb)), .second, .val (.double (own_R 1 kc)), .second, .val (.ref b33), .val (.int (3 : Int32)), .val (.int ((4096 : Int32) - ((((16 : Int32) - (Int32.ofNat ka)) * ((16 : Int32) - (Int32.ofNat kb))) * ((16 : Int32) - (Int32.ofNat kc))))), .val (.int (((16 : Int32) * ((((Int32.ofNat ka) * (Int32.ofNat kb)) + ((Int32.ofNat kb) * (Int32.ofNat kc))) + ((Int32.ofNat kc) * (Int32.ofNat ka)))) - ((((2 : Int32) * (Int32.ofNat ka)) * (Int32.ofNat kb)) * (Int32.ofNat kc))))] []))
        refine Good.back (fun _ k => XS.iconst X53.here hx rfl (hb hby at_278) k) ?_
        show Good p e below _ (T53.setTop (mkF m 279 #[.val (.int p0), .val (.int p1), .val (.int p2), .val (.int p3), .val (.int (3 : Int32)), .val (.int (Int32.ofNat ka)), .val (.int (Int32.ofNat kb)), .val (.int (Int32.ofNat kc)), .val (.double (own_R 1 ka)), .second, .val (.double (own_R 1 kb)), .second, .val (.double (own_R 1 kc)), .second, .val (.ref b33), .val (.int (3 : Int32)), .val (.int ((4096 : Int32) - ((((16 : Int32) - (Int32.ofNat ka)) * ((16 : Int32) - (Int32.ofNat kb))) * ((16 : Int32) - (Int32.ofNat kc))))), .val (.int (((16 : Int32) * ((((Int32.ofNat ka) * (Int32.ofNat kb)) + ((Int32.ofNat kb) * (Int32.ofNat kc))) + ((Int32.ofNat kc) * (Int32.ofNat ka)))) - ((((2 : Int32) * (Int32.ofNat ka)) * (Int32.ofNat kb)) * (Int32.ofNat kc))))] [(.int (1 : Int32))]))
        refine Good.back (fun _ k => XS.goto X53.here hx rfl (pc0 := 279) (pc' := 283) rfl (hb hby at_279) (by decide) (by decide) k) ?_
        show Good p e below _ (T53.setTop (mkF m 283 #[.val (.int p0), .val (.int p1), .val (.int p2), .val (.int p3), .val (.int (3 : Int32)), .val (.int (Int32.ofNat ka)), .val (.int (Int32.ofNat kb)), .val (.int (Int32.ofNat kc)), .val (.double (own_R 1 ka)), .second, .val (.double (own_R 1 kb)), .second, .val (.double (own_R 1 kc)), .second, .val (.ref b33), .val (.int (3 : Int32)), .val (.int ((4096 : Int32) - ((((16 : Int32) - (Int32.ofNat ka)) * ((16 : Int32) - (Int32.ofNat kb))) * ((16 : Int32) - (Int32.ofNat kc))))), .val (.int (((16 : Int32) * ((((Int32.ofNat ka) * (Int32.ofNat kb)) + ((Int32.ofNat kb) * (Int32.ofNat kc))) + ((Int32.ofNat kc) * (Int32.ofNat ka)))) - ((((2 : Int32) * (Int32.ofNat ka)) * (Int32.ofNat kb)) * (Int32.ofNat kc))))] [(.int (1 : Int32))]))
        obtain ⟨fs55, hr55, hrun55, hended55, hW55, hsame55⟩ := X53.leave (v := some (.int (1 : Int32))) (fun h => by rw [Bd.returns] at h; cases h)
        refine Good.done (retN X53 hx (t := .boolean) Bd.returns (by simp) (hb hby at_283) hr55) hrun55 hended55 ⟨_, _, rfl, ?_, ⟨_, rfl⟩, hW55, hsame55.mono (by decide) (by decide)⟩
        show Q0 Z p0 p1 p2 p3 h0 n0 _ T53.heap _
        exact ⟨rfl, N53⟩
set_option maxRecDepth 65536 in
set_option maxHeartbeats 40000000 in
theorem comes_1 {Post : Tables → Env → Array Value → State → Outcome → State → Prop} (hpost : ∀ tb e args s v u, (limb_1_1.after args s (.returned v) u = true ∧ limb_1_2.after args s (.returned v) u = true ∧ True) → FrameEnd s (.returned v) u (Jvm.fieldLocs frame_1_writes args s ++ Jvm.arrayLocs frame_1_arrays args s ++ Jvm.staticLocs frame_1_statics s) 24 128 → Post tb e args s (.returned v) u) :
    ArmFor flags0 classFile x code maxLocals ret World_1 tables_1 room_1 Calls_1 rest_1 Pre_1 Post := by
  intro l hfl _ _ p e ha hc hk s m args below hf hA hF happ hP
  obtain ⟨hcalls, hrest, hpre⟩ := hP
  obtain ⟨-, -, -, hnamed, -, -, -, hat⟩ := (Spec.applies_iff hf).mp happ
  obtain ⟨hg, hn⟩ := and_e (Cond.before_iff.mp (show (Jvm.Cond.and given_1 narrow_1).before args s = true from hpre))
  obtain ⟨g1, g2⟩ := and_e hg
  obtain ⟨g3, g4⟩ := and_e g2
  obtain ⟨g5, g6⟩ := and_e g4
  obtain ⟨g7, g8⟩ := and_e g6
  obtain ⟨w0, w1, w2, w3, rfl⟩ : ∃ w0 w1 w2 w3 : Value, args = #[w0, w1, w2, w3] := by
    have hs : args.size = 4 := by simpa [Cond.value, given_1] using g1
    obtain ⟨L⟩ := args
    match L, hs with
    | [w0, w1, w2, w3], _ => exact ⟨w0, w1, w2, w3, rfl⟩
  have hw := fun d (hd : d ∈ tables_1) => atoms_spec (ws := Jvm.Cond.code x code maxLocals ret :: tables_1) hat d (List.mem_cons_of_mem _ hd)
  have hfit : Fit s := fun {y c} hc i hi => by
    obtain ⟨ha, rfl⟩ := Array.getElem?_eq_some_iff.mp hc
    have q := List.all_eq_true.mp ((Array.all_eq_true_iff_forall_mem.mp hF) _ (Array.getElem_mem ha)) i (List.mem_range.mpr hi)
    simpa [Array.getElem?_eq_getElem hi] using q
  obtain ⟨i0, ei0⟩ := is_v g3
  obtain rfl : w0 = (.int i0) := Option.some.inj ei0
  obtain ⟨i1, ei1⟩ := is_v g5
  obtain rfl : w1 = (.int i1) := Option.some.inj ei1
  obtain ⟨i2, ei2⟩ := is_v g7
  obtain rfl : w2 = (.int i2) := Option.some.inj ei2
  obtain ⟨i3, ei3⟩ := is_v g8
  obtain rfl : w3 = (.int i3) := Option.some.inj ei3
  obtain ⟨n, o, h1, h2, h3, _, L, rfl, ⟨rfl, N⟩, hq⟩ := rm0 l s _ hw tables_1 i0 i1 i2 i3  s.heap s.heap.size (Nat.le_refl _)  p e ha hc hk s m _ below hf ((Spec.applies_iff_loose hf).mp happ).1 ⟨rfl, State.Warmed39.refl s, rfl⟩ trivial
  refine ⟨n, _, h1, h2, h3, hpost _ _ _ _ _ _ ⟨Cond.after_iff.mpr rfl, Cond.after_iff.mpr (eq_i res_at (Term.int_eval (1)) rfl), trivial⟩ ⟨hq.1, hq.2.1, (hq.2.2.sift fun y hy => Or.inr (N y hy)).mono (by decide) (by decide)⟩⟩
theorem main_1_1 : Claimed_1_1 := comes_1 fun _ _ _ _ _ _ h hF => ⟨h.1, hF⟩
theorem main_1_2 : Claimed_1_2 := comes_1 fun _ _ _ _ _ _ h hF => ⟨h.2.1, hF⟩
end Jvm.Pilot.@@N@@
namespace Jvm.Pilot.@@N@@
open Jvm Jvm.ClassFile Sem Op Lib Jvm.Free Jvm.Stand Jvm.Pilot.@@N@@.Jvm.D
/-! MADE BY PROGRAM (witnessworld.py) out of the Statement's table words and the real class files: 9 classes; the members and pool entries that the words name. The judged class is class 1, her method 1. -/
namespace start1
open Jvm.ClassFile
def u (s : String) : CpInfo := .utf8 (stringToUtf16 s)
/-- a pool by its gaps: so many unusable entries, then the entry; so many at the end -/
def gap : Nat → List CpInfo → List CpInfo
  | 0, r => r
  | n + 1, r => .unusable :: gap n r
def poolList (es : List (Nat × CpInfo)) (last : Nat) : List CpInfo := es.foldr (fun e r => gap e.1 (e.2 :: r)) (gap last [])
def pool (es : List (Nat × CpInfo)) (last : Nat) : Array CpInfo := ⟨poolList es last⟩
def fileOf (pool : Array CpInfo) (this : Nat) (attrs : Array Attribute := #[]) (ms : Array MethodInfo := #[]) (fl : Nat := 33) (sup : Nat := 0) (ifs : Array Nat := #[]) (fds : Array FieldInfo := #[]) : ClassFile where
  minorVersion := 0
  majorVersion := 65
  constantPool := pool
  accessFlags := fl
  thisClass := this
  superClass := sup
  interfaces := ifs
  fields := fds
  methods := ms
  attributes := attrs
def plain (name : String) (sup : Option ClassId) : Class where
  name := name
  kind := .ordinary
  loader := none
  accessFlags := 33
  super := sup
  interfaces := #[]
  cf := none
  fields := #[]
  methods := #[]
  instanceTypes := #[]
  staticTypes := #[]
  resolved := #[]
  callSites := []
  init := .initialized
  statics := none
  mirror := none

def pool0 : Array CpInfo := pool [(5, u "<init>"), (0, u "()V"), (1, .class_ 10), (1, u "java/lang/Object")] 113

def k0m0 : Method := { name := "<init>", desc := "()V", sig := { parameters := [], returnType := none }, accessFlags := 1, code := none }
/-- java/lang/Object -/
def k0 : Class := { plain "java/lang/Object" none with
  accessFlags := 33
  interfaces := #[]
  cf := some (fileOf pool0 8 #[] #[{ accessFlags := 1, nameIndex := 5, descriptorIndex := 6, attributes := #[] }] 33 0 #[] #[])
  fields := #[]
  methods := #[k0m0]
  instanceTypes := #[]
  staticTypes := #[]
  resolved := Array.replicate 124 none
  statics := none }

def pool1 : Array CpInfo := pool [(2, .class_ 4), (1, u "java/lang/Object"), (0, u "<init>"), (0, u "()V"), (0, .integer 2147483647), (0, .double 4625196817309499392), (1, .methodref 11 12), (0, .class_ 13), (0, .nameAndType 14 15), (0, u "com/example/fradno/fradno/core/Consensus"), (0, u "leastCount"), (0, u "([D)I"), (0, .class_ 17), (0, u "com/example/fradno/fradno/core/ConsensusLeastCountPinLaw"), (2, u "law"), (0, u "(IIII)Z")] 5

def k1m0 : Method := { name := "<init>", desc := "()V", sig := { parameters := [], returnType := none }, accessFlags := 2, code := none }
def k1c1 : Code := { maxStack := 5, maxLocals := 18, code := code, exceptionTable := #[], attributes := #[] }
def k1m1 : Method := { name := "law", desc := "(IIII)Z", sig := { parameters := [.int, .int, .int, .int], returnType := some .boolean }, accessFlags := 9, code := some k1c1 }
/-- com/example/fradno/fradno/core/ConsensusLeastCountPinLaw -/
def k1 : Class := { plain "com/example/fradno/fradno/core/ConsensusLeastCountPinLaw" (some 0) with
  accessFlags := 49
  interfaces := #[]
  cf := some (fileOf pool1 16 #[] #[{ accessFlags := 2, nameIndex := 5, descriptorIndex := 6, attributes := #[] }, { accessFlags := 9, nameIndex := 20, descriptorIndex := 21, attributes := #[] }] 49 2 #[] #[])
  fields := #[]
  methods := #[k1m0, k1m1]
  instanceTypes := #[]
  staticTypes := #[]
  resolved := Array.replicate 27 none
  statics := none }

def pool2 : Array CpInfo := pool [(2, .class_ 4), (1, u "java/lang/Object"), (0, u "<init>"), (0, u "()V"), (1, .class_ 10), (1, u "com/example/fradno/fradno/core/Consensus"), (68, .class_ 80), (0, u "com/example/fradno/fradno/core/Consensus$Pool"), (49, u "CANDIDATES"), (0, u "I"), (12, u "leastCount"), (0, u "([D)I"), (0, .double 4587366580439587226), (110, u "SIGNIFICANCE"), (0, u "D"), (1, u "RANK_SCALE"), (0, u "LEAST_WEIGHT"), (0, u "UNCOMPLEMENTED_SHARE")] 65

def k2m0 : Method := { name := "<init>", desc := "()V", sig := { parameters := [], returnType := none }, accessFlags := 2, code := none }
def k2c1 : Code := { maxStack := 10, maxLocals := 9, code := prog_43_method_5_code, exceptionTable := #[], attributes := #[] }
def k2m1 : Method := { name := "leastCount", desc := "([D)I", sig := { parameters := [(.array .double)], returnType := some .int }, accessFlags := 8, code := some k2c1 }
/-- com/example/fradno/fradno/core/Consensus -/
def k2 : Class := { plain "com/example/fradno/fradno/core/Consensus" (some 0) with
  accessFlags := 48
  interfaces := #[]
  cf := some (fileOf pool2 8 #[.nestMembers #[79]] #[{ accessFlags := 2, nameIndex := 5, descriptorIndex := 6, attributes := #[] }, { accessFlags := 8, nameIndex := 144, descriptorIndex := 145, attributes := #[] }] 48 2 #[] #[{ accessFlags := 24, nameIndex := 257, descriptorIndex := 258, attributes := #[] }, { accessFlags := 24, nameIndex := 260, descriptorIndex := 258, attributes := #[] }, { accessFlags := 24, nameIndex := 261, descriptorIndex := 258, attributes := #[] }, { accessFlags := 24, nameIndex := 262, descriptorIndex := 258, attributes := #[] }, { accessFlags := 24, nameIndex := 130, descriptorIndex := 131, attributes := #[] }])
  fields := #[{ name := "SIGNIFICANCE", type := .double, accessFlags := 24, slot := 0, constantValue := 0 }, { name := "RANK_SCALE", type := .double, accessFlags := 24, slot := 1, constantValue := 0 }, { name := "LEAST_WEIGHT", type := .double, accessFlags := 24, slot := 2, constantValue := 0 }, { name := "UNCOMPLEMENTED_SHARE", type := .double, accessFlags := 24, slot := 3, constantValue := 0 }, { name := "CANDIDATES", type := .int, accessFlags := 24, slot := 4, constantValue := 0 }]
  methods := #[k2m0, k2m1]
  instanceTypes := #[]
  staticTypes := #[.double, .double, .double, .double, .int]
  resolved := Array.replicate 328 none
  statics := none }

def pool3 : Array CpInfo := pool [(1, u "java/lang/Cloneable"), (0, .class_ 1), (0, u "java/lang/Object"), (0, .class_ 3)] 3

/-- java/lang/Cloneable -/
def k3 : Class := { plain "java/lang/Cloneable" (some 0) with
  accessFlags := 1537
  interfaces := #[]
  cf := some (fileOf pool3 2 #[] #[] 1537 4 #[] #[])
  fields := #[]
  methods := #[]
  instanceTypes := #[]
  staticTypes := #[]
  resolved := Array.replicate 8 none
  statics := none }

def pool4 : Array CpInfo := pool [(1, u "java/io/Serializable"), (0, .class_ 1), (0, u "java/lang/Object"), (0, .class_ 3)] 3

/-- java/io/Serializable -/
def k4 : Class := { plain "java/io/Serializable" (some 0) with
  accessFlags := 1537
  interfaces := #[]
  cf := some (fileOf pool4 2 #[] #[] 1537 4 #[] #[])
  fields := #[]
  methods := #[]
  instanceTypes := #[]
  staticTypes := #[]
  resolved := Array.replicate 8 none
  statics := none }

/-- the primitive byte -/
def k5 : Class := { plain "byte" none with kind := .primitive 'B', accessFlags := 0x411 }
/-- [B -/
def k6 : Class := { plain "[B" (some 0) with kind := .array 5 .byte, interfaces := #[3, 4], accessFlags := 1041 }

/-- the primitive int -/
def k7 : Class := { plain "int" none with kind := .primitive 'I', accessFlags := 0x411 }
/-- [I -/
def k8 : Class := { plain "[I" (some 0) with kind := .array 7 .int, interfaces := #[3, 4], accessFlags := 1041 }
/-- the primitive double -/
def k9 : Class := { plain "double" none with kind := .primitive 'D', accessFlags := 0x411 }
/-- [D -/
def k10 : Class := { plain "[D" (some 0) with kind := .array 9 .double, interfaces := #[3, 4], accessFlags := 1041 }

def heap : Heap := #[]
def classes : Array Class := #[k0, k1, k2, k3, k4, k5, k6, k7, k8, k9, k10]
def interned : List (Array UInt16 × Addr) := []
def slotsUsed : Nat := 0
def theMethod : MethodId := ⟨1, 1⟩
def args0 : Array Value := #[.int 1, .int 2, .int 3, .int 4]
def aboutOver (below : List Frame) : State where
  vm := { classes := classes, interned := interned.toArray }
  heap := heap
  slotsUsed := slotsUsed
  threads := #[{ frames := .invoking theMethod args0 :: below }]
def below0 : List Frame := [.native { method := ⟨0, 0⟩, args := #[] }]
def about1 : State := aboutOver below0
def p0 : Program := .bare "" "" ""
def e0 : Env := launch0.env 0 0 0
theorem w_frames : about1.frames = Frame.invoking theMethod args0 :: below0 := rfl
set_option maxRecDepth 65536 in
theorem w_args : argsFit about1.vm theMethod args0 = true := by decide +kernel
set_option maxRecDepth 65536 in
theorem w_heap : heapFits about1 = true := by decide +kernel
set_option maxRecDepth 65536 in
theorem w_runnable : about1.curStatus? = some .runnable := by decide +kernel
set_option maxRecDepth 65536 in
theorem w_alone : about1.alone = true := by decide +kernel
set_option maxRecDepth 65536 in
theorem w_named : about1.methodNamed? x = some theMethod := by decide +kernel
set_option maxRecDepth 65536 in
theorem w_hears : about1.hears theMethod below0 = true := by decide +kernel
set_option maxRecDepth 65536 in
theorem w_ripe : about1.ripe theMethod args0 below0 = true := by decide +kernel
theorem w_running : about1.status = .running := rfl
set_option maxRecDepth 65536 in
theorem w_room : about1.hasRoom e0.platform room_1 = true :=
  launch0.hasRoom_least _ room_1 (by decide +kernel) (by decide +kernel) (by decide +kernel) (by decide +kernel) (by decide +kernel) (by decide +kernel)
theorem allAtoms_all (ts : List Jvm.Cond) (a : Array Jvm.Value) (st : Jvm.State) : (allAtoms ts).before a st = ts.all (fun c => c.before a st) := by
  induction ts with
  | nil => rfl
  | cons c t ih =>
    show (Jvm.Cond.and c (allAtoms t)).before a st = _
    rw [Jvm.Cond.before_and, ih, List.all_cons]
def words1 : List Jvm.Cond := Jvm.Cond.code x code maxLocals ret :: tables_1
/-- a 'code' word, met by the world's own term for the bytes: nothing is compared byte by byte -/
theorem code_word {y : MethodName} {bytes : ByteArray} {mx : Nat} {rt : Option FieldType} {a : Array Value} {s : State} {m : MethodId} {meth : Method} {c : Code} (h1 : s.methodNamed? y = some m) (h2 : s.vm.method? m = some meth) (h3 : meth.code = some c) (h4 : c.code = bytes)
    (h5 : (c.maxLocals == mx && c.exceptionTable.isEmpty && decide (c.maxStack ≤ mostOperands) && decide (meth.sig.returnType = rt) && !meth.locks && decide (parseMethodDescriptor y.desc = some meth.sig)) = true) : (Jvm.Cond.code y bytes mx rt).before a s = true := by
  simp only [Bool.and_eq_true, beq_iff_eq, Bool.not_eq_true', decide_eq_true_eq] at h5
  obtain ⟨⟨⟨⟨⟨g1, g2⟩, g3⟩, g4⟩, g5⟩, g6⟩ := h5
  simp [Cond.before, Cond.holds, Cond.value, h1, h2, h3, h4, g1, g2, g3, g4, g5, g6]
def isCode : Jvm.Cond → Bool
  | .code _ _ _ _ => true
  | _ => false
theorem all_split {L : List Jvm.Cond} {P : Jvm.Cond → Bool} (h1 : L.all (fun c => isCode c || P c) = true) (h2 : ∀ c ∈ L.filter isCode, P c = true) : L.all P = true := by
  refine List.all_eq_true.mpr fun c hc => ?_
  have h := List.all_eq_true.mp h1 c hc
  rcases Bool.eq_false_or_eq_true (isCode c) with hi | hi
  · exact h2 c (List.mem_filter.mpr ⟨hc, hi⟩)
  · simpa [hi] using h
set_option maxRecDepth 65536 in
theorem w_c0 : (Jvm.Cond.code x code maxLocals ret).before args0 about1 = true := code_word (m := ⟨1, 1⟩) (meth := k1m1) (c := k1c1) (by decide +kernel) rfl rfl rfl (by decide +kernel)
set_option maxRecDepth 65536 in
theorem w_c1 : (Jvm.Cond.code ({ cls := "com/example/fradno/fradno/core/Consensus", name := "leastCount", desc := "([D)I" } : Jvm.MethodName) prog_43_method_5_code (9 : Nat) (Option.some Jvm.ClassFile.FieldType.int)).before args0 about1 = true := code_word (m := ⟨2, 1⟩) (meth := k2m1) (c := k2c1) (by decide +kernel) rfl rfl rfl (by decide +kernel)
def codes1 : List Jvm.Cond := [Jvm.Cond.code x code maxLocals ret, Jvm.Cond.code ({ cls := "com/example/fradno/fradno/core/Consensus", name := "leastCount", desc := "([D)I" } : Jvm.MethodName) prog_43_method_5_code (9 : Nat) (Option.some Jvm.ClassFile.FieldType.int)]
set_option maxRecDepth 65536 in
theorem codes_eq : words1.filter isCode = codes1 := rfl
theorem w_codes : ∀ c ∈ words1.filter isCode, c.before args0 about1 = true := by
  rw [codes_eq]
  intro c hc
  simp only [codes1, List.mem_cons, List.not_mem_nil, or_false] at hc
  rcases hc with rfl | rfl
  · exact w_c0
  · exact w_c1
set_option maxRecDepth 65536 in
theorem w_t1 : words1.all (fun c => isCode c || c.before args0 about1) = true := by decide +kernel
theorem w_tables : (allAtoms (Jvm.Cond.code x code maxLocals ret :: tables_1)).before args0 about1 = true := by
  rw [allAtoms_all]
  show words1.all (fun c => c.before args0 about1) = true
  refine all_split ?_ w_codes
  rw [w_t1]
set_option maxRecDepth 65536 in
theorem w_case : (Jvm.Cond.and given_1 narrow_1).before args0 about1 = true := by decide +kernel
theorem w_applies : (headSpec (Jvm.Cond.code x code maxLocals ret :: tables_1) room_1).applies x e0.platform about1 = true :=
  (Spec.applies_iff w_frames).mpr ⟨w_running, w_runnable, w_alone, w_named, w_hears, w_ripe, w_room, w_tables⟩
theorem atStart : AtStart classFile x code maxLocals ret World_1 tables_1 room_1 Calls_1 rest_1 Pre_1 launch0 p0 e0 about1 theMethod args0 below0 :=
  ⟨lists_1, trivial, launch0.admits_env _ _ _, launch0.least_env, fairChoices_fair.cas, fairChoices_fair.clock, w_frames, w_args, w_heap, w_applies, trivial, trivial, w_case⟩
end start1
theorem witness_1 : WitnessClaimed_1 := ⟨start1.p0, start1.e0, start1.about1, start1.theMethod, start1.args0, start1.below0, start1.atStart⟩
end Jvm.Pilot.@@N@@
