import JvmDerived
import JvmDerived.Pilot.@@N@@Statement
import JvmDerived.Pilot.@@N@@Code
set_option linter.unusedVariables false
set_option linter.unusedSimpArgs false
namespace Jvm.RoadKit
open Sem ClassFile Op Lib Jvm.Stand Jvm.Free Jvm.LawKit
section New
variable {p : Program} {l : Launch} {e : Env} {R : Room} {s : State} {m : MethodId} {args : Array Value} {below : List Frame} {meth : Method} {c : Code} {T : State} {locs : List Loc} {cells slots : Nat}
theorem retI (X : Stand p l e R s m args below meth c T locs cells slots) (hx : p.tables.exec = Jvm.exec) {pc : Nat} {Ls : Array Slot} {z : Int32} {rest : List Value} (hret : meth.sig.returnType = some .int) (hd : decode c.code pc = .ok (.ireturn, 1)) {fs : List Frame}
    (hl : ∀ (f : JFrame) (acts : List Action), f.method = m → f.locked = none → f.entered = [] → (doReturn e (T.setTop f) acts (some (.int z))).1 = T.setFrames fs) : Steps p.tables e below (T.setTop (mkF m pc Ls (.int z :: rest))) (T.setFrames fs) := by
  have hm' : T.vm.method? m = some meth := X.method'
  have hn : narrow .int (.int z) = .int z := rfl
  show Steps p.tables e below (T.setTop { method := m, pc := pc, locals := Ls, stack := _ :: rest, locked := none }) _
  jvm_step X.here [X.here.top, hx, hd, hm', hret, hn]
  first | (intro acts; rw [hl _ acts rfl rfl rfl]) | rw [hl _ _ rfl rfl rfl]
  exact Steps.refl _
end New
/-- from this state a run goes on to an end that meets K -/
def Good (p : Program) (e : Env) (below : List Frame) (K : Outcome → State → Prop) (S : State) : Prop := ∃ s₂ o, Steps p.tables e below S s₂ ∧ s₂.status = .running ∧ Ended s₂ below o ∧ K o s₂
theorem Good.back {p : Program} {e : Env} {below : List Frame} {K : Outcome → State → Prop} {S S' : State} (h : ∀ t, Steps p.tables e below S' t → Steps p.tables e below S t) (g : Good p e below K S') : Good p e below K S := by
  obtain ⟨t, o, h1, h2⟩ := g
  exact ⟨t, o, h t h1, h2⟩
theorem Good.done {p : Program} {e : Env} {below : List Frame} {K : Outcome → State → Prop} {S t : State} {o : Outcome} (h1 : Steps p.tables e below S t) (h2 : t.status = .running) (h3 : Ended t below o) (h4 : K o t) : Good p e below K S := ⟨t, o, h1, h2, h3, h4⟩
end Jvm.RoadKit
namespace Jvm.Pilot.@@N@@
open Jvm Jvm.ClassFile Sem Op Lib Jvm.Free Jvm.Stand Jvm.LawKit Jvm.RoadKit Bundle Jvm.Pilot.@@N@@.Jvm.D
theorem own_eqV {args : Array Value} {first s : State} {o : Option Outcome} {idx : List Nat} {a b : Term} {y : Value} (h : (Jvm.Cond.eq a b).value args first o s idx = some true) (hb : b.eval args first o idx s = some y) : a.eval args first o idx s = some y := by
  cases ha : a.eval args first o idx s with
  | none => simp [Jvm.Cond.value, ha] at h
  | some x => cases x <;> cases y <;> simp_all [Jvm.Cond.value]
theorem own_len {args : Array Value} {s : State} {t : Term} {a : Addr} {cl : Cell} {ty : FieldType} {k : Int32} (A : Arr s s.heap a cl ty) (ev : t.eval args s none [] s = some (.ref a)) (h : (Term.length t).eval args s none [] s = some (.int k)) : cl.slots.size < 2 ^ 31 ∧ cl.slots.size.toInt32 = k := by
  have ha : s.arrayAt? a = some cl := IntBox.arrayAt_of A.1 A.2.1 A.2.2
  simp [Term.eval, ev, ha] at h
  exact h

theorem own_neI {args : Array Value} {first s : State} {o : Option Outcome} {idx : List Nat} {a : Term} {x k : Int32} (h : (Jvm.Cond.eq a (Term.int k)).value args first o s idx = some (!true)) (ha : a.eval args first o idx s = some (.int x)) : ¬ (x = k) := by
  intro q
  have hb : (Term.int k).eval args first o idx s = some (.int k) := rfl
  simp [Jvm.Cond.value, ha, hb, q] at h
theorem own_staKeep {Z : State} {h h' : Heap} {C n d : String} {v : Value} {ws : List Addr} (F : Sta Z h C n d v) (K : Keep h h' ws) (q : ∀ x ∈ ws, ∀ c : Cell, h[x]? = some c → c.vm.isStatics = false) : Sta Z h' C n d v := by
  obtain ⟨cf, i, k, f, st, cell, h1, h2, h3, h4, h5, h6, h7⟩ := F
  refine ⟨cf, i, k, f, st, cell, h1, h2, h3, h4, K.2.1 st cell h5 (fun hm => ?_), h6, h7⟩
  have := q st hm cell h5
  rw [this] at h6
  cases h6
theorem own_plainE {Z : State} {h : Heap} {x : Addr} {C : String} (E : Exa Z h x C) : ∀ c : Cell, h[x]? = some c → c.vm.isStatics = false := by
  obtain ⟨cell, k, h1, h2, h3, h4, h5⟩ := E
  intro c hc
  rw [h1] at hc
  cases hc
  exact h4
theorem own_plainV {Z : State} {h : Heap} {a : Addr} {k : ClassId} {ty : FieldType} {z : Int32} {vs : List Value} {d : Value} (F : Arv Z h a k ty z vs d) : ∀ c : Cell, h[a]? = some c → c.vm.isStatics = false := by
  obtain ⟨cell, A, -⟩ := F
  intro c hc
  rw [A.1] at hc
  cases hc
  exact A.plain

theorem own_wS {Z : State} {a0 : Array Value} (hw : ∀ d ∈ tables_1, d.before a0 Z = true) : ∀ a ∈ Bundle.stringAtoms, a.before a0 Z = true := by
  intro a ha
  simp only [Bundle.stringAtoms, List.mem_cons, List.not_mem_nil, or_false] at ha
  rcases ha with rfl | rfl | rfl | rfl | rfl | rfl | rfl
  · exact (hw _ (List.mem_of_getElem? (i := 17) rfl))
  · exact (hw _ (List.mem_of_getElem? (i := 18) rfl))
  · exact (hw _ (List.mem_of_getElem? (i := 19) rfl))
  · exact (hw _ (List.mem_of_getElem? (i := 20) rfl))
  · exact (hw _ (List.mem_of_getElem? (i := 21) rfl))
  · exact (hw _ (List.mem_of_getElem? (i := 22) rfl))
  · exact (hw _ (List.mem_of_getElem? (i := 23) rfl))
theorem own_nsRoot {Z : State} {a0 : Array Value} {O K : String} {n : Nat} (w : (Cond.noSuperclass O).before a0 Z = true) (wk : (Cond.instantiable K n).before a0 Z = true) (hn : O ≠ K) : NS Z O K := by
  obtain ⟨c, k, h1, h2, h3, -, -⟩ := Cond.noSuperclass_spec w
  obtain ⟨t, kt, g1, -⟩ := Cond.instantiable_spec wk
  have ne := ids_ne h1 g1 hn
  refine ⟨c, t, h1, g1, fun fuel => ?_⟩
  cases fuel with
  | zero => rfl
  | succ f => simp [Vm.isSubclassAux, ne, h2, h3]
theorem own_nsNo {Z : State} {a0 : Array Value} {C S K : String} {n : Nat} (w : (Cond.superclass C S).before a0 Z = true) (wk : (Cond.instantiable K n).before a0 Z = true) (q : NS Z C K) (hn : C ≠ K) : ∃ c t, Z.vm.findClass C = some c ∧ Z.vm.findClass K = some t ∧ Z.vm.assignable c t = false := by
  obtain ⟨c, t, h0, g0, n3⟩ := q
  obtain ⟨p, k, kp, h1, h2, h3, h4, h5, -, h7⟩ := Cond.superclass_spec h0 w
  obtain ⟨t', kt, g1, g2, g3, g4, -⟩ := Cond.instantiable_spec wk
  cases g0.symm.trans g1
  have g5 : kt.isInterface = false := by
    cases hi : kt.isInterface with
    | false => rfl
    | true => rw [hi] at g4; simp at g4
  have ne := ids_ne h0 g0 hn
  refine ⟨c, t, h0, g0, ?_⟩
  show Z.vm.assignableAux (255 + 1) c t = false
  simp [Vm.assignableAux, ne, h2, g2, h5, g3, g5, Vm.isSubclass, n3]
def own_EL : List (String × Nat) := [("com/example/orderd/orderd/order/GameOrderEqualsPinLaw", 7)]
theorem own_EW {Z : State} {a0 : Array Value} (hw : ∀ d ∈ tables_1, d.before a0 Z = true) : EW Z a0 own_EL := (EW.cons (hw _ (List.mem_of_getElem? (i := 16) rfl)) (by decide) EW.nil)
def own_drawn (m k : Int32) : Int32 := if (((m.toUInt32 >>> (k &&& 31).toUInt32).toInt32) &&& (1 : Int32)) = (0 : Int32) then 0 else 1
def own_len1 (m k : Int32) : Int32 := if (((m.toUInt32 >>> (((8 : Int32) + k) &&& 31).toUInt32).toInt32) &&& (1 : Int32)) = (0 : Int32) then 0 else 1
def own_len2 (m k : Int32) : Int32 := if own_drawn m k = 0 then own_len1 m k else if (((m.toUInt32 >>> (((12 : Int32) + k) &&& 31).toUInt32).toInt32) &&& (1 : Int32)) = (0 : Int32) then 0 else 1
def own_ch (x k : Int32) : Int32 := nar .char ((((x.toUInt32 >>> (((8 : Int32) * k) &&& 31).toUInt32).toInt32) &&& (255 : Int32)).toUInt32.toUInt16.toUInt32.toInt32)
def own_chr2 (s t m k : Int32) : Int32 := nar .char (if own_drawn m k = 0 then own_ch s k else own_ch t k)
def own_by (c : Int32) : Int32 := (c.toInt8.toInt32).toInt8.toInt32
def own_sl (p : Int32) : Int32 := if p = 0 then 0 else 1
def own_sv (p c : Int32) : List Value := if p = 0 then [] else [.int (own_by c)]
def own_eqi (a b : Int32) : Int32 := if a = b then 1 else 0
def own_seq (pa ca pb cb : Int32) : Int32 := if pa = 0 then (if pb = 0 then 1 else 0) else if pb = 0 then 0 else own_eqi (own_by ca) (own_by cb)
def own_same (s t m k : Int32) : Int32 := if own_len1 m k = own_len2 m k then (if own_len1 m k = 0 then 1 else own_eqi (own_ch s k) (own_chr2 s t m k)) else 0
def own_geq (x1 x2 y x3 x4 : Int32) : Int32 := if x1 = 0 then 0 else if x2 = 0 then 0 else if y = 0 then (if x3 = 0 then 0 else if x4 = 0 then 0 else 1) else 0
theorem own_nar (c : Int32) : 0 ≤ (nar .char c).toInt ∧ (0 ≤ c.toInt → c.toInt ≤ 255 → nar .char c = c) := by
  have h := c_i2c c
  have e : nar .char c = c.toUInt32.toUInt16.toUInt32.toInt32 := rfl
  refine ⟨by rw [e]; omega, fun h1 h2 => Int32.toInt_inj.mp ?_⟩
  rw [e]; omega
theorem own_chB (x k : Int32) : 0 ≤ (own_ch x k).toInt ∧ (own_ch x k).toInt ≤ 255 := by
  unfold own_ch
  generalize ((x.toUInt32 >>> (((8 : Int32) * k) &&& 31).toUInt32).toInt32) = y
  have h := c_and y 255 (by decide)
  have h255 : (255 : Int32).toInt = 255 := rfl
  have h2 := c_i2c (y &&& 255)
  have e := (own_nar (y &&& (255 : Int32)).toUInt32.toUInt16.toUInt32.toInt32).2 (by omega) (by omega)
  rw [e]; omega
theorem own_chr2B (s t m k : Int32) : 0 ≤ (own_chr2 s t m k).toInt ∧ (own_chr2 s t m k).toInt ≤ 255 := by
  unfold own_chr2
  have h1 := own_chB s k
  have h2 := own_chB t k
  split
  · rw [(own_nar _).2 h1.1 h1.2]; exact h1
  · rw [(own_nar _).2 h2.1 h2.2]; exact h2
theorem own_le {c : Int32} (h : 0 ≤ c.toInt ∧ c.toInt ≤ 255) : ¬ ((255 : Int32) < c) := by
  rw [Int32.lt_iff_toInt_lt]
  exact Int.not_lt.mpr h.2
theorem own_byB (c : Int32) : (own_by c).toInt8.toInt32 = own_by c ∧ ((own_by c).toInt - c.toInt) % 256 = 0 := by
  unfold own_by
  have h1 := c_i2b c
  have h2 := c_i2b (c.toInt8.toInt32)
  have h3 := c_i2b (c.toInt8.toInt32.toInt8.toInt32)
  refine ⟨Int32.toInt_inj.mp (by omega), by omega⟩
theorem own_byI {c d : Int32} (h1 : 0 ≤ c.toInt ∧ c.toInt ≤ 255) (h2 : 0 ≤ d.toInt ∧ d.toInt ≤ 255) : own_eqi (own_by c) (own_by d) = own_eqi c d := by
  unfold own_eqi
  have a := (own_byB c).2
  have b := (own_byB d).2
  by_cases h : c = d
  · rw [h, if_pos rfl, if_pos rfl]
  · rw [if_neg h, if_neg]
    intro q
    apply h
    rw [q] at a
    exact Int32.toInt_inj.mp (by omega)
theorem own_bit (x : Int32) : (if x = (0 : Int32) then (0 : Int32) else 1) = 0 ∨ (if x = (0 : Int32) then (0 : Int32) else 1) = 1 := by split <;> simp
theorem own_l1B (m k : Int32) : own_len1 m k = 0 ∨ own_len1 m k = 1 := own_bit _
theorem own_l2B (m k : Int32) : own_len2 m k = 0 ∨ own_len2 m k = 1 := by
  unfold own_len2
  split
  · exact own_l1B m k
  · exact own_bit _
theorem own_se (s t m k : Int32) : own_same s t m k = own_seq (own_len1 m k) (own_ch s k) (own_len2 m k) (own_chr2 s t m k) := by
  unfold own_same own_seq
  rw [own_byI (own_chB s k) (own_chr2B s t m k)]
  rcases own_l1B m k with h1 | h1 <;> rcases own_l2B m k with h2 | h2 <;> rw [h1, h2] <;> simp
theorem own_seqS (pa ca pb cb : Int32) : own_seq pa ca pb cb = own_seq pb cb pa ca := by
  unfold own_seq own_eqi
  by_cases h1 : pa = 0 <;> by_cases h2 : pb = 0 <;> simp [h1, h2, eq_comm]
theorem own_seqR (p c : Int32) : own_seq p c p c = 1 := by
  unfold own_seq own_eqi
  by_cases h1 : p = 0 <;> simp [h1]
theorem own_seq00 {pa ca pb cb : Int32} (ha : pa = 0) (hb : pb = 0) : own_seq pa ca pb cb = 1 := by unfold own_seq; rw [if_pos ha, if_pos hb]
theorem own_seq01 {pa ca pb cb : Int32} (ha : pa = 0) (hb : ¬ pb = 0) : own_seq pa ca pb cb = 0 := by unfold own_seq; rw [if_pos ha, if_neg hb]
theorem own_seq10 {pa ca pb cb : Int32} (ha : ¬ pa = 0) (hb : pb = 0) : own_seq pa ca pb cb = 0 := by unfold own_seq; rw [if_neg ha, if_pos hb]
theorem own_seq11 {pa ca pb cb : Int32} (ha : ¬ pa = 0) (hb : ¬ pb = 0) : own_seq pa ca pb cb = own_eqi (own_by ca) (own_by cb) := by unfold own_seq; rw [if_neg ha, if_neg hb]
theorem own_eqi1 {a b : Int32} (h : ¬ own_eqi a b = 0) : own_eqi a b = 1 := by unfold own_eqi at *; by_cases q : a = b <;> simp_all
theorem own_sl0 {p : Int32} (h : p = 0) : own_sl p = (0 : Int32) := if_pos h
theorem own_sl1 {p : Int32} (h : ¬ p = 0) : own_sl p = (1 : Int32) := if_neg h
theorem own_sv0 {p c : Int32} (h : p = 0) : own_sv p c = [] := if_pos h
theorem own_sv1 {p c : Int32} (h : ¬ p = 0) : own_sv p c = [.int (own_by c)] := if_neg h
theorem own_g1 {x1 x2 y x3 x4 : Int32} (h1 : ¬ x1 = 0) (h2 : ¬ x2 = 0) (h3 : ¬ x3 = 0) (h4 : ¬ x4 = 0) (h : y = 0) : own_geq x1 x2 y x3 x4 = 1 := by unfold own_geq; simp [h1, h2, h3, h4, h]
theorem own_g0 {x1 x2 y x3 x4 : Int32} (h : x1 = 0 ∨ x2 = 0 ∨ x3 = 0 ∨ x4 = 0 ∨ ¬ y = 0) : own_geq x1 x2 y x3 x4 = 0 := by
  unfold own_geq
  rcases h with h | h | h | h | h <;> simp [h]
theorem own_lcS {a b : Int64} : lcmpW a b = 0 ↔ lcmpW b a = 0 := (lw_eq a b).trans ((Iff.intro Eq.symm Eq.symm).trans (lw_eq b a).symm)
theorem own_pn0 : plainName "com/example/orderd/orderd/order/GameOrderEqualsPinLaw" = true := by first | (simp [plainName, overriddenIn]; done) | decide +kernel
theorem own_d1_0 : decode method_4_code 0 = .ok (.iload_n 0, 1) := by decide +kernel
theorem own_d1_1 : decode method_4_code 1 = .ok (.iload_n 1, 1) := by decide +kernel
theorem own_d1_2 : decode method_4_code 2 = .ok (.iushr, 1) := by decide +kernel
theorem own_d1_3 : decode method_4_code 3 = .ok (.iconst 1, 1) := by decide +kernel
theorem own_d1_4 : decode method_4_code 4 = .ok (.iand, 1) := by decide +kernel
theorem own_d1_5 : decode method_4_code 5 = .ok (.ifCond .eq 7, 3) := by decide +kernel
theorem own_d1_8 : decode method_4_code 8 = .ok (.iconst 1, 1) := by decide +kernel
theorem own_d1_9 : decode method_4_code 9 = .ok (.goto 4, 3) := by decide +kernel
theorem own_d1_12 : decode method_4_code 12 = .ok (.iconst 0, 1) := by decide +kernel
theorem own_d1_13 : decode method_4_code 13 = .ok (.ireturn, 1) := by decide +kernel
theorem own_ef_1 (m : MethodId) (x0 : Int32) (x1 : Int32) : entryFrame m #[(.int x0), (.int x1)] 2 = mkF m 0 #[.val (.int x0), .val (.int x1)] [] := by first | (simp [entryFrame, mkF, argsToLocals, Value.category]; done) | rfl
def Q1 (Z : State) (p0 : Int32) (p1 : Int32) (h0 : Heap) (n0 : Nat) (v : Option Value) (h : Heap) (L : List Loc) : Prop := v = some (.int (own_drawn p0 p1)) ∧ Fr n0 L ∧ h = h0
set_option maxRecDepth 65536 in
set_option maxHeartbeats 40000000 in
theorem rm1 (l : Launch) (Z : State) (a0 : Array Value) (hw : ∀ d ∈ tables_1, d.before a0 Z = true) (ws : List Jvm.Cond) (p0 : Int32) (p1 : Int32) (h0 : Heap) (n0 : Nat) (Z0 : n0 ≤ h0.size)  :
    MetFree l (⟨"com/example/orderd/orderd/order/GameOrderEqualsPinLaw", "drawn", "(II)Z"⟩ : MethodName) (head1 (Jvm.Cond.code (⟨"com/example/orderd/orderd/order/GameOrderEqualsPinLaw", "drawn", "(II)Z"⟩ : MethodName) method_4_code 2 (some .boolean) :: ws) ({ frames := 0, cells := 0, slots := 0, locals := 0 } : Room)) (fun a U => a = #[(.int p0), (.int p1)] ∧ Z.Warmed39 U.vm ∧ U.heap = h0) (fun _ _ _ _ _ => True) (fun _ U o U' => ∃ v L, o = .returned v ∧ Q1 Z p0 p1 h0 n0 v U'.heap L ∧ FrameEnd U o U' L ({ frames := 0, cells := 0, slots := 0, locals := 0 } : Room).cells ({ frames := 0, cells := 0, slots := 0, locals := 0 } : Room).slots) := by
  refine MetFree.of_bodySF (plainFor_of_name own_pn0) hisR ?_
  intro p e s m args below meth c s₁ Bd hml0 hP hK
  obtain ⟨rfl, hZ, hh⟩ := hP
  have hx := Bd.exec
  have hby := Bd.bytes
  have hml : c.maxLocals = 2 := hml0
  have hown : s.vm.findClass "com/example/orderd/orderd/order/GameOrderEqualsPinLaw" = some m.cls := findClass_of_methodNamed Bd.named
  have hnm := (name_of_methodNamed Bd.named Bd.method).1
  have X0 : Stand p l e ({ frames := 0, cells := 0, slots := 0, locals := 0 } : Room) s m #[(.int p0), (.int p1)] below meth c s₁ [] 0 0 := Stand.of_body Bd
  have e0 : s₁.heap = h0 := by rw [← hh, Bd.state]; rfl
  have N0 := Fr.nil n0
  show Good p e below (fun o U' => ∃ v L, o = .returned v ∧ Q1 Z p0 p1 h0 n0 v U'.heap L ∧ FrameEnd s o U' L ({ frames := 0, cells := 0, slots := 0, locals := 0 } : Room).cells ({ frames := 0, cells := 0, slots := 0, locals := 0 } : Room).slots) _
  refine Good.back (S' := s₁.setTop (mkF m 0 #[.val (.int p0), .val (.int p1)] [])) (fun t k => castTop (own_ef_1 m p0 p1) k) ?_
  show Good p e below _ (s₁.setTop (mkF m 0 #[.val (.int p0), .val (.int p1)] []))
  refine Good.back (fun _ k => XS.iloadN X0.here hx rfl (hb hby own_d1_0) rfl k) ?_
  show Good p e below _ (s₁.setTop (mkF m 1 #[.val (.int p0), .val (.int p1)] [(.int p0)]))
  refine Good.back (fun _ k => XS.iloadN X0.here hx rfl (hb hby own_d1_1) rfl k) ?_
  show Good p e below _ (s₁.setTop (mkF m 2 #[.val (.int p0), .val (.int p1)] [(.int p1), (.int p0)]))
  refine Good.back (fun _ k => XS.iushr X0.here hx rfl (hb hby own_d1_2) rfl k) ?_
  show Good p e below _ (s₁.setTop (mkF m 3 #[.val (.int p0), .val (.int p1)] [(.int ((p0.toUInt32 >>> (p1 &&& 31).toUInt32).toInt32))]))
  refine Good.back (fun _ k => XS.iconst X0.here hx rfl (hb hby own_d1_3) k) ?_
  show Good p e below _ (s₁.setTop (mkF m 4 #[.val (.int p0), .val (.int p1)] [(.int (1 : Int32)), (.int ((p0.toUInt32 >>> (p1 &&& 31).toUInt32).toInt32))]))
  refine Good.back (fun _ k => XS.iand X0.here hx rfl (hb hby own_d1_4) rfl k) ?_
  show Good p e below _ (s₁.setTop (mkF m 5 #[.val (.int p0), .val (.int p1)] [(.int (((p0.toUInt32 >>> (p1 &&& 31).toUInt32).toInt32) &&& (1 : Int32)))]))
  by_cases hc5_1 : (((p0.toUInt32 >>> (p1 &&& 31).toUInt32).toInt32) &&& (1 : Int32)) = (0 : Int32)
  · refine Good.back (fun _ k => XS.ifYes X0.here hx rfl (pc0 := 5) (pc' := 12) rfl (hb hby own_d1_5) rfl ((if0 _ _).trans (teq hc5_1).1) (by decide) (by decide) k) ?_
    show Good p e below _ (s₁.setTop (mkF m 12 #[.val (.int p0), .val (.int p1)] []))
    refine Good.back (fun _ k => XS.iconst X0.here hx rfl (hb hby own_d1_12) k) ?_
    show Good p e below _ (s₁.setTop (mkF m 13 #[.val (.int p0), .val (.int p1)] [(.int (0 : Int32))]))
    obtain ⟨fs2, hr2, hrun2, hended2, hW2, hsame2⟩ := X0.leave (v := some (.int (0 : Int32))) (fun h => by rw [Bd.returns] at h; cases h)
    refine Good.done (retN X0 hx (t := .boolean) Bd.returns (by simp) (hb hby own_d1_13) hr2) hrun2 hended2 ⟨_, _, rfl, ?_, ⟨_, rfl⟩, hW2, hsame2.mono (by decide) (by decide)⟩
    show Q1 Z p0 p1 h0 n0 _ s₁.heap _
    rw [e0]
    exact ⟨congrArg (fun z => some (Value.int z)) (by unfold own_drawn; rw [if_pos hc5_1]), N0, rfl⟩
  · refine Good.back (fun _ k => XS.ifNo X0.here hx rfl (hb hby own_d1_5) rfl ((if0 _ _).trans (feq hc5_1).1) k) ?_
    show Good p e below _ (s₁.setTop (mkF m 8 #[.val (.int p0), .val (.int p1)] []))
    refine Good.back (fun _ k => XS.iconst X0.here hx rfl (hb hby own_d1_8) k) ?_
    show Good p e below _ (s₁.setTop (mkF m 9 #[.val (.int p0), .val (.int p1)] [(.int (1 : Int32))]))
    refine Good.back (fun _ k => XS.goto X0.here hx rfl (pc0 := 9) (pc' := 13) rfl (hb hby own_d1_9) (by decide) (by decide) k) ?_
    show Good p e below _ (s₁.setTop (mkF m 13 #[.val (.int p0), .val (.int p1)] [(.int (1 : Int32))]))
    obtain ⟨fs3, hr3, hrun3, hended3, hW3, hsame3⟩ := X0.leave (v := some (.int (1 : Int32))) (fun h => by rw [Bd.returns] at h; cases h)
    refine Good.done (retN X0 hx (t := .boolean) Bd.returns (by simp) (hb hby own_d1_13) hr3) hrun3 hended3 ⟨_, _, rfl, ?_, ⟨_, rfl⟩, hW3, hsame3.mono (by decide) (by decide)⟩
    show Q1 Z p0 p1 h0 n0 _ s₁.heap _
    rw [e0]
    exact ⟨congrArg (fun z => some (Value.int z)) (by unfold own_drawn; rw [if_neg hc5_1]), N0, rfl⟩
theorem own_d3_0 : decode method_5_code 0 = .ok (.iload_n 0, 1) := by decide +kernel
theorem own_d3_1 : decode method_5_code 1 = .ok (.bipush 8, 2) := by decide +kernel
theorem own_d3_3 : decode method_5_code 3 = .ok (.iload_n 1, 1) := by decide +kernel
theorem own_d3_4 : decode method_5_code 4 = .ok (.iadd, 1) := by decide +kernel
theorem own_d3_5 : decode method_5_code 5 = .ok (.iushr, 1) := by decide +kernel
theorem own_d3_6 : decode method_5_code 6 = .ok (.iconst 1, 1) := by decide +kernel
theorem own_d3_7 : decode method_5_code 7 = .ok (.iand, 1) := by decide +kernel
theorem own_d3_8 : decode method_5_code 8 = .ok (.ifCond .eq 7, 3) := by decide +kernel
theorem own_d3_11 : decode method_5_code 11 = .ok (.iconst 1, 1) := by decide +kernel
theorem own_d3_12 : decode method_5_code 12 = .ok (.goto 4, 3) := by decide +kernel
theorem own_d3_15 : decode method_5_code 15 = .ok (.iconst 0, 1) := by decide +kernel
theorem own_d3_16 : decode method_5_code 16 = .ok (.ireturn, 1) := by decide +kernel
theorem own_ef_3 (m : MethodId) (x0 : Int32) (x1 : Int32) : entryFrame m #[(.int x0), (.int x1)] 2 = mkF m 0 #[.val (.int x0), .val (.int x1)] [] := by first | (simp [entryFrame, mkF, argsToLocals, Value.category]; done) | rfl
def Q3 (Z : State) (p0 : Int32) (p1 : Int32) (h0 : Heap) (n0 : Nat) (v : Option Value) (h : Heap) (L : List Loc) : Prop := v = some (.int (own_len1 p0 p1)) ∧ Fr n0 L ∧ h = h0
set_option maxRecDepth 65536 in
set_option maxHeartbeats 40000000 in
theorem rm3 (l : Launch) (Z : State) (a0 : Array Value) (hw : ∀ d ∈ tables_1, d.before a0 Z = true) (ws : List Jvm.Cond) (p0 : Int32) (p1 : Int32) (h0 : Heap) (n0 : Nat) (Z0 : n0 ≤ h0.size)  :
    MetFree l (⟨"com/example/orderd/orderd/order/GameOrderEqualsPinLaw", "len1", "(II)Z"⟩ : MethodName) (head1 (Jvm.Cond.code (⟨"com/example/orderd/orderd/order/GameOrderEqualsPinLaw", "len1", "(II)Z"⟩ : MethodName) method_5_code 2 (some .boolean) :: ws) ({ frames := 0, cells := 0, slots := 0, locals := 0 } : Room)) (fun a U => a = #[(.int p0), (.int p1)] ∧ Z.Warmed39 U.vm ∧ U.heap = h0) (fun _ _ _ _ _ => True) (fun _ U o U' => ∃ v L, o = .returned v ∧ Q3 Z p0 p1 h0 n0 v U'.heap L ∧ FrameEnd U o U' L ({ frames := 0, cells := 0, slots := 0, locals := 0 } : Room).cells ({ frames := 0, cells := 0, slots := 0, locals := 0 } : Room).slots) := by
  refine MetFree.of_bodySF (plainFor_of_name own_pn0) hisR ?_
  intro p e s m args below meth c s₁ Bd hml0 hP hK
  obtain ⟨rfl, hZ, hh⟩ := hP
  have hx := Bd.exec
  have hby := Bd.bytes
  have hml : c.maxLocals = 2 := hml0
  have hown : s.vm.findClass "com/example/orderd/orderd/order/GameOrderEqualsPinLaw" = some m.cls := findClass_of_methodNamed Bd.named
  have hnm := (name_of_methodNamed Bd.named Bd.method).1
  have X0 : Stand p l e ({ frames := 0, cells := 0, slots := 0, locals := 0 } : Room) s m #[(.int p0), (.int p1)] below meth c s₁ [] 0 0 := Stand.of_body Bd
  have e0 : s₁.heap = h0 := by rw [← hh, Bd.state]; rfl
  have N0 := Fr.nil n0
  show Good p e below (fun o U' => ∃ v L, o = .returned v ∧ Q3 Z p0 p1 h0 n0 v U'.heap L ∧ FrameEnd s o U' L ({ frames := 0, cells := 0, slots := 0, locals := 0 } : Room).cells ({ frames := 0, cells := 0, slots := 0, locals := 0 } : Room).slots) _
  refine Good.back (S' := s₁.setTop (mkF m 0 #[.val (.int p0), .val (.int p1)] [])) (fun t k => castTop (own_ef_3 m p0 p1) k) ?_
  show Good p e below _ (s₁.setTop (mkF m 0 #[.val (.int p0), .val (.int p1)] []))
  refine Good.back (fun _ k => XS.iloadN X0.here hx rfl (hb hby own_d3_0) rfl k) ?_
  show Good p e below _ (s₁.setTop (mkF m 1 #[.val (.int p0), .val (.int p1)] [(.int p0)]))
  refine Good.back (fun _ k => XS.bipush X0.here hx rfl (hb hby own_d3_1) k) ?_
  show Good p e below _ (s₁.setTop (mkF m 3 #[.val (.int p0), .val (.int p1)] [(.int (8 : Int32)), (.int p0)]))
  refine Good.back (fun _ k => XS.iloadN X0.here hx rfl (hb hby own_d3_3) rfl k) ?_
  show Good p e below _ (s₁.setTop (mkF m 4 #[.val (.int p0), .val (.int p1)] [(.int p1), (.int (8 : Int32)), (.int p0)]))
  refine Good.back (fun _ k => XS.iadd X0.here hx rfl (hb hby own_d3_4) rfl k) ?_
  show Good p e below _ (s₁.setTop (mkF m 5 #[.val (.int p0), .val (.int p1)] [(.int ((8 : Int32) + p1)), (.int p0)]))
  refine Good.back (fun _ k => XS.iushr X0.here hx rfl (hb hby own_d3_5) rfl k) ?_
  show Good p e below _ (s₁.setTop (mkF m 6 #[.val (.int p0), .val (.int p1)] [(.int ((p0.toUInt32 >>> (((8 : Int32) + p1) &&& 31).toUInt32).toInt32))]))
  refine Good.back (fun _ k => XS.iconst X0.here hx rfl (hb hby own_d3_6) k) ?_
  show Good p e below _ (s₁.setTop (mkF m 7 #[.val (.int p0), .val (.int p1)] [(.int (1 : Int32)), (.int ((p0.toUInt32 >>> (((8 : Int32) + p1) &&& 31).toUInt32).toInt32))]))
  refine Good.back (fun _ k => XS.iand X0.here hx rfl (hb hby own_d3_7) rfl k) ?_
  show Good p e below _ (s₁.setTop (mkF m 8 #[.val (.int p0), .val (.int p1)] [(.int (((p0.toUInt32 >>> (((8 : Int32) + p1) &&& 31).toUInt32).toInt32) &&& (1 : Int32)))]))
  by_cases hc8_1 : (((p0.toUInt32 >>> (((8 : Int32) + p1) &&& 31).toUInt32).toInt32) &&& (1 : Int32)) = (0 : Int32)
  · refine Good.back (fun _ k => XS.ifYes X0.here hx rfl (pc0 := 8) (pc' := 15) rfl (hb hby own_d3_8) rfl ((if0 _ _).trans (teq hc8_1).1) (by decide) (by decide) k) ?_
    show Good p e below _ (s₁.setTop (mkF m 15 #[.val (.int p0), .val (.int p1)] []))
    refine Good.back (fun _ k => XS.iconst X0.here hx rfl (hb hby own_d3_15) k) ?_
    show Good p e below _ (s₁.setTop (mkF m 16 #[.val (.int p0), .val (.int p1)] [(.int (0 : Int32))]))
    obtain ⟨fs2, hr2, hrun2, hended2, hW2, hsame2⟩ := X0.leave (v := some (.int (0 : Int32))) (fun h => by rw [Bd.returns] at h; cases h)
    refine Good.done (retN X0 hx (t := .boolean) Bd.returns (by simp) (hb hby own_d3_16) hr2) hrun2 hended2 ⟨_, _, rfl, ?_, ⟨_, rfl⟩, hW2, hsame2.mono (by decide) (by decide)⟩
    show Q3 Z p0 p1 h0 n0 _ s₁.heap _
    rw [e0]
    exact ⟨congrArg (fun z => some (Value.int z)) (by unfold own_len1; rw [if_pos hc8_1]), N0, rfl⟩
  · refine Good.back (fun _ k => XS.ifNo X0.here hx rfl (hb hby own_d3_8) rfl ((if0 _ _).trans (feq hc8_1).1) k) ?_
    show Good p e below _ (s₁.setTop (mkF m 11 #[.val (.int p0), .val (.int p1)] []))
    refine Good.back (fun _ k => XS.iconst X0.here hx rfl (hb hby own_d3_11) k) ?_
    show Good p e below _ (s₁.setTop (mkF m 12 #[.val (.int p0), .val (.int p1)] [(.int (1 : Int32))]))
    refine Good.back (fun _ k => XS.goto X0.here hx rfl (pc0 := 12) (pc' := 16) rfl (hb hby own_d3_12) (by decide) (by decide) k) ?_
    show Good p e below _ (s₁.setTop (mkF m 16 #[.val (.int p0), .val (.int p1)] [(.int (1 : Int32))]))
    obtain ⟨fs3, hr3, hrun3, hended3, hW3, hsame3⟩ := X0.leave (v := some (.int (1 : Int32))) (fun h => by rw [Bd.returns] at h; cases h)
    refine Good.done (retN X0 hx (t := .boolean) Bd.returns (by simp) (hb hby own_d3_16) hr3) hrun3 hended3 ⟨_, _, rfl, ?_, ⟨_, rfl⟩, hW3, hsame3.mono (by decide) (by decide)⟩
    show Q3 Z p0 p1 h0 n0 _ s₁.heap _
    rw [e0]
    exact ⟨congrArg (fun z => some (Value.int z)) (by unfold own_len1; rw [if_neg hc8_1]), N0, rfl⟩
theorem own_d4_0 : decode method_2_code 0 = .ok (.iload_n 0, 1) := by decide +kernel
theorem own_d4_1 : decode method_2_code 1 = .ok (.bipush 8, 2) := by decide +kernel
theorem own_d4_3 : decode method_2_code 3 = .ok (.iload_n 1, 1) := by decide +kernel
theorem own_d4_4 : decode method_2_code 4 = .ok (.imul, 1) := by decide +kernel
theorem own_d4_5 : decode method_2_code 5 = .ok (.iushr, 1) := by decide +kernel
theorem own_d4_6 : decode method_2_code 6 = .ok (.sipush 255, 3) := by decide +kernel
theorem own_d4_9 : decode method_2_code 9 = .ok (.iand, 1) := by decide +kernel
theorem own_d4_10 : decode method_2_code 10 = .ok (.i2c, 1) := by decide +kernel
theorem own_d4_11 : decode method_2_code 11 = .ok (.ireturn, 1) := by decide +kernel
theorem own_ef_4 (m : MethodId) (x0 : Int32) (x1 : Int32) : entryFrame m #[(.int x0), (.int x1)] 2 = mkF m 0 #[.val (.int x0), .val (.int x1)] [] := by first | (simp [entryFrame, mkF, argsToLocals, Value.category]; done) | rfl
def Q4 (Z : State) (p0 : Int32) (p1 : Int32) (h0 : Heap) (n0 : Nat) (v : Option Value) (h : Heap) (L : List Loc) : Prop := v = some (.int (own_ch p0 p1)) ∧ Fr n0 L ∧ h = h0
set_option maxRecDepth 65536 in
set_option maxHeartbeats 40000000 in
theorem rm4 (l : Launch) (Z : State) (a0 : Array Value) (hw : ∀ d ∈ tables_1, d.before a0 Z = true) (ws : List Jvm.Cond) (p0 : Int32) (p1 : Int32) (h0 : Heap) (n0 : Nat) (Z0 : n0 ≤ h0.size)  :
    MetFree l (⟨"com/example/orderd/orderd/order/GameOrderEqualsPinLaw", "ch", "(II)C"⟩ : MethodName) (head1 (Jvm.Cond.code (⟨"com/example/orderd/orderd/order/GameOrderEqualsPinLaw", "ch", "(II)C"⟩ : MethodName) method_2_code 2 (some .char) :: ws) ({ frames := 0, cells := 0, slots := 0, locals := 0 } : Room)) (fun a U => a = #[(.int p0), (.int p1)] ∧ Z.Warmed39 U.vm ∧ U.heap = h0) (fun _ _ _ _ _ => True) (fun _ U o U' => ∃ v L, o = .returned v ∧ Q4 Z p0 p1 h0 n0 v U'.heap L ∧ FrameEnd U o U' L ({ frames := 0, cells := 0, slots := 0, locals := 0 } : Room).cells ({ frames := 0, cells := 0, slots := 0, locals := 0 } : Room).slots) := by
  refine MetFree.of_bodySF (plainFor_of_name own_pn0) hisR ?_
  intro p e s m args below meth c s₁ Bd hml0 hP hK
  obtain ⟨rfl, hZ, hh⟩ := hP
  have hx := Bd.exec
  have hby := Bd.bytes
  have hml : c.maxLocals = 2 := hml0
  have hown : s.vm.findClass "com/example/orderd/orderd/order/GameOrderEqualsPinLaw" = some m.cls := findClass_of_methodNamed Bd.named
  have hnm := (name_of_methodNamed Bd.named Bd.method).1
  have X0 : Stand p l e ({ frames := 0, cells := 0, slots := 0, locals := 0 } : Room) s m #[(.int p0), (.int p1)] below meth c s₁ [] 0 0 := Stand.of_body Bd
  have e0 : s₁.heap = h0 := by rw [← hh, Bd.state]; rfl
  have N0 := Fr.nil n0
  show Good p e below (fun o U' => ∃ v L, o = .returned v ∧ Q4 Z p0 p1 h0 n0 v U'.heap L ∧ FrameEnd s o U' L ({ frames := 0, cells := 0, slots := 0, locals := 0 } : Room).cells ({ frames := 0, cells := 0, slots := 0, locals := 0 } : Room).slots) _
  refine Good.back (S' := s₁.setTop (mkF m 0 #[.val (.int p0), .val (.int p1)] [])) (fun t k => castTop (own_ef_4 m p0 p1) k) ?_
  show Good p e below _ (s₁.setTop (mkF m 0 #[.val (.int p0), .val (.int p1)] []))
  refine Good.back (fun _ k => XS.iloadN X0.here hx rfl (hb hby own_d4_0) rfl k) ?_
  show Good p e below _ (s₁.setTop (mkF m 1 #[.val (.int p0), .val (.int p1)] [(.int p0)]))
  refine Good.back (fun _ k => XS.bipush X0.here hx rfl (hb hby own_d4_1) k) ?_
  show Good p e below _ (s₁.setTop (mkF m 3 #[.val (.int p0), .val (.int p1)] [(.int (8 : Int32)), (.int p0)]))
  refine Good.back (fun _ k => XS.iloadN X0.here hx rfl (hb hby own_d4_3) rfl k) ?_
  show Good p e below _ (s₁.setTop (mkF m 4 #[.val (.int p0), .val (.int p1)] [(.int p1), (.int (8 : Int32)), (.int p0)]))
  refine Good.back (fun _ k => XS.imul X0.here hx rfl (hb hby own_d4_4) rfl k) ?_
  show Good p e below _ (s₁.setTop (mkF m 5 #[.val (.int p0), .val (.int p1)] [(.int ((8 : Int32) * p1)), (.int p0)]))
  refine Good.back (fun _ k => XS.iushr X0.here hx rfl (hb hby own_d4_5) rfl k) ?_
  show Good p e below _ (s₁.setTop (mkF m 6 #[.val (.int p0), .val (.int p1)] [(.int ((p0.toUInt32 >>> (((8 : Int32) * p1) &&& 31).toUInt32).toInt32))]))
  refine Good.back (fun _ k => XS.sipush X0.here hx rfl (hb hby own_d4_6) k) ?_
  show Good p e below _ (s₁.setTop (mkF m 9 #[.val (.int p0), .val (.int p1)] [(.int (255 : Int32)), (.int ((p0.toUInt32 >>> (((8 : Int32) * p1) &&& 31).toUInt32).toInt32))]))
  refine Good.back (fun _ k => XS.iand X0.here hx rfl (hb hby own_d4_9) rfl k) ?_
  show Good p e below _ (s₁.setTop (mkF m 10 #[.val (.int p0), .val (.int p1)] [(.int (((p0.toUInt32 >>> (((8 : Int32) * p1) &&& 31).toUInt32).toInt32) &&& (255 : Int32)))]))
  refine Good.back (fun _ k => XS.i2c X0.here hx rfl (hb hby own_d4_10) rfl k) ?_
  show Good p e below _ (s₁.setTop (mkF m 11 #[.val (.int p0), .val (.int p1)] [(.int ((((p0.toUInt32 >>> (((8 : Int32) * p1) &&& 31).toUInt32).toInt32) &&& (255 : Int32)).toUInt32.toUInt16.toUInt32.toInt32))]))
  obtain ⟨fs1, hr1, hrun1, hended1, hW1, hsame1⟩ := X0.leave (v := some (.int (nar .char ((((p0.toUInt32 >>> (((8 : Int32) * p1) &&& 31).toUInt32).toInt32) &&& (255 : Int32)).toUInt32.toUInt16.toUInt32.toInt32)))) (fun h => by rw [Bd.returns] at h; cases h)
  refine Good.done (retN X0 hx (t := .char) Bd.returns (by simp) (hb hby own_d4_11) hr1) hrun1 hended1 ⟨_, _, rfl, ?_, ⟨_, rfl⟩, hW1, hsame1.mono (by decide) (by decide)⟩
  show Q4 Z p0 p1 h0 n0 _ s₁.heap _
  rw [e0]
  exact ⟨rfl, N0, rfl⟩
theorem own_pd31 : parseMethodDescriptor "(II)Z" = some ⟨[.int, .int], some .boolean⟩ := by decide +kernel
theorem own_d10_0 : decode method_6_code 0 = .ok (.iload_n 0, 1) := by decide +kernel
theorem own_d10_1 : decode method_6_code 1 = .ok (.iload_n 1, 1) := by decide +kernel
theorem own_d10_2 : decode method_6_code 2 = .ok (.invokestatic 15, 3) := by decide +kernel
theorem own_d10_5 : decode method_6_code 5 = .ok (.ifCond .eq 22, 3) := by decide +kernel
theorem own_d10_8 : decode method_6_code 8 = .ok (.iload_n 0, 1) := by decide +kernel
theorem own_d10_9 : decode method_6_code 9 = .ok (.bipush 12, 2) := by decide +kernel
theorem own_d10_11 : decode method_6_code 11 = .ok (.iload_n 1, 1) := by decide +kernel
theorem own_d10_12 : decode method_6_code 12 = .ok (.iadd, 1) := by decide +kernel
theorem own_d10_13 : decode method_6_code 13 = .ok (.iushr, 1) := by decide +kernel
theorem own_d10_14 : decode method_6_code 14 = .ok (.iconst 1, 1) := by decide +kernel
theorem own_d10_15 : decode method_6_code 15 = .ok (.iand, 1) := by decide +kernel
theorem own_d10_16 : decode method_6_code 16 = .ok (.ifCond .eq 7, 3) := by decide +kernel
theorem own_d10_19 : decode method_6_code 19 = .ok (.iconst 1, 1) := by decide +kernel
theorem own_d10_20 : decode method_6_code 20 = .ok (.goto 12, 3) := by decide +kernel
theorem own_d10_23 : decode method_6_code 23 = .ok (.iconst 0, 1) := by decide +kernel
theorem own_d10_24 : decode method_6_code 24 = .ok (.goto 8, 3) := by decide +kernel
theorem own_d10_27 : decode method_6_code 27 = .ok (.iload_n 0, 1) := by decide +kernel
theorem own_d10_28 : decode method_6_code 28 = .ok (.iload_n 1, 1) := by decide +kernel
theorem own_d10_29 : decode method_6_code 29 = .ok (.invokestatic 21, 3) := by decide +kernel
theorem own_d10_32 : decode method_6_code 32 = .ok (.ireturn, 1) := by decide +kernel
theorem own_ef_10 (m : MethodId) (x0 : Int32) (x1 : Int32) : entryFrame m #[(.int x0), (.int x1)] 2 = mkF m 0 #[.val (.int x0), .val (.int x1)] [] := by first | (simp [entryFrame, mkF, argsToLocals, Value.category]; done) | rfl
def Q10 (Z : State) (p0 : Int32) (p1 : Int32) (h0 : Heap) (n0 : Nat) (v : Option Value) (h : Heap) (L : List Loc) : Prop := v = some (.int (own_len2 p0 p1)) ∧ Fr n0 L ∧ h = h0
set_option maxRecDepth 65536 in
set_option maxHeartbeats 40000000 in
theorem rm10 (l : Launch) (Z : State) (a0 : Array Value) (hw : ∀ d ∈ tables_1, d.before a0 Z = true) (ws : List Jvm.Cond) (p0 : Int32) (p1 : Int32) (h0 : Heap) (n0 : Nat) (Z0 : n0 ≤ h0.size)  :
    MetFree l (⟨"com/example/orderd/orderd/order/GameOrderEqualsPinLaw", "len2", "(II)Z"⟩ : MethodName) (head1 (Jvm.Cond.code (⟨"com/example/orderd/orderd/order/GameOrderEqualsPinLaw", "len2", "(II)Z"⟩ : MethodName) method_6_code 2 (some .boolean) :: ws) ({ frames := 1, cells := 0, slots := 0, locals := 13 } : Room)) (fun a U => a = #[(.int p0), (.int p1)] ∧ Z.Warmed39 U.vm ∧ U.heap = h0) (fun _ _ _ _ _ => True) (fun _ U o U' => ∃ v L, o = .returned v ∧ Q10 Z p0 p1 h0 n0 v U'.heap L ∧ FrameEnd U o U' L ({ frames := 1, cells := 0, slots := 0, locals := 13 } : Room).cells ({ frames := 1, cells := 0, slots := 0, locals := 13 } : Room).slots) := by
  refine MetFree.of_bodySF (plainFor_of_name own_pn0) hisR ?_
  intro p e s m args below meth c s₁ Bd hml0 hP hK
  obtain ⟨rfl, hZ, hh⟩ := hP
  have hx := Bd.exec
  have hby := Bd.bytes
  have hml : c.maxLocals = 2 := hml0
  have hown : s.vm.findClass "com/example/orderd/orderd/order/GameOrderEqualsPinLaw" = some m.cls := findClass_of_methodNamed Bd.named
  have hnm := (name_of_methodNamed Bd.named Bd.method).1
  have X0 : Stand p l e ({ frames := 1, cells := 0, slots := 0, locals := 13 } : Room) s m #[(.int p0), (.int p1)] below meth c s₁ [] 0 0 := Stand.of_body Bd
  have e0 : s₁.heap = h0 := by rw [← hh, Bd.state]; rfl
  have N0 := Fr.nil n0
  show Good p e below (fun o U' => ∃ v L, o = .returned v ∧ Q10 Z p0 p1 h0 n0 v U'.heap L ∧ FrameEnd s o U' L ({ frames := 1, cells := 0, slots := 0, locals := 13 } : Room).cells ({ frames := 1, cells := 0, slots := 0, locals := 13 } : Room).slots) _
  refine Good.back (S' := s₁.setTop (mkF m 0 #[.val (.int p0), .val (.int p1)] [])) (fun t k => castTop (own_ef_10 m p0 p1) k) ?_
  show Good p e below _ (s₁.setTop (mkF m 0 #[.val (.int p0), .val (.int p1)] []))
  refine Good.back (fun _ k => XS.iloadN X0.here hx rfl (hb hby own_d10_0) rfl k) ?_
  show Good p e below _ (s₁.setTop (mkF m 1 #[.val (.int p0), .val (.int p1)] [(.int p0)]))
  refine Good.back (fun _ k => XS.iloadN X0.here hx rfl (hb hby own_d10_1) rfl k) ?_
  show Good p e below _ (s₁.setTop (mkF m 2 #[.val (.int p0), .val (.int p1)] [(.int p1), (.int p0)]))
  obtain ⟨_, _, ⟨T1, L1, k1, n1⟩, -, X1, ⟨Lc1, hQ1, l1, y1, z1⟩, st1⟩ := Jvm.LawKit.callS X0 hx (y := (⟨"com/example/orderd/orderd/order/GameOrderEqualsPinLaw", "drawn", "(II)Z"⟩ : MethodName)) hown (mvT hZ (hw _ (List.mem_of_getElem? (i := 0) rfl))) (mvT hZ (hw _ (List.mem_of_getElem? (i := 1) rfl))) (mvT hZ (hw _ (List.mem_of_getElem? (i := 2) rfl))) (mvT hZ (hw _ (List.mem_of_getElem? (i := 3) rfl))) (by decide) (backOf (W := 0) (rm1 l Z a0 hw [] p0 p1  h0 n0 Z0 ) hZ (hw _ (List.mem_of_getElem? (i := 3) rfl)) (hw _ (List.mem_of_getElem? (i := 2) rfl)) (by decide) (by decide)) (g := (mkF m 2 #[.val (.int p0), .val (.int p1)] [(.int p1), (.int p0)])) rfl (by rw [hml]; rfl) (argsL := [(.int p0), (.int p1)]) (rest := []) (lenOf own_pd31 rfl) rfl (by show 2 * 0 + _ ≤ _; exact Nat.le_of_eq rfl) (hb hby own_d10_2) (fun _ _ => ⟨rfl, e0, (by decide : 0 + 0 ≤ _), (by decide : 0 + 0 ≤ _)⟩)
  dsimp only [Pt.U, Pt.locs, Pt.cells, Pt.slots] at X1 l1 y1 z1 st1 hQ1
  subst l1 y1 z1
  obtain ⟨rfl, N1q, eh1⟩ := hQ1
  have N1 := Fr.app N0 N1q
  refine Good.back st1 ?_
  show Good p e below _ (T1.setTop (mkF m 5 #[.val (.int p0), .val (.int p1)] [(.int (own_drawn p0 p1))]))
  by_cases hc5_2 : (own_drawn p0 p1) = (0 : Int32)
  · refine Good.back (fun _ k => XS.ifYes X1.here hx rfl (pc0 := 5) (pc' := 27) rfl (hb hby own_d10_5) rfl ((if0 _ _).trans (teq hc5_2).1) (by decide) (by decide) k) ?_
    show Good p e below _ (T1.setTop (mkF m 27 #[.val (.int p0), .val (.int p1)] []))
    refine Good.back (fun _ k => XS.iloadN X1.here hx rfl (hb hby own_d10_27) rfl k) ?_
    show Good p e below _ (T1.setTop (mkF m 28 #[.val (.int p0), .val (.int p1)] [(.int p0)]))
    refine Good.back (fun _ k => XS.iloadN X1.here hx rfl (hb hby own_d10_28) rfl k) ?_
    show Good p e below _ (T1.setTop (mkF m 29 #[.val (.int p0), .val (.int p1)] [(.int p1), (.int p0)]))
    obtain ⟨_, _, ⟨T3, L3, k3, n3⟩, -, X3, ⟨Lc3, hQ3, l3, y3, z3⟩, st3⟩ := Jvm.LawKit.callS X1 hx (y := (⟨"com/example/orderd/orderd/order/GameOrderEqualsPinLaw", "len1", "(II)Z"⟩ : MethodName)) hown (mvT hZ (hw _ (List.mem_of_getElem? (i := 7) rfl))) (mvT hZ (hw _ (List.mem_of_getElem? (i := 8) rfl))) (mvT hZ (hw _ (List.mem_of_getElem? (i := 2) rfl))) (mvT hZ (hw _ (List.mem_of_getElem? (i := 9) rfl))) (by decide) (backOf (W := 0) (rm3 l Z a0 hw [] p0 p1  h0 n0 Z0 ) hZ (hw _ (List.mem_of_getElem? (i := 9) rfl)) (hw _ (List.mem_of_getElem? (i := 2) rfl)) (by decide) (by decide)) (g := (mkF m 29 #[.val (.int p0), .val (.int p1)] [(.int p1), (.int p0)])) rfl (by rw [hml]; rfl) (argsL := [(.int p0), (.int p1)]) (rest := []) (lenOf own_pd31 rfl) rfl (by show 2 * 0 + _ ≤ _; exact Nat.le_of_eq rfl) (hb hby own_d10_29) (fun _ _ => ⟨rfl, eh1, (by decide : 0 + 0 ≤ _), (by decide : 0 + 0 ≤ _)⟩)
    dsimp only [Pt.U, Pt.locs, Pt.cells, Pt.slots] at X3 l3 y3 z3 st3 hQ3
    subst l3 y3 z3
    obtain ⟨rfl, N3q, eh3⟩ := hQ3
    have N3 := Fr.app N1 N3q
    refine Good.back st3 ?_
    show Good p e below _ (T3.setTop (mkF m 32 #[.val (.int p0), .val (.int p1)] [(.int (own_len1 p0 p1))]))
    obtain ⟨fs4, hr4, hrun4, hended4, hW4, hsame4⟩ := X3.leave (v := some (.int (nar .boolean (own_len1 p0 p1)))) (fun h => by rw [Bd.returns] at h; cases h)
    refine Good.done (retN X3 hx (t := .boolean) Bd.returns (by simp) (hb hby own_d10_32) hr4) hrun4 hended4 ⟨_, _, rfl, ?_, ⟨_, rfl⟩, hW4, hsame4.mono (by decide) (by decide)⟩
    show Q10 Z p0 p1 h0 n0 _ T3.heap _
    rw [eh3]
    have e9 : nar .boolean (own_len1 p0 p1) = own_len1 p0 p1 := by rcases own_l1B p0 p1 with q | q <;> rw [q] <;> rfl
    exact ⟨congrArg (fun z => some (Value.int z)) (by rw [e9]; unfold own_len2; rw [if_pos hc5_2]), N3, rfl⟩
  · refine Good.back (fun _ k => XS.ifNo X1.here hx rfl (hb hby own_d10_5) rfl ((if0 _ _).trans (feq hc5_2).1) k) ?_
    show Good p e below _ (T1.setTop (mkF m 8 #[.val (.int p0), .val (.int p1)] []))
    refine Good.back (fun _ k => XS.iloadN X1.here hx rfl (hb hby own_d10_8) rfl k) ?_
    show Good p e below _ (T1.setTop (mkF m 9 #[.val (.int p0), .val (.int p1)] [(.int p0)]))
    refine Good.back (fun _ k => XS.bipush X1.here hx rfl (hb hby own_d10_9) k) ?_
    show Good p e below _ (T1.setTop (mkF m 11 #[.val (.int p0), .val (.int p1)] [(.int (12 : Int32)), (.int p0)]))
    refine Good.back (fun _ k => XS.iloadN X1.here hx rfl (hb hby own_d10_11) rfl k) ?_
    show Good p e below _ (T1.setTop (mkF m 12 #[.val (.int p0), .val (.int p1)] [(.int p1), (.int (12 : Int32)), (.int p0)]))
    refine Good.back (fun _ k => XS.iadd X1.here hx rfl (hb hby own_d10_12) rfl k) ?_
    show Good p e below _ (T1.setTop (mkF m 13 #[.val (.int p0), .val (.int p1)] [(.int ((12 : Int32) + p1)), (.int p0)]))
    refine Good.back (fun _ k => XS.iushr X1.here hx rfl (hb hby own_d10_13) rfl k) ?_
    show Good p e below _ (T1.setTop (mkF m 14 #[.val (.int p0), .val (.int p1)] [(.int ((p0.toUInt32 >>> (((12 : Int32) + p1) &&& 31).toUInt32).toInt32))]))
    refine Good.back (fun _ k => XS.iconst X1.here hx rfl (hb hby own_d10_14) k) ?_
    show Good p e below _ (T1.setTop (mkF m 15 #[.val (.int p0), .val (.int p1)] [(.int (1 : Int32)), (.int ((p0.toUInt32 >>> (((12 : Int32) + p1) &&& 31).toUInt32).toInt32))]))
    refine Good.back (fun _ k => XS.iand X1.here hx rfl (hb hby own_d10_15) rfl k) ?_
    show Good p e below _ (T1.setTop (mkF m 16 #[.val (.int p0), .val (.int p1)] [(.int (((p0.toUInt32 >>> (((12 : Int32) + p1) &&& 31).toUInt32).toInt32) &&& (1 : Int32)))]))
    by_cases hc16_5 : (((p0.toUInt32 >>> (((12 : Int32) + p1) &&& 31).toUInt32).toInt32) &&& (1 : Int32)) = (0 : Int32)
    · refine Good.back (fun _ k => XS.ifYes X1.here hx rfl (pc0 := 16) (pc' := 23) rfl (hb hby own_d10_16) rfl ((if0 _ _).trans (teq hc16_5).1) (by decide) (by decide) k) ?_
      show Good p e below _ (T1.setTop (mkF m 23 #[.val (.int p0), .val (.int p1)] []))
      refine Good.back (fun _ k => XS.iconst X1.here hx rfl (hb hby own_d10_23) k) ?_
      show Good p e below _ (T1.setTop (mkF m 24 #[.val (.int p0), .val (.int p1)] [(.int (0 : Int32))]))
      refine Good.back (fun _ k => XS.goto X1.here hx rfl (pc0 := 24) (pc' := 32) rfl (hb hby own_d10_24) (by decide) (by decide) k) ?_
      show Good p e below _ (T1.setTop (mkF m 32 #[.val (.int p0), .val (.int p1)] [(.int (0 : Int32))]))
      obtain ⟨fs6, hr6, hrun6, hended6, hW6, hsame6⟩ := X1.leave (v := some (.int (0 : Int32))) (fun h => by rw [Bd.returns] at h; cases h)
      refine Good.done (retN X1 hx (t := .boolean) Bd.returns (by simp) (hb hby own_d10_32) hr6) hrun6 hended6 ⟨_, _, rfl, ?_, ⟨_, rfl⟩, hW6, hsame6.mono (by decide) (by decide)⟩
      show Q10 Z p0 p1 h0 n0 _ T1.heap _
      rw [eh1]
      exact ⟨congrArg (fun z => some (Value.int z)) (by unfold own_len2; rw [if_neg hc5_2]; rw [if_pos hc16_5]), N1, rfl⟩
    · refine Good.back (fun _ k => XS.ifNo X1.here hx rfl (hb hby own_d10_16) rfl ((if0 _ _).trans (feq hc16_5).1) k) ?_
      show Good p e below _ (T1.setTop (mkF m 19 #[.val (.int p0), .val (.int p1)] []))
      refine Good.back (fun _ k => XS.iconst X1.here hx rfl (hb hby own_d10_19) k) ?_
      show Good p e below _ (T1.setTop (mkF m 20 #[.val (.int p0), .val (.int p1)] [(.int (1 : Int32))]))
      refine Good.back (fun _ k => XS.goto X1.here hx rfl (pc0 := 20) (pc' := 32) rfl (hb hby own_d10_20) (by decide) (by decide) k) ?_
      show Good p e below _ (T1.setTop (mkF m 32 #[.val (.int p0), .val (.int p1)] [(.int (1 : Int32))]))
      obtain ⟨fs7, hr7, hrun7, hended7, hW7, hsame7⟩ := X1.leave (v := some (.int (1 : Int32))) (fun h => by rw [Bd.returns] at h; cases h)
      refine Good.done (retN X1 hx (t := .boolean) Bd.returns (by simp) (hb hby own_d10_32) hr7) hrun7 hended7 ⟨_, _, rfl, ?_, ⟨_, rfl⟩, hW7, hsame7.mono (by decide) (by decide)⟩
      show Q10 Z p0 p1 h0 n0 _ T1.heap _
      rw [eh1]
      exact ⟨congrArg (fun z => some (Value.int z)) (by unfold own_len2; rw [if_neg hc5_2]; rw [if_neg hc16_5]), N1, rfl⟩
theorem own_pd52 : parseMethodDescriptor "(II)C" = some ⟨[.int, .int], some .char⟩ := by decide +kernel
theorem own_d11_0 : decode method_7_code 0 = .ok (.iload_n 2, 1) := by decide +kernel
theorem own_d11_1 : decode method_7_code 1 = .ok (.iload_n 3, 1) := by decide +kernel
theorem own_d11_2 : decode method_7_code 2 = .ok (.invokestatic 15, 3) := by decide +kernel
theorem own_d11_5 : decode method_7_code 5 = .ok (.ifCond .eq 11, 3) := by decide +kernel
theorem own_d11_8 : decode method_7_code 8 = .ok (.iload_n 1, 1) := by decide +kernel
theorem own_d11_9 : decode method_7_code 9 = .ok (.iload_n 3, 1) := by decide +kernel
theorem own_d11_10 : decode method_7_code 10 = .ok (.invokestatic 24, 3) := by decide +kernel
theorem own_d11_13 : decode method_7_code 13 = .ok (.goto 8, 3) := by decide +kernel
theorem own_d11_16 : decode method_7_code 16 = .ok (.iload_n 0, 1) := by decide +kernel
theorem own_d11_17 : decode method_7_code 17 = .ok (.iload_n 3, 1) := by decide +kernel
theorem own_d11_18 : decode method_7_code 18 = .ok (.invokestatic 24, 3) := by decide +kernel
theorem own_d11_21 : decode method_7_code 21 = .ok (.ireturn, 1) := by decide +kernel
theorem own_ef_11 (m : MethodId) (x0 : Int32) (x1 : Int32) (x2 : Int32) (x3 : Int32) : entryFrame m #[(.int x0), (.int x1), (.int x2), (.int x3)] 4 = mkF m 0 #[.val (.int x0), .val (.int x1), .val (.int x2), .val (.int x3)] [] := by first | (simp [entryFrame, mkF, argsToLocals, Value.category]; done) | rfl
def Q11 (Z : State) (p0 : Int32) (p1 : Int32) (p2 : Int32) (p3 : Int32) (h0 : Heap) (n0 : Nat) (v : Option Value) (h : Heap) (L : List Loc) : Prop := v = some (.int (own_chr2 p0 p1 p2 p3)) ∧ Fr n0 L ∧ h = h0
set_option maxRecDepth 65536 in
set_option maxHeartbeats 40000000 in
theorem rm11 (l : Launch) (Z : State) (a0 : Array Value) (hw : ∀ d ∈ tables_1, d.before a0 Z = true) (ws : List Jvm.Cond) (p0 : Int32) (p1 : Int32) (p2 : Int32) (p3 : Int32) (h0 : Heap) (n0 : Nat) (Z0 : n0 ≤ h0.size)  :
    MetFree l (⟨"com/example/orderd/orderd/order/GameOrderEqualsPinLaw", "chr2", "(IIII)C"⟩ : MethodName) (head1 (Jvm.Cond.code (⟨"com/example/orderd/orderd/order/GameOrderEqualsPinLaw", "chr2", "(IIII)C"⟩ : MethodName) method_7_code 4 (some .char) :: ws) ({ frames := 1, cells := 0, slots := 0, locals := 13 } : Room)) (fun a U => a = #[(.int p0), (.int p1), (.int p2), (.int p3)] ∧ Z.Warmed39 U.vm ∧ U.heap = h0) (fun _ _ _ _ _ => True) (fun _ U o U' => ∃ v L, o = .returned v ∧ Q11 Z p0 p1 p2 p3 h0 n0 v U'.heap L ∧ FrameEnd U o U' L ({ frames := 1, cells := 0, slots := 0, locals := 13 } : Room).cells ({ frames := 1, cells := 0, slots := 0, locals := 13 } : Room).slots) := by
  refine MetFree.of_bodySF (plainFor_of_name own_pn0) hisR ?_
  intro p e s m args below meth c s₁ Bd hml0 hP hK
  obtain ⟨rfl, hZ, hh⟩ := hP
  have hx := Bd.exec
  have hby := Bd.bytes
  have hml : c.maxLocals = 4 := hml0
  have hown : s.vm.findClass "com/example/orderd/orderd/order/GameOrderEqualsPinLaw" = some m.cls := findClass_of_methodNamed Bd.named
  have hnm := (name_of_methodNamed Bd.named Bd.method).1
  have X0 : Stand p l e ({ frames := 1, cells := 0, slots := 0, locals := 13 } : Room) s m #[(.int p0), (.int p1), (.int p2), (.int p3)] below meth c s₁ [] 0 0 := Stand.of_body Bd
  have e0 : s₁.heap = h0 := by rw [← hh, Bd.state]; rfl
  have N0 := Fr.nil n0
  show Good p e below (fun o U' => ∃ v L, o = .returned v ∧ Q11 Z p0 p1 p2 p3 h0 n0 v U'.heap L ∧ FrameEnd s o U' L ({ frames := 1, cells := 0, slots := 0, locals := 13 } : Room).cells ({ frames := 1, cells := 0, slots := 0, locals := 13 } : Room).slots) _
  refine Good.back (S' := s₁.setTop (mkF m 0 #[.val (.int p0), .val (.int p1), .val (.int p2), .val (.int p3)] [])) (fun t k => castTop (own_ef_11 m p0 p1 p2 p3) k) ?_
  show Good p e below _ (s₁.setTop (mkF m 0 #[.val (.int p0), .val (.int p1), .val (.int p2), .val (.int p3)] []))
  refine Good.back (fun _ k => XS.iloadN X0.here hx rfl (hb hby own_d11_0) rfl k) ?_
  show Good p e below _ (s₁.setTop (mkF m 1 #[.val (.int p0), .val (.int p1), .val (.int p2), .val (.int p3)] [(.int p2)]))
  refine Good.back (fun _ k => XS.iloadN X0.here hx rfl (hb hby own_d11_1) rfl k) ?_
  show Good p e below _ (s₁.setTop (mkF m 2 #[.val (.int p0), .val (.int p1), .val (.int p2), .val (.int p3)] [(.int p3), (.int p2)]))
  obtain ⟨_, _, ⟨T1, L1, k1, n1⟩, -, X1, ⟨Lc1, hQ1, l1, y1, z1⟩, st1⟩ := Jvm.LawKit.callS X0 hx (y := (⟨"com/example/orderd/orderd/order/GameOrderEqualsPinLaw", "drawn", "(II)Z"⟩ : MethodName)) hown (mvT hZ (hw _ (List.mem_of_getElem? (i := 0) rfl))) (mvT hZ (hw _ (List.mem_of_getElem? (i := 1) rfl))) (mvT hZ (hw _ (List.mem_of_getElem? (i := 2) rfl))) (mvT hZ (hw _ (List.mem_of_getElem? (i := 3) rfl))) (by decide) (backOf (W := 0) (rm1 l Z a0 hw [] p2 p3  h0 n0 Z0 ) hZ (hw _ (List.mem_of_getElem? (i := 3) rfl)) (hw _ (List.mem_of_getElem? (i := 2) rfl)) (by decide) (by decide)) (g := (mkF m 2 #[.val (.int p0), .val (.int p1), .val (.int p2), .val (.int p3)] [(.int p3), (.int p2)])) rfl (by rw [hml]; rfl) (argsL := [(.int p2), (.int p3)]) (rest := []) (lenOf own_pd31 rfl) rfl (by show 2 * 0 + _ ≤ _; exact Nat.le_of_eq rfl) (hb hby own_d11_2) (fun _ _ => ⟨rfl, e0, (by decide : 0 + 0 ≤ _), (by decide : 0 + 0 ≤ _)⟩)
  dsimp only [Pt.U, Pt.locs, Pt.cells, Pt.slots] at X1 l1 y1 z1 st1 hQ1
  subst l1 y1 z1
  obtain ⟨rfl, N1q, eh1⟩ := hQ1
  have N1 := Fr.app N0 N1q
  refine Good.back st1 ?_
  show Good p e below _ (T1.setTop (mkF m 5 #[.val (.int p0), .val (.int p1), .val (.int p2), .val (.int p3)] [(.int (own_drawn p2 p3))]))
  by_cases hc5_2 : (own_drawn p2 p3) = (0 : Int32)
  · refine Good.back (fun _ k => XS.ifYes X1.here hx rfl (pc0 := 5) (pc' := 16) rfl (hb hby own_d11_5) rfl ((if0 _ _).trans (teq hc5_2).1) (by decide) (by decide) k) ?_
    show Good p e below _ (T1.setTop (mkF m 16 #[.val (.int p0), .val (.int p1), .val (.int p2), .val (.int p3)] []))
    refine Good.back (fun _ k => XS.iloadN X1.here hx rfl (hb hby own_d11_16) rfl k) ?_
    show Good p e below _ (T1.setTop (mkF m 17 #[.val (.int p0), .val (.int p1), .val (.int p2), .val (.int p3)] [(.int p0)]))
    refine Good.back (fun _ k => XS.iloadN X1.here hx rfl (hb hby own_d11_17) rfl k) ?_
    show Good p e below _ (T1.setTop (mkF m 18 #[.val (.int p0), .val (.int p1), .val (.int p2), .val (.int p3)] [(.int p3), (.int p0)]))
    obtain ⟨_, _, ⟨T3, L3, k3, n3⟩, -, X3, ⟨Lc3, hQ3, l3, y3, z3⟩, st3⟩ := Jvm.LawKit.callS X1 hx (y := (⟨"com/example/orderd/orderd/order/GameOrderEqualsPinLaw", "ch", "(II)C"⟩ : MethodName)) hown (mvT hZ (hw _ (List.mem_of_getElem? (i := 10) rfl))) (mvT hZ (hw _ (List.mem_of_getElem? (i := 11) rfl))) (mvT hZ (hw _ (List.mem_of_getElem? (i := 2) rfl))) (mvT hZ (hw _ (List.mem_of_getElem? (i := 12) rfl))) (by decide) (backOf (W := 0) (rm4 l Z a0 hw [] p0 p3  h0 n0 Z0 ) hZ (hw _ (List.mem_of_getElem? (i := 12) rfl)) (hw _ (List.mem_of_getElem? (i := 2) rfl)) (by decide) (by decide)) (g := (mkF m 18 #[.val (.int p0), .val (.int p1), .val (.int p2), .val (.int p3)] [(.int p3), (.int p0)])) rfl (by rw [hml]; rfl) (argsL := [(.int p0), (.int p3)]) (rest := []) (lenOf own_pd52 rfl) rfl (by show 2 * 0 + _ ≤ _; exact Nat.le_of_eq rfl) (hb hby own_d11_18) (fun _ _ => ⟨rfl, eh1, (by decide : 0 + 0 ≤ _), (by decide : 0 + 0 ≤ _)⟩)
    dsimp only [Pt.U, Pt.locs, Pt.cells, Pt.slots] at X3 l3 y3 z3 st3 hQ3
    subst l3 y3 z3
    obtain ⟨rfl, N3q, eh3⟩ := hQ3
    have N3 := Fr.app N1 N3q
    refine Good.back st3 ?_
    show Good p e below _ (T3.setTop (mkF m 21 #[.val (.int p0), .val (.int p1), .val (.int p2), .val (.int p3)] [(.int (own_ch p0 p3))]))
    obtain ⟨fs4, hr4, hrun4, hended4, hW4, hsame4⟩ := X3.leave (v := some (.int (nar .char (own_ch p0 p3)))) (fun h => by rw [Bd.returns] at h; cases h)
    refine Good.done (retN X3 hx (t := .char) Bd.returns (by simp) (hb hby own_d11_21) hr4) hrun4 hended4 ⟨_, _, rfl, ?_, ⟨_, rfl⟩, hW4, hsame4.mono (by decide) (by decide)⟩
    show Q11 Z p0 p1 p2 p3 h0 n0 _ T3.heap _
    rw [eh3]
    exact ⟨congrArg (fun z => some (Value.int z)) (by unfold own_chr2; rw [if_pos hc5_2]), N3, rfl⟩
  · refine Good.back (fun _ k => XS.ifNo X1.here hx rfl (hb hby own_d11_5) rfl ((if0 _ _).trans (feq hc5_2).1) k) ?_
    show Good p e below _ (T1.setTop (mkF m 8 #[.val (.int p0), .val (.int p1), .val (.int p2), .val (.int p3)] []))
    refine Good.back (fun _ k => XS.iloadN X1.here hx rfl (hb hby own_d11_8) rfl k) ?_
    show Good p e below _ (T1.setTop (mkF m 9 #[.val (.int p0), .val (.int p1), .val (.int p2), .val (.int p3)] [(.int p1)]))
    refine Good.back (fun _ k => XS.iloadN X1.here hx rfl (hb hby own_d11_9) rfl k) ?_
    show Good p e below _ (T1.setTop (mkF m 10 #[.val (.int p0), .val (.int p1), .val (.int p2), .val (.int p3)] [(.int p3), (.int p1)]))
    obtain ⟨_, _, ⟨T5, L5, k5, n5⟩, -, X5, ⟨Lc5, hQ5, l5, y5, z5⟩, st5⟩ := Jvm.LawKit.callS X1 hx (y := (⟨"com/example/orderd/orderd/order/GameOrderEqualsPinLaw", "ch", "(II)C"⟩ : MethodName)) hown (mvT hZ (hw _ (List.mem_of_getElem? (i := 10) rfl))) (mvT hZ (hw _ (List.mem_of_getElem? (i := 11) rfl))) (mvT hZ (hw _ (List.mem_of_getElem? (i := 2) rfl))) (mvT hZ (hw _ (List.mem_of_getElem? (i := 12) rfl))) (by decide) (backOf (W := 0) (rm4 l Z a0 hw [] p1 p3  h0 n0 Z0 ) hZ (hw _ (List.mem_of_getElem? (i := 12) rfl)) (hw _ (List.mem_of_getElem? (i := 2) rfl)) (by decide) (by decide)) (g := (mkF m 10 #[.val (.int p0), .val (.int p1), .val (.int p2), .val (.int p3)] [(.int p3), (.int p1)])) rfl (by rw [hml]; rfl) (argsL := [(.int p1), (.int p3)]) (rest := []) (lenOf own_pd52 rfl) rfl (by show 2 * 0 + _ ≤ _; exact Nat.le_of_eq rfl) (hb hby own_d11_10) (fun _ _ => ⟨rfl, eh1, (by decide : 0 + 0 ≤ _), (by decide : 0 + 0 ≤ _)⟩)
    dsimp only [Pt.U, Pt.locs, Pt.cells, Pt.slots] at X5 l5 y5 z5 st5 hQ5
    subst l5 y5 z5
    obtain ⟨rfl, N5q, eh5⟩ := hQ5
    have N5 := Fr.app N1 N5q
    refine Good.back st5 ?_
    show Good p e below _ (T5.setTop (mkF m 13 #[.val (.int p0), .val (.int p1), .val (.int p2), .val (.int p3)] [(.int (own_ch p1 p3))]))
    refine Good.back (fun _ k => XS.goto X5.here hx rfl (pc0 := 13) (pc' := 21) rfl (hb hby own_d11_13) (by decide) (by decide) k) ?_
    show Good p e below _ (T5.setTop (mkF m 21 #[.val (.int p0), .val (.int p1), .val (.int p2), .val (.int p3)] [(.int (own_ch p1 p3))]))
    obtain ⟨fs6, hr6, hrun6, hended6, hW6, hsame6⟩ := X5.leave (v := some (.int (nar .char (own_ch p1 p3)))) (fun h => by rw [Bd.returns] at h; cases h)
    refine Good.done (retN X5 hx (t := .char) Bd.returns (by simp) (hb hby own_d11_21) hr6) hrun6 hended6 ⟨_, _, rfl, ?_, ⟨_, rfl⟩, hW6, hsame6.mono (by decide) (by decide)⟩
    show Q11 Z p0 p1 p2 p3 h0 n0 _ T5.heap _
    rw [eh5]
    exact ⟨congrArg (fun z => some (Value.int z)) (by unfold own_chr2; rw [if_neg hc5_2]), N5, rfl⟩
theorem own_pd65 : parseMethodDescriptor "(IIII)C" = some ⟨[.int, .int, .int, .int], some .char⟩ := by decide +kernel
theorem own_d12_0 : decode method_10_code 0 = .ok (.iload_n 2, 1) := by decide +kernel
theorem own_d12_1 : decode method_10_code 1 = .ok (.iload_n 3, 1) := by decide +kernel
theorem own_d12_2 : decode method_10_code 2 = .ok (.invokestatic 21, 3) := by decide +kernel
theorem own_d12_5 : decode method_10_code 5 = .ok (.istore 4, 2) := by decide +kernel
theorem own_d12_7 : decode method_10_code 7 = .ok (.iload_n 2, 1) := by decide +kernel
theorem own_d12_8 : decode method_10_code 8 = .ok (.iload_n 3, 1) := by decide +kernel
theorem own_d12_9 : decode method_10_code 9 = .ok (.invokestatic 32, 3) := by decide +kernel
theorem own_d12_12 : decode method_10_code 12 = .ok (.istore 5, 2) := by decide +kernel
theorem own_d12_14 : decode method_10_code 14 = .ok (.iload 4, 2) := by decide +kernel
theorem own_d12_16 : decode method_10_code 16 = .ok (.iload 5, 2) := by decide +kernel
theorem own_d12_18 : decode method_10_code 18 = .ok (.if_icmp .eq 5, 3) := by decide +kernel
theorem own_d12_21 : decode method_10_code 21 = .ok (.iconst 0, 1) := by decide +kernel
theorem own_d12_22 : decode method_10_code 22 = .ok (.ireturn, 1) := by decide +kernel
theorem own_d12_23 : decode method_10_code 23 = .ok (.iload 4, 2) := by decide +kernel
theorem own_d12_25 : decode method_10_code 25 = .ok (.ifCond .ne 5, 3) := by decide +kernel
theorem own_d12_28 : decode method_10_code 28 = .ok (.iconst 1, 1) := by decide +kernel
theorem own_d12_29 : decode method_10_code 29 = .ok (.ireturn, 1) := by decide +kernel
theorem own_d12_30 : decode method_10_code 30 = .ok (.iload_n 0, 1) := by decide +kernel
theorem own_d12_31 : decode method_10_code 31 = .ok (.iload_n 3, 1) := by decide +kernel
theorem own_d12_32 : decode method_10_code 32 = .ok (.invokestatic 24, 3) := by decide +kernel
theorem own_d12_35 : decode method_10_code 35 = .ok (.iload_n 0, 1) := by decide +kernel
theorem own_d12_36 : decode method_10_code 36 = .ok (.iload_n 1, 1) := by decide +kernel
theorem own_d12_37 : decode method_10_code 37 = .ok (.iload_n 2, 1) := by decide +kernel
theorem own_d12_38 : decode method_10_code 38 = .ok (.iload_n 3, 1) := by decide +kernel
theorem own_d12_39 : decode method_10_code 39 = .ok (.invokestatic 35, 3) := by decide +kernel
theorem own_d12_42 : decode method_10_code 42 = .ok (.if_icmp .ne 7, 3) := by decide +kernel
theorem own_d12_45 : decode method_10_code 45 = .ok (.iconst 1, 1) := by decide +kernel
theorem own_d12_46 : decode method_10_code 46 = .ok (.goto 4, 3) := by decide +kernel
theorem own_d12_49 : decode method_10_code 49 = .ok (.iconst 0, 1) := by decide +kernel
theorem own_d12_50 : decode method_10_code 50 = .ok (.ireturn, 1) := by decide +kernel
theorem own_ef_12 (m : MethodId) (x0 : Int32) (x1 : Int32) (x2 : Int32) (x3 : Int32) : entryFrame m #[(.int x0), (.int x1), (.int x2), (.int x3)] 6 = mkF m 0 #[.val (.int x0), .val (.int x1), .val (.int x2), .val (.int x3), .unset, .unset] [] := by first | (simp [entryFrame, mkF, argsToLocals, Value.category]; done) | rfl
def Q12 (Z : State) (p0 : Int32) (p1 : Int32) (p2 : Int32) (p3 : Int32) (h0 : Heap) (n0 : Nat) (v : Option Value) (h : Heap) (L : List Loc) : Prop := v = some (.int (own_same p0 p1 p2 p3)) ∧ Fr n0 L ∧ h = h0
set_option maxRecDepth 65536 in
set_option maxHeartbeats 40000000 in
theorem rm12 (l : Launch) (Z : State) (a0 : Array Value) (hw : ∀ d ∈ tables_1, d.before a0 Z = true) (ws : List Jvm.Cond) (p0 : Int32) (p1 : Int32) (p2 : Int32) (p3 : Int32) (h0 : Heap) (n0 : Nat) (Z0 : n0 ≤ h0.size)  :
    MetFree l (⟨"com/example/orderd/orderd/order/GameOrderEqualsPinLaw", "same", "(IIII)Z"⟩ : MethodName) (head1 (Jvm.Cond.code (⟨"com/example/orderd/orderd/order/GameOrderEqualsPinLaw", "same", "(IIII)Z"⟩ : MethodName) method_10_code 6 (some .boolean) :: ws) ({ frames := 2, cells := 0, slots := 0, locals := 29 } : Room)) (fun a U => a = #[(.int p0), (.int p1), (.int p2), (.int p3)] ∧ Z.Warmed39 U.vm ∧ U.heap = h0) (fun _ _ _ _ _ => True) (fun _ U o U' => ∃ v L, o = .returned v ∧ Q12 Z p0 p1 p2 p3 h0 n0 v U'.heap L ∧ FrameEnd U o U' L ({ frames := 2, cells := 0, slots := 0, locals := 29 } : Room).cells ({ frames := 2, cells := 0, slots := 0, locals := 29 } : Room).slots) := by
  refine MetFree.of_bodySF (plainFor_of_name own_pn0) hisR ?_
  intro p e s m args below meth c s₁ Bd hml0 hP hK
  obtain ⟨rfl, hZ, hh⟩ := hP
  have hx := Bd.exec
  have hby := Bd.bytes
  have hml : c.maxLocals = 6 := hml0
  have hown : s.vm.findClass "com/example/orderd/orderd/order/GameOrderEqualsPinLaw" = some m.cls := findClass_of_methodNamed Bd.named
  have hnm := (name_of_methodNamed Bd.named Bd.method).1
  have X0 : Stand p l e ({ frames := 2, cells := 0, slots := 0, locals := 29 } : Room) s m #[(.int p0), (.int p1), (.int p2), (.int p3)] below meth c s₁ [] 0 0 := Stand.of_body Bd
  have e0 : s₁.heap = h0 := by rw [← hh, Bd.state]; rfl
  have N0 := Fr.nil n0
  show Good p e below (fun o U' => ∃ v L, o = .returned v ∧ Q12 Z p0 p1 p2 p3 h0 n0 v U'.heap L ∧ FrameEnd s o U' L ({ frames := 2, cells := 0, slots := 0, locals := 29 } : Room).cells ({ frames := 2, cells := 0, slots := 0, locals := 29 } : Room).slots) _
  refine Good.back (S' := s₁.setTop (mkF m 0 #[.val (.int p0), .val (.int p1), .val (.int p2), .val (.int p3), .unset, .unset] [])) (fun t k => castTop (own_ef_12 m p0 p1 p2 p3) k) ?_
  show Good p e below _ (s₁.setTop (mkF m 0 #[.val (.int p0), .val (.int p1), .val (.int p2), .val (.int p3), .unset, .unset] []))
  refine Good.back (fun _ k => XS.iloadN X0.here hx rfl (hb hby own_d12_0) rfl k) ?_
  show Good p e below _ (s₁.setTop (mkF m 1 #[.val (.int p0), .val (.int p1), .val (.int p2), .val (.int p3), .unset, .unset] [(.int p2)]))
  refine Good.back (fun _ k => XS.iloadN X0.here hx rfl (hb hby own_d12_1) rfl k) ?_
  show Good p e below _ (s₁.setTop (mkF m 2 #[.val (.int p0), .val (.int p1), .val (.int p2), .val (.int p3), .unset, .unset] [(.int p3), (.int p2)]))
  obtain ⟨_, _, ⟨T1, L1, k1, n1⟩, -, X1, ⟨Lc1, hQ1, l1, y1, z1⟩, st1⟩ := Jvm.LawKit.callS X0 hx (y := (⟨"com/example/orderd/orderd/order/GameOrderEqualsPinLaw", "len1", "(II)Z"⟩ : MethodName)) hown (mvT hZ (hw _ (List.mem_of_getElem? (i := 7) rfl))) (mvT hZ (hw _ (List.mem_of_getElem? (i := 8) rfl))) (mvT hZ (hw _ (List.mem_of_getElem? (i := 2) rfl))) (mvT hZ (hw _ (List.mem_of_getElem? (i := 9) rfl))) (by decide) (backOf (W := 0) (rm3 l Z a0 hw [] p2 p3  h0 n0 Z0 ) hZ (hw _ (List.mem_of_getElem? (i := 9) rfl)) (hw _ (List.mem_of_getElem? (i := 2) rfl)) (by decide) (by decide)) (g := (mkF m 2 #[.val (.int p0), .val (.int p1), .val (.int p2), .val (.int p3), .unset, .unset] [(.int p3), (.int p2)])) rfl (by rw [hml]; rfl) (argsL := [(.int p2), (.int p3)]) (rest := []) (lenOf own_pd31 rfl) rfl (by show 2 * 0 + _ ≤ _; exact Nat.le_of_eq rfl) (hb hby own_d12_2) (fun _ _ => ⟨rfl, e0, (by decide : 0 + 0 ≤ _), (by decide : 0 + 0 ≤ _)⟩)
  dsimp only [Pt.U, Pt.locs, Pt.cells, Pt.slots] at X1 l1 y1 z1 st1 hQ1
  subst l1 y1 z1
  obtain ⟨rfl, N1q, eh1⟩ := hQ1
  have N1 := Fr.app N0 N1q
  refine Good.back st1 ?_
  show Good p e below _ (T1.setTop (mkF m 5 #[.val (.int p0), .val (.int p1), .val (.int p2), .val (.int p3), .unset, .unset] [(.int (own_len1 p2 p3))]))
  refine Good.back (fun _ k => XS.istore X1.here hx rfl (hb hby own_d12_5) rfl (l' := #[.val (.int p0), .val (.int p1), .val (.int p2), .val (.int p3), .val (.int (own_len1 p2 p3)), .unset]) rfl k) ?_
  show Good p e below _ (T1.setTop (mkF m 7 #[.val (.int p0), .val (.int p1), .val (.int p2), .val (.int p3), .val (.int (own_len1 p2 p3)), .unset] []))
  refine Good.back (fun _ k => XS.iloadN X1.here hx rfl (hb hby own_d12_7) rfl k) ?_
  show Good p e below _ (T1.setTop (mkF m 8 #[.val (.int p0), .val (.int p1), .val (.int p2), .val (.int p3), .val (.int (own_len1 p2 p3)), .unset] [(.int p2)]))
  refine Good.back (fun _ k => XS.iloadN X1.here hx rfl (hb hby own_d12_8) rfl k) ?_
  show Good p e below _ (T1.setTop (mkF m 9 #[.val (.int p0), .val (.int p1), .val (.int p2), .val (.int p3), .val (.int (own_len1 p2 p3)), .unset] [(.int p3), (.int p2)]))
  obtain ⟨_, _, ⟨T2, L2, k2, n2⟩, -, X2, ⟨Lc2, hQ2, l2, y2, z2⟩, st2⟩ := Jvm.LawKit.callS X1 hx (y := (⟨"com/example/orderd/orderd/order/GameOrderEqualsPinLaw", "len2", "(II)Z"⟩ : MethodName)) hown (mvT hZ (hw _ (List.mem_of_getElem? (i := 56) rfl))) (mvT hZ (hw _ (List.mem_of_getElem? (i := 57) rfl))) (mvT hZ (hw _ (List.mem_of_getElem? (i := 2) rfl))) (mvT hZ (hw _ (List.mem_of_getElem? (i := 58) rfl))) (by decide) (backOf (W := 0) (rm10 l Z a0 hw [] p2 p3  h0 n0 Z0 ) hZ (hw _ (List.mem_of_getElem? (i := 58) rfl)) (hw _ (List.mem_of_getElem? (i := 2) rfl)) (by decide) (by decide)) (g := (mkF m 9 #[.val (.int p0), .val (.int p1), .val (.int p2), .val (.int p3), .val (.int (own_len1 p2 p3)), .unset] [(.int p3), (.int p2)])) rfl (by rw [hml]; rfl) (argsL := [(.int p2), (.int p3)]) (rest := []) (lenOf own_pd31 rfl) rfl (by show 2 * 0 + _ ≤ _; exact Nat.le_of_eq rfl) (hb hby own_d12_9) (fun _ _ => ⟨rfl, eh1, (by decide : 0 + 0 ≤ _), (by decide : 0 + 0 ≤ _)⟩)
  dsimp only [Pt.U, Pt.locs, Pt.cells, Pt.slots] at X2 l2 y2 z2 st2 hQ2
  subst l2 y2 z2
  obtain ⟨rfl, N2q, eh2⟩ := hQ2
  have N2 := Fr.app N1 N2q
  refine Good.back st2 ?_
  show Good p e below _ (T2.setTop (mkF m 12 #[.val (.int p0), .val (.int p1), .val (.int p2), .val (.int p3), .val (.int (own_len1 p2 p3)), .unset] [(.int (own_len2 p2 p3))]))
  refine Good.back (fun _ k => XS.istore X2.here hx rfl (hb hby own_d12_12) rfl (l' := #[.val (.int p0), .val (.int p1), .val (.int p2), .val (.int p3), .val (.int (own_len1 p2 p3)), .val (.int (own_len2 p2 p3))]) rfl k) ?_
  show Good p e below _ (T2.setTop (mkF m 14 #[.val (.int p0), .val (.int p1), .val (.int p2), .val (.int p3), .val (.int (own_len1 p2 p3)), .val (.int (own_len2 p2 p3))] []))
  refine Good.back (fun _ k => XS.iload X2.here hx rfl (hb hby own_d12_14) rfl k) ?_
  show Good p e below _ (T2.setTop (mkF m 16 #[.val (.int p0), .val (.int p1), .val (.int p2), .val (.int p3), .val (.int (own_len1 p2 p3)), .val (.int (own_len2 p2 p3))] [(.int (own_len1 p2 p3))]))
  refine Good.back (fun _ k => XS.iload X2.here hx rfl (hb hby own_d12_16) rfl k) ?_
  show Good p e below _ (T2.setTop (mkF m 18 #[.val (.int p0), .val (.int p1), .val (.int p2), .val (.int p3), .val (.int (own_len1 p2 p3)), .val (.int (own_len2 p2 p3))] [(.int (own_len2 p2 p3)), (.int (own_len1 p2 p3))]))
  by_cases hc18_3 : (own_len1 p2 p3) = (own_len2 p2 p3)
  · refine Good.back (fun _ k => XS.icmpYes X2.here hx rfl (pc0 := 18) (pc' := 23) rfl (hb hby own_d12_18) rfl (teq hc18_3).1 (by decide) (by decide) k) ?_
    show Good p e below _ (T2.setTop (mkF m 23 #[.val (.int p0), .val (.int p1), .val (.int p2), .val (.int p3), .val (.int (own_len1 p2 p3)), .val (.int (own_len2 p2 p3))] []))
    refine Good.back (fun _ k => XS.iload X2.here hx rfl (hb hby own_d12_23) rfl k) ?_
    show Good p e below _ (T2.setTop (mkF m 25 #[.val (.int p0), .val (.int p1), .val (.int p2), .val (.int p3), .val (.int (own_len1 p2 p3)), .val (.int (own_len2 p2 p3))] [(.int (own_len1 p2 p3))]))
    by_cases hc25_4 : (own_len1 p2 p3) = (0 : Int32)
    · refine Good.back (fun _ k => XS.ifNo X2.here hx rfl (hb hby own_d12_25) rfl ((if0 _ _).trans (teq hc25_4).2) k) ?_
      show Good p e below _ (T2.setTop (mkF m 28 #[.val (.int p0), .val (.int p1), .val (.int p2), .val (.int p3), .val (.int (own_len1 p2 p3)), .val (.int (own_len2 p2 p3))] []))
      refine Good.back (fun _ k => XS.iconst X2.here hx rfl (hb hby own_d12_28) k) ?_
      show Good p e below _ (T2.setTop (mkF m 29 #[.val (.int p0), .val (.int p1), .val (.int p2), .val (.int p3), .val (.int (own_len1 p2 p3)), .val (.int (own_len2 p2 p3))] [(.int (1 : Int32))]))
      obtain ⟨fs5, hr5, hrun5, hended5, hW5, hsame5⟩ := X2.leave (v := some (.int (1 : Int32))) (fun h => by rw [Bd.returns] at h; cases h)
      refine Good.done (retN X2 hx (t := .boolean) Bd.returns (by simp) (hb hby own_d12_29) hr5) hrun5 hended5 ⟨_, _, rfl, ?_, ⟨_, rfl⟩, hW5, hsame5.mono (by decide) (by decide)⟩
      show Q12 Z p0 p1 p2 p3 h0 n0 _ T2.heap _
      rw [eh2]
      exact ⟨congrArg (fun z => some (Value.int z)) (by unfold own_same; rw [if_pos hc18_3]; rw [if_pos hc25_4]), N2, rfl⟩
    · refine Good.back (fun _ k => XS.ifYes X2.here hx rfl (pc0 := 25) (pc' := 30) rfl (hb hby own_d12_25) rfl ((if0 _ _).trans (feq hc25_4).2) (by decide) (by decide) k) ?_
      show Good p e below _ (T2.setTop (mkF m 30 #[.val (.int p0), .val (.int p1), .val (.int p2), .val (.int p3), .val (.int (own_len1 p2 p3)), .val (.int (own_len2 p2 p3))] []))
      refine Good.back (fun _ k => XS.iloadN X2.here hx rfl (hb hby own_d12_30) rfl k) ?_
      show Good p e below _ (T2.setTop (mkF m 31 #[.val (.int p0), .val (.int p1), .val (.int p2), .val (.int p3), .val (.int (own_len1 p2 p3)), .val (.int (own_len2 p2 p3))] [(.int p0)]))
      refine Good.back (fun _ k => XS.iloadN X2.here hx rfl (hb hby own_d12_31) rfl k) ?_
      show Good p e below _ (T2.setTop (mkF m 32 #[.val (.int p0), .val (.int p1), .val (.int p2), .val (.int p3), .val (.int (own_len1 p2 p3)), .val (.int (own_len2 p2 p3))] [(.int p3), (.int p0)]))
      obtain ⟨_, _, ⟨T6, L6, k6, n6⟩, -, X6, ⟨Lc6, hQ6, l6, y6, z6⟩, st6⟩ := Jvm.LawKit.callS X2 hx (y := (⟨"com/example/orderd/orderd/order/GameOrderEqualsPinLaw", "ch", "(II)C"⟩ : MethodName)) hown (mvT hZ (hw _ (List.mem_of_getElem? (i := 10) rfl))) (mvT hZ (hw _ (List.mem_of_getElem? (i := 11) rfl))) (mvT hZ (hw _ (List.mem_of_getElem? (i := 2) rfl))) (mvT hZ (hw _ (List.mem_of_getElem? (i := 12) rfl))) (by decide) (backOf (W := 0) (rm4 l Z a0 hw [] p0 p3  h0 n0 Z0 ) hZ (hw _ (List.mem_of_getElem? (i := 12) rfl)) (hw _ (List.mem_of_getElem? (i := 2) rfl)) (by decide) (by decide)) (g := (mkF m 32 #[.val (.int p0), .val (.int p1), .val (.int p2), .val (.int p3), .val (.int (own_len1 p2 p3)), .val (.int (own_len2 p2 p3))] [(.int p3), (.int p0)])) rfl (by rw [hml]; rfl) (argsL := [(.int p0), (.int p3)]) (rest := []) (lenOf own_pd52 rfl) rfl (by show 2 * 0 + _ ≤ _; exact Nat.le_of_eq rfl) (hb hby own_d12_32) (fun _ _ => ⟨rfl, eh2, (by decide : 0 + 0 ≤ _), (by decide : 0 + 0 ≤ _)⟩)
      dsimp only [Pt.U, Pt.locs, Pt.cells, Pt.slots] at X6 l6 y6 z6 st6 hQ6
      subst l6 y6 z6
      obtain ⟨rfl, N6q, eh6⟩ := hQ6
      have N6 := Fr.app N2 N6q
      refine Good.back st6 ?_
      show Good p e below _ (T6.setTop (mkF m 35 #[.val (.int p0), .val (.int p1), .val (.int p2), .val (.int p3), .val (.int (own_len1 p2 p3)), .val (.int (own_len2 p2 p3))] [(.int (own_ch p0 p3))]))
      refine Good.back (fun _ k => XS.iloadN X6.here hx rfl (hb hby own_d12_35) rfl k) ?_
      show Good p e below _ (T6.setTop (mkF m 36 #[.val (.int p0), .val (.int p1), .val (.int p2), .val (.int p3), .val (.int (own_len1 p2 p3)), .val (.int (own_len2 p2 p3))] [(.int p0), (.int (own_ch p0 p3))]))
      refine Good.back (fun _ k => XS.iloadN X6.here hx rfl (hb hby own_d12_36) rfl k) ?_
      show Good p e below _ (T6.setTop (mkF m 37 #[.val (.int p0), .val (.int p1), .val (.int p2), .val (.int p3), .val (.int (own_len1 p2 p3)), .val (.int (own_len2 p2 p3))] [(.int p1), (.int p0), (.int (own_ch p0 p3))]))
      refine Good.back (fun _ k => XS.iloadN X6.here hx rfl (hb hby own_d12_37) rfl k) ?_
      show Good p e below _ (T6.setTop (mkF m 38 #[.val (.int p0), .val (.int p1), .val (.int p2), .val (.int p3), .val (.int (own_len1 p2 p3)), .val (.int (own_len2 p2 p3))] [(.int p2), (.int p1), (.int p0), (.int (own_ch p0 p3))]))
      refine Good.back (fun _ k => XS.iloadN X6.here hx rfl (hb hby own_d12_38) rfl k) ?_
      show Good p e below _ (T6.setTop (mkF m 39 #[.val (.int p0), .val (.int p1), .val (.int p2), .val (.int p3), .val (.int (own_len1 p2 p3)), .val (.int (own_len2 p2 p3))] [(.int p3), (.int p2), (.int p1), (.int p0), (.int (own_ch p0 p3))]))
      obtain ⟨_, _, ⟨T7, L7, k7, n7⟩, -, X7, ⟨Lc7, hQ7, l7, y7, z7⟩, st7⟩ := Jvm.LawKit.callS X6 hx (y := (⟨"com/example/orderd/orderd/order/GameOrderEqualsPinLaw", "chr2", "(IIII)C"⟩ : MethodName)) hown (mvT hZ (hw _ (List.mem_of_getElem? (i := 59) rfl))) (mvT hZ (hw _ (List.mem_of_getElem? (i := 60) rfl))) (mvT hZ (hw _ (List.mem_of_getElem? (i := 2) rfl))) (mvT hZ (hw _ (List.mem_of_getElem? (i := 61) rfl))) (by decide) (backOf (W := 1) (rm11 l Z a0 hw [] p0 p1 p2 p3  h0 n0 Z0 ) hZ (hw _ (List.mem_of_getElem? (i := 61) rfl)) (hw _ (List.mem_of_getElem? (i := 2) rfl)) (by decide) (by decide)) (g := (mkF m 39 #[.val (.int p0), .val (.int p1), .val (.int p2), .val (.int p3), .val (.int (own_len1 p2 p3)), .val (.int (own_len2 p2 p3))] [(.int p3), (.int p2), (.int p1), (.int p0), (.int (own_ch p0 p3))])) rfl (by rw [hml]; rfl) (argsL := [(.int p0), (.int p1), (.int p2), (.int p3)]) (rest := [(.int (own_ch p0 p3))]) (lenOf own_pd65 rfl) rfl (by show 2 * 0 + _ ≤ _; exact Nat.le_of_eq rfl) (hb hby own_d12_39) (fun _ _ => ⟨rfl, eh6, (by decide : 0 + 0 ≤ _), (by decide : 0 + 0 ≤ _)⟩)
      dsimp only [Pt.U, Pt.locs, Pt.cells, Pt.slots] at X7 l7 y7 z7 st7 hQ7
      subst l7 y7 z7
      obtain ⟨rfl, N7q, eh7⟩ := hQ7
      have N7 := Fr.app N6 N7q
      refine Good.back st7 ?_
      show Good p e below _ (T7.setTop (mkF m 42 #[.val (.int p0), .val (.int p1), .val (.int p2), .val (.int p3), .val (.int (own_len1 p2 p3)), .val (.int (own_len2 p2 p3))] [(.int (own_chr2 p0 p1 p2 p3)), (.int (own_ch p0 p3))]))
      by_cases hc42_8 : (own_ch p0 p3) = (own_chr2 p0 p1 p2 p3)
      · refine Good.back (fun _ k => XS.icmpNo X7.here hx rfl (hb hby own_d12_42) rfl (teq hc42_8).2 k) ?_
        show Good p e below _ (T7.setTop (mkF m 45 #[.val (.int p0), .val (.int p1), .val (.int p2), .val (.int p3), .val (.int (own_len1 p2 p3)), .val (.int (own_len2 p2 p3))] []))
        refine Good.back (fun _ k => XS.iconst X7.here hx rfl (hb hby own_d12_45) k) ?_
        show Good p e below _ (T7.setTop (mkF m 46 #[.val (.int p0), .val (.int p1), .val (.int p2), .val (.int p3), .val (.int (own_len1 p2 p3)), .val (.int (own_len2 p2 p3))] [(.int (1 : Int32))]))
        refine Good.back (fun _ k => XS.goto X7.here hx rfl (pc0 := 46) (pc' := 50) rfl (hb hby own_d12_46) (by decide) (by decide) k) ?_
        show Good p e below _ (T7.setTop (mkF m 50 #[.val (.int p0), .val (.int p1), .val (.int p2), .val (.int p3), .val (.int (own_len1 p2 p3)), .val (.int (own_len2 p2 p3))] [(.int (1 : Int32))]))
        obtain ⟨fs9, hr9, hrun9, hended9, hW9, hsame9⟩ := X7.leave (v := some (.int (1 : Int32))) (fun h => by rw [Bd.returns] at h; cases h)
        refine Good.done (retN X7 hx (t := .boolean) Bd.returns (by simp) (hb hby own_d12_50) hr9) hrun9 hended9 ⟨_, _, rfl, ?_, ⟨_, rfl⟩, hW9, hsame9.mono (by decide) (by decide)⟩
        show Q12 Z p0 p1 p2 p3 h0 n0 _ T7.heap _
        rw [eh7]
        exact ⟨congrArg (fun z => some (Value.int z)) (by unfold own_same; rw [if_pos hc18_3]; rw [if_neg hc25_4]; unfold own_eqi; rw [if_pos hc42_8]), N7, rfl⟩
      · refine Good.back (fun _ k => XS.icmpYes X7.here hx rfl (pc0 := 42) (pc' := 49) rfl (hb hby own_d12_42) rfl (feq hc42_8).2 (by decide) (by decide) k) ?_
        show Good p e below _ (T7.setTop (mkF m 49 #[.val (.int p0), .val (.int p1), .val (.int p2), .val (.int p3), .val (.int (own_len1 p2 p3)), .val (.int (own_len2 p2 p3))] []))
        refine Good.back (fun _ k => XS.iconst X7.here hx rfl (hb hby own_d12_49) k) ?_
        show Good p e below _ (T7.setTop (mkF m 50 #[.val (.int p0), .val (.int p1), .val (.int p2), .val (.int p3), .val (.int (own_len1 p2 p3)), .val (.int (own_len2 p2 p3))] [(.int (0 : Int32))]))
        obtain ⟨fs10, hr10, hrun10, hended10, hW10, hsame10⟩ := X7.leave (v := some (.int (0 : Int32))) (fun h => by rw [Bd.returns] at h; cases h)
        refine Good.done (retN X7 hx (t := .boolean) Bd.returns (by simp) (hb hby own_d12_50) hr10) hrun10 hended10 ⟨_, _, rfl, ?_, ⟨_, rfl⟩, hW10, hsame10.mono (by decide) (by decide)⟩
        show Q12 Z p0 p1 p2 p3 h0 n0 _ T7.heap _
        rw [eh7]
        exact ⟨congrArg (fun z => some (Value.int z)) (by unfold own_same; rw [if_pos hc18_3]; rw [if_neg hc25_4]; unfold own_eqi; rw [if_neg hc42_8]), N7, rfl⟩
  · refine Good.back (fun _ k => XS.icmpNo X2.here hx rfl (hb hby own_d12_18) rfl (feq hc18_3).1 k) ?_
    show Good p e below _ (T2.setTop (mkF m 21 #[.val (.int p0), .val (.int p1), .val (.int p2), .val (.int p3), .val (.int (own_len1 p2 p3)), .val (.int (own_len2 p2 p3))] []))
    refine Good.back (fun _ k => XS.iconst X2.here hx rfl (hb hby own_d12_21) k) ?_
    show Good p e below _ (T2.setTop (mkF m 22 #[.val (.int p0), .val (.int p1), .val (.int p2), .val (.int p3), .val (.int (own_len1 p2 p3)), .val (.int (own_len2 p2 p3))] [(.int (0 : Int32))]))
    obtain ⟨fs11, hr11, hrun11, hended11, hW11, hsame11⟩ := X2.leave (v := some (.int (0 : Int32))) (fun h => by rw [Bd.returns] at h; cases h)
    refine Good.done (retN X2 hx (t := .boolean) Bd.returns (by simp) (hb hby own_d12_22) hr11) hrun11 hended11 ⟨_, _, rfl, ?_, ⟨_, rfl⟩, hW11, hsame11.mono (by decide) (by decide)⟩
    show Q12 Z p0 p1 p2 p3 h0 n0 _ T2.heap _
    rw [eh2]
    exact ⟨congrArg (fun z => some (Value.int z)) (by unfold own_same; rw [if_neg hc18_3]), N2, rfl⟩
theorem own_pn1 : plainName "java/lang/StringLatin1" = true := by first | (simp [plainName, overriddenIn]; done) | decide +kernel
theorem own_d16_0 : decode jdk_43_method_3_code 0 = .ok (.iload_n 0, 1) := by decide +kernel
theorem own_d16_1 : decode jdk_43_method_3_code 1 = .ok (.sipush 255, 3) := by decide +kernel
theorem own_d16_4 : decode jdk_43_method_3_code 4 = .ok (.if_icmp .gt 7, 3) := by decide +kernel
theorem own_d16_7 : decode jdk_43_method_3_code 7 = .ok (.iconst 1, 1) := by decide +kernel
theorem own_d16_8 : decode jdk_43_method_3_code 8 = .ok (.goto 4, 3) := by decide +kernel
theorem own_d16_12 : decode jdk_43_method_3_code 12 = .ok (.ireturn, 1) := by decide +kernel
theorem own_ef_16 (m : MethodId) (x0 : Int32) : entryFrame m #[(.int x0)] 1 = mkF m 0 #[.val (.int x0)] [] := by first | (simp [entryFrame, mkF, argsToLocals, Value.category]; done) | rfl
def Q16 (Z : State) (p0 : Int32) (h0 : Heap) (n0 : Nat) (v : Option Value) (h : Heap) (L : List Loc) : Prop := v = some (.int 1) ∧ Fr n0 L ∧ h = h0
set_option maxRecDepth 65536 in
set_option maxHeartbeats 40000000 in
theorem rm16 (l : Launch) (Z : State) (a0 : Array Value) (hw : ∀ d ∈ tables_1, d.before a0 Z = true) (ws : List Jvm.Cond) (p0 : Int32) (h0 : Heap) (n0 : Nat) (Z0 : n0 ≤ h0.size) (hle : ¬ ((255 : Int32) < p0)) :
    MetFree l (⟨"java/lang/StringLatin1", "canEncode", "(C)Z"⟩ : MethodName) (head1 (Jvm.Cond.code (⟨"java/lang/StringLatin1", "canEncode", "(C)Z"⟩ : MethodName) jdk_43_method_3_code 1 (some .boolean) :: ws) ({ frames := 0, cells := 0, slots := 0, locals := 0 } : Room)) (fun a U => a = #[(.int p0)] ∧ Z.Warmed39 U.vm ∧ U.heap = h0) (fun _ _ _ _ _ => True) (fun _ U o U' => ∃ v L, o = .returned v ∧ Q16 Z p0 h0 n0 v U'.heap L ∧ FrameEnd U o U' L ({ frames := 0, cells := 0, slots := 0, locals := 0 } : Room).cells ({ frames := 0, cells := 0, slots := 0, locals := 0 } : Room).slots) := by
  refine MetFree.of_bodySF (plainFor_of_name own_pn1) hisR ?_
  intro p e s m args below meth c s₁ Bd hml0 hP hK
  obtain ⟨rfl, hZ, hh⟩ := hP
  have hx := Bd.exec
  have hby := Bd.bytes
  have hml : c.maxLocals = 1 := hml0
  have hown : s.vm.findClass "java/lang/StringLatin1" = some m.cls := findClass_of_methodNamed Bd.named
  have hnm := (name_of_methodNamed Bd.named Bd.method).1
  have X0 : Stand p l e ({ frames := 0, cells := 0, slots := 0, locals := 0 } : Room) s m #[(.int p0)] below meth c s₁ [] 0 0 := Stand.of_body Bd
  have e0 : s₁.heap = h0 := by rw [← hh, Bd.state]; rfl
  have N0 := Fr.nil n0
  show Good p e below (fun o U' => ∃ v L, o = .returned v ∧ Q16 Z p0 h0 n0 v U'.heap L ∧ FrameEnd s o U' L ({ frames := 0, cells := 0, slots := 0, locals := 0 } : Room).cells ({ frames := 0, cells := 0, slots := 0, locals := 0 } : Room).slots) _
  refine Good.back (S' := s₁.setTop (mkF m 0 #[.val (.int p0)] [])) (fun t k => castTop (own_ef_16 m p0) k) ?_
  show Good p e below _ (s₁.setTop (mkF m 0 #[.val (.int p0)] []))
  refine Good.back (fun _ k => XS.iloadN X0.here hx rfl (hb hby own_d16_0) rfl k) ?_
  show Good p e below _ (s₁.setTop (mkF m 1 #[.val (.int p0)] [(.int p0)]))
  refine Good.back (fun _ k => XS.sipush X0.here hx rfl (hb hby own_d16_1) k) ?_
  show Good p e below _ (s₁.setTop (mkF m 4 #[.val (.int p0)] [(.int (255 : Int32)), (.int p0)]))
  refine Good.back (fun _ k => XS.icmpNo X0.here hx rfl (hb hby own_d16_4) rfl (flt hle).2.2.1 k) ?_
  show Good p e below _ (s₁.setTop (mkF m 7 #[.val (.int p0)] []))
  refine Good.back (fun _ k => XS.iconst X0.here hx rfl (hb hby own_d16_7) k) ?_
  show Good p e below _ (s₁.setTop (mkF m 8 #[.val (.int p0)] [(.int (1 : Int32))]))
  refine Good.back (fun _ k => XS.goto X0.here hx rfl (pc0 := 8) (pc' := 12) rfl (hb hby own_d16_8) (by decide) (by decide) k) ?_
  show Good p e below _ (s₁.setTop (mkF m 12 #[.val (.int p0)] [(.int (1 : Int32))]))
  obtain ⟨fs1, hr1, hrun1, hended1, hW1, hsame1⟩ := X0.leave (v := some (.int (1 : Int32))) (fun h => by rw [Bd.returns] at h; cases h)
  refine Good.done (retN X0 hx (t := .boolean) Bd.returns (by simp) (hb hby own_d16_12) hr1) hrun1 hended1 ⟨_, _, rfl, ?_, ⟨_, rfl⟩, hW1, hsame1.mono (by decide) (by decide)⟩
  show Q16 Z p0 h0 n0 _ s₁.heap _
  rw [e0]
  exact ⟨rfl, N0, rfl⟩
theorem own_d17_0 : decode jdk_43_method_46_code 0 = .ok (.iconst 1, 1) := by decide +kernel
theorem own_d17_1 : decode jdk_43_method_46_code 1 = .ok (.newarray .byte, 2) := by decide +kernel
theorem own_d17_3 : decode jdk_43_method_46_code 3 = .ok (.dup, 1) := by decide +kernel
theorem own_d17_4 : decode jdk_43_method_46_code 4 = .ok (.iconst 0, 1) := by decide +kernel
theorem own_d17_5 : decode jdk_43_method_46_code 5 = .ok (.iload_n 0, 1) := by decide +kernel
theorem own_d17_6 : decode jdk_43_method_46_code 6 = .ok (.i2b, 1) := by decide +kernel
theorem own_d17_7 : decode jdk_43_method_46_code 7 = .ok (.bastore, 1) := by decide +kernel
theorem own_d17_8 : decode jdk_43_method_46_code 8 = .ok (.areturn, 1) := by decide +kernel
theorem own_ef_17 (m : MethodId) (x0 : Int32) : entryFrame m #[(.int x0)] 1 = mkF m 0 #[.val (.int x0)] [] := by first | (simp [entryFrame, mkF, argsToLocals, Value.category]; done) | rfl
def Q17 (Z : State) (p0 : Int32) (h0 : Heap) (n0 : Nat) (v : Option Value) (h : Heap) (L : List Loc) : Prop := ∃ (ar : Addr) (kk : ClassId), v = some (.ref ar) ∧ Fr n0 L ∧ Keep h0 h [] ∧ h0.size ≤ ar ∧ Arv Z h ar kk .byte (1 : Int32) [(.int (p0.toInt8.toInt32).toInt8.toInt32)] (.int (0 : Int32))
set_option maxRecDepth 65536 in
set_option maxHeartbeats 40000000 in
theorem rm17 (l : Launch) (Z : State) (a0 : Array Value) (hw : ∀ d ∈ tables_1, d.before a0 Z = true) (ws : List Jvm.Cond) (p0 : Int32) (h0 : Heap) (n0 : Nat) (Z0 : n0 ≤ h0.size)  :
    MetFree l (⟨"java/lang/StringLatin1", "toBytes", "(C)[B"⟩ : MethodName) (head1 (Jvm.Cond.code (⟨"java/lang/StringLatin1", "toBytes", "(C)[B"⟩ : MethodName) jdk_43_method_46_code 1 (some (.array .byte)) :: ws) ({ frames := 0, cells := 1, slots := 1, locals := 0 } : Room)) (fun a U => a = #[(.int p0)] ∧ Z.Warmed39 U.vm ∧ U.heap = h0) (fun _ _ _ _ _ => True) (fun _ U o U' => ∃ v L, o = .returned v ∧ Q17 Z p0 h0 n0 v U'.heap L ∧ FrameEnd U o U' L ({ frames := 0, cells := 1, slots := 1, locals := 0 } : Room).cells ({ frames := 0, cells := 1, slots := 1, locals := 0 } : Room).slots) := by
  refine MetFree.of_bodySF (plainFor_of_name own_pn1) hisR ?_
  intro p e s m args below meth c s₁ Bd hml0 hP hK
  obtain ⟨rfl, hZ, hh⟩ := hP
  have hx := Bd.exec
  have hby := Bd.bytes
  have hml : c.maxLocals = 1 := hml0
  have hown : s.vm.findClass "java/lang/StringLatin1" = some m.cls := findClass_of_methodNamed Bd.named
  have hnm := (name_of_methodNamed Bd.named Bd.method).1
  have X0 : Stand p l e ({ frames := 0, cells := 1, slots := 1, locals := 0 } : Room) s m #[(.int p0)] below meth c s₁ [] 0 0 := Stand.of_body Bd
  have e0 : s₁.heap = h0 := by rw [← hh, Bd.state]; rfl
  have N0 := Fr.nil n0
  have KR : Keep h0 h0 [] := Keep.refl h0 _
  show Good p e below (fun o U' => ∃ v L, o = .returned v ∧ Q17 Z p0 h0 n0 v U'.heap L ∧ FrameEnd s o U' L ({ frames := 0, cells := 1, slots := 1, locals := 0 } : Room).cells ({ frames := 0, cells := 1, slots := 1, locals := 0 } : Room).slots) _
  refine Good.back (S' := s₁.setTop (mkF m 0 #[.val (.int p0)] [])) (fun t k => castTop (own_ef_17 m p0) k) ?_
  show Good p e below _ (s₁.setTop (mkF m 0 #[.val (.int p0)] []))
  refine Good.back (fun _ k => XS.iconst X0.here hx rfl (hb hby own_d17_0) k) ?_
  show Good p e below _ (s₁.setTop (mkF m 1 #[.val (.int p0)] [(.int (1 : Int32))]))
  obtain ⟨T1, h1, k1, X1, e1, E1, A1, st1⟩ := newP X0 hx hZ (hw _ (List.mem_of_getElem? (i := 19) rfl)) e0 (g := (mkF m 1 #[.val (.int p0)] [(.int (1 : Int32))])) rfl (hb hby own_d17_1) rfl (by decide) (cap := 1) (by decide) (by decide) (by decide) (by decide)
  obtain ⟨b1, g1⟩ : ∃ z, z = h0.size := ⟨_, rfl⟩
  rw [← g1] at A1 st1
  refine Good.back st1 ?_
  have g_b1 : n0 ≤ b1 := Nat.le_trans Z0 (Nat.le_of_eq g1.symm)
  have sz_b1 : h0.size ≤ b1 := Nat.le_trans KR.1 (Nat.le_of_eq g1.symm)
  have Z2 : n0 ≤ h1.size := Nat.le_trans Z0 E1.1
  have K3 : Keep h0 h1 [] := KR.ext E1
  have f_4 : Arv Z h1 b1 k1 .byte (1 : Int32) [(.int (0 : Int32))] (.int (0 : Int32)) := (Arv.new A1 (by decide)).pad (pad_rep [] (.int (0 : Int32)) 1)
  show Good p e below _ (T1.setTop (mkF m 3 #[.val (.int p0)] [(.ref b1)]))
  refine Good.back (fun _ k => XS.dup X1.here hx rfl (hb hby own_d17_3) rfl rfl k) ?_
  show Good p e below _ (T1.setTop (mkF m 4 #[.val (.int p0)] [(.ref b1), (.ref b1)]))
  refine Good.back (fun _ k => XS.iconst X1.here hx rfl (hb hby own_d17_4) k) ?_
  show Good p e below _ (T1.setTop (mkF m 5 #[.val (.int p0)] [(.int (0 : Int32)), (.ref b1), (.ref b1)]))
  refine Good.back (fun _ k => XS.iloadN X1.here hx rfl (hb hby own_d17_5) rfl k) ?_
  show Good p e below _ (T1.setTop (mkF m 6 #[.val (.int p0)] [(.int p0), (.int (0 : Int32)), (.ref b1), (.ref b1)]))
  refine Good.back (fun _ k => XS.i2b X1.here hx rfl (hb hby own_d17_6) rfl k) ?_
  show Good p e below _ (T1.setTop (mkF m 7 #[.val (.int p0)] [(.int (p0.toInt8.toInt32)), (.int (0 : Int32)), (.ref b1), (.ref b1)]))
  have fc5 := f_4
  obtain ⟨cl5, Ar5, qk5, S5, N5', H5, G5⟩ := fc5
  have hin5 : ¬ ((0 : Int32) < 0 ∨ cl5.slots.size ≤ ((0 : Int32)).toNatClampNeg) := inb_of S5 ⟨by decide, by decide⟩
  obtain ⟨T5, h5, X5, e5, W5, st5⟩ := stB X1 hx hZ e1 Ar5 (j := (0 : Int32)) hin5 (g := (mkF m 7 #[.val (.int p0)] [(.int (p0.toInt8.toInt32)), (.int (0 : Int32)), (.ref b1), (.ref b1)])) rfl rfl (hb hby own_d17_7)
  refine Good.back st5 ?_
  have f_6 : Arv Z h5 b1 k1 .byte (1 : Int32) [(.int (p0.toInt8.toInt32).toInt8.toInt32)] (.int (0 : Int32)) := Arv.set Ar5 qk5 S5 N5' H5 G5 (fits_nar_byte _) W5 0 rfl (Nat.le_of_ble_eq_true rfl)
  have N5 := Fr.snoc X5 N0 g_b1
  have Z7 : n0 ≤ h5.size := Nat.le_trans Z2 (Keep.of_wr W5).1
  have K8 : Keep h0 h5 [] := K3.wr W5 (Or.inr sz_b1)
  show Good p e below _ (T5.setTop (mkF m 8 #[.val (.int p0)] [(.ref b1)]))
  obtain ⟨fs9, hr9, hrun9, hended9, hW9, hsame9⟩ := X5.leave (v := some (.ref b1)) (fun h => by rw [Bd.returns] at h; cases h)
  refine Good.done (retOut X5 hx Bd.returns rfl (Or.inr (Or.inr (Or.inr (Or.inr ⟨rfl, rfl, rfl⟩)))) (hb hby own_d17_8) hr9) hrun9 hended9 ⟨_, _, rfl, ?_, ⟨_, rfl⟩, hW9, hsame9.mono (by decide) (by decide)⟩
  show Q17 Z p0 h0 n0 _ T5.heap _
  rw [e5]
  exact ⟨_, _, rfl, N5, K8, sz_b1, f_6⟩
theorem own_pn2 : plainName "java/lang/String" = true := by first | (simp [plainName, overriddenIn]; done) | decide +kernel
theorem own_d18_0 : decode jdk_42_method_151_code 0 = .ok (.aload_n 0, 1) := by decide +kernel
theorem own_d18_1 : decode jdk_42_method_151_code 1 = .ok (.invokespecial 1, 3) := by decide +kernel
theorem own_d18_4 : decode jdk_42_method_151_code 4 = .ok (.aload_n 0, 1) := by decide +kernel
theorem own_d18_5 : decode jdk_42_method_151_code 5 = .ok (.aload_n 1, 1) := by decide +kernel
theorem own_d18_6 : decode jdk_42_method_151_code 6 = .ok (.putfield 9, 3) := by decide +kernel
theorem own_d18_9 : decode jdk_42_method_151_code 9 = .ok (.aload_n 0, 1) := by decide +kernel
theorem own_d18_10 : decode jdk_42_method_151_code 10 = .ok (.iload_n 2, 1) := by decide +kernel
theorem own_d18_11 : decode jdk_42_method_151_code 11 = .ok (.putfield 15, 3) := by decide +kernel
theorem own_d18_14 : decode jdk_42_method_151_code 14 = .ok (.return_, 1) := by decide +kernel
theorem own_ef_18 (m : MethodId) (x0 : Addr) (x1 : Addr) (x2 : Int32) : entryFrame m #[(.ref x0), (.ref x1), (.int x2)] 3 = mkF m 0 #[.val (.ref x0), .val (.ref x1), .val (.int x2)] [] := by first | (simp [entryFrame, mkF, argsToLocals, Value.category]; done) | rfl
def Q18 (Z : State) (r0 : Addr) (r1 : Addr) (h0 : Heap) (n0 : Nat) (v : Option Value) (h : Heap) (L : List Loc) : Prop := v = none ∧ Fr n0 L ∧ Keep h0 h [r0] ∧ Fld Z h r0 "java/lang/String" "value" "[B" (.ref r1) ∧ Fld Z h r0 "java/lang/String" "coder" "B" (.int (0 : Int32))
set_option maxRecDepth 65536 in
set_option maxHeartbeats 40000000 in
theorem rm18 (l : Launch) (Z : State) (a0 : Array Value) (hw : ∀ d ∈ tables_1, d.before a0 Z = true) (ws : List Jvm.Cond) (r0 : Addr) (r1 : Addr) (h0 : Heap) (n0 : Nat) (Z0 : n0 ≤ h0.size) (E0 : Exa Z h0 r0 "java/lang/String") (g0 : n0 ≤ r0) (F_value : Fld Z h0 r0 "java/lang/String" "value" "[B" .null) (F_coder : Fld Z h0 r0 "java/lang/String" "coder" "B" (.int (0 : Int32))) :
    MetFree l (⟨"java/lang/String", "<init>", "([BB)V"⟩ : MethodName) (head1 (Jvm.Cond.code (⟨"java/lang/String", "<init>", "([BB)V"⟩ : MethodName) jdk_42_method_151_code 3 none :: ws) ({ frames := 1, cells := 0, slots := 0, locals := 12 } : Room)) (fun a U => a = #[(.ref r0), (.ref r1), (.int (0 : Int32))] ∧ Z.Warmed39 U.vm ∧ U.heap = h0) (fun _ _ _ _ _ => True) (fun _ U o U' => ∃ v L, o = .returned v ∧ Q18 Z r0 r1 h0 n0 v U'.heap L ∧ FrameEnd U o U' L ({ frames := 1, cells := 0, slots := 0, locals := 12 } : Room).cells ({ frames := 1, cells := 0, slots := 0, locals := 12 } : Room).slots) := by
  refine MetFree.of_bodySF (plainFor_of_name own_pn2) hisR ?_
  intro p e s m args below meth c s₁ Bd hml0 hP hK
  obtain ⟨rfl, hZ, hh⟩ := hP
  have hx := Bd.exec
  have hby := Bd.bytes
  have hml : c.maxLocals = 3 := hml0
  have hown : s.vm.findClass "java/lang/String" = some m.cls := findClass_of_methodNamed Bd.named
  have hnm := (name_of_methodNamed Bd.named Bd.method).1
  have X0 : Stand p l e ({ frames := 1, cells := 0, slots := 0, locals := 12 } : Room) s m #[(.ref r0), (.ref r1), (.int (0 : Int32))] below meth c s₁ [] 0 0 := Stand.of_body Bd
  have e0 : s₁.heap = h0 := by rw [← hh, Bd.state]; rfl
  have N0 := Fr.nil n0
  have KR : Keep h0 h0 [r0] := Keep.refl h0 _
  show Good p e below (fun o U' => ∃ v L, o = .returned v ∧ Q18 Z r0 r1 h0 n0 v U'.heap L ∧ FrameEnd s o U' L ({ frames := 1, cells := 0, slots := 0, locals := 12 } : Room).cells ({ frames := 1, cells := 0, slots := 0, locals := 12 } : Room).slots) _
  refine Good.back (S' := s₁.setTop (mkF m 0 #[.val (.ref r0), .val (.ref r1), .val (.int (0 : Int32))] [])) (fun t k => castTop (own_ef_18 m r0 r1 (0 : Int32)) k) ?_
  show Good p e below _ (s₁.setTop (mkF m 0 #[.val (.ref r0), .val (.ref r1), .val (.int (0 : Int32))] []))
  refine Good.back (fun _ k => XS.aloadN X0.here hx rfl (hb hby own_d18_0) rfl rfl k) ?_
  show Good p e below _ (s₁.setTop (mkF m 1 #[.val (.ref r0), .val (.ref r1), .val (.int (0 : Int32))] [(.ref r0)]))
  obtain ⟨T1, X1, e1, st1⟩ := initO X0 hx hZ hown (hw _ (List.mem_of_getElem? (i := 92) rfl)) (hw _ (List.mem_of_getElem? (i := 31) rfl)) (hw _ (List.mem_of_getElem? (i := 32) rfl)) e0 (g := (mkF m 1 #[.val (.ref r0), .val (.ref r1), .val (.int (0 : Int32))] [(.ref r0)])) rfl (by rw [hml]; rfl) rfl (hb hby own_d18_1) (by decide) (W := 0) (by show 2 * 0 + _ ≤ _; exact Nat.le_of_eq rfl) (by decide)
  refine Good.back st1 ?_
  show Good p e below _ (T1.setTop (mkF m 4 #[.val (.ref r0), .val (.ref r1), .val (.int (0 : Int32))] []))
  refine Good.back (fun _ k => XS.aloadN X1.here hx rfl (hb hby own_d18_4) rfl rfl k) ?_
  show Good p e below _ (T1.setTop (mkF m 5 #[.val (.ref r0), .val (.ref r1), .val (.int (0 : Int32))] [(.ref r0)]))
  refine Good.back (fun _ k => XS.aloadN X1.here hx rfl (hb hby own_d18_5) rfl rfl k) ?_
  show Good p e below _ (T1.setTop (mkF m 6 #[.val (.ref r0), .val (.ref r1), .val (.int (0 : Int32))] [(.ref r1), (.ref r0)]))
  obtain ⟨T2, h2, X2, e2, W2, st2⟩ := putF X1 hx hZ hown (host := "") (Or.inl (hw _ (List.mem_of_getElem? (i := 93) rfl))) Via.refl e1 F_value E0 (Or.inr ⟨(hw _ (List.mem_of_getElem? (i := 20) rfl)), rfl, hnm⟩) (hw _ (List.mem_of_getElem? (i := 18) rfl)) (ty := (.array .byte)) (by decide) rfl rfl (g := (mkF m 6 #[.val (.ref r0), .val (.ref r1), .val (.int (0 : Int32))] [(.ref r1), (.ref r0)])) rfl rfl (hb hby own_d18_6)
  refine Good.back st2 ?_
  have f_3 : Fld Z h2 r0 "java/lang/String" "value" "[B" (.ref r1) := Fld.same W2 F_value
  have N2 := Fr.snoc X2 N0 g0
  have Z4 : n0 ≤ h2.size := Nat.le_trans Z0 (Keep.of_wr W2).1
  have K5 : Keep h0 h2 [r0] := KR.wr W2 (Or.inl (List.mem_of_getElem? (i := 0) rfl))
  show Good p e below _ (T2.setTop (mkF m 9 #[.val (.ref r0), .val (.ref r1), .val (.int (0 : Int32))] []))
  refine Good.back (fun _ k => XS.aloadN X2.here hx rfl (hb hby own_d18_9) rfl rfl k) ?_
  show Good p e below _ (T2.setTop (mkF m 10 #[.val (.ref r0), .val (.ref r1), .val (.int (0 : Int32))] [(.ref r0)]))
  refine Good.back (fun _ k => XS.iloadN X2.here hx rfl (hb hby own_d18_10) rfl k) ?_
  show Good p e below _ (T2.setTop (mkF m 11 #[.val (.ref r0), .val (.ref r1), .val (.int (0 : Int32))] [(.int (0 : Int32)), (.ref r0)]))
  have f_6 : Fld Z h2 r0 "java/lang/String" "coder" "B" (.int (0 : Int32)) := Fld.other W2 F_coder (Or.inr (slot_ne (Or.inr (hw _ (List.mem_of_getElem? (i := 21) rfl))) (Or.inr (hw _ (List.mem_of_getElem? (i := 20) rfl))) (by decide) (t := .byte) (t' := (.array .byte)) (by decide) (by decide)))
  have f_7 : Exa Z h2 r0 "java/lang/String" := Exa.wr W2 E0
  obtain ⟨T8, h8, X8, e8, W8, st8⟩ := putFN X2 hx hZ hown (hw _ (List.mem_of_getElem? (i := 94) rfl)) Via.refl e2 f_6 f_7 (Or.inr ⟨(hw _ (List.mem_of_getElem? (i := 21) rfl)), rfl, hnm⟩) (hw _ (List.mem_of_getElem? (i := 18) rfl)) (ty := .byte) (v' := (.int (0 : Int32))) (by decide) rfl (by decide) (g := (mkF m 11 #[.val (.ref r0), .val (.ref r1), .val (.int (0 : Int32))] [(.int (0 : Int32)), (.ref r0)])) rfl rfl (hb hby own_d18_11)
  refine Good.back st8 ?_
  have f_9 : Fld Z h8 r0 "java/lang/String" "coder" "B" (.int (0 : Int32)) := Fld.same W8 f_6
  have N8 := Fr.snoc X8 N2 g0
  have Z10 : n0 ≤ h8.size := Nat.le_trans Z4 (Keep.of_wr W8).1
  have K11 : Keep h0 h8 [r0] := K5.wr W8 (Or.inl (List.mem_of_getElem? (i := 0) rfl))
  show Good p e below _ (T8.setTop (mkF m 14 #[.val (.ref r0), .val (.ref r1), .val (.int (0 : Int32))] []))
  obtain ⟨fs12, hr12, hrun12, hended12, hW12, hsame12⟩ := X8.leave (v := none) (fun _ => rfl)
  refine Good.done (X8.returnOut hx Bd.returns (hb hby own_d18_14) hr12) hrun12 hended12 ⟨_, _, rfl, ?_, ⟨_, rfl⟩, hW12, hsame12.mono (by decide) (by decide)⟩
  show Q18 Z r0 r1 h0 n0 _ T8.heap _
  rw [e8]
  have f_13 : Fld Z h8 r0 "java/lang/String" "value" "[B" (.ref r1) := Fld.other W8 f_3 (Or.inr (slot_ne (Or.inr (hw _ (List.mem_of_getElem? (i := 20) rfl))) (Or.inr (hw _ (List.mem_of_getElem? (i := 21) rfl))) (by decide) (t := (.array .byte)) (t' := .byte) (by decide) (by decide)))
  exact ⟨rfl, N8, K11, f_13, f_9⟩
theorem own_pd119 : parseMethodDescriptor "(C)Z" = some ⟨[.char], some .boolean⟩ := by decide +kernel
theorem own_pd120 : parseMethodDescriptor "(C)[B" = some ⟨[.char], some (.array .byte)⟩ := by decide +kernel
theorem own_pd121 : parseMethodDescriptor "([BB)V" = some ⟨[(.array .byte), .byte], none⟩ := by decide +kernel
theorem own_d15_0 : decode jdk_42_method_139_code 0 = .ok (.getstatic 38, 3) := by decide +kernel
theorem own_d15_3 : decode jdk_42_method_139_code 3 = .ok (.ifCond .eq 23, 3) := by decide +kernel
theorem own_d15_6 : decode jdk_42_method_139_code 6 = .ok (.iload_n 0, 1) := by decide +kernel
theorem own_d15_7 : decode jdk_42_method_139_code 7 = .ok (.invokestatic 1015, 3) := by decide +kernel
theorem own_d15_10 : decode jdk_42_method_139_code 10 = .ok (.ifCond .eq 16, 3) := by decide +kernel
theorem own_d15_13 : decode jdk_42_method_139_code 13 = .ok (.new 10, 3) := by decide +kernel
theorem own_d15_16 : decode jdk_42_method_139_code 16 = .ok (.dup, 1) := by decide +kernel
theorem own_d15_17 : decode jdk_42_method_139_code 17 = .ok (.iload_n 0, 1) := by decide +kernel
theorem own_d15_18 : decode jdk_42_method_139_code 18 = .ok (.invokestatic 1018, 3) := by decide +kernel
theorem own_d15_21 : decode jdk_42_method_139_code 21 = .ok (.iconst 0, 1) := by decide +kernel
theorem own_d15_22 : decode jdk_42_method_139_code 22 = .ok (.invokespecial 209, 3) := by decide +kernel
theorem own_d15_25 : decode jdk_42_method_139_code 25 = .ok (.areturn, 1) := by decide +kernel
theorem own_ef_15 (m : MethodId) (x0 : Int32) : entryFrame m #[(.int x0)] 1 = mkF m 0 #[.val (.int x0)] [] := by first | (simp [entryFrame, mkF, argsToLocals, Value.category]; done) | rfl
def Q15 (Z : State) (p0 : Int32) (cs : Int32) (h0 : Heap) (n0 : Nat) (v : Option Value) (h : Heap) (L : List Loc) : Prop := ∃ (sr ar : Addr) (kk : ClassId), v = some (.ref sr) ∧ Fr n0 L ∧ Keep h0 h [] ∧ h0.size ≤ sr ∧ h0.size ≤ ar ∧ Exa Z h sr "java/lang/String" ∧ Fld Z h sr "java/lang/String" "value" "[B" (.ref ar) ∧ Fld Z h sr "java/lang/String" "coder" "B" (.int (0 : Int32)) ∧ Arv Z h ar kk .byte (1 : Int32) [(.int (p0.toInt8.toInt32).toInt8.toInt32)] (.int (0 : Int32)) ∧ sr ≠ ar
set_option maxRecDepth 65536 in
set_option maxHeartbeats 40000000 in
theorem rm15 (l : Launch) (Z : State) (a0 : Array Value) (hw : ∀ d ∈ tables_1, d.before a0 Z = true) (ws : List Jvm.Cond) (p0 : Int32) (cs : Int32) (h0 : Heap) (n0 : Nat) (Z0 : n0 ≤ h0.size) (S_cs : Sta Z h0 "java/lang/String" "COMPACT_STRINGS" "Z" (.int cs)) (hcs : ¬ (cs = (0 : Int32))) (hle : ¬ ((255 : Int32) < p0)) :
    MetFree l (⟨"java/lang/String", "valueOf", "(C)Ljava/lang/String;"⟩ : MethodName) (head1 (Jvm.Cond.code (⟨"java/lang/String", "valueOf", "(C)Ljava/lang/String;"⟩ : MethodName) jdk_42_method_139_code 1 (some (.object "java/lang/String")) :: ws) ({ frames := 2, cells := 2, slots := 5, locals := 27 } : Room)) (fun a U => a = #[(.int p0)] ∧ Z.Warmed39 U.vm ∧ U.heap = h0) (fun _ _ _ _ _ => True) (fun _ U o U' => ∃ v L, o = .returned v ∧ Q15 Z p0 cs h0 n0 v U'.heap L ∧ FrameEnd U o U' L ({ frames := 2, cells := 2, slots := 5, locals := 27 } : Room).cells ({ frames := 2, cells := 2, slots := 5, locals := 27 } : Room).slots) := by
  refine MetFree.of_bodySF (plainFor_of_name own_pn2) hisR ?_
  intro p e s m args below meth c s₁ Bd hml0 hP hK
  obtain ⟨rfl, hZ, hh⟩ := hP
  have hx := Bd.exec
  have hby := Bd.bytes
  have hml : c.maxLocals = 1 := hml0
  have hown : s.vm.findClass "java/lang/String" = some m.cls := findClass_of_methodNamed Bd.named
  have hnm := (name_of_methodNamed Bd.named Bd.method).1
  have X0 : Stand p l e ({ frames := 2, cells := 2, slots := 5, locals := 27 } : Room) s m #[(.int p0)] below meth c s₁ [] 0 0 := Stand.of_body Bd
  have e0 : s₁.heap = h0 := by rw [← hh, Bd.state]; rfl
  have N0 := Fr.nil n0
  have KR : Keep h0 h0 [] := Keep.refl h0 _
  show Good p e below (fun o U' => ∃ v L, o = .returned v ∧ Q15 Z p0 cs h0 n0 v U'.heap L ∧ FrameEnd s o U' L ({ frames := 2, cells := 2, slots := 5, locals := 27 } : Room).cells ({ frames := 2, cells := 2, slots := 5, locals := 27 } : Room).slots) _
  refine Good.back (S' := s₁.setTop (mkF m 0 #[.val (.int p0)] [])) (fun t k => castTop (own_ef_15 m p0) k) ?_
  show Good p e below _ (s₁.setTop (mkF m 0 #[.val (.int p0)] []))
  obtain ⟨T1, X1, e1, st1⟩ := getS2 X0 hx hZ hown (host := "") (Or.inl (hw _ (List.mem_of_getElem? (i := 80) rfl))) Via.refl e0 S_cs (g := (mkF m 0 #[.val (.int p0)] [])) rfl (hb hby own_d15_0)
  refine Good.back st1 ?_
  show Good p e below _ (T1.setTop (mkF m 3 #[.val (.int p0)] [(.int cs)]))
  refine Good.back (fun _ k => XS.ifNo X1.here hx rfl (hb hby own_d15_3) rfl ((if0 _ _).trans (feq hcs).1) k) ?_
  show Good p e below _ (T1.setTop (mkF m 6 #[.val (.int p0)] []))
  refine Good.back (fun _ k => XS.iloadN X1.here hx rfl (hb hby own_d15_6) rfl k) ?_
  show Good p e below _ (T1.setTop (mkF m 7 #[.val (.int p0)] [(.int p0)]))
  obtain ⟨_, _, ⟨T2, L2, k2, n2⟩, -, X2, ⟨Lc2, hQ2, l2, y2, z2⟩, st2⟩ := Jvm.LawKit.callS X1 hx (y := (⟨"java/lang/StringLatin1", "canEncode", "(C)Z"⟩ : MethodName)) hown (mvT hZ (hw _ (List.mem_of_getElem? (i := 81) rfl))) (mvT hZ (hw _ (List.mem_of_getElem? (i := 82) rfl))) (mvT hZ (hw _ (List.mem_of_getElem? (i := 83) rfl))) (mvT hZ (hw _ (List.mem_of_getElem? (i := 84) rfl))) (by decide) (backOf (W := 0) (rm16 l Z a0 hw [] p0  h0 n0 Z0 (hle)) hZ (hw _ (List.mem_of_getElem? (i := 84) rfl)) (hw _ (List.mem_of_getElem? (i := 83) rfl)) (by decide) (by decide)) (g := (mkF m 7 #[.val (.int p0)] [(.int p0)])) rfl (by rw [hml]; rfl) (argsL := [(.int p0)]) (rest := []) (lenOf own_pd119 rfl) rfl (by show 2 * 0 + _ ≤ _; exact Nat.le_of_eq rfl) (hb hby own_d15_7) (fun _ _ => ⟨rfl, e1, (by decide : 0 + 0 ≤ _), (by decide : 0 + 0 ≤ _)⟩)
  dsimp only [Pt.U, Pt.locs, Pt.cells, Pt.slots] at X2 l2 y2 z2 st2 hQ2
  subst l2 y2 z2
  obtain ⟨rfl, N2q, eh2⟩ := hQ2
  have N2 := Fr.app N0 N2q
  refine Good.back st2 ?_
  show Good p e below _ (T2.setTop (mkF m 10 #[.val (.int p0)] [(.int (1 : Int32))]))
  refine Good.back (fun _ k => XS.ifNo X2.here hx rfl (hb hby own_d15_10) rfl ((if0 _ _).trans (feq (by decide : ¬ ((1 : Int32) = (0 : Int32)))).1) k) ?_
  show Good p e below _ (T2.setTop (mkF m 13 #[.val (.int p0)] []))
  obtain ⟨T3, h3, X3, e3, E3, A3, D3, -, st3⟩ := newO X2 hx hZ hown (hw _ (List.mem_of_getElem? (i := 85) rfl)) (hw _ (List.mem_of_getElem? (i := 18) rfl)) (hw _ (List.mem_of_getElem? (i := 17) rfl)) eh2 (g := (mkF m 13 #[.val (.int p0)] [])) rfl (hb hby own_d15_13) (by decide) (by decide)
  obtain ⟨b3, g3⟩ : ∃ z, z = h0.size := ⟨_, rfl⟩
  rw [← g3] at A3 D3 st3
  refine Good.back st3 ?_
  have g_b3 : n0 ≤ b3 := Nat.le_trans Z0 (Nat.le_of_eq g3.symm)
  have sz_b3 : h0.size ≤ b3 := Nat.le_trans KR.1 (Nat.le_of_eq g3.symm)
  have Z4 : n0 ≤ h3.size := Nat.le_trans Z0 E3.1
  have K5 : Keep h0 h3 [] := KR.ext E3
  have f_6 : Exa Z h3 b3 "java/lang/String" := A3
  have f_7 : Fld Z h3 b3 "java/lang/String" "value" "[B" .null := D3 (Or.inr (hw _ (List.mem_of_getElem? (i := 20) rfl))) (ty := (.array .byte)) (by decide)
  have f_8 : Fld Z h3 b3 "java/lang/String" "coder" "B" (.int (0 : Int32)) := D3 (Or.inr (hw _ (List.mem_of_getElem? (i := 21) rfl))) (ty := .byte) (by decide)
  show Good p e below _ (T3.setTop (mkF m 16 #[.val (.int p0)] [(.ref b3)]))
  refine Good.back (fun _ k => XS.dup X3.here hx rfl (hb hby own_d15_16) rfl rfl k) ?_
  show Good p e below _ (T3.setTop (mkF m 17 #[.val (.int p0)] [(.ref b3), (.ref b3)]))
  refine Good.back (fun _ k => XS.iloadN X3.here hx rfl (hb hby own_d15_17) rfl k) ?_
  show Good p e below _ (T3.setTop (mkF m 18 #[.val (.int p0)] [(.int p0), (.ref b3), (.ref b3)]))
  obtain ⟨_, _, ⟨T9, L9, k9, n9⟩, -, X9, ⟨Lc9, hQ9, l9, y9, z9⟩, st9⟩ := Jvm.LawKit.callS X3 hx (y := (⟨"java/lang/StringLatin1", "toBytes", "(C)[B"⟩ : MethodName)) hown (mvT hZ (hw _ (List.mem_of_getElem? (i := 86) rfl))) (mvT hZ (hw _ (List.mem_of_getElem? (i := 87) rfl))) (mvT hZ (hw _ (List.mem_of_getElem? (i := 83) rfl))) (mvT hZ (hw _ (List.mem_of_getElem? (i := 88) rfl))) (by decide) (backOf (W := 2) (rm17 l Z a0 hw [] p0  h3 n0 Z4 ) hZ (hw _ (List.mem_of_getElem? (i := 88) rfl)) (hw _ (List.mem_of_getElem? (i := 83) rfl)) (by decide) (by decide)) (g := (mkF m 18 #[.val (.int p0)] [(.int p0), (.ref b3), (.ref b3)])) rfl (by rw [hml]; rfl) (argsL := [(.int p0)]) (rest := [(.ref b3), (.ref b3)]) (lenOf own_pd120 rfl) rfl (by show 2 * 0 + _ ≤ _; exact Nat.le_of_eq rfl) (hb hby own_d15_18) (fun _ _ => ⟨rfl, e3, (by decide : 1 + 1 ≤ _), (by decide : 4 + 1 ≤ _)⟩)
  dsimp only [Pt.U, Pt.locs, Pt.cells, Pt.slots] at X9 l9 y9 z9 st9 hQ9
  subst l9 y9 z9
  obtain ⟨ar_9, kk_9, rfl, N9q, Kq9, o9_0, o9_1⟩ := hQ9
  have N9 := Fr.app N2 N9q
  have Z10 : n0 ≤ T9.heap.size := Nat.le_trans Z4 Kq9.1
  have K11 : Keep h0 T9.heap [] := K5.trans Kq9 all0
  have g_ar_9 : n0 ≤ ar_9 := Nat.le_trans Z4 o9_0
  have sz_ar_9 : h0.size ≤ ar_9 := Nat.le_trans K5.1 o9_0
  refine Good.back st9 ?_
  show Good p e below _ (T9.setTop (mkF m 21 #[.val (.int p0)] [(.ref ar_9), (.ref b3), (.ref b3)]))
  refine Good.back (fun _ k => XS.iconst X9.here hx rfl (hb hby own_d15_21) k) ?_
  show Good p e below _ (T9.setTop (mkF m 22 #[.val (.int p0)] [(.int (0 : Int32)), (.ref ar_9), (.ref b3), (.ref b3)]))
  have f_13 : Exa Z T9.heap b3 "java/lang/String" := Exa.keep f_6 Kq9
  have f_14 : Fld Z T9.heap b3 "java/lang/String" "value" "[B" .null := Fld.keep f_7 Kq9 nin0
  have f_15 : Fld Z T9.heap b3 "java/lang/String" "coder" "B" (.int (0 : Int32)) := Fld.keep f_8 Kq9 nin0
  obtain ⟨_, _, ⟨T12, L12, k12, n12⟩, -, X12, ⟨Lc12, hQ12, l12, y12, z12⟩, st12⟩ := X9.specialBack hx (y := (⟨"java/lang/String", "<init>", "([BB)V"⟩ : MethodName)) rfl hown (mvT hZ (hw _ (List.mem_of_getElem? (i := 89) rfl))) (mvT hZ (hw _ (List.mem_of_getElem? (i := 90) rfl))) (mvT hZ (hw _ (List.mem_of_getElem? (i := 91) rfl))) (by decide) (backOf (W := 1) (rm18 l Z a0 hw [] b3 ar_9  T9.heap n0 Z10 f_13 g_b3 f_14 f_15) hZ (hw _ (List.mem_of_getElem? (i := 91) rfl)) (hw _ (List.mem_of_getElem? (i := 17) rfl)) (by decide) (by decide)) (g := (mkF m 22 #[.val (.int p0)] [(.int (0 : Int32)), (.ref ar_9), (.ref b3), (.ref b3)])) rfl (by rw [hml]; rfl) (Steps.refl _) (a := b3) (argsL := [(.ref ar_9), (.int (0 : Int32))]) (rest := [(.ref b3)]) (lenOf own_pd121 rfl) rfl (by show 2 * 0 + _ ≤ _; exact Nat.le_of_eq rfl) (hb hby own_d15_22) (fun _ _ => ⟨rfl, rfl, (by decide : 2 + 0 ≤ _), (by decide : 5 + 0 ≤ _)⟩)
  dsimp only [Pt.U, Pt.locs, Pt.cells, Pt.slots] at X12 l12 y12 z12 st12 hQ12
  subst l12 y12 z12
  obtain ⟨rfl, N12q, Kq12, o12_0, o12_1⟩ := hQ12
  have N12 := Fr.app N9 N12q
  have Z16 : n0 ≤ T12.heap.size := Nat.le_trans Z10 Kq12.1
  have K17 : Keep h0 T12.heap [] := K11.trans Kq12 (allS (Or.inr sz_b3) all0)
  refine Good.back (fun _ k => st12.trans k) ?_
  show Good p e below _ (T12.setTop (mkF m 25 #[.val (.int p0)] [(.ref b3)]))
  obtain ⟨fs18, hr18, hrun18, hended18, hW18, hsame18⟩ := X12.leave (v := some (.ref b3)) (fun h => by rw [Bd.returns] at h; cases h)
  refine Good.done (retOut X12 hx Bd.returns rfl (Or.inr (Or.inr (Or.inr (Or.inr ⟨rfl, rfl, rfl⟩)))) (hb hby own_d15_25) hr18) hrun18 hended18 ⟨_, _, rfl, ?_, ⟨_, rfl⟩, hW18, hsame18.mono (by decide) (by decide)⟩
  show Q15 Z p0 cs h0 n0 _ T12.heap _
  have f_19 : Exa Z T12.heap b3 "java/lang/String" := Exa.keep f_13 Kq12
  have ne_b3_ar_9_21 : b3 ≠ ar_9 := Nat.ne_of_lt (Nat.lt_of_lt_of_le f_8.lt o9_0)
  have f_20 : Arv Z T12.heap ar_9 kk_9 .byte (1 : Int32) [(.int (p0.toInt8.toInt32).toInt8.toInt32)] (.int (0 : Int32)) := Arv.keep o9_1 Kq12 (ninS (Ne.symm ne_b3_ar_9_21) nin0)
  exact ⟨_, _, _, rfl, N12, K17, sz_b3, sz_ar_9, f_19, o12_0, o12_1, f_20, ne_b3_ar_9_21⟩
theorem own_pd134 : parseMethodDescriptor "(C)Ljava/lang/String;" = some ⟨[.char], some (.object "java/lang/String")⟩ := by decide +kernel
theorem own_d5_0 : decode method_3_code 0 = .ok (.iload_n 0, 1) := by decide +kernel
theorem own_d5_1 : decode method_3_code 1 = .ok (.ifCond .ne 6, 3) := by decide +kernel
theorem own_d5_4 : decode method_3_code 4 = .ok (.ldc 7, 2) := by decide +kernel
theorem own_d5_6 : decode method_3_code 6 = .ok (.areturn, 1) := by decide +kernel
theorem own_d5_7 : decode method_3_code 7 = .ok (.iload_n 1, 1) := by decide +kernel
theorem own_d5_8 : decode method_3_code 8 = .ok (.invokestatic 9, 3) := by decide +kernel
theorem own_d5_11 : decode method_3_code 11 = .ok (.areturn, 1) := by decide +kernel
theorem own_ef_5 (m : MethodId) (x0 : Int32) (x1 : Int32) : entryFrame m #[(.int x0), (.int x1)] 2 = mkF m 0 #[.val (.int x0), .val (.int x1)] [] := by first | (simp [entryFrame, mkF, argsToLocals, Value.category]; done) | rfl
def Q5 (Z : State) (p0 : Int32) (p1 : Int32) (cs : Int32) (h0 : Heap) (n0 : Nat) (v : Option Value) (h : Heap) (L : List Loc) : Prop := ∃ (sr ar : Addr) (kk : ClassId), v = some (.ref sr) ∧ Fr n0 L ∧ Keep h0 h [] ∧ Exa Z h sr "java/lang/String" ∧ Fld Z h sr "java/lang/String" "value" "[B" (.ref ar) ∧ Fld Z h sr "java/lang/String" "coder" "B" (.int (0 : Int32)) ∧ Arv Z h ar kk .byte (own_sl p0) (own_sv p0 p1) (.int (0 : Int32))
set_option maxRecDepth 65536 in
set_option maxHeartbeats 40000000 in
theorem rm5 (l : Launch) (Z : State) (a0 : Array Value) (hw : ∀ d ∈ tables_1, d.before a0 Z = true) (ws : List Jvm.Cond) (p0 : Int32) (p1 : Int32) (cs : Int32) (h0 : Heap) (n0 : Nat) (Z0 : n0 ≤ h0.size) (S_cs : Sta Z h0 "java/lang/String" "COMPACT_STRINGS" "Z" (.int cs)) (hcs : ¬ (cs = (0 : Int32))) (hle : ¬ ((255 : Int32) < p1)) :
    MetFree l (⟨"com/example/orderd/orderd/order/GameOrderEqualsPinLaw", "str", "(ZC)Ljava/lang/String;"⟩ : MethodName) (head1 (Jvm.Cond.code (⟨"com/example/orderd/orderd/order/GameOrderEqualsPinLaw", "str", "(ZC)Ljava/lang/String;"⟩ : MethodName) method_3_code 2 (some (.object "java/lang/String")) :: ws) ({ frames := 3, cells := 2, slots := 5, locals := 39 } : Room)) (fun a U => a = #[(.int p0), (.int p1)] ∧ Z.Warmed39 U.vm ∧ U.heap = h0 ∧ CHv Z own_EL U.vm h0) (fun _ _ _ _ _ => True) (fun _ U o U' => ∃ v L, o = .returned v ∧ Q5 Z p0 p1 cs h0 n0 v U'.heap L ∧ CHr Z own_EL U.vm U.heap U'.vm U'.heap ∧ ReturnedEndW U o U' L ({ frames := 3, cells := 2, slots := 5, locals := 39 } : Room).cells ({ frames := 3, cells := 2, slots := 5, locals := 39 } : Room).slots) := by
  refine MetFree.of_bodySF (plainFor_of_name own_pn0) hisR ?_
  intro p e s m args below meth c s₁ Bd hml0 hP hK
  obtain ⟨rfl, hZ, hh, HV⟩ := hP
  have hx := Bd.exec
  have hby := Bd.bytes
  have hml : c.maxLocals = 2 := hml0
  have hown : s.vm.findClass "com/example/orderd/orderd/order/GameOrderEqualsPinLaw" = some m.cls := findClass_of_methodNamed Bd.named
  have hnm := (name_of_methodNamed Bd.named Bd.method).1
  have X0 : Stand p l e ({ frames := 3, cells := 2, slots := 5, locals := 39 } : Room) s m #[(.int p0), (.int p1)] below meth c s₁ [] 0 0 := Stand.of_body Bd
  have e0 : s₁.heap = h0 := by rw [← hh, Bd.state]; rfl
  have N0 := Fr.nil n0
  have X0c : Stand p l e ({ frames := 3, cells := 2, slots := 5, locals := 39 } : Room) (s.setVm s.vm) m #[(.int p0), (.int p1)] below meth c s₁ [] 0 0 := X0
  have hS0 : s.Since s.vm 0 := (State.WarmedH.refl s).since 0
  have hk0 : 0 ≤ h0.size := Nat.zero_le _
  have hZ0 : Z.Warmed39 (s.setVm s.vm).vm := hZ
  have hown0 : (s.setVm s.vm).vm.findClass "com/example/orderd/orderd/order/GameOrderEqualsPinLaw" = some m.cls := hown
  have C0 : CHr Z own_EL s.vm h0 s.vm h0 := CHr.refl HV
  have KR : Keep h0 h0 [] := Keep.refl h0 _
  show Good p e below (fun o U' => ∃ v L, o = .returned v ∧ Q5 Z p0 p1 cs h0 n0 v U'.heap L ∧ CHr Z own_EL s.vm s.heap U'.vm U'.heap ∧ ReturnedEndW s o U' L ({ frames := 3, cells := 2, slots := 5, locals := 39 } : Room).cells ({ frames := 3, cells := 2, slots := 5, locals := 39 } : Room).slots) _
  refine Good.back (S' := s₁.setTop (mkF m 0 #[.val (.int p0), .val (.int p1)] [])) (fun t k => castTop (own_ef_5 m p0 p1) k) ?_
  show Good p e below _ (s₁.setTop (mkF m 0 #[.val (.int p0), .val (.int p1)] []))
  refine Good.back (fun _ k => XS.iloadN X0c.here hx rfl (hb hby own_d5_0) rfl k) ?_
  show Good p e below _ (s₁.setTop (mkF m 1 #[.val (.int p0), .val (.int p1)] [(.int p0)]))
  by_cases hc1_1 : p0 = (0 : Int32)
  · refine Good.back (fun _ k => XS.ifNo X0c.here hx rfl (hb hby own_d5_1) rfl ((if0 _ _).trans (teq hc1_1).2) k) ?_
    show Good p e below _ (s₁.setTop (mkF m 4 #[.val (.int p0), .val (.int p1)] []))
    obtain ⟨a2, T2, h2, kc2, bl2, kl2, X2, e2, E2, hS2, hk2, hZ2, hown2, q2E, q2C, q2V, q2A, -, -, Cc2, -, -, st2⟩ := ldcCH X0c hx hZ0 hown0 (hw _ (List.mem_of_getElem? (i := 16) rfl)) (own_wS hw) e0 hS0 hk0 (own_EW hw) (List.mem_of_getElem? (i := 0) rfl) C0.1 (vs := []) (z := (0 : Int32)) ⟨by decide, by decide⟩ (by decide) (by decide) (g := (mkF m 4 #[.val (.int p0), .val (.int p1)] [])) rfl (hb hby own_d5_4) (n := 0) (by decide +kernel) (by decide) (by decide) (by decide)
    refine Good.back st2 ?_
    have C2 := C0.trans Cc2
    have Z3 : n0 ≤ h2.size := Nat.le_trans Z0 E2.1
    have hk4 := Nat.le_trans hk0 E2.1
    have K5 : Keep h0 h2 [] := KR.ext E2
    show Good p e below _ (T2.setTop (mkF m 6 #[.val (.int p0), .val (.int p1)] [(.ref a2)]))
    obtain ⟨fs6, hr6, hrun6, hended6, hRE6⟩ := leaveW X2 hS2 (by rw [e2]; exact hk2) (v := some (.ref a2)) (fun h => by rw [Bd.returns] at h; cases h)
    have hCH6 : CHr Z own_EL s.vm s.heap T2.vm T2.heap := by rw [hh, e2]; exact C2.trans (CHv.at X2 hZ2 (own_EW hw) C2.1)
    refine Good.done (retOut X2 hx Bd.returns rfl (Or.inr (Or.inr (Or.inr (Or.inr ⟨rfl, rfl, rfl⟩)))) (hb hby own_d5_6) hr6) hrun6 hended6 ⟨_, _, rfl, ?_, hCH6, hRE6.1, hRE6.2.1, hRE6.2.2.1, hRE6.2.2.2.mono (by decide) (by decide)⟩
    show Q5 Z p0 p1 cs h0 n0 _ T2.heap _
    rw [e2]
    exact ⟨_, _, _, rfl, N0, K5, q2E, q2V, q2C, by rw [own_sl0 hc1_1, own_sv0 hc1_1]; exact q2A⟩
  · refine Good.back (fun _ k => XS.ifYes X0c.here hx rfl (pc0 := 1) (pc' := 7) rfl (hb hby own_d5_1) rfl ((if0 _ _).trans (feq hc1_1).2) (by decide) (by decide) k) ?_
    show Good p e below _ (s₁.setTop (mkF m 7 #[.val (.int p0), .val (.int p1)] []))
    refine Good.back (fun _ k => XS.iloadN X0c.here hx rfl (hb hby own_d5_7) rfl k) ?_
    show Good p e below _ (s₁.setTop (mkF m 8 #[.val (.int p0), .val (.int p1)] [(.int p1)]))
    obtain ⟨_, _, ⟨T7, L7, k7, n7⟩, -, X7, ⟨Lc7, hQ7, l7, y7, z7⟩, st7⟩ := Jvm.LawKit.callS X0c hx (y := (⟨"java/lang/String", "valueOf", "(C)Ljava/lang/String;"⟩ : MethodName)) hown0 (mvT hZ0 (hw _ (List.mem_of_getElem? (i := 77) rfl))) (mvT hZ0 (hw _ (List.mem_of_getElem? (i := 78) rfl))) (mvT hZ0 (hw _ (List.mem_of_getElem? (i := 17) rfl))) (mvT hZ0 (hw _ (List.mem_of_getElem? (i := 79) rfl))) (by decide) (backOf (W := 0) (rm15 l Z a0 hw [] p1 cs h0 n0 Z0 S_cs (hcs) (hle)) hZ0 (hw _ (List.mem_of_getElem? (i := 79) rfl)) (hw _ (List.mem_of_getElem? (i := 17) rfl)) (by decide) (by decide)) (g := (mkF m 8 #[.val (.int p0), .val (.int p1)] [(.int p1)])) rfl (by rw [hml]; rfl) (argsL := [(.int p1)]) (rest := []) (lenOf own_pd134 rfl) rfl (by show 2 * 0 + _ ≤ _; exact Nat.le_of_eq rfl) (hb hby own_d5_8) (fun _ _ => ⟨rfl, e0, (by decide : 0 + 2 ≤ _), (by decide : 0 + 5 ≤ _)⟩)
    dsimp only [Pt.U, Pt.locs, Pt.cells, Pt.slots] at X7 l7 y7 z7 st7 hQ7
    subst l7 y7 z7
    obtain ⟨sr_7, ar_7, kk_7, rfl, N7q, Kq7, o7_0, o7_1, o7_2, o7_3, o7_4, o7_5, o7_6⟩ := hQ7
    have N7 := Fr.app N0 N7q
    have Z8 : n0 ≤ T7.heap.size := Nat.le_trans Z0 Kq7.1
    have hk9 := Nat.le_trans hk0 Kq7.1
    have K10 : Keep h0 T7.heap [] := KR.trans Kq7 all0
    have g_sr_7 : n0 ≤ sr_7 := Nat.le_trans Z0 o7_0
    have sz_sr_7 : h0.size ≤ sr_7 := Nat.le_trans KR.1 o7_0
    have g_ar_7 : n0 ≤ ar_7 := Nat.le_trans Z0 o7_1
    have sz_ar_7 : h0.size ≤ ar_7 := Nat.le_trans KR.1 o7_1
    refine Good.back st7 ?_
    show Good p e below _ (T7.setTop (mkF m 11 #[.val (.int p0), .val (.int p1)] [(.ref sr_7)]))
    obtain ⟨fs11, hr11, hrun11, hended11, hRE11⟩ := leaveW X7 hS0 hk9 (v := some (.ref sr_7)) (fun h => by rw [Bd.returns] at h; cases h)
    have C12 := C0.trans (CHr.keep Kq7 sf0 C0.1)
    have hCH11 : CHr Z own_EL s.vm s.heap T7.vm T7.heap := by rw [hh]; exact C12.trans (CHv.at X7 hZ0 (own_EW hw) C12.1)
    refine Good.done (retOut X7 hx Bd.returns rfl (Or.inr (Or.inr (Or.inr (Or.inr ⟨rfl, rfl, rfl⟩)))) (hb hby own_d5_11) hr11) hrun11 hended11 ⟨_, _, rfl, ?_, hCH11, hRE11.1, hRE11.2.1, hRE11.2.2.1, hRE11.2.2.2.mono (by decide) (by decide)⟩
    show Q5 Z p0 p1 cs h0 n0 _ T7.heap _
    exact ⟨_, _, _, rfl, N7, K10, o7_2, o7_3, o7_4, by rw [own_sl1 hc1_1, own_sv1 hc1_1]; exact o7_5⟩
theorem own_pd142 : parseMethodDescriptor "(ZC)Ljava/lang/String;" = some ⟨[.boolean, .char], some (.object "java/lang/String")⟩ := by decide +kernel
theorem own_d2_0 : decode method_8_code 0 = .ok (.iload_n 1, 1) := by decide +kernel
theorem own_d2_1 : decode method_8_code 1 = .ok (.iload_n 2, 1) := by decide +kernel
theorem own_d2_2 : decode method_8_code 2 = .ok (.invokestatic 21, 3) := by decide +kernel
theorem own_d2_5 : decode method_8_code 5 = .ok (.iload_n 0, 1) := by decide +kernel
theorem own_d2_6 : decode method_8_code 6 = .ok (.iload_n 2, 1) := by decide +kernel
theorem own_d2_7 : decode method_8_code 7 = .ok (.invokestatic 24, 3) := by decide +kernel
theorem own_d2_10 : decode method_8_code 10 = .ok (.invokestatic 28, 3) := by decide +kernel
theorem own_d2_13 : decode method_8_code 13 = .ok (.areturn, 1) := by decide +kernel
theorem own_ef_2 (m : MethodId) (x0 : Int32) (x1 : Int32) (x2 : Int32) : entryFrame m #[(.int x0), (.int x1), (.int x2)] 3 = mkF m 0 #[.val (.int x0), .val (.int x1), .val (.int x2)] [] := by first | (simp [entryFrame, mkF, argsToLocals, Value.category]; done) | rfl
def Q2 (Z : State) (p0 : Int32) (p1 : Int32) (p2 : Int32) (cs : Int32) (h0 : Heap) (n0 : Nat) (v : Option Value) (h : Heap) (L : List Loc) : Prop := ∃ (sr ar : Addr) (kk : ClassId), v = some (.ref sr) ∧ Fr n0 L ∧ Keep h0 h [] ∧ Exa Z h sr "java/lang/String" ∧ Fld Z h sr "java/lang/String" "value" "[B" (.ref ar) ∧ Fld Z h sr "java/lang/String" "coder" "B" (.int (0 : Int32)) ∧ Arv Z h ar kk .byte (own_sl (own_len1 p1 p2)) (own_sv (own_len1 p1 p2) (own_ch p0 p2)) (.int (0 : Int32))
set_option maxRecDepth 65536 in
set_option maxHeartbeats 40000000 in
theorem rm2 (l : Launch) (Z : State) (a0 : Array Value) (hw : ∀ d ∈ tables_1, d.before a0 Z = true) (ws : List Jvm.Cond) (p0 : Int32) (p1 : Int32) (p2 : Int32) (cs : Int32) (h0 : Heap) (n0 : Nat) (Z0 : n0 ≤ h0.size) (S_cs : Sta Z h0 "java/lang/String" "COMPACT_STRINGS" "Z" (.int cs)) (hcs : ¬ (cs = (0 : Int32))) :
    MetFree l (⟨"com/example/orderd/orderd/order/GameOrderEqualsPinLaw", "first", "(III)Ljava/lang/String;"⟩ : MethodName) (head1 (Jvm.Cond.code (⟨"com/example/orderd/orderd/order/GameOrderEqualsPinLaw", "first", "(III)Ljava/lang/String;"⟩ : MethodName) method_8_code 3 (some (.object "java/lang/String")) :: ws) ({ frames := 4, cells := 2, slots := 5, locals := 52 } : Room)) (fun a U => a = #[(.int p0), (.int p1), (.int p2)] ∧ Z.Warmed39 U.vm ∧ U.heap = h0 ∧ CHv Z own_EL U.vm h0) (fun _ _ _ _ _ => True) (fun _ U o U' => ∃ v L, o = .returned v ∧ Q2 Z p0 p1 p2 cs h0 n0 v U'.heap L ∧ CHr Z own_EL U.vm U.heap U'.vm U'.heap ∧ ReturnedEndW U o U' L ({ frames := 4, cells := 2, slots := 5, locals := 52 } : Room).cells ({ frames := 4, cells := 2, slots := 5, locals := 52 } : Room).slots) := by
  refine MetFree.of_bodySF (plainFor_of_name own_pn0) hisR ?_
  intro p e s m args below meth c s₁ Bd hml0 hP hK
  obtain ⟨rfl, hZ, hh, HV⟩ := hP
  have hx := Bd.exec
  have hby := Bd.bytes
  have hml : c.maxLocals = 3 := hml0
  have hown : s.vm.findClass "com/example/orderd/orderd/order/GameOrderEqualsPinLaw" = some m.cls := findClass_of_methodNamed Bd.named
  have hnm := (name_of_methodNamed Bd.named Bd.method).1
  have X0 : Stand p l e ({ frames := 4, cells := 2, slots := 5, locals := 52 } : Room) s m #[(.int p0), (.int p1), (.int p2)] below meth c s₁ [] 0 0 := Stand.of_body Bd
  have e0 : s₁.heap = h0 := by rw [← hh, Bd.state]; rfl
  have N0 := Fr.nil n0
  have X0c : Stand p l e ({ frames := 4, cells := 2, slots := 5, locals := 52 } : Room) (s.setVm s.vm) m #[(.int p0), (.int p1), (.int p2)] below meth c s₁ [] 0 0 := X0
  have hS0 : s.Since s.vm 0 := (State.WarmedH.refl s).since 0
  have hk0 : 0 ≤ h0.size := Nat.zero_le _
  have hZ0 : Z.Warmed39 (s.setVm s.vm).vm := hZ
  have hown0 : (s.setVm s.vm).vm.findClass "com/example/orderd/orderd/order/GameOrderEqualsPinLaw" = some m.cls := hown
  have C0 : CHr Z own_EL s.vm h0 s.vm h0 := CHr.refl HV
  have KR : Keep h0 h0 [] := Keep.refl h0 _
  show Good p e below (fun o U' => ∃ v L, o = .returned v ∧ Q2 Z p0 p1 p2 cs h0 n0 v U'.heap L ∧ CHr Z own_EL s.vm s.heap U'.vm U'.heap ∧ ReturnedEndW s o U' L ({ frames := 4, cells := 2, slots := 5, locals := 52 } : Room).cells ({ frames := 4, cells := 2, slots := 5, locals := 52 } : Room).slots) _
  refine Good.back (S' := s₁.setTop (mkF m 0 #[.val (.int p0), .val (.int p1), .val (.int p2)] [])) (fun t k => castTop (own_ef_2 m p0 p1 p2) k) ?_
  show Good p e below _ (s₁.setTop (mkF m 0 #[.val (.int p0), .val (.int p1), .val (.int p2)] []))
  refine Good.back (fun _ k => XS.iloadN X0c.here hx rfl (hb hby own_d2_0) rfl k) ?_
  show Good p e below _ (s₁.setTop (mkF m 1 #[.val (.int p0), .val (.int p1), .val (.int p2)] [(.int p1)]))
  refine Good.back (fun _ k => XS.iloadN X0c.here hx rfl (hb hby own_d2_1) rfl k) ?_
  show Good p e below _ (s₁.setTop (mkF m 2 #[.val (.int p0), .val (.int p1), .val (.int p2)] [(.int p2), (.int p1)]))
  obtain ⟨_, _, ⟨T1, L1, k1, n1⟩, -, X1, ⟨Lc1, hQ1, l1, y1, z1⟩, st1⟩ := Jvm.LawKit.callS X0c hx (y := (⟨"com/example/orderd/orderd/order/GameOrderEqualsPinLaw", "len1", "(II)Z"⟩ : MethodName)) hown0 (mvT hZ0 (hw _ (List.mem_of_getElem? (i := 7) rfl))) (mvT hZ0 (hw _ (List.mem_of_getElem? (i := 8) rfl))) (mvT hZ0 (hw _ (List.mem_of_getElem? (i := 2) rfl))) (mvT hZ0 (hw _ (List.mem_of_getElem? (i := 9) rfl))) (by decide) (backOf (W := 0) (rm3 l Z a0 hw [] p1 p2  h0 n0 Z0 ) hZ0 (hw _ (List.mem_of_getElem? (i := 9) rfl)) (hw _ (List.mem_of_getElem? (i := 2) rfl)) (by decide) (by decide)) (g := (mkF m 2 #[.val (.int p0), .val (.int p1), .val (.int p2)] [(.int p2), (.int p1)])) rfl (by rw [hml]; rfl) (argsL := [(.int p1), (.int p2)]) (rest := []) (lenOf own_pd31 rfl) rfl (by show 2 * 0 + _ ≤ _; exact Nat.le_of_eq rfl) (hb hby own_d2_2) (fun _ _ => ⟨rfl, e0, (by decide : 0 + 0 ≤ _), (by decide : 0 + 0 ≤ _)⟩)
  dsimp only [Pt.U, Pt.locs, Pt.cells, Pt.slots] at X1 l1 y1 z1 st1 hQ1
  subst l1 y1 z1
  obtain ⟨rfl, N1q, eh1⟩ := hQ1
  have N1 := Fr.app N0 N1q
  refine Good.back st1 ?_
  show Good p e below _ (T1.setTop (mkF m 5 #[.val (.int p0), .val (.int p1), .val (.int p2)] [(.int (own_len1 p1 p2))]))
  refine Good.back (fun _ k => XS.iloadN X1.here hx rfl (hb hby own_d2_5) rfl k) ?_
  show Good p e below _ (T1.setTop (mkF m 6 #[.val (.int p0), .val (.int p1), .val (.int p2)] [(.int p0), (.int (own_len1 p1 p2))]))
  refine Good.back (fun _ k => XS.iloadN X1.here hx rfl (hb hby own_d2_6) rfl k) ?_
  show Good p e below _ (T1.setTop (mkF m 7 #[.val (.int p0), .val (.int p1), .val (.int p2)] [(.int p2), (.int p0), (.int (own_len1 p1 p2))]))
  obtain ⟨_, _, ⟨T2, L2, k2, n2⟩, -, X2, ⟨Lc2, hQ2, l2, y2, z2⟩, st2⟩ := Jvm.LawKit.callS X1 hx (y := (⟨"com/example/orderd/orderd/order/GameOrderEqualsPinLaw", "ch", "(II)C"⟩ : MethodName)) hown0 (mvT hZ0 (hw _ (List.mem_of_getElem? (i := 10) rfl))) (mvT hZ0 (hw _ (List.mem_of_getElem? (i := 11) rfl))) (mvT hZ0 (hw _ (List.mem_of_getElem? (i := 2) rfl))) (mvT hZ0 (hw _ (List.mem_of_getElem? (i := 12) rfl))) (by decide) (backOf (W := 1) (rm4 l Z a0 hw [] p0 p2  h0 n0 Z0 ) hZ0 (hw _ (List.mem_of_getElem? (i := 12) rfl)) (hw _ (List.mem_of_getElem? (i := 2) rfl)) (by decide) (by decide)) (g := (mkF m 7 #[.val (.int p0), .val (.int p1), .val (.int p2)] [(.int p2), (.int p0), (.int (own_len1 p1 p2))])) rfl (by rw [hml]; rfl) (argsL := [(.int p0), (.int p2)]) (rest := [(.int (own_len1 p1 p2))]) (lenOf own_pd52 rfl) rfl (by show 2 * 0 + _ ≤ _; exact Nat.le_of_eq rfl) (hb hby own_d2_7) (fun _ _ => ⟨rfl, eh1, (by decide : 0 + 0 ≤ _), (by decide : 0 + 0 ≤ _)⟩)
  dsimp only [Pt.U, Pt.locs, Pt.cells, Pt.slots] at X2 l2 y2 z2 st2 hQ2
  subst l2 y2 z2
  obtain ⟨rfl, N2q, eh2⟩ := hQ2
  have N2 := Fr.app N1 N2q
  refine Good.back st2 ?_
  show Good p e below _ (T2.setTop (mkF m 10 #[.val (.int p0), .val (.int p1), .val (.int p2)] [(.int (own_ch p0 p2)), (.int (own_len1 p1 p2))]))
  obtain ⟨_, _, ⟨T3, L3, k3, n3⟩, -, Xc3, hSc3, hgc3, ⟨Lc3, hQ3, l3, y3, z3, Cc3⟩, st3⟩ := callSS X2 hx (y := (⟨"com/example/orderd/orderd/order/GameOrderEqualsPinLaw", "str", "(ZC)Ljava/lang/String;"⟩ : MethodName)) hown0 (mvT hZ0 (hw _ (List.mem_of_getElem? (i := 13) rfl))) (mvT hZ0 (hw _ (List.mem_of_getElem? (i := 14) rfl))) (mvT hZ0 (hw _ (List.mem_of_getElem? (i := 2) rfl))) (mvT hZ0 (hw _ (List.mem_of_getElem? (i := 15) rfl))) (by decide) (backOfSH (W := 0) (rm5 l Z a0 hw [] (own_len1 p1 p2) (own_ch p0 p2) cs h0 n0 Z0 S_cs (hcs) (own_le (own_chB p0 p2))) hZ0 (hw _ (List.mem_of_getElem? (i := 15) rfl)) (hw _ (List.mem_of_getElem? (i := 2) rfl)) (by decide) (by decide) (own_EW hw) C0.1) (g := (mkF m 10 #[.val (.int p0), .val (.int p1), .val (.int p2)] [(.int (own_ch p0 p2)), (.int (own_len1 p1 p2))])) rfl (by rw [hml]; rfl) (argsL := [(.int (own_len1 p1 p2)), (.int (own_ch p0 p2))]) (rest := []) (lenOf own_pd142 rfl) rfl (by show 2 * 0 + _ ≤ _; exact Nat.le_of_eq rfl) (hb hby own_d2_10) (fun _ _ => ⟨rfl, eh2, (by decide : 0 + 2 ≤ _), (by decide : 0 + 5 ≤ _)⟩)
  dsimp only [Pt.U, Pt.locs, Pt.cells, Pt.slots] at Xc3 hSc3 hgc3 l3 y3 z3 st3 hQ3 Cc3
  subst l3 y3 z3
  obtain ⟨X3, hS3, hZ3, hown3⟩ := rebS hS0 (by rw [eh2]; exact hk0) Xc3 hSc3 hgc3 hZ0 hown0
  obtain ⟨sr_3, ar_3, kk_3, rfl, N3q, Kq3, o3_0, o3_1, o3_2, o3_3⟩ := hQ3
  have N3 := Fr.app N2 N3q
  have Z4 : n0 ≤ T3.heap.size := Nat.le_trans Z0 Kq3.1
  have hk5 := Nat.le_trans hk0 Kq3.1
  have K6 : Keep h0 T3.heap [] := KR.trans Kq3 all0
  have C3 := C0.trans Cc3
  refine Good.back (fun _ k => st3.trans k) ?_
  show Good p e below _ (T3.setTop (mkF m 13 #[.val (.int p0), .val (.int p1), .val (.int p2)] [(.ref sr_3)]))
  obtain ⟨fs7, hr7, hrun7, hended7, hRE7⟩ := leaveW X3 hS3 (Nat.le_refl _) (v := some (.ref sr_3)) (fun h => by rw [Bd.returns] at h; cases h)
  have hCH7 : CHr Z own_EL s.vm s.heap T3.vm T3.heap := by rw [hh]; exact C3.trans (CHv.at X3 hZ3 (own_EW hw) C3.1)
  refine Good.done (retOut X3 hx Bd.returns rfl (Or.inr (Or.inr (Or.inr (Or.inr ⟨rfl, rfl, rfl⟩)))) (hb hby own_d2_13) hr7) hrun7 hended7 ⟨_, _, rfl, ?_, hCH7, hRE7.1, hRE7.2.1, hRE7.2.2.1, hRE7.2.2.2.mono (by decide) (by decide)⟩
  show Q2 Z p0 p1 p2 cs h0 n0 _ T3.heap _
  exact ⟨_, _, _, rfl, N3, K6, o3_0, o3_1, o3_2, o3_3⟩
theorem own_d9_0 : decode method_9_code 0 = .ok (.iload_n 2, 1) := by decide +kernel
theorem own_d9_1 : decode method_9_code 1 = .ok (.iload_n 3, 1) := by decide +kernel
theorem own_d9_2 : decode method_9_code 2 = .ok (.invokestatic 32, 3) := by decide +kernel
theorem own_d9_5 : decode method_9_code 5 = .ok (.iload_n 0, 1) := by decide +kernel
theorem own_d9_6 : decode method_9_code 6 = .ok (.iload_n 1, 1) := by decide +kernel
theorem own_d9_7 : decode method_9_code 7 = .ok (.iload_n 2, 1) := by decide +kernel
theorem own_d9_8 : decode method_9_code 8 = .ok (.iload_n 3, 1) := by decide +kernel
theorem own_d9_9 : decode method_9_code 9 = .ok (.invokestatic 35, 3) := by decide +kernel
theorem own_d9_12 : decode method_9_code 12 = .ok (.invokestatic 28, 3) := by decide +kernel
theorem own_d9_15 : decode method_9_code 15 = .ok (.areturn, 1) := by decide +kernel
theorem own_ef_9 (m : MethodId) (x0 : Int32) (x1 : Int32) (x2 : Int32) (x3 : Int32) : entryFrame m #[(.int x0), (.int x1), (.int x2), (.int x3)] 4 = mkF m 0 #[.val (.int x0), .val (.int x1), .val (.int x2), .val (.int x3)] [] := by first | (simp [entryFrame, mkF, argsToLocals, Value.category]; done) | rfl
def Q9 (Z : State) (p0 : Int32) (p1 : Int32) (p2 : Int32) (p3 : Int32) (cs : Int32) (h0 : Heap) (n0 : Nat) (v : Option Value) (h : Heap) (L : List Loc) : Prop := ∃ (sr ar : Addr) (kk : ClassId), v = some (.ref sr) ∧ Fr n0 L ∧ Keep h0 h [] ∧ Exa Z h sr "java/lang/String" ∧ Fld Z h sr "java/lang/String" "value" "[B" (.ref ar) ∧ Fld Z h sr "java/lang/String" "coder" "B" (.int (0 : Int32)) ∧ Arv Z h ar kk .byte (own_sl (own_len2 p2 p3)) (own_sv (own_len2 p2 p3) (own_chr2 p0 p1 p2 p3)) (.int (0 : Int32))
set_option maxRecDepth 65536 in
set_option maxHeartbeats 40000000 in
theorem rm9 (l : Launch) (Z : State) (a0 : Array Value) (hw : ∀ d ∈ tables_1, d.before a0 Z = true) (ws : List Jvm.Cond) (p0 : Int32) (p1 : Int32) (p2 : Int32) (p3 : Int32) (cs : Int32) (h0 : Heap) (n0 : Nat) (Z0 : n0 ≤ h0.size) (S_cs : Sta Z h0 "java/lang/String" "COMPACT_STRINGS" "Z" (.int cs)) (hcs : ¬ (cs = (0 : Int32))) :
    MetFree l (⟨"com/example/orderd/orderd/order/GameOrderEqualsPinLaw", "second", "(IIII)Ljava/lang/String;"⟩ : MethodName) (head1 (Jvm.Cond.code (⟨"com/example/orderd/orderd/order/GameOrderEqualsPinLaw", "second", "(IIII)Ljava/lang/String;"⟩ : MethodName) method_9_code 4 (some (.object "java/lang/String")) :: ws) ({ frames := 4, cells := 2, slots := 5, locals := 52 } : Room)) (fun a U => a = #[(.int p0), (.int p1), (.int p2), (.int p3)] ∧ Z.Warmed39 U.vm ∧ U.heap = h0 ∧ CHv Z own_EL U.vm h0) (fun _ _ _ _ _ => True) (fun _ U o U' => ∃ v L, o = .returned v ∧ Q9 Z p0 p1 p2 p3 cs h0 n0 v U'.heap L ∧ CHr Z own_EL U.vm U.heap U'.vm U'.heap ∧ ReturnedEndW U o U' L ({ frames := 4, cells := 2, slots := 5, locals := 52 } : Room).cells ({ frames := 4, cells := 2, slots := 5, locals := 52 } : Room).slots) := by
  refine MetFree.of_bodySF (plainFor_of_name own_pn0) hisR ?_
  intro p e s m args below meth c s₁ Bd hml0 hP hK
  obtain ⟨rfl, hZ, hh, HV⟩ := hP
  have hx := Bd.exec
  have hby := Bd.bytes
  have hml : c.maxLocals = 4 := hml0
  have hown : s.vm.findClass "com/example/orderd/orderd/order/GameOrderEqualsPinLaw" = some m.cls := findClass_of_methodNamed Bd.named
  have hnm := (name_of_methodNamed Bd.named Bd.method).1
  have X0 : Stand p l e ({ frames := 4, cells := 2, slots := 5, locals := 52 } : Room) s m #[(.int p0), (.int p1), (.int p2), (.int p3)] below meth c s₁ [] 0 0 := Stand.of_body Bd
  have e0 : s₁.heap = h0 := by rw [← hh, Bd.state]; rfl
  have N0 := Fr.nil n0
  have X0c : Stand p l e ({ frames := 4, cells := 2, slots := 5, locals := 52 } : Room) (s.setVm s.vm) m #[(.int p0), (.int p1), (.int p2), (.int p3)] below meth c s₁ [] 0 0 := X0
  have hS0 : s.Since s.vm 0 := (State.WarmedH.refl s).since 0
  have hk0 : 0 ≤ h0.size := Nat.zero_le _
  have hZ0 : Z.Warmed39 (s.setVm s.vm).vm := hZ
  have hown0 : (s.setVm s.vm).vm.findClass "com/example/orderd/orderd/order/GameOrderEqualsPinLaw" = some m.cls := hown
  have C0 : CHr Z own_EL s.vm h0 s.vm h0 := CHr.refl HV
  have KR : Keep h0 h0 [] := Keep.refl h0 _
  show Good p e below (fun o U' => ∃ v L, o = .returned v ∧ Q9 Z p0 p1 p2 p3 cs h0 n0 v U'.heap L ∧ CHr Z own_EL s.vm s.heap U'.vm U'.heap ∧ ReturnedEndW s o U' L ({ frames := 4, cells := 2, slots := 5, locals := 52 } : Room).cells ({ frames := 4, cells := 2, slots := 5, locals := 52 } : Room).slots) _
  refine Good.back (S' := s₁.setTop (mkF m 0 #[.val (.int p0), .val (.int p1), .val (.int p2), .val (.int p3)] [])) (fun t k => castTop (own_ef_9 m p0 p1 p2 p3) k) ?_
  show Good p e below _ (s₁.setTop (mkF m 0 #[.val (.int p0), .val (.int p1), .val (.int p2), .val (.int p3)] []))
  refine Good.back (fun _ k => XS.iloadN X0c.here hx rfl (hb hby own_d9_0) rfl k) ?_
  show Good p e below _ (s₁.setTop (mkF m 1 #[.val (.int p0), .val (.int p1), .val (.int p2), .val (.int p3)] [(.int p2)]))
  refine Good.back (fun _ k => XS.iloadN X0c.here hx rfl (hb hby own_d9_1) rfl k) ?_
  show Good p e below _ (s₁.setTop (mkF m 2 #[.val (.int p0), .val (.int p1), .val (.int p2), .val (.int p3)] [(.int p3), (.int p2)]))
  obtain ⟨_, _, ⟨T1, L1, k1, n1⟩, -, X1, ⟨Lc1, hQ1, l1, y1, z1⟩, st1⟩ := Jvm.LawKit.callS X0c hx (y := (⟨"com/example/orderd/orderd/order/GameOrderEqualsPinLaw", "len2", "(II)Z"⟩ : MethodName)) hown0 (mvT hZ0 (hw _ (List.mem_of_getElem? (i := 56) rfl))) (mvT hZ0 (hw _ (List.mem_of_getElem? (i := 57) rfl))) (mvT hZ0 (hw _ (List.mem_of_getElem? (i := 2) rfl))) (mvT hZ0 (hw _ (List.mem_of_getElem? (i := 58) rfl))) (by decide) (backOf (W := 0) (rm10 l Z a0 hw [] p2 p3  h0 n0 Z0 ) hZ0 (hw _ (List.mem_of_getElem? (i := 58) rfl)) (hw _ (List.mem_of_getElem? (i := 2) rfl)) (by decide) (by decide)) (g := (mkF m 2 #[.val (.int p0), .val (.int p1), .val (.int p2), .val (.int p3)] [(.int p3), (.int p2)])) rfl (by rw [hml]; rfl) (argsL := [(.int p2), (.int p3)]) (rest := []) (lenOf own_pd31 rfl) rfl (by show 2 * 0 + _ ≤ _; exact Nat.le_of_eq rfl) (hb hby own_d9_2) (fun _ _ => ⟨rfl, e0, (by decide : 0 + 0 ≤ _), (by decide : 0 + 0 ≤ _)⟩)
  dsimp only [Pt.U, Pt.locs, Pt.cells, Pt.slots] at X1 l1 y1 z1 st1 hQ1
  subst l1 y1 z1
  obtain ⟨rfl, N1q, eh1⟩ := hQ1
  have N1 := Fr.app N0 N1q
  refine Good.back st1 ?_
  show Good p e below _ (T1.setTop (mkF m 5 #[.val (.int p0), .val (.int p1), .val (.int p2), .val (.int p3)] [(.int (own_len2 p2 p3))]))
  refine Good.back (fun _ k => XS.iloadN X1.here hx rfl (hb hby own_d9_5) rfl k) ?_
  show Good p e below _ (T1.setTop (mkF m 6 #[.val (.int p0), .val (.int p1), .val (.int p2), .val (.int p3)] [(.int p0), (.int (own_len2 p2 p3))]))
  refine Good.back (fun _ k => XS.iloadN X1.here hx rfl (hb hby own_d9_6) rfl k) ?_
  show Good p e below _ (T1.setTop (mkF m 7 #[.val (.int p0), .val (.int p1), .val (.int p2), .val (.int p3)] [(.int p1), (.int p0), (.int (own_len2 p2 p3))]))
  refine Good.back (fun _ k => XS.iloadN X1.here hx rfl (hb hby own_d9_7) rfl k) ?_
  show Good p e below _ (T1.setTop (mkF m 8 #[.val (.int p0), .val (.int p1), .val (.int p2), .val (.int p3)] [(.int p2), (.int p1), (.int p0), (.int (own_len2 p2 p3))]))
  refine Good.back (fun _ k => XS.iloadN X1.here hx rfl (hb hby own_d9_8) rfl k) ?_
  show Good p e below _ (T1.setTop (mkF m 9 #[.val (.int p0), .val (.int p1), .val (.int p2), .val (.int p3)] [(.int p3), (.int p2), (.int p1), (.int p0), (.int (own_len2 p2 p3))]))
  obtain ⟨_, _, ⟨T2, L2, k2, n2⟩, -, X2, ⟨Lc2, hQ2, l2, y2, z2⟩, st2⟩ := Jvm.LawKit.callS X1 hx (y := (⟨"com/example/orderd/orderd/order/GameOrderEqualsPinLaw", "chr2", "(IIII)C"⟩ : MethodName)) hown0 (mvT hZ0 (hw _ (List.mem_of_getElem? (i := 59) rfl))) (mvT hZ0 (hw _ (List.mem_of_getElem? (i := 60) rfl))) (mvT hZ0 (hw _ (List.mem_of_getElem? (i := 2) rfl))) (mvT hZ0 (hw _ (List.mem_of_getElem? (i := 61) rfl))) (by decide) (backOf (W := 1) (rm11 l Z a0 hw [] p0 p1 p2 p3  h0 n0 Z0 ) hZ0 (hw _ (List.mem_of_getElem? (i := 61) rfl)) (hw _ (List.mem_of_getElem? (i := 2) rfl)) (by decide) (by decide)) (g := (mkF m 9 #[.val (.int p0), .val (.int p1), .val (.int p2), .val (.int p3)] [(.int p3), (.int p2), (.int p1), (.int p0), (.int (own_len2 p2 p3))])) rfl (by rw [hml]; rfl) (argsL := [(.int p0), (.int p1), (.int p2), (.int p3)]) (rest := [(.int (own_len2 p2 p3))]) (lenOf own_pd65 rfl) rfl (by show 2 * 0 + _ ≤ _; exact Nat.le_of_eq rfl) (hb hby own_d9_9) (fun _ _ => ⟨rfl, eh1, (by decide : 0 + 0 ≤ _), (by decide : 0 + 0 ≤ _)⟩)
  dsimp only [Pt.U, Pt.locs, Pt.cells, Pt.slots] at X2 l2 y2 z2 st2 hQ2
  subst l2 y2 z2
  obtain ⟨rfl, N2q, eh2⟩ := hQ2
  have N2 := Fr.app N1 N2q
  refine Good.back st2 ?_
  show Good p e below _ (T2.setTop (mkF m 12 #[.val (.int p0), .val (.int p1), .val (.int p2), .val (.int p3)] [(.int (own_chr2 p0 p1 p2 p3)), (.int (own_len2 p2 p3))]))
  obtain ⟨_, _, ⟨T3, L3, k3, n3⟩, -, Xc3, hSc3, hgc3, ⟨Lc3, hQ3, l3, y3, z3, Cc3⟩, st3⟩ := callSS X2 hx (y := (⟨"com/example/orderd/orderd/order/GameOrderEqualsPinLaw", "str", "(ZC)Ljava/lang/String;"⟩ : MethodName)) hown0 (mvT hZ0 (hw _ (List.mem_of_getElem? (i := 13) rfl))) (mvT hZ0 (hw _ (List.mem_of_getElem? (i := 14) rfl))) (mvT hZ0 (hw _ (List.mem_of_getElem? (i := 2) rfl))) (mvT hZ0 (hw _ (List.mem_of_getElem? (i := 15) rfl))) (by decide) (backOfSH (W := 0) (rm5 l Z a0 hw [] (own_len2 p2 p3) (own_chr2 p0 p1 p2 p3) cs h0 n0 Z0 S_cs (hcs) (own_le (own_chr2B p0 p1 p2 p3))) hZ0 (hw _ (List.mem_of_getElem? (i := 15) rfl)) (hw _ (List.mem_of_getElem? (i := 2) rfl)) (by decide) (by decide) (own_EW hw) C0.1) (g := (mkF m 12 #[.val (.int p0), .val (.int p1), .val (.int p2), .val (.int p3)] [(.int (own_chr2 p0 p1 p2 p3)), (.int (own_len2 p2 p3))])) rfl (by rw [hml]; rfl) (argsL := [(.int (own_len2 p2 p3)), (.int (own_chr2 p0 p1 p2 p3))]) (rest := []) (lenOf own_pd142 rfl) rfl (by show 2 * 0 + _ ≤ _; exact Nat.le_of_eq rfl) (hb hby own_d9_12) (fun _ _ => ⟨rfl, eh2, (by decide : 0 + 2 ≤ _), (by decide : 0 + 5 ≤ _)⟩)
  dsimp only [Pt.U, Pt.locs, Pt.cells, Pt.slots] at Xc3 hSc3 hgc3 l3 y3 z3 st3 hQ3 Cc3
  subst l3 y3 z3
  obtain ⟨X3, hS3, hZ3, hown3⟩ := rebS hS0 (by rw [eh2]; exact hk0) Xc3 hSc3 hgc3 hZ0 hown0
  obtain ⟨sr_3, ar_3, kk_3, rfl, N3q, Kq3, o3_0, o3_1, o3_2, o3_3⟩ := hQ3
  have N3 := Fr.app N2 N3q
  have Z4 : n0 ≤ T3.heap.size := Nat.le_trans Z0 Kq3.1
  have hk5 := Nat.le_trans hk0 Kq3.1
  have K6 : Keep h0 T3.heap [] := KR.trans Kq3 all0
  have C3 := C0.trans Cc3
  refine Good.back (fun _ k => st3.trans k) ?_
  show Good p e below _ (T3.setTop (mkF m 15 #[.val (.int p0), .val (.int p1), .val (.int p2), .val (.int p3)] [(.ref sr_3)]))
  obtain ⟨fs7, hr7, hrun7, hended7, hRE7⟩ := leaveW X3 hS3 (Nat.le_refl _) (v := some (.ref sr_3)) (fun h => by rw [Bd.returns] at h; cases h)
  have hCH7 : CHr Z own_EL s.vm s.heap T3.vm T3.heap := by rw [hh]; exact C3.trans (CHv.at X3 hZ3 (own_EW hw) C3.1)
  refine Good.done (retOut X3 hx Bd.returns rfl (Or.inr (Or.inr (Or.inr (Or.inr ⟨rfl, rfl, rfl⟩)))) (hb hby own_d9_15) hr7) hrun7 hended7 ⟨_, _, rfl, ?_, hCH7, hRE7.1, hRE7.2.1, hRE7.2.2.1, hRE7.2.2.2.mono (by decide) (by decide)⟩
  show Q9 Z p0 p1 p2 p3 cs h0 n0 _ T3.heap _
  exact ⟨_, _, _, rfl, N3, K6, o3_0, o3_1, o3_2, o3_3⟩
theorem own_pn3 : plainName "java/util/Objects" = true := by first | (simp [plainName, overriddenIn]; done) | decide +kernel
theorem own_d8_0 : decode jdk_31_method_11_code 0 = .ok (.aload_n 0, 1) := by decide +kernel
theorem own_d8_1 : decode jdk_31_method_11_code 1 = .ok (.ifnonnull 12, 3) := by decide +kernel
theorem own_d8_13 : decode jdk_31_method_11_code 13 = .ok (.aload_n 0, 1) := by decide +kernel
theorem own_d8_14 : decode jdk_31_method_11_code 14 = .ok (.areturn, 1) := by decide +kernel
theorem own_ef_8 (m : MethodId) (x0 : Addr) (x1 : Addr) : entryFrame m #[(.ref x0), (.ref x1)] 2 = mkF m 0 #[.val (.ref x0), .val (.ref x1)] [] := by first | (simp [entryFrame, mkF, argsToLocals, Value.category]; done) | rfl
def Q8 (Z : State) (r0 : Addr) (r1 : Addr) (h0 : Heap) (n0 : Nat) (v : Option Value) (h : Heap) (L : List Loc) : Prop := v = some (.ref r0) ∧ Fr n0 L ∧ h = h0
set_option maxRecDepth 65536 in
set_option maxHeartbeats 40000000 in
theorem rm8 (l : Launch) (Z : State) (a0 : Array Value) (hw : ∀ d ∈ tables_1, d.before a0 Z = true) (ws : List Jvm.Cond) (r0 : Addr) (r1 : Addr) (h0 : Heap) (n0 : Nat) (Z0 : n0 ≤ h0.size)  :
    MetFree l (⟨"java/util/Objects", "requireNonNull", "(Ljava/lang/Object;Ljava/lang/String;)Ljava/lang/Object;"⟩ : MethodName) (head1 (Jvm.Cond.code (⟨"java/util/Objects", "requireNonNull", "(Ljava/lang/Object;Ljava/lang/String;)Ljava/lang/Object;"⟩ : MethodName) jdk_31_method_11_code 2 (some (.object "java/lang/Object")) :: ws) ({ frames := 0, cells := 0, slots := 0, locals := 0 } : Room)) (fun a U => a = #[(.ref r0), (.ref r1)] ∧ Z.Warmed39 U.vm ∧ U.heap = h0) (fun _ _ _ _ _ => True) (fun _ U o U' => ∃ v L, o = .returned v ∧ Q8 Z r0 r1 h0 n0 v U'.heap L ∧ FrameEnd U o U' L ({ frames := 0, cells := 0, slots := 0, locals := 0 } : Room).cells ({ frames := 0, cells := 0, slots := 0, locals := 0 } : Room).slots) := by
  refine MetFree.of_bodySF (plainFor_of_name own_pn3) hisR ?_
  intro p e s m args below meth c s₁ Bd hml0 hP hK
  obtain ⟨rfl, hZ, hh⟩ := hP
  have hx := Bd.exec
  have hby := Bd.bytes
  have hml : c.maxLocals = 2 := hml0
  have hown : s.vm.findClass "java/util/Objects" = some m.cls := findClass_of_methodNamed Bd.named
  have hnm := (name_of_methodNamed Bd.named Bd.method).1
  have X0 : Stand p l e ({ frames := 0, cells := 0, slots := 0, locals := 0 } : Room) s m #[(.ref r0), (.ref r1)] below meth c s₁ [] 0 0 := Stand.of_body Bd
  have e0 : s₁.heap = h0 := by rw [← hh, Bd.state]; rfl
  have N0 := Fr.nil n0
  show Good p e below (fun o U' => ∃ v L, o = .returned v ∧ Q8 Z r0 r1 h0 n0 v U'.heap L ∧ FrameEnd s o U' L ({ frames := 0, cells := 0, slots := 0, locals := 0 } : Room).cells ({ frames := 0, cells := 0, slots := 0, locals := 0 } : Room).slots) _
  refine Good.back (S' := s₁.setTop (mkF m 0 #[.val (.ref r0), .val (.ref r1)] [])) (fun t k => castTop (own_ef_8 m r0 r1) k) ?_
  show Good p e below _ (s₁.setTop (mkF m 0 #[.val (.ref r0), .val (.ref r1)] []))
  refine Good.back (fun _ k => XS.aloadN X0.here hx rfl (hb hby own_d8_0) rfl rfl k) ?_
  show Good p e below _ (s₁.setTop (mkF m 1 #[.val (.ref r0), .val (.ref r1)] [(.ref r0)]))
  refine Good.back (fun _ k => XS.ifnonnullYes X0.here hx rfl (pc0 := 1) (pc' := 13) rfl (hb hby own_d8_1) rfl (by decide) (by decide) k) ?_
  show Good p e below _ (s₁.setTop (mkF m 13 #[.val (.ref r0), .val (.ref r1)] []))
  refine Good.back (fun _ k => XS.aloadN X0.here hx rfl (hb hby own_d8_13) rfl rfl k) ?_
  show Good p e below _ (s₁.setTop (mkF m 14 #[.val (.ref r0), .val (.ref r1)] [(.ref r0)]))
  obtain ⟨fs1, hr1, hrun1, hended1, hW1, hsame1⟩ := X0.leave (v := some (.ref r0)) (fun h => by rw [Bd.returns] at h; cases h)
  refine Good.done (retOut X0 hx Bd.returns rfl (Or.inr (Or.inr (Or.inr (Or.inr ⟨rfl, rfl, rfl⟩)))) (hb hby own_d8_14) hr1) hrun1 hended1 ⟨_, _, rfl, ?_, ⟨_, rfl⟩, hW1, hsame1.mono (by decide) (by decide)⟩
  show Q8 Z r0 r1 h0 n0 _ s₁.heap _
  rw [e0]
  exact ⟨rfl, N0, rfl⟩
theorem own_pd165 : parseMethodDescriptor "(Ljava/lang/Object;Ljava/lang/String;)Ljava/lang/Object;" = some ⟨[(.object "java/lang/Object"), (.object "java/lang/String")], some (.object "java/lang/Object")⟩ := by decide +kernel
theorem own_pn4 : plainName "com/example/orderd/orderd/order/GameOrder" = true := by first | (simp [plainName, overriddenIn]; done) | decide +kernel
theorem own_d6_0 : decode prog_21_method_1_code 0 = .ok (.aload_n 0, 1) := by decide +kernel
theorem own_d6_1 : decode prog_21_method_1_code 1 = .ok (.invokespecial 1, 3) := by decide +kernel
theorem own_d6_4 : decode prog_21_method_1_code 4 = .ok (.aload_n 0, 1) := by decide +kernel
theorem own_d6_5 : decode prog_21_method_1_code 5 = .ok (.aload_n 1, 1) := by decide +kernel
theorem own_d6_6 : decode prog_21_method_1_code 6 = .ok (.ldc 7, 2) := by decide +kernel
theorem own_d6_8 : decode prog_21_method_1_code 8 = .ok (.invokestatic 9, 3) := by decide +kernel
theorem own_d6_11 : decode prog_21_method_1_code 11 = .ok (.checkcast 15, 3) := by decide +kernel
theorem own_d6_14 : decode prog_21_method_1_code 14 = .ok (.putfield 17, 3) := by decide +kernel
theorem own_d6_17 : decode prog_21_method_1_code 17 = .ok (.aload_n 0, 1) := by decide +kernel
theorem own_d6_18 : decode prog_21_method_1_code 18 = .ok (.aload_n 2, 1) := by decide +kernel
theorem own_d6_19 : decode prog_21_method_1_code 19 = .ok (.ldc 22, 2) := by decide +kernel
theorem own_d6_21 : decode prog_21_method_1_code 21 = .ok (.invokestatic 9, 3) := by decide +kernel
theorem own_d6_24 : decode prog_21_method_1_code 24 = .ok (.checkcast 15, 3) := by decide +kernel
theorem own_d6_27 : decode prog_21_method_1_code 27 = .ok (.putfield 24, 3) := by decide +kernel
theorem own_d6_30 : decode prog_21_method_1_code 30 = .ok (.aload_n 0, 1) := by decide +kernel
theorem own_d6_31 : decode prog_21_method_1_code 31 = .ok (.lload_n 3, 1) := by decide +kernel
theorem own_d6_32 : decode prog_21_method_1_code 32 = .ok (.putfield 26, 3) := by decide +kernel
theorem own_d6_35 : decode prog_21_method_1_code 35 = .ok (.aload_n 0, 1) := by decide +kernel
theorem own_d6_36 : decode prog_21_method_1_code 36 = .ok (.aload 5, 2) := by decide +kernel
theorem own_d6_38 : decode prog_21_method_1_code 38 = .ok (.ldc 30, 2) := by decide +kernel
theorem own_d6_40 : decode prog_21_method_1_code 40 = .ok (.invokestatic 9, 3) := by decide +kernel
theorem own_d6_43 : decode prog_21_method_1_code 43 = .ok (.checkcast 15, 3) := by decide +kernel
theorem own_d6_46 : decode prog_21_method_1_code 46 = .ok (.putfield 32, 3) := by decide +kernel
theorem own_d6_49 : decode prog_21_method_1_code 49 = .ok (.aload_n 0, 1) := by decide +kernel
theorem own_d6_50 : decode prog_21_method_1_code 50 = .ok (.aload 6, 2) := by decide +kernel
theorem own_d6_52 : decode prog_21_method_1_code 52 = .ok (.ldc 34, 2) := by decide +kernel
theorem own_d6_54 : decode prog_21_method_1_code 54 = .ok (.invokestatic 9, 3) := by decide +kernel
theorem own_d6_57 : decode prog_21_method_1_code 57 = .ok (.checkcast 15, 3) := by decide +kernel
theorem own_d6_60 : decode prog_21_method_1_code 60 = .ok (.putfield 36, 3) := by decide +kernel
theorem own_d6_63 : decode prog_21_method_1_code 63 = .ok (.return_, 1) := by decide +kernel
theorem own_ef_6 (m : MethodId) (x0 : Addr) (x1 : Addr) (x2 : Addr) (x3 : Int64) (x4 : Addr) (x5 : Addr) : entryFrame m #[(.ref x0), (.ref x1), (.ref x2), (.long x3), (.ref x4), (.ref x5)] 7 = mkF m 0 #[.val (.ref x0), .val (.ref x1), .val (.ref x2), .val (.long x3), .second, .val (.ref x4), .val (.ref x5)] [] := by first | (simp [entryFrame, mkF, argsToLocals, Value.category]; done) | rfl
def Q6 (Z : State) (r0 : Addr) (r1 : Addr) (r2 : Addr) (q3 : Int64) (r4 : Addr) (r5 : Addr) (h0 : Heap) (n0 : Nat) (v : Option Value) (h : Heap) (L : List Loc) : Prop := v = none ∧ Fr n0 L ∧ Keep h0 h [r0] ∧ Fld Z h r0 "com/example/orderd/orderd/order/GameOrder" "number" "Ljava/lang/String;" (.ref r1) ∧ Fld Z h r0 "com/example/orderd/orderd/order/GameOrder" "product" "Ljava/lang/String;" (.ref r2) ∧ Fld Z h r0 "com/example/orderd/orderd/order/GameOrder" "currency" "Ljava/lang/String;" (.ref r4) ∧ Fld Z h r0 "com/example/orderd/orderd/order/GameOrder" "role" "Ljava/lang/String;" (.ref r5) ∧ Fld Z h r0 "com/example/orderd/orderd/order/GameOrder" "amount" "J" (.long q3)
set_option maxRecDepth 65536 in
set_option maxHeartbeats 40000000 in
theorem rm6 (l : Launch) (Z : State) (a0 : Array Value) (hw : ∀ d ∈ tables_1, d.before a0 Z = true) (ws : List Jvm.Cond) (r0 : Addr) (r1 : Addr) (r2 : Addr) (q3 : Int64) (r4 : Addr) (r5 : Addr) (h0 : Heap) (n0 : Nat) (Z0 : n0 ≤ h0.size) (E0 : Exa Z h0 r0 "com/example/orderd/orderd/order/GameOrder") (g0 : n0 ≤ r0) (E_r1 : Exa Z h0 r1 "java/lang/String") (E_r2 : Exa Z h0 r2 "java/lang/String") (E_r4 : Exa Z h0 r4 "java/lang/String") (E_r5 : Exa Z h0 r5 "java/lang/String") (F_number : Fld Z h0 r0 "com/example/orderd/orderd/order/GameOrder" "number" "Ljava/lang/String;" .null) (F_product : Fld Z h0 r0 "com/example/orderd/orderd/order/GameOrder" "product" "Ljava/lang/String;" .null) (F_currency : Fld Z h0 r0 "com/example/orderd/orderd/order/GameOrder" "currency" "Ljava/lang/String;" .null) (F_role : Fld Z h0 r0 "com/example/orderd/orderd/order/GameOrder" "role" "Ljava/lang/String;" .null) (F_am : Fld Z h0 r0 "com/example/orderd/orderd/order/GameOrder" "amount" "J" (.long (0 : Int64))) :
    MetFree l (⟨"com/example/orderd/orderd/order/GameOrder", "<init>", "(Ljava/lang/String;Ljava/lang/String;JLjava/lang/String;Ljava/lang/String;)V"⟩ : MethodName) (head1 (Jvm.Cond.code (⟨"com/example/orderd/orderd/order/GameOrder", "<init>", "(Ljava/lang/String;Ljava/lang/String;JLjava/lang/String;Ljava/lang/String;)V"⟩ : MethodName) prog_21_method_1_code 7 none :: ws) ({ frames := 1, cells := 8, slots := 116, locals := 14 } : Room)) (fun a U => a = #[(.ref r0), (.ref r1), (.ref r2), (.long q3), (.ref r4), (.ref r5)] ∧ Z.Warmed39 U.vm ∧ U.heap = h0 ∧ CHv Z own_EL U.vm h0) (fun _ _ _ _ _ => True) (fun _ U o U' => ∃ v L, o = .returned v ∧ Q6 Z r0 r1 r2 q3 r4 r5 h0 n0 v U'.heap L ∧ CHr Z own_EL U.vm U.heap U'.vm U'.heap ∧ ReturnedEndW U o U' L ({ frames := 1, cells := 8, slots := 116, locals := 14 } : Room).cells ({ frames := 1, cells := 8, slots := 116, locals := 14 } : Room).slots) := by
  refine MetFree.of_bodySF (plainFor_of_name own_pn4) hisR ?_
  intro p e s m args below meth c s₁ Bd hml0 hP hK
  obtain ⟨rfl, hZ, hh, HV⟩ := hP
  have hx := Bd.exec
  have hby := Bd.bytes
  have hml : c.maxLocals = 7 := hml0
  have hown : s.vm.findClass "com/example/orderd/orderd/order/GameOrder" = some m.cls := findClass_of_methodNamed Bd.named
  have hnm := (name_of_methodNamed Bd.named Bd.method).1
  have X0 : Stand p l e ({ frames := 1, cells := 8, slots := 116, locals := 14 } : Room) s m #[(.ref r0), (.ref r1), (.ref r2), (.long q3), (.ref r4), (.ref r5)] below meth c s₁ [] 0 0 := Stand.of_body Bd
  have e0 : s₁.heap = h0 := by rw [← hh, Bd.state]; rfl
  have N0 := Fr.nil n0
  have X0c : Stand p l e ({ frames := 1, cells := 8, slots := 116, locals := 14 } : Room) (s.setVm s.vm) m #[(.ref r0), (.ref r1), (.ref r2), (.long q3), (.ref r4), (.ref r5)] below meth c s₁ [] 0 0 := X0
  have hS0 : s.Since s.vm 0 := (State.WarmedH.refl s).since 0
  have hk0 : 0 ≤ h0.size := Nat.zero_le _
  have hZ0 : Z.Warmed39 (s.setVm s.vm).vm := hZ
  have hown0 : (s.setVm s.vm).vm.findClass "com/example/orderd/orderd/order/GameOrder" = some m.cls := hown
  have C0 : CHr Z own_EL s.vm h0 s.vm h0 := CHr.refl HV
  have KR : Keep h0 h0 [r0] := Keep.refl h0 _
  show Good p e below (fun o U' => ∃ v L, o = .returned v ∧ Q6 Z r0 r1 r2 q3 r4 r5 h0 n0 v U'.heap L ∧ CHr Z own_EL s.vm s.heap U'.vm U'.heap ∧ ReturnedEndW s o U' L ({ frames := 1, cells := 8, slots := 116, locals := 14 } : Room).cells ({ frames := 1, cells := 8, slots := 116, locals := 14 } : Room).slots) _
  refine Good.back (S' := s₁.setTop (mkF m 0 #[.val (.ref r0), .val (.ref r1), .val (.ref r2), .val (.long q3), .second, .val (.ref r4), .val (.ref r5)] [])) (fun t k => castTop (own_ef_6 m r0 r1 r2 q3 r4 r5) k) ?_
  show Good p e below _ (s₁.setTop (mkF m 0 #[.val (.ref r0), .val (.ref r1), .val (.ref r2), .val (.long q3), .second, .val (.ref r4), .val (.ref r5)] []))
  refine Good.back (fun _ k => XS.aloadN X0c.here hx rfl (hb hby own_d6_0) rfl rfl k) ?_
  show Good p e below _ (s₁.setTop (mkF m 1 #[.val (.ref r0), .val (.ref r1), .val (.ref r2), .val (.long q3), .second, .val (.ref r4), .val (.ref r5)] [(.ref r0)]))
  obtain ⟨T1, X1, e1, st1⟩ := initO X0c hx hZ0 hown0 (hw _ (List.mem_of_getElem? (i := 30) rfl)) (hw _ (List.mem_of_getElem? (i := 31) rfl)) (hw _ (List.mem_of_getElem? (i := 32) rfl)) e0 (g := (mkF m 1 #[.val (.ref r0), .val (.ref r1), .val (.ref r2), .val (.long q3), .second, .val (.ref r4), .val (.ref r5)] [(.ref r0)])) rfl (by rw [hml]; rfl) rfl (hb hby own_d6_1) (by decide) (W := 0) (by show 2 * 0 + _ ≤ _; exact Nat.le_of_eq rfl) (by decide)
  refine Good.back st1 ?_
  show Good p e below _ (T1.setTop (mkF m 4 #[.val (.ref r0), .val (.ref r1), .val (.ref r2), .val (.long q3), .second, .val (.ref r4), .val (.ref r5)] []))
  refine Good.back (fun _ k => XS.aloadN X1.here hx rfl (hb hby own_d6_4) rfl rfl k) ?_
  show Good p e below _ (T1.setTop (mkF m 5 #[.val (.ref r0), .val (.ref r1), .val (.ref r2), .val (.long q3), .second, .val (.ref r4), .val (.ref r5)] [(.ref r0)]))
  refine Good.back (fun _ k => XS.aloadN X1.here hx rfl (hb hby own_d6_5) rfl rfl k) ?_
  show Good p e below _ (T1.setTop (mkF m 6 #[.val (.ref r0), .val (.ref r1), .val (.ref r2), .val (.long q3), .second, .val (.ref r4), .val (.ref r5)] [(.ref r1), (.ref r0)]))
  obtain ⟨a2, T2, h2, kc2, X2, e2, E2, hS2, hk2, hZ2, hown2, Cc2, -, st2⟩ := ldcOH X1 hx hZ0 hown0 (hw _ (List.mem_of_getElem? (i := 33) rfl)) (own_wS hw) e1 hS0 hk0 (own_EW hw) C0.1 (g := (mkF m 6 #[.val (.ref r0), .val (.ref r1), .val (.ref r2), .val (.long q3), .second, .val (.ref r4), .val (.ref r5)] [(.ref r1), (.ref r0)])) rfl (hb hby own_d6_6) (n := 24) (by decide +kernel) (by decide) (by decide) (by decide)
  refine Good.back st2 ?_
  have C2 := C0.trans Cc2
  have Z3 : n0 ≤ h2.size := Nat.le_trans Z0 E2.1
  have hk4 := Nat.le_trans hk0 E2.1
  have K5 : Keep h0 h2 [r0] := KR.ext E2
  show Good p e below _ (T2.setTop (mkF m 8 #[.val (.ref r0), .val (.ref r1), .val (.ref r2), .val (.long q3), .second, .val (.ref r4), .val (.ref r5)] [(.ref a2), (.ref r1), (.ref r0)]))
  obtain ⟨_, _, ⟨T6, L6, k6, n6⟩, -, X6, ⟨Lc6, hQ6, l6, y6, z6⟩, st6⟩ := Jvm.LawKit.callS X2 hx (y := (⟨"java/util/Objects", "requireNonNull", "(Ljava/lang/Object;Ljava/lang/String;)Ljava/lang/Object;"⟩ : MethodName)) hown2 (mvT hZ2 (hw _ (List.mem_of_getElem? (i := 34) rfl))) (mvT hZ2 (hw _ (List.mem_of_getElem? (i := 35) rfl))) (mvT hZ2 (hw _ (List.mem_of_getElem? (i := 36) rfl))) (mvT hZ2 (hw _ (List.mem_of_getElem? (i := 37) rfl))) (by decide) (backOf (W := 1) (rm8 l Z a0 hw [] r1 a2  h2 n0 Z3 ) hZ2 (hw _ (List.mem_of_getElem? (i := 37) rfl)) (hw _ (List.mem_of_getElem? (i := 36) rfl)) (by decide) (by decide)) (g := (mkF m 8 #[.val (.ref r0), .val (.ref r1), .val (.ref r2), .val (.long q3), .second, .val (.ref r4), .val (.ref r5)] [(.ref a2), (.ref r1), (.ref r0)])) rfl (by rw [hml]; rfl) (argsL := [(.ref r1), (.ref a2)]) (rest := [(.ref r0)]) (lenOf own_pd165 rfl) rfl (by show 2 * 0 + _ ≤ _; exact Nat.le_of_eq rfl) (hb hby own_d6_8) (fun _ _ => ⟨rfl, e2, (by decide : 2 + 0 ≤ _), (by decide : 28 + 0 ≤ _)⟩)
  dsimp only [Pt.U, Pt.locs, Pt.cells, Pt.slots] at X6 l6 y6 z6 st6 hQ6
  subst l6 y6 z6
  obtain ⟨rfl, N6q, eh6⟩ := hQ6
  have N6 := Fr.app N0 N6q
  refine Good.back st6 ?_
  show Good p e below _ (T6.setTop (mkF m 11 #[.val (.ref r0), .val (.ref r1), .val (.ref r2), .val (.long q3), .second, .val (.ref r4), .val (.ref r5)] [(.ref r1), (.ref r0)]))
  have f_7 : Exa Z h2 r1 "java/lang/String" := Exa.ext E2 E_r1
  obtain ⟨T8, X8, e8, st8⟩ := castY X6 hx hZ2 hown2 (hw _ (List.mem_of_getElem? (i := 38) rfl)) eh6 (Ins.self f_7) (g := (mkF m 11 #[.val (.ref r0), .val (.ref r1), .val (.ref r2), .val (.long q3), .second, .val (.ref r4), .val (.ref r5)] [(.ref r1), (.ref r0)])) rfl rfl (hb hby own_d6_11)
  refine Good.back st8 ?_
  show Good p e below _ (T8.setTop (mkF m 14 #[.val (.ref r0), .val (.ref r1), .val (.ref r2), .val (.long q3), .second, .val (.ref r4), .val (.ref r5)] [(.ref r1), (.ref r0)]))
  have f_9 : Fld Z h2 r0 "com/example/orderd/orderd/order/GameOrder" "number" "Ljava/lang/String;" .null := Fld.ext E2 F_number
  have f_10 : Exa Z h2 r0 "com/example/orderd/orderd/order/GameOrder" := Exa.ext E2 E0
  obtain ⟨T11, h11, X11, e11, W11, st11⟩ := putF X8 hx hZ2 hown2 (host := "") (Or.inl (hw _ (List.mem_of_getElem? (i := 40) rfl))) Via.refl e8 f_9 f_10 (Or.inr ⟨(hw _ (List.mem_of_getElem? (i := 41) rfl)), rfl, hnm⟩) (hw _ (List.mem_of_getElem? (i := 25) rfl)) (ty := (.object "java/lang/String")) (by decide) rfl rfl (g := (mkF m 14 #[.val (.ref r0), .val (.ref r1), .val (.ref r2), .val (.long q3), .second, .val (.ref r4), .val (.ref r5)] [(.ref r1), (.ref r0)])) rfl rfl (hb hby own_d6_14)
  refine Good.back st11 ?_
  have f_12 : Fld Z h11 r0 "com/example/orderd/orderd/order/GameOrder" "number" "Ljava/lang/String;" (.ref r1) := Fld.same W11 f_9
  have N11 := Fr.snoc X11 N6 g0
  have Z13 : n0 ≤ h11.size := Nat.le_trans Z3 (Keep.of_wr W11).1
  have hk14 := Nat.le_trans hk2 (Keep.of_wr W11).1
  have K15 : Keep h0 h11 [r0] := K5.wr W11 (Or.inl (List.mem_of_getElem? (i := 0) rfl))
  show Good p e below _ (T11.setTop (mkF m 17 #[.val (.ref r0), .val (.ref r1), .val (.ref r2), .val (.long q3), .second, .val (.ref r4), .val (.ref r5)] []))
  refine Good.back (fun _ k => XS.aloadN X11.here hx rfl (hb hby own_d6_17) rfl rfl k) ?_
  show Good p e below _ (T11.setTop (mkF m 18 #[.val (.ref r0), .val (.ref r1), .val (.ref r2), .val (.long q3), .second, .val (.ref r4), .val (.ref r5)] [(.ref r0)]))
  refine Good.back (fun _ k => XS.aloadN X11.here hx rfl (hb hby own_d6_18) rfl rfl k) ?_
  show Good p e below _ (T11.setTop (mkF m 19 #[.val (.ref r0), .val (.ref r1), .val (.ref r2), .val (.long q3), .second, .val (.ref r4), .val (.ref r5)] [(.ref r2), (.ref r0)]))
  have C16 := C2.trans (CHr.wr W11 (Safe.exa hZ2.alike f_10 (by decide) (by decide)) C2.1)
  obtain ⟨a17, T17, h17, kc17, X17, e17, E17, hS17, hk17, hZ17, hown17, Cc17, -, st17⟩ := ldcOH X11 hx hZ2 hown2 (hw _ (List.mem_of_getElem? (i := 42) rfl)) (own_wS hw) e11 hS2 hk14 (own_EW hw) C16.1 (g := (mkF m 19 #[.val (.ref r0), .val (.ref r1), .val (.ref r2), .val (.long q3), .second, .val (.ref r4), .val (.ref r5)] [(.ref r2), (.ref r0)])) rfl (hb hby own_d6_19) (n := 28) (by decide +kernel) (by decide) (by decide) (by decide)
  refine Good.back st17 ?_
  have C17 := C16.trans Cc17
  have Z18 : n0 ≤ h17.size := Nat.le_trans Z13 E17.1
  have hk19 := Nat.le_trans hk14 E17.1
  have K20 : Keep h0 h17 [r0] := K15.ext E17
  show Good p e below _ (T17.setTop (mkF m 21 #[.val (.ref r0), .val (.ref r1), .val (.ref r2), .val (.long q3), .second, .val (.ref r4), .val (.ref r5)] [(.ref a17), (.ref r2), (.ref r0)]))
  obtain ⟨_, _, ⟨T21, L21, k21, n21⟩, -, X21, ⟨Lc21, hQ21, l21, y21, z21⟩, st21⟩ := Jvm.LawKit.callS X17 hx (y := (⟨"java/util/Objects", "requireNonNull", "(Ljava/lang/Object;Ljava/lang/String;)Ljava/lang/Object;"⟩ : MethodName)) hown17 (mvT hZ17 (hw _ (List.mem_of_getElem? (i := 34) rfl))) (mvT hZ17 (hw _ (List.mem_of_getElem? (i := 35) rfl))) (mvT hZ17 (hw _ (List.mem_of_getElem? (i := 36) rfl))) (mvT hZ17 (hw _ (List.mem_of_getElem? (i := 37) rfl))) (by decide) (backOf (W := 1) (rm8 l Z a0 hw [] r2 a17  h17 n0 Z18 ) hZ17 (hw _ (List.mem_of_getElem? (i := 37) rfl)) (hw _ (List.mem_of_getElem? (i := 36) rfl)) (by decide) (by decide)) (g := (mkF m 21 #[.val (.ref r0), .val (.ref r1), .val (.ref r2), .val (.long q3), .second, .val (.ref r4), .val (.ref r5)] [(.ref a17), (.ref r2), (.ref r0)])) rfl (by rw [hml]; rfl) (argsL := [(.ref r2), (.ref a17)]) (rest := [(.ref r0)]) (lenOf own_pd165 rfl) rfl (by show 2 * 0 + _ ≤ _; exact Nat.le_of_eq rfl) (hb hby own_d6_21) (fun _ _ => ⟨rfl, e17, (by decide : 4 + 0 ≤ _), (by decide : 60 + 0 ≤ _)⟩)
  dsimp only [Pt.U, Pt.locs, Pt.cells, Pt.slots] at X21 l21 y21 z21 st21 hQ21
  subst l21 y21 z21
  obtain ⟨rfl, N21q, eh21⟩ := hQ21
  have N21 := Fr.app N11 N21q
  refine Good.back st21 ?_
  show Good p e below _ (T21.setTop (mkF m 24 #[.val (.ref r0), .val (.ref r1), .val (.ref r2), .val (.long q3), .second, .val (.ref r4), .val (.ref r5)] [(.ref r2), (.ref r0)]))
  have f_22 : Exa Z h2 r2 "java/lang/String" := Exa.ext E2 E_r2
  have f_23 : Exa Z h11 r2 "java/lang/String" := Exa.wr W11 f_22
  have f_24 : Exa Z h17 r2 "java/lang/String" := Exa.ext E17 f_23
  obtain ⟨T25, X25, e25, st25⟩ := castY X21 hx hZ17 hown17 (hw _ (List.mem_of_getElem? (i := 38) rfl)) eh21 (Ins.self f_24) (g := (mkF m 24 #[.val (.ref r0), .val (.ref r1), .val (.ref r2), .val (.long q3), .second, .val (.ref r4), .val (.ref r5)] [(.ref r2), (.ref r0)])) rfl rfl (hb hby own_d6_24)
  refine Good.back st25 ?_
  show Good p e below _ (T25.setTop (mkF m 27 #[.val (.ref r0), .val (.ref r1), .val (.ref r2), .val (.long q3), .second, .val (.ref r4), .val (.ref r5)] [(.ref r2), (.ref r0)]))
  have f_26 : Fld Z h2 r0 "com/example/orderd/orderd/order/GameOrder" "product" "Ljava/lang/String;" .null := Fld.ext E2 F_product
  have f_27 : Fld Z h11 r0 "com/example/orderd/orderd/order/GameOrder" "product" "Ljava/lang/String;" .null := Fld.other W11 f_26 (Or.inr (slot_ne (Or.inr (hw _ (List.mem_of_getElem? (i := 44) rfl))) (Or.inr (hw _ (List.mem_of_getElem? (i := 41) rfl))) (by decide) (t := (.object "java/lang/String")) (t' := (.object "java/lang/String")) (by decide) (by decide)))
  have f_28 : Fld Z h17 r0 "com/example/orderd/orderd/order/GameOrder" "product" "Ljava/lang/String;" .null := Fld.ext E17 f_27
  have f_29 : Exa Z h11 r0 "com/example/orderd/orderd/order/GameOrder" := Exa.wr W11 f_10
  have f_30 : Exa Z h17 r0 "com/example/orderd/orderd/order/GameOrder" := Exa.ext E17 f_29
  obtain ⟨T31, h31, X31, e31, W31, st31⟩ := putF X25 hx hZ17 hown17 (host := "") (Or.inl (hw _ (List.mem_of_getElem? (i := 43) rfl))) Via.refl e25 f_28 f_30 (Or.inr ⟨(hw _ (List.mem_of_getElem? (i := 44) rfl)), rfl, hnm⟩) (hw _ (List.mem_of_getElem? (i := 25) rfl)) (ty := (.object "java/lang/String")) (by decide) rfl rfl (g := (mkF m 27 #[.val (.ref r0), .val (.ref r1), .val (.ref r2), .val (.long q3), .second, .val (.ref r4), .val (.ref r5)] [(.ref r2), (.ref r0)])) rfl rfl (hb hby own_d6_27)
  refine Good.back st31 ?_
  have f_32 : Fld Z h31 r0 "com/example/orderd/orderd/order/GameOrder" "product" "Ljava/lang/String;" (.ref r2) := Fld.same W31 f_28
  have N31 := Fr.snoc X31 N21 g0
  have Z33 : n0 ≤ h31.size := Nat.le_trans Z18 (Keep.of_wr W31).1
  have hk34 := Nat.le_trans hk17 (Keep.of_wr W31).1
  have K35 : Keep h0 h31 [r0] := K20.wr W31 (Or.inl (List.mem_of_getElem? (i := 0) rfl))
  show Good p e below _ (T31.setTop (mkF m 30 #[.val (.ref r0), .val (.ref r1), .val (.ref r2), .val (.long q3), .second, .val (.ref r4), .val (.ref r5)] []))
  refine Good.back (fun _ k => XS.aloadN X31.here hx rfl (hb hby own_d6_30) rfl rfl k) ?_
  show Good p e below _ (T31.setTop (mkF m 31 #[.val (.ref r0), .val (.ref r1), .val (.ref r2), .val (.long q3), .second, .val (.ref r4), .val (.ref r5)] [(.ref r0)]))
  refine Good.back (fun _ k => XS.lloadN X31.here hx rfl (hb hby own_d6_31) rfl k) ?_
  show Good p e below _ (T31.setTop (mkF m 32 #[.val (.ref r0), .val (.ref r1), .val (.ref r2), .val (.long q3), .second, .val (.ref r4), .val (.ref r5)] [(.long q3), (.ref r0)]))
  have f_36 : Fld Z h2 r0 "com/example/orderd/orderd/order/GameOrder" "amount" "J" (.long (0 : Int64)) := Fld.ext E2 F_am
  have f_37 : Fld Z h11 r0 "com/example/orderd/orderd/order/GameOrder" "amount" "J" (.long (0 : Int64)) := Fld.other W11 f_36 (Or.inr (slot_ne (Or.inr (hw _ (List.mem_of_getElem? (i := 46) rfl))) (Or.inr (hw _ (List.mem_of_getElem? (i := 41) rfl))) (by decide) (t := .long) (t' := (.object "java/lang/String")) (by decide) (by decide)))
  have f_38 : Fld Z h17 r0 "com/example/orderd/orderd/order/GameOrder" "amount" "J" (.long (0 : Int64)) := Fld.ext E17 f_37
  have f_39 : Fld Z h31 r0 "com/example/orderd/orderd/order/GameOrder" "amount" "J" (.long (0 : Int64)) := Fld.other W31 f_38 (Or.inr (slot_ne (Or.inr (hw _ (List.mem_of_getElem? (i := 46) rfl))) (Or.inr (hw _ (List.mem_of_getElem? (i := 44) rfl))) (by decide) (t := .long) (t' := (.object "java/lang/String")) (by decide) (by decide)))
  have f_40 : Exa Z h31 r0 "com/example/orderd/orderd/order/GameOrder" := Exa.wr W31 f_30
  obtain ⟨T41, h41, X41, e41, W41, st41⟩ := putF X31 hx hZ17 hown17 (host := "") (Or.inl (hw _ (List.mem_of_getElem? (i := 45) rfl))) Via.refl e31 f_39 f_40 (Or.inr ⟨(hw _ (List.mem_of_getElem? (i := 46) rfl)), rfl, hnm⟩) (hw _ (List.mem_of_getElem? (i := 25) rfl)) (ty := .long) (by decide) rfl rfl (g := (mkF m 32 #[.val (.ref r0), .val (.ref r1), .val (.ref r2), .val (.long q3), .second, .val (.ref r4), .val (.ref r5)] [(.long q3), (.ref r0)])) rfl rfl (hb hby own_d6_32)
  refine Good.back st41 ?_
  have f_42 : Fld Z h41 r0 "com/example/orderd/orderd/order/GameOrder" "amount" "J" (.long q3) := Fld.same W41 f_39
  have N41 := Fr.snoc X41 N31 g0
  have Z43 : n0 ≤ h41.size := Nat.le_trans Z33 (Keep.of_wr W41).1
  have hk44 := Nat.le_trans hk34 (Keep.of_wr W41).1
  have K45 : Keep h0 h41 [r0] := K35.wr W41 (Or.inl (List.mem_of_getElem? (i := 0) rfl))
  show Good p e below _ (T41.setTop (mkF m 35 #[.val (.ref r0), .val (.ref r1), .val (.ref r2), .val (.long q3), .second, .val (.ref r4), .val (.ref r5)] []))
  refine Good.back (fun _ k => XS.aloadN X41.here hx rfl (hb hby own_d6_35) rfl rfl k) ?_
  show Good p e below _ (T41.setTop (mkF m 36 #[.val (.ref r0), .val (.ref r1), .val (.ref r2), .val (.long q3), .second, .val (.ref r4), .val (.ref r5)] [(.ref r0)]))
  refine Good.back (fun _ k => XS.aload X41.here hx rfl (hb hby own_d6_36) rfl rfl k) ?_
  show Good p e below _ (T41.setTop (mkF m 38 #[.val (.ref r0), .val (.ref r1), .val (.ref r2), .val (.long q3), .second, .val (.ref r4), .val (.ref r5)] [(.ref r4), (.ref r0)]))
  have C46 := C17.trans (CHr.wr W31 (Safe.exa hZ17.alike f_30 (by decide) (by decide)) C17.1)
  have C47 := C46.trans (CHr.wr W41 (Safe.exa hZ17.alike f_40 (by decide) (by decide)) C46.1)
  obtain ⟨a48, T48, h48, kc48, X48, e48, E48, hS48, hk48, hZ48, hown48, Cc48, -, st48⟩ := ldcOH X41 hx hZ17 hown17 (hw _ (List.mem_of_getElem? (i := 47) rfl)) (own_wS hw) e41 hS17 hk44 (own_EW hw) C47.1 (g := (mkF m 38 #[.val (.ref r0), .val (.ref r1), .val (.ref r2), .val (.long q3), .second, .val (.ref r4), .val (.ref r5)] [(.ref r4), (.ref r0)])) rfl (hb hby own_d6_38) (n := 32) (by decide +kernel) (by decide) (by decide) (by decide)
  refine Good.back st48 ?_
  have C48 := C47.trans Cc48
  have Z49 : n0 ≤ h48.size := Nat.le_trans Z43 E48.1
  have hk50 := Nat.le_trans hk44 E48.1
  have K51 : Keep h0 h48 [r0] := K45.ext E48
  show Good p e below _ (T48.setTop (mkF m 40 #[.val (.ref r0), .val (.ref r1), .val (.ref r2), .val (.long q3), .second, .val (.ref r4), .val (.ref r5)] [(.ref a48), (.ref r4), (.ref r0)]))
  obtain ⟨_, _, ⟨T52, L52, k52, n52⟩, -, X52, ⟨Lc52, hQ52, l52, y52, z52⟩, st52⟩ := Jvm.LawKit.callS X48 hx (y := (⟨"java/util/Objects", "requireNonNull", "(Ljava/lang/Object;Ljava/lang/String;)Ljava/lang/Object;"⟩ : MethodName)) hown48 (mvT hZ48 (hw _ (List.mem_of_getElem? (i := 34) rfl))) (mvT hZ48 (hw _ (List.mem_of_getElem? (i := 35) rfl))) (mvT hZ48 (hw _ (List.mem_of_getElem? (i := 36) rfl))) (mvT hZ48 (hw _ (List.mem_of_getElem? (i := 37) rfl))) (by decide) (backOf (W := 1) (rm8 l Z a0 hw [] r4 a48  h48 n0 Z49 ) hZ48 (hw _ (List.mem_of_getElem? (i := 37) rfl)) (hw _ (List.mem_of_getElem? (i := 36) rfl)) (by decide) (by decide)) (g := (mkF m 40 #[.val (.ref r0), .val (.ref r1), .val (.ref r2), .val (.long q3), .second, .val (.ref r4), .val (.ref r5)] [(.ref a48), (.ref r4), (.ref r0)])) rfl (by rw [hml]; rfl) (argsL := [(.ref r4), (.ref a48)]) (rest := [(.ref r0)]) (lenOf own_pd165 rfl) rfl (by show 2 * 0 + _ ≤ _; exact Nat.le_of_eq rfl) (hb hby own_d6_40) (fun _ _ => ⟨rfl, e48, (by decide : 6 + 0 ≤ _), (by decide : 96 + 0 ≤ _)⟩)
  dsimp only [Pt.U, Pt.locs, Pt.cells, Pt.slots] at X52 l52 y52 z52 st52 hQ52
  subst l52 y52 z52
  obtain ⟨rfl, N52q, eh52⟩ := hQ52
  have N52 := Fr.app N41 N52q
  refine Good.back st52 ?_
  show Good p e below _ (T52.setTop (mkF m 43 #[.val (.ref r0), .val (.ref r1), .val (.ref r2), .val (.long q3), .second, .val (.ref r4), .val (.ref r5)] [(.ref r4), (.ref r0)]))
  have f_53 : Exa Z h2 r4 "java/lang/String" := Exa.ext E2 E_r4
  have f_54 : Exa Z h11 r4 "java/lang/String" := Exa.wr W11 f_53
  have f_55 : Exa Z h17 r4 "java/lang/String" := Exa.ext E17 f_54
  have f_56 : Exa Z h31 r4 "java/lang/String" := Exa.wr W31 f_55
  have f_57 : Exa Z h41 r4 "java/lang/String" := Exa.wr W41 f_56
  have f_58 : Exa Z h48 r4 "java/lang/String" := Exa.ext E48 f_57
  obtain ⟨T59, X59, e59, st59⟩ := castY X52 hx hZ48 hown48 (hw _ (List.mem_of_getElem? (i := 38) rfl)) eh52 (Ins.self f_58) (g := (mkF m 43 #[.val (.ref r0), .val (.ref r1), .val (.ref r2), .val (.long q3), .second, .val (.ref r4), .val (.ref r5)] [(.ref r4), (.ref r0)])) rfl rfl (hb hby own_d6_43)
  refine Good.back st59 ?_
  show Good p e below _ (T59.setTop (mkF m 46 #[.val (.ref r0), .val (.ref r1), .val (.ref r2), .val (.long q3), .second, .val (.ref r4), .val (.ref r5)] [(.ref r4), (.ref r0)]))
  have f_60 : Fld Z h2 r0 "com/example/orderd/orderd/order/GameOrder" "currency" "Ljava/lang/String;" .null := Fld.ext E2 F_currency
  have f_61 : Fld Z h11 r0 "com/example/orderd/orderd/order/GameOrder" "currency" "Ljava/lang/String;" .null := Fld.other W11 f_60 (Or.inr (slot_ne (Or.inr (hw _ (List.mem_of_getElem? (i := 49) rfl))) (Or.inr (hw _ (List.mem_of_getElem? (i := 41) rfl))) (by decide) (t := (.object "java/lang/String")) (t' := (.object "java/lang/String")) (by decide) (by decide)))
  have f_62 : Fld Z h17 r0 "com/example/orderd/orderd/order/GameOrder" "currency" "Ljava/lang/String;" .null := Fld.ext E17 f_61
  have f_63 : Fld Z h31 r0 "com/example/orderd/orderd/order/GameOrder" "currency" "Ljava/lang/String;" .null := Fld.other W31 f_62 (Or.inr (slot_ne (Or.inr (hw _ (List.mem_of_getElem? (i := 49) rfl))) (Or.inr (hw _ (List.mem_of_getElem? (i := 44) rfl))) (by decide) (t := (.object "java/lang/String")) (t' := (.object "java/lang/String")) (by decide) (by decide)))
  have f_64 : Fld Z h41 r0 "com/example/orderd/orderd/order/GameOrder" "currency" "Ljava/lang/String;" .null := Fld.other W41 f_63 (Or.inr (slot_ne (Or.inr (hw _ (List.mem_of_getElem? (i := 49) rfl))) (Or.inr (hw _ (List.mem_of_getElem? (i := 46) rfl))) (by decide) (t := (.object "java/lang/String")) (t' := .long) (by decide) (by decide)))
  have f_65 : Fld Z h48 r0 "com/example/orderd/orderd/order/GameOrder" "currency" "Ljava/lang/String;" .null := Fld.ext E48 f_64
  have f_66 : Exa Z h41 r0 "com/example/orderd/orderd/order/GameOrder" := Exa.wr W41 f_40
  have f_67 : Exa Z h48 r0 "com/example/orderd/orderd/order/GameOrder" := Exa.ext E48 f_66
  obtain ⟨T68, h68, X68, e68, W68, st68⟩ := putF X59 hx hZ48 hown48 (host := "") (Or.inl (hw _ (List.mem_of_getElem? (i := 48) rfl))) Via.refl e59 f_65 f_67 (Or.inr ⟨(hw _ (List.mem_of_getElem? (i := 49) rfl)), rfl, hnm⟩) (hw _ (List.mem_of_getElem? (i := 25) rfl)) (ty := (.object "java/lang/String")) (by decide) rfl rfl (g := (mkF m 46 #[.val (.ref r0), .val (.ref r1), .val (.ref r2), .val (.long q3), .second, .val (.ref r4), .val (.ref r5)] [(.ref r4), (.ref r0)])) rfl rfl (hb hby own_d6_46)
  refine Good.back st68 ?_
  have f_69 : Fld Z h68 r0 "com/example/orderd/orderd/order/GameOrder" "currency" "Ljava/lang/String;" (.ref r4) := Fld.same W68 f_65
  have N68 := Fr.snoc X68 N52 g0
  have Z70 : n0 ≤ h68.size := Nat.le_trans Z49 (Keep.of_wr W68).1
  have hk71 := Nat.le_trans hk48 (Keep.of_wr W68).1
  have K72 : Keep h0 h68 [r0] := K51.wr W68 (Or.inl (List.mem_of_getElem? (i := 0) rfl))
  show Good p e below _ (T68.setTop (mkF m 49 #[.val (.ref r0), .val (.ref r1), .val (.ref r2), .val (.long q3), .second, .val (.ref r4), .val (.ref r5)] []))
  refine Good.back (fun _ k => XS.aloadN X68.here hx rfl (hb hby own_d6_49) rfl rfl k) ?_
  show Good p e below _ (T68.setTop (mkF m 50 #[.val (.ref r0), .val (.ref r1), .val (.ref r2), .val (.long q3), .second, .val (.ref r4), .val (.ref r5)] [(.ref r0)]))
  refine Good.back (fun _ k => XS.aload X68.here hx rfl (hb hby own_d6_50) rfl rfl k) ?_
  show Good p e below _ (T68.setTop (mkF m 52 #[.val (.ref r0), .val (.ref r1), .val (.ref r2), .val (.long q3), .second, .val (.ref r4), .val (.ref r5)] [(.ref r5), (.ref r0)]))
  have C73 := C48.trans (CHr.wr W68 (Safe.exa hZ48.alike f_67 (by decide) (by decide)) C48.1)
  obtain ⟨a74, T74, h74, kc74, X74, e74, E74, hS74, hk74, hZ74, hown74, Cc74, -, st74⟩ := ldcOH X68 hx hZ48 hown48 (hw _ (List.mem_of_getElem? (i := 50) rfl)) (own_wS hw) e68 hS48 hk71 (own_EW hw) C73.1 (g := (mkF m 52 #[.val (.ref r0), .val (.ref r1), .val (.ref r2), .val (.long q3), .second, .val (.ref r4), .val (.ref r5)] [(.ref r5), (.ref r0)])) rfl (hb hby own_d6_52) (n := 16) (by decide +kernel) (by decide) (by decide) (by decide)
  refine Good.back st74 ?_
  have C74 := C73.trans Cc74
  have Z75 : n0 ≤ h74.size := Nat.le_trans Z70 E74.1
  have hk76 := Nat.le_trans hk71 E74.1
  have K77 : Keep h0 h74 [r0] := K72.ext E74
  show Good p e below _ (T74.setTop (mkF m 54 #[.val (.ref r0), .val (.ref r1), .val (.ref r2), .val (.long q3), .second, .val (.ref r4), .val (.ref r5)] [(.ref a74), (.ref r5), (.ref r0)]))
  obtain ⟨_, _, ⟨T78, L78, k78, n78⟩, -, X78, ⟨Lc78, hQ78, l78, y78, z78⟩, st78⟩ := Jvm.LawKit.callS X74 hx (y := (⟨"java/util/Objects", "requireNonNull", "(Ljava/lang/Object;Ljava/lang/String;)Ljava/lang/Object;"⟩ : MethodName)) hown74 (mvT hZ74 (hw _ (List.mem_of_getElem? (i := 34) rfl))) (mvT hZ74 (hw _ (List.mem_of_getElem? (i := 35) rfl))) (mvT hZ74 (hw _ (List.mem_of_getElem? (i := 36) rfl))) (mvT hZ74 (hw _ (List.mem_of_getElem? (i := 37) rfl))) (by decide) (backOf (W := 1) (rm8 l Z a0 hw [] r5 a74  h74 n0 Z75 ) hZ74 (hw _ (List.mem_of_getElem? (i := 37) rfl)) (hw _ (List.mem_of_getElem? (i := 36) rfl)) (by decide) (by decide)) (g := (mkF m 54 #[.val (.ref r0), .val (.ref r1), .val (.ref r2), .val (.long q3), .second, .val (.ref r4), .val (.ref r5)] [(.ref a74), (.ref r5), (.ref r0)])) rfl (by rw [hml]; rfl) (argsL := [(.ref r5), (.ref a74)]) (rest := [(.ref r0)]) (lenOf own_pd165 rfl) rfl (by show 2 * 0 + _ ≤ _; exact Nat.le_of_eq rfl) (hb hby own_d6_54) (fun _ _ => ⟨rfl, e74, (by decide : 8 + 0 ≤ _), (by decide : 116 + 0 ≤ _)⟩)
  dsimp only [Pt.U, Pt.locs, Pt.cells, Pt.slots] at X78 l78 y78 z78 st78 hQ78
  subst l78 y78 z78
  obtain ⟨rfl, N78q, eh78⟩ := hQ78
  have N78 := Fr.app N68 N78q
  refine Good.back st78 ?_
  show Good p e below _ (T78.setTop (mkF m 57 #[.val (.ref r0), .val (.ref r1), .val (.ref r2), .val (.long q3), .second, .val (.ref r4), .val (.ref r5)] [(.ref r5), (.ref r0)]))
  have f_79 : Exa Z h2 r5 "java/lang/String" := Exa.ext E2 E_r5
  have f_80 : Exa Z h11 r5 "java/lang/String" := Exa.wr W11 f_79
  have f_81 : Exa Z h17 r5 "java/lang/String" := Exa.ext E17 f_80
  have f_82 : Exa Z h31 r5 "java/lang/String" := Exa.wr W31 f_81
  have f_83 : Exa Z h41 r5 "java/lang/String" := Exa.wr W41 f_82
  have f_84 : Exa Z h48 r5 "java/lang/String" := Exa.ext E48 f_83
  have f_85 : Exa Z h68 r5 "java/lang/String" := Exa.wr W68 f_84
  have f_86 : Exa Z h74 r5 "java/lang/String" := Exa.ext E74 f_85
  obtain ⟨T87, X87, e87, st87⟩ := castY X78 hx hZ74 hown74 (hw _ (List.mem_of_getElem? (i := 38) rfl)) eh78 (Ins.self f_86) (g := (mkF m 57 #[.val (.ref r0), .val (.ref r1), .val (.ref r2), .val (.long q3), .second, .val (.ref r4), .val (.ref r5)] [(.ref r5), (.ref r0)])) rfl rfl (hb hby own_d6_57)
  refine Good.back st87 ?_
  show Good p e below _ (T87.setTop (mkF m 60 #[.val (.ref r0), .val (.ref r1), .val (.ref r2), .val (.long q3), .second, .val (.ref r4), .val (.ref r5)] [(.ref r5), (.ref r0)]))
  have f_88 : Fld Z h2 r0 "com/example/orderd/orderd/order/GameOrder" "role" "Ljava/lang/String;" .null := Fld.ext E2 F_role
  have f_89 : Fld Z h11 r0 "com/example/orderd/orderd/order/GameOrder" "role" "Ljava/lang/String;" .null := Fld.other W11 f_88 (Or.inr (slot_ne (Or.inr (hw _ (List.mem_of_getElem? (i := 52) rfl))) (Or.inr (hw _ (List.mem_of_getElem? (i := 41) rfl))) (by decide) (t := (.object "java/lang/String")) (t' := (.object "java/lang/String")) (by decide) (by decide)))
  have f_90 : Fld Z h17 r0 "com/example/orderd/orderd/order/GameOrder" "role" "Ljava/lang/String;" .null := Fld.ext E17 f_89
  have f_91 : Fld Z h31 r0 "com/example/orderd/orderd/order/GameOrder" "role" "Ljava/lang/String;" .null := Fld.other W31 f_90 (Or.inr (slot_ne (Or.inr (hw _ (List.mem_of_getElem? (i := 52) rfl))) (Or.inr (hw _ (List.mem_of_getElem? (i := 44) rfl))) (by decide) (t := (.object "java/lang/String")) (t' := (.object "java/lang/String")) (by decide) (by decide)))
  have f_92 : Fld Z h41 r0 "com/example/orderd/orderd/order/GameOrder" "role" "Ljava/lang/String;" .null := Fld.other W41 f_91 (Or.inr (slot_ne (Or.inr (hw _ (List.mem_of_getElem? (i := 52) rfl))) (Or.inr (hw _ (List.mem_of_getElem? (i := 46) rfl))) (by decide) (t := (.object "java/lang/String")) (t' := .long) (by decide) (by decide)))
  have f_93 : Fld Z h48 r0 "com/example/orderd/orderd/order/GameOrder" "role" "Ljava/lang/String;" .null := Fld.ext E48 f_92
  have f_94 : Fld Z h68 r0 "com/example/orderd/orderd/order/GameOrder" "role" "Ljava/lang/String;" .null := Fld.other W68 f_93 (Or.inr (slot_ne (Or.inr (hw _ (List.mem_of_getElem? (i := 52) rfl))) (Or.inr (hw _ (List.mem_of_getElem? (i := 49) rfl))) (by decide) (t := (.object "java/lang/String")) (t' := (.object "java/lang/String")) (by decide) (by decide)))
  have f_95 : Fld Z h74 r0 "com/example/orderd/orderd/order/GameOrder" "role" "Ljava/lang/String;" .null := Fld.ext E74 f_94
  have f_96 : Exa Z h68 r0 "com/example/orderd/orderd/order/GameOrder" := Exa.wr W68 f_67
  have f_97 : Exa Z h74 r0 "com/example/orderd/orderd/order/GameOrder" := Exa.ext E74 f_96
  obtain ⟨T98, h98, X98, e98, W98, st98⟩ := putF X87 hx hZ74 hown74 (host := "") (Or.inl (hw _ (List.mem_of_getElem? (i := 51) rfl))) Via.refl e87 f_95 f_97 (Or.inr ⟨(hw _ (List.mem_of_getElem? (i := 52) rfl)), rfl, hnm⟩) (hw _ (List.mem_of_getElem? (i := 25) rfl)) (ty := (.object "java/lang/String")) (by decide) rfl rfl (g := (mkF m 60 #[.val (.ref r0), .val (.ref r1), .val (.ref r2), .val (.long q3), .second, .val (.ref r4), .val (.ref r5)] [(.ref r5), (.ref r0)])) rfl rfl (hb hby own_d6_60)
  refine Good.back st98 ?_
  have f_99 : Fld Z h98 r0 "com/example/orderd/orderd/order/GameOrder" "role" "Ljava/lang/String;" (.ref r5) := Fld.same W98 f_95
  have N98 := Fr.snoc X98 N78 g0
  have Z100 : n0 ≤ h98.size := Nat.le_trans Z75 (Keep.of_wr W98).1
  have hk101 := Nat.le_trans hk74 (Keep.of_wr W98).1
  have K102 : Keep h0 h98 [r0] := K77.wr W98 (Or.inl (List.mem_of_getElem? (i := 0) rfl))
  show Good p e below _ (T98.setTop (mkF m 63 #[.val (.ref r0), .val (.ref r1), .val (.ref r2), .val (.long q3), .second, .val (.ref r4), .val (.ref r5)] []))
  obtain ⟨fs103, hr103, hrun103, hended103, hRE103⟩ := leaveW X98 hS74 (by rw [e98]; exact hk101) (v := none) (fun _ => rfl)
  have C104 := C74.trans (CHr.wr W98 (Safe.exa hZ74.alike f_97 (by decide) (by decide)) C74.1)
  have hCH103 : CHr Z own_EL s.vm s.heap T98.vm T98.heap := by rw [hh, e98]; exact C104.trans (CHv.at X98 hZ74 (own_EW hw) C104.1)
  refine Good.done (X98.returnOut hx Bd.returns (hb hby own_d6_63) hr103) hrun103 hended103 ⟨_, _, rfl, ?_, hCH103, hRE103.1, hRE103.2.1, hRE103.2.2.1, hRE103.2.2.2.mono (by decide) (by decide)⟩
  show Q6 Z r0 r1 r2 q3 r4 r5 h0 n0 _ T98.heap _
  rw [e98]
  have f_105 : Fld Z h17 r0 "com/example/orderd/orderd/order/GameOrder" "number" "Ljava/lang/String;" (.ref r1) := Fld.ext E17 f_12
  have f_106 : Fld Z h31 r0 "com/example/orderd/orderd/order/GameOrder" "number" "Ljava/lang/String;" (.ref r1) := Fld.other W31 f_105 (Or.inr (slot_ne (Or.inr (hw _ (List.mem_of_getElem? (i := 41) rfl))) (Or.inr (hw _ (List.mem_of_getElem? (i := 44) rfl))) (by decide) (t := (.object "java/lang/String")) (t' := (.object "java/lang/String")) (by decide) (by decide)))
  have f_107 : Fld Z h41 r0 "com/example/orderd/orderd/order/GameOrder" "number" "Ljava/lang/String;" (.ref r1) := Fld.other W41 f_106 (Or.inr (slot_ne (Or.inr (hw _ (List.mem_of_getElem? (i := 41) rfl))) (Or.inr (hw _ (List.mem_of_getElem? (i := 46) rfl))) (by decide) (t := (.object "java/lang/String")) (t' := .long) (by decide) (by decide)))
  have f_108 : Fld Z h48 r0 "com/example/orderd/orderd/order/GameOrder" "number" "Ljava/lang/String;" (.ref r1) := Fld.ext E48 f_107
  have f_109 : Fld Z h68 r0 "com/example/orderd/orderd/order/GameOrder" "number" "Ljava/lang/String;" (.ref r1) := Fld.other W68 f_108 (Or.inr (slot_ne (Or.inr (hw _ (List.mem_of_getElem? (i := 41) rfl))) (Or.inr (hw _ (List.mem_of_getElem? (i := 49) rfl))) (by decide) (t := (.object "java/lang/String")) (t' := (.object "java/lang/String")) (by decide) (by decide)))
  have f_110 : Fld Z h74 r0 "com/example/orderd/orderd/order/GameOrder" "number" "Ljava/lang/String;" (.ref r1) := Fld.ext E74 f_109
  have f_111 : Fld Z h98 r0 "com/example/orderd/orderd/order/GameOrder" "number" "Ljava/lang/String;" (.ref r1) := Fld.other W98 f_110 (Or.inr (slot_ne (Or.inr (hw _ (List.mem_of_getElem? (i := 41) rfl))) (Or.inr (hw _ (List.mem_of_getElem? (i := 52) rfl))) (by decide) (t := (.object "java/lang/String")) (t' := (.object "java/lang/String")) (by decide) (by decide)))
  have f_112 : Fld Z h41 r0 "com/example/orderd/orderd/order/GameOrder" "product" "Ljava/lang/String;" (.ref r2) := Fld.other W41 f_32 (Or.inr (slot_ne (Or.inr (hw _ (List.mem_of_getElem? (i := 44) rfl))) (Or.inr (hw _ (List.mem_of_getElem? (i := 46) rfl))) (by decide) (t := (.object "java/lang/String")) (t' := .long) (by decide) (by decide)))
  have f_113 : Fld Z h48 r0 "com/example/orderd/orderd/order/GameOrder" "product" "Ljava/lang/String;" (.ref r2) := Fld.ext E48 f_112
  have f_114 : Fld Z h68 r0 "com/example/orderd/orderd/order/GameOrder" "product" "Ljava/lang/String;" (.ref r2) := Fld.other W68 f_113 (Or.inr (slot_ne (Or.inr (hw _ (List.mem_of_getElem? (i := 44) rfl))) (Or.inr (hw _ (List.mem_of_getElem? (i := 49) rfl))) (by decide) (t := (.object "java/lang/String")) (t' := (.object "java/lang/String")) (by decide) (by decide)))
  have f_115 : Fld Z h74 r0 "com/example/orderd/orderd/order/GameOrder" "product" "Ljava/lang/String;" (.ref r2) := Fld.ext E74 f_114
  have f_116 : Fld Z h98 r0 "com/example/orderd/orderd/order/GameOrder" "product" "Ljava/lang/String;" (.ref r2) := Fld.other W98 f_115 (Or.inr (slot_ne (Or.inr (hw _ (List.mem_of_getElem? (i := 44) rfl))) (Or.inr (hw _ (List.mem_of_getElem? (i := 52) rfl))) (by decide) (t := (.object "java/lang/String")) (t' := (.object "java/lang/String")) (by decide) (by decide)))
  have f_117 : Fld Z h74 r0 "com/example/orderd/orderd/order/GameOrder" "currency" "Ljava/lang/String;" (.ref r4) := Fld.ext E74 f_69
  have f_118 : Fld Z h98 r0 "com/example/orderd/orderd/order/GameOrder" "currency" "Ljava/lang/String;" (.ref r4) := Fld.other W98 f_117 (Or.inr (slot_ne (Or.inr (hw _ (List.mem_of_getElem? (i := 49) rfl))) (Or.inr (hw _ (List.mem_of_getElem? (i := 52) rfl))) (by decide) (t := (.object "java/lang/String")) (t' := (.object "java/lang/String")) (by decide) (by decide)))
  have f_119 : Fld Z h48 r0 "com/example/orderd/orderd/order/GameOrder" "amount" "J" (.long q3) := Fld.ext E48 f_42
  have f_120 : Fld Z h68 r0 "com/example/orderd/orderd/order/GameOrder" "amount" "J" (.long q3) := Fld.other W68 f_119 (Or.inr (slot_ne (Or.inr (hw _ (List.mem_of_getElem? (i := 46) rfl))) (Or.inr (hw _ (List.mem_of_getElem? (i := 49) rfl))) (by decide) (t := .long) (t' := (.object "java/lang/String")) (by decide) (by decide)))
  have f_121 : Fld Z h74 r0 "com/example/orderd/orderd/order/GameOrder" "amount" "J" (.long q3) := Fld.ext E74 f_120
  have f_122 : Fld Z h98 r0 "com/example/orderd/orderd/order/GameOrder" "amount" "J" (.long q3) := Fld.other W98 f_121 (Or.inr (slot_ne (Or.inr (hw _ (List.mem_of_getElem? (i := 46) rfl))) (Or.inr (hw _ (List.mem_of_getElem? (i := 52) rfl))) (by decide) (t := .long) (t' := (.object "java/lang/String")) (by decide) (by decide)))
  exact ⟨rfl, N98, K102, f_111, f_116, f_118, f_99, f_122⟩
theorem own_d19_0 : decode jdk_43_method_13_code 0 = .ok (.aload_n 0, 1) := by decide +kernel
theorem own_d19_1 : decode jdk_43_method_13_code 1 = .ok (.arraylength, 1) := by decide +kernel
theorem own_d19_2 : decode jdk_43_method_13_code 2 = .ok (.aload_n 1, 1) := by decide +kernel
theorem own_d19_3 : decode jdk_43_method_13_code 3 = .ok (.arraylength, 1) := by decide +kernel
theorem own_d19_4 : decode jdk_43_method_13_code 4 = .ok (.if_icmp .ne 30, 3) := by decide +kernel
theorem own_d19_7 : decode jdk_43_method_13_code 7 = .ok (.iconst 0, 1) := by decide +kernel
theorem own_d19_8 : decode jdk_43_method_13_code 8 = .ok (.istore_n 2, 1) := by decide +kernel
theorem own_d19_9 : decode jdk_43_method_13_code 9 = .ok (.iload_n 2, 1) := by decide +kernel
theorem own_d19_10 : decode jdk_43_method_13_code 10 = .ok (.aload_n 0, 1) := by decide +kernel
theorem own_d19_11 : decode jdk_43_method_13_code 11 = .ok (.arraylength, 1) := by decide +kernel
theorem own_d19_12 : decode jdk_43_method_13_code 12 = .ok (.if_icmp .ge 20, 3) := by decide +kernel
theorem own_d19_32 : decode jdk_43_method_13_code 32 = .ok (.iconst 1, 1) := by decide +kernel
theorem own_d19_33 : decode jdk_43_method_13_code 33 = .ok (.ireturn, 1) := by decide +kernel
theorem own_ef_19_00 (m : MethodId) (x0 : Addr) (x1 : Addr) : entryFrame m #[(.ref x0), (.ref x1)] 3 = mkF m 0 #[.val (.ref x0), .val (.ref x1), .unset] [] := by first | (simp [entryFrame, mkF, argsToLocals, Value.category]; done) | rfl
def Q19_00 (Z : State) (r0 : Addr) (r1 : Addr) (k0 : ClassId) (k1 : ClassId) (h0 : Heap) (n0 : Nat) (v : Option Value) (h : Heap) (L : List Loc) : Prop := v = some (.int (1 : Int32)) ∧ Fr n0 L ∧ h = h0
set_option maxRecDepth 65536 in
set_option maxHeartbeats 40000000 in
theorem rm19_00 (l : Launch) (Z : State) (a0 : Array Value) (hw : ∀ d ∈ tables_1, d.before a0 Z = true) (ws : List Jvm.Cond) (r0 : Addr) (r1 : Addr) (k0 : ClassId) (k1 : ClassId) (h0 : Heap) (n0 : Nat) (Z0 : n0 ≤ h0.size) (V0 : Arv Z h0 r0 k0 .byte (0 : Int32) [] (.int (0 : Int32))) (V1 : Arv Z h0 r1 k1 .byte (0 : Int32) [] (.int (0 : Int32))) :
    MetFree l (⟨"java/lang/StringLatin1", "equals", "([B[B)Z"⟩ : MethodName) (head1 (Jvm.Cond.code (⟨"java/lang/StringLatin1", "equals", "([B[B)Z"⟩ : MethodName) jdk_43_method_13_code 3 (some .boolean) :: ws) ({ frames := 0, cells := 0, slots := 0, locals := 0 } : Room)) (fun a U => a = #[(.ref r0), (.ref r1)] ∧ Z.Warmed39 U.vm ∧ U.heap = h0) (fun _ _ _ _ _ => True) (fun _ U o U' => ∃ v L, o = .returned v ∧ Q19_00 Z r0 r1 k0 k1 h0 n0 v U'.heap L ∧ FrameEnd U o U' L ({ frames := 0, cells := 0, slots := 0, locals := 0 } : Room).cells ({ frames := 0, cells := 0, slots := 0, locals := 0 } : Room).slots) := by
  refine MetFree.of_bodySF (plainFor_of_name own_pn1) hisR ?_
  intro p e s m args below meth c s₁ Bd hml0 hP hK
  obtain ⟨rfl, hZ, hh⟩ := hP
  have hx := Bd.exec
  have hby := Bd.bytes
  have hml : c.maxLocals = 3 := hml0
  have hown : s.vm.findClass "java/lang/StringLatin1" = some m.cls := findClass_of_methodNamed Bd.named
  have hnm := (name_of_methodNamed Bd.named Bd.method).1
  have X0 : Stand p l e ({ frames := 0, cells := 0, slots := 0, locals := 0 } : Room) s m #[(.ref r0), (.ref r1)] below meth c s₁ [] 0 0 := Stand.of_body Bd
  have e0 : s₁.heap = h0 := by rw [← hh, Bd.state]; rfl
  have N0 := Fr.nil n0
  show Good p e below (fun o U' => ∃ v L, o = .returned v ∧ Q19_00 Z r0 r1 k0 k1 h0 n0 v U'.heap L ∧ FrameEnd s o U' L ({ frames := 0, cells := 0, slots := 0, locals := 0 } : Room).cells ({ frames := 0, cells := 0, slots := 0, locals := 0 } : Room).slots) _
  refine Good.back (S' := s₁.setTop (mkF m 0 #[.val (.ref r0), .val (.ref r1), .unset] [])) (fun t k => castTop (own_ef_19_00 m r0 r1) k) ?_
  show Good p e below _ (s₁.setTop (mkF m 0 #[.val (.ref r0), .val (.ref r1), .unset] []))
  refine Good.back (fun _ k => XS.aloadN X0.here hx rfl (hb hby own_d19_0) rfl rfl k) ?_
  show Good p e below _ (s₁.setTop (mkF m 1 #[.val (.ref r0), .val (.ref r1), .unset] [(.ref r0)]))
  have fc1 := V0
  obtain ⟨cl1, Ar1, qk1, S1, N1', H1, G1⟩ := fc1
  refine Good.back (X0.arraylength hx (by rw [e0]; exact Ar1.1) (State.isArrayOf_alike hZ.alike Ar1.2.1) (g := (mkF m 1 #[.val (.ref r0), .val (.ref r1), .unset] [(.ref r0)])) rfl rfl (hb hby own_d19_1)) ?_
  rw [len_of S1 N1']
  show Good p e below _ (s₁.setTop (mkF m 2 #[.val (.ref r0), .val (.ref r1), .unset] [(.int (0 : Int32))]))
  refine Good.back (fun _ k => XS.aloadN X0.here hx rfl (hb hby own_d19_2) rfl rfl k) ?_
  show Good p e below _ (s₁.setTop (mkF m 3 #[.val (.ref r0), .val (.ref r1), .unset] [(.ref r1), (.int (0 : Int32))]))
  have fc2 := V1
  obtain ⟨cl2, Ar2, qk2, S2, N2', H2, G2⟩ := fc2
  refine Good.back (X0.arraylength hx (by rw [e0]; exact Ar2.1) (State.isArrayOf_alike hZ.alike Ar2.2.1) (g := (mkF m 3 #[.val (.ref r0), .val (.ref r1), .unset] [(.ref r1), (.int (0 : Int32))])) rfl rfl (hb hby own_d19_3)) ?_
  rw [len_of S2 N2']
  show Good p e below _ (s₁.setTop (mkF m 4 #[.val (.ref r0), .val (.ref r1), .unset] [(.int (0 : Int32)), (.int (0 : Int32))]))
  refine Good.back (fun _ k => XS.icmpNo X0.here hx rfl (hb hby own_d19_4) rfl (teq (by decide : ((0 : Int32) = (0 : Int32)))).2 k) ?_
  show Good p e below _ (s₁.setTop (mkF m 7 #[.val (.ref r0), .val (.ref r1), .unset] []))
  refine Good.back (fun _ k => XS.iconst X0.here hx rfl (hb hby own_d19_7) k) ?_
  show Good p e below _ (s₁.setTop (mkF m 8 #[.val (.ref r0), .val (.ref r1), .unset] [(.int (0 : Int32))]))
  refine Good.back (fun _ k => XS.istoreN X0.here hx rfl (hb hby own_d19_8) rfl (l' := #[.val (.ref r0), .val (.ref r1), .val (.int (0 : Int32))]) rfl k) ?_
  show Good p e below _ (s₁.setTop (mkF m 9 #[.val (.ref r0), .val (.ref r1), .val (.int (0 : Int32))] []))
  refine Good.back (fun _ k => XS.iloadN X0.here hx rfl (hb hby own_d19_9) rfl k) ?_
  show Good p e below _ (s₁.setTop (mkF m 10 #[.val (.ref r0), .val (.ref r1), .val (.int (0 : Int32))] [(.int (0 : Int32))]))
  refine Good.back (fun _ k => XS.aloadN X0.here hx rfl (hb hby own_d19_10) rfl rfl k) ?_
  show Good p e below _ (s₁.setTop (mkF m 11 #[.val (.ref r0), .val (.ref r1), .val (.int (0 : Int32))] [(.ref r0), (.int (0 : Int32))]))
  have fc3 := V0
  obtain ⟨cl3, Ar3, qk3, S3, N3', H3, G3⟩ := fc3
  refine Good.back (X0.arraylength hx (by rw [e0]; exact Ar3.1) (State.isArrayOf_alike hZ.alike Ar3.2.1) (g := (mkF m 11 #[.val (.ref r0), .val (.ref r1), .val (.int (0 : Int32))] [(.ref r0), (.int (0 : Int32))])) rfl rfl (hb hby own_d19_11)) ?_
  rw [len_of S3 N3']
  show Good p e below _ (s₁.setTop (mkF m 12 #[.val (.ref r0), .val (.ref r1), .val (.int (0 : Int32))] [(.int (0 : Int32)), (.int (0 : Int32))]))
  refine Good.back (fun _ k => XS.icmpYes X0.here hx rfl (pc0 := 12) (pc' := 32) rfl (hb hby own_d19_12) rfl (flt (by decide : ¬ ((0 : Int32) < (0 : Int32)))).2.1 (by decide) (by decide) k) ?_
  show Good p e below _ (s₁.setTop (mkF m 32 #[.val (.ref r0), .val (.ref r1), .val (.int (0 : Int32))] []))
  refine Good.back (fun _ k => XS.iconst X0.here hx rfl (hb hby own_d19_32) k) ?_
  show Good p e below _ (s₁.setTop (mkF m 33 #[.val (.ref r0), .val (.ref r1), .val (.int (0 : Int32))] [(.int (1 : Int32))]))
  obtain ⟨fs4, hr4, hrun4, hended4, hW4, hsame4⟩ := X0.leave (v := some (.int (1 : Int32))) (fun h => by rw [Bd.returns] at h; cases h)
  refine Good.done (retN X0 hx (t := .boolean) Bd.returns (by simp) (hb hby own_d19_33) hr4) hrun4 hended4 ⟨_, _, rfl, ?_, ⟨_, rfl⟩, hW4, hsame4.mono (by decide) (by decide)⟩
  show Q19_00 Z r0 r1 k0 k1 h0 n0 _ s₁.heap _
  rw [e0]
  exact ⟨rfl, N0, rfl⟩
theorem own_d19_34 : decode jdk_43_method_13_code 34 = .ok (.iconst 0, 1) := by decide +kernel
theorem own_d19_35 : decode jdk_43_method_13_code 35 = .ok (.ireturn, 1) := by decide +kernel
theorem own_ef_19_01 (m : MethodId) (x0 : Addr) (x1 : Addr) : entryFrame m #[(.ref x0), (.ref x1)] 3 = mkF m 0 #[.val (.ref x0), .val (.ref x1), .unset] [] := by first | (simp [entryFrame, mkF, argsToLocals, Value.category]; done) | rfl
def Q19_01 (Z : State) (r0 : Addr) (r1 : Addr) (k0 : ClassId) (k1 : ClassId) (d1 : Int32) (h0 : Heap) (n0 : Nat) (v : Option Value) (h : Heap) (L : List Loc) : Prop := v = some (.int (0 : Int32)) ∧ Fr n0 L ∧ h = h0
set_option maxRecDepth 65536 in
set_option maxHeartbeats 40000000 in
theorem rm19_01 (l : Launch) (Z : State) (a0 : Array Value) (hw : ∀ d ∈ tables_1, d.before a0 Z = true) (ws : List Jvm.Cond) (r0 : Addr) (r1 : Addr) (k0 : ClassId) (k1 : ClassId) (d1 : Int32) (h0 : Heap) (n0 : Nat) (Z0 : n0 ≤ h0.size) (V0 : Arv Z h0 r0 k0 .byte (0 : Int32) [] (.int (0 : Int32))) (V1 : Arv Z h0 r1 k1 .byte (1 : Int32) [(.int d1)] (.int (0 : Int32))) :
    MetFree l (⟨"java/lang/StringLatin1", "equals", "([B[B)Z"⟩ : MethodName) (head1 (Jvm.Cond.code (⟨"java/lang/StringLatin1", "equals", "([B[B)Z"⟩ : MethodName) jdk_43_method_13_code 3 (some .boolean) :: ws) ({ frames := 0, cells := 0, slots := 0, locals := 0 } : Room)) (fun a U => a = #[(.ref r0), (.ref r1)] ∧ Z.Warmed39 U.vm ∧ U.heap = h0) (fun _ _ _ _ _ => True) (fun _ U o U' => ∃ v L, o = .returned v ∧ Q19_01 Z r0 r1 k0 k1 d1 h0 n0 v U'.heap L ∧ FrameEnd U o U' L ({ frames := 0, cells := 0, slots := 0, locals := 0 } : Room).cells ({ frames := 0, cells := 0, slots := 0, locals := 0 } : Room).slots) := by
  refine MetFree.of_bodySF (plainFor_of_name own_pn1) hisR ?_
  intro p e s m args below meth c s₁ Bd hml0 hP hK
  obtain ⟨rfl, hZ, hh⟩ := hP
  have hx := Bd.exec
  have hby := Bd.bytes
  have hml : c.maxLocals = 3 := hml0
  have hown : s.vm.findClass "java/lang/StringLatin1" = some m.cls := findClass_of_methodNamed Bd.named
  have hnm := (name_of_methodNamed Bd.named Bd.method).1
  have X0 : Stand p l e ({ frames := 0, cells := 0, slots := 0, locals := 0 } : Room) s m #[(.ref r0), (.ref r1)] below meth c s₁ [] 0 0 := Stand.of_body Bd
  have e0 : s₁.heap = h0 := by rw [← hh, Bd.state]; rfl
  have N0 := Fr.nil n0
  show Good p e below (fun o U' => ∃ v L, o = .returned v ∧ Q19_01 Z r0 r1 k0 k1 d1 h0 n0 v U'.heap L ∧ FrameEnd s o U' L ({ frames := 0, cells := 0, slots := 0, locals := 0 } : Room).cells ({ frames := 0, cells := 0, slots := 0, locals := 0 } : Room).slots) _
  refine Good.back (S' := s₁.setTop (mkF m 0 #[.val (.ref r0), .val (.ref r1), .unset] [])) (fun t k => castTop (own_ef_19_01 m r0 r1) k) ?_
  show Good p e below _ (s₁.setTop (mkF m 0 #[.val (.ref r0), .val (.ref r1), .unset] []))
  refine Good.back (fun _ k => XS.aloadN X0.here hx rfl (hb hby own_d19_0) rfl rfl k) ?_
  show Good p e below _ (s₁.setTop (mkF m 1 #[.val (.ref r0), .val (.ref r1), .unset] [(.ref r0)]))
  have fc1 := V0
  obtain ⟨cl1, Ar1, qk1, S1, N1', H1, G1⟩ := fc1
  refine Good.back (X0.arraylength hx (by rw [e0]; exact Ar1.1) (State.isArrayOf_alike hZ.alike Ar1.2.1) (g := (mkF m 1 #[.val (.ref r0), .val (.ref r1), .unset] [(.ref r0)])) rfl rfl (hb hby own_d19_1)) ?_
  rw [len_of S1 N1']
  show Good p e below _ (s₁.setTop (mkF m 2 #[.val (.ref r0), .val (.ref r1), .unset] [(.int (0 : Int32))]))
  refine Good.back (fun _ k => XS.aloadN X0.here hx rfl (hb hby own_d19_2) rfl rfl k) ?_
  show Good p e below _ (s₁.setTop (mkF m 3 #[.val (.ref r0), .val (.ref r1), .unset] [(.ref r1), (.int (0 : Int32))]))
  have fc2 := V1
  obtain ⟨cl2, Ar2, qk2, S2, N2', H2, G2⟩ := fc2
  refine Good.back (X0.arraylength hx (by rw [e0]; exact Ar2.1) (State.isArrayOf_alike hZ.alike Ar2.2.1) (g := (mkF m 3 #[.val (.ref r0), .val (.ref r1), .unset] [(.ref r1), (.int (0 : Int32))])) rfl rfl (hb hby own_d19_3)) ?_
  rw [len_of S2 N2']
  show Good p e below _ (s₁.setTop (mkF m 4 #[.val (.ref r0), .val (.ref r1), .unset] [(.int (1 : Int32)), (.int (0 : Int32))]))
  refine Good.back (fun _ k => XS.icmpYes X0.here hx rfl (pc0 := 4) (pc' := 34) rfl (hb hby own_d19_4) rfl (feq (by decide : ¬ ((0 : Int32) = (1 : Int32)))).2 (by decide) (by decide) k) ?_
  show Good p e below _ (s₁.setTop (mkF m 34 #[.val (.ref r0), .val (.ref r1), .unset] []))
  refine Good.back (fun _ k => XS.iconst X0.here hx rfl (hb hby own_d19_34) k) ?_
  show Good p e below _ (s₁.setTop (mkF m 35 #[.val (.ref r0), .val (.ref r1), .unset] [(.int (0 : Int32))]))
  obtain ⟨fs3, hr3, hrun3, hended3, hW3, hsame3⟩ := X0.leave (v := some (.int (0 : Int32))) (fun h => by rw [Bd.returns] at h; cases h)
  refine Good.done (retN X0 hx (t := .boolean) Bd.returns (by simp) (hb hby own_d19_35) hr3) hrun3 hended3 ⟨_, _, rfl, ?_, ⟨_, rfl⟩, hW3, hsame3.mono (by decide) (by decide)⟩
  show Q19_01 Z r0 r1 k0 k1 d1 h0 n0 _ s₁.heap _
  rw [e0]
  exact ⟨rfl, N0, rfl⟩
theorem own_ef_19_10 (m : MethodId) (x0 : Addr) (x1 : Addr) : entryFrame m #[(.ref x0), (.ref x1)] 3 = mkF m 0 #[.val (.ref x0), .val (.ref x1), .unset] [] := by first | (simp [entryFrame, mkF, argsToLocals, Value.category]; done) | rfl
def Q19_10 (Z : State) (r0 : Addr) (r1 : Addr) (k0 : ClassId) (k1 : ClassId) (d0 : Int32) (h0 : Heap) (n0 : Nat) (v : Option Value) (h : Heap) (L : List Loc) : Prop := v = some (.int (0 : Int32)) ∧ Fr n0 L ∧ h = h0
set_option maxRecDepth 65536 in
set_option maxHeartbeats 40000000 in
theorem rm19_10 (l : Launch) (Z : State) (a0 : Array Value) (hw : ∀ d ∈ tables_1, d.before a0 Z = true) (ws : List Jvm.Cond) (r0 : Addr) (r1 : Addr) (k0 : ClassId) (k1 : ClassId) (d0 : Int32) (h0 : Heap) (n0 : Nat) (Z0 : n0 ≤ h0.size) (V0 : Arv Z h0 r0 k0 .byte (1 : Int32) [(.int d0)] (.int (0 : Int32))) (V1 : Arv Z h0 r1 k1 .byte (0 : Int32) [] (.int (0 : Int32))) :
    MetFree l (⟨"java/lang/StringLatin1", "equals", "([B[B)Z"⟩ : MethodName) (head1 (Jvm.Cond.code (⟨"java/lang/StringLatin1", "equals", "([B[B)Z"⟩ : MethodName) jdk_43_method_13_code 3 (some .boolean) :: ws) ({ frames := 0, cells := 0, slots := 0, locals := 0 } : Room)) (fun a U => a = #[(.ref r0), (.ref r1)] ∧ Z.Warmed39 U.vm ∧ U.heap = h0) (fun _ _ _ _ _ => True) (fun _ U o U' => ∃ v L, o = .returned v ∧ Q19_10 Z r0 r1 k0 k1 d0 h0 n0 v U'.heap L ∧ FrameEnd U o U' L ({ frames := 0, cells := 0, slots := 0, locals := 0 } : Room).cells ({ frames := 0, cells := 0, slots := 0, locals := 0 } : Room).slots) := by
  refine MetFree.of_bodySF (plainFor_of_name own_pn1) hisR ?_
  intro p e s m args below meth c s₁ Bd hml0 hP hK
  obtain ⟨rfl, hZ, hh⟩ := hP
  have hx := Bd.exec
  have hby := Bd.bytes
  have hml : c.maxLocals = 3 := hml0
  have hown : s.vm.findClass "java/lang/StringLatin1" = some m.cls := findClass_of_methodNamed Bd.named
  have hnm := (name_of_methodNamed Bd.named Bd.method).1
  have X0 : Stand p l e ({ frames := 0, cells := 0, slots := 0, locals := 0 } : Room) s m #[(.ref r0), (.ref r1)] below meth c s₁ [] 0 0 := Stand.of_body Bd
  have e0 : s₁.heap = h0 := by rw [← hh, Bd.state]; rfl
  have N0 := Fr.nil n0
  show Good p e below (fun o U' => ∃ v L, o = .returned v ∧ Q19_10 Z r0 r1 k0 k1 d0 h0 n0 v U'.heap L ∧ FrameEnd s o U' L ({ frames := 0, cells := 0, slots := 0, locals := 0 } : Room).cells ({ frames := 0, cells := 0, slots := 0, locals := 0 } : Room).slots) _
  refine Good.back (S' := s₁.setTop (mkF m 0 #[.val (.ref r0), .val (.ref r1), .unset] [])) (fun t k => castTop (own_ef_19_10 m r0 r1) k) ?_
  show Good p e below _ (s₁.setTop (mkF m 0 #[.val (.ref r0), .val (.ref r1), .unset] []))
  refine Good.back (fun _ k => XS.aloadN X0.here hx rfl (hb hby own_d19_0) rfl rfl k) ?_
  show Good p e below _ (s₁.setTop (mkF m 1 #[.val (.ref r0), .val (.ref r1), .unset] [(.ref r0)]))
  have fc1 := V0
  obtain ⟨cl1, Ar1, qk1, S1, N1', H1, G1⟩ := fc1
  refine Good.back (X0.arraylength hx (by rw [e0]; exact Ar1.1) (State.isArrayOf_alike hZ.alike Ar1.2.1) (g := (mkF m 1 #[.val (.ref r0), .val (.ref r1), .unset] [(.ref r0)])) rfl rfl (hb hby own_d19_1)) ?_
  rw [len_of S1 N1']
  show Good p e below _ (s₁.setTop (mkF m 2 #[.val (.ref r0), .val (.ref r1), .unset] [(.int (1 : Int32))]))
  refine Good.back (fun _ k => XS.aloadN X0.here hx rfl (hb hby own_d19_2) rfl rfl k) ?_
  show Good p e below _ (s₁.setTop (mkF m 3 #[.val (.ref r0), .val (.ref r1), .unset] [(.ref r1), (.int (1 : Int32))]))
  have fc2 := V1
  obtain ⟨cl2, Ar2, qk2, S2, N2', H2, G2⟩ := fc2
  refine Good.back (X0.arraylength hx (by rw [e0]; exact Ar2.1) (State.isArrayOf_alike hZ.alike Ar2.2.1) (g := (mkF m 3 #[.val (.ref r0), .val (.ref r1), .unset] [(.ref r1), (.int (1 : Int32))])) rfl rfl (hb hby own_d19_3)) ?_
  rw [len_of S2 N2']
  show Good p e below _ (s₁.setTop (mkF m 4 #[.val (.ref r0), .val (.ref r1), .unset] [(.int (0 : Int32)), (.int (1 : Int32))]))
  refine Good.back (fun _ k => XS.icmpYes X0.here hx rfl (pc0 := 4) (pc' := 34) rfl (hb hby own_d19_4) rfl (feq (by decide : ¬ ((1 : Int32) = (0 : Int32)))).2 (by decide) (by decide) k) ?_
  show Good p e below _ (s₁.setTop (mkF m 34 #[.val (.ref r0), .val (.ref r1), .unset] []))
  refine Good.back (fun _ k => XS.iconst X0.here hx rfl (hb hby own_d19_34) k) ?_
  show Good p e below _ (s₁.setTop (mkF m 35 #[.val (.ref r0), .val (.ref r1), .unset] [(.int (0 : Int32))]))
  obtain ⟨fs3, hr3, hrun3, hended3, hW3, hsame3⟩ := X0.leave (v := some (.int (0 : Int32))) (fun h => by rw [Bd.returns] at h; cases h)
  refine Good.done (retN X0 hx (t := .boolean) Bd.returns (by simp) (hb hby own_d19_35) hr3) hrun3 hended3 ⟨_, _, rfl, ?_, ⟨_, rfl⟩, hW3, hsame3.mono (by decide) (by decide)⟩
  show Q19_10 Z r0 r1 k0 k1 d0 h0 n0 _ s₁.heap _
  rw [e0]
  exact ⟨rfl, N0, rfl⟩
theorem own_d19_15 : decode jdk_43_method_13_code 15 = .ok (.aload_n 0, 1) := by decide +kernel
theorem own_d19_16 : decode jdk_43_method_13_code 16 = .ok (.iload_n 2, 1) := by decide +kernel
theorem own_d19_17 : decode jdk_43_method_13_code 17 = .ok (.baload, 1) := by decide +kernel
theorem own_d19_18 : decode jdk_43_method_13_code 18 = .ok (.aload_n 1, 1) := by decide +kernel
theorem own_d19_19 : decode jdk_43_method_13_code 19 = .ok (.iload_n 2, 1) := by decide +kernel
theorem own_d19_20 : decode jdk_43_method_13_code 20 = .ok (.baload, 1) := by decide +kernel
theorem own_d19_21 : decode jdk_43_method_13_code 21 = .ok (.if_icmp .eq 5, 3) := by decide +kernel
theorem own_d19_24 : decode jdk_43_method_13_code 24 = .ok (.iconst 0, 1) := by decide +kernel
theorem own_d19_25 : decode jdk_43_method_13_code 25 = .ok (.ireturn, 1) := by decide +kernel
theorem own_d19_26 : decode jdk_43_method_13_code 26 = .ok (.iinc 2 1, 3) := by decide +kernel
theorem own_d19_29 : decode jdk_43_method_13_code 29 = .ok (.goto (-20), 3) := by decide +kernel
theorem own_ef_19_11 (m : MethodId) (x0 : Addr) (x1 : Addr) : entryFrame m #[(.ref x0), (.ref x1)] 3 = mkF m 0 #[.val (.ref x0), .val (.ref x1), .unset] [] := by first | (simp [entryFrame, mkF, argsToLocals, Value.category]; done) | rfl
def Q19_11 (Z : State) (r0 : Addr) (r1 : Addr) (k0 : ClassId) (k1 : ClassId) (d0 : Int32) (d1 : Int32) (h0 : Heap) (n0 : Nat) (v : Option Value) (h : Heap) (L : List Loc) : Prop := v = some (.int (own_eqi d0 d1)) ∧ Fr n0 L ∧ h = h0
set_option maxRecDepth 65536 in
set_option maxHeartbeats 40000000 in
theorem rm19_11 (l : Launch) (Z : State) (a0 : Array Value) (hw : ∀ d ∈ tables_1, d.before a0 Z = true) (ws : List Jvm.Cond) (r0 : Addr) (r1 : Addr) (k0 : ClassId) (k1 : ClassId) (d0 : Int32) (d1 : Int32) (h0 : Heap) (n0 : Nat) (Z0 : n0 ≤ h0.size) (V0 : Arv Z h0 r0 k0 .byte (1 : Int32) [(.int d0)] (.int (0 : Int32))) (V1 : Arv Z h0 r1 k1 .byte (1 : Int32) [(.int d1)] (.int (0 : Int32))) :
    MetFree l (⟨"java/lang/StringLatin1", "equals", "([B[B)Z"⟩ : MethodName) (head1 (Jvm.Cond.code (⟨"java/lang/StringLatin1", "equals", "([B[B)Z"⟩ : MethodName) jdk_43_method_13_code 3 (some .boolean) :: ws) ({ frames := 0, cells := 0, slots := 0, locals := 0 } : Room)) (fun a U => a = #[(.ref r0), (.ref r1)] ∧ Z.Warmed39 U.vm ∧ U.heap = h0) (fun _ _ _ _ _ => True) (fun _ U o U' => ∃ v L, o = .returned v ∧ Q19_11 Z r0 r1 k0 k1 d0 d1 h0 n0 v U'.heap L ∧ FrameEnd U o U' L ({ frames := 0, cells := 0, slots := 0, locals := 0 } : Room).cells ({ frames := 0, cells := 0, slots := 0, locals := 0 } : Room).slots) := by
  refine MetFree.of_bodySF (plainFor_of_name own_pn1) hisR ?_
  intro p e s m args below meth c s₁ Bd hml0 hP hK
  obtain ⟨rfl, hZ, hh⟩ := hP
  have hx := Bd.exec
  have hby := Bd.bytes
  have hml : c.maxLocals = 3 := hml0
  have hown : s.vm.findClass "java/lang/StringLatin1" = some m.cls := findClass_of_methodNamed Bd.named
  have hnm := (name_of_methodNamed Bd.named Bd.method).1
  have X0 : Stand p l e ({ frames := 0, cells := 0, slots := 0, locals := 0 } : Room) s m #[(.ref r0), (.ref r1)] below meth c s₁ [] 0 0 := Stand.of_body Bd
  have e0 : s₁.heap = h0 := by rw [← hh, Bd.state]; rfl
  have N0 := Fr.nil n0
  show Good p e below (fun o U' => ∃ v L, o = .returned v ∧ Q19_11 Z r0 r1 k0 k1 d0 d1 h0 n0 v U'.heap L ∧ FrameEnd s o U' L ({ frames := 0, cells := 0, slots := 0, locals := 0 } : Room).cells ({ frames := 0, cells := 0, slots := 0, locals := 0 } : Room).slots) _
  refine Good.back (S' := s₁.setTop (mkF m 0 #[.val (.ref r0), .val (.ref r1), .unset] [])) (fun t k => castTop (own_ef_19_11 m r0 r1) k) ?_
  show Good p e below _ (s₁.setTop (mkF m 0 #[.val (.ref r0), .val (.ref r1), .unset] []))
  refine Good.back (fun _ k => XS.aloadN X0.here hx rfl (hb hby own_d19_0) rfl rfl k) ?_
  show Good p e below _ (s₁.setTop (mkF m 1 #[.val (.ref r0), .val (.ref r1), .unset] [(.ref r0)]))
  have fc1 := V0
  obtain ⟨cl1, Ar1, qk1, S1, N1', H1, G1⟩ := fc1
  refine Good.back (X0.arraylength hx (by rw [e0]; exact Ar1.1) (State.isArrayOf_alike hZ.alike Ar1.2.1) (g := (mkF m 1 #[.val (.ref r0), .val (.ref r1), .unset] [(.ref r0)])) rfl rfl (hb hby own_d19_1)) ?_
  rw [len_of S1 N1']
  show Good p e below _ (s₁.setTop (mkF m 2 #[.val (.ref r0), .val (.ref r1), .unset] [(.int (1 : Int32))]))
  refine Good.back (fun _ k => XS.aloadN X0.here hx rfl (hb hby own_d19_2) rfl rfl k) ?_
  show Good p e below _ (s₁.setTop (mkF m 3 #[.val (.ref r0), .val (.ref r1), .unset] [(.ref r1), (.int (1 : Int32))]))
  have fc2 := V1
  obtain ⟨cl2, Ar2, qk2, S2, N2', H2, G2⟩ := fc2
  refine Good.back (X0.arraylength hx (by rw [e0]; exact Ar2.1) (State.isArrayOf_alike hZ.alike Ar2.2.1) (g := (mkF m 3 #[.val (.ref r0), .val (.ref r1), .unset] [(.ref r1), (.int (1 : Int32))])) rfl rfl (hb hby own_d19_3)) ?_
  rw [len_of S2 N2']
  show Good p e below _ (s₁.setTop (mkF m 4 #[.val (.ref r0), .val (.ref r1), .unset] [(.int (1 : Int32)), (.int (1 : Int32))]))
  refine Good.back (fun _ k => XS.icmpNo X0.here hx rfl (hb hby own_d19_4) rfl (teq (by decide : ((1 : Int32) = (1 : Int32)))).2 k) ?_
  show Good p e below _ (s₁.setTop (mkF m 7 #[.val (.ref r0), .val (.ref r1), .unset] []))
  refine Good.back (fun _ k => XS.iconst X0.here hx rfl (hb hby own_d19_7) k) ?_
  show Good p e below _ (s₁.setTop (mkF m 8 #[.val (.ref r0), .val (.ref r1), .unset] [(.int (0 : Int32))]))
  refine Good.back (fun _ k => XS.istoreN X0.here hx rfl (hb hby own_d19_8) rfl (l' := #[.val (.ref r0), .val (.ref r1), .val (.int (0 : Int32))]) rfl k) ?_
  show Good p e below _ (s₁.setTop (mkF m 9 #[.val (.ref r0), .val (.ref r1), .val (.int (0 : Int32))] []))
  refine Good.back (fun _ k => XS.iloadN X0.here hx rfl (hb hby own_d19_9) rfl k) ?_
  show Good p e below _ (s₁.setTop (mkF m 10 #[.val (.ref r0), .val (.ref r1), .val (.int (0 : Int32))] [(.int (0 : Int32))]))
  refine Good.back (fun _ k => XS.aloadN X0.here hx rfl (hb hby own_d19_10) rfl rfl k) ?_
  show Good p e below _ (s₁.setTop (mkF m 11 #[.val (.ref r0), .val (.ref r1), .val (.int (0 : Int32))] [(.ref r0), (.int (0 : Int32))]))
  have fc3 := V0
  obtain ⟨cl3, Ar3, qk3, S3, N3', H3, G3⟩ := fc3
  refine Good.back (X0.arraylength hx (by rw [e0]; exact Ar3.1) (State.isArrayOf_alike hZ.alike Ar3.2.1) (g := (mkF m 11 #[.val (.ref r0), .val (.ref r1), .val (.int (0 : Int32))] [(.ref r0), (.int (0 : Int32))])) rfl rfl (hb hby own_d19_11)) ?_
  rw [len_of S3 N3']
  show Good p e below _ (s₁.setTop (mkF m 12 #[.val (.ref r0), .val (.ref r1), .val (.int (0 : Int32))] [(.int (1 : Int32)), (.int (0 : Int32))]))
  refine Good.back (fun _ k => XS.icmpNo X0.here hx rfl (hb hby own_d19_12) rfl (tlt (by decide : ((0 : Int32) < (1 : Int32)))).2.1 k) ?_
  show Good p e below _ (s₁.setTop (mkF m 15 #[.val (.ref r0), .val (.ref r1), .val (.int (0 : Int32))] []))
  refine Good.back (fun _ k => XS.aloadN X0.here hx rfl (hb hby own_d19_15) rfl rfl k) ?_
  show Good p e below _ (s₁.setTop (mkF m 16 #[.val (.ref r0), .val (.ref r1), .val (.int (0 : Int32))] [(.ref r0)]))
  refine Good.back (fun _ k => XS.iloadN X0.here hx rfl (hb hby own_d19_16) rfl k) ?_
  show Good p e below _ (s₁.setTop (mkF m 17 #[.val (.ref r0), .val (.ref r1), .val (.int (0 : Int32))] [(.int (0 : Int32)), (.ref r0)]))
  have fc4 := V0
  obtain ⟨cl4, Ar4, qk4, S4, N4', H4, G4⟩ := fc4
  have hin4 : ¬ ((0 : Int32) < 0 ∨ cl4.slots.size ≤ ((0 : Int32)).toNatClampNeg) := inb_of S4 ⟨by decide, by decide⟩
  have hat4 : cl4.slots[((0 : Int32)).toNatClampNeg]? = some (.int d0) := Has.at H4 hin4 rfl
  refine Good.back (X0.baloadBytes hx (j := (0 : Int32)) (v := (.int d0)) (by rw [e0]; exact Ar4.1) (State.isArrayOf_alike hZ.alike Ar4.2.1) Ar4.2.2 hin4 hat4 (g := (mkF m 17 #[.val (.ref r0), .val (.ref r1), .val (.int (0 : Int32))] [(.int (0 : Int32)), (.ref r0)])) rfl rfl (hb hby own_d19_17)) ?_
  show Good p e below _ (s₁.setTop (mkF m 18 #[.val (.ref r0), .val (.ref r1), .val (.int (0 : Int32))] [(.int d0)]))
  refine Good.back (fun _ k => XS.aloadN X0.here hx rfl (hb hby own_d19_18) rfl rfl k) ?_
  show Good p e below _ (s₁.setTop (mkF m 19 #[.val (.ref r0), .val (.ref r1), .val (.int (0 : Int32))] [(.ref r1), (.int d0)]))
  refine Good.back (fun _ k => XS.iloadN X0.here hx rfl (hb hby own_d19_19) rfl k) ?_
  show Good p e below _ (s₁.setTop (mkF m 20 #[.val (.ref r0), .val (.ref r1), .val (.int (0 : Int32))] [(.int (0 : Int32)), (.ref r1), (.int d0)]))
  have fc5 := V1
  obtain ⟨cl5, Ar5, qk5, S5, N5', H5, G5⟩ := fc5
  have hin5 : ¬ ((0 : Int32) < 0 ∨ cl5.slots.size ≤ ((0 : Int32)).toNatClampNeg) := inb_of S5 ⟨by decide, by decide⟩
  have hat5 : cl5.slots[((0 : Int32)).toNatClampNeg]? = some (.int d1) := Has.at H5 hin5 rfl
  refine Good.back (X0.baloadBytes hx (j := (0 : Int32)) (v := (.int d1)) (by rw [e0]; exact Ar5.1) (State.isArrayOf_alike hZ.alike Ar5.2.1) Ar5.2.2 hin5 hat5 (g := (mkF m 20 #[.val (.ref r0), .val (.ref r1), .val (.int (0 : Int32))] [(.int (0 : Int32)), (.ref r1), (.int d0)])) rfl rfl (hb hby own_d19_20)) ?_
  show Good p e below _ (s₁.setTop (mkF m 21 #[.val (.ref r0), .val (.ref r1), .val (.int (0 : Int32))] [(.int d1), (.int d0)]))
  by_cases hc21_6 : d0 = d1
  · refine Good.back (fun _ k => XS.icmpYes X0.here hx rfl (pc0 := 21) (pc' := 26) rfl (hb hby own_d19_21) rfl (teq hc21_6).1 (by decide) (by decide) k) ?_
    show Good p e below _ (s₁.setTop (mkF m 26 #[.val (.ref r0), .val (.ref r1), .val (.int (0 : Int32))] []))
    refine Good.back (fun _ k => XS.iinc X0.here hx rfl (hb hby own_d19_26) rfl (l' := #[.val (.ref r0), .val (.ref r1), .val (.int ((0 : Int32) + (1 : Int32)))]) rfl k) ?_
    show Good p e below _ (s₁.setTop (mkF m 29 #[.val (.ref r0), .val (.ref r1), .val (.int ((0 : Int32) + (1 : Int32)))] []))
    rw [show (((0 : Int32) + (1 : Int32)) : Int32) = (1 : Int32) from by decide]
    show Good p e below _ (s₁.setTop (mkF m 29 #[.val (.ref r0), .val (.ref r1), .val (.int (1 : Int32))] []))
    refine Good.back (fun _ k => XS.goto X0.here hx rfl (pc0 := 29) (pc' := 9) rfl (hb hby own_d19_29) (by decide) (by decide) k) ?_
    show Good p e below _ (s₁.setTop (mkF m 9 #[.val (.ref r0), .val (.ref r1), .val (.int (1 : Int32))] []))
    refine Good.back (fun _ k => XS.iloadN X0.here hx rfl (hb hby own_d19_9) rfl k) ?_
    show Good p e below _ (s₁.setTop (mkF m 10 #[.val (.ref r0), .val (.ref r1), .val (.int (1 : Int32))] [(.int (1 : Int32))]))
    refine Good.back (fun _ k => XS.aloadN X0.here hx rfl (hb hby own_d19_10) rfl rfl k) ?_
    show Good p e below _ (s₁.setTop (mkF m 11 #[.val (.ref r0), .val (.ref r1), .val (.int (1 : Int32))] [(.ref r0), (.int (1 : Int32))]))
    have fc7 := V0
    obtain ⟨cl7, Ar7, qk7, S7, N7', H7, G7⟩ := fc7
    refine Good.back (X0.arraylength hx (by rw [e0]; exact Ar7.1) (State.isArrayOf_alike hZ.alike Ar7.2.1) (g := (mkF m 11 #[.val (.ref r0), .val (.ref r1), .val (.int (1 : Int32))] [(.ref r0), (.int (1 : Int32))])) rfl rfl (hb hby own_d19_11)) ?_
    rw [len_of S7 N7']
    show Good p e below _ (s₁.setTop (mkF m 12 #[.val (.ref r0), .val (.ref r1), .val (.int (1 : Int32))] [(.int (1 : Int32)), (.int (1 : Int32))]))
    refine Good.back (fun _ k => XS.icmpYes X0.here hx rfl (pc0 := 12) (pc' := 32) rfl (hb hby own_d19_12) rfl (flt (by decide : ¬ ((1 : Int32) < (1 : Int32)))).2.1 (by decide) (by decide) k) ?_
    show Good p e below _ (s₁.setTop (mkF m 32 #[.val (.ref r0), .val (.ref r1), .val (.int (1 : Int32))] []))
    refine Good.back (fun _ k => XS.iconst X0.here hx rfl (hb hby own_d19_32) k) ?_
    show Good p e below _ (s₁.setTop (mkF m 33 #[.val (.ref r0), .val (.ref r1), .val (.int (1 : Int32))] [(.int (1 : Int32))]))
    obtain ⟨fs8, hr8, hrun8, hended8, hW8, hsame8⟩ := X0.leave (v := some (.int (1 : Int32))) (fun h => by rw [Bd.returns] at h; cases h)
    refine Good.done (retN X0 hx (t := .boolean) Bd.returns (by simp) (hb hby own_d19_33) hr8) hrun8 hended8 ⟨_, _, rfl, ?_, ⟨_, rfl⟩, hW8, hsame8.mono (by decide) (by decide)⟩
    show Q19_11 Z r0 r1 k0 k1 d0 d1 h0 n0 _ s₁.heap _
    rw [e0]
    exact ⟨congrArg (fun z => some (Value.int z)) (by unfold own_eqi; rw [if_pos hc21_6]), N0, rfl⟩
  · refine Good.back (fun _ k => XS.icmpNo X0.here hx rfl (hb hby own_d19_21) rfl (feq hc21_6).1 k) ?_
    show Good p e below _ (s₁.setTop (mkF m 24 #[.val (.ref r0), .val (.ref r1), .val (.int (0 : Int32))] []))
    refine Good.back (fun _ k => XS.iconst X0.here hx rfl (hb hby own_d19_24) k) ?_
    show Good p e below _ (s₁.setTop (mkF m 25 #[.val (.ref r0), .val (.ref r1), .val (.int (0 : Int32))] [(.int (0 : Int32))]))
    obtain ⟨fs9, hr9, hrun9, hended9, hW9, hsame9⟩ := X0.leave (v := some (.int (0 : Int32))) (fun h => by rw [Bd.returns] at h; cases h)
    refine Good.done (retN X0 hx (t := .boolean) Bd.returns (by simp) (hb hby own_d19_25) hr9) hrun9 hended9 ⟨_, _, rfl, ?_, ⟨_, rfl⟩, hW9, hsame9.mono (by decide) (by decide)⟩
    show Q19_11 Z r0 r1 k0 k1 d0 d1 h0 n0 _ s₁.heap _
    rw [e0]
    exact ⟨congrArg (fun z => some (Value.int z)) (by unfold own_eqi; rw [if_neg hc21_6]), N0, rfl⟩
theorem own_pd222 : parseMethodDescriptor "([B[B)Z" = some ⟨[(.array .byte), (.array .byte)], some .boolean⟩ := by decide +kernel
theorem own_d14_0 : decode jdk_42_method_66_code 0 = .ok (.aload_n 0, 1) := by decide +kernel
theorem own_d14_1 : decode jdk_42_method_66_code 1 = .ok (.aload_n 1, 1) := by decide +kernel
theorem own_d14_2 : decode jdk_42_method_66_code 2 = .ok (.if_acmp .ne 5, 3) := by decide +kernel
theorem own_d14_5 : decode jdk_42_method_66_code 5 = .ok (.iconst 1, 1) := by decide +kernel
theorem own_d14_6 : decode jdk_42_method_66_code 6 = .ok (.ireturn, 1) := by decide +kernel
theorem own_d14_7 : decode jdk_42_method_66_code 7 = .ok (.aload_n 1, 1) := by decide +kernel
theorem own_d14_8 : decode jdk_42_method_66_code 8 = .ok (.instanceof 10, 3) := by decide +kernel
theorem own_d14_11 : decode jdk_42_method_66_code 11 = .ok (.ifCond .eq 43, 3) := by decide +kernel
theorem own_d14_14 : decode jdk_42_method_66_code 14 = .ok (.aload_n 1, 1) := by decide +kernel
theorem own_d14_15 : decode jdk_42_method_66_code 15 = .ok (.checkcast 10, 3) := by decide +kernel
theorem own_d14_18 : decode jdk_42_method_66_code 18 = .ok (.astore_n 2, 1) := by decide +kernel
theorem own_d14_19 : decode jdk_42_method_66_code 19 = .ok (.getstatic 38, 3) := by decide +kernel
theorem own_d14_22 : decode jdk_42_method_66_code 22 = .ok (.ifCond .eq 14, 3) := by decide +kernel
theorem own_d14_25 : decode jdk_42_method_66_code 25 = .ok (.aload_n 0, 1) := by decide +kernel
theorem own_d14_26 : decode jdk_42_method_66_code 26 = .ok (.getfield 15, 3) := by decide +kernel
theorem own_d14_29 : decode jdk_42_method_66_code 29 = .ok (.aload_n 2, 1) := by decide +kernel
theorem own_d14_30 : decode jdk_42_method_66_code 30 = .ok (.getfield 15, 3) := by decide +kernel
theorem own_d14_33 : decode jdk_42_method_66_code 33 = .ok (.if_icmp .ne 21, 3) := by decide +kernel
theorem own_d14_36 : decode jdk_42_method_66_code 36 = .ok (.aload_n 0, 1) := by decide +kernel
theorem own_d14_37 : decode jdk_42_method_66_code 37 = .ok (.getfield 9, 3) := by decide +kernel
theorem own_d14_40 : decode jdk_42_method_66_code 40 = .ok (.aload_n 2, 1) := by decide +kernel
theorem own_d14_41 : decode jdk_42_method_66_code 41 = .ok (.getfield 9, 3) := by decide +kernel
theorem own_d14_44 : decode jdk_42_method_66_code 44 = .ok (.invokestatic 541, 3) := by decide +kernel
theorem own_d14_47 : decode jdk_42_method_66_code 47 = .ok (.ifCond .eq 7, 3) := by decide +kernel
theorem own_d14_50 : decode jdk_42_method_66_code 50 = .ok (.iconst 1, 1) := by decide +kernel
theorem own_d14_51 : decode jdk_42_method_66_code 51 = .ok (.goto 4, 3) := by decide +kernel
theorem own_d14_54 : decode jdk_42_method_66_code 54 = .ok (.iconst 0, 1) := by decide +kernel
theorem own_d14_55 : decode jdk_42_method_66_code 55 = .ok (.ireturn, 1) := by decide +kernel
theorem own_ef_14 (m : MethodId) (x0 : Addr) (x1 : Addr) : entryFrame m #[(.ref x0), (.ref x1)] 3 = mkF m 0 #[.val (.ref x0), .val (.ref x1), .unset] [] := by first | (simp [entryFrame, mkF, argsToLocals, Value.category]; done) | rfl
def Q14 (Z : State) (r0 : Addr) (r1 : Addr) (a0_ : Addr) (a1_ : Addr) (k0 : ClassId) (k1 : ClassId) (pa : Int32) (ca : Int32) (pb : Int32) (cb : Int32) (cs : Int32) (h0 : Heap) (n0 : Nat) (v : Option Value) (h : Heap) (L : List Loc) : Prop := v = some (.int (own_seq pa ca pb cb)) ∧ Fr n0 L ∧ h = h0
set_option maxRecDepth 65536 in
set_option maxHeartbeats 40000000 in
theorem rm14 (l : Launch) (Z : State) (a0 : Array Value) (hw : ∀ d ∈ tables_1, d.before a0 Z = true) (ws : List Jvm.Cond) (r0 : Addr) (r1 : Addr) (a0_ : Addr) (a1_ : Addr) (k0 : ClassId) (k1 : ClassId) (pa : Int32) (ca : Int32) (pb : Int32) (cb : Int32) (cs : Int32) (h0 : Heap) (n0 : Nat) (Z0 : n0 ≤ h0.size) (S_cs : Sta Z h0 "java/lang/String" "COMPACT_STRINGS" "Z" (.int cs)) (hcs : ¬ (cs = (0 : Int32))) (E0 : Exa Z h0 r0 "java/lang/String") (FV0 : Fld Z h0 r0 "java/lang/String" "value" "[B" (.ref a0_)) (FC0 : Fld Z h0 r0 "java/lang/String" "coder" "B" (.int (0 : Int32))) (VV0 : Arv Z h0 a0_ k0 .byte (own_sl pa) (own_sv pa ca) (.int (0 : Int32))) (E1 : Exa Z h0 r1 "java/lang/String") (FV1 : Fld Z h0 r1 "java/lang/String" "value" "[B" (.ref a1_)) (FC1 : Fld Z h0 r1 "java/lang/String" "coder" "B" (.int (0 : Int32))) (VV1 : Arv Z h0 a1_ k1 .byte (own_sl pb) (own_sv pb cb) (.int (0 : Int32))) :
    MetFree l (⟨"java/lang/String", "equals", "(Ljava/lang/Object;)Z"⟩ : MethodName) (head1 (Jvm.Cond.code (⟨"java/lang/String", "equals", "(Ljava/lang/Object;)Z"⟩ : MethodName) jdk_42_method_66_code 3 (some .boolean) :: ws) ({ frames := 1, cells := 0, slots := 0, locals := 14 } : Room)) (fun a U => a = #[(.ref r0), (.ref r1)] ∧ Z.Warmed39 U.vm ∧ U.heap = h0) (fun _ _ _ _ _ => True) (fun _ U o U' => ∃ v L, o = .returned v ∧ Q14 Z r0 r1 a0_ a1_ k0 k1 pa ca pb cb cs h0 n0 v U'.heap L ∧ FrameEnd U o U' L ({ frames := 1, cells := 0, slots := 0, locals := 14 } : Room).cells ({ frames := 1, cells := 0, slots := 0, locals := 14 } : Room).slots) := by
  refine MetFree.of_bodySF (plainFor_of_name own_pn2) hisR ?_
  intro p e s m args below meth c s₁ Bd hml0 hP hK
  obtain ⟨rfl, hZ, hh⟩ := hP
  have hx := Bd.exec
  have hby := Bd.bytes
  have hml : c.maxLocals = 3 := hml0
  have hown : s.vm.findClass "java/lang/String" = some m.cls := findClass_of_methodNamed Bd.named
  have hnm := (name_of_methodNamed Bd.named Bd.method).1
  have X0 : Stand p l e ({ frames := 1, cells := 0, slots := 0, locals := 14 } : Room) s m #[(.ref r0), (.ref r1)] below meth c s₁ [] 0 0 := Stand.of_body Bd
  have e0 : s₁.heap = h0 := by rw [← hh, Bd.state]; rfl
  have N0 := Fr.nil n0
  show Good p e below (fun o U' => ∃ v L, o = .returned v ∧ Q14 Z r0 r1 a0_ a1_ k0 k1 pa ca pb cb cs h0 n0 v U'.heap L ∧ FrameEnd s o U' L ({ frames := 1, cells := 0, slots := 0, locals := 14 } : Room).cells ({ frames := 1, cells := 0, slots := 0, locals := 14 } : Room).slots) _
  refine Good.back (S' := s₁.setTop (mkF m 0 #[.val (.ref r0), .val (.ref r1), .unset] [])) (fun t k => castTop (own_ef_14 m r0 r1) k) ?_
  show Good p e below _ (s₁.setTop (mkF m 0 #[.val (.ref r0), .val (.ref r1), .unset] []))
  by_cases hpa : pa = 0
  · have V0l : Arv Z h0 a0_ k0 .byte (0 : Int32) [] (.int (0 : Int32)) := by have q := VV0; rw [own_sl0 hpa, own_sv0 hpa] at q; exact q
    by_cases hpb : pb = 0
    · have V1l : Arv Z h0 a1_ k1 .byte (0 : Int32) [] (.int (0 : Int32)) := by have q := VV1; rw [own_sl0 hpb, own_sv0 hpb] at q; exact q
      show Good p e below _ (s₁.setTop (mkF m 0 #[.val (.ref r0), .val (.ref r1), .unset] []))
      refine Good.back (fun _ k => XS.aloadN X0.here hx rfl (hb hby own_d14_0) rfl rfl k) ?_
      show Good p e below _ (s₁.setTop (mkF m 1 #[.val (.ref r0), .val (.ref r1), .unset] [(.ref r0)]))
      refine Good.back (fun _ k => XS.aloadN X0.here hx rfl (hb hby own_d14_1) rfl rfl k) ?_
      show Good p e below _ (s₁.setTop (mkF m 2 #[.val (.ref r0), .val (.ref r1), .unset] [(.ref r1), (.ref r0)]))
      by_cases ha2_1 : r0 = r1
      · refine Good.back (fun _ k => Jvm.RoadKit.acmp (g := (mkF m 2 #[.val (.ref r0), .val (.ref r1), .unset] [(.ref r1), (.ref r0)])) X0 hx rfl rfl rfl (pc0 := 2) (pc' := 5) (same := true) rfl (hb hby own_d14_2) rfl (decide_eq_true (congrArg Value.ref ha2_1)) (by decide) (by decide) k) ?_
        show Good p e below _ (s₁.setTop (mkF m 5 #[.val (.ref r0), .val (.ref r1), .unset] []))
        refine Good.back (fun _ k => XS.iconst X0.here hx rfl (hb hby own_d14_5) k) ?_
        show Good p e below _ (s₁.setTop (mkF m 6 #[.val (.ref r0), .val (.ref r1), .unset] [(.int (1 : Int32))]))
        obtain ⟨fs2, hr2, hrun2, hended2, hW2, hsame2⟩ := X0.leave (v := some (.int (1 : Int32))) (fun h => by rw [Bd.returns] at h; cases h)
        refine Good.done (retN X0 hx (t := .boolean) Bd.returns (by simp) (hb hby own_d14_6) hr2) hrun2 hended2 ⟨_, _, rfl, ?_, ⟨_, rfl⟩, hW2, hsame2.mono (by decide) (by decide)⟩
        show Q14 Z r0 r1 a0_ a1_ k0 k1 pa ca pb cb cs h0 n0 _ s₁.heap _
        rw [e0]
        exact ⟨congrArg (fun z => some (Value.int z)) ((own_seq00 hpa hpb).symm), N0, rfl⟩
      · refine Good.back (fun _ k => Jvm.RoadKit.acmp (g := (mkF m 2 #[.val (.ref r0), .val (.ref r1), .unset] [(.ref r1), (.ref r0)])) X0 hx rfl rfl rfl (pc0 := 2) (pc' := 7) (same := false) rfl (hb hby own_d14_2) rfl (decide_eq_false fun q => ha2_1 (Value.ref.inj q)) (by decide) (by decide) k) ?_
        show Good p e below _ (s₁.setTop (mkF m 7 #[.val (.ref r0), .val (.ref r1), .unset] []))
        refine Good.back (fun _ k => XS.aloadN X0.here hx rfl (hb hby own_d14_7) rfl rfl k) ?_
        show Good p e below _ (s₁.setTop (mkF m 8 #[.val (.ref r0), .val (.ref r1), .unset] [(.ref r1)]))
        obtain ⟨T3, X3, e3, st3⟩ := instY X0 hx hZ hown (hw _ (List.mem_of_getElem? (i := 85) rfl)) e0 (Ins.self E1) (g := (mkF m 8 #[.val (.ref r0), .val (.ref r1), .unset] [(.ref r1)])) rfl rfl (hb hby own_d14_8)
        refine Good.back st3 ?_
        show Good p e below _ (T3.setTop (mkF m 11 #[.val (.ref r0), .val (.ref r1), .unset] [(.int (1 : Int32))]))
        refine Good.back (fun _ k => XS.ifNo X3.here hx rfl (hb hby own_d14_11) rfl ((if0 _ _).trans (feq (by decide : ¬ ((1 : Int32) = (0 : Int32)))).1) k) ?_
        show Good p e below _ (T3.setTop (mkF m 14 #[.val (.ref r0), .val (.ref r1), .unset] []))
        refine Good.back (fun _ k => XS.aloadN X3.here hx rfl (hb hby own_d14_14) rfl rfl k) ?_
        show Good p e below _ (T3.setTop (mkF m 15 #[.val (.ref r0), .val (.ref r1), .unset] [(.ref r1)]))
        obtain ⟨T4, X4, e4, st4⟩ := castY X3 hx hZ hown (hw _ (List.mem_of_getElem? (i := 85) rfl)) e3 (Ins.self E1) (g := (mkF m 15 #[.val (.ref r0), .val (.ref r1), .unset] [(.ref r1)])) rfl rfl (hb hby own_d14_15)
        refine Good.back st4 ?_
        show Good p e below _ (T4.setTop (mkF m 18 #[.val (.ref r0), .val (.ref r1), .unset] [(.ref r1)]))
        refine Good.back (fun _ k => XS.astoreN X4.here hx rfl (hb hby own_d14_18) rfl rfl (l' := #[.val (.ref r0), .val (.ref r1), .val (.ref r1)]) rfl k) ?_
        show Good p e below _ (T4.setTop (mkF m 19 #[.val (.ref r0), .val (.ref r1), .val (.ref r1)] []))
        obtain ⟨T5, X5, e5, st5⟩ := getS2 X4 hx hZ hown (host := "") (Or.inl (hw _ (List.mem_of_getElem? (i := 80) rfl))) Via.refl e4 S_cs (g := (mkF m 19 #[.val (.ref r0), .val (.ref r1), .val (.ref r1)] [])) rfl (hb hby own_d14_19)
        refine Good.back st5 ?_
        show Good p e below _ (T5.setTop (mkF m 22 #[.val (.ref r0), .val (.ref r1), .val (.ref r1)] [(.int cs)]))
        refine Good.back (fun _ k => XS.ifNo X5.here hx rfl (hb hby own_d14_22) rfl ((if0 _ _).trans (feq hcs).1) k) ?_
        show Good p e below _ (T5.setTop (mkF m 25 #[.val (.ref r0), .val (.ref r1), .val (.ref r1)] []))
        refine Good.back (fun _ k => XS.aloadN X5.here hx rfl (hb hby own_d14_25) rfl rfl k) ?_
        show Good p e below _ (T5.setTop (mkF m 26 #[.val (.ref r0), .val (.ref r1), .val (.ref r1)] [(.ref r0)]))
        obtain ⟨T6, X6, e6, st6⟩ := getF X5 hx hZ hown (host := "") (Or.inl (hw _ (List.mem_of_getElem? (i := 94) rfl))) Via.refl e5 FC0 (g := (mkF m 26 #[.val (.ref r0), .val (.ref r1), .val (.ref r1)] [(.ref r0)])) rfl rfl (hb hby own_d14_26)
        refine Good.back st6 ?_
        show Good p e below _ (T6.setTop (mkF m 29 #[.val (.ref r0), .val (.ref r1), .val (.ref r1)] [(.int (0 : Int32))]))
        refine Good.back (fun _ k => XS.aloadN X6.here hx rfl (hb hby own_d14_29) rfl rfl k) ?_
        show Good p e below _ (T6.setTop (mkF m 30 #[.val (.ref r0), .val (.ref r1), .val (.ref r1)] [(.ref r1), (.int (0 : Int32))]))
        obtain ⟨T7, X7, e7, st7⟩ := getF X6 hx hZ hown (host := "") (Or.inl (hw _ (List.mem_of_getElem? (i := 94) rfl))) Via.refl e6 FC1 (g := (mkF m 30 #[.val (.ref r0), .val (.ref r1), .val (.ref r1)] [(.ref r1), (.int (0 : Int32))])) rfl rfl (hb hby own_d14_30)
        refine Good.back st7 ?_
        show Good p e below _ (T7.setTop (mkF m 33 #[.val (.ref r0), .val (.ref r1), .val (.ref r1)] [(.int (0 : Int32)), (.int (0 : Int32))]))
        refine Good.back (fun _ k => XS.icmpNo X7.here hx rfl (hb hby own_d14_33) rfl (teq (by decide : ((0 : Int32) = (0 : Int32)))).2 k) ?_
        show Good p e below _ (T7.setTop (mkF m 36 #[.val (.ref r0), .val (.ref r1), .val (.ref r1)] []))
        refine Good.back (fun _ k => XS.aloadN X7.here hx rfl (hb hby own_d14_36) rfl rfl k) ?_
        show Good p e below _ (T7.setTop (mkF m 37 #[.val (.ref r0), .val (.ref r1), .val (.ref r1)] [(.ref r0)]))
        obtain ⟨T8, X8, e8, st8⟩ := getF X7 hx hZ hown (host := "") (Or.inl (hw _ (List.mem_of_getElem? (i := 93) rfl))) Via.refl e7 FV0 (g := (mkF m 37 #[.val (.ref r0), .val (.ref r1), .val (.ref r1)] [(.ref r0)])) rfl rfl (hb hby own_d14_37)
        refine Good.back st8 ?_
        show Good p e below _ (T8.setTop (mkF m 40 #[.val (.ref r0), .val (.ref r1), .val (.ref r1)] [(.ref a0_)]))
        refine Good.back (fun _ k => XS.aloadN X8.here hx rfl (hb hby own_d14_40) rfl rfl k) ?_
        show Good p e below _ (T8.setTop (mkF m 41 #[.val (.ref r0), .val (.ref r1), .val (.ref r1)] [(.ref r1), (.ref a0_)]))
        obtain ⟨T9, X9, e9, st9⟩ := getF X8 hx hZ hown (host := "") (Or.inl (hw _ (List.mem_of_getElem? (i := 93) rfl))) Via.refl e8 FV1 (g := (mkF m 41 #[.val (.ref r0), .val (.ref r1), .val (.ref r1)] [(.ref r1), (.ref a0_)])) rfl rfl (hb hby own_d14_41)
        refine Good.back st9 ?_
        show Good p e below _ (T9.setTop (mkF m 44 #[.val (.ref r0), .val (.ref r1), .val (.ref r1)] [(.ref a1_), (.ref a0_)]))
        obtain ⟨_, _, ⟨T10, L10, k10, n10⟩, -, X10, ⟨Lc10, hQ10, l10, y10, z10⟩, st10⟩ := Jvm.LawKit.callS X9 hx (y := (⟨"java/lang/StringLatin1", "equals", "([B[B)Z"⟩ : MethodName)) hown (mvT hZ (hw _ (List.mem_of_getElem? (i := 97) rfl))) (mvT hZ (hw _ (List.mem_of_getElem? (i := 98) rfl))) (mvT hZ (hw _ (List.mem_of_getElem? (i := 83) rfl))) (mvT hZ (hw _ (List.mem_of_getElem? (i := 99) rfl))) (by decide) (backOf (W := 0) (rm19_00 l Z a0 hw [] a0_ a1_ k0 k1 h0 n0 Z0 V0l V1l) hZ (hw _ (List.mem_of_getElem? (i := 99) rfl)) (hw _ (List.mem_of_getElem? (i := 83) rfl)) (by decide) (by decide)) (g := (mkF m 44 #[.val (.ref r0), .val (.ref r1), .val (.ref r1)] [(.ref a1_), (.ref a0_)])) rfl (by rw [hml]; rfl) (argsL := [(.ref a0_), (.ref a1_)]) (rest := []) (lenOf own_pd222 rfl) rfl (by show 2 * 0 + _ ≤ _; exact Nat.le_of_eq rfl) (hb hby own_d14_44) (fun _ _ => ⟨rfl, e9, (by decide : 0 + 0 ≤ _), (by decide : 0 + 0 ≤ _)⟩)
        dsimp only [Pt.U, Pt.locs, Pt.cells, Pt.slots] at X10 l10 y10 z10 st10 hQ10
        subst l10 y10 z10
        obtain ⟨rfl, N10q, eh10⟩ := hQ10
        have N10 := Fr.app N0 N10q
        refine Good.back st10 ?_
        show Good p e below _ (T10.setTop (mkF m 47 #[.val (.ref r0), .val (.ref r1), .val (.ref r1)] [(.int (1 : Int32))]))
        refine Good.back (fun _ k => XS.ifNo X10.here hx rfl (hb hby own_d14_47) rfl ((if0 _ _).trans (feq (by decide : ¬ ((1 : Int32) = (0 : Int32)))).1) k) ?_
        show Good p e below _ (T10.setTop (mkF m 50 #[.val (.ref r0), .val (.ref r1), .val (.ref r1)] []))
        refine Good.back (fun _ k => XS.iconst X10.here hx rfl (hb hby own_d14_50) k) ?_
        show Good p e below _ (T10.setTop (mkF m 51 #[.val (.ref r0), .val (.ref r1), .val (.ref r1)] [(.int (1 : Int32))]))
        refine Good.back (fun _ k => XS.goto X10.here hx rfl (pc0 := 51) (pc' := 55) rfl (hb hby own_d14_51) (by decide) (by decide) k) ?_
        show Good p e below _ (T10.setTop (mkF m 55 #[.val (.ref r0), .val (.ref r1), .val (.ref r1)] [(.int (1 : Int32))]))
        obtain ⟨fs11, hr11, hrun11, hended11, hW11, hsame11⟩ := X10.leave (v := some (.int (1 : Int32))) (fun h => by rw [Bd.returns] at h; cases h)
        refine Good.done (retN X10 hx (t := .boolean) Bd.returns (by simp) (hb hby own_d14_55) hr11) hrun11 hended11 ⟨_, _, rfl, ?_, ⟨_, rfl⟩, hW11, hsame11.mono (by decide) (by decide)⟩
        show Q14 Z r0 r1 a0_ a1_ k0 k1 pa ca pb cb cs h0 n0 _ T10.heap _
        rw [eh10]
        exact ⟨congrArg (fun z => some (Value.int z)) ((own_seq00 hpa hpb).symm), N10, rfl⟩
    · have V1l : Arv Z h0 a1_ k1 .byte (1 : Int32) [(.int (own_by cb))] (.int (0 : Int32)) := by have q := VV1; rw [own_sl1 hpb, own_sv1 hpb] at q; exact q
      show Good p e below _ (s₁.setTop (mkF m 0 #[.val (.ref r0), .val (.ref r1), .unset] []))
      refine Good.back (fun _ k => XS.aloadN X0.here hx rfl (hb hby own_d14_0) rfl rfl k) ?_
      show Good p e below _ (s₁.setTop (mkF m 1 #[.val (.ref r0), .val (.ref r1), .unset] [(.ref r0)]))
      refine Good.back (fun _ k => XS.aloadN X0.here hx rfl (hb hby own_d14_1) rfl rfl k) ?_
      show Good p e below _ (s₁.setTop (mkF m 2 #[.val (.ref r0), .val (.ref r1), .unset] [(.ref r1), (.ref r0)]))
      by_cases ha2_12 : r0 = r1
      · refine Good.back (fun _ k => Jvm.RoadKit.acmp (g := (mkF m 2 #[.val (.ref r0), .val (.ref r1), .unset] [(.ref r1), (.ref r0)])) X0 hx rfl rfl rfl (pc0 := 2) (pc' := 5) (same := true) rfl (hb hby own_d14_2) rfl (decide_eq_true (congrArg Value.ref ha2_12)) (by decide) (by decide) k) ?_
        show Good p e below _ (s₁.setTop (mkF m 5 #[.val (.ref r0), .val (.ref r1), .unset] []))
        refine Good.back (fun _ k => XS.iconst X0.here hx rfl (hb hby own_d14_5) k) ?_
        show Good p e below _ (s₁.setTop (mkF m 6 #[.val (.ref r0), .val (.ref r1), .unset] [(.int (1 : Int32))]))
        obtain ⟨fs13, hr13, hrun13, hended13, hW13, hsame13⟩ := X0.leave (v := some (.int (1 : Int32))) (fun h => by rw [Bd.returns] at h; cases h)
        refine Good.done (retN X0 hx (t := .boolean) Bd.returns (by simp) (hb hby own_d14_6) hr13) hrun13 hended13 ⟨_, _, rfl, ?_, ⟨_, rfl⟩, hW13, hsame13.mono (by decide) (by decide)⟩
        show Q14 Z r0 r1 a0_ a1_ k0 k1 pa ca pb cb cs h0 n0 _ s₁.heap _
        rw [e0]
        exact absurd ha2_12 (Fld.ne FV0 FV1 (fun q => (arv_ne V0l V1l (Or.inl (by decide))) (Value.ref.inj q)))
      · refine Good.back (fun _ k => Jvm.RoadKit.acmp (g := (mkF m 2 #[.val (.ref r0), .val (.ref r1), .unset] [(.ref r1), (.ref r0)])) X0 hx rfl rfl rfl (pc0 := 2) (pc' := 7) (same := false) rfl (hb hby own_d14_2) rfl (decide_eq_false fun q => ha2_12 (Value.ref.inj q)) (by decide) (by decide) k) ?_
        show Good p e below _ (s₁.setTop (mkF m 7 #[.val (.ref r0), .val (.ref r1), .unset] []))
        refine Good.back (fun _ k => XS.aloadN X0.here hx rfl (hb hby own_d14_7) rfl rfl k) ?_
        show Good p e below _ (s₁.setTop (mkF m 8 #[.val (.ref r0), .val (.ref r1), .unset] [(.ref r1)]))
        obtain ⟨T14, X14, e14, st14⟩ := instY X0 hx hZ hown (hw _ (List.mem_of_getElem? (i := 85) rfl)) e0 (Ins.self E1) (g := (mkF m 8 #[.val (.ref r0), .val (.ref r1), .unset] [(.ref r1)])) rfl rfl (hb hby own_d14_8)
        refine Good.back st14 ?_
        show Good p e below _ (T14.setTop (mkF m 11 #[.val (.ref r0), .val (.ref r1), .unset] [(.int (1 : Int32))]))
        refine Good.back (fun _ k => XS.ifNo X14.here hx rfl (hb hby own_d14_11) rfl ((if0 _ _).trans (feq (by decide : ¬ ((1 : Int32) = (0 : Int32)))).1) k) ?_
        show Good p e below _ (T14.setTop (mkF m 14 #[.val (.ref r0), .val (.ref r1), .unset] []))
        refine Good.back (fun _ k => XS.aloadN X14.here hx rfl (hb hby own_d14_14) rfl rfl k) ?_
        show Good p e below _ (T14.setTop (mkF m 15 #[.val (.ref r0), .val (.ref r1), .unset] [(.ref r1)]))
        obtain ⟨T15, X15, e15, st15⟩ := castY X14 hx hZ hown (hw _ (List.mem_of_getElem? (i := 85) rfl)) e14 (Ins.self E1) (g := (mkF m 15 #[.val (.ref r0), .val (.ref r1), .unset] [(.ref r1)])) rfl rfl (hb hby own_d14_15)
        refine Good.back st15 ?_
        show Good p e below _ (T15.setTop (mkF m 18 #[.val (.ref r0), .val (.ref r1), .unset] [(.ref r1)]))
        refine Good.back (fun _ k => XS.astoreN X15.here hx rfl (hb hby own_d14_18) rfl rfl (l' := #[.val (.ref r0), .val (.ref r1), .val (.ref r1)]) rfl k) ?_
        show Good p e below _ (T15.setTop (mkF m 19 #[.val (.ref r0), .val (.ref r1), .val (.ref r1)] []))
        obtain ⟨T16, X16, e16, st16⟩ := getS2 X15 hx hZ hown (host := "") (Or.inl (hw _ (List.mem_of_getElem? (i := 80) rfl))) Via.refl e15 S_cs (g := (mkF m 19 #[.val (.ref r0), .val (.ref r1), .val (.ref r1)] [])) rfl (hb hby own_d14_19)
        refine Good.back st16 ?_
        show Good p e below _ (T16.setTop (mkF m 22 #[.val (.ref r0), .val (.ref r1), .val (.ref r1)] [(.int cs)]))
        refine Good.back (fun _ k => XS.ifNo X16.here hx rfl (hb hby own_d14_22) rfl ((if0 _ _).trans (feq hcs).1) k) ?_
        show Good p e below _ (T16.setTop (mkF m 25 #[.val (.ref r0), .val (.ref r1), .val (.ref r1)] []))
        refine Good.back (fun _ k => XS.aloadN X16.here hx rfl (hb hby own_d14_25) rfl rfl k) ?_
        show Good p e below _ (T16.setTop (mkF m 26 #[.val (.ref r0), .val (.ref r1), .val (.ref r1)] [(.ref r0)]))
        obtain ⟨T17, X17, e17, st17⟩ := getF X16 hx hZ hown (host := "") (Or.inl (hw _ (List.mem_of_getElem? (i := 94) rfl))) Via.refl e16 FC0 (g := (mkF m 26 #[.val (.ref r0), .val (.ref r1), .val (.ref r1)] [(.ref r0)])) rfl rfl (hb hby own_d14_26)
        refine Good.back st17 ?_
        show Good p e below _ (T17.setTop (mkF m 29 #[.val (.ref r0), .val (.ref r1), .val (.ref r1)] [(.int (0 : Int32))]))
        refine Good.back (fun _ k => XS.aloadN X17.here hx rfl (hb hby own_d14_29) rfl rfl k) ?_
        show Good p e below _ (T17.setTop (mkF m 30 #[.val (.ref r0), .val (.ref r1), .val (.ref r1)] [(.ref r1), (.int (0 : Int32))]))
        obtain ⟨T18, X18, e18, st18⟩ := getF X17 hx hZ hown (host := "") (Or.inl (hw _ (List.mem_of_getElem? (i := 94) rfl))) Via.refl e17 FC1 (g := (mkF m 30 #[.val (.ref r0), .val (.ref r1), .val (.ref r1)] [(.ref r1), (.int (0 : Int32))])) rfl rfl (hb hby own_d14_30)
        refine Good.back st18 ?_
        show Good p e below _ (T18.setTop (mkF m 33 #[.val (.ref r0), .val (.ref r1), .val (.ref r1)] [(.int (0 : Int32)), (.int (0 : Int32))]))
        refine Good.back (fun _ k => XS.icmpNo X18.here hx rfl (hb hby own_d14_33) rfl (teq (by decide : ((0 : Int32) = (0 : Int32)))).2 k) ?_
        show Good p e below _ (T18.setTop (mkF m 36 #[.val (.ref r0), .val (.ref r1), .val (.ref r1)] []))
        refine Good.back (fun _ k => XS.aloadN X18.here hx rfl (hb hby own_d14_36) rfl rfl k) ?_
        show Good p e below _ (T18.setTop (mkF m 37 #[.val (.ref r0), .val (.ref r1), .val (.ref r1)] [(.ref r0)]))
        obtain ⟨T19, X19, e19, st19⟩ := getF X18 hx hZ hown (host := "") (Or.inl (hw _ (List.mem_of_getElem? (i := 93) rfl))) Via.refl e18 FV0 (g := (mkF m 37 #[.val (.ref r0), .val (.ref r1), .val (.ref r1)] [(.ref r0)])) rfl rfl (hb hby own_d14_37)
        refine Good.back st19 ?_
        show Good p e below _ (T19.setTop (mkF m 40 #[.val (.ref r0), .val (.ref r1), .val (.ref r1)] [(.ref a0_)]))
        refine Good.back (fun _ k => XS.aloadN X19.here hx rfl (hb hby own_d14_40) rfl rfl k) ?_
        show Good p e below _ (T19.setTop (mkF m 41 #[.val (.ref r0), .val (.ref r1), .val (.ref r1)] [(.ref r1), (.ref a0_)]))
        obtain ⟨T20, X20, e20, st20⟩ := getF X19 hx hZ hown (host := "") (Or.inl (hw _ (List.mem_of_getElem? (i := 93) rfl))) Via.refl e19 FV1 (g := (mkF m 41 #[.val (.ref r0), .val (.ref r1), .val (.ref r1)] [(.ref r1), (.ref a0_)])) rfl rfl (hb hby own_d14_41)
        refine Good.back st20 ?_
        show Good p e below _ (T20.setTop (mkF m 44 #[.val (.ref r0), .val (.ref r1), .val (.ref r1)] [(.ref a1_), (.ref a0_)]))
        obtain ⟨_, _, ⟨T21, L21, k21, n21⟩, -, X21, ⟨Lc21, hQ21, l21, y21, z21⟩, st21⟩ := Jvm.LawKit.callS X20 hx (y := (⟨"java/lang/StringLatin1", "equals", "([B[B)Z"⟩ : MethodName)) hown (mvT hZ (hw _ (List.mem_of_getElem? (i := 97) rfl))) (mvT hZ (hw _ (List.mem_of_getElem? (i := 98) rfl))) (mvT hZ (hw _ (List.mem_of_getElem? (i := 83) rfl))) (mvT hZ (hw _ (List.mem_of_getElem? (i := 99) rfl))) (by decide) (backOf (W := 0) (rm19_01 l Z a0 hw [] a0_ a1_ k0 k1 (own_by cb) h0 n0 Z0 V0l V1l) hZ (hw _ (List.mem_of_getElem? (i := 99) rfl)) (hw _ (List.mem_of_getElem? (i := 83) rfl)) (by decide) (by decide)) (g := (mkF m 44 #[.val (.ref r0), .val (.ref r1), .val (.ref r1)] [(.ref a1_), (.ref a0_)])) rfl (by rw [hml]; rfl) (argsL := [(.ref a0_), (.ref a1_)]) (rest := []) (lenOf own_pd222 rfl) rfl (by show 2 * 0 + _ ≤ _; exact Nat.le_of_eq rfl) (hb hby own_d14_44) (fun _ _ => ⟨rfl, e20, (by decide : 0 + 0 ≤ _), (by decide : 0 + 0 ≤ _)⟩)
        dsimp only [Pt.U, Pt.locs, Pt.cells, Pt.slots] at X21 l21 y21 z21 st21 hQ21
        subst l21 y21 z21
        obtain ⟨rfl, N21q, eh21⟩ := hQ21
        have N21 := Fr.app N0 N21q
        refine Good.back st21 ?_
        show Good p e below _ (T21.setTop (mkF m 47 #[.val (.ref r0), .val (.ref r1), .val (.ref r1)] [(.int (0 : Int32))]))
        refine Good.back (fun _ k => XS.ifYes X21.here hx rfl (pc0 := 47) (pc' := 54) rfl (hb hby own_d14_47) rfl ((if0 _ _).trans (teq (by decide : ((0 : Int32) = (0 : Int32)))).1) (by decide) (by decide) k) ?_
        show Good p e below _ (T21.setTop (mkF m 54 #[.val (.ref r0), .val (.ref r1), .val (.ref r1)] []))
        refine Good.back (fun _ k => XS.iconst X21.here hx rfl (hb hby own_d14_54) k) ?_
        show Good p e below _ (T21.setTop (mkF m 55 #[.val (.ref r0), .val (.ref r1), .val (.ref r1)] [(.int (0 : Int32))]))
        obtain ⟨fs22, hr22, hrun22, hended22, hW22, hsame22⟩ := X21.leave (v := some (.int (0 : Int32))) (fun h => by rw [Bd.returns] at h; cases h)
        refine Good.done (retN X21 hx (t := .boolean) Bd.returns (by simp) (hb hby own_d14_55) hr22) hrun22 hended22 ⟨_, _, rfl, ?_, ⟨_, rfl⟩, hW22, hsame22.mono (by decide) (by decide)⟩
        show Q14 Z r0 r1 a0_ a1_ k0 k1 pa ca pb cb cs h0 n0 _ T21.heap _
        rw [eh21]
        exact ⟨congrArg (fun z => some (Value.int z)) ((own_seq01 hpa hpb).symm), N21, rfl⟩
  · have V0l : Arv Z h0 a0_ k0 .byte (1 : Int32) [(.int (own_by ca))] (.int (0 : Int32)) := by have q := VV0; rw [own_sl1 hpa, own_sv1 hpa] at q; exact q
    by_cases hpb : pb = 0
    · have V1l : Arv Z h0 a1_ k1 .byte (0 : Int32) [] (.int (0 : Int32)) := by have q := VV1; rw [own_sl0 hpb, own_sv0 hpb] at q; exact q
      show Good p e below _ (s₁.setTop (mkF m 0 #[.val (.ref r0), .val (.ref r1), .unset] []))
      refine Good.back (fun _ k => XS.aloadN X0.here hx rfl (hb hby own_d14_0) rfl rfl k) ?_
      show Good p e below _ (s₁.setTop (mkF m 1 #[.val (.ref r0), .val (.ref r1), .unset] [(.ref r0)]))
      refine Good.back (fun _ k => XS.aloadN X0.here hx rfl (hb hby own_d14_1) rfl rfl k) ?_
      show Good p e below _ (s₁.setTop (mkF m 2 #[.val (.ref r0), .val (.ref r1), .unset] [(.ref r1), (.ref r0)]))
      by_cases ha2_23 : r0 = r1
      · refine Good.back (fun _ k => Jvm.RoadKit.acmp (g := (mkF m 2 #[.val (.ref r0), .val (.ref r1), .unset] [(.ref r1), (.ref r0)])) X0 hx rfl rfl rfl (pc0 := 2) (pc' := 5) (same := true) rfl (hb hby own_d14_2) rfl (decide_eq_true (congrArg Value.ref ha2_23)) (by decide) (by decide) k) ?_
        show Good p e below _ (s₁.setTop (mkF m 5 #[.val (.ref r0), .val (.ref r1), .unset] []))
        refine Good.back (fun _ k => XS.iconst X0.here hx rfl (hb hby own_d14_5) k) ?_
        show Good p e below _ (s₁.setTop (mkF m 6 #[.val (.ref r0), .val (.ref r1), .unset] [(.int (1 : Int32))]))
        obtain ⟨fs24, hr24, hrun24, hended24, hW24, hsame24⟩ := X0.leave (v := some (.int (1 : Int32))) (fun h => by rw [Bd.returns] at h; cases h)
        refine Good.done (retN X0 hx (t := .boolean) Bd.returns (by simp) (hb hby own_d14_6) hr24) hrun24 hended24 ⟨_, _, rfl, ?_, ⟨_, rfl⟩, hW24, hsame24.mono (by decide) (by decide)⟩
        show Q14 Z r0 r1 a0_ a1_ k0 k1 pa ca pb cb cs h0 n0 _ s₁.heap _
        rw [e0]
        exact absurd ha2_23 (Fld.ne FV0 FV1 (fun q => (arv_ne V0l V1l (Or.inl (by decide))) (Value.ref.inj q)))
      · refine Good.back (fun _ k => Jvm.RoadKit.acmp (g := (mkF m 2 #[.val (.ref r0), .val (.ref r1), .unset] [(.ref r1), (.ref r0)])) X0 hx rfl rfl rfl (pc0 := 2) (pc' := 7) (same := false) rfl (hb hby own_d14_2) rfl (decide_eq_false fun q => ha2_23 (Value.ref.inj q)) (by decide) (by decide) k) ?_
        show Good p e below _ (s₁.setTop (mkF m 7 #[.val (.ref r0), .val (.ref r1), .unset] []))
        refine Good.back (fun _ k => XS.aloadN X0.here hx rfl (hb hby own_d14_7) rfl rfl k) ?_
        show Good p e below _ (s₁.setTop (mkF m 8 #[.val (.ref r0), .val (.ref r1), .unset] [(.ref r1)]))
        obtain ⟨T25, X25, e25, st25⟩ := instY X0 hx hZ hown (hw _ (List.mem_of_getElem? (i := 85) rfl)) e0 (Ins.self E1) (g := (mkF m 8 #[.val (.ref r0), .val (.ref r1), .unset] [(.ref r1)])) rfl rfl (hb hby own_d14_8)
        refine Good.back st25 ?_
        show Good p e below _ (T25.setTop (mkF m 11 #[.val (.ref r0), .val (.ref r1), .unset] [(.int (1 : Int32))]))
        refine Good.back (fun _ k => XS.ifNo X25.here hx rfl (hb hby own_d14_11) rfl ((if0 _ _).trans (feq (by decide : ¬ ((1 : Int32) = (0 : Int32)))).1) k) ?_
        show Good p e below _ (T25.setTop (mkF m 14 #[.val (.ref r0), .val (.ref r1), .unset] []))
        refine Good.back (fun _ k => XS.aloadN X25.here hx rfl (hb hby own_d14_14) rfl rfl k) ?_
        show Good p e below _ (T25.setTop (mkF m 15 #[.val (.ref r0), .val (.ref r1), .unset] [(.ref r1)]))
        obtain ⟨T26, X26, e26, st26⟩ := castY X25 hx hZ hown (hw _ (List.mem_of_getElem? (i := 85) rfl)) e25 (Ins.self E1) (g := (mkF m 15 #[.val (.ref r0), .val (.ref r1), .unset] [(.ref r1)])) rfl rfl (hb hby own_d14_15)
        refine Good.back st26 ?_
        show Good p e below _ (T26.setTop (mkF m 18 #[.val (.ref r0), .val (.ref r1), .unset] [(.ref r1)]))
        refine Good.back (fun _ k => XS.astoreN X26.here hx rfl (hb hby own_d14_18) rfl rfl (l' := #[.val (.ref r0), .val (.ref r1), .val (.ref r1)]) rfl k) ?_
        show Good p e below _ (T26.setTop (mkF m 19 #[.val (.ref r0), .val (.ref r1), .val (.ref r1)] []))
        obtain ⟨T27, X27, e27, st27⟩ := getS2 X26 hx hZ hown (host := "") (Or.inl (hw _ (List.mem_of_getElem? (i := 80) rfl))) Via.refl e26 S_cs (g := (mkF m 19 #[.val (.ref r0), .val (.ref r1), .val (.ref r1)] [])) rfl (hb hby own_d14_19)
        refine Good.back st27 ?_
        show Good p e below _ (T27.setTop (mkF m 22 #[.val (.ref r0), .val (.ref r1), .val (.ref r1)] [(.int cs)]))
        refine Good.back (fun _ k => XS.ifNo X27.here hx rfl (hb hby own_d14_22) rfl ((if0 _ _).trans (feq hcs).1) k) ?_
        show Good p e below _ (T27.setTop (mkF m 25 #[.val (.ref r0), .val (.ref r1), .val (.ref r1)] []))
        refine Good.back (fun _ k => XS.aloadN X27.here hx rfl (hb hby own_d14_25) rfl rfl k) ?_
        show Good p e below _ (T27.setTop (mkF m 26 #[.val (.ref r0), .val (.ref r1), .val (.ref r1)] [(.ref r0)]))
        obtain ⟨T28, X28, e28, st28⟩ := getF X27 hx hZ hown (host := "") (Or.inl (hw _ (List.mem_of_getElem? (i := 94) rfl))) Via.refl e27 FC0 (g := (mkF m 26 #[.val (.ref r0), .val (.ref r1), .val (.ref r1)] [(.ref r0)])) rfl rfl (hb hby own_d14_26)
        refine Good.back st28 ?_
        show Good p e below _ (T28.setTop (mkF m 29 #[.val (.ref r0), .val (.ref r1), .val (.ref r1)] [(.int (0 : Int32))]))
        refine Good.back (fun _ k => XS.aloadN X28.here hx rfl (hb hby own_d14_29) rfl rfl k) ?_
        show Good p e below _ (T28.setTop (mkF m 30 #[.val (.ref r0), .val (.ref r1), .val (.ref r1)] [(.ref r1), (.int (0 : Int32))]))
        obtain ⟨T29, X29, e29, st29⟩ := getF X28 hx hZ hown (host := "") (Or.inl (hw _ (List.mem_of_getElem? (i := 94) rfl))) Via.refl e28 FC1 (g := (mkF m 30 #[.val (.ref r0), .val (.ref r1), .val (.ref r1)] [(.ref r1), (.int (0 : Int32))])) rfl rfl (hb hby own_d14_30)
        refine Good.back st29 ?_
        show Good p e below _ (T29.setTop (mkF m 33 #[.val (.ref r0), .val (.ref r1), .val (.ref r1)] [(.int (0 : Int32)), (.int (0 : Int32))]))
        refine Good.back (fun _ k => XS.icmpNo X29.here hx rfl (hb hby own_d14_33) rfl (teq (by decide : ((0 : Int32) = (0 : Int32)))).2 k) ?_
        show Good p e below _ (T29.setTop (mkF m 36 #[.val (.ref r0), .val (.ref r1), .val (.ref r1)] []))
        refine Good.back (fun _ k => XS.aloadN X29.here hx rfl (hb hby own_d14_36) rfl rfl k) ?_
        show Good p e below _ (T29.setTop (mkF m 37 #[.val (.ref r0), .val (.ref r1), .val (.ref r1)] [(.ref r0)]))
        obtain ⟨T30, X30, e30, st30⟩ := getF X29 hx hZ hown (host := "") (Or.inl (hw _ (List.mem_of_getElem? (i := 93) rfl))) Via.refl e29 FV0 (g := (mkF m 37 #[.val (.ref r0), .val (.ref r1), .val (.ref r1)] [(.ref r0)])) rfl rfl (hb hby own_d14_37)
        refine Good.back st30 ?_
        show Good p e below _ (T30.setTop (mkF m 40 #[.val (.ref r0), .val (.ref r1), .val (.ref r1)] [(.ref a0_)]))
        refine Good.back (fun _ k => XS.aloadN X30.here hx rfl (hb hby own_d14_40) rfl rfl k) ?_
        show Good p e below _ (T30.setTop (mkF m 41 #[.val (.ref r0), .val (.ref r1), .val (.ref r1)] [(.ref r1), (.ref a0_)]))
        obtain ⟨T31, X31, e31, st31⟩ := getF X30 hx hZ hown (host := "") (Or.inl (hw _ (List.mem_of_getElem? (i := 93) rfl))) Via.refl e30 FV1 (g := (mkF m 41 #[.val (.ref r0), .val (.ref r1), .val (.ref r1)] [(.ref r1), (.ref a0_)])) rfl rfl (hb hby own_d14_41)
        refine Good.back st31 ?_
        show Good p e below _ (T31.setTop (mkF m 44 #[.val (.ref r0), .val (.ref r1), .val (.ref r1)] [(.ref a1_), (.ref a0_)]))
        obtain ⟨_, _, ⟨T32, L32, k32, n32⟩, -, X32, ⟨Lc32, hQ32, l32, y32, z32⟩, st32⟩ := Jvm.LawKit.callS X31 hx (y := (⟨"java/lang/StringLatin1", "equals", "([B[B)Z"⟩ : MethodName)) hown (mvT hZ (hw _ (List.mem_of_getElem? (i := 97) rfl))) (mvT hZ (hw _ (List.mem_of_getElem? (i := 98) rfl))) (mvT hZ (hw _ (List.mem_of_getElem? (i := 83) rfl))) (mvT hZ (hw _ (List.mem_of_getElem? (i := 99) rfl))) (by decide) (backOf (W := 0) (rm19_10 l Z a0 hw [] a0_ a1_ k0 k1 (own_by ca) h0 n0 Z0 V0l V1l) hZ (hw _ (List.mem_of_getElem? (i := 99) rfl)) (hw _ (List.mem_of_getElem? (i := 83) rfl)) (by decide) (by decide)) (g := (mkF m 44 #[.val (.ref r0), .val (.ref r1), .val (.ref r1)] [(.ref a1_), (.ref a0_)])) rfl (by rw [hml]; rfl) (argsL := [(.ref a0_), (.ref a1_)]) (rest := []) (lenOf own_pd222 rfl) rfl (by show 2 * 0 + _ ≤ _; exact Nat.le_of_eq rfl) (hb hby own_d14_44) (fun _ _ => ⟨rfl, e31, (by decide : 0 + 0 ≤ _), (by decide : 0 + 0 ≤ _)⟩)
        dsimp only [Pt.U, Pt.locs, Pt.cells, Pt.slots] at X32 l32 y32 z32 st32 hQ32
        subst l32 y32 z32
        obtain ⟨rfl, N32q, eh32⟩ := hQ32
        have N32 := Fr.app N0 N32q
        refine Good.back st32 ?_
        show Good p e below _ (T32.setTop (mkF m 47 #[.val (.ref r0), .val (.ref r1), .val (.ref r1)] [(.int (0 : Int32))]))
        refine Good.back (fun _ k => XS.ifYes X32.here hx rfl (pc0 := 47) (pc' := 54) rfl (hb hby own_d14_47) rfl ((if0 _ _).trans (teq (by decide : ((0 : Int32) = (0 : Int32)))).1) (by decide) (by decide) k) ?_
        show Good p e below _ (T32.setTop (mkF m 54 #[.val (.ref r0), .val (.ref r1), .val (.ref r1)] []))
        refine Good.back (fun _ k => XS.iconst X32.here hx rfl (hb hby own_d14_54) k) ?_
        show Good p e below _ (T32.setTop (mkF m 55 #[.val (.ref r0), .val (.ref r1), .val (.ref r1)] [(.int (0 : Int32))]))
        obtain ⟨fs33, hr33, hrun33, hended33, hW33, hsame33⟩ := X32.leave (v := some (.int (0 : Int32))) (fun h => by rw [Bd.returns] at h; cases h)
        refine Good.done (retN X32 hx (t := .boolean) Bd.returns (by simp) (hb hby own_d14_55) hr33) hrun33 hended33 ⟨_, _, rfl, ?_, ⟨_, rfl⟩, hW33, hsame33.mono (by decide) (by decide)⟩
        show Q14 Z r0 r1 a0_ a1_ k0 k1 pa ca pb cb cs h0 n0 _ T32.heap _
        rw [eh32]
        exact ⟨congrArg (fun z => some (Value.int z)) ((own_seq10 hpa hpb).symm), N32, rfl⟩
    · have V1l : Arv Z h0 a1_ k1 .byte (1 : Int32) [(.int (own_by cb))] (.int (0 : Int32)) := by have q := VV1; rw [own_sl1 hpb, own_sv1 hpb] at q; exact q
      show Good p e below _ (s₁.setTop (mkF m 0 #[.val (.ref r0), .val (.ref r1), .unset] []))
      refine Good.back (fun _ k => XS.aloadN X0.here hx rfl (hb hby own_d14_0) rfl rfl k) ?_
      show Good p e below _ (s₁.setTop (mkF m 1 #[.val (.ref r0), .val (.ref r1), .unset] [(.ref r0)]))
      refine Good.back (fun _ k => XS.aloadN X0.here hx rfl (hb hby own_d14_1) rfl rfl k) ?_
      show Good p e below _ (s₁.setTop (mkF m 2 #[.val (.ref r0), .val (.ref r1), .unset] [(.ref r1), (.ref r0)]))
      by_cases ha2_34 : r0 = r1
      · refine Good.back (fun _ k => Jvm.RoadKit.acmp (g := (mkF m 2 #[.val (.ref r0), .val (.ref r1), .unset] [(.ref r1), (.ref r0)])) X0 hx rfl rfl rfl (pc0 := 2) (pc' := 5) (same := true) rfl (hb hby own_d14_2) rfl (decide_eq_true (congrArg Value.ref ha2_34)) (by decide) (by decide) k) ?_
        show Good p e below _ (s₁.setTop (mkF m 5 #[.val (.ref r0), .val (.ref r1), .unset] []))
        refine Good.back (fun _ k => XS.iconst X0.here hx rfl (hb hby own_d14_5) k) ?_
        show Good p e below _ (s₁.setTop (mkF m 6 #[.val (.ref r0), .val (.ref r1), .unset] [(.int (1 : Int32))]))
        obtain ⟨fs35, hr35, hrun35, hended35, hW35, hsame35⟩ := X0.leave (v := some (.int (1 : Int32))) (fun h => by rw [Bd.returns] at h; cases h)
        refine Good.done (retN X0 hx (t := .boolean) Bd.returns (by simp) (hb hby own_d14_6) hr35) hrun35 hended35 ⟨_, _, rfl, ?_, ⟨_, rfl⟩, hW35, hsame35.mono (by decide) (by decide)⟩
        show Q14 Z r0 r1 a0_ a1_ k0 k1 pa ca pb cb cs h0 n0 _ s₁.heap _
        rw [e0]
        by_cases hd9 : own_by ca = own_by cb
        · exact ⟨congrArg (fun z => some (Value.int z)) (by rw [own_seq11 hpa hpb]; unfold own_eqi; rw [if_pos hd9]), N0, rfl⟩
        · exact absurd ha2_34 (Fld.ne FV0 FV1 (fun q => (arv_ne V0l V1l (Or.inr ⟨0, by decide, fun z => hd9 (Value.int.inj z)⟩)) (Value.ref.inj q)))
      · refine Good.back (fun _ k => Jvm.RoadKit.acmp (g := (mkF m 2 #[.val (.ref r0), .val (.ref r1), .unset] [(.ref r1), (.ref r0)])) X0 hx rfl rfl rfl (pc0 := 2) (pc' := 7) (same := false) rfl (hb hby own_d14_2) rfl (decide_eq_false fun q => ha2_34 (Value.ref.inj q)) (by decide) (by decide) k) ?_
        show Good p e below _ (s₁.setTop (mkF m 7 #[.val (.ref r0), .val (.ref r1), .unset] []))
        refine Good.back (fun _ k => XS.aloadN X0.here hx rfl (hb hby own_d14_7) rfl rfl k) ?_
        show Good p e below _ (s₁.setTop (mkF m 8 #[.val (.ref r0), .val (.ref r1), .unset] [(.ref r1)]))
        obtain ⟨T36, X36, e36, st36⟩ := instY X0 hx hZ hown (hw _ (List.mem_of_getElem? (i := 85) rfl)) e0 (Ins.self E1) (g := (mkF m 8 #[.val (.ref r0), .val (.ref r1), .unset] [(.ref r1)])) rfl rfl (hb hby own_d14_8)
        refine Good.back st36 ?_
        show Good p e below _ (T36.setTop (mkF m 11 #[.val (.ref r0), .val (.ref r1), .unset] [(.int (1 : Int32))]))
        refine Good.back (fun _ k => XS.ifNo X36.here hx rfl (hb hby own_d14_11) rfl ((if0 _ _).trans (feq (by decide : ¬ ((1 : Int32) = (0 : Int32)))).1) k) ?_
        show Good p e below _ (T36.setTop (mkF m 14 #[.val (.ref r0), .val (.ref r1), .unset] []))
        refine Good.back (fun _ k => XS.aloadN X36.here hx rfl (hb hby own_d14_14) rfl rfl k) ?_
        show Good p e below _ (T36.setTop (mkF m 15 #[.val (.ref r0), .val (.ref r1), .unset] [(.ref r1)]))
        obtain ⟨T37, X37, e37, st37⟩ := castY X36 hx hZ hown (hw _ (List.mem_of_getElem? (i := 85) rfl)) e36 (Ins.self E1) (g := (mkF m 15 #[.val (.ref r0), .val (.ref r1), .unset] [(.ref r1)])) rfl rfl (hb hby own_d14_15)
        refine Good.back st37 ?_
        show Good p e below _ (T37.setTop (mkF m 18 #[.val (.ref r0), .val (.ref r1), .unset] [(.ref r1)]))
        refine Good.back (fun _ k => XS.astoreN X37.here hx rfl (hb hby own_d14_18) rfl rfl (l' := #[.val (.ref r0), .val (.ref r1), .val (.ref r1)]) rfl k) ?_
        show Good p e below _ (T37.setTop (mkF m 19 #[.val (.ref r0), .val (.ref r1), .val (.ref r1)] []))
        obtain ⟨T38, X38, e38, st38⟩ := getS2 X37 hx hZ hown (host := "") (Or.inl (hw _ (List.mem_of_getElem? (i := 80) rfl))) Via.refl e37 S_cs (g := (mkF m 19 #[.val (.ref r0), .val (.ref r1), .val (.ref r1)] [])) rfl (hb hby own_d14_19)
        refine Good.back st38 ?_
        show Good p e below _ (T38.setTop (mkF m 22 #[.val (.ref r0), .val (.ref r1), .val (.ref r1)] [(.int cs)]))
        refine Good.back (fun _ k => XS.ifNo X38.here hx rfl (hb hby own_d14_22) rfl ((if0 _ _).trans (feq hcs).1) k) ?_
        show Good p e below _ (T38.setTop (mkF m 25 #[.val (.ref r0), .val (.ref r1), .val (.ref r1)] []))
        refine Good.back (fun _ k => XS.aloadN X38.here hx rfl (hb hby own_d14_25) rfl rfl k) ?_
        show Good p e below _ (T38.setTop (mkF m 26 #[.val (.ref r0), .val (.ref r1), .val (.ref r1)] [(.ref r0)]))
        obtain ⟨T39, X39, e39, st39⟩ := getF X38 hx hZ hown (host := "") (Or.inl (hw _ (List.mem_of_getElem? (i := 94) rfl))) Via.refl e38 FC0 (g := (mkF m 26 #[.val (.ref r0), .val (.ref r1), .val (.ref r1)] [(.ref r0)])) rfl rfl (hb hby own_d14_26)
        refine Good.back st39 ?_
        show Good p e below _ (T39.setTop (mkF m 29 #[.val (.ref r0), .val (.ref r1), .val (.ref r1)] [(.int (0 : Int32))]))
        refine Good.back (fun _ k => XS.aloadN X39.here hx rfl (hb hby own_d14_29) rfl rfl k) ?_
        show Good p e below _ (T39.setTop (mkF m 30 #[.val (.ref r0), .val (.ref r1), .val (.ref r1)] [(.ref r1), (.int (0 : Int32))]))
        obtain ⟨T40, X40, e40, st40⟩ := getF X39 hx hZ hown (host := "") (Or.inl (hw _ (List.mem_of_getElem? (i := 94) rfl))) Via.refl e39 FC1 (g := (mkF m 30 #[.val (.ref r0), .val (.ref r1), .val (.ref r1)] [(.ref r1), (.int (0 : Int32))])) rfl rfl (hb hby own_d14_30)
        refine Good.back st40 ?_
        show Good p e below _ (T40.setTop (mkF m 33 #[.val (.ref r0), .val (.ref r1), .val (.ref r1)] [(.int (0 : Int32)), (.int (0 : Int32))]))
        refine Good.back (fun _ k => XS.icmpNo X40.here hx rfl (hb hby own_d14_33) rfl (teq (by decide : ((0 : Int32) = (0 : Int32)))).2 k) ?_
        show Good p e below _ (T40.setTop (mkF m 36 #[.val (.ref r0), .val (.ref r1), .val (.ref r1)] []))
        refine Good.back (fun _ k => XS.aloadN X40.here hx rfl (hb hby own_d14_36) rfl rfl k) ?_
        show Good p e below _ (T40.setTop (mkF m 37 #[.val (.ref r0), .val (.ref r1), .val (.ref r1)] [(.ref r0)]))
        obtain ⟨T41, X41, e41, st41⟩ := getF X40 hx hZ hown (host := "") (Or.inl (hw _ (List.mem_of_getElem? (i := 93) rfl))) Via.refl e40 FV0 (g := (mkF m 37 #[.val (.ref r0), .val (.ref r1), .val (.ref r1)] [(.ref r0)])) rfl rfl (hb hby own_d14_37)
        refine Good.back st41 ?_
        show Good p e below _ (T41.setTop (mkF m 40 #[.val (.ref r0), .val (.ref r1), .val (.ref r1)] [(.ref a0_)]))
        refine Good.back (fun _ k => XS.aloadN X41.here hx rfl (hb hby own_d14_40) rfl rfl k) ?_
        show Good p e below _ (T41.setTop (mkF m 41 #[.val (.ref r0), .val (.ref r1), .val (.ref r1)] [(.ref r1), (.ref a0_)]))
        obtain ⟨T42, X42, e42, st42⟩ := getF X41 hx hZ hown (host := "") (Or.inl (hw _ (List.mem_of_getElem? (i := 93) rfl))) Via.refl e41 FV1 (g := (mkF m 41 #[.val (.ref r0), .val (.ref r1), .val (.ref r1)] [(.ref r1), (.ref a0_)])) rfl rfl (hb hby own_d14_41)
        refine Good.back st42 ?_
        show Good p e below _ (T42.setTop (mkF m 44 #[.val (.ref r0), .val (.ref r1), .val (.ref r1)] [(.ref a1_), (.ref a0_)]))
        obtain ⟨_, _, ⟨T43, L43, k43, n43⟩, -, X43, ⟨Lc43, hQ43, l43, y43, z43⟩, st43⟩ := Jvm.LawKit.callS X42 hx (y := (⟨"java/lang/StringLatin1", "equals", "([B[B)Z"⟩ : MethodName)) hown (mvT hZ (hw _ (List.mem_of_getElem? (i := 97) rfl))) (mvT hZ (hw _ (List.mem_of_getElem? (i := 98) rfl))) (mvT hZ (hw _ (List.mem_of_getElem? (i := 83) rfl))) (mvT hZ (hw _ (List.mem_of_getElem? (i := 99) rfl))) (by decide) (backOf (W := 0) (rm19_11 l Z a0 hw [] a0_ a1_ k0 k1 (own_by ca) (own_by cb) h0 n0 Z0 V0l V1l) hZ (hw _ (List.mem_of_getElem? (i := 99) rfl)) (hw _ (List.mem_of_getElem? (i := 83) rfl)) (by decide) (by decide)) (g := (mkF m 44 #[.val (.ref r0), .val (.ref r1), .val (.ref r1)] [(.ref a1_), (.ref a0_)])) rfl (by rw [hml]; rfl) (argsL := [(.ref a0_), (.ref a1_)]) (rest := []) (lenOf own_pd222 rfl) rfl (by show 2 * 0 + _ ≤ _; exact Nat.le_of_eq rfl) (hb hby own_d14_44) (fun _ _ => ⟨rfl, e42, (by decide : 0 + 0 ≤ _), (by decide : 0 + 0 ≤ _)⟩)
        dsimp only [Pt.U, Pt.locs, Pt.cells, Pt.slots] at X43 l43 y43 z43 st43 hQ43
        subst l43 y43 z43
        obtain ⟨rfl, N43q, eh43⟩ := hQ43
        have N43 := Fr.app N0 N43q
        refine Good.back st43 ?_
        show Good p e below _ (T43.setTop (mkF m 47 #[.val (.ref r0), .val (.ref r1), .val (.ref r1)] [(.int (own_eqi (own_by ca) (own_by cb)))]))
        by_cases hc47_44 : (own_eqi (own_by ca) (own_by cb)) = (0 : Int32)
        · refine Good.back (fun _ k => XS.ifYes X43.here hx rfl (pc0 := 47) (pc' := 54) rfl (hb hby own_d14_47) rfl ((if0 _ _).trans (teq hc47_44).1) (by decide) (by decide) k) ?_
          show Good p e below _ (T43.setTop (mkF m 54 #[.val (.ref r0), .val (.ref r1), .val (.ref r1)] []))
          refine Good.back (fun _ k => XS.iconst X43.here hx rfl (hb hby own_d14_54) k) ?_
          show Good p e below _ (T43.setTop (mkF m 55 #[.val (.ref r0), .val (.ref r1), .val (.ref r1)] [(.int (0 : Int32))]))
          obtain ⟨fs45, hr45, hrun45, hended45, hW45, hsame45⟩ := X43.leave (v := some (.int (0 : Int32))) (fun h => by rw [Bd.returns] at h; cases h)
          refine Good.done (retN X43 hx (t := .boolean) Bd.returns (by simp) (hb hby own_d14_55) hr45) hrun45 hended45 ⟨_, _, rfl, ?_, ⟨_, rfl⟩, hW45, hsame45.mono (by decide) (by decide)⟩
          show Q14 Z r0 r1 a0_ a1_ k0 k1 pa ca pb cb cs h0 n0 _ T43.heap _
          rw [eh43]
          exact ⟨congrArg (fun z => some (Value.int z)) (by rw [own_seq11 hpa hpb]; exact hc47_44.symm), N43, rfl⟩
        · refine Good.back (fun _ k => XS.ifNo X43.here hx rfl (hb hby own_d14_47) rfl ((if0 _ _).trans (feq hc47_44).1) k) ?_
          show Good p e below _ (T43.setTop (mkF m 50 #[.val (.ref r0), .val (.ref r1), .val (.ref r1)] []))
          refine Good.back (fun _ k => XS.iconst X43.here hx rfl (hb hby own_d14_50) k) ?_
          show Good p e below _ (T43.setTop (mkF m 51 #[.val (.ref r0), .val (.ref r1), .val (.ref r1)] [(.int (1 : Int32))]))
          refine Good.back (fun _ k => XS.goto X43.here hx rfl (pc0 := 51) (pc' := 55) rfl (hb hby own_d14_51) (by decide) (by decide) k) ?_
          show Good p e below _ (T43.setTop (mkF m 55 #[.val (.ref r0), .val (.ref r1), .val (.ref r1)] [(.int (1 : Int32))]))
          obtain ⟨fs46, hr46, hrun46, hended46, hW46, hsame46⟩ := X43.leave (v := some (.int (1 : Int32))) (fun h => by rw [Bd.returns] at h; cases h)
          refine Good.done (retN X43 hx (t := .boolean) Bd.returns (by simp) (hb hby own_d14_55) hr46) hrun46 hended46 ⟨_, _, rfl, ?_, ⟨_, rfl⟩, hW46, hsame46.mono (by decide) (by decide)⟩
          show Q14 Z r0 r1 a0_ a1_ k0 k1 pa ca pb cb cs h0 n0 _ T43.heap _
          rw [eh43]
          exact ⟨congrArg (fun z => some (Value.int z)) (by rw [own_seq11 hpa hpb]; exact (own_eqi1 hc47_44).symm), N43, rfl⟩
theorem own_d13_0 : decode prog_21_method_8_code 0 = .ok (.aload_n 1, 1) := by decide +kernel
theorem own_d13_1 : decode prog_21_method_8_code 1 = .ok (.instanceof 18, 3) := by decide +kernel
theorem own_d13_4 : decode prog_21_method_8_code 4 = .ok (.ifCond .eq 11, 3) := by decide +kernel
theorem own_d13_15 : decode prog_21_method_8_code 15 = .ok (.iconst 0, 1) := by decide +kernel
theorem own_d13_16 : decode prog_21_method_8_code 16 = .ok (.ireturn, 1) := by decide +kernel
theorem own_ef_13n (m : MethodId) (x0 : Addr) : entryFrame m #[(.ref x0), .null] 3 = mkF m 0 #[.val (.ref x0), .val .null, .unset] [] := by first | (simp [entryFrame, mkF, argsToLocals, Value.category]; done) | rfl
def Q13n (Z : State) (r0 : Addr) (h0 : Heap) (n0 : Nat) (v : Option Value) (h : Heap) (L : List Loc) : Prop := v = some (.int 0) ∧ Fr n0 L ∧ h = h0
set_option maxRecDepth 65536 in
set_option maxHeartbeats 40000000 in
theorem rm13n (l : Launch) (Z : State) (a0 : Array Value) (hw : ∀ d ∈ tables_1, d.before a0 Z = true) (ws : List Jvm.Cond) (r0 : Addr) (h0 : Heap) (n0 : Nat) (Z0 : n0 ≤ h0.size)  :
    MetFree l (⟨"com/example/orderd/orderd/order/GameOrder", "equals", "(Ljava/lang/Object;)Z"⟩ : MethodName) (head1 (Jvm.Cond.code (⟨"com/example/orderd/orderd/order/GameOrder", "equals", "(Ljava/lang/Object;)Z"⟩ : MethodName) prog_21_method_8_code 3 (some .boolean) :: ws) ({ frames := 0, cells := 0, slots := 0, locals := 0 } : Room)) (fun a U => a = #[(.ref r0), .null] ∧ Z.Warmed39 U.vm ∧ U.heap = h0) (fun _ _ _ _ _ => True) (fun _ U o U' => ∃ v L, o = .returned v ∧ Q13n Z r0 h0 n0 v U'.heap L ∧ FrameEnd U o U' L ({ frames := 0, cells := 0, slots := 0, locals := 0 } : Room).cells ({ frames := 0, cells := 0, slots := 0, locals := 0 } : Room).slots) := by
  refine MetFree.of_bodySF (plainFor_of_name own_pn4) hisR ?_
  intro p e s m args below meth c s₁ Bd hml0 hP hK
  obtain ⟨rfl, hZ, hh⟩ := hP
  have hx := Bd.exec
  have hby := Bd.bytes
  have hml : c.maxLocals = 3 := hml0
  have hown : s.vm.findClass "com/example/orderd/orderd/order/GameOrder" = some m.cls := findClass_of_methodNamed Bd.named
  have hnm := (name_of_methodNamed Bd.named Bd.method).1
  have X0 : Stand p l e ({ frames := 0, cells := 0, slots := 0, locals := 0 } : Room) s m #[(.ref r0), .null] below meth c s₁ [] 0 0 := Stand.of_body Bd
  have e0 : s₁.heap = h0 := by rw [← hh, Bd.state]; rfl
  have N0 := Fr.nil n0
  show Good p e below (fun o U' => ∃ v L, o = .returned v ∧ Q13n Z r0 h0 n0 v U'.heap L ∧ FrameEnd s o U' L ({ frames := 0, cells := 0, slots := 0, locals := 0 } : Room).cells ({ frames := 0, cells := 0, slots := 0, locals := 0 } : Room).slots) _
  refine Good.back (S' := s₁.setTop (mkF m 0 #[.val (.ref r0), .val .null, .unset] [])) (fun t k => castTop (own_ef_13n m r0) k) ?_
  show Good p e below _ (s₁.setTop (mkF m 0 #[.val (.ref r0), .val .null, .unset] []))
  refine Good.back (fun _ k => XS.aloadN X0.here hx rfl (hb hby own_d13_0) rfl rfl k) ?_
  show Good p e below _ (s₁.setTop (mkF m 1 #[.val (.ref r0), .val .null, .unset] [.null]))
  refine Good.back (X0.instanceofNull hx (g := (mkF m 1 #[.val (.ref r0), .val .null, .unset] [.null])) rfl rfl (hb hby own_d13_1)) ?_
  show Good p e below _ (s₁.setTop (mkF m 4 #[.val (.ref r0), .val .null, .unset] [(.int (0 : Int32))]))
  refine Good.back (fun _ k => XS.ifYes X0.here hx rfl (pc0 := 4) (pc' := 15) rfl (hb hby own_d13_4) rfl ((if0 _ _).trans (teq (by decide : ((0 : Int32) = (0 : Int32)))).1) (by decide) (by decide) k) ?_
  show Good p e below _ (s₁.setTop (mkF m 15 #[.val (.ref r0), .val .null, .unset] []))
  refine Good.back (fun _ k => XS.iconst X0.here hx rfl (hb hby own_d13_15) k) ?_
  show Good p e below _ (s₁.setTop (mkF m 16 #[.val (.ref r0), .val .null, .unset] [(.int (0 : Int32))]))
  obtain ⟨fs1, hr1, hrun1, hended1, hW1, hsame1⟩ := X0.leave (v := some (.int (0 : Int32))) (fun h => by rw [Bd.returns] at h; cases h)
  refine Good.done (retN X0 hx (t := .boolean) Bd.returns (by simp) (hb hby own_d13_16) hr1) hrun1 hended1 ⟨_, _, rfl, ?_, ⟨_, rfl⟩, hW1, hsame1.mono (by decide) (by decide)⟩
  show Q13n Z r0 h0 n0 _ s₁.heap _
  rw [e0]
  exact ⟨rfl, N0, rfl⟩
theorem own_ef_13s (m : MethodId) (x0 : Addr) (x1 : Addr) : entryFrame m #[(.ref x0), (.ref x1)] 3 = mkF m 0 #[.val (.ref x0), .val (.ref x1), .unset] [] := by first | (simp [entryFrame, mkF, argsToLocals, Value.category]; done) | rfl
def Q13s (Z : State) (r0 : Addr) (r1 : Addr) (h0 : Heap) (n0 : Nat) (v : Option Value) (h : Heap) (L : List Loc) : Prop := v = some (.int 0) ∧ Fr n0 L ∧ h = h0
set_option maxRecDepth 65536 in
set_option maxHeartbeats 40000000 in
theorem rm13s (l : Launch) (Z : State) (a0 : Array Value) (hw : ∀ d ∈ tables_1, d.before a0 Z = true) (ws : List Jvm.Cond) (r0 : Addr) (r1 : Addr) (h0 : Heap) (n0 : Nat) (Z0 : n0 ≤ h0.size) (E1 : Exa Z h0 r1 "java/lang/String") :
    MetFree l (⟨"com/example/orderd/orderd/order/GameOrder", "equals", "(Ljava/lang/Object;)Z"⟩ : MethodName) (head1 (Jvm.Cond.code (⟨"com/example/orderd/orderd/order/GameOrder", "equals", "(Ljava/lang/Object;)Z"⟩ : MethodName) prog_21_method_8_code 3 (some .boolean) :: ws) ({ frames := 0, cells := 0, slots := 0, locals := 0 } : Room)) (fun a U => a = #[(.ref r0), (.ref r1)] ∧ Z.Warmed39 U.vm ∧ U.heap = h0) (fun _ _ _ _ _ => True) (fun _ U o U' => ∃ v L, o = .returned v ∧ Q13s Z r0 r1 h0 n0 v U'.heap L ∧ FrameEnd U o U' L ({ frames := 0, cells := 0, slots := 0, locals := 0 } : Room).cells ({ frames := 0, cells := 0, slots := 0, locals := 0 } : Room).slots) := by
  refine MetFree.of_bodySF (plainFor_of_name own_pn4) hisR ?_
  intro p e s m args below meth c s₁ Bd hml0 hP hK
  obtain ⟨rfl, hZ, hh⟩ := hP
  have hx := Bd.exec
  have hby := Bd.bytes
  have hml : c.maxLocals = 3 := hml0
  have hown : s.vm.findClass "com/example/orderd/orderd/order/GameOrder" = some m.cls := findClass_of_methodNamed Bd.named
  have hnm := (name_of_methodNamed Bd.named Bd.method).1
  have X0 : Stand p l e ({ frames := 0, cells := 0, slots := 0, locals := 0 } : Room) s m #[(.ref r0), (.ref r1)] below meth c s₁ [] 0 0 := Stand.of_body Bd
  have e0 : s₁.heap = h0 := by rw [← hh, Bd.state]; rfl
  have N0 := Fr.nil n0
  show Good p e below (fun o U' => ∃ v L, o = .returned v ∧ Q13s Z r0 r1 h0 n0 v U'.heap L ∧ FrameEnd s o U' L ({ frames := 0, cells := 0, slots := 0, locals := 0 } : Room).cells ({ frames := 0, cells := 0, slots := 0, locals := 0 } : Room).slots) _
  refine Good.back (S' := s₁.setTop (mkF m 0 #[.val (.ref r0), .val (.ref r1), .unset] [])) (fun t k => castTop (own_ef_13s m r0 r1) k) ?_
  show Good p e below _ (s₁.setTop (mkF m 0 #[.val (.ref r0), .val (.ref r1), .unset] []))
  refine Good.back (fun _ k => XS.aloadN X0.here hx rfl (hb hby own_d13_0) rfl rfl k) ?_
  show Good p e below _ (s₁.setTop (mkF m 1 #[.val (.ref r0), .val (.ref r1), .unset] [(.ref r1)]))
  obtain ⟨T1, X1, e1, st1⟩ := instNo X0 hx hZ hown (hw _ (List.mem_of_getElem? (i := 70) rfl)) e0 E1 (own_nsNo (hw _ (List.mem_of_getElem? (i := 95) rfl)) (hw _ (List.mem_of_getElem? (i := 25) rfl)) (NS.step (hw _ (List.mem_of_getElem? (i := 95) rfl)) (own_nsRoot (hw _ (List.mem_of_getElem? (i := 96) rfl)) (hw _ (List.mem_of_getElem? (i := 25) rfl)) (by decide)) (by decide)) (by decide)) (g := (mkF m 1 #[.val (.ref r0), .val (.ref r1), .unset] [(.ref r1)])) rfl rfl (hb hby own_d13_1)
  refine Good.back st1 ?_
  show Good p e below _ (T1.setTop (mkF m 4 #[.val (.ref r0), .val (.ref r1), .unset] [(.int (0 : Int32))]))
  refine Good.back (fun _ k => XS.ifYes X1.here hx rfl (pc0 := 4) (pc' := 15) rfl (hb hby own_d13_4) rfl ((if0 _ _).trans (teq (by decide : ((0 : Int32) = (0 : Int32)))).1) (by decide) (by decide) k) ?_
  show Good p e below _ (T1.setTop (mkF m 15 #[.val (.ref r0), .val (.ref r1), .unset] []))
  refine Good.back (fun _ k => XS.iconst X1.here hx rfl (hb hby own_d13_15) k) ?_
  show Good p e below _ (T1.setTop (mkF m 16 #[.val (.ref r0), .val (.ref r1), .unset] [(.int (0 : Int32))]))
  obtain ⟨fs2, hr2, hrun2, hended2, hW2, hsame2⟩ := X1.leave (v := some (.int (0 : Int32))) (fun h => by rw [Bd.returns] at h; cases h)
  refine Good.done (retN X1 hx (t := .boolean) Bd.returns (by simp) (hb hby own_d13_16) hr2) hrun2 hended2 ⟨_, _, rfl, ?_, ⟨_, rfl⟩, hW2, hsame2.mono (by decide) (by decide)⟩
  show Q13s Z r0 r1 h0 n0 _ T1.heap _
  rw [e1]
  exact ⟨rfl, N0, rfl⟩
theorem own_pd256 : parseMethodDescriptor "(Ljava/lang/Object;)Z" = some ⟨[(.object "java/lang/Object")], some .boolean⟩ := by decide +kernel
theorem own_d13_7 : decode prog_21_method_8_code 7 = .ok (.aload_n 1, 1) := by decide +kernel
theorem own_d13_8 : decode prog_21_method_8_code 8 = .ok (.checkcast 18, 3) := by decide +kernel
theorem own_d13_11 : decode prog_21_method_8_code 11 = .ok (.astore_n 2, 1) := by decide +kernel
theorem own_d13_12 : decode prog_21_method_8_code 12 = .ok (.goto 5, 3) := by decide +kernel
theorem own_d13_17 : decode prog_21_method_8_code 17 = .ok (.aload_n 0, 1) := by decide +kernel
theorem own_d13_18 : decode prog_21_method_8_code 18 = .ok (.getfield 17, 3) := by decide +kernel
theorem own_d13_21 : decode prog_21_method_8_code 21 = .ok (.aload_n 2, 1) := by decide +kernel
theorem own_d13_22 : decode prog_21_method_8_code 22 = .ok (.getfield 17, 3) := by decide +kernel
theorem own_d13_25 : decode prog_21_method_8_code 25 = .ok (.invokevirtual 43, 3) := by decide +kernel
theorem own_d13_28 : decode prog_21_method_8_code 28 = .ok (.ifCond .eq 61, 3) := by decide +kernel
theorem own_d13_31 : decode prog_21_method_8_code 31 = .ok (.aload_n 0, 1) := by decide +kernel
theorem own_d13_32 : decode prog_21_method_8_code 32 = .ok (.getfield 24, 3) := by decide +kernel
theorem own_d13_35 : decode prog_21_method_8_code 35 = .ok (.aload_n 2, 1) := by decide +kernel
theorem own_d13_36 : decode prog_21_method_8_code 36 = .ok (.getfield 24, 3) := by decide +kernel
theorem own_d13_39 : decode prog_21_method_8_code 39 = .ok (.invokevirtual 43, 3) := by decide +kernel
theorem own_d13_42 : decode prog_21_method_8_code 42 = .ok (.ifCond .eq 47, 3) := by decide +kernel
theorem own_d13_45 : decode prog_21_method_8_code 45 = .ok (.aload_n 0, 1) := by decide +kernel
theorem own_d13_46 : decode prog_21_method_8_code 46 = .ok (.getfield 26, 3) := by decide +kernel
theorem own_d13_49 : decode prog_21_method_8_code 49 = .ok (.aload_n 2, 1) := by decide +kernel
theorem own_d13_50 : decode prog_21_method_8_code 50 = .ok (.getfield 26, 3) := by decide +kernel
theorem own_d13_53 : decode prog_21_method_8_code 53 = .ok (.lcmp, 1) := by decide +kernel
theorem own_d13_54 : decode prog_21_method_8_code 54 = .ok (.ifCond .ne 35, 3) := by decide +kernel
theorem own_d13_57 : decode prog_21_method_8_code 57 = .ok (.aload_n 0, 1) := by decide +kernel
theorem own_d13_58 : decode prog_21_method_8_code 58 = .ok (.getfield 32, 3) := by decide +kernel
theorem own_d13_61 : decode prog_21_method_8_code 61 = .ok (.aload_n 2, 1) := by decide +kernel
theorem own_d13_62 : decode prog_21_method_8_code 62 = .ok (.getfield 32, 3) := by decide +kernel
theorem own_d13_65 : decode prog_21_method_8_code 65 = .ok (.invokevirtual 43, 3) := by decide +kernel
theorem own_d13_68 : decode prog_21_method_8_code 68 = .ok (.ifCond .eq 21, 3) := by decide +kernel
theorem own_d13_71 : decode prog_21_method_8_code 71 = .ok (.aload_n 0, 1) := by decide +kernel
theorem own_d13_72 : decode prog_21_method_8_code 72 = .ok (.getfield 36, 3) := by decide +kernel
theorem own_d13_75 : decode prog_21_method_8_code 75 = .ok (.aload_n 2, 1) := by decide +kernel
theorem own_d13_76 : decode prog_21_method_8_code 76 = .ok (.getfield 36, 3) := by decide +kernel
theorem own_d13_79 : decode prog_21_method_8_code 79 = .ok (.invokevirtual 43, 3) := by decide +kernel
theorem own_d13_82 : decode prog_21_method_8_code 82 = .ok (.ifCond .eq 7, 3) := by decide +kernel
theorem own_d13_85 : decode prog_21_method_8_code 85 = .ok (.iconst 1, 1) := by decide +kernel
theorem own_d13_86 : decode prog_21_method_8_code 86 = .ok (.goto 4, 3) := by decide +kernel
theorem own_d13_89 : decode prog_21_method_8_code 89 = .ok (.iconst 0, 1) := by decide +kernel
theorem own_d13_90 : decode prog_21_method_8_code 90 = .ok (.ireturn, 1) := by decide +kernel
theorem own_ef_13 (m : MethodId) (x0 : Addr) (x1 : Addr) : entryFrame m #[(.ref x0), (.ref x1)] 3 = mkF m 0 #[.val (.ref x0), .val (.ref x1), .unset] [] := by first | (simp [entryFrame, mkF, argsToLocals, Value.category]; done) | rfl
def Q13 (Z : State) (r0 : Addr) (r1 : Addr) (cs : Int32) (ma : Int64) (mb : Int64) (sa0 : Addr) (va0 : Addr) (ka0 : ClassId) (pa0 : Int32) (ca0 : Int32) (sb0 : Addr) (vb0 : Addr) (kb0 : ClassId) (pb0 : Int32) (cb0 : Int32) (sa1 : Addr) (va1 : Addr) (ka1 : ClassId) (pa1 : Int32) (ca1 : Int32) (sb1 : Addr) (vb1 : Addr) (kb1 : ClassId) (pb1 : Int32) (cb1 : Int32) (sa2 : Addr) (va2 : Addr) (ka2 : ClassId) (pa2 : Int32) (ca2 : Int32) (sb2 : Addr) (vb2 : Addr) (kb2 : ClassId) (pb2 : Int32) (cb2 : Int32) (sa3 : Addr) (va3 : Addr) (ka3 : ClassId) (pa3 : Int32) (ca3 : Int32) (sb3 : Addr) (vb3 : Addr) (kb3 : ClassId) (pb3 : Int32) (cb3 : Int32) (h0 : Heap) (n0 : Nat) (v : Option Value) (h : Heap) (L : List Loc) : Prop := v = some (.int (own_geq (own_seq pa0 ca0 pb0 cb0) (own_seq pa1 ca1 pb1 cb1) (lcmpW ma mb) (own_seq pa2 ca2 pb2 cb2) (own_seq pa3 ca3 pb3 cb3))) ∧ Fr n0 L ∧ h = h0
set_option maxRecDepth 65536 in
set_option maxHeartbeats 40000000 in
theorem rm13 (l : Launch) (Z : State) (a0 : Array Value) (hw : ∀ d ∈ tables_1, d.before a0 Z = true) (ws : List Jvm.Cond) (r0 : Addr) (r1 : Addr) (cs : Int32) (ma : Int64) (mb : Int64) (sa0 : Addr) (va0 : Addr) (ka0 : ClassId) (pa0 : Int32) (ca0 : Int32) (sb0 : Addr) (vb0 : Addr) (kb0 : ClassId) (pb0 : Int32) (cb0 : Int32) (sa1 : Addr) (va1 : Addr) (ka1 : ClassId) (pa1 : Int32) (ca1 : Int32) (sb1 : Addr) (vb1 : Addr) (kb1 : ClassId) (pb1 : Int32) (cb1 : Int32) (sa2 : Addr) (va2 : Addr) (ka2 : ClassId) (pa2 : Int32) (ca2 : Int32) (sb2 : Addr) (vb2 : Addr) (kb2 : ClassId) (pb2 : Int32) (cb2 : Int32) (sa3 : Addr) (va3 : Addr) (ka3 : ClassId) (pa3 : Int32) (ca3 : Int32) (sb3 : Addr) (vb3 : Addr) (kb3 : ClassId) (pb3 : Int32) (cb3 : Int32) (h0 : Heap) (n0 : Nat) (Z0 : n0 ≤ h0.size) (S_cs : Sta Z h0 "java/lang/String" "COMPACT_STRINGS" "Z" (.int cs)) (hcs : ¬ (cs = (0 : Int32))) (EA : Exa Z h0 r0 "com/example/orderd/orderd/order/GameOrder") (EB : Exa Z h0 r1 "com/example/orderd/orderd/order/GameOrder") (Foa0 : Fld Z h0 r0 "com/example/orderd/orderd/order/GameOrder" "number" "Ljava/lang/String;" (.ref sa0)) (Ea0 : Exa Z h0 sa0 "java/lang/String") (FVa0 : Fld Z h0 sa0 "java/lang/String" "value" "[B" (.ref va0)) (FCa0 : Fld Z h0 sa0 "java/lang/String" "coder" "B" (.int (0 : Int32))) (VVa0 : Arv Z h0 va0 ka0 .byte (own_sl pa0) (own_sv pa0 ca0) (.int (0 : Int32))) (Fob0 : Fld Z h0 r1 "com/example/orderd/orderd/order/GameOrder" "number" "Ljava/lang/String;" (.ref sb0)) (Eb0 : Exa Z h0 sb0 "java/lang/String") (FVb0 : Fld Z h0 sb0 "java/lang/String" "value" "[B" (.ref vb0)) (FCb0 : Fld Z h0 sb0 "java/lang/String" "coder" "B" (.int (0 : Int32))) (VVb0 : Arv Z h0 vb0 kb0 .byte (own_sl pb0) (own_sv pb0 cb0) (.int (0 : Int32))) (Foa1 : Fld Z h0 r0 "com/example/orderd/orderd/order/GameOrder" "product" "Ljava/lang/String;" (.ref sa1)) (Ea1 : Exa Z h0 sa1 "java/lang/String") (FVa1 : Fld Z h0 sa1 "java/lang/String" "value" "[B" (.ref va1)) (FCa1 : Fld Z h0 sa1 "java/lang/String" "coder" "B" (.int (0 : Int32))) (VVa1 : Arv Z h0 va1 ka1 .byte (own_sl pa1) (own_sv pa1 ca1) (.int (0 : Int32))) (Fob1 : Fld Z h0 r1 "com/example/orderd/orderd/order/GameOrder" "product" "Ljava/lang/String;" (.ref sb1)) (Eb1 : Exa Z h0 sb1 "java/lang/String") (FVb1 : Fld Z h0 sb1 "java/lang/String" "value" "[B" (.ref vb1)) (FCb1 : Fld Z h0 sb1 "java/lang/String" "coder" "B" (.int (0 : Int32))) (VVb1 : Arv Z h0 vb1 kb1 .byte (own_sl pb1) (own_sv pb1 cb1) (.int (0 : Int32))) (Foa2 : Fld Z h0 r0 "com/example/orderd/orderd/order/GameOrder" "currency" "Ljava/lang/String;" (.ref sa2)) (Ea2 : Exa Z h0 sa2 "java/lang/String") (FVa2 : Fld Z h0 sa2 "java/lang/String" "value" "[B" (.ref va2)) (FCa2 : Fld Z h0 sa2 "java/lang/String" "coder" "B" (.int (0 : Int32))) (VVa2 : Arv Z h0 va2 ka2 .byte (own_sl pa2) (own_sv pa2 ca2) (.int (0 : Int32))) (Fob2 : Fld Z h0 r1 "com/example/orderd/orderd/order/GameOrder" "currency" "Ljava/lang/String;" (.ref sb2)) (Eb2 : Exa Z h0 sb2 "java/lang/String") (FVb2 : Fld Z h0 sb2 "java/lang/String" "value" "[B" (.ref vb2)) (FCb2 : Fld Z h0 sb2 "java/lang/String" "coder" "B" (.int (0 : Int32))) (VVb2 : Arv Z h0 vb2 kb2 .byte (own_sl pb2) (own_sv pb2 cb2) (.int (0 : Int32))) (Foa3 : Fld Z h0 r0 "com/example/orderd/orderd/order/GameOrder" "role" "Ljava/lang/String;" (.ref sa3)) (Ea3 : Exa Z h0 sa3 "java/lang/String") (FVa3 : Fld Z h0 sa3 "java/lang/String" "value" "[B" (.ref va3)) (FCa3 : Fld Z h0 sa3 "java/lang/String" "coder" "B" (.int (0 : Int32))) (VVa3 : Arv Z h0 va3 ka3 .byte (own_sl pa3) (own_sv pa3 ca3) (.int (0 : Int32))) (Fob3 : Fld Z h0 r1 "com/example/orderd/orderd/order/GameOrder" "role" "Ljava/lang/String;" (.ref sb3)) (Eb3 : Exa Z h0 sb3 "java/lang/String") (FVb3 : Fld Z h0 sb3 "java/lang/String" "value" "[B" (.ref vb3)) (FCb3 : Fld Z h0 sb3 "java/lang/String" "coder" "B" (.int (0 : Int32))) (VVb3 : Arv Z h0 vb3 kb3 .byte (own_sl pb3) (own_sv pb3 cb3) (.int (0 : Int32))) (Fma : Fld Z h0 r0 "com/example/orderd/orderd/order/GameOrder" "amount" "J" (.long ma)) (Fmb : Fld Z h0 r1 "com/example/orderd/orderd/order/GameOrder" "amount" "J" (.long mb)) :
    MetFree l (⟨"com/example/orderd/orderd/order/GameOrder", "equals", "(Ljava/lang/Object;)Z"⟩ : MethodName) (head1 (Jvm.Cond.code (⟨"com/example/orderd/orderd/order/GameOrder", "equals", "(Ljava/lang/Object;)Z"⟩ : MethodName) prog_21_method_8_code 3 (some .boolean) :: ws) ({ frames := 2, cells := 0, slots := 0, locals := 28 } : Room)) (fun a U => a = #[(.ref r0), (.ref r1)] ∧ Z.Warmed39 U.vm ∧ U.heap = h0) (fun _ _ _ _ _ => True) (fun _ U o U' => ∃ v L, o = .returned v ∧ Q13 Z r0 r1 cs ma mb sa0 va0 ka0 pa0 ca0 sb0 vb0 kb0 pb0 cb0 sa1 va1 ka1 pa1 ca1 sb1 vb1 kb1 pb1 cb1 sa2 va2 ka2 pa2 ca2 sb2 vb2 kb2 pb2 cb2 sa3 va3 ka3 pa3 ca3 sb3 vb3 kb3 pb3 cb3 h0 n0 v U'.heap L ∧ FrameEnd U o U' L ({ frames := 2, cells := 0, slots := 0, locals := 28 } : Room).cells ({ frames := 2, cells := 0, slots := 0, locals := 28 } : Room).slots) := by
  refine MetFree.of_bodySF (plainFor_of_name own_pn4) hisR ?_
  intro p e s m args below meth c s₁ Bd hml0 hP hK
  obtain ⟨rfl, hZ, hh⟩ := hP
  have hx := Bd.exec
  have hby := Bd.bytes
  have hml : c.maxLocals = 3 := hml0
  have hown : s.vm.findClass "com/example/orderd/orderd/order/GameOrder" = some m.cls := findClass_of_methodNamed Bd.named
  have hnm := (name_of_methodNamed Bd.named Bd.method).1
  have X0 : Stand p l e ({ frames := 2, cells := 0, slots := 0, locals := 28 } : Room) s m #[(.ref r0), (.ref r1)] below meth c s₁ [] 0 0 := Stand.of_body Bd
  have e0 : s₁.heap = h0 := by rw [← hh, Bd.state]; rfl
  have N0 := Fr.nil n0
  show Good p e below (fun o U' => ∃ v L, o = .returned v ∧ Q13 Z r0 r1 cs ma mb sa0 va0 ka0 pa0 ca0 sb0 vb0 kb0 pb0 cb0 sa1 va1 ka1 pa1 ca1 sb1 vb1 kb1 pb1 cb1 sa2 va2 ka2 pa2 ca2 sb2 vb2 kb2 pb2 cb2 sa3 va3 ka3 pa3 ca3 sb3 vb3 kb3 pb3 cb3 h0 n0 v U'.heap L ∧ FrameEnd s o U' L ({ frames := 2, cells := 0, slots := 0, locals := 28 } : Room).cells ({ frames := 2, cells := 0, slots := 0, locals := 28 } : Room).slots) _
  refine Good.back (S' := s₁.setTop (mkF m 0 #[.val (.ref r0), .val (.ref r1), .unset] [])) (fun t k => castTop (own_ef_13 m r0 r1) k) ?_
  show Good p e below _ (s₁.setTop (mkF m 0 #[.val (.ref r0), .val (.ref r1), .unset] []))
  refine Good.back (fun _ k => XS.aloadN X0.here hx rfl (hb hby own_d13_0) rfl rfl k) ?_
  show Good p e below _ (s₁.setTop (mkF m 1 #[.val (.ref r0), .val (.ref r1), .unset] [(.ref r1)]))
  obtain ⟨T1, X1, e1, st1⟩ := instY X0 hx hZ hown (hw _ (List.mem_of_getElem? (i := 70) rfl)) e0 (Ins.self EB) (g := (mkF m 1 #[.val (.ref r0), .val (.ref r1), .unset] [(.ref r1)])) rfl rfl (hb hby own_d13_1)
  refine Good.back st1 ?_
  show Good p e below _ (T1.setTop (mkF m 4 #[.val (.ref r0), .val (.ref r1), .unset] [(.int (1 : Int32))]))
  refine Good.back (fun _ k => XS.ifNo X1.here hx rfl (hb hby own_d13_4) rfl ((if0 _ _).trans (feq (by decide : ¬ ((1 : Int32) = (0 : Int32)))).1) k) ?_
  show Good p e below _ (T1.setTop (mkF m 7 #[.val (.ref r0), .val (.ref r1), .unset] []))
  refine Good.back (fun _ k => XS.aloadN X1.here hx rfl (hb hby own_d13_7) rfl rfl k) ?_
  show Good p e below _ (T1.setTop (mkF m 8 #[.val (.ref r0), .val (.ref r1), .unset] [(.ref r1)]))
  obtain ⟨T2, X2, e2, st2⟩ := castY X1 hx hZ hown (hw _ (List.mem_of_getElem? (i := 70) rfl)) e1 (Ins.self EB) (g := (mkF m 8 #[.val (.ref r0), .val (.ref r1), .unset] [(.ref r1)])) rfl rfl (hb hby own_d13_8)
  refine Good.back st2 ?_
  show Good p e below _ (T2.setTop (mkF m 11 #[.val (.ref r0), .val (.ref r1), .unset] [(.ref r1)]))
  refine Good.back (fun _ k => XS.astoreN X2.here hx rfl (hb hby own_d13_11) rfl rfl (l' := #[.val (.ref r0), .val (.ref r1), .val (.ref r1)]) rfl k) ?_
  show Good p e below _ (T2.setTop (mkF m 12 #[.val (.ref r0), .val (.ref r1), .val (.ref r1)] []))
  refine Good.back (fun _ k => XS.goto X2.here hx rfl (pc0 := 12) (pc' := 17) rfl (hb hby own_d13_12) (by decide) (by decide) k) ?_
  show Good p e below _ (T2.setTop (mkF m 17 #[.val (.ref r0), .val (.ref r1), .val (.ref r1)] []))
  refine Good.back (fun _ k => XS.aloadN X2.here hx rfl (hb hby own_d13_17) rfl rfl k) ?_
  show Good p e below _ (T2.setTop (mkF m 18 #[.val (.ref r0), .val (.ref r1), .val (.ref r1)] [(.ref r0)]))
  obtain ⟨T3, X3, e3, st3⟩ := getF X2 hx hZ hown (host := "") (Or.inl (hw _ (List.mem_of_getElem? (i := 40) rfl))) Via.refl e2 Foa0 (g := (mkF m 18 #[.val (.ref r0), .val (.ref r1), .val (.ref r1)] [(.ref r0)])) rfl rfl (hb hby own_d13_18)
  refine Good.back st3 ?_
  show Good p e below _ (T3.setTop (mkF m 21 #[.val (.ref r0), .val (.ref r1), .val (.ref r1)] [(.ref sa0)]))
  refine Good.back (fun _ k => XS.aloadN X3.here hx rfl (hb hby own_d13_21) rfl rfl k) ?_
  show Good p e below _ (T3.setTop (mkF m 22 #[.val (.ref r0), .val (.ref r1), .val (.ref r1)] [(.ref r1), (.ref sa0)]))
  obtain ⟨T4, X4, e4, st4⟩ := getF X3 hx hZ hown (host := "") (Or.inl (hw _ (List.mem_of_getElem? (i := 40) rfl))) Via.refl e3 Fob0 (g := (mkF m 22 #[.val (.ref r0), .val (.ref r1), .val (.ref r1)] [(.ref r1), (.ref sa0)])) rfl rfl (hb hby own_d13_22)
  refine Good.back st4 ?_
  show Good p e below _ (T4.setTop (mkF m 25 #[.val (.ref r0), .val (.ref r1), .val (.ref r1)] [(.ref sb0), (.ref sa0)]))
  obtain ⟨cq5, kq5, q5a, q5b, q5c⟩ := isOf hZ e4 Ea0
  obtain ⟨_, _, ⟨T5, L5, k5, n5⟩, -, X5, ⟨Lc5, hQ5, l5, y5, z5⟩, st5⟩ := X4.virtualBack hx (y := (⟨"java/lang/String", "equals", "(Ljava/lang/Object;)Z"⟩ : MethodName)) (z := (⟨"java/lang/String", "equals", "(Ljava/lang/Object;)Z"⟩ : MethodName)) hown (mvT hZ (hw _ (List.mem_of_getElem? (i := 72) rfl))) (mvT hZ (hw _ (List.mem_of_getElem? (i := 73) rfl))) (notFace_of_selects (args := #[]) (mvT hZ (hw _ (List.mem_of_getElem? (i := 75) rfl)))) (mvT hZ (hw _ (List.mem_of_getElem? (i := 75) rfl))) (mvT hZ (hw _ (List.mem_of_getElem? (i := 74) rfl))) (by decide) (backOf (W := 0) (rm14 l Z a0 hw [] sa0 sb0 va0 vb0 ka0 kb0 pa0 ca0 pb0 cb0 cs h0 n0 Z0 S_cs (hcs) Ea0 FVa0 FCa0 VVa0 Eb0 FVb0 FCb0 VVb0) hZ (hw _ (List.mem_of_getElem? (i := 76) rfl)) (hw _ (List.mem_of_getElem? (i := 17) rfl)) (by decide) (by decide)) q5a q5c (g := (mkF m 25 #[.val (.ref r0), .val (.ref r1), .val (.ref r1)] [(.ref sb0), (.ref sa0)])) rfl (by rw [hml]; rfl) (Steps.refl _) (argsL := [(.ref sb0)]) (rest := []) (lenOf own_pd256 rfl) rfl (by show 2 * 0 + _ ≤ _; exact Nat.le_of_eq rfl) (hb hby own_d13_25) (fun _ _ => ⟨rfl, e4, (by decide : 0 + 0 ≤ _), (by decide : 0 + 0 ≤ _)⟩)
  dsimp only [Pt.U, Pt.locs, Pt.cells, Pt.slots] at X5 l5 y5 z5 st5 hQ5
  subst l5 y5 z5
  obtain ⟨rfl, N5q, eh5⟩ := hQ5
  have N5 := Fr.app N0 N5q
  refine Good.back (fun _ k => st5.trans k) ?_
  show Good p e below _ (T5.setTop (mkF m 28 #[.val (.ref r0), .val (.ref r1), .val (.ref r1)] [(.int (own_seq pa0 ca0 pb0 cb0))]))
  by_cases hc28_6 : (own_seq pa0 ca0 pb0 cb0) = (0 : Int32)
  · refine Good.back (fun _ k => XS.ifYes X5.here hx rfl (pc0 := 28) (pc' := 89) rfl (hb hby own_d13_28) rfl ((if0 _ _).trans (teq hc28_6).1) (by decide) (by decide) k) ?_
    show Good p e below _ (T5.setTop (mkF m 89 #[.val (.ref r0), .val (.ref r1), .val (.ref r1)] []))
    refine Good.back (fun _ k => XS.iconst X5.here hx rfl (hb hby own_d13_89) k) ?_
    show Good p e below _ (T5.setTop (mkF m 90 #[.val (.ref r0), .val (.ref r1), .val (.ref r1)] [(.int (0 : Int32))]))
    obtain ⟨fs7, hr7, hrun7, hended7, hW7, hsame7⟩ := X5.leave (v := some (.int (0 : Int32))) (fun h => by rw [Bd.returns] at h; cases h)
    refine Good.done (retN X5 hx (t := .boolean) Bd.returns (by simp) (hb hby own_d13_90) hr7) hrun7 hended7 ⟨_, _, rfl, ?_, ⟨_, rfl⟩, hW7, hsame7.mono (by decide) (by decide)⟩
    show Q13 Z r0 r1 cs ma mb sa0 va0 ka0 pa0 ca0 sb0 vb0 kb0 pb0 cb0 sa1 va1 ka1 pa1 ca1 sb1 vb1 kb1 pb1 cb1 sa2 va2 ka2 pa2 ca2 sb2 vb2 kb2 pb2 cb2 sa3 va3 ka3 pa3 ca3 sb3 vb3 kb3 pb3 cb3 h0 n0 _ T5.heap _
    rw [eh5]
    exact ⟨congrArg (fun z => some (Value.int z)) (by unfold own_geq; rw [if_pos hc28_6]), N5, rfl⟩
  · refine Good.back (fun _ k => XS.ifNo X5.here hx rfl (hb hby own_d13_28) rfl ((if0 _ _).trans (feq hc28_6).1) k) ?_
    show Good p e below _ (T5.setTop (mkF m 31 #[.val (.ref r0), .val (.ref r1), .val (.ref r1)] []))
    refine Good.back (fun _ k => XS.aloadN X5.here hx rfl (hb hby own_d13_31) rfl rfl k) ?_
    show Good p e below _ (T5.setTop (mkF m 32 #[.val (.ref r0), .val (.ref r1), .val (.ref r1)] [(.ref r0)]))
    obtain ⟨T8, X8, e8, st8⟩ := getF X5 hx hZ hown (host := "") (Or.inl (hw _ (List.mem_of_getElem? (i := 43) rfl))) Via.refl eh5 Foa1 (g := (mkF m 32 #[.val (.ref r0), .val (.ref r1), .val (.ref r1)] [(.ref r0)])) rfl rfl (hb hby own_d13_32)
    refine Good.back st8 ?_
    show Good p e below _ (T8.setTop (mkF m 35 #[.val (.ref r0), .val (.ref r1), .val (.ref r1)] [(.ref sa1)]))
    refine Good.back (fun _ k => XS.aloadN X8.here hx rfl (hb hby own_d13_35) rfl rfl k) ?_
    show Good p e below _ (T8.setTop (mkF m 36 #[.val (.ref r0), .val (.ref r1), .val (.ref r1)] [(.ref r1), (.ref sa1)]))
    obtain ⟨T9, X9, e9, st9⟩ := getF X8 hx hZ hown (host := "") (Or.inl (hw _ (List.mem_of_getElem? (i := 43) rfl))) Via.refl e8 Fob1 (g := (mkF m 36 #[.val (.ref r0), .val (.ref r1), .val (.ref r1)] [(.ref r1), (.ref sa1)])) rfl rfl (hb hby own_d13_36)
    refine Good.back st9 ?_
    show Good p e below _ (T9.setTop (mkF m 39 #[.val (.ref r0), .val (.ref r1), .val (.ref r1)] [(.ref sb1), (.ref sa1)]))
    obtain ⟨cq10, kq10, q10a, q10b, q10c⟩ := isOf hZ e9 Ea1
    obtain ⟨_, _, ⟨T10, L10, k10, n10⟩, -, X10, ⟨Lc10, hQ10, l10, y10, z10⟩, st10⟩ := X9.virtualBack hx (y := (⟨"java/lang/String", "equals", "(Ljava/lang/Object;)Z"⟩ : MethodName)) (z := (⟨"java/lang/String", "equals", "(Ljava/lang/Object;)Z"⟩ : MethodName)) hown (mvT hZ (hw _ (List.mem_of_getElem? (i := 72) rfl))) (mvT hZ (hw _ (List.mem_of_getElem? (i := 73) rfl))) (notFace_of_selects (args := #[]) (mvT hZ (hw _ (List.mem_of_getElem? (i := 75) rfl)))) (mvT hZ (hw _ (List.mem_of_getElem? (i := 75) rfl))) (mvT hZ (hw _ (List.mem_of_getElem? (i := 74) rfl))) (by decide) (backOf (W := 0) (rm14 l Z a0 hw [] sa1 sb1 va1 vb1 ka1 kb1 pa1 ca1 pb1 cb1 cs h0 n0 Z0 S_cs (hcs) Ea1 FVa1 FCa1 VVa1 Eb1 FVb1 FCb1 VVb1) hZ (hw _ (List.mem_of_getElem? (i := 76) rfl)) (hw _ (List.mem_of_getElem? (i := 17) rfl)) (by decide) (by decide)) q10a q10c (g := (mkF m 39 #[.val (.ref r0), .val (.ref r1), .val (.ref r1)] [(.ref sb1), (.ref sa1)])) rfl (by rw [hml]; rfl) (Steps.refl _) (argsL := [(.ref sb1)]) (rest := []) (lenOf own_pd256 rfl) rfl (by show 2 * 0 + _ ≤ _; exact Nat.le_of_eq rfl) (hb hby own_d13_39) (fun _ _ => ⟨rfl, e9, (by decide : 0 + 0 ≤ _), (by decide : 0 + 0 ≤ _)⟩)
    dsimp only [Pt.U, Pt.locs, Pt.cells, Pt.slots] at X10 l10 y10 z10 st10 hQ10
    subst l10 y10 z10
    obtain ⟨rfl, N10q, eh10⟩ := hQ10
    have N10 := Fr.app N5 N10q
    refine Good.back (fun _ k => st10.trans k) ?_
    show Good p e below _ (T10.setTop (mkF m 42 #[.val (.ref r0), .val (.ref r1), .val (.ref r1)] [(.int (own_seq pa1 ca1 pb1 cb1))]))
    by_cases hc42_11 : (own_seq pa1 ca1 pb1 cb1) = (0 : Int32)
    · refine Good.back (fun _ k => XS.ifYes X10.here hx rfl (pc0 := 42) (pc' := 89) rfl (hb hby own_d13_42) rfl ((if0 _ _).trans (teq hc42_11).1) (by decide) (by decide) k) ?_
      show Good p e below _ (T10.setTop (mkF m 89 #[.val (.ref r0), .val (.ref r1), .val (.ref r1)] []))
      refine Good.back (fun _ k => XS.iconst X10.here hx rfl (hb hby own_d13_89) k) ?_
      show Good p e below _ (T10.setTop (mkF m 90 #[.val (.ref r0), .val (.ref r1), .val (.ref r1)] [(.int (0 : Int32))]))
      obtain ⟨fs12, hr12, hrun12, hended12, hW12, hsame12⟩ := X10.leave (v := some (.int (0 : Int32))) (fun h => by rw [Bd.returns] at h; cases h)
      refine Good.done (retN X10 hx (t := .boolean) Bd.returns (by simp) (hb hby own_d13_90) hr12) hrun12 hended12 ⟨_, _, rfl, ?_, ⟨_, rfl⟩, hW12, hsame12.mono (by decide) (by decide)⟩
      show Q13 Z r0 r1 cs ma mb sa0 va0 ka0 pa0 ca0 sb0 vb0 kb0 pb0 cb0 sa1 va1 ka1 pa1 ca1 sb1 vb1 kb1 pb1 cb1 sa2 va2 ka2 pa2 ca2 sb2 vb2 kb2 pb2 cb2 sa3 va3 ka3 pa3 ca3 sb3 vb3 kb3 pb3 cb3 h0 n0 _ T10.heap _
      rw [eh10]
      exact ⟨congrArg (fun z => some (Value.int z)) (by unfold own_geq; rw [if_neg hc28_6]; rw [if_pos hc42_11]), N10, rfl⟩
    · refine Good.back (fun _ k => XS.ifNo X10.here hx rfl (hb hby own_d13_42) rfl ((if0 _ _).trans (feq hc42_11).1) k) ?_
      show Good p e below _ (T10.setTop (mkF m 45 #[.val (.ref r0), .val (.ref r1), .val (.ref r1)] []))
      refine Good.back (fun _ k => XS.aloadN X10.here hx rfl (hb hby own_d13_45) rfl rfl k) ?_
      show Good p e below _ (T10.setTop (mkF m 46 #[.val (.ref r0), .val (.ref r1), .val (.ref r1)] [(.ref r0)]))
      obtain ⟨T13, X13, e13, st13⟩ := getF X10 hx hZ hown (host := "") (Or.inl (hw _ (List.mem_of_getElem? (i := 45) rfl))) Via.refl eh10 Fma (g := (mkF m 46 #[.val (.ref r0), .val (.ref r1), .val (.ref r1)] [(.ref r0)])) rfl rfl (hb hby own_d13_46)
      refine Good.back st13 ?_
      show Good p e below _ (T13.setTop (mkF m 49 #[.val (.ref r0), .val (.ref r1), .val (.ref r1)] [(.long ma)]))
      refine Good.back (fun _ k => XS.aloadN X13.here hx rfl (hb hby own_d13_49) rfl rfl k) ?_
      show Good p e below _ (T13.setTop (mkF m 50 #[.val (.ref r0), .val (.ref r1), .val (.ref r1)] [(.ref r1), (.long ma)]))
      obtain ⟨T14, X14, e14, st14⟩ := getF X13 hx hZ hown (host := "") (Or.inl (hw _ (List.mem_of_getElem? (i := 45) rfl))) Via.refl e13 Fmb (g := (mkF m 50 #[.val (.ref r0), .val (.ref r1), .val (.ref r1)] [(.ref r1), (.long ma)])) rfl rfl (hb hby own_d13_50)
      refine Good.back st14 ?_
      show Good p e below _ (T14.setTop (mkF m 53 #[.val (.ref r0), .val (.ref r1), .val (.ref r1)] [(.long mb), (.long ma)]))
      refine Good.back (fun _ k => XS.lcmp X14.here hx rfl (hb hby own_d13_53) rfl k) ?_
      show Good p e below _ (T14.setTop (mkF m 54 #[.val (.ref r0), .val (.ref r1), .val (.ref r1)] [(.int (lcmpW ma mb))]))
      by_cases hc54_15 : (lcmpW ma mb) = (0 : Int32)
      · refine Good.back (fun _ k => XS.ifNo X14.here hx rfl (hb hby own_d13_54) rfl ((if0 _ _).trans (teq hc54_15).2) k) ?_
        show Good p e below _ (T14.setTop (mkF m 57 #[.val (.ref r0), .val (.ref r1), .val (.ref r1)] []))
        refine Good.back (fun _ k => XS.aloadN X14.here hx rfl (hb hby own_d13_57) rfl rfl k) ?_
        show Good p e below _ (T14.setTop (mkF m 58 #[.val (.ref r0), .val (.ref r1), .val (.ref r1)] [(.ref r0)]))
        obtain ⟨T16, X16, e16, st16⟩ := getF X14 hx hZ hown (host := "") (Or.inl (hw _ (List.mem_of_getElem? (i := 48) rfl))) Via.refl e14 Foa2 (g := (mkF m 58 #[.val (.ref r0), .val (.ref r1), .val (.ref r1)] [(.ref r0)])) rfl rfl (hb hby own_d13_58)
        refine Good.back st16 ?_
        show Good p e below _ (T16.setTop (mkF m 61 #[.val (.ref r0), .val (.ref r1), .val (.ref r1)] [(.ref sa2)]))
        refine Good.back (fun _ k => XS.aloadN X16.here hx rfl (hb hby own_d13_61) rfl rfl k) ?_
        show Good p e below _ (T16.setTop (mkF m 62 #[.val (.ref r0), .val (.ref r1), .val (.ref r1)] [(.ref r1), (.ref sa2)]))
        obtain ⟨T17, X17, e17, st17⟩ := getF X16 hx hZ hown (host := "") (Or.inl (hw _ (List.mem_of_getElem? (i := 48) rfl))) Via.refl e16 Fob2 (g := (mkF m 62 #[.val (.ref r0), .val (.ref r1), .val (.ref r1)] [(.ref r1), (.ref sa2)])) rfl rfl (hb hby own_d13_62)
        refine Good.back st17 ?_
        show Good p e below _ (T17.setTop (mkF m 65 #[.val (.ref r0), .val (.ref r1), .val (.ref r1)] [(.ref sb2), (.ref sa2)]))
        obtain ⟨cq18, kq18, q18a, q18b, q18c⟩ := isOf hZ e17 Ea2
        obtain ⟨_, _, ⟨T18, L18, k18, n18⟩, -, X18, ⟨Lc18, hQ18, l18, y18, z18⟩, st18⟩ := X17.virtualBack hx (y := (⟨"java/lang/String", "equals", "(Ljava/lang/Object;)Z"⟩ : MethodName)) (z := (⟨"java/lang/String", "equals", "(Ljava/lang/Object;)Z"⟩ : MethodName)) hown (mvT hZ (hw _ (List.mem_of_getElem? (i := 72) rfl))) (mvT hZ (hw _ (List.mem_of_getElem? (i := 73) rfl))) (notFace_of_selects (args := #[]) (mvT hZ (hw _ (List.mem_of_getElem? (i := 75) rfl)))) (mvT hZ (hw _ (List.mem_of_getElem? (i := 75) rfl))) (mvT hZ (hw _ (List.mem_of_getElem? (i := 74) rfl))) (by decide) (backOf (W := 0) (rm14 l Z a0 hw [] sa2 sb2 va2 vb2 ka2 kb2 pa2 ca2 pb2 cb2 cs h0 n0 Z0 S_cs (hcs) Ea2 FVa2 FCa2 VVa2 Eb2 FVb2 FCb2 VVb2) hZ (hw _ (List.mem_of_getElem? (i := 76) rfl)) (hw _ (List.mem_of_getElem? (i := 17) rfl)) (by decide) (by decide)) q18a q18c (g := (mkF m 65 #[.val (.ref r0), .val (.ref r1), .val (.ref r1)] [(.ref sb2), (.ref sa2)])) rfl (by rw [hml]; rfl) (Steps.refl _) (argsL := [(.ref sb2)]) (rest := []) (lenOf own_pd256 rfl) rfl (by show 2 * 0 + _ ≤ _; exact Nat.le_of_eq rfl) (hb hby own_d13_65) (fun _ _ => ⟨rfl, e17, (by decide : 0 + 0 ≤ _), (by decide : 0 + 0 ≤ _)⟩)
        dsimp only [Pt.U, Pt.locs, Pt.cells, Pt.slots] at X18 l18 y18 z18 st18 hQ18
        subst l18 y18 z18
        obtain ⟨rfl, N18q, eh18⟩ := hQ18
        have N18 := Fr.app N10 N18q
        refine Good.back (fun _ k => st18.trans k) ?_
        show Good p e below _ (T18.setTop (mkF m 68 #[.val (.ref r0), .val (.ref r1), .val (.ref r1)] [(.int (own_seq pa2 ca2 pb2 cb2))]))
        by_cases hc68_19 : (own_seq pa2 ca2 pb2 cb2) = (0 : Int32)
        · refine Good.back (fun _ k => XS.ifYes X18.here hx rfl (pc0 := 68) (pc' := 89) rfl (hb hby own_d13_68) rfl ((if0 _ _).trans (teq hc68_19).1) (by decide) (by decide) k) ?_
          show Good p e below _ (T18.setTop (mkF m 89 #[.val (.ref r0), .val (.ref r1), .val (.ref r1)] []))
          refine Good.back (fun _ k => XS.iconst X18.here hx rfl (hb hby own_d13_89) k) ?_
          show Good p e below _ (T18.setTop (mkF m 90 #[.val (.ref r0), .val (.ref r1), .val (.ref r1)] [(.int (0 : Int32))]))
          obtain ⟨fs20, hr20, hrun20, hended20, hW20, hsame20⟩ := X18.leave (v := some (.int (0 : Int32))) (fun h => by rw [Bd.returns] at h; cases h)
          refine Good.done (retN X18 hx (t := .boolean) Bd.returns (by simp) (hb hby own_d13_90) hr20) hrun20 hended20 ⟨_, _, rfl, ?_, ⟨_, rfl⟩, hW20, hsame20.mono (by decide) (by decide)⟩
          show Q13 Z r0 r1 cs ma mb sa0 va0 ka0 pa0 ca0 sb0 vb0 kb0 pb0 cb0 sa1 va1 ka1 pa1 ca1 sb1 vb1 kb1 pb1 cb1 sa2 va2 ka2 pa2 ca2 sb2 vb2 kb2 pb2 cb2 sa3 va3 ka3 pa3 ca3 sb3 vb3 kb3 pb3 cb3 h0 n0 _ T18.heap _
          rw [eh18]
          exact ⟨congrArg (fun z => some (Value.int z)) (by unfold own_geq; rw [if_neg hc28_6]; rw [if_neg hc42_11]; rw [if_pos hc54_15]; rw [if_pos hc68_19]), N18, rfl⟩
        · refine Good.back (fun _ k => XS.ifNo X18.here hx rfl (hb hby own_d13_68) rfl ((if0 _ _).trans (feq hc68_19).1) k) ?_
          show Good p e below _ (T18.setTop (mkF m 71 #[.val (.ref r0), .val (.ref r1), .val (.ref r1)] []))
          refine Good.back (fun _ k => XS.aloadN X18.here hx rfl (hb hby own_d13_71) rfl rfl k) ?_
          show Good p e below _ (T18.setTop (mkF m 72 #[.val (.ref r0), .val (.ref r1), .val (.ref r1)] [(.ref r0)]))
          obtain ⟨T21, X21, e21, st21⟩ := getF X18 hx hZ hown (host := "") (Or.inl (hw _ (List.mem_of_getElem? (i := 51) rfl))) Via.refl eh18 Foa3 (g := (mkF m 72 #[.val (.ref r0), .val (.ref r1), .val (.ref r1)] [(.ref r0)])) rfl rfl (hb hby own_d13_72)
          refine Good.back st21 ?_
          show Good p e below _ (T21.setTop (mkF m 75 #[.val (.ref r0), .val (.ref r1), .val (.ref r1)] [(.ref sa3)]))
          refine Good.back (fun _ k => XS.aloadN X21.here hx rfl (hb hby own_d13_75) rfl rfl k) ?_
          show Good p e below _ (T21.setTop (mkF m 76 #[.val (.ref r0), .val (.ref r1), .val (.ref r1)] [(.ref r1), (.ref sa3)]))
          obtain ⟨T22, X22, e22, st22⟩ := getF X21 hx hZ hown (host := "") (Or.inl (hw _ (List.mem_of_getElem? (i := 51) rfl))) Via.refl e21 Fob3 (g := (mkF m 76 #[.val (.ref r0), .val (.ref r1), .val (.ref r1)] [(.ref r1), (.ref sa3)])) rfl rfl (hb hby own_d13_76)
          refine Good.back st22 ?_
          show Good p e below _ (T22.setTop (mkF m 79 #[.val (.ref r0), .val (.ref r1), .val (.ref r1)] [(.ref sb3), (.ref sa3)]))
          obtain ⟨cq23, kq23, q23a, q23b, q23c⟩ := isOf hZ e22 Ea3
          obtain ⟨_, _, ⟨T23, L23, k23, n23⟩, -, X23, ⟨Lc23, hQ23, l23, y23, z23⟩, st23⟩ := X22.virtualBack hx (y := (⟨"java/lang/String", "equals", "(Ljava/lang/Object;)Z"⟩ : MethodName)) (z := (⟨"java/lang/String", "equals", "(Ljava/lang/Object;)Z"⟩ : MethodName)) hown (mvT hZ (hw _ (List.mem_of_getElem? (i := 72) rfl))) (mvT hZ (hw _ (List.mem_of_getElem? (i := 73) rfl))) (notFace_of_selects (args := #[]) (mvT hZ (hw _ (List.mem_of_getElem? (i := 75) rfl)))) (mvT hZ (hw _ (List.mem_of_getElem? (i := 75) rfl))) (mvT hZ (hw _ (List.mem_of_getElem? (i := 74) rfl))) (by decide) (backOf (W := 0) (rm14 l Z a0 hw [] sa3 sb3 va3 vb3 ka3 kb3 pa3 ca3 pb3 cb3 cs h0 n0 Z0 S_cs (hcs) Ea3 FVa3 FCa3 VVa3 Eb3 FVb3 FCb3 VVb3) hZ (hw _ (List.mem_of_getElem? (i := 76) rfl)) (hw _ (List.mem_of_getElem? (i := 17) rfl)) (by decide) (by decide)) q23a q23c (g := (mkF m 79 #[.val (.ref r0), .val (.ref r1), .val (.ref r1)] [(.ref sb3), (.ref sa3)])) rfl (by rw [hml]; rfl) (Steps.refl _) (argsL := [(.ref sb3)]) (rest := []) (lenOf own_pd256 rfl) rfl (by show 2 * 0 + _ ≤ _; exact Nat.le_of_eq rfl) (hb hby own_d13_79) (fun _ _ => ⟨rfl, e22, (by decide : 0 + 0 ≤ _), (by decide : 0 + 0 ≤ _)⟩)
          dsimp only [Pt.U, Pt.locs, Pt.cells, Pt.slots] at X23 l23 y23 z23 st23 hQ23
          subst l23 y23 z23
          obtain ⟨rfl, N23q, eh23⟩ := hQ23
          have N23 := Fr.app N18 N23q
          refine Good.back (fun _ k => st23.trans k) ?_
          show Good p e below _ (T23.setTop (mkF m 82 #[.val (.ref r0), .val (.ref r1), .val (.ref r1)] [(.int (own_seq pa3 ca3 pb3 cb3))]))
          by_cases hc82_24 : (own_seq pa3 ca3 pb3 cb3) = (0 : Int32)
          · refine Good.back (fun _ k => XS.ifYes X23.here hx rfl (pc0 := 82) (pc' := 89) rfl (hb hby own_d13_82) rfl ((if0 _ _).trans (teq hc82_24).1) (by decide) (by decide) k) ?_
            show Good p e below _ (T23.setTop (mkF m 89 #[.val (.ref r0), .val (.ref r1), .val (.ref r1)] []))
            refine Good.back (fun _ k => XS.iconst X23.here hx rfl (hb hby own_d13_89) k) ?_
            show Good p e below _ (T23.setTop (mkF m 90 #[.val (.ref r0), .val (.ref r1), .val (.ref r1)] [(.int (0 : Int32))]))
            obtain ⟨fs25, hr25, hrun25, hended25, hW25, hsame25⟩ := X23.leave (v := some (.int (0 : Int32))) (fun h => by rw [Bd.returns] at h; cases h)
            refine Good.done (retN X23 hx (t := .boolean) Bd.returns (by simp) (hb hby own_d13_90) hr25) hrun25 hended25 ⟨_, _, rfl, ?_, ⟨_, rfl⟩, hW25, hsame25.mono (by decide) (by decide)⟩
            show Q13 Z r0 r1 cs ma mb sa0 va0 ka0 pa0 ca0 sb0 vb0 kb0 pb0 cb0 sa1 va1 ka1 pa1 ca1 sb1 vb1 kb1 pb1 cb1 sa2 va2 ka2 pa2 ca2 sb2 vb2 kb2 pb2 cb2 sa3 va3 ka3 pa3 ca3 sb3 vb3 kb3 pb3 cb3 h0 n0 _ T23.heap _
            rw [eh23]
            exact ⟨congrArg (fun z => some (Value.int z)) (by unfold own_geq; rw [if_neg hc28_6]; rw [if_neg hc42_11]; rw [if_pos hc54_15]; rw [if_neg hc68_19]; rw [if_pos hc82_24]), N23, rfl⟩
          · refine Good.back (fun _ k => XS.ifNo X23.here hx rfl (hb hby own_d13_82) rfl ((if0 _ _).trans (feq hc82_24).1) k) ?_
            show Good p e below _ (T23.setTop (mkF m 85 #[.val (.ref r0), .val (.ref r1), .val (.ref r1)] []))
            refine Good.back (fun _ k => XS.iconst X23.here hx rfl (hb hby own_d13_85) k) ?_
            show Good p e below _ (T23.setTop (mkF m 86 #[.val (.ref r0), .val (.ref r1), .val (.ref r1)] [(.int (1 : Int32))]))
            refine Good.back (fun _ k => XS.goto X23.here hx rfl (pc0 := 86) (pc' := 90) rfl (hb hby own_d13_86) (by decide) (by decide) k) ?_
            show Good p e below _ (T23.setTop (mkF m 90 #[.val (.ref r0), .val (.ref r1), .val (.ref r1)] [(.int (1 : Int32))]))
            obtain ⟨fs26, hr26, hrun26, hended26, hW26, hsame26⟩ := X23.leave (v := some (.int (1 : Int32))) (fun h => by rw [Bd.returns] at h; cases h)
            refine Good.done (retN X23 hx (t := .boolean) Bd.returns (by simp) (hb hby own_d13_90) hr26) hrun26 hended26 ⟨_, _, rfl, ?_, ⟨_, rfl⟩, hW26, hsame26.mono (by decide) (by decide)⟩
            show Q13 Z r0 r1 cs ma mb sa0 va0 ka0 pa0 ca0 sb0 vb0 kb0 pb0 cb0 sa1 va1 ka1 pa1 ca1 sb1 vb1 kb1 pb1 cb1 sa2 va2 ka2 pa2 ca2 sb2 vb2 kb2 pb2 cb2 sa3 va3 ka3 pa3 ca3 sb3 vb3 kb3 pb3 cb3 h0 n0 _ T23.heap _
            rw [eh23]
            exact ⟨congrArg (fun z => some (Value.int z)) (by unfold own_geq; rw [if_neg hc28_6]; rw [if_neg hc42_11]; rw [if_pos hc54_15]; rw [if_neg hc68_19]; rw [if_neg hc82_24]), N23, rfl⟩
      · refine Good.back (fun _ k => XS.ifYes X14.here hx rfl (pc0 := 54) (pc' := 89) rfl (hb hby own_d13_54) rfl ((if0 _ _).trans (feq hc54_15).2) (by decide) (by decide) k) ?_
        show Good p e below _ (T14.setTop (mkF m 89 #[.val (.ref r0), .val (.ref r1), .val (.ref r1)] []))
        refine Good.back (fun _ k => XS.iconst X14.here hx rfl (hb hby own_d13_89) k) ?_
        show Good p e below _ (T14.setTop (mkF m 90 #[.val (.ref r0), .val (.ref r1), .val (.ref r1)] [(.int (0 : Int32))]))
        obtain ⟨fs27, hr27, hrun27, hended27, hW27, hsame27⟩ := X14.leave (v := some (.int (0 : Int32))) (fun h => by rw [Bd.returns] at h; cases h)
        refine Good.done (retN X14 hx (t := .boolean) Bd.returns (by simp) (hb hby own_d13_90) hr27) hrun27 hended27 ⟨_, _, rfl, ?_, ⟨_, rfl⟩, hW27, hsame27.mono (by decide) (by decide)⟩
        show Q13 Z r0 r1 cs ma mb sa0 va0 ka0 pa0 ca0 sb0 vb0 kb0 pb0 cb0 sa1 va1 ka1 pa1 ca1 sb1 vb1 kb1 pb1 cb1 sa2 va2 ka2 pa2 ca2 sb2 vb2 kb2 pb2 cb2 sa3 va3 ka3 pa3 ca3 sb3 vb3 kb3 pb3 cb3 h0 n0 _ T14.heap _
        rw [e14]
        exact ⟨congrArg (fun z => some (Value.int z)) (by unfold own_geq; rw [if_neg hc28_6]; rw [if_neg hc42_11]; rw [if_neg hc54_15]), N10, rfl⟩
theorem own_pd295 : parseMethodDescriptor "(III)Ljava/lang/String;" = some ⟨[.int, .int, .int], some (.object "java/lang/String")⟩ := by decide +kernel
theorem own_pd296 : parseMethodDescriptor "(Ljava/lang/String;Ljava/lang/String;JLjava/lang/String;Ljava/lang/String;)V" = some ⟨[(.object "java/lang/String"), (.object "java/lang/String"), .long, (.object "java/lang/String"), (.object "java/lang/String")], none⟩ := by decide +kernel
theorem own_pd297 : parseMethodDescriptor "(IIII)Ljava/lang/String;" = some ⟨[.int, .int, .int, .int], some (.object "java/lang/String")⟩ := by decide +kernel
theorem own_pd298 : parseMethodDescriptor "(IIII)Z" = some ⟨[.int, .int, .int, .int], some .boolean⟩ := by decide +kernel
theorem own_ef_0 (m : MethodId) (x0 : Int32) (x1 : Int32) (x2 : Int32) (x3 : Int64) (x4 : Int64) : entryFrame m #[(.int x0), (.int x1), (.int x2), (.long x3), (.long x4)] maxLocals = mkF m 0 #[.val (.int x0), .val (.int x1), .val (.int x2), .val (.long x3), .second, .val (.long x4), .second, .unset, .unset, .unset, .unset, .unset, .unset, .unset] [] := by first | (simp [entryFrame, mkF, argsToLocals, Value.category, maxLocals]; done) | rfl
def Q0 (Z : State) (p0 : Int32) (p1 : Int32) (p2 : Int32) (q3 : Int64) (q4 : Int64) (cs : Int32) (h0 : Heap) (n0 : Nat) (v : Option Value) (h : Heap) (L : List Loc) : Prop := v = some (.int 1) ∧ Fr n0 L
set_option maxRecDepth 65536 in
set_option maxHeartbeats 40000000 in
theorem rm0 (l : Launch) (Z : State) (a0 : Array Value) (hw : ∀ d ∈ tables_1, d.before a0 Z = true) (ws : List Jvm.Cond) (p0 : Int32) (p1 : Int32) (p2 : Int32) (q3 : Int64) (q4 : Int64) (cs : Int32) (h0 : Heap) (n0 : Nat) (Z0 : n0 ≤ h0.size) (S_cs : Sta Z h0 "java/lang/String" "COMPACT_STRINGS" "Z" (.int cs)) (hcs : ¬ (cs = (0 : Int32))) :
    MetFree l x (head1 (Jvm.Cond.code x code maxLocals ret :: ws) room_1) (fun a U => a = #[(.int p0), (.int p1), (.int p2), (.long q3), (.long q4)] ∧ Z.Warmed39 U.vm ∧ U.heap = h0 ∧ CHv Z own_EL U.vm h0) (fun _ _ _ _ _ => True) (fun _ U o U' => ∃ v L, o = .returned v ∧ Q0 Z p0 p1 p2 q3 q4 cs h0 n0 v U'.heap L ∧ CHr Z own_EL U.vm U.heap U'.vm U'.heap ∧ ReturnedEndW U o U' L 56 5312) := by
  refine MetFree.of_bodySF (plainFor_of_name own_pn0) hisR ?_
  intro p e s m args below meth c s₁ Bd hml0 hP hK
  obtain ⟨rfl, hZ, hh, HV⟩ := hP
  have hx := Bd.exec
  have hby := Bd.bytes
  have hml : c.maxLocals = 14 := hml0
  have hown : s.vm.findClass "com/example/orderd/orderd/order/GameOrderEqualsPinLaw" = some m.cls := findClass_of_methodNamed Bd.named
  have hnm := (name_of_methodNamed Bd.named Bd.method).1
  have X0 : Stand p l e room_1 s m #[(.int p0), (.int p1), (.int p2), (.long q3), (.long q4)] below meth c s₁ [] 0 0 := Stand.of_body Bd
  have e0 : s₁.heap = h0 := by rw [← hh, Bd.state]; rfl
  have N0 := Fr.nil n0
  have X0c : Stand p l e room_1 (s.setVm s.vm) m #[(.int p0), (.int p1), (.int p2), (.long q3), (.long q4)] below meth c s₁ [] 0 0 := X0
  have hS0 : s.Since s.vm 0 := (State.WarmedH.refl s).since 0
  have hk0 : 0 ≤ h0.size := Nat.zero_le _
  have hZ0 : Z.Warmed39 (s.setVm s.vm).vm := hZ
  have hown0 : (s.setVm s.vm).vm.findClass "com/example/orderd/orderd/order/GameOrderEqualsPinLaw" = some m.cls := hown
  have C0 : CHr Z own_EL s.vm h0 s.vm h0 := CHr.refl HV
  show Good p e below (fun o U' => ∃ v L, o = .returned v ∧ Q0 Z p0 p1 p2 q3 q4 cs h0 n0 v U'.heap L ∧ CHr Z own_EL s.vm s.heap U'.vm U'.heap ∧ ReturnedEndW s o U' L 56 5312) _
  refine Good.back (S' := s₁.setTop (mkF m 0 #[.val (.int p0), .val (.int p1), .val (.int p2), .val (.long q3), .second, .val (.long q4), .second, .unset, .unset, .unset, .unset, .unset, .unset, .unset] [])) (fun t k => castTop (own_ef_0 m p0 p1 p2 q3 q4) k) ?_
  have key14 : ∀ (am : Int64) (Tk14 : State) (lk14 : List Loc) (Xk14 : Stand p l e room_1 (s.setVm s.vm) m #[(.int p0), (.int p1), (.int p2), (.long q3), (.long q4)] below meth c Tk14 lk14 0 0) (Nk14 : Fr n0 lk14) (ek14 : Tk14.heap = h0) , Good p e below (fun o U' => ∃ v L, o = .returned v ∧ Q0 Z p0 p1 p2 q3 q4 cs h0 n0 v U'.heap L ∧ CHr Z own_EL s.vm s.heap U'.vm U'.heap ∧ ReturnedEndW s o U' L 56 5312) (Tk14.setTop (mkF m 14 #[.val (.int p0), .val (.int p1), .val (.int p2), .val (.long q3), .second, .val (.long q4), .second, .unset, .unset, .unset, .unset, .unset, .unset, .unset] [(.long am)])) := by
    intro am Tk14 lk14 Xk14 Nk14 ek14 
    show Good p e below _ (Tk14.setTop (mkF m 14 #[.val (.int p0), .val (.int p1), .val (.int p2), .val (.long q3), .second, .val (.long q4), .second, .unset, .unset, .unset, .unset, .unset, .unset, .unset] [(.long am)]))
    refine Good.back (fun _ k => XS.lstore Xk14.here hx rfl (hb hby at_14) rfl (l' := #[.val (.int p0), .val (.int p1), .val (.int p2), .val (.long q3), .second, .val (.long q4), .second, .val (.long am), .second, .unset, .unset, .unset, .unset, .unset]) rfl k) ?_
    show Good p e below _ (Tk14.setTop (mkF m 16 #[.val (.int p0), .val (.int p1), .val (.int p2), .val (.long q3), .second, .val (.long q4), .second, .val (.long am), .second, .unset, .unset, .unset, .unset, .unset] []))
    refine Good.back (fun _ k => XS.iloadN Xk14.here hx rfl (hb hby at_16) rfl k) ?_
    show Good p e below _ (Tk14.setTop (mkF m 17 #[.val (.int p0), .val (.int p1), .val (.int p2), .val (.long q3), .second, .val (.long q4), .second, .val (.long am), .second, .unset, .unset, .unset, .unset, .unset] [(.int p0)]))
    refine Good.back (fun _ k => XS.iloadN Xk14.here hx rfl (hb hby at_17) rfl k) ?_
    show Good p e below _ (Tk14.setTop (mkF m 18 #[.val (.int p0), .val (.int p1), .val (.int p2), .val (.long q3), .second, .val (.long q4), .second, .val (.long am), .second, .unset, .unset, .unset, .unset, .unset] [(.int p2), (.int p0)]))
    refine Good.back (fun _ k => XS.iconst Xk14.here hx rfl (hb hby at_18) k) ?_
    show Good p e below _ (Tk14.setTop (mkF m 19 #[.val (.int p0), .val (.int p1), .val (.int p2), .val (.long q3), .second, .val (.long q4), .second, .val (.long am), .second, .unset, .unset, .unset, .unset, .unset] [(.int (0 : Int32)), (.int p2), (.int p0)]))
    obtain ⟨_, _, ⟨T1, L1, k1, n1⟩, -, Xc1, hSc1, hgc1, ⟨Lc1, hQ1, l1, y1, z1, Cc1⟩, st1⟩ := callSS Xk14 hx (y := (⟨"com/example/orderd/orderd/order/GameOrderEqualsPinLaw", "first", "(III)Ljava/lang/String;"⟩ : MethodName)) hown0 (mvT hZ0 (hw _ (List.mem_of_getElem? (i := 4) rfl))) (mvT hZ0 (hw _ (List.mem_of_getElem? (i := 5) rfl))) (mvT hZ0 (hw _ (List.mem_of_getElem? (i := 2) rfl))) (mvT hZ0 (hw _ (List.mem_of_getElem? (i := 6) rfl))) (by decide) (backOfSH (W := 0) (rm2 l Z a0 hw [] p0 p2 (0 : Int32) cs h0 n0 Z0 S_cs (hcs)) hZ0 (hw _ (List.mem_of_getElem? (i := 6) rfl)) (hw _ (List.mem_of_getElem? (i := 2) rfl)) (by decide) (by decide) (own_EW hw) C0.1) (g := (mkF m 19 #[.val (.int p0), .val (.int p1), .val (.int p2), .val (.long q3), .second, .val (.long q4), .second, .val (.long am), .second, .unset, .unset, .unset, .unset, .unset] [(.int (0 : Int32)), (.int p2), (.int p0)])) rfl (by rw [hml]; rfl) (argsL := [(.int p0), (.int p2), (.int (0 : Int32))]) (rest := []) (lenOf own_pd295 rfl) rfl (by show 2 * 0 + _ ≤ _; exact Nat.le_of_eq rfl) (hb hby at_19) (fun _ _ => ⟨rfl, ek14, (by decide : 0 + 2 ≤ _), (by decide : 0 + 5 ≤ _)⟩)
    dsimp only [Pt.U, Pt.locs, Pt.cells, Pt.slots] at Xc1 hSc1 hgc1 l1 y1 z1 st1 hQ1 Cc1
    subst l1 y1 z1
    obtain ⟨X1, hS1, hZ1, hown1⟩ := rebS hS0 (by rw [ek14]; exact hk0) Xc1 hSc1 hgc1 hZ0 hown0
    obtain ⟨sr_1, ar_1, kk_1, rfl, N1q, Kq1, o1_0, o1_1, o1_2, o1_3⟩ := hQ1
    have N1 := Fr.app Nk14 N1q
    have Z2 : n0 ≤ T1.heap.size := Nat.le_trans Z0 Kq1.1
    have hk3 := Nat.le_trans hk0 Kq1.1
    have C1 := C0.trans Cc1
    refine Good.back (fun _ k => st1.trans k) ?_
    show Good p e below _ (T1.setTop (mkF m 22 #[.val (.int p0), .val (.int p1), .val (.int p2), .val (.long q3), .second, .val (.long q4), .second, .val (.long am), .second, .unset, .unset, .unset, .unset, .unset] [(.ref sr_1)]))
    refine Good.back (fun _ k => XS.astore X1.here hx rfl (hb hby at_22) rfl rfl (l' := #[.val (.int p0), .val (.int p1), .val (.int p2), .val (.long q3), .second, .val (.long q4), .second, .val (.long am), .second, .val (.ref sr_1), .unset, .unset, .unset, .unset]) rfl k) ?_
    show Good p e below _ (T1.setTop (mkF m 24 #[.val (.int p0), .val (.int p1), .val (.int p2), .val (.long q3), .second, .val (.long q4), .second, .val (.long am), .second, .val (.ref sr_1), .unset, .unset, .unset, .unset] []))
    obtain ⟨T4, h4, X4, e4, E4, A4, D4, -, st4⟩ := newO X1 hx hZ1 hown1 (hw _ (List.mem_of_getElem? (i := 24) rfl)) (hw _ (List.mem_of_getElem? (i := 25) rfl)) (hw _ (List.mem_of_getElem? (i := 26) rfl)) rfl (g := (mkF m 24 #[.val (.int p0), .val (.int p1), .val (.int p2), .val (.long q3), .second, .val (.long q4), .second, .val (.long am), .second, .val (.ref sr_1), .unset, .unset, .unset, .unset] [])) rfl (hb hby at_24) (by decide) (by decide)
    obtain ⟨b4, g4⟩ : ∃ z, z = T1.heap.size := ⟨_, rfl⟩
    rw [← g4] at A4 D4 st4
    refine Good.back st4 ?_
    have g_b4 : n0 ≤ b4 := Nat.le_trans Z2 (Nat.le_of_eq g4.symm)
    have Z5 : n0 ≤ h4.size := Nat.le_trans Z2 E4.1
    have hk6 := Nat.le_trans (Nat.le_refl _) E4.1
    have f_7 : Exa Z h4 b4 "com/example/orderd/orderd/order/GameOrder" := A4
    have f_8 : Fld Z h4 b4 "com/example/orderd/orderd/order/GameOrder" "number" "Ljava/lang/String;" .null := D4 (Or.inr (hw _ (List.mem_of_getElem? (i := 41) rfl))) (ty := (.object "java/lang/String")) (by decide)
    have f_9 : Fld Z h4 b4 "com/example/orderd/orderd/order/GameOrder" "product" "Ljava/lang/String;" .null := D4 (Or.inr (hw _ (List.mem_of_getElem? (i := 44) rfl))) (ty := (.object "java/lang/String")) (by decide)
    have f_10 : Fld Z h4 b4 "com/example/orderd/orderd/order/GameOrder" "amount" "J" (.long (0 : Int64)) := D4 (Or.inr (hw _ (List.mem_of_getElem? (i := 46) rfl))) (ty := .long) (by decide)
    have f_11 : Fld Z h4 b4 "com/example/orderd/orderd/order/GameOrder" "currency" "Ljava/lang/String;" .null := D4 (Or.inr (hw _ (List.mem_of_getElem? (i := 49) rfl))) (ty := (.object "java/lang/String")) (by decide)
    have f_12 : Fld Z h4 b4 "com/example/orderd/orderd/order/GameOrder" "role" "Ljava/lang/String;" .null := D4 (Or.inr (hw _ (List.mem_of_getElem? (i := 52) rfl))) (ty := (.object "java/lang/String")) (by decide)
    show Good p e below _ (T4.setTop (mkF m 27 #[.val (.int p0), .val (.int p1), .val (.int p2), .val (.long q3), .second, .val (.long q4), .second, .val (.long am), .second, .val (.ref sr_1), .unset, .unset, .unset, .unset] [(.ref b4)]))
    refine Good.back (fun _ k => XS.dup X4.here hx rfl (hb hby at_27) rfl rfl k) ?_
    show Good p e below _ (T4.setTop (mkF m 28 #[.val (.int p0), .val (.int p1), .val (.int p2), .val (.long q3), .second, .val (.long q4), .second, .val (.long am), .second, .val (.ref sr_1), .unset, .unset, .unset, .unset] [(.ref b4), (.ref b4)]))
    refine Good.back (fun _ k => XS.aload X4.here hx rfl (hb hby at_28) rfl rfl k) ?_
    show Good p e below _ (T4.setTop (mkF m 30 #[.val (.int p0), .val (.int p1), .val (.int p2), .val (.long q3), .second, .val (.long q4), .second, .val (.long am), .second, .val (.ref sr_1), .unset, .unset, .unset, .unset] [(.ref sr_1), (.ref b4), (.ref b4)]))
    refine Good.back (fun _ k => XS.iloadN X4.here hx rfl (hb hby at_30) rfl k) ?_
    show Good p e below _ (T4.setTop (mkF m 31 #[.val (.int p0), .val (.int p1), .val (.int p2), .val (.long q3), .second, .val (.long q4), .second, .val (.long am), .second, .val (.ref sr_1), .unset, .unset, .unset, .unset] [(.int p0), (.ref sr_1), (.ref b4), (.ref b4)]))
    refine Good.back (fun _ k => XS.iloadN X4.here hx rfl (hb hby at_31) rfl k) ?_
    show Good p e below _ (T4.setTop (mkF m 32 #[.val (.int p0), .val (.int p1), .val (.int p2), .val (.long q3), .second, .val (.long q4), .second, .val (.long am), .second, .val (.ref sr_1), .unset, .unset, .unset, .unset] [(.int p2), (.int p0), (.ref sr_1), (.ref b4), (.ref b4)]))
    refine Good.back (fun _ k => XS.iconst X4.here hx rfl (hb hby at_32) k) ?_
    show Good p e below _ (T4.setTop (mkF m 33 #[.val (.int p0), .val (.int p1), .val (.int p2), .val (.long q3), .second, .val (.long q4), .second, .val (.long am), .second, .val (.ref sr_1), .unset, .unset, .unset, .unset] [(.int (1 : Int32)), (.int p2), (.int p0), (.ref sr_1), (.ref b4), (.ref b4)]))
    have f_14 : Sta Z T1.heap "java/lang/String" "COMPACT_STRINGS" "Z" (.int cs) := own_staKeep S_cs Kq1 all0
    have f_15 : Sta Z h4 "java/lang/String" "COMPACT_STRINGS" "Z" (.int cs) := Sta.ext E4 f_14
    have C16 := C1.trans (CHr.ext E4 C1.1)
    obtain ⟨_, _, ⟨T13, L13, k13, n13⟩, -, Xc13, hSc13, hgc13, ⟨Lc13, hQ13, l13, y13, z13, Cc13⟩, st13⟩ := callSS X4 hx (y := (⟨"com/example/orderd/orderd/order/GameOrderEqualsPinLaw", "first", "(III)Ljava/lang/String;"⟩ : MethodName)) hown1 (mvT hZ1 (hw _ (List.mem_of_getElem? (i := 4) rfl))) (mvT hZ1 (hw _ (List.mem_of_getElem? (i := 5) rfl))) (mvT hZ1 (hw _ (List.mem_of_getElem? (i := 2) rfl))) (mvT hZ1 (hw _ (List.mem_of_getElem? (i := 6) rfl))) (by decide) (backOfSH (W := 3) (rm2 l Z a0 hw [] p0 p2 (1 : Int32) cs h4 n0 Z5 f_15 (hcs)) hZ1 (hw _ (List.mem_of_getElem? (i := 6) rfl)) (hw _ (List.mem_of_getElem? (i := 2) rfl)) (by decide) (by decide) (own_EW hw) C16.1) (g := (mkF m 33 #[.val (.int p0), .val (.int p1), .val (.int p2), .val (.long q3), .second, .val (.long q4), .second, .val (.long am), .second, .val (.ref sr_1), .unset, .unset, .unset, .unset] [(.int (1 : Int32)), (.int p2), (.int p0), (.ref sr_1), (.ref b4), (.ref b4)])) rfl (by rw [hml]; rfl) (argsL := [(.int p0), (.int p2), (.int (1 : Int32))]) (rest := [(.ref sr_1), (.ref b4), (.ref b4)]) (lenOf own_pd295 rfl) rfl (by show 2 * 0 + _ ≤ _; exact Nat.le_of_eq rfl) (hb hby at_33) (fun _ _ => ⟨rfl, e4, (by decide : 3 + 2 ≤ _), (by decide : 10 + 5 ≤ _)⟩)
    dsimp only [Pt.U, Pt.locs, Pt.cells, Pt.slots] at Xc13 hSc13 hgc13 l13 y13 z13 st13 hQ13 Cc13
    subst l13 y13 z13
    obtain ⟨X13, hS13, hZ13, hown13⟩ := rebS hS1 (by rw [e4]; exact hk6) Xc13 hSc13 hgc13 hZ1 hown1
    obtain ⟨sr_13, ar_13, kk_13, rfl, N13q, Kq13, o13_0, o13_1, o13_2, o13_3⟩ := hQ13
    have N13 := Fr.app N1 N13q
    have Z17 : n0 ≤ T13.heap.size := Nat.le_trans Z5 Kq13.1
    have hk18 := Nat.le_trans hk6 Kq13.1
    have C13 := C16.trans Cc13
    refine Good.back (fun _ k => st13.trans k) ?_
    show Good p e below _ (T13.setTop (mkF m 36 #[.val (.int p0), .val (.int p1), .val (.int p2), .val (.long q3), .second, .val (.long q4), .second, .val (.long am), .second, .val (.ref sr_1), .unset, .unset, .unset, .unset] [(.ref sr_13), (.ref sr_1), (.ref b4), (.ref b4)]))
    refine Good.back (fun _ k => XS.lloadN X13.here hx rfl (hb hby at_36) rfl k) ?_
    show Good p e below _ (T13.setTop (mkF m 37 #[.val (.int p0), .val (.int p1), .val (.int p2), .val (.long q3), .second, .val (.long q4), .second, .val (.long am), .second, .val (.ref sr_1), .unset, .unset, .unset, .unset] [(.long q3), (.ref sr_13), (.ref sr_1), (.ref b4), (.ref b4)]))
    refine Good.back (fun _ k => XS.iloadN X13.here hx rfl (hb hby at_37) rfl k) ?_
    show Good p e below _ (T13.setTop (mkF m 38 #[.val (.int p0), .val (.int p1), .val (.int p2), .val (.long q3), .second, .val (.long q4), .second, .val (.long am), .second, .val (.ref sr_1), .unset, .unset, .unset, .unset] [(.int p0), (.long q3), (.ref sr_13), (.ref sr_1), (.ref b4), (.ref b4)]))
    refine Good.back (fun _ k => XS.iloadN X13.here hx rfl (hb hby at_38) rfl k) ?_
    show Good p e below _ (T13.setTop (mkF m 39 #[.val (.int p0), .val (.int p1), .val (.int p2), .val (.long q3), .second, .val (.long q4), .second, .val (.long am), .second, .val (.ref sr_1), .unset, .unset, .unset, .unset] [(.int p2), (.int p0), (.long q3), (.ref sr_13), (.ref sr_1), (.ref b4), (.ref b4)]))
    refine Good.back (fun _ k => XS.iconst X13.here hx rfl (hb hby at_39) k) ?_
    show Good p e below _ (T13.setTop (mkF m 40 #[.val (.int p0), .val (.int p1), .val (.int p2), .val (.long q3), .second, .val (.long q4), .second, .val (.long am), .second, .val (.ref sr_1), .unset, .unset, .unset, .unset] [(.int (2 : Int32)), (.int p2), (.int p0), (.long q3), (.ref sr_13), (.ref sr_1), (.ref b4), (.ref b4)]))
    have f_20 : Sta Z T13.heap "java/lang/String" "COMPACT_STRINGS" "Z" (.int cs) := own_staKeep f_15 Kq13 all0
    obtain ⟨_, _, ⟨T19, L19, k19, n19⟩, -, Xc19, hSc19, hgc19, ⟨Lc19, hQ19, l19, y19, z19, Cc19⟩, st19⟩ := callSS X13 hx (y := (⟨"com/example/orderd/orderd/order/GameOrderEqualsPinLaw", "first", "(III)Ljava/lang/String;"⟩ : MethodName)) hown13 (mvT hZ13 (hw _ (List.mem_of_getElem? (i := 4) rfl))) (mvT hZ13 (hw _ (List.mem_of_getElem? (i := 5) rfl))) (mvT hZ13 (hw _ (List.mem_of_getElem? (i := 2) rfl))) (mvT hZ13 (hw _ (List.mem_of_getElem? (i := 6) rfl))) (by decide) (backOfSH (W := 6) (rm2 l Z a0 hw [] p0 p2 (2 : Int32) cs T13.heap n0 Z17 f_20 (hcs)) hZ13 (hw _ (List.mem_of_getElem? (i := 6) rfl)) (hw _ (List.mem_of_getElem? (i := 2) rfl)) (by decide) (by decide) (own_EW hw) C13.1) (g := (mkF m 40 #[.val (.int p0), .val (.int p1), .val (.int p2), .val (.long q3), .second, .val (.long q4), .second, .val (.long am), .second, .val (.ref sr_1), .unset, .unset, .unset, .unset] [(.int (2 : Int32)), (.int p2), (.int p0), (.long q3), (.ref sr_13), (.ref sr_1), (.ref b4), (.ref b4)])) rfl (by rw [hml]; rfl) (argsL := [(.int p0), (.int p2), (.int (2 : Int32))]) (rest := [(.long q3), (.ref sr_13), (.ref sr_1), (.ref b4), (.ref b4)]) (lenOf own_pd295 rfl) rfl (by show 2 * 0 + _ ≤ _; exact Nat.le_of_eq rfl) (hb hby at_40) (fun _ _ => ⟨rfl, rfl, (by decide : 5 + 2 ≤ _), (by decide : 15 + 5 ≤ _)⟩)
    dsimp only [Pt.U, Pt.locs, Pt.cells, Pt.slots] at Xc19 hSc19 hgc19 l19 y19 z19 st19 hQ19 Cc19
    subst l19 y19 z19
    obtain ⟨X19, hS19, hZ19, hown19⟩ := rebS hS13 (Nat.le_refl _) Xc19 hSc19 hgc19 hZ13 hown13
    obtain ⟨sr_19, ar_19, kk_19, rfl, N19q, Kq19, o19_0, o19_1, o19_2, o19_3⟩ := hQ19
    have N19 := Fr.app N13 N19q
    have Z21 : n0 ≤ T19.heap.size := Nat.le_trans Z17 Kq19.1
    have hk22 := Nat.le_trans (Nat.le_refl _) Kq19.1
    have C19 := C13.trans Cc19
    refine Good.back (fun _ k => st19.trans k) ?_
    show Good p e below _ (T19.setTop (mkF m 43 #[.val (.int p0), .val (.int p1), .val (.int p2), .val (.long q3), .second, .val (.long q4), .second, .val (.long am), .second, .val (.ref sr_1), .unset, .unset, .unset, .unset] [(.ref sr_19), (.long q3), (.ref sr_13), (.ref sr_1), (.ref b4), (.ref b4)]))
    refine Good.back (fun _ k => XS.iloadN X19.here hx rfl (hb hby at_43) rfl k) ?_
    show Good p e below _ (T19.setTop (mkF m 44 #[.val (.int p0), .val (.int p1), .val (.int p2), .val (.long q3), .second, .val (.long q4), .second, .val (.long am), .second, .val (.ref sr_1), .unset, .unset, .unset, .unset] [(.int p0), (.ref sr_19), (.long q3), (.ref sr_13), (.ref sr_1), (.ref b4), (.ref b4)]))
    refine Good.back (fun _ k => XS.iloadN X19.here hx rfl (hb hby at_44) rfl k) ?_
    show Good p e below _ (T19.setTop (mkF m 45 #[.val (.int p0), .val (.int p1), .val (.int p2), .val (.long q3), .second, .val (.long q4), .second, .val (.long am), .second, .val (.ref sr_1), .unset, .unset, .unset, .unset] [(.int p2), (.int p0), (.ref sr_19), (.long q3), (.ref sr_13), (.ref sr_1), (.ref b4), (.ref b4)]))
    refine Good.back (fun _ k => XS.iconst X19.here hx rfl (hb hby at_45) k) ?_
    show Good p e below _ (T19.setTop (mkF m 46 #[.val (.int p0), .val (.int p1), .val (.int p2), .val (.long q3), .second, .val (.long q4), .second, .val (.long am), .second, .val (.ref sr_1), .unset, .unset, .unset, .unset] [(.int (3 : Int32)), (.int p2), (.int p0), (.ref sr_19), (.long q3), (.ref sr_13), (.ref sr_1), (.ref b4), (.ref b4)]))
    have f_24 : Sta Z T19.heap "java/lang/String" "COMPACT_STRINGS" "Z" (.int cs) := own_staKeep f_20 Kq19 all0
    obtain ⟨_, _, ⟨T23, L23, k23, n23⟩, -, Xc23, hSc23, hgc23, ⟨Lc23, hQ23, l23, y23, z23, Cc23⟩, st23⟩ := callSS X19 hx (y := (⟨"com/example/orderd/orderd/order/GameOrderEqualsPinLaw", "first", "(III)Ljava/lang/String;"⟩ : MethodName)) hown19 (mvT hZ19 (hw _ (List.mem_of_getElem? (i := 4) rfl))) (mvT hZ19 (hw _ (List.mem_of_getElem? (i := 5) rfl))) (mvT hZ19 (hw _ (List.mem_of_getElem? (i := 2) rfl))) (mvT hZ19 (hw _ (List.mem_of_getElem? (i := 6) rfl))) (by decide) (backOfSH (W := 7) (rm2 l Z a0 hw [] p0 p2 (3 : Int32) cs T19.heap n0 Z21 f_24 (hcs)) hZ19 (hw _ (List.mem_of_getElem? (i := 6) rfl)) (hw _ (List.mem_of_getElem? (i := 2) rfl)) (by decide) (by decide) (own_EW hw) C19.1) (g := (mkF m 46 #[.val (.int p0), .val (.int p1), .val (.int p2), .val (.long q3), .second, .val (.long q4), .second, .val (.long am), .second, .val (.ref sr_1), .unset, .unset, .unset, .unset] [(.int (3 : Int32)), (.int p2), (.int p0), (.ref sr_19), (.long q3), (.ref sr_13), (.ref sr_1), (.ref b4), (.ref b4)])) rfl (by rw [hml]; rfl) (argsL := [(.int p0), (.int p2), (.int (3 : Int32))]) (rest := [(.ref sr_19), (.long q3), (.ref sr_13), (.ref sr_1), (.ref b4), (.ref b4)]) (lenOf own_pd295 rfl) rfl (by show 2 * 0 + _ ≤ _; exact Nat.le_of_eq rfl) (hb hby at_46) (fun _ _ => ⟨rfl, rfl, (by decide : 7 + 2 ≤ _), (by decide : 20 + 5 ≤ _)⟩)
    dsimp only [Pt.U, Pt.locs, Pt.cells, Pt.slots] at Xc23 hSc23 hgc23 l23 y23 z23 st23 hQ23 Cc23
    subst l23 y23 z23
    obtain ⟨X23, hS23, hZ23, hown23⟩ := rebS hS19 (Nat.le_refl _) Xc23 hSc23 hgc23 hZ19 hown19
    obtain ⟨sr_23, ar_23, kk_23, rfl, N23q, Kq23, o23_0, o23_1, o23_2, o23_3⟩ := hQ23
    have N23 := Fr.app N19 N23q
    have Z25 : n0 ≤ T23.heap.size := Nat.le_trans Z21 Kq23.1
    have hk26 := Nat.le_trans (Nat.le_refl _) Kq23.1
    have C23 := C19.trans Cc23
    refine Good.back (fun _ k => st23.trans k) ?_
    show Good p e below _ (T23.setTop (mkF m 49 #[.val (.int p0), .val (.int p1), .val (.int p2), .val (.long q3), .second, .val (.long q4), .second, .val (.long am), .second, .val (.ref sr_1), .unset, .unset, .unset, .unset] [(.ref sr_23), (.ref sr_19), (.long q3), (.ref sr_13), (.ref sr_1), (.ref b4), (.ref b4)]))
    have f_28 : Exa Z T13.heap b4 "com/example/orderd/orderd/order/GameOrder" := Exa.keep f_7 Kq13
    have f_29 : Exa Z T19.heap b4 "com/example/orderd/orderd/order/GameOrder" := Exa.keep f_28 Kq19
    have f_30 : Exa Z T23.heap b4 "com/example/orderd/orderd/order/GameOrder" := Exa.keep f_29 Kq23
    have f_31 : Exa Z h4 sr_1 "java/lang/String" := Exa.ext E4 o1_0
    have f_32 : Exa Z T13.heap sr_1 "java/lang/String" := Exa.keep f_31 Kq13
    have f_33 : Exa Z T19.heap sr_1 "java/lang/String" := Exa.keep f_32 Kq19
    have f_34 : Exa Z T23.heap sr_1 "java/lang/String" := Exa.keep f_33 Kq23
    have f_35 : Exa Z T19.heap sr_13 "java/lang/String" := Exa.keep o13_0 Kq19
    have f_36 : Exa Z T23.heap sr_13 "java/lang/String" := Exa.keep f_35 Kq23
    have f_37 : Exa Z T23.heap sr_19 "java/lang/String" := Exa.keep o19_0 Kq23
    have f_38 : Fld Z T13.heap b4 "com/example/orderd/orderd/order/GameOrder" "number" "Ljava/lang/String;" .null := Fld.keep f_8 Kq13 nin0
    have f_39 : Fld Z T19.heap b4 "com/example/orderd/orderd/order/GameOrder" "number" "Ljava/lang/String;" .null := Fld.keep f_38 Kq19 nin0
    have f_40 : Fld Z T23.heap b4 "com/example/orderd/orderd/order/GameOrder" "number" "Ljava/lang/String;" .null := Fld.keep f_39 Kq23 nin0
    have f_41 : Fld Z T13.heap b4 "com/example/orderd/orderd/order/GameOrder" "product" "Ljava/lang/String;" .null := Fld.keep f_9 Kq13 nin0
    have f_42 : Fld Z T19.heap b4 "com/example/orderd/orderd/order/GameOrder" "product" "Ljava/lang/String;" .null := Fld.keep f_41 Kq19 nin0
    have f_43 : Fld Z T23.heap b4 "com/example/orderd/orderd/order/GameOrder" "product" "Ljava/lang/String;" .null := Fld.keep f_42 Kq23 nin0
    have f_44 : Fld Z T13.heap b4 "com/example/orderd/orderd/order/GameOrder" "currency" "Ljava/lang/String;" .null := Fld.keep f_11 Kq13 nin0
    have f_45 : Fld Z T19.heap b4 "com/example/orderd/orderd/order/GameOrder" "currency" "Ljava/lang/String;" .null := Fld.keep f_44 Kq19 nin0
    have f_46 : Fld Z T23.heap b4 "com/example/orderd/orderd/order/GameOrder" "currency" "Ljava/lang/String;" .null := Fld.keep f_45 Kq23 nin0
    have f_47 : Fld Z T13.heap b4 "com/example/orderd/orderd/order/GameOrder" "role" "Ljava/lang/String;" .null := Fld.keep f_12 Kq13 nin0
    have f_48 : Fld Z T19.heap b4 "com/example/orderd/orderd/order/GameOrder" "role" "Ljava/lang/String;" .null := Fld.keep f_47 Kq19 nin0
    have f_49 : Fld Z T23.heap b4 "com/example/orderd/orderd/order/GameOrder" "role" "Ljava/lang/String;" .null := Fld.keep f_48 Kq23 nin0
    have f_50 : Fld Z T13.heap b4 "com/example/orderd/orderd/order/GameOrder" "amount" "J" (.long (0 : Int64)) := Fld.keep f_10 Kq13 nin0
    have f_51 : Fld Z T19.heap b4 "com/example/orderd/orderd/order/GameOrder" "amount" "J" (.long (0 : Int64)) := Fld.keep f_50 Kq19 nin0
    have f_52 : Fld Z T23.heap b4 "com/example/orderd/orderd/order/GameOrder" "amount" "J" (.long (0 : Int64)) := Fld.keep f_51 Kq23 nin0
    obtain ⟨_, _, ⟨T27, L27, k27, n27⟩, -, Xc27, hSc27, hgc27, ⟨Lc27, hQ27, l27, y27, z27, Cc27⟩, st27⟩ := X23.specialBackS hx (y := (⟨"com/example/orderd/orderd/order/GameOrder", "<init>", "(Ljava/lang/String;Ljava/lang/String;JLjava/lang/String;Ljava/lang/String;)V"⟩ : MethodName)) rfl hown23 (mvT hZ23 (hw _ (List.mem_of_getElem? (i := 27) rfl))) (mvT hZ23 (hw _ (List.mem_of_getElem? (i := 28) rfl))) (mvT hZ23 (hw _ (List.mem_of_getElem? (i := 29) rfl))) (by decide) (backOfSH (W := 1) (rm6 l Z a0 hw [] b4 sr_1 sr_13 q3 sr_19 sr_23  T23.heap n0 Z25 f_30 g_b4 f_34 f_36 f_37 o23_0 f_40 f_43 f_46 f_49 f_52) hZ23 (hw _ (List.mem_of_getElem? (i := 29) rfl)) (hw _ (List.mem_of_getElem? (i := 26) rfl)) (by decide) (by decide) (own_EW hw) C23.1) (g := (mkF m 49 #[.val (.int p0), .val (.int p1), .val (.int p2), .val (.long q3), .second, .val (.long q4), .second, .val (.long am), .second, .val (.ref sr_1), .unset, .unset, .unset, .unset] [(.ref sr_23), (.ref sr_19), (.long q3), (.ref sr_13), (.ref sr_1), (.ref b4), (.ref b4)])) rfl (by rw [hml]; rfl) (Steps.refl _) (a := b4) (argsL := [(.ref sr_1), (.ref sr_13), (.long q3), (.ref sr_19), (.ref sr_23)]) (rest := [(.ref b4)]) (lenOf own_pd296 rfl) rfl (by show 2 * 0 + _ ≤ _; exact Nat.le_of_eq rfl) (hb hby at_49) (fun _ _ => ⟨rfl, rfl, (by decide : 9 + 8 ≤ _), (by decide : 25 + 116 ≤ _)⟩)
    dsimp only [Pt.U, Pt.locs, Pt.cells, Pt.slots] at Xc27 hSc27 hgc27 l27 y27 z27 st27 hQ27 Cc27
    subst l27 y27 z27
    obtain ⟨X27, hS27, hZ27, hown27⟩ := rebS hS23 (Nat.le_refl _) Xc27 hSc27 hgc27 hZ23 hown23
    obtain ⟨rfl, N27q, Kq27, o27_0, o27_1, o27_2, o27_3, o27_4⟩ := hQ27
    have N27 := Fr.app N23 N27q
    have Z53 : n0 ≤ T27.heap.size := Nat.le_trans Z25 Kq27.1
    have hk54 := Nat.le_trans (Nat.le_refl _) Kq27.1
    have C27 := C23.trans Cc27
    refine Good.back (fun _ k => st27.trans k) ?_
    show Good p e below _ (T27.setTop (mkF m 52 #[.val (.int p0), .val (.int p1), .val (.int p2), .val (.long q3), .second, .val (.long q4), .second, .val (.long am), .second, .val (.ref sr_1), .unset, .unset, .unset, .unset] [(.ref b4)]))
    refine Good.back (fun _ k => XS.astore X27.here hx rfl (hb hby at_52) rfl rfl (l' := #[.val (.int p0), .val (.int p1), .val (.int p2), .val (.long q3), .second, .val (.long q4), .second, .val (.long am), .second, .val (.ref sr_1), .val (.ref b4), .unset, .unset, .unset]) rfl k) ?_
    show Good p e below _ (T27.setTop (mkF m 54 #[.val (.int p0), .val (.int p1), .val (.int p2), .val (.long q3), .second, .val (.long q4), .second, .val (.long am), .second, .val (.ref sr_1), .val (.ref b4), .unset, .unset, .unset] []))
    obtain ⟨T55, h55, X55, e55, E55, A55, D55, -, st55⟩ := newO X27 hx hZ27 hown27 (hw _ (List.mem_of_getElem? (i := 24) rfl)) (hw _ (List.mem_of_getElem? (i := 25) rfl)) (hw _ (List.mem_of_getElem? (i := 26) rfl)) rfl (g := (mkF m 54 #[.val (.int p0), .val (.int p1), .val (.int p2), .val (.long q3), .second, .val (.long q4), .second, .val (.long am), .second, .val (.ref sr_1), .val (.ref b4), .unset, .unset, .unset] [])) rfl (hb hby at_54) (by decide) (by decide)
    obtain ⟨b55, g55⟩ : ∃ z, z = T27.heap.size := ⟨_, rfl⟩
    rw [← g55] at A55 D55 st55
    refine Good.back st55 ?_
    have g_b55 : n0 ≤ b55 := Nat.le_trans Z53 (Nat.le_of_eq g55.symm)
    have Z56 : n0 ≤ h55.size := Nat.le_trans Z53 E55.1
    have hk57 := Nat.le_trans (Nat.le_refl _) E55.1
    have f_58 : Exa Z h55 b55 "com/example/orderd/orderd/order/GameOrder" := A55
    have f_59 : Fld Z h55 b55 "com/example/orderd/orderd/order/GameOrder" "number" "Ljava/lang/String;" .null := D55 (Or.inr (hw _ (List.mem_of_getElem? (i := 41) rfl))) (ty := (.object "java/lang/String")) (by decide)
    have f_60 : Fld Z h55 b55 "com/example/orderd/orderd/order/GameOrder" "product" "Ljava/lang/String;" .null := D55 (Or.inr (hw _ (List.mem_of_getElem? (i := 44) rfl))) (ty := (.object "java/lang/String")) (by decide)
    have f_61 : Fld Z h55 b55 "com/example/orderd/orderd/order/GameOrder" "amount" "J" (.long (0 : Int64)) := D55 (Or.inr (hw _ (List.mem_of_getElem? (i := 46) rfl))) (ty := .long) (by decide)
    have f_62 : Fld Z h55 b55 "com/example/orderd/orderd/order/GameOrder" "currency" "Ljava/lang/String;" .null := D55 (Or.inr (hw _ (List.mem_of_getElem? (i := 49) rfl))) (ty := (.object "java/lang/String")) (by decide)
    have f_63 : Fld Z h55 b55 "com/example/orderd/orderd/order/GameOrder" "role" "Ljava/lang/String;" .null := D55 (Or.inr (hw _ (List.mem_of_getElem? (i := 52) rfl))) (ty := (.object "java/lang/String")) (by decide)
    show Good p e below _ (T55.setTop (mkF m 57 #[.val (.int p0), .val (.int p1), .val (.int p2), .val (.long q3), .second, .val (.long q4), .second, .val (.long am), .second, .val (.ref sr_1), .val (.ref b4), .unset, .unset, .unset] [(.ref b55)]))
    refine Good.back (fun _ k => XS.dup X55.here hx rfl (hb hby at_57) rfl rfl k) ?_
    show Good p e below _ (T55.setTop (mkF m 58 #[.val (.int p0), .val (.int p1), .val (.int p2), .val (.long q3), .second, .val (.long q4), .second, .val (.long am), .second, .val (.ref sr_1), .val (.ref b4), .unset, .unset, .unset] [(.ref b55), (.ref b55)]))
    refine Good.back (fun _ k => XS.iloadN X55.here hx rfl (hb hby at_58) rfl k) ?_
    show Good p e below _ (T55.setTop (mkF m 59 #[.val (.int p0), .val (.int p1), .val (.int p2), .val (.long q3), .second, .val (.long q4), .second, .val (.long am), .second, .val (.ref sr_1), .val (.ref b4), .unset, .unset, .unset] [(.int p0), (.ref b55), (.ref b55)]))
    refine Good.back (fun _ k => XS.iloadN X55.here hx rfl (hb hby at_59) rfl k) ?_
    show Good p e below _ (T55.setTop (mkF m 60 #[.val (.int p0), .val (.int p1), .val (.int p2), .val (.long q3), .second, .val (.long q4), .second, .val (.long am), .second, .val (.ref sr_1), .val (.ref b4), .unset, .unset, .unset] [(.int p1), (.int p0), (.ref b55), (.ref b55)]))
    refine Good.back (fun _ k => XS.iloadN X55.here hx rfl (hb hby at_60) rfl k) ?_
    show Good p e below _ (T55.setTop (mkF m 61 #[.val (.int p0), .val (.int p1), .val (.int p2), .val (.long q3), .second, .val (.long q4), .second, .val (.long am), .second, .val (.ref sr_1), .val (.ref b4), .unset, .unset, .unset] [(.int p2), (.int p1), (.int p0), (.ref b55), (.ref b55)]))
    refine Good.back (fun _ k => XS.iconst X55.here hx rfl (hb hby at_61) k) ?_
    show Good p e below _ (T55.setTop (mkF m 62 #[.val (.int p0), .val (.int p1), .val (.int p2), .val (.long q3), .second, .val (.long q4), .second, .val (.long am), .second, .val (.ref sr_1), .val (.ref b4), .unset, .unset, .unset] [(.int (0 : Int32)), (.int p2), (.int p1), (.int p0), (.ref b55), (.ref b55)]))
    have f_65 : Sta Z T23.heap "java/lang/String" "COMPACT_STRINGS" "Z" (.int cs) := own_staKeep f_24 Kq23 all0
    have f_66 : Sta Z T27.heap "java/lang/String" "COMPACT_STRINGS" "Z" (.int cs) := own_staKeep f_65 Kq27 (allS (own_plainE f_30) all0)
    have f_67 : Sta Z h55 "java/lang/String" "COMPACT_STRINGS" "Z" (.int cs) := Sta.ext E55 f_66
    have C68 := C27.trans (CHr.ext E55 C27.1)
    obtain ⟨_, _, ⟨T64, L64, k64, n64⟩, -, Xc64, hSc64, hgc64, ⟨Lc64, hQ64, l64, y64, z64, Cc64⟩, st64⟩ := callSS X55 hx (y := (⟨"com/example/orderd/orderd/order/GameOrderEqualsPinLaw", "second", "(IIII)Ljava/lang/String;"⟩ : MethodName)) hown27 (mvT hZ27 (hw _ (List.mem_of_getElem? (i := 53) rfl))) (mvT hZ27 (hw _ (List.mem_of_getElem? (i := 54) rfl))) (mvT hZ27 (hw _ (List.mem_of_getElem? (i := 2) rfl))) (mvT hZ27 (hw _ (List.mem_of_getElem? (i := 55) rfl))) (by decide) (backOfSH (W := 2) (rm9 l Z a0 hw [] p0 p1 p2 (0 : Int32) cs h55 n0 Z56 f_67 (hcs)) hZ27 (hw _ (List.mem_of_getElem? (i := 55) rfl)) (hw _ (List.mem_of_getElem? (i := 2) rfl)) (by decide) (by decide) (own_EW hw) C68.1) (g := (mkF m 62 #[.val (.int p0), .val (.int p1), .val (.int p2), .val (.long q3), .second, .val (.long q4), .second, .val (.long am), .second, .val (.ref sr_1), .val (.ref b4), .unset, .unset, .unset] [(.int (0 : Int32)), (.int p2), (.int p1), (.int p0), (.ref b55), (.ref b55)])) rfl (by rw [hml]; rfl) (argsL := [(.int p0), (.int p1), (.int p2), (.int (0 : Int32))]) (rest := [(.ref b55), (.ref b55)]) (lenOf own_pd297 rfl) rfl (by show 2 * 0 + _ ≤ _; exact Nat.le_of_eq rfl) (hb hby at_62) (fun _ _ => ⟨rfl, e55, (by decide : 18 + 2 ≤ _), (by decide : 146 + 5 ≤ _)⟩)
    dsimp only [Pt.U, Pt.locs, Pt.cells, Pt.slots] at Xc64 hSc64 hgc64 l64 y64 z64 st64 hQ64 Cc64
    subst l64 y64 z64
    obtain ⟨X64, hS64, hZ64, hown64⟩ := rebS hS27 (by rw [e55]; exact hk57) Xc64 hSc64 hgc64 hZ27 hown27
    obtain ⟨sr_64, ar_64, kk_64, rfl, N64q, Kq64, o64_0, o64_1, o64_2, o64_3⟩ := hQ64
    have N64 := Fr.app N27 N64q
    have Z69 : n0 ≤ T64.heap.size := Nat.le_trans Z56 Kq64.1
    have hk70 := Nat.le_trans hk57 Kq64.1
    have C64 := C68.trans Cc64
    refine Good.back (fun _ k => st64.trans k) ?_
    show Good p e below _ (T64.setTop (mkF m 65 #[.val (.int p0), .val (.int p1), .val (.int p2), .val (.long q3), .second, .val (.long q4), .second, .val (.long am), .second, .val (.ref sr_1), .val (.ref b4), .unset, .unset, .unset] [(.ref sr_64), (.ref b55), (.ref b55)]))
    refine Good.back (fun _ k => XS.iloadN X64.here hx rfl (hb hby at_65) rfl k) ?_
    show Good p e below _ (T64.setTop (mkF m 66 #[.val (.int p0), .val (.int p1), .val (.int p2), .val (.long q3), .second, .val (.long q4), .second, .val (.long am), .second, .val (.ref sr_1), .val (.ref b4), .unset, .unset, .unset] [(.int p0), (.ref sr_64), (.ref b55), (.ref b55)]))
    refine Good.back (fun _ k => XS.iloadN X64.here hx rfl (hb hby at_66) rfl k) ?_
    show Good p e below _ (T64.setTop (mkF m 67 #[.val (.int p0), .val (.int p1), .val (.int p2), .val (.long q3), .second, .val (.long q4), .second, .val (.long am), .second, .val (.ref sr_1), .val (.ref b4), .unset, .unset, .unset] [(.int p1), (.int p0), (.ref sr_64), (.ref b55), (.ref b55)]))
    refine Good.back (fun _ k => XS.iloadN X64.here hx rfl (hb hby at_67) rfl k) ?_
    show Good p e below _ (T64.setTop (mkF m 68 #[.val (.int p0), .val (.int p1), .val (.int p2), .val (.long q3), .second, .val (.long q4), .second, .val (.long am), .second, .val (.ref sr_1), .val (.ref b4), .unset, .unset, .unset] [(.int p2), (.int p1), (.int p0), (.ref sr_64), (.ref b55), (.ref b55)]))
    refine Good.back (fun _ k => XS.iconst X64.here hx rfl (hb hby at_68) k) ?_
    show Good p e below _ (T64.setTop (mkF m 69 #[.val (.int p0), .val (.int p1), .val (.int p2), .val (.long q3), .second, .val (.long q4), .second, .val (.long am), .second, .val (.ref sr_1), .val (.ref b4), .unset, .unset, .unset] [(.int (1 : Int32)), (.int p2), (.int p1), (.int p0), (.ref sr_64), (.ref b55), (.ref b55)]))
    have f_72 : Sta Z T64.heap "java/lang/String" "COMPACT_STRINGS" "Z" (.int cs) := own_staKeep f_67 Kq64 all0
    obtain ⟨_, _, ⟨T71, L71, k71, n71⟩, -, Xc71, hSc71, hgc71, ⟨Lc71, hQ71, l71, y71, z71, Cc71⟩, st71⟩ := callSS X64 hx (y := (⟨"com/example/orderd/orderd/order/GameOrderEqualsPinLaw", "second", "(IIII)Ljava/lang/String;"⟩ : MethodName)) hown64 (mvT hZ64 (hw _ (List.mem_of_getElem? (i := 53) rfl))) (mvT hZ64 (hw _ (List.mem_of_getElem? (i := 54) rfl))) (mvT hZ64 (hw _ (List.mem_of_getElem? (i := 2) rfl))) (mvT hZ64 (hw _ (List.mem_of_getElem? (i := 55) rfl))) (by decide) (backOfSH (W := 3) (rm9 l Z a0 hw [] p0 p1 p2 (1 : Int32) cs T64.heap n0 Z69 f_72 (hcs)) hZ64 (hw _ (List.mem_of_getElem? (i := 55) rfl)) (hw _ (List.mem_of_getElem? (i := 2) rfl)) (by decide) (by decide) (own_EW hw) C64.1) (g := (mkF m 69 #[.val (.int p0), .val (.int p1), .val (.int p2), .val (.long q3), .second, .val (.long q4), .second, .val (.long am), .second, .val (.ref sr_1), .val (.ref b4), .unset, .unset, .unset] [(.int (1 : Int32)), (.int p2), (.int p1), (.int p0), (.ref sr_64), (.ref b55), (.ref b55)])) rfl (by rw [hml]; rfl) (argsL := [(.int p0), (.int p1), (.int p2), (.int (1 : Int32))]) (rest := [(.ref sr_64), (.ref b55), (.ref b55)]) (lenOf own_pd297 rfl) rfl (by show 2 * 0 + _ ≤ _; exact Nat.le_of_eq rfl) (hb hby at_69) (fun _ _ => ⟨rfl, rfl, (by decide : 20 + 2 ≤ _), (by decide : 151 + 5 ≤ _)⟩)
    dsimp only [Pt.U, Pt.locs, Pt.cells, Pt.slots] at Xc71 hSc71 hgc71 l71 y71 z71 st71 hQ71 Cc71
    subst l71 y71 z71
    obtain ⟨X71, hS71, hZ71, hown71⟩ := rebS hS64 (Nat.le_refl _) Xc71 hSc71 hgc71 hZ64 hown64
    obtain ⟨sr_71, ar_71, kk_71, rfl, N71q, Kq71, o71_0, o71_1, o71_2, o71_3⟩ := hQ71
    have N71 := Fr.app N64 N71q
    have Z73 : n0 ≤ T71.heap.size := Nat.le_trans Z69 Kq71.1
    have hk74 := Nat.le_trans (Nat.le_refl _) Kq71.1
    have C71 := C64.trans Cc71
    refine Good.back (fun _ k => st71.trans k) ?_
    show Good p e below _ (T71.setTop (mkF m 72 #[.val (.int p0), .val (.int p1), .val (.int p2), .val (.long q3), .second, .val (.long q4), .second, .val (.long am), .second, .val (.ref sr_1), .val (.ref b4), .unset, .unset, .unset] [(.ref sr_71), (.ref sr_64), (.ref b55), (.ref b55)]))
    refine Good.back (fun _ k => XS.lload X71.here hx rfl (hb hby at_72) rfl k) ?_
    show Good p e below _ (T71.setTop (mkF m 74 #[.val (.int p0), .val (.int p1), .val (.int p2), .val (.long q3), .second, .val (.long q4), .second, .val (.long am), .second, .val (.ref sr_1), .val (.ref b4), .unset, .unset, .unset] [(.long am), (.ref sr_71), (.ref sr_64), (.ref b55), (.ref b55)]))
    refine Good.back (fun _ k => XS.iloadN X71.here hx rfl (hb hby at_74) rfl k) ?_
    show Good p e below _ (T71.setTop (mkF m 75 #[.val (.int p0), .val (.int p1), .val (.int p2), .val (.long q3), .second, .val (.long q4), .second, .val (.long am), .second, .val (.ref sr_1), .val (.ref b4), .unset, .unset, .unset] [(.int p0), (.long am), (.ref sr_71), (.ref sr_64), (.ref b55), (.ref b55)]))
    refine Good.back (fun _ k => XS.iloadN X71.here hx rfl (hb hby at_75) rfl k) ?_
    show Good p e below _ (T71.setTop (mkF m 76 #[.val (.int p0), .val (.int p1), .val (.int p2), .val (.long q3), .second, .val (.long q4), .second, .val (.long am), .second, .val (.ref sr_1), .val (.ref b4), .unset, .unset, .unset] [(.int p1), (.int p0), (.long am), (.ref sr_71), (.ref sr_64), (.ref b55), (.ref b55)]))
    refine Good.back (fun _ k => XS.iloadN X71.here hx rfl (hb hby at_76) rfl k) ?_
    show Good p e below _ (T71.setTop (mkF m 77 #[.val (.int p0), .val (.int p1), .val (.int p2), .val (.long q3), .second, .val (.long q4), .second, .val (.long am), .second, .val (.ref sr_1), .val (.ref b4), .unset, .unset, .unset] [(.int p2), (.int p1), (.int p0), (.long am), (.ref sr_71), (.ref sr_64), (.ref b55), (.ref b55)]))
    refine Good.back (fun _ k => XS.iconst X71.here hx rfl (hb hby at_77) k) ?_
    show Good p e below _ (T71.setTop (mkF m 78 #[.val (.int p0), .val (.int p1), .val (.int p2), .val (.long q3), .second, .val (.long q4), .second, .val (.long am), .second, .val (.ref sr_1), .val (.ref b4), .unset, .unset, .unset] [(.int (2 : Int32)), (.int p2), (.int p1), (.int p0), (.long am), (.ref sr_71), (.ref sr_64), (.ref b55), (.ref b55)]))
    have f_76 : Sta Z T71.heap "java/lang/String" "COMPACT_STRINGS" "Z" (.int cs) := own_staKeep f_72 Kq71 all0
    obtain ⟨_, _, ⟨T75, L75, k75, n75⟩, -, Xc75, hSc75, hgc75, ⟨Lc75, hQ75, l75, y75, z75, Cc75⟩, st75⟩ := callSS X71 hx (y := (⟨"com/example/orderd/orderd/order/GameOrderEqualsPinLaw", "second", "(IIII)Ljava/lang/String;"⟩ : MethodName)) hown71 (mvT hZ71 (hw _ (List.mem_of_getElem? (i := 53) rfl))) (mvT hZ71 (hw _ (List.mem_of_getElem? (i := 54) rfl))) (mvT hZ71 (hw _ (List.mem_of_getElem? (i := 2) rfl))) (mvT hZ71 (hw _ (List.mem_of_getElem? (i := 55) rfl))) (by decide) (backOfSH (W := 6) (rm9 l Z a0 hw [] p0 p1 p2 (2 : Int32) cs T71.heap n0 Z73 f_76 (hcs)) hZ71 (hw _ (List.mem_of_getElem? (i := 55) rfl)) (hw _ (List.mem_of_getElem? (i := 2) rfl)) (by decide) (by decide) (own_EW hw) C71.1) (g := (mkF m 78 #[.val (.int p0), .val (.int p1), .val (.int p2), .val (.long q3), .second, .val (.long q4), .second, .val (.long am), .second, .val (.ref sr_1), .val (.ref b4), .unset, .unset, .unset] [(.int (2 : Int32)), (.int p2), (.int p1), (.int p0), (.long am), (.ref sr_71), (.ref sr_64), (.ref b55), (.ref b55)])) rfl (by rw [hml]; rfl) (argsL := [(.int p0), (.int p1), (.int p2), (.int (2 : Int32))]) (rest := [(.long am), (.ref sr_71), (.ref sr_64), (.ref b55), (.ref b55)]) (lenOf own_pd297 rfl) rfl (by show 2 * 0 + _ ≤ _; exact Nat.le_of_eq rfl) (hb hby at_78) (fun _ _ => ⟨rfl, rfl, (by decide : 22 + 2 ≤ _), (by decide : 156 + 5 ≤ _)⟩)
    dsimp only [Pt.U, Pt.locs, Pt.cells, Pt.slots] at Xc75 hSc75 hgc75 l75 y75 z75 st75 hQ75 Cc75
    subst l75 y75 z75
    obtain ⟨X75, hS75, hZ75, hown75⟩ := rebS hS71 (Nat.le_refl _) Xc75 hSc75 hgc75 hZ71 hown71
    obtain ⟨sr_75, ar_75, kk_75, rfl, N75q, Kq75, o75_0, o75_1, o75_2, o75_3⟩ := hQ75
    have N75 := Fr.app N71 N75q
    have Z77 : n0 ≤ T75.heap.size := Nat.le_trans Z73 Kq75.1
    have hk78 := Nat.le_trans (Nat.le_refl _) Kq75.1
    have C75 := C71.trans Cc75
    refine Good.back (fun _ k => st75.trans k) ?_
    show Good p e below _ (T75.setTop (mkF m 81 #[.val (.int p0), .val (.int p1), .val (.int p2), .val (.long q3), .second, .val (.long q4), .second, .val (.long am), .second, .val (.ref sr_1), .val (.ref b4), .unset, .unset, .unset] [(.ref sr_75), (.long am), (.ref sr_71), (.ref sr_64), (.ref b55), (.ref b55)]))
    refine Good.back (fun _ k => XS.iloadN X75.here hx rfl (hb hby at_81) rfl k) ?_
    show Good p e below _ (T75.setTop (mkF m 82 #[.val (.int p0), .val (.int p1), .val (.int p2), .val (.long q3), .second, .val (.long q4), .second, .val (.long am), .second, .val (.ref sr_1), .val (.ref b4), .unset, .unset, .unset] [(.int p0), (.ref sr_75), (.long am), (.ref sr_71), (.ref sr_64), (.ref b55), (.ref b55)]))
    refine Good.back (fun _ k => XS.iloadN X75.here hx rfl (hb hby at_82) rfl k) ?_
    show Good p e below _ (T75.setTop (mkF m 83 #[.val (.int p0), .val (.int p1), .val (.int p2), .val (.long q3), .second, .val (.long q4), .second, .val (.long am), .second, .val (.ref sr_1), .val (.ref b4), .unset, .unset, .unset] [(.int p1), (.int p0), (.ref sr_75), (.long am), (.ref sr_71), (.ref sr_64), (.ref b55), (.ref b55)]))
    refine Good.back (fun _ k => XS.iloadN X75.here hx rfl (hb hby at_83) rfl k) ?_
    show Good p e below _ (T75.setTop (mkF m 84 #[.val (.int p0), .val (.int p1), .val (.int p2), .val (.long q3), .second, .val (.long q4), .second, .val (.long am), .second, .val (.ref sr_1), .val (.ref b4), .unset, .unset, .unset] [(.int p2), (.int p1), (.int p0), (.ref sr_75), (.long am), (.ref sr_71), (.ref sr_64), (.ref b55), (.ref b55)]))
    refine Good.back (fun _ k => XS.iconst X75.here hx rfl (hb hby at_84) k) ?_
    show Good p e below _ (T75.setTop (mkF m 85 #[.val (.int p0), .val (.int p1), .val (.int p2), .val (.long q3), .second, .val (.long q4), .second, .val (.long am), .second, .val (.ref sr_1), .val (.ref b4), .unset, .unset, .unset] [(.int (3 : Int32)), (.int p2), (.int p1), (.int p0), (.ref sr_75), (.long am), (.ref sr_71), (.ref sr_64), (.ref b55), (.ref b55)]))
    have f_80 : Sta Z T75.heap "java/lang/String" "COMPACT_STRINGS" "Z" (.int cs) := own_staKeep f_76 Kq75 all0
    obtain ⟨_, _, ⟨T79, L79, k79, n79⟩, -, Xc79, hSc79, hgc79, ⟨Lc79, hQ79, l79, y79, z79, Cc79⟩, st79⟩ := callSS X75 hx (y := (⟨"com/example/orderd/orderd/order/GameOrderEqualsPinLaw", "second", "(IIII)Ljava/lang/String;"⟩ : MethodName)) hown75 (mvT hZ75 (hw _ (List.mem_of_getElem? (i := 53) rfl))) (mvT hZ75 (hw _ (List.mem_of_getElem? (i := 54) rfl))) (mvT hZ75 (hw _ (List.mem_of_getElem? (i := 2) rfl))) (mvT hZ75 (hw _ (List.mem_of_getElem? (i := 55) rfl))) (by decide) (backOfSH (W := 7) (rm9 l Z a0 hw [] p0 p1 p2 (3 : Int32) cs T75.heap n0 Z77 f_80 (hcs)) hZ75 (hw _ (List.mem_of_getElem? (i := 55) rfl)) (hw _ (List.mem_of_getElem? (i := 2) rfl)) (by decide) (by decide) (own_EW hw) C75.1) (g := (mkF m 85 #[.val (.int p0), .val (.int p1), .val (.int p2), .val (.long q3), .second, .val (.long q4), .second, .val (.long am), .second, .val (.ref sr_1), .val (.ref b4), .unset, .unset, .unset] [(.int (3 : Int32)), (.int p2), (.int p1), (.int p0), (.ref sr_75), (.long am), (.ref sr_71), (.ref sr_64), (.ref b55), (.ref b55)])) rfl (by rw [hml]; rfl) (argsL := [(.int p0), (.int p1), (.int p2), (.int (3 : Int32))]) (rest := [(.ref sr_75), (.long am), (.ref sr_71), (.ref sr_64), (.ref b55), (.ref b55)]) (lenOf own_pd297 rfl) rfl (by show 2 * 0 + _ ≤ _; exact Nat.le_of_eq rfl) (hb hby at_85) (fun _ _ => ⟨rfl, rfl, (by decide : 24 + 2 ≤ _), (by decide : 161 + 5 ≤ _)⟩)
    dsimp only [Pt.U, Pt.locs, Pt.cells, Pt.slots] at Xc79 hSc79 hgc79 l79 y79 z79 st79 hQ79 Cc79
    subst l79 y79 z79
    obtain ⟨X79, hS79, hZ79, hown79⟩ := rebS hS75 (Nat.le_refl _) Xc79 hSc79 hgc79 hZ75 hown75
    obtain ⟨sr_79, ar_79, kk_79, rfl, N79q, Kq79, o79_0, o79_1, o79_2, o79_3⟩ := hQ79
    have N79 := Fr.app N75 N79q
    have Z81 : n0 ≤ T79.heap.size := Nat.le_trans Z77 Kq79.1
    have hk82 := Nat.le_trans (Nat.le_refl _) Kq79.1
    have C79 := C75.trans Cc79
    refine Good.back (fun _ k => st79.trans k) ?_
    show Good p e below _ (T79.setTop (mkF m 88 #[.val (.int p0), .val (.int p1), .val (.int p2), .val (.long q3), .second, .val (.long q4), .second, .val (.long am), .second, .val (.ref sr_1), .val (.ref b4), .unset, .unset, .unset] [(.ref sr_79), (.ref sr_75), (.long am), (.ref sr_71), (.ref sr_64), (.ref b55), (.ref b55)]))
    have f_84 : Exa Z T64.heap b55 "com/example/orderd/orderd/order/GameOrder" := Exa.keep f_58 Kq64
    have f_85 : Exa Z T71.heap b55 "com/example/orderd/orderd/order/GameOrder" := Exa.keep f_84 Kq71
    have f_86 : Exa Z T75.heap b55 "com/example/orderd/orderd/order/GameOrder" := Exa.keep f_85 Kq75
    have f_87 : Exa Z T79.heap b55 "com/example/orderd/orderd/order/GameOrder" := Exa.keep f_86 Kq79
    have f_88 : Exa Z T71.heap sr_64 "java/lang/String" := Exa.keep o64_0 Kq71
    have f_89 : Exa Z T75.heap sr_64 "java/lang/String" := Exa.keep f_88 Kq75
    have f_90 : Exa Z T79.heap sr_64 "java/lang/String" := Exa.keep f_89 Kq79
    have f_91 : Exa Z T75.heap sr_71 "java/lang/String" := Exa.keep o71_0 Kq75
    have f_92 : Exa Z T79.heap sr_71 "java/lang/String" := Exa.keep f_91 Kq79
    have f_93 : Exa Z T79.heap sr_75 "java/lang/String" := Exa.keep o75_0 Kq79
    have f_94 : Fld Z T64.heap b55 "com/example/orderd/orderd/order/GameOrder" "number" "Ljava/lang/String;" .null := Fld.keep f_59 Kq64 nin0
    have f_95 : Fld Z T71.heap b55 "com/example/orderd/orderd/order/GameOrder" "number" "Ljava/lang/String;" .null := Fld.keep f_94 Kq71 nin0
    have f_96 : Fld Z T75.heap b55 "com/example/orderd/orderd/order/GameOrder" "number" "Ljava/lang/String;" .null := Fld.keep f_95 Kq75 nin0
    have f_97 : Fld Z T79.heap b55 "com/example/orderd/orderd/order/GameOrder" "number" "Ljava/lang/String;" .null := Fld.keep f_96 Kq79 nin0
    have f_98 : Fld Z T64.heap b55 "com/example/orderd/orderd/order/GameOrder" "product" "Ljava/lang/String;" .null := Fld.keep f_60 Kq64 nin0
    have f_99 : Fld Z T71.heap b55 "com/example/orderd/orderd/order/GameOrder" "product" "Ljava/lang/String;" .null := Fld.keep f_98 Kq71 nin0
    have f_100 : Fld Z T75.heap b55 "com/example/orderd/orderd/order/GameOrder" "product" "Ljava/lang/String;" .null := Fld.keep f_99 Kq75 nin0
    have f_101 : Fld Z T79.heap b55 "com/example/orderd/orderd/order/GameOrder" "product" "Ljava/lang/String;" .null := Fld.keep f_100 Kq79 nin0
    have f_102 : Fld Z T64.heap b55 "com/example/orderd/orderd/order/GameOrder" "currency" "Ljava/lang/String;" .null := Fld.keep f_62 Kq64 nin0
    have f_103 : Fld Z T71.heap b55 "com/example/orderd/orderd/order/GameOrder" "currency" "Ljava/lang/String;" .null := Fld.keep f_102 Kq71 nin0
    have f_104 : Fld Z T75.heap b55 "com/example/orderd/orderd/order/GameOrder" "currency" "Ljava/lang/String;" .null := Fld.keep f_103 Kq75 nin0
    have f_105 : Fld Z T79.heap b55 "com/example/orderd/orderd/order/GameOrder" "currency" "Ljava/lang/String;" .null := Fld.keep f_104 Kq79 nin0
    have f_106 : Fld Z T64.heap b55 "com/example/orderd/orderd/order/GameOrder" "role" "Ljava/lang/String;" .null := Fld.keep f_63 Kq64 nin0
    have f_107 : Fld Z T71.heap b55 "com/example/orderd/orderd/order/GameOrder" "role" "Ljava/lang/String;" .null := Fld.keep f_106 Kq71 nin0
    have f_108 : Fld Z T75.heap b55 "com/example/orderd/orderd/order/GameOrder" "role" "Ljava/lang/String;" .null := Fld.keep f_107 Kq75 nin0
    have f_109 : Fld Z T79.heap b55 "com/example/orderd/orderd/order/GameOrder" "role" "Ljava/lang/String;" .null := Fld.keep f_108 Kq79 nin0
    have f_110 : Fld Z T64.heap b55 "com/example/orderd/orderd/order/GameOrder" "amount" "J" (.long (0 : Int64)) := Fld.keep f_61 Kq64 nin0
    have f_111 : Fld Z T71.heap b55 "com/example/orderd/orderd/order/GameOrder" "amount" "J" (.long (0 : Int64)) := Fld.keep f_110 Kq71 nin0
    have f_112 : Fld Z T75.heap b55 "com/example/orderd/orderd/order/GameOrder" "amount" "J" (.long (0 : Int64)) := Fld.keep f_111 Kq75 nin0
    have f_113 : Fld Z T79.heap b55 "com/example/orderd/orderd/order/GameOrder" "amount" "J" (.long (0 : Int64)) := Fld.keep f_112 Kq79 nin0
    obtain ⟨_, _, ⟨T83, L83, k83, n83⟩, -, Xc83, hSc83, hgc83, ⟨Lc83, hQ83, l83, y83, z83, Cc83⟩, st83⟩ := X79.specialBackS hx (y := (⟨"com/example/orderd/orderd/order/GameOrder", "<init>", "(Ljava/lang/String;Ljava/lang/String;JLjava/lang/String;Ljava/lang/String;)V"⟩ : MethodName)) rfl hown79 (mvT hZ79 (hw _ (List.mem_of_getElem? (i := 27) rfl))) (mvT hZ79 (hw _ (List.mem_of_getElem? (i := 28) rfl))) (mvT hZ79 (hw _ (List.mem_of_getElem? (i := 29) rfl))) (by decide) (backOfSH (W := 1) (rm6 l Z a0 hw [] b55 sr_64 sr_71 am sr_75 sr_79  T79.heap n0 Z81 f_87 g_b55 f_90 f_92 f_93 o79_0 f_97 f_101 f_105 f_109 f_113) hZ79 (hw _ (List.mem_of_getElem? (i := 29) rfl)) (hw _ (List.mem_of_getElem? (i := 26) rfl)) (by decide) (by decide) (own_EW hw) C79.1) (g := (mkF m 88 #[.val (.int p0), .val (.int p1), .val (.int p2), .val (.long q3), .second, .val (.long q4), .second, .val (.long am), .second, .val (.ref sr_1), .val (.ref b4), .unset, .unset, .unset] [(.ref sr_79), (.ref sr_75), (.long am), (.ref sr_71), (.ref sr_64), (.ref b55), (.ref b55)])) rfl (by rw [hml]; rfl) (Steps.refl _) (a := b55) (argsL := [(.ref sr_64), (.ref sr_71), (.long am), (.ref sr_75), (.ref sr_79)]) (rest := [(.ref b55)]) (lenOf own_pd296 rfl) rfl (by show 2 * 0 + _ ≤ _; exact Nat.le_of_eq rfl) (hb hby at_88) (fun _ _ => ⟨rfl, rfl, (by decide : 26 + 8 ≤ _), (by decide : 166 + 116 ≤ _)⟩)
    dsimp only [Pt.U, Pt.locs, Pt.cells, Pt.slots] at Xc83 hSc83 hgc83 l83 y83 z83 st83 hQ83 Cc83
    subst l83 y83 z83
    obtain ⟨X83, hS83, hZ83, hown83⟩ := rebS hS79 (Nat.le_refl _) Xc83 hSc83 hgc83 hZ79 hown79
    obtain ⟨rfl, N83q, Kq83, o83_0, o83_1, o83_2, o83_3, o83_4⟩ := hQ83
    have N83 := Fr.app N79 N83q
    have Z114 : n0 ≤ T83.heap.size := Nat.le_trans Z81 Kq83.1
    have hk115 := Nat.le_trans (Nat.le_refl _) Kq83.1
    have C83 := C79.trans Cc83
    refine Good.back (fun _ k => st83.trans k) ?_
    show Good p e below _ (T83.setTop (mkF m 91 #[.val (.int p0), .val (.int p1), .val (.int p2), .val (.long q3), .second, .val (.long q4), .second, .val (.long am), .second, .val (.ref sr_1), .val (.ref b4), .unset, .unset, .unset] [(.ref b55)]))
    refine Good.back (fun _ k => XS.astore X83.here hx rfl (hb hby at_91) rfl rfl (l' := #[.val (.int p0), .val (.int p1), .val (.int p2), .val (.long q3), .second, .val (.long q4), .second, .val (.long am), .second, .val (.ref sr_1), .val (.ref b4), .val (.ref b55), .unset, .unset]) rfl k) ?_
    have key145 : ∀ (rf : Int32) (Tk145 : State) (lk145 : List Loc) (Xk145 : Stand p l e room_1 (s.setVm T83.vm) m #[(.int p0), (.int p1), (.int p2), (.long q3), (.long q4)] below meth c Tk145 lk145 34 282) (Nk145 : Fr n0 lk145) (ek145 : Tk145.heap = T83.heap) (hr1 : (own_geq (own_seq (own_len1 p2 (0 : Int32)) (own_ch p0 (0 : Int32)) (own_len2 p2 (0 : Int32)) (own_chr2 p0 p1 p2 (0 : Int32))) (own_seq (own_len1 p2 (1 : Int32)) (own_ch p0 (1 : Int32)) (own_len2 p2 (1 : Int32)) (own_chr2 p0 p1 p2 (1 : Int32))) (lcmpW q3 am) (own_seq (own_len1 p2 (2 : Int32)) (own_ch p0 (2 : Int32)) (own_len2 p2 (2 : Int32)) (own_chr2 p0 p1 p2 (2 : Int32))) (own_seq (own_len1 p2 (3 : Int32)) (own_ch p0 (3 : Int32)) (own_len2 p2 (3 : Int32)) (own_chr2 p0 p1 p2 (3 : Int32)))) = rf) (hr2 : (own_geq (own_seq (own_len2 p2 (0 : Int32)) (own_chr2 p0 p1 p2 (0 : Int32)) (own_len1 p2 (0 : Int32)) (own_ch p0 (0 : Int32))) (own_seq (own_len2 p2 (1 : Int32)) (own_chr2 p0 p1 p2 (1 : Int32)) (own_len1 p2 (1 : Int32)) (own_ch p0 (1 : Int32))) (lcmpW am q3) (own_seq (own_len2 p2 (2 : Int32)) (own_chr2 p0 p1 p2 (2 : Int32)) (own_len1 p2 (2 : Int32)) (own_ch p0 (2 : Int32))) (own_seq (own_len2 p2 (3 : Int32)) (own_chr2 p0 p1 p2 (3 : Int32)) (own_len1 p2 (3 : Int32)) (own_ch p0 (3 : Int32)))) = rf), Good p e below (fun o U' => ∃ v L, o = .returned v ∧ Q0 Z p0 p1 p2 q3 q4 cs h0 n0 v U'.heap L ∧ CHr Z own_EL s.vm s.heap U'.vm U'.heap ∧ ReturnedEndW s o U' L 56 5312) (Tk145.setTop (mkF m 145 #[.val (.int p0), .val (.int p1), .val (.int p2), .val (.long q3), .second, .val (.long q4), .second, .val (.long am), .second, .val (.ref sr_1), .val (.ref b4), .val (.ref b55), .unset, .unset] [(.int rf)])) := by
      intro rf Tk145 lk145 Xk145 Nk145 ek145 hr1 hr2
      show Good p e below _ (Tk145.setTop (mkF m 145 #[.val (.int p0), .val (.int p1), .val (.int p2), .val (.long q3), .second, .val (.long q4), .second, .val (.long am), .second, .val (.ref sr_1), .val (.ref b4), .val (.ref b55), .unset, .unset] [(.int rf)]))
      refine Good.back (fun _ k => XS.istore Xk145.here hx rfl (hb hby at_145) rfl (l' := #[.val (.int p0), .val (.int p1), .val (.int p2), .val (.long q3), .second, .val (.long q4), .second, .val (.long am), .second, .val (.ref sr_1), .val (.ref b4), .val (.ref b55), .val (.int rf), .unset]) rfl k) ?_
      show Good p e below _ (Tk145.setTop (mkF m 147 #[.val (.int p0), .val (.int p1), .val (.int p2), .val (.long q3), .second, .val (.long q4), .second, .val (.long am), .second, .val (.ref sr_1), .val (.ref b4), .val (.ref b55), .val (.int rf), .unset] []))
      refine Good.back (fun _ k => XS.iloadN Xk145.here hx rfl (hb hby at_147) rfl k) ?_
      show Good p e below _ (Tk145.setTop (mkF m 148 #[.val (.int p0), .val (.int p1), .val (.int p2), .val (.long q3), .second, .val (.long q4), .second, .val (.long am), .second, .val (.ref sr_1), .val (.ref b4), .val (.ref b55), .val (.int rf), .unset] [(.int p2)]))
      refine Good.back (fun _ k => XS.bipush Xk145.here hx rfl (hb hby at_148) k) ?_
      show Good p e below _ (Tk145.setTop (mkF m 150 #[.val (.int p0), .val (.int p1), .val (.int p2), .val (.long q3), .second, .val (.long q4), .second, .val (.long am), .second, .val (.ref sr_1), .val (.ref b4), .val (.ref b55), .val (.int rf), .unset] [(.int (16 : Int32)), (.int p2)]))
      refine Good.back (fun _ k => XS.iushr Xk145.here hx rfl (hb hby at_150) rfl k) ?_
      show Good p e below _ (Tk145.setTop (mkF m 151 #[.val (.int p0), .val (.int p1), .val (.int p2), .val (.long q3), .second, .val (.long q4), .second, .val (.long am), .second, .val (.ref sr_1), .val (.ref b4), .val (.ref b55), .val (.int rf), .unset] [(.int ((p2.toUInt32 >>> ((16 : Int32) &&& 31).toUInt32).toInt32))]))
      refine Good.back (fun _ k => XS.iconst Xk145.here hx rfl (hb hby at_151) k) ?_
      show Good p e below _ (Tk145.setTop (mkF m 152 #[.val (.int p0), .val (.int p1), .val (.int p2), .val (.long q3), .second, .val (.long q4), .second, .val (.long am), .second, .val (.ref sr_1), .val (.ref b4), .val (.ref b55), .val (.int rf), .unset] [(.int (3 : Int32)), (.int ((p2.toUInt32 >>> ((16 : Int32) &&& 31).toUInt32).toInt32))]))
      refine Good.back (fun _ k => XS.iand Xk145.here hx rfl (hb hby at_152) rfl k) ?_
      show Good p e below _ (Tk145.setTop (mkF m 153 #[.val (.int p0), .val (.int p1), .val (.int p2), .val (.long q3), .second, .val (.long q4), .second, .val (.long am), .second, .val (.ref sr_1), .val (.ref b4), .val (.ref b55), .val (.int rf), .unset] [(.int (((p2.toUInt32 >>> ((16 : Int32) &&& 31).toUInt32).toInt32) &&& (3 : Int32)))]))
      refine Good.back (fun _ k => XS.istore Xk145.here hx rfl (hb hby at_153) rfl (l' := #[.val (.int p0), .val (.int p1), .val (.int p2), .val (.long q3), .second, .val (.long q4), .second, .val (.long am), .second, .val (.ref sr_1), .val (.ref b4), .val (.ref b55), .val (.int rf), .val (.int (((p2.toUInt32 >>> ((16 : Int32) &&& 31).toUInt32).toInt32) &&& (3 : Int32)))]) rfl k) ?_
      show Good p e below _ (Tk145.setTop (mkF m 155 #[.val (.int p0), .val (.int p1), .val (.int p2), .val (.long q3), .second, .val (.long q4), .second, .val (.long am), .second, .val (.ref sr_1), .val (.ref b4), .val (.ref b55), .val (.int rf), .val (.int (((p2.toUInt32 >>> ((16 : Int32) &&& 31).toUInt32).toInt32) &&& (3 : Int32)))] []))
      refine Good.back (fun _ k => XS.iload Xk145.here hx rfl (hb hby at_155) rfl k) ?_
      show Good p e below _ (Tk145.setTop (mkF m 157 #[.val (.int p0), .val (.int p1), .val (.int p2), .val (.long q3), .second, .val (.long q4), .second, .val (.long am), .second, .val (.ref sr_1), .val (.ref b4), .val (.ref b55), .val (.int rf), .val (.int (((p2.toUInt32 >>> ((16 : Int32) &&& 31).toUInt32).toInt32) &&& (3 : Int32)))] [(.int (((p2.toUInt32 >>> ((16 : Int32) &&& 31).toUInt32).toInt32) &&& (3 : Int32)))]))
      by_cases hc157_116 : (((p2.toUInt32 >>> ((16 : Int32) &&& 31).toUInt32).toInt32) &&& (3 : Int32)) = (0 : Int32)
      · refine Good.back (fun _ k => XS.ifNo Xk145.here hx rfl (hb hby at_157) rfl ((if0 _ _).trans (teq hc157_116).2) k) ?_
        show Good p e below _ (Tk145.setTop (mkF m 160 #[.val (.int p0), .val (.int p1), .val (.int p2), .val (.long q3), .second, .val (.long q4), .second, .val (.long am), .second, .val (.ref sr_1), .val (.ref b4), .val (.ref b55), .val (.int rf), .val (.int (((p2.toUInt32 >>> ((16 : Int32) &&& 31).toUInt32).toInt32) &&& (3 : Int32)))] []))
        refine Good.back (fun _ k => XS.aload Xk145.here hx rfl (hb hby at_160) rfl rfl k) ?_
        show Good p e below _ (Tk145.setTop (mkF m 162 #[.val (.int p0), .val (.int p1), .val (.int p2), .val (.long q3), .second, .val (.long q4), .second, .val (.long am), .second, .val (.ref sr_1), .val (.ref b4), .val (.ref b55), .val (.int rf), .val (.int (((p2.toUInt32 >>> ((16 : Int32) &&& 31).toUInt32).toInt32) &&& (3 : Int32)))] [(.ref b4)]))
        refine Good.back (fun _ k => XS.aload Xk145.here hx rfl (hb hby at_162) rfl rfl k) ?_
        show Good p e below _ (Tk145.setTop (mkF m 164 #[.val (.int p0), .val (.int p1), .val (.int p2), .val (.long q3), .second, .val (.long q4), .second, .val (.long am), .second, .val (.ref sr_1), .val (.ref b4), .val (.ref b55), .val (.int rf), .val (.int (((p2.toUInt32 >>> ((16 : Int32) &&& 31).toUInt32).toInt32) &&& (3 : Int32)))] [(.ref b55), (.ref b4)]))
        have f_118 : Sta Z T79.heap "java/lang/String" "COMPACT_STRINGS" "Z" (.int cs) := own_staKeep f_80 Kq79 all0
        have f_119 : Sta Z T83.heap "java/lang/String" "COMPACT_STRINGS" "Z" (.int cs) := own_staKeep f_118 Kq83 (allS (own_plainE f_87) all0)
        have f_120 : Exa Z T27.heap b4 "com/example/orderd/orderd/order/GameOrder" := Exa.keep f_30 Kq27
        have f_121 : Exa Z h55 b4 "com/example/orderd/orderd/order/GameOrder" := Exa.ext E55 f_120
        have f_122 : Exa Z T64.heap b4 "com/example/orderd/orderd/order/GameOrder" := Exa.keep f_121 Kq64
        have f_123 : Exa Z T71.heap b4 "com/example/orderd/orderd/order/GameOrder" := Exa.keep f_122 Kq71
        have f_124 : Exa Z T75.heap b4 "com/example/orderd/orderd/order/GameOrder" := Exa.keep f_123 Kq75
        have f_125 : Exa Z T79.heap b4 "com/example/orderd/orderd/order/GameOrder" := Exa.keep f_124 Kq79
        have f_126 : Exa Z T83.heap b4 "com/example/orderd/orderd/order/GameOrder" := Exa.keep f_125 Kq83
        have f_127 : Exa Z T83.heap b55 "com/example/orderd/orderd/order/GameOrder" := Exa.keep f_87 Kq83
        have f_128 : Fld Z h55 b4 "com/example/orderd/orderd/order/GameOrder" "number" "Ljava/lang/String;" (.ref sr_1) := Fld.ext E55 o27_0
        have f_129 : Fld Z T64.heap b4 "com/example/orderd/orderd/order/GameOrder" "number" "Ljava/lang/String;" (.ref sr_1) := Fld.keep f_128 Kq64 nin0
        have f_130 : Fld Z T71.heap b4 "com/example/orderd/orderd/order/GameOrder" "number" "Ljava/lang/String;" (.ref sr_1) := Fld.keep f_129 Kq71 nin0
        have f_131 : Fld Z T75.heap b4 "com/example/orderd/orderd/order/GameOrder" "number" "Ljava/lang/String;" (.ref sr_1) := Fld.keep f_130 Kq75 nin0
        have f_132 : Fld Z T79.heap b4 "com/example/orderd/orderd/order/GameOrder" "number" "Ljava/lang/String;" (.ref sr_1) := Fld.keep f_131 Kq79 nin0
        have ne_b4_b55_134 : b4 ≠ b55 := Nat.ne_of_lt (Nat.lt_of_lt_of_le o27_4.lt (Nat.le_of_eq g55.symm))
        have f_133 : Fld Z T83.heap b4 "com/example/orderd/orderd/order/GameOrder" "number" "Ljava/lang/String;" (.ref sr_1) := Fld.keep f_132 Kq83 (ninS ne_b4_b55_134 nin0)
        have f_135 : Exa Z T27.heap sr_1 "java/lang/String" := Exa.keep f_34 Kq27
        have f_136 : Exa Z h55 sr_1 "java/lang/String" := Exa.ext E55 f_135
        have f_137 : Exa Z T64.heap sr_1 "java/lang/String" := Exa.keep f_136 Kq64
        have f_138 : Exa Z T71.heap sr_1 "java/lang/String" := Exa.keep f_137 Kq71
        have f_139 : Exa Z T75.heap sr_1 "java/lang/String" := Exa.keep f_138 Kq75
        have f_140 : Exa Z T79.heap sr_1 "java/lang/String" := Exa.keep f_139 Kq79
        have f_141 : Exa Z T83.heap sr_1 "java/lang/String" := Exa.keep f_140 Kq83
        have f_142 : Fld Z h4 sr_1 "java/lang/String" "value" "[B" (.ref ar_1) := Fld.ext E4 o1_1
        have f_143 : Fld Z T13.heap sr_1 "java/lang/String" "value" "[B" (.ref ar_1) := Fld.keep f_142 Kq13 nin0
        have f_144 : Fld Z T19.heap sr_1 "java/lang/String" "value" "[B" (.ref ar_1) := Fld.keep f_143 Kq19 nin0
        have f_145 : Fld Z T23.heap sr_1 "java/lang/String" "value" "[B" (.ref ar_1) := Fld.keep f_144 Kq23 nin0
        have ne_sr_1_b4_147 : sr_1 ≠ b4 := Nat.ne_of_lt (Nat.lt_of_lt_of_le o1_2.lt (Nat.le_of_eq g4.symm))
        have f_146 : Fld Z T27.heap sr_1 "java/lang/String" "value" "[B" (.ref ar_1) := Fld.keep f_145 Kq27 (ninS ne_sr_1_b4_147 nin0)
        have f_148 : Fld Z h55 sr_1 "java/lang/String" "value" "[B" (.ref ar_1) := Fld.ext E55 f_146
        have f_149 : Fld Z T64.heap sr_1 "java/lang/String" "value" "[B" (.ref ar_1) := Fld.keep f_148 Kq64 nin0
        have f_150 : Fld Z T71.heap sr_1 "java/lang/String" "value" "[B" (.ref ar_1) := Fld.keep f_149 Kq71 nin0
        have f_151 : Fld Z T75.heap sr_1 "java/lang/String" "value" "[B" (.ref ar_1) := Fld.keep f_150 Kq75 nin0
        have f_152 : Fld Z T79.heap sr_1 "java/lang/String" "value" "[B" (.ref ar_1) := Fld.keep f_151 Kq79 nin0
        have f_154 : Exa Z T27.heap sr_1 "java/lang/String" := Exa.keep f_34 Kq27
        have ne_sr_1_b55_155 : sr_1 ≠ b55 := Nat.ne_of_lt (Nat.lt_of_lt_of_le f_154.lt (Nat.le_of_eq g55.symm))
        have f_153 : Fld Z T83.heap sr_1 "java/lang/String" "value" "[B" (.ref ar_1) := Fld.keep f_152 Kq83 (ninS ne_sr_1_b55_155 nin0)
        have f_156 : Fld Z h4 sr_1 "java/lang/String" "coder" "B" (.int (0 : Int32)) := Fld.ext E4 o1_2
        have f_157 : Fld Z T13.heap sr_1 "java/lang/String" "coder" "B" (.int (0 : Int32)) := Fld.keep f_156 Kq13 nin0
        have f_158 : Fld Z T19.heap sr_1 "java/lang/String" "coder" "B" (.int (0 : Int32)) := Fld.keep f_157 Kq19 nin0
        have f_159 : Fld Z T23.heap sr_1 "java/lang/String" "coder" "B" (.int (0 : Int32)) := Fld.keep f_158 Kq23 nin0
        have f_160 : Fld Z T27.heap sr_1 "java/lang/String" "coder" "B" (.int (0 : Int32)) := Fld.keep f_159 Kq27 (ninS ne_sr_1_b4_147 nin0)
        have f_161 : Fld Z h55 sr_1 "java/lang/String" "coder" "B" (.int (0 : Int32)) := Fld.ext E55 f_160
        have f_162 : Fld Z T64.heap sr_1 "java/lang/String" "coder" "B" (.int (0 : Int32)) := Fld.keep f_161 Kq64 nin0
        have f_163 : Fld Z T71.heap sr_1 "java/lang/String" "coder" "B" (.int (0 : Int32)) := Fld.keep f_162 Kq71 nin0
        have f_164 : Fld Z T75.heap sr_1 "java/lang/String" "coder" "B" (.int (0 : Int32)) := Fld.keep f_163 Kq75 nin0
        have f_165 : Fld Z T79.heap sr_1 "java/lang/String" "coder" "B" (.int (0 : Int32)) := Fld.keep f_164 Kq79 nin0
        have f_166 : Fld Z T83.heap sr_1 "java/lang/String" "coder" "B" (.int (0 : Int32)) := Fld.keep f_165 Kq83 (ninS ne_sr_1_b55_155 nin0)
        have f_167 : Arv Z h4 ar_1 kk_1 .byte (own_sl (own_len1 p2 (0 : Int32))) (own_sv (own_len1 p2 (0 : Int32)) (own_ch p0 (0 : Int32))) (.int (0 : Int32)) := Arv.ext o1_3 E4
        have f_168 : Arv Z T13.heap ar_1 kk_1 .byte (own_sl (own_len1 p2 (0 : Int32))) (own_sv (own_len1 p2 (0 : Int32)) (own_ch p0 (0 : Int32))) (.int (0 : Int32)) := Arv.keep f_167 Kq13 nin0
        have f_169 : Arv Z T19.heap ar_1 kk_1 .byte (own_sl (own_len1 p2 (0 : Int32))) (own_sv (own_len1 p2 (0 : Int32)) (own_ch p0 (0 : Int32))) (.int (0 : Int32)) := Arv.keep f_168 Kq19 nin0
        have f_170 : Arv Z T23.heap ar_1 kk_1 .byte (own_sl (own_len1 p2 (0 : Int32))) (own_sv (own_len1 p2 (0 : Int32)) (own_ch p0 (0 : Int32))) (.int (0 : Int32)) := Arv.keep f_169 Kq23 nin0
        have ne_ar_1_b4_172 : ar_1 ≠ b4 := Nat.ne_of_lt (Nat.lt_of_lt_of_le o1_3.lt (Nat.le_of_eq g4.symm))
        have f_171 : Arv Z T27.heap ar_1 kk_1 .byte (own_sl (own_len1 p2 (0 : Int32))) (own_sv (own_len1 p2 (0 : Int32)) (own_ch p0 (0 : Int32))) (.int (0 : Int32)) := Arv.keep f_170 Kq27 (ninS ne_ar_1_b4_172 nin0)
        have f_173 : Arv Z h55 ar_1 kk_1 .byte (own_sl (own_len1 p2 (0 : Int32))) (own_sv (own_len1 p2 (0 : Int32)) (own_ch p0 (0 : Int32))) (.int (0 : Int32)) := Arv.ext f_171 E55
        have f_174 : Arv Z T64.heap ar_1 kk_1 .byte (own_sl (own_len1 p2 (0 : Int32))) (own_sv (own_len1 p2 (0 : Int32)) (own_ch p0 (0 : Int32))) (.int (0 : Int32)) := Arv.keep f_173 Kq64 nin0
        have f_175 : Arv Z T71.heap ar_1 kk_1 .byte (own_sl (own_len1 p2 (0 : Int32))) (own_sv (own_len1 p2 (0 : Int32)) (own_ch p0 (0 : Int32))) (.int (0 : Int32)) := Arv.keep f_174 Kq71 nin0
        have f_176 : Arv Z T75.heap ar_1 kk_1 .byte (own_sl (own_len1 p2 (0 : Int32))) (own_sv (own_len1 p2 (0 : Int32)) (own_ch p0 (0 : Int32))) (.int (0 : Int32)) := Arv.keep f_175 Kq75 nin0
        have f_177 : Arv Z T79.heap ar_1 kk_1 .byte (own_sl (own_len1 p2 (0 : Int32))) (own_sv (own_len1 p2 (0 : Int32)) (own_ch p0 (0 : Int32))) (.int (0 : Int32)) := Arv.keep f_176 Kq79 nin0
        have f_179 : Arv Z h4 ar_1 kk_1 .byte (own_sl (own_len1 p2 (0 : Int32))) (own_sv (own_len1 p2 (0 : Int32)) (own_ch p0 (0 : Int32))) (.int (0 : Int32)) := Arv.ext o1_3 E4
        have f_180 : Arv Z T13.heap ar_1 kk_1 .byte (own_sl (own_len1 p2 (0 : Int32))) (own_sv (own_len1 p2 (0 : Int32)) (own_ch p0 (0 : Int32))) (.int (0 : Int32)) := Arv.keep f_179 Kq13 nin0
        have f_181 : Arv Z T19.heap ar_1 kk_1 .byte (own_sl (own_len1 p2 (0 : Int32))) (own_sv (own_len1 p2 (0 : Int32)) (own_ch p0 (0 : Int32))) (.int (0 : Int32)) := Arv.keep f_180 Kq19 nin0
        have f_182 : Arv Z T23.heap ar_1 kk_1 .byte (own_sl (own_len1 p2 (0 : Int32))) (own_sv (own_len1 p2 (0 : Int32)) (own_ch p0 (0 : Int32))) (.int (0 : Int32)) := Arv.keep f_181 Kq23 nin0
        have f_183 : Arv Z T27.heap ar_1 kk_1 .byte (own_sl (own_len1 p2 (0 : Int32))) (own_sv (own_len1 p2 (0 : Int32)) (own_ch p0 (0 : Int32))) (.int (0 : Int32)) := Arv.keep f_182 Kq27 (ninS ne_ar_1_b4_172 nin0)
        have ne_ar_1_b55_184 : ar_1 ≠ b55 := Nat.ne_of_lt (Nat.lt_of_lt_of_le f_183.lt (Nat.le_of_eq g55.symm))
        have f_178 : Arv Z T83.heap ar_1 kk_1 .byte (own_sl (own_len1 p2 (0 : Int32))) (own_sv (own_len1 p2 (0 : Int32)) (own_ch p0 (0 : Int32))) (.int (0 : Int32)) := Arv.keep f_177 Kq83 (ninS ne_ar_1_b55_184 nin0)
        have f_185 : Exa Z T83.heap sr_64 "java/lang/String" := Exa.keep f_90 Kq83
        have f_186 : Fld Z T71.heap sr_64 "java/lang/String" "value" "[B" (.ref ar_64) := Fld.keep o64_1 Kq71 nin0
        have f_187 : Fld Z T75.heap sr_64 "java/lang/String" "value" "[B" (.ref ar_64) := Fld.keep f_186 Kq75 nin0
        have f_188 : Fld Z T79.heap sr_64 "java/lang/String" "value" "[B" (.ref ar_64) := Fld.keep f_187 Kq79 nin0
        have ne_sr_64_b55_190 : sr_64 ≠ b55 := Exa.ne f_185 f_127 (by decide)
        have f_189 : Fld Z T83.heap sr_64 "java/lang/String" "value" "[B" (.ref ar_64) := Fld.keep f_188 Kq83 (ninS ne_sr_64_b55_190 nin0)
        have f_191 : Fld Z T71.heap sr_64 "java/lang/String" "coder" "B" (.int (0 : Int32)) := Fld.keep o64_2 Kq71 nin0
        have f_192 : Fld Z T75.heap sr_64 "java/lang/String" "coder" "B" (.int (0 : Int32)) := Fld.keep f_191 Kq75 nin0
        have f_193 : Fld Z T79.heap sr_64 "java/lang/String" "coder" "B" (.int (0 : Int32)) := Fld.keep f_192 Kq79 nin0
        have f_194 : Fld Z T83.heap sr_64 "java/lang/String" "coder" "B" (.int (0 : Int32)) := Fld.keep f_193 Kq83 (ninS ne_sr_64_b55_190 nin0)
        have f_195 : Arv Z T71.heap ar_64 kk_64 .byte (own_sl (own_len2 p2 (0 : Int32))) (own_sv (own_len2 p2 (0 : Int32)) (own_chr2 p0 p1 p2 (0 : Int32))) (.int (0 : Int32)) := Arv.keep o64_3 Kq71 nin0
        have f_196 : Arv Z T75.heap ar_64 kk_64 .byte (own_sl (own_len2 p2 (0 : Int32))) (own_sv (own_len2 p2 (0 : Int32)) (own_chr2 p0 p1 p2 (0 : Int32))) (.int (0 : Int32)) := Arv.keep f_195 Kq75 nin0
        have f_197 : Arv Z T79.heap ar_64 kk_64 .byte (own_sl (own_len2 p2 (0 : Int32))) (own_sv (own_len2 p2 (0 : Int32)) (own_chr2 p0 p1 p2 (0 : Int32))) (.int (0 : Int32)) := Arv.keep f_196 Kq79 nin0
        have f_199 : Exa Z T64.heap b55 "com/example/orderd/orderd/order/GameOrder" := Exa.keep f_58 Kq64
        have ne_b55_ar_64_200 : b55 ≠ ar_64 := Exa.neArv f_199 o64_3 (hw _ (List.mem_of_getElem? (i := 25) rfl))
        have f_198 : Arv Z T83.heap ar_64 kk_64 .byte (own_sl (own_len2 p2 (0 : Int32))) (own_sv (own_len2 p2 (0 : Int32)) (own_chr2 p0 p1 p2 (0 : Int32))) (.int (0 : Int32)) := Arv.keep f_197 Kq83 (ninS (Ne.symm ne_b55_ar_64_200) nin0)
        have f_201 : Fld Z h55 b4 "com/example/orderd/orderd/order/GameOrder" "product" "Ljava/lang/String;" (.ref sr_13) := Fld.ext E55 o27_1
        have f_202 : Fld Z T64.heap b4 "com/example/orderd/orderd/order/GameOrder" "product" "Ljava/lang/String;" (.ref sr_13) := Fld.keep f_201 Kq64 nin0
        have f_203 : Fld Z T71.heap b4 "com/example/orderd/orderd/order/GameOrder" "product" "Ljava/lang/String;" (.ref sr_13) := Fld.keep f_202 Kq71 nin0
        have f_204 : Fld Z T75.heap b4 "com/example/orderd/orderd/order/GameOrder" "product" "Ljava/lang/String;" (.ref sr_13) := Fld.keep f_203 Kq75 nin0
        have f_205 : Fld Z T79.heap b4 "com/example/orderd/orderd/order/GameOrder" "product" "Ljava/lang/String;" (.ref sr_13) := Fld.keep f_204 Kq79 nin0
        have f_206 : Fld Z T83.heap b4 "com/example/orderd/orderd/order/GameOrder" "product" "Ljava/lang/String;" (.ref sr_13) := Fld.keep f_205 Kq83 (ninS ne_b4_b55_134 nin0)
        have f_207 : Exa Z T27.heap sr_13 "java/lang/String" := Exa.keep f_36 Kq27
        have f_208 : Exa Z h55 sr_13 "java/lang/String" := Exa.ext E55 f_207
        have f_209 : Exa Z T64.heap sr_13 "java/lang/String" := Exa.keep f_208 Kq64
        have f_210 : Exa Z T71.heap sr_13 "java/lang/String" := Exa.keep f_209 Kq71
        have f_211 : Exa Z T75.heap sr_13 "java/lang/String" := Exa.keep f_210 Kq75
        have f_212 : Exa Z T79.heap sr_13 "java/lang/String" := Exa.keep f_211 Kq79
        have f_213 : Exa Z T83.heap sr_13 "java/lang/String" := Exa.keep f_212 Kq83
        have f_214 : Fld Z T19.heap sr_13 "java/lang/String" "value" "[B" (.ref ar_13) := Fld.keep o13_1 Kq19 nin0
        have f_215 : Fld Z T23.heap sr_13 "java/lang/String" "value" "[B" (.ref ar_13) := Fld.keep f_214 Kq23 nin0
        have ne_sr_13_b4_217 : sr_13 ≠ b4 := Exa.ne f_213 f_126 (by decide)
        have f_216 : Fld Z T27.heap sr_13 "java/lang/String" "value" "[B" (.ref ar_13) := Fld.keep f_215 Kq27 (ninS ne_sr_13_b4_217 nin0)
        have f_218 : Fld Z h55 sr_13 "java/lang/String" "value" "[B" (.ref ar_13) := Fld.ext E55 f_216
        have f_219 : Fld Z T64.heap sr_13 "java/lang/String" "value" "[B" (.ref ar_13) := Fld.keep f_218 Kq64 nin0
        have f_220 : Fld Z T71.heap sr_13 "java/lang/String" "value" "[B" (.ref ar_13) := Fld.keep f_219 Kq71 nin0
        have f_221 : Fld Z T75.heap sr_13 "java/lang/String" "value" "[B" (.ref ar_13) := Fld.keep f_220 Kq75 nin0
        have f_222 : Fld Z T79.heap sr_13 "java/lang/String" "value" "[B" (.ref ar_13) := Fld.keep f_221 Kq79 nin0
        have f_224 : Exa Z T27.heap sr_13 "java/lang/String" := Exa.keep f_36 Kq27
        have ne_sr_13_b55_225 : sr_13 ≠ b55 := Nat.ne_of_lt (Nat.lt_of_lt_of_le f_224.lt (Nat.le_of_eq g55.symm))
        have f_223 : Fld Z T83.heap sr_13 "java/lang/String" "value" "[B" (.ref ar_13) := Fld.keep f_222 Kq83 (ninS ne_sr_13_b55_225 nin0)
        have f_226 : Fld Z T19.heap sr_13 "java/lang/String" "coder" "B" (.int (0 : Int32)) := Fld.keep o13_2 Kq19 nin0
        have f_227 : Fld Z T23.heap sr_13 "java/lang/String" "coder" "B" (.int (0 : Int32)) := Fld.keep f_226 Kq23 nin0
        have f_228 : Fld Z T27.heap sr_13 "java/lang/String" "coder" "B" (.int (0 : Int32)) := Fld.keep f_227 Kq27 (ninS ne_sr_13_b4_217 nin0)
        have f_229 : Fld Z h55 sr_13 "java/lang/String" "coder" "B" (.int (0 : Int32)) := Fld.ext E55 f_228
        have f_230 : Fld Z T64.heap sr_13 "java/lang/String" "coder" "B" (.int (0 : Int32)) := Fld.keep f_229 Kq64 nin0
        have f_231 : Fld Z T71.heap sr_13 "java/lang/String" "coder" "B" (.int (0 : Int32)) := Fld.keep f_230 Kq71 nin0
        have f_232 : Fld Z T75.heap sr_13 "java/lang/String" "coder" "B" (.int (0 : Int32)) := Fld.keep f_231 Kq75 nin0
        have f_233 : Fld Z T79.heap sr_13 "java/lang/String" "coder" "B" (.int (0 : Int32)) := Fld.keep f_232 Kq79 nin0
        have f_234 : Fld Z T83.heap sr_13 "java/lang/String" "coder" "B" (.int (0 : Int32)) := Fld.keep f_233 Kq83 (ninS ne_sr_13_b55_225 nin0)
        have f_235 : Arv Z T19.heap ar_13 kk_13 .byte (own_sl (own_len1 p2 (1 : Int32))) (own_sv (own_len1 p2 (1 : Int32)) (own_ch p0 (1 : Int32))) (.int (0 : Int32)) := Arv.keep o13_3 Kq19 nin0
        have f_236 : Arv Z T23.heap ar_13 kk_13 .byte (own_sl (own_len1 p2 (1 : Int32))) (own_sv (own_len1 p2 (1 : Int32)) (own_ch p0 (1 : Int32))) (.int (0 : Int32)) := Arv.keep f_235 Kq23 nin0
        have f_238 : Exa Z T13.heap b4 "com/example/orderd/orderd/order/GameOrder" := Exa.keep f_7 Kq13
        have ne_b4_ar_13_239 : b4 ≠ ar_13 := Exa.neArv f_238 o13_3 (hw _ (List.mem_of_getElem? (i := 25) rfl))
        have f_237 : Arv Z T27.heap ar_13 kk_13 .byte (own_sl (own_len1 p2 (1 : Int32))) (own_sv (own_len1 p2 (1 : Int32)) (own_ch p0 (1 : Int32))) (.int (0 : Int32)) := Arv.keep f_236 Kq27 (ninS (Ne.symm ne_b4_ar_13_239) nin0)
        have f_240 : Arv Z h55 ar_13 kk_13 .byte (own_sl (own_len1 p2 (1 : Int32))) (own_sv (own_len1 p2 (1 : Int32)) (own_ch p0 (1 : Int32))) (.int (0 : Int32)) := Arv.ext f_237 E55
        have f_241 : Arv Z T64.heap ar_13 kk_13 .byte (own_sl (own_len1 p2 (1 : Int32))) (own_sv (own_len1 p2 (1 : Int32)) (own_ch p0 (1 : Int32))) (.int (0 : Int32)) := Arv.keep f_240 Kq64 nin0
        have f_242 : Arv Z T71.heap ar_13 kk_13 .byte (own_sl (own_len1 p2 (1 : Int32))) (own_sv (own_len1 p2 (1 : Int32)) (own_ch p0 (1 : Int32))) (.int (0 : Int32)) := Arv.keep f_241 Kq71 nin0
        have f_243 : Arv Z T75.heap ar_13 kk_13 .byte (own_sl (own_len1 p2 (1 : Int32))) (own_sv (own_len1 p2 (1 : Int32)) (own_ch p0 (1 : Int32))) (.int (0 : Int32)) := Arv.keep f_242 Kq75 nin0
        have f_244 : Arv Z T79.heap ar_13 kk_13 .byte (own_sl (own_len1 p2 (1 : Int32))) (own_sv (own_len1 p2 (1 : Int32)) (own_ch p0 (1 : Int32))) (.int (0 : Int32)) := Arv.keep f_243 Kq79 nin0
        have f_246 : Arv Z T19.heap ar_13 kk_13 .byte (own_sl (own_len1 p2 (1 : Int32))) (own_sv (own_len1 p2 (1 : Int32)) (own_ch p0 (1 : Int32))) (.int (0 : Int32)) := Arv.keep o13_3 Kq19 nin0
        have f_247 : Arv Z T23.heap ar_13 kk_13 .byte (own_sl (own_len1 p2 (1 : Int32))) (own_sv (own_len1 p2 (1 : Int32)) (own_ch p0 (1 : Int32))) (.int (0 : Int32)) := Arv.keep f_246 Kq23 nin0
        have f_248 : Arv Z T27.heap ar_13 kk_13 .byte (own_sl (own_len1 p2 (1 : Int32))) (own_sv (own_len1 p2 (1 : Int32)) (own_ch p0 (1 : Int32))) (.int (0 : Int32)) := Arv.keep f_247 Kq27 (ninS (Ne.symm ne_b4_ar_13_239) nin0)
        have ne_ar_13_b55_249 : ar_13 ≠ b55 := Nat.ne_of_lt (Nat.lt_of_lt_of_le f_248.lt (Nat.le_of_eq g55.symm))
        have f_245 : Arv Z T83.heap ar_13 kk_13 .byte (own_sl (own_len1 p2 (1 : Int32))) (own_sv (own_len1 p2 (1 : Int32)) (own_ch p0 (1 : Int32))) (.int (0 : Int32)) := Arv.keep f_244 Kq83 (ninS ne_ar_13_b55_249 nin0)
        have f_250 : Exa Z T83.heap sr_71 "java/lang/String" := Exa.keep f_92 Kq83
        have f_251 : Fld Z T75.heap sr_71 "java/lang/String" "value" "[B" (.ref ar_71) := Fld.keep o71_1 Kq75 nin0
        have f_252 : Fld Z T79.heap sr_71 "java/lang/String" "value" "[B" (.ref ar_71) := Fld.keep f_251 Kq79 nin0
        have ne_sr_71_b55_254 : sr_71 ≠ b55 := Exa.ne f_250 f_127 (by decide)
        have f_253 : Fld Z T83.heap sr_71 "java/lang/String" "value" "[B" (.ref ar_71) := Fld.keep f_252 Kq83 (ninS ne_sr_71_b55_254 nin0)
        have f_255 : Fld Z T75.heap sr_71 "java/lang/String" "coder" "B" (.int (0 : Int32)) := Fld.keep o71_2 Kq75 nin0
        have f_256 : Fld Z T79.heap sr_71 "java/lang/String" "coder" "B" (.int (0 : Int32)) := Fld.keep f_255 Kq79 nin0
        have f_257 : Fld Z T83.heap sr_71 "java/lang/String" "coder" "B" (.int (0 : Int32)) := Fld.keep f_256 Kq83 (ninS ne_sr_71_b55_254 nin0)
        have f_258 : Arv Z T75.heap ar_71 kk_71 .byte (own_sl (own_len2 p2 (1 : Int32))) (own_sv (own_len2 p2 (1 : Int32)) (own_chr2 p0 p1 p2 (1 : Int32))) (.int (0 : Int32)) := Arv.keep o71_3 Kq75 nin0
        have f_259 : Arv Z T79.heap ar_71 kk_71 .byte (own_sl (own_len2 p2 (1 : Int32))) (own_sv (own_len2 p2 (1 : Int32)) (own_chr2 p0 p1 p2 (1 : Int32))) (.int (0 : Int32)) := Arv.keep f_258 Kq79 nin0
        have f_261 : Exa Z T64.heap b55 "com/example/orderd/orderd/order/GameOrder" := Exa.keep f_58 Kq64
        have f_262 : Exa Z T71.heap b55 "com/example/orderd/orderd/order/GameOrder" := Exa.keep f_261 Kq71
        have ne_b55_ar_71_263 : b55 ≠ ar_71 := Exa.neArv f_262 o71_3 (hw _ (List.mem_of_getElem? (i := 25) rfl))
        have f_260 : Arv Z T83.heap ar_71 kk_71 .byte (own_sl (own_len2 p2 (1 : Int32))) (own_sv (own_len2 p2 (1 : Int32)) (own_chr2 p0 p1 p2 (1 : Int32))) (.int (0 : Int32)) := Arv.keep f_259 Kq83 (ninS (Ne.symm ne_b55_ar_71_263) nin0)
        have f_264 : Fld Z h55 b4 "com/example/orderd/orderd/order/GameOrder" "currency" "Ljava/lang/String;" (.ref sr_19) := Fld.ext E55 o27_2
        have f_265 : Fld Z T64.heap b4 "com/example/orderd/orderd/order/GameOrder" "currency" "Ljava/lang/String;" (.ref sr_19) := Fld.keep f_264 Kq64 nin0
        have f_266 : Fld Z T71.heap b4 "com/example/orderd/orderd/order/GameOrder" "currency" "Ljava/lang/String;" (.ref sr_19) := Fld.keep f_265 Kq71 nin0
        have f_267 : Fld Z T75.heap b4 "com/example/orderd/orderd/order/GameOrder" "currency" "Ljava/lang/String;" (.ref sr_19) := Fld.keep f_266 Kq75 nin0
        have f_268 : Fld Z T79.heap b4 "com/example/orderd/orderd/order/GameOrder" "currency" "Ljava/lang/String;" (.ref sr_19) := Fld.keep f_267 Kq79 nin0
        have f_269 : Fld Z T83.heap b4 "com/example/orderd/orderd/order/GameOrder" "currency" "Ljava/lang/String;" (.ref sr_19) := Fld.keep f_268 Kq83 (ninS ne_b4_b55_134 nin0)
        have f_270 : Exa Z T27.heap sr_19 "java/lang/String" := Exa.keep f_37 Kq27
        have f_271 : Exa Z h55 sr_19 "java/lang/String" := Exa.ext E55 f_270
        have f_272 : Exa Z T64.heap sr_19 "java/lang/String" := Exa.keep f_271 Kq64
        have f_273 : Exa Z T71.heap sr_19 "java/lang/String" := Exa.keep f_272 Kq71
        have f_274 : Exa Z T75.heap sr_19 "java/lang/String" := Exa.keep f_273 Kq75
        have f_275 : Exa Z T79.heap sr_19 "java/lang/String" := Exa.keep f_274 Kq79
        have f_276 : Exa Z T83.heap sr_19 "java/lang/String" := Exa.keep f_275 Kq83
        have f_277 : Fld Z T23.heap sr_19 "java/lang/String" "value" "[B" (.ref ar_19) := Fld.keep o19_1 Kq23 nin0
        have ne_sr_19_b4_279 : sr_19 ≠ b4 := Exa.ne f_276 f_126 (by decide)
        have f_278 : Fld Z T27.heap sr_19 "java/lang/String" "value" "[B" (.ref ar_19) := Fld.keep f_277 Kq27 (ninS ne_sr_19_b4_279 nin0)
        have f_280 : Fld Z h55 sr_19 "java/lang/String" "value" "[B" (.ref ar_19) := Fld.ext E55 f_278
        have f_281 : Fld Z T64.heap sr_19 "java/lang/String" "value" "[B" (.ref ar_19) := Fld.keep f_280 Kq64 nin0
        have f_282 : Fld Z T71.heap sr_19 "java/lang/String" "value" "[B" (.ref ar_19) := Fld.keep f_281 Kq71 nin0
        have f_283 : Fld Z T75.heap sr_19 "java/lang/String" "value" "[B" (.ref ar_19) := Fld.keep f_282 Kq75 nin0
        have f_284 : Fld Z T79.heap sr_19 "java/lang/String" "value" "[B" (.ref ar_19) := Fld.keep f_283 Kq79 nin0
        have f_286 : Exa Z T27.heap sr_19 "java/lang/String" := Exa.keep f_37 Kq27
        have ne_sr_19_b55_287 : sr_19 ≠ b55 := Nat.ne_of_lt (Nat.lt_of_lt_of_le f_286.lt (Nat.le_of_eq g55.symm))
        have f_285 : Fld Z T83.heap sr_19 "java/lang/String" "value" "[B" (.ref ar_19) := Fld.keep f_284 Kq83 (ninS ne_sr_19_b55_287 nin0)
        have f_288 : Fld Z T23.heap sr_19 "java/lang/String" "coder" "B" (.int (0 : Int32)) := Fld.keep o19_2 Kq23 nin0
        have f_289 : Fld Z T27.heap sr_19 "java/lang/String" "coder" "B" (.int (0 : Int32)) := Fld.keep f_288 Kq27 (ninS ne_sr_19_b4_279 nin0)
        have f_290 : Fld Z h55 sr_19 "java/lang/String" "coder" "B" (.int (0 : Int32)) := Fld.ext E55 f_289
        have f_291 : Fld Z T64.heap sr_19 "java/lang/String" "coder" "B" (.int (0 : Int32)) := Fld.keep f_290 Kq64 nin0
        have f_292 : Fld Z T71.heap sr_19 "java/lang/String" "coder" "B" (.int (0 : Int32)) := Fld.keep f_291 Kq71 nin0
        have f_293 : Fld Z T75.heap sr_19 "java/lang/String" "coder" "B" (.int (0 : Int32)) := Fld.keep f_292 Kq75 nin0
        have f_294 : Fld Z T79.heap sr_19 "java/lang/String" "coder" "B" (.int (0 : Int32)) := Fld.keep f_293 Kq79 nin0
        have f_295 : Fld Z T83.heap sr_19 "java/lang/String" "coder" "B" (.int (0 : Int32)) := Fld.keep f_294 Kq83 (ninS ne_sr_19_b55_287 nin0)
        have f_296 : Arv Z T23.heap ar_19 kk_19 .byte (own_sl (own_len1 p2 (2 : Int32))) (own_sv (own_len1 p2 (2 : Int32)) (own_ch p0 (2 : Int32))) (.int (0 : Int32)) := Arv.keep o19_3 Kq23 nin0
        have f_298 : Exa Z T13.heap b4 "com/example/orderd/orderd/order/GameOrder" := Exa.keep f_7 Kq13
        have f_299 : Exa Z T19.heap b4 "com/example/orderd/orderd/order/GameOrder" := Exa.keep f_298 Kq19
        have ne_b4_ar_19_300 : b4 ≠ ar_19 := Exa.neArv f_299 o19_3 (hw _ (List.mem_of_getElem? (i := 25) rfl))
        have f_297 : Arv Z T27.heap ar_19 kk_19 .byte (own_sl (own_len1 p2 (2 : Int32))) (own_sv (own_len1 p2 (2 : Int32)) (own_ch p0 (2 : Int32))) (.int (0 : Int32)) := Arv.keep f_296 Kq27 (ninS (Ne.symm ne_b4_ar_19_300) nin0)
        have f_301 : Arv Z h55 ar_19 kk_19 .byte (own_sl (own_len1 p2 (2 : Int32))) (own_sv (own_len1 p2 (2 : Int32)) (own_ch p0 (2 : Int32))) (.int (0 : Int32)) := Arv.ext f_297 E55
        have f_302 : Arv Z T64.heap ar_19 kk_19 .byte (own_sl (own_len1 p2 (2 : Int32))) (own_sv (own_len1 p2 (2 : Int32)) (own_ch p0 (2 : Int32))) (.int (0 : Int32)) := Arv.keep f_301 Kq64 nin0
        have f_303 : Arv Z T71.heap ar_19 kk_19 .byte (own_sl (own_len1 p2 (2 : Int32))) (own_sv (own_len1 p2 (2 : Int32)) (own_ch p0 (2 : Int32))) (.int (0 : Int32)) := Arv.keep f_302 Kq71 nin0
        have f_304 : Arv Z T75.heap ar_19 kk_19 .byte (own_sl (own_len1 p2 (2 : Int32))) (own_sv (own_len1 p2 (2 : Int32)) (own_ch p0 (2 : Int32))) (.int (0 : Int32)) := Arv.keep f_303 Kq75 nin0
        have f_305 : Arv Z T79.heap ar_19 kk_19 .byte (own_sl (own_len1 p2 (2 : Int32))) (own_sv (own_len1 p2 (2 : Int32)) (own_ch p0 (2 : Int32))) (.int (0 : Int32)) := Arv.keep f_304 Kq79 nin0
        have f_307 : Arv Z T23.heap ar_19 kk_19 .byte (own_sl (own_len1 p2 (2 : Int32))) (own_sv (own_len1 p2 (2 : Int32)) (own_ch p0 (2 : Int32))) (.int (0 : Int32)) := Arv.keep o19_3 Kq23 nin0
        have f_308 : Arv Z T27.heap ar_19 kk_19 .byte (own_sl (own_len1 p2 (2 : Int32))) (own_sv (own_len1 p2 (2 : Int32)) (own_ch p0 (2 : Int32))) (.int (0 : Int32)) := Arv.keep f_307 Kq27 (ninS (Ne.symm ne_b4_ar_19_300) nin0)
        have ne_ar_19_b55_309 : ar_19 ≠ b55 := Nat.ne_of_lt (Nat.lt_of_lt_of_le f_308.lt (Nat.le_of_eq g55.symm))
        have f_306 : Arv Z T83.heap ar_19 kk_19 .byte (own_sl (own_len1 p2 (2 : Int32))) (own_sv (own_len1 p2 (2 : Int32)) (own_ch p0 (2 : Int32))) (.int (0 : Int32)) := Arv.keep f_305 Kq83 (ninS ne_ar_19_b55_309 nin0)
        have f_310 : Exa Z T83.heap sr_75 "java/lang/String" := Exa.keep f_93 Kq83
        have f_311 : Fld Z T79.heap sr_75 "java/lang/String" "value" "[B" (.ref ar_75) := Fld.keep o75_1 Kq79 nin0
        have ne_sr_75_b55_313 : sr_75 ≠ b55 := Exa.ne f_310 f_127 (by decide)
        have f_312 : Fld Z T83.heap sr_75 "java/lang/String" "value" "[B" (.ref ar_75) := Fld.keep f_311 Kq83 (ninS ne_sr_75_b55_313 nin0)
        have f_314 : Fld Z T79.heap sr_75 "java/lang/String" "coder" "B" (.int (0 : Int32)) := Fld.keep o75_2 Kq79 nin0
        have f_315 : Fld Z T83.heap sr_75 "java/lang/String" "coder" "B" (.int (0 : Int32)) := Fld.keep f_314 Kq83 (ninS ne_sr_75_b55_313 nin0)
        have f_316 : Arv Z T79.heap ar_75 kk_75 .byte (own_sl (own_len2 p2 (2 : Int32))) (own_sv (own_len2 p2 (2 : Int32)) (own_chr2 p0 p1 p2 (2 : Int32))) (.int (0 : Int32)) := Arv.keep o75_3 Kq79 nin0
        have f_318 : Exa Z T64.heap b55 "com/example/orderd/orderd/order/GameOrder" := Exa.keep f_58 Kq64
        have f_319 : Exa Z T71.heap b55 "com/example/orderd/orderd/order/GameOrder" := Exa.keep f_318 Kq71
        have f_320 : Exa Z T75.heap b55 "com/example/orderd/orderd/order/GameOrder" := Exa.keep f_319 Kq75
        have ne_b55_ar_75_321 : b55 ≠ ar_75 := Exa.neArv f_320 o75_3 (hw _ (List.mem_of_getElem? (i := 25) rfl))
        have f_317 : Arv Z T83.heap ar_75 kk_75 .byte (own_sl (own_len2 p2 (2 : Int32))) (own_sv (own_len2 p2 (2 : Int32)) (own_chr2 p0 p1 p2 (2 : Int32))) (.int (0 : Int32)) := Arv.keep f_316 Kq83 (ninS (Ne.symm ne_b55_ar_75_321) nin0)
        have f_322 : Fld Z h55 b4 "com/example/orderd/orderd/order/GameOrder" "role" "Ljava/lang/String;" (.ref sr_23) := Fld.ext E55 o27_3
        have f_323 : Fld Z T64.heap b4 "com/example/orderd/orderd/order/GameOrder" "role" "Ljava/lang/String;" (.ref sr_23) := Fld.keep f_322 Kq64 nin0
        have f_324 : Fld Z T71.heap b4 "com/example/orderd/orderd/order/GameOrder" "role" "Ljava/lang/String;" (.ref sr_23) := Fld.keep f_323 Kq71 nin0
        have f_325 : Fld Z T75.heap b4 "com/example/orderd/orderd/order/GameOrder" "role" "Ljava/lang/String;" (.ref sr_23) := Fld.keep f_324 Kq75 nin0
        have f_326 : Fld Z T79.heap b4 "com/example/orderd/orderd/order/GameOrder" "role" "Ljava/lang/String;" (.ref sr_23) := Fld.keep f_325 Kq79 nin0
        have f_327 : Fld Z T83.heap b4 "com/example/orderd/orderd/order/GameOrder" "role" "Ljava/lang/String;" (.ref sr_23) := Fld.keep f_326 Kq83 (ninS ne_b4_b55_134 nin0)
        have f_328 : Exa Z T27.heap sr_23 "java/lang/String" := Exa.keep o23_0 Kq27
        have f_329 : Exa Z h55 sr_23 "java/lang/String" := Exa.ext E55 f_328
        have f_330 : Exa Z T64.heap sr_23 "java/lang/String" := Exa.keep f_329 Kq64
        have f_331 : Exa Z T71.heap sr_23 "java/lang/String" := Exa.keep f_330 Kq71
        have f_332 : Exa Z T75.heap sr_23 "java/lang/String" := Exa.keep f_331 Kq75
        have f_333 : Exa Z T79.heap sr_23 "java/lang/String" := Exa.keep f_332 Kq79
        have f_334 : Exa Z T83.heap sr_23 "java/lang/String" := Exa.keep f_333 Kq83
        have ne_sr_23_b4_336 : sr_23 ≠ b4 := Exa.ne f_334 f_126 (by decide)
        have f_335 : Fld Z T27.heap sr_23 "java/lang/String" "value" "[B" (.ref ar_23) := Fld.keep o23_1 Kq27 (ninS ne_sr_23_b4_336 nin0)
        have f_337 : Fld Z h55 sr_23 "java/lang/String" "value" "[B" (.ref ar_23) := Fld.ext E55 f_335
        have f_338 : Fld Z T64.heap sr_23 "java/lang/String" "value" "[B" (.ref ar_23) := Fld.keep f_337 Kq64 nin0
        have f_339 : Fld Z T71.heap sr_23 "java/lang/String" "value" "[B" (.ref ar_23) := Fld.keep f_338 Kq71 nin0
        have f_340 : Fld Z T75.heap sr_23 "java/lang/String" "value" "[B" (.ref ar_23) := Fld.keep f_339 Kq75 nin0
        have f_341 : Fld Z T79.heap sr_23 "java/lang/String" "value" "[B" (.ref ar_23) := Fld.keep f_340 Kq79 nin0
        have f_343 : Fld Z T27.heap sr_23 "java/lang/String" "coder" "B" (.int (0 : Int32)) := Fld.keep o23_2 Kq27 (ninS ne_sr_23_b4_336 nin0)
        have ne_sr_23_b55_344 : sr_23 ≠ b55 := Nat.ne_of_lt (Nat.lt_of_lt_of_le f_343.lt (Nat.le_of_eq g55.symm))
        have f_342 : Fld Z T83.heap sr_23 "java/lang/String" "value" "[B" (.ref ar_23) := Fld.keep f_341 Kq83 (ninS ne_sr_23_b55_344 nin0)
        have f_345 : Fld Z T27.heap sr_23 "java/lang/String" "coder" "B" (.int (0 : Int32)) := Fld.keep o23_2 Kq27 (ninS ne_sr_23_b4_336 nin0)
        have f_346 : Fld Z h55 sr_23 "java/lang/String" "coder" "B" (.int (0 : Int32)) := Fld.ext E55 f_345
        have f_347 : Fld Z T64.heap sr_23 "java/lang/String" "coder" "B" (.int (0 : Int32)) := Fld.keep f_346 Kq64 nin0
        have f_348 : Fld Z T71.heap sr_23 "java/lang/String" "coder" "B" (.int (0 : Int32)) := Fld.keep f_347 Kq71 nin0
        have f_349 : Fld Z T75.heap sr_23 "java/lang/String" "coder" "B" (.int (0 : Int32)) := Fld.keep f_348 Kq75 nin0
        have f_350 : Fld Z T79.heap sr_23 "java/lang/String" "coder" "B" (.int (0 : Int32)) := Fld.keep f_349 Kq79 nin0
        have f_351 : Fld Z T83.heap sr_23 "java/lang/String" "coder" "B" (.int (0 : Int32)) := Fld.keep f_350 Kq83 (ninS ne_sr_23_b55_344 nin0)
        have ne_b4_ar_23_353 : b4 ≠ ar_23 := Exa.neArv f_30 o23_3 (hw _ (List.mem_of_getElem? (i := 25) rfl))
        have f_352 : Arv Z T27.heap ar_23 kk_23 .byte (own_sl (own_len1 p2 (3 : Int32))) (own_sv (own_len1 p2 (3 : Int32)) (own_ch p0 (3 : Int32))) (.int (0 : Int32)) := Arv.keep o23_3 Kq27 (ninS (Ne.symm ne_b4_ar_23_353) nin0)
        have f_354 : Arv Z h55 ar_23 kk_23 .byte (own_sl (own_len1 p2 (3 : Int32))) (own_sv (own_len1 p2 (3 : Int32)) (own_ch p0 (3 : Int32))) (.int (0 : Int32)) := Arv.ext f_352 E55
        have f_355 : Arv Z T64.heap ar_23 kk_23 .byte (own_sl (own_len1 p2 (3 : Int32))) (own_sv (own_len1 p2 (3 : Int32)) (own_ch p0 (3 : Int32))) (.int (0 : Int32)) := Arv.keep f_354 Kq64 nin0
        have f_356 : Arv Z T71.heap ar_23 kk_23 .byte (own_sl (own_len1 p2 (3 : Int32))) (own_sv (own_len1 p2 (3 : Int32)) (own_ch p0 (3 : Int32))) (.int (0 : Int32)) := Arv.keep f_355 Kq71 nin0
        have f_357 : Arv Z T75.heap ar_23 kk_23 .byte (own_sl (own_len1 p2 (3 : Int32))) (own_sv (own_len1 p2 (3 : Int32)) (own_ch p0 (3 : Int32))) (.int (0 : Int32)) := Arv.keep f_356 Kq75 nin0
        have f_358 : Arv Z T79.heap ar_23 kk_23 .byte (own_sl (own_len1 p2 (3 : Int32))) (own_sv (own_len1 p2 (3 : Int32)) (own_ch p0 (3 : Int32))) (.int (0 : Int32)) := Arv.keep f_357 Kq79 nin0
        have f_360 : Arv Z T27.heap ar_23 kk_23 .byte (own_sl (own_len1 p2 (3 : Int32))) (own_sv (own_len1 p2 (3 : Int32)) (own_ch p0 (3 : Int32))) (.int (0 : Int32)) := Arv.keep o23_3 Kq27 (ninS (Ne.symm ne_b4_ar_23_353) nin0)
        have ne_ar_23_b55_361 : ar_23 ≠ b55 := Nat.ne_of_lt (Nat.lt_of_lt_of_le f_360.lt (Nat.le_of_eq g55.symm))
        have f_359 : Arv Z T83.heap ar_23 kk_23 .byte (own_sl (own_len1 p2 (3 : Int32))) (own_sv (own_len1 p2 (3 : Int32)) (own_ch p0 (3 : Int32))) (.int (0 : Int32)) := Arv.keep f_358 Kq83 (ninS ne_ar_23_b55_361 nin0)
        have f_362 : Exa Z T83.heap sr_79 "java/lang/String" := Exa.keep o79_0 Kq83
        have ne_sr_79_b55_364 : sr_79 ≠ b55 := Exa.ne f_362 f_127 (by decide)
        have f_363 : Fld Z T83.heap sr_79 "java/lang/String" "value" "[B" (.ref ar_79) := Fld.keep o79_1 Kq83 (ninS ne_sr_79_b55_364 nin0)
        have f_365 : Fld Z T83.heap sr_79 "java/lang/String" "coder" "B" (.int (0 : Int32)) := Fld.keep o79_2 Kq83 (ninS ne_sr_79_b55_364 nin0)
        have ne_b55_ar_79_367 : b55 ≠ ar_79 := Exa.neArv f_87 o79_3 (hw _ (List.mem_of_getElem? (i := 25) rfl))
        have f_366 : Arv Z T83.heap ar_79 kk_79 .byte (own_sl (own_len2 p2 (3 : Int32))) (own_sv (own_len2 p2 (3 : Int32)) (own_chr2 p0 p1 p2 (3 : Int32))) (.int (0 : Int32)) := Arv.keep o79_3 Kq83 (ninS (Ne.symm ne_b55_ar_79_367) nin0)
        have f_368 : Fld Z h55 b4 "com/example/orderd/orderd/order/GameOrder" "amount" "J" (.long q3) := Fld.ext E55 o27_4
        have f_369 : Fld Z T64.heap b4 "com/example/orderd/orderd/order/GameOrder" "amount" "J" (.long q3) := Fld.keep f_368 Kq64 nin0
        have f_370 : Fld Z T71.heap b4 "com/example/orderd/orderd/order/GameOrder" "amount" "J" (.long q3) := Fld.keep f_369 Kq71 nin0
        have f_371 : Fld Z T75.heap b4 "com/example/orderd/orderd/order/GameOrder" "amount" "J" (.long q3) := Fld.keep f_370 Kq75 nin0
        have f_372 : Fld Z T79.heap b4 "com/example/orderd/orderd/order/GameOrder" "amount" "J" (.long q3) := Fld.keep f_371 Kq79 nin0
        have f_373 : Fld Z T83.heap b4 "com/example/orderd/orderd/order/GameOrder" "amount" "J" (.long q3) := Fld.keep f_372 Kq83 (ninS ne_b4_b55_134 nin0)
        obtain ⟨cq117, kq117, q117a, q117b, q117c⟩ := isOf hZ83 ek145 f_126
        obtain ⟨_, _, ⟨T117, L117, k117, n117⟩, -, X117, ⟨Lc117, hQ117, l117, y117, z117⟩, st117⟩ := Xk145.virtualBack hx (y := (⟨"com/example/orderd/orderd/order/GameOrder", "equals", "(Ljava/lang/Object;)Z"⟩ : MethodName)) (z := (⟨"com/example/orderd/orderd/order/GameOrder", "equals", "(Ljava/lang/Object;)Z"⟩ : MethodName)) hown83 (mvT hZ83 (hw _ (List.mem_of_getElem? (i := 65) rfl))) (mvT hZ83 (hw _ (List.mem_of_getElem? (i := 66) rfl))) (notFace_of_selects (args := #[]) (mvT hZ83 (hw _ (List.mem_of_getElem? (i := 68) rfl)))) (mvT hZ83 (hw _ (List.mem_of_getElem? (i := 68) rfl))) (mvT hZ83 (hw _ (List.mem_of_getElem? (i := 67) rfl))) (by decide) (backOf (W := 0) (rm13 l Z a0 hw [] b4 b55 cs q3 am sr_1 ar_1 kk_1 (own_len1 p2 (0 : Int32)) (own_ch p0 (0 : Int32)) sr_64 ar_64 kk_64 (own_len2 p2 (0 : Int32)) (own_chr2 p0 p1 p2 (0 : Int32)) sr_13 ar_13 kk_13 (own_len1 p2 (1 : Int32)) (own_ch p0 (1 : Int32)) sr_71 ar_71 kk_71 (own_len2 p2 (1 : Int32)) (own_chr2 p0 p1 p2 (1 : Int32)) sr_19 ar_19 kk_19 (own_len1 p2 (2 : Int32)) (own_ch p0 (2 : Int32)) sr_75 ar_75 kk_75 (own_len2 p2 (2 : Int32)) (own_chr2 p0 p1 p2 (2 : Int32)) sr_23 ar_23 kk_23 (own_len1 p2 (3 : Int32)) (own_ch p0 (3 : Int32)) sr_79 ar_79 kk_79 (own_len2 p2 (3 : Int32)) (own_chr2 p0 p1 p2 (3 : Int32)) T83.heap n0 Z114 f_119 (hcs) f_126 f_127 f_133 f_141 f_153 f_166 f_178 o83_0 f_185 f_189 f_194 f_198 f_206 f_213 f_223 f_234 f_245 o83_1 f_250 f_253 f_257 f_260 f_269 f_276 f_285 f_295 f_306 o83_2 f_310 f_312 f_315 f_317 f_327 f_334 f_342 f_351 f_359 o83_3 f_362 f_363 f_365 f_366 f_373 o83_4) hZ83 (hw _ (List.mem_of_getElem? (i := 69) rfl)) (hw _ (List.mem_of_getElem? (i := 26) rfl)) (by decide) (by decide)) q117a q117c (g := (mkF m 164 #[.val (.int p0), .val (.int p1), .val (.int p2), .val (.long q3), .second, .val (.long q4), .second, .val (.long am), .second, .val (.ref sr_1), .val (.ref b4), .val (.ref b55), .val (.int rf), .val (.int (((p2.toUInt32 >>> ((16 : Int32) &&& 31).toUInt32).toInt32) &&& (3 : Int32)))] [(.ref b55), (.ref b4)])) rfl (by rw [hml]; rfl) (Steps.refl _) (argsL := [(.ref b55)]) (rest := []) (lenOf own_pd256 rfl) rfl (by show 2 * 0 + _ ≤ _; exact Nat.le_of_eq rfl) (hb hby at_164) (fun _ _ => ⟨rfl, ek145, (by decide : 34 + 0 ≤ _), (by decide : 282 + 0 ≤ _)⟩)
        dsimp only [Pt.U, Pt.locs, Pt.cells, Pt.slots] at X117 l117 y117 z117 st117 hQ117
        subst l117 y117 z117
        obtain ⟨rfl, N117q, eh117⟩ := hQ117
        have N117 := Fr.app Nk145 N117q
        refine Good.back (fun _ k => st117.trans k) ?_
        show Good p e below _ (T117.setTop (mkF m 167 #[.val (.int p0), .val (.int p1), .val (.int p2), .val (.long q3), .second, .val (.long q4), .second, .val (.long am), .second, .val (.ref sr_1), .val (.ref b4), .val (.ref b55), .val (.int rf), .val (.int (((p2.toUInt32 >>> ((16 : Int32) &&& 31).toUInt32).toInt32) &&& (3 : Int32)))] [(.int (own_geq (own_seq (own_len1 p2 (0 : Int32)) (own_ch p0 (0 : Int32)) (own_len2 p2 (0 : Int32)) (own_chr2 p0 p1 p2 (0 : Int32))) (own_seq (own_len1 p2 (1 : Int32)) (own_ch p0 (1 : Int32)) (own_len2 p2 (1 : Int32)) (own_chr2 p0 p1 p2 (1 : Int32))) (lcmpW q3 am) (own_seq (own_len1 p2 (2 : Int32)) (own_ch p0 (2 : Int32)) (own_len2 p2 (2 : Int32)) (own_chr2 p0 p1 p2 (2 : Int32))) (own_seq (own_len1 p2 (3 : Int32)) (own_ch p0 (3 : Int32)) (own_len2 p2 (3 : Int32)) (own_chr2 p0 p1 p2 (3 : Int32)))))]))
        refine Good.back (fun _ k => XS.iload X117.here hx rfl (hb hby at_167) rfl k) ?_
        show Good p e below _ (T117.setTop (mkF m 169 #[.val (.int p0), .val (.int p1), .val (.int p2), .val (.long q3), .second, .val (.long q4), .second, .val (.long am), .second, .val (.ref sr_1), .val (.ref b4), .val (.ref b55), .val (.int rf), .val (.int (((p2.toUInt32 >>> ((16 : Int32) &&& 31).toUInt32).toInt32) &&& (3 : Int32)))] [(.int rf), (.int (own_geq (own_seq (own_len1 p2 (0 : Int32)) (own_ch p0 (0 : Int32)) (own_len2 p2 (0 : Int32)) (own_chr2 p0 p1 p2 (0 : Int32))) (own_seq (own_len1 p2 (1 : Int32)) (own_ch p0 (1 : Int32)) (own_len2 p2 (1 : Int32)) (own_chr2 p0 p1 p2 (1 : Int32))) (lcmpW q3 am) (own_seq (own_len1 p2 (2 : Int32)) (own_ch p0 (2 : Int32)) (own_len2 p2 (2 : Int32)) (own_chr2 p0 p1 p2 (2 : Int32))) (own_seq (own_len1 p2 (3 : Int32)) (own_ch p0 (3 : Int32)) (own_len2 p2 (3 : Int32)) (own_chr2 p0 p1 p2 (3 : Int32)))))]))
        refine Good.back (fun _ k => XS.icmpNo X117.here hx rfl (hb hby at_169) rfl (teq hr1).2 k) ?_
        show Good p e below _ (T117.setTop (mkF m 172 #[.val (.int p0), .val (.int p1), .val (.int p2), .val (.long q3), .second, .val (.long q4), .second, .val (.long am), .second, .val (.ref sr_1), .val (.ref b4), .val (.ref b55), .val (.int rf), .val (.int (((p2.toUInt32 >>> ((16 : Int32) &&& 31).toUInt32).toInt32) &&& (3 : Int32)))] []))
        refine Good.back (fun _ k => XS.aload X117.here hx rfl (hb hby at_172) rfl rfl k) ?_
        show Good p e below _ (T117.setTop (mkF m 174 #[.val (.int p0), .val (.int p1), .val (.int p2), .val (.long q3), .second, .val (.long q4), .second, .val (.long am), .second, .val (.ref sr_1), .val (.ref b4), .val (.ref b55), .val (.int rf), .val (.int (((p2.toUInt32 >>> ((16 : Int32) &&& 31).toUInt32).toInt32) &&& (3 : Int32)))] [(.ref b55)]))
        refine Good.back (fun _ k => XS.aload X117.here hx rfl (hb hby at_174) rfl rfl k) ?_
        show Good p e below _ (T117.setTop (mkF m 176 #[.val (.int p0), .val (.int p1), .val (.int p2), .val (.long q3), .second, .val (.long q4), .second, .val (.long am), .second, .val (.ref sr_1), .val (.ref b4), .val (.ref b55), .val (.int rf), .val (.int (((p2.toUInt32 >>> ((16 : Int32) &&& 31).toUInt32).toInt32) &&& (3 : Int32)))] [(.ref b4), (.ref b55)]))
        obtain ⟨cq374, kq374, q374a, q374b, q374c⟩ := isOf hZ83 eh117 f_127
        obtain ⟨_, _, ⟨T374, L374, k374, n374⟩, -, X374, ⟨Lc374, hQ374, l374, y374, z374⟩, st374⟩ := X117.virtualBack hx (y := (⟨"com/example/orderd/orderd/order/GameOrder", "equals", "(Ljava/lang/Object;)Z"⟩ : MethodName)) (z := (⟨"com/example/orderd/orderd/order/GameOrder", "equals", "(Ljava/lang/Object;)Z"⟩ : MethodName)) hown83 (mvT hZ83 (hw _ (List.mem_of_getElem? (i := 65) rfl))) (mvT hZ83 (hw _ (List.mem_of_getElem? (i := 66) rfl))) (notFace_of_selects (args := #[]) (mvT hZ83 (hw _ (List.mem_of_getElem? (i := 68) rfl)))) (mvT hZ83 (hw _ (List.mem_of_getElem? (i := 68) rfl))) (mvT hZ83 (hw _ (List.mem_of_getElem? (i := 67) rfl))) (by decide) (backOf (W := 0) (rm13 l Z a0 hw [] b55 b4 cs am q3 sr_64 ar_64 kk_64 (own_len2 p2 (0 : Int32)) (own_chr2 p0 p1 p2 (0 : Int32)) sr_1 ar_1 kk_1 (own_len1 p2 (0 : Int32)) (own_ch p0 (0 : Int32)) sr_71 ar_71 kk_71 (own_len2 p2 (1 : Int32)) (own_chr2 p0 p1 p2 (1 : Int32)) sr_13 ar_13 kk_13 (own_len1 p2 (1 : Int32)) (own_ch p0 (1 : Int32)) sr_75 ar_75 kk_75 (own_len2 p2 (2 : Int32)) (own_chr2 p0 p1 p2 (2 : Int32)) sr_19 ar_19 kk_19 (own_len1 p2 (2 : Int32)) (own_ch p0 (2 : Int32)) sr_79 ar_79 kk_79 (own_len2 p2 (3 : Int32)) (own_chr2 p0 p1 p2 (3 : Int32)) sr_23 ar_23 kk_23 (own_len1 p2 (3 : Int32)) (own_ch p0 (3 : Int32)) T83.heap n0 Z114 f_119 (hcs) f_127 f_126 o83_0 f_185 f_189 f_194 f_198 f_133 f_141 f_153 f_166 f_178 o83_1 f_250 f_253 f_257 f_260 f_206 f_213 f_223 f_234 f_245 o83_2 f_310 f_312 f_315 f_317 f_269 f_276 f_285 f_295 f_306 o83_3 f_362 f_363 f_365 f_366 f_327 f_334 f_342 f_351 f_359 o83_4 f_373) hZ83 (hw _ (List.mem_of_getElem? (i := 69) rfl)) (hw _ (List.mem_of_getElem? (i := 26) rfl)) (by decide) (by decide)) q374a q374c (g := (mkF m 176 #[.val (.int p0), .val (.int p1), .val (.int p2), .val (.long q3), .second, .val (.long q4), .second, .val (.long am), .second, .val (.ref sr_1), .val (.ref b4), .val (.ref b55), .val (.int rf), .val (.int (((p2.toUInt32 >>> ((16 : Int32) &&& 31).toUInt32).toInt32) &&& (3 : Int32)))] [(.ref b4), (.ref b55)])) rfl (by rw [hml]; rfl) (Steps.refl _) (argsL := [(.ref b4)]) (rest := []) (lenOf own_pd256 rfl) rfl (by show 2 * 0 + _ ≤ _; exact Nat.le_of_eq rfl) (hb hby at_176) (fun _ _ => ⟨rfl, eh117, (by decide : 34 + 0 ≤ _), (by decide : 282 + 0 ≤ _)⟩)
        dsimp only [Pt.U, Pt.locs, Pt.cells, Pt.slots] at X374 l374 y374 z374 st374 hQ374
        subst l374 y374 z374
        obtain ⟨rfl, N374q, eh374⟩ := hQ374
        have N374 := Fr.app N117 N374q
        refine Good.back (fun _ k => st374.trans k) ?_
        show Good p e below _ (T374.setTop (mkF m 179 #[.val (.int p0), .val (.int p1), .val (.int p2), .val (.long q3), .second, .val (.long q4), .second, .val (.long am), .second, .val (.ref sr_1), .val (.ref b4), .val (.ref b55), .val (.int rf), .val (.int (((p2.toUInt32 >>> ((16 : Int32) &&& 31).toUInt32).toInt32) &&& (3 : Int32)))] [(.int (own_geq (own_seq (own_len2 p2 (0 : Int32)) (own_chr2 p0 p1 p2 (0 : Int32)) (own_len1 p2 (0 : Int32)) (own_ch p0 (0 : Int32))) (own_seq (own_len2 p2 (1 : Int32)) (own_chr2 p0 p1 p2 (1 : Int32)) (own_len1 p2 (1 : Int32)) (own_ch p0 (1 : Int32))) (lcmpW am q3) (own_seq (own_len2 p2 (2 : Int32)) (own_chr2 p0 p1 p2 (2 : Int32)) (own_len1 p2 (2 : Int32)) (own_ch p0 (2 : Int32))) (own_seq (own_len2 p2 (3 : Int32)) (own_chr2 p0 p1 p2 (3 : Int32)) (own_len1 p2 (3 : Int32)) (own_ch p0 (3 : Int32)))))]))
        refine Good.back (fun _ k => XS.iload X374.here hx rfl (hb hby at_179) rfl k) ?_
        show Good p e below _ (T374.setTop (mkF m 181 #[.val (.int p0), .val (.int p1), .val (.int p2), .val (.long q3), .second, .val (.long q4), .second, .val (.long am), .second, .val (.ref sr_1), .val (.ref b4), .val (.ref b55), .val (.int rf), .val (.int (((p2.toUInt32 >>> ((16 : Int32) &&& 31).toUInt32).toInt32) &&& (3 : Int32)))] [(.int rf), (.int (own_geq (own_seq (own_len2 p2 (0 : Int32)) (own_chr2 p0 p1 p2 (0 : Int32)) (own_len1 p2 (0 : Int32)) (own_ch p0 (0 : Int32))) (own_seq (own_len2 p2 (1 : Int32)) (own_chr2 p0 p1 p2 (1 : Int32)) (own_len1 p2 (1 : Int32)) (own_ch p0 (1 : Int32))) (lcmpW am q3) (own_seq (own_len2 p2 (2 : Int32)) (own_chr2 p0 p1 p2 (2 : Int32)) (own_len1 p2 (2 : Int32)) (own_ch p0 (2 : Int32))) (own_seq (own_len2 p2 (3 : Int32)) (own_chr2 p0 p1 p2 (3 : Int32)) (own_len1 p2 (3 : Int32)) (own_ch p0 (3 : Int32)))))]))
        refine Good.back (fun _ k => XS.icmpNo X374.here hx rfl (hb hby at_181) rfl (teq hr2).2 k) ?_
        show Good p e below _ (T374.setTop (mkF m 184 #[.val (.int p0), .val (.int p1), .val (.int p2), .val (.long q3), .second, .val (.long q4), .second, .val (.long am), .second, .val (.ref sr_1), .val (.ref b4), .val (.ref b55), .val (.int rf), .val (.int (((p2.toUInt32 >>> ((16 : Int32) &&& 31).toUInt32).toInt32) &&& (3 : Int32)))] []))
        refine Good.back (fun _ k => XS.iconst X374.here hx rfl (hb hby at_184) k) ?_
        show Good p e below _ (T374.setTop (mkF m 185 #[.val (.int p0), .val (.int p1), .val (.int p2), .val (.long q3), .second, .val (.long q4), .second, .val (.long am), .second, .val (.ref sr_1), .val (.ref b4), .val (.ref b55), .val (.int rf), .val (.int (((p2.toUInt32 >>> ((16 : Int32) &&& 31).toUInt32).toInt32) &&& (3 : Int32)))] [(.int (1 : Int32))]))
        refine Good.back (fun _ k => XS.goto X374.here hx rfl (pc0 := 185) (pc' := 189) rfl (hb hby at_185) (by decide) (by decide) k) ?_
        show Good p e below _ (T374.setTop (mkF m 189 #[.val (.int p0), .val (.int p1), .val (.int p2), .val (.long q3), .second, .val (.long q4), .second, .val (.long am), .second, .val (.ref sr_1), .val (.ref b4), .val (.ref b55), .val (.int rf), .val (.int (((p2.toUInt32 >>> ((16 : Int32) &&& 31).toUInt32).toInt32) &&& (3 : Int32)))] [(.int (1 : Int32))]))
        obtain ⟨fs375, hr375, hrun375, hended375, hRE375⟩ := leaveW X374 hS83 (by rw [eh374]; exact (Nat.le_refl _)) (v := some (.int (1 : Int32))) (fun h => by rw [Bd.returns] at h; cases h)
        have hCH375 : CHr Z own_EL s.vm s.heap T374.vm T374.heap := by rw [hh, eh374]; exact C83.trans (CHv.at X374 hZ83 (own_EW hw) C83.1)
        refine Good.done (retN X374 hx (t := .boolean) Bd.returns (by simp) (hb hby at_189) hr375) hrun375 hended375 ⟨_, _, rfl, ?_, hCH375, hRE375.1, hRE375.2.1, hRE375.2.2.1, hRE375.2.2.2.mono (by decide) (by decide)⟩
        show Q0 Z p0 p1 p2 q3 q4 cs h0 n0 _ T374.heap _
        rw [eh374]
        exact ⟨rfl, N374⟩
      · refine Good.back (fun _ k => XS.ifYes Xk145.here hx rfl (pc0 := 157) (pc' := 190) rfl (hb hby at_157) rfl ((if0 _ _).trans (feq hc157_116).2) (by decide) (by decide) k) ?_
        show Good p e below _ (Tk145.setTop (mkF m 190 #[.val (.int p0), .val (.int p1), .val (.int p2), .val (.long q3), .second, .val (.long q4), .second, .val (.long am), .second, .val (.ref sr_1), .val (.ref b4), .val (.ref b55), .val (.int rf), .val (.int (((p2.toUInt32 >>> ((16 : Int32) &&& 31).toUInt32).toInt32) &&& (3 : Int32)))] []))
        refine Good.back (fun _ k => XS.iload Xk145.here hx rfl (hb hby at_190) rfl k) ?_
        show Good p e below _ (Tk145.setTop (mkF m 192 #[.val (.int p0), .val (.int p1), .val (.int p2), .val (.long q3), .second, .val (.long q4), .second, .val (.long am), .second, .val (.ref sr_1), .val (.ref b4), .val (.ref b55), .val (.int rf), .val (.int (((p2.toUInt32 >>> ((16 : Int32) &&& 31).toUInt32).toInt32) &&& (3 : Int32)))] [(.int (((p2.toUInt32 >>> ((16 : Int32) &&& 31).toUInt32).toInt32) &&& (3 : Int32)))]))
        refine Good.back (fun _ k => XS.iconst Xk145.here hx rfl (hb hby at_192) k) ?_
        show Good p e below _ (Tk145.setTop (mkF m 193 #[.val (.int p0), .val (.int p1), .val (.int p2), .val (.long q3), .second, .val (.long q4), .second, .val (.long am), .second, .val (.ref sr_1), .val (.ref b4), .val (.ref b55), .val (.int rf), .val (.int (((p2.toUInt32 >>> ((16 : Int32) &&& 31).toUInt32).toInt32) &&& (3 : Int32)))] [(.int (1 : Int32)), (.int (((p2.toUInt32 >>> ((16 : Int32) &&& 31).toUInt32).toInt32) &&& (3 : Int32)))]))
        by_cases hc193_376 : (((p2.toUInt32 >>> ((16 : Int32) &&& 31).toUInt32).toInt32) &&& (3 : Int32)) = (1 : Int32)
        · refine Good.back (fun _ k => XS.icmpNo Xk145.here hx rfl (hb hby at_193) rfl (teq hc193_376).2 k) ?_
          show Good p e below _ (Tk145.setTop (mkF m 196 #[.val (.int p0), .val (.int p1), .val (.int p2), .val (.long q3), .second, .val (.long q4), .second, .val (.long am), .second, .val (.ref sr_1), .val (.ref b4), .val (.ref b55), .val (.int rf), .val (.int (((p2.toUInt32 >>> ((16 : Int32) &&& 31).toUInt32).toInt32) &&& (3 : Int32)))] []))
          refine Good.back (fun _ k => XS.aload Xk145.here hx rfl (hb hby at_196) rfl rfl k) ?_
          show Good p e below _ (Tk145.setTop (mkF m 198 #[.val (.int p0), .val (.int p1), .val (.int p2), .val (.long q3), .second, .val (.long q4), .second, .val (.long am), .second, .val (.ref sr_1), .val (.ref b4), .val (.ref b55), .val (.int rf), .val (.int (((p2.toUInt32 >>> ((16 : Int32) &&& 31).toUInt32).toInt32) &&& (3 : Int32)))] [(.ref b4)]))
          refine Good.back (fun _ k => XS.aload Xk145.here hx rfl (hb hby at_198) rfl rfl k) ?_
          show Good p e below _ (Tk145.setTop (mkF m 200 #[.val (.int p0), .val (.int p1), .val (.int p2), .val (.long q3), .second, .val (.long q4), .second, .val (.long am), .second, .val (.ref sr_1), .val (.ref b4), .val (.ref b55), .val (.int rf), .val (.int (((p2.toUInt32 >>> ((16 : Int32) &&& 31).toUInt32).toInt32) &&& (3 : Int32)))] [(.ref b4), (.ref b4)]))
          have f_378 : Sta Z T79.heap "java/lang/String" "COMPACT_STRINGS" "Z" (.int cs) := own_staKeep f_80 Kq79 all0
          have f_379 : Sta Z T83.heap "java/lang/String" "COMPACT_STRINGS" "Z" (.int cs) := own_staKeep f_378 Kq83 (allS (own_plainE f_87) all0)
          have f_380 : Exa Z T27.heap b4 "com/example/orderd/orderd/order/GameOrder" := Exa.keep f_30 Kq27
          have f_381 : Exa Z h55 b4 "com/example/orderd/orderd/order/GameOrder" := Exa.ext E55 f_380
          have f_382 : Exa Z T64.heap b4 "com/example/orderd/orderd/order/GameOrder" := Exa.keep f_381 Kq64
          have f_383 : Exa Z T71.heap b4 "com/example/orderd/orderd/order/GameOrder" := Exa.keep f_382 Kq71
          have f_384 : Exa Z T75.heap b4 "com/example/orderd/orderd/order/GameOrder" := Exa.keep f_383 Kq75
          have f_385 : Exa Z T79.heap b4 "com/example/orderd/orderd/order/GameOrder" := Exa.keep f_384 Kq79
          have f_386 : Exa Z T83.heap b4 "com/example/orderd/orderd/order/GameOrder" := Exa.keep f_385 Kq83
          have f_387 : Fld Z h55 b4 "com/example/orderd/orderd/order/GameOrder" "number" "Ljava/lang/String;" (.ref sr_1) := Fld.ext E55 o27_0
          have f_388 : Fld Z T64.heap b4 "com/example/orderd/orderd/order/GameOrder" "number" "Ljava/lang/String;" (.ref sr_1) := Fld.keep f_387 Kq64 nin0
          have f_389 : Fld Z T71.heap b4 "com/example/orderd/orderd/order/GameOrder" "number" "Ljava/lang/String;" (.ref sr_1) := Fld.keep f_388 Kq71 nin0
          have f_390 : Fld Z T75.heap b4 "com/example/orderd/orderd/order/GameOrder" "number" "Ljava/lang/String;" (.ref sr_1) := Fld.keep f_389 Kq75 nin0
          have f_391 : Fld Z T79.heap b4 "com/example/orderd/orderd/order/GameOrder" "number" "Ljava/lang/String;" (.ref sr_1) := Fld.keep f_390 Kq79 nin0
          have ne_b4_b55_393 : b4 ≠ b55 := Nat.ne_of_lt (Nat.lt_of_lt_of_le o27_4.lt (Nat.le_of_eq g55.symm))
          have f_392 : Fld Z T83.heap b4 "com/example/orderd/orderd/order/GameOrder" "number" "Ljava/lang/String;" (.ref sr_1) := Fld.keep f_391 Kq83 (ninS ne_b4_b55_393 nin0)
          have f_394 : Exa Z T27.heap sr_1 "java/lang/String" := Exa.keep f_34 Kq27
          have f_395 : Exa Z h55 sr_1 "java/lang/String" := Exa.ext E55 f_394
          have f_396 : Exa Z T64.heap sr_1 "java/lang/String" := Exa.keep f_395 Kq64
          have f_397 : Exa Z T71.heap sr_1 "java/lang/String" := Exa.keep f_396 Kq71
          have f_398 : Exa Z T75.heap sr_1 "java/lang/String" := Exa.keep f_397 Kq75
          have f_399 : Exa Z T79.heap sr_1 "java/lang/String" := Exa.keep f_398 Kq79
          have f_400 : Exa Z T83.heap sr_1 "java/lang/String" := Exa.keep f_399 Kq83
          have f_401 : Fld Z h4 sr_1 "java/lang/String" "value" "[B" (.ref ar_1) := Fld.ext E4 o1_1
          have f_402 : Fld Z T13.heap sr_1 "java/lang/String" "value" "[B" (.ref ar_1) := Fld.keep f_401 Kq13 nin0
          have f_403 : Fld Z T19.heap sr_1 "java/lang/String" "value" "[B" (.ref ar_1) := Fld.keep f_402 Kq19 nin0
          have f_404 : Fld Z T23.heap sr_1 "java/lang/String" "value" "[B" (.ref ar_1) := Fld.keep f_403 Kq23 nin0
          have ne_sr_1_b4_406 : sr_1 ≠ b4 := Nat.ne_of_lt (Nat.lt_of_lt_of_le o1_2.lt (Nat.le_of_eq g4.symm))
          have f_405 : Fld Z T27.heap sr_1 "java/lang/String" "value" "[B" (.ref ar_1) := Fld.keep f_404 Kq27 (ninS ne_sr_1_b4_406 nin0)
          have f_407 : Fld Z h55 sr_1 "java/lang/String" "value" "[B" (.ref ar_1) := Fld.ext E55 f_405
          have f_408 : Fld Z T64.heap sr_1 "java/lang/String" "value" "[B" (.ref ar_1) := Fld.keep f_407 Kq64 nin0
          have f_409 : Fld Z T71.heap sr_1 "java/lang/String" "value" "[B" (.ref ar_1) := Fld.keep f_408 Kq71 nin0
          have f_410 : Fld Z T75.heap sr_1 "java/lang/String" "value" "[B" (.ref ar_1) := Fld.keep f_409 Kq75 nin0
          have f_411 : Fld Z T79.heap sr_1 "java/lang/String" "value" "[B" (.ref ar_1) := Fld.keep f_410 Kq79 nin0
          have f_413 : Exa Z T27.heap sr_1 "java/lang/String" := Exa.keep f_34 Kq27
          have ne_sr_1_b55_414 : sr_1 ≠ b55 := Nat.ne_of_lt (Nat.lt_of_lt_of_le f_413.lt (Nat.le_of_eq g55.symm))
          have f_412 : Fld Z T83.heap sr_1 "java/lang/String" "value" "[B" (.ref ar_1) := Fld.keep f_411 Kq83 (ninS ne_sr_1_b55_414 nin0)
          have f_415 : Fld Z h4 sr_1 "java/lang/String" "coder" "B" (.int (0 : Int32)) := Fld.ext E4 o1_2
          have f_416 : Fld Z T13.heap sr_1 "java/lang/String" "coder" "B" (.int (0 : Int32)) := Fld.keep f_415 Kq13 nin0
          have f_417 : Fld Z T19.heap sr_1 "java/lang/String" "coder" "B" (.int (0 : Int32)) := Fld.keep f_416 Kq19 nin0
          have f_418 : Fld Z T23.heap sr_1 "java/lang/String" "coder" "B" (.int (0 : Int32)) := Fld.keep f_417 Kq23 nin0
          have f_419 : Fld Z T27.heap sr_1 "java/lang/String" "coder" "B" (.int (0 : Int32)) := Fld.keep f_418 Kq27 (ninS ne_sr_1_b4_406 nin0)
          have f_420 : Fld Z h55 sr_1 "java/lang/String" "coder" "B" (.int (0 : Int32)) := Fld.ext E55 f_419
          have f_421 : Fld Z T64.heap sr_1 "java/lang/String" "coder" "B" (.int (0 : Int32)) := Fld.keep f_420 Kq64 nin0
          have f_422 : Fld Z T71.heap sr_1 "java/lang/String" "coder" "B" (.int (0 : Int32)) := Fld.keep f_421 Kq71 nin0
          have f_423 : Fld Z T75.heap sr_1 "java/lang/String" "coder" "B" (.int (0 : Int32)) := Fld.keep f_422 Kq75 nin0
          have f_424 : Fld Z T79.heap sr_1 "java/lang/String" "coder" "B" (.int (0 : Int32)) := Fld.keep f_423 Kq79 nin0
          have f_425 : Fld Z T83.heap sr_1 "java/lang/String" "coder" "B" (.int (0 : Int32)) := Fld.keep f_424 Kq83 (ninS ne_sr_1_b55_414 nin0)
          have f_426 : Arv Z h4 ar_1 kk_1 .byte (own_sl (own_len1 p2 (0 : Int32))) (own_sv (own_len1 p2 (0 : Int32)) (own_ch p0 (0 : Int32))) (.int (0 : Int32)) := Arv.ext o1_3 E4
          have f_427 : Arv Z T13.heap ar_1 kk_1 .byte (own_sl (own_len1 p2 (0 : Int32))) (own_sv (own_len1 p2 (0 : Int32)) (own_ch p0 (0 : Int32))) (.int (0 : Int32)) := Arv.keep f_426 Kq13 nin0
          have f_428 : Arv Z T19.heap ar_1 kk_1 .byte (own_sl (own_len1 p2 (0 : Int32))) (own_sv (own_len1 p2 (0 : Int32)) (own_ch p0 (0 : Int32))) (.int (0 : Int32)) := Arv.keep f_427 Kq19 nin0
          have f_429 : Arv Z T23.heap ar_1 kk_1 .byte (own_sl (own_len1 p2 (0 : Int32))) (own_sv (own_len1 p2 (0 : Int32)) (own_ch p0 (0 : Int32))) (.int (0 : Int32)) := Arv.keep f_428 Kq23 nin0
          have ne_ar_1_b4_431 : ar_1 ≠ b4 := Nat.ne_of_lt (Nat.lt_of_lt_of_le o1_3.lt (Nat.le_of_eq g4.symm))
          have f_430 : Arv Z T27.heap ar_1 kk_1 .byte (own_sl (own_len1 p2 (0 : Int32))) (own_sv (own_len1 p2 (0 : Int32)) (own_ch p0 (0 : Int32))) (.int (0 : Int32)) := Arv.keep f_429 Kq27 (ninS ne_ar_1_b4_431 nin0)
          have f_432 : Arv Z h55 ar_1 kk_1 .byte (own_sl (own_len1 p2 (0 : Int32))) (own_sv (own_len1 p2 (0 : Int32)) (own_ch p0 (0 : Int32))) (.int (0 : Int32)) := Arv.ext f_430 E55
          have f_433 : Arv Z T64.heap ar_1 kk_1 .byte (own_sl (own_len1 p2 (0 : Int32))) (own_sv (own_len1 p2 (0 : Int32)) (own_ch p0 (0 : Int32))) (.int (0 : Int32)) := Arv.keep f_432 Kq64 nin0
          have f_434 : Arv Z T71.heap ar_1 kk_1 .byte (own_sl (own_len1 p2 (0 : Int32))) (own_sv (own_len1 p2 (0 : Int32)) (own_ch p0 (0 : Int32))) (.int (0 : Int32)) := Arv.keep f_433 Kq71 nin0
          have f_435 : Arv Z T75.heap ar_1 kk_1 .byte (own_sl (own_len1 p2 (0 : Int32))) (own_sv (own_len1 p2 (0 : Int32)) (own_ch p0 (0 : Int32))) (.int (0 : Int32)) := Arv.keep f_434 Kq75 nin0
          have f_436 : Arv Z T79.heap ar_1 kk_1 .byte (own_sl (own_len1 p2 (0 : Int32))) (own_sv (own_len1 p2 (0 : Int32)) (own_ch p0 (0 : Int32))) (.int (0 : Int32)) := Arv.keep f_435 Kq79 nin0
          have f_438 : Arv Z h4 ar_1 kk_1 .byte (own_sl (own_len1 p2 (0 : Int32))) (own_sv (own_len1 p2 (0 : Int32)) (own_ch p0 (0 : Int32))) (.int (0 : Int32)) := Arv.ext o1_3 E4
          have f_439 : Arv Z T13.heap ar_1 kk_1 .byte (own_sl (own_len1 p2 (0 : Int32))) (own_sv (own_len1 p2 (0 : Int32)) (own_ch p0 (0 : Int32))) (.int (0 : Int32)) := Arv.keep f_438 Kq13 nin0
          have f_440 : Arv Z T19.heap ar_1 kk_1 .byte (own_sl (own_len1 p2 (0 : Int32))) (own_sv (own_len1 p2 (0 : Int32)) (own_ch p0 (0 : Int32))) (.int (0 : Int32)) := Arv.keep f_439 Kq19 nin0
          have f_441 : Arv Z T23.heap ar_1 kk_1 .byte (own_sl (own_len1 p2 (0 : Int32))) (own_sv (own_len1 p2 (0 : Int32)) (own_ch p0 (0 : Int32))) (.int (0 : Int32)) := Arv.keep f_440 Kq23 nin0
          have f_442 : Arv Z T27.heap ar_1 kk_1 .byte (own_sl (own_len1 p2 (0 : Int32))) (own_sv (own_len1 p2 (0 : Int32)) (own_ch p0 (0 : Int32))) (.int (0 : Int32)) := Arv.keep f_441 Kq27 (ninS ne_ar_1_b4_431 nin0)
          have ne_ar_1_b55_443 : ar_1 ≠ b55 := Nat.ne_of_lt (Nat.lt_of_lt_of_le f_442.lt (Nat.le_of_eq g55.symm))
          have f_437 : Arv Z T83.heap ar_1 kk_1 .byte (own_sl (own_len1 p2 (0 : Int32))) (own_sv (own_len1 p2 (0 : Int32)) (own_ch p0 (0 : Int32))) (.int (0 : Int32)) := Arv.keep f_436 Kq83 (ninS ne_ar_1_b55_443 nin0)
          have f_444 : Fld Z h55 b4 "com/example/orderd/orderd/order/GameOrder" "product" "Ljava/lang/String;" (.ref sr_13) := Fld.ext E55 o27_1
          have f_445 : Fld Z T64.heap b4 "com/example/orderd/orderd/order/GameOrder" "product" "Ljava/lang/String;" (.ref sr_13) := Fld.keep f_444 Kq64 nin0
          have f_446 : Fld Z T71.heap b4 "com/example/orderd/orderd/order/GameOrder" "product" "Ljava/lang/String;" (.ref sr_13) := Fld.keep f_445 Kq71 nin0
          have f_447 : Fld Z T75.heap b4 "com/example/orderd/orderd/order/GameOrder" "product" "Ljava/lang/String;" (.ref sr_13) := Fld.keep f_446 Kq75 nin0
          have f_448 : Fld Z T79.heap b4 "com/example/orderd/orderd/order/GameOrder" "product" "Ljava/lang/String;" (.ref sr_13) := Fld.keep f_447 Kq79 nin0
          have f_449 : Fld Z T83.heap b4 "com/example/orderd/orderd/order/GameOrder" "product" "Ljava/lang/String;" (.ref sr_13) := Fld.keep f_448 Kq83 (ninS ne_b4_b55_393 nin0)
          have f_450 : Exa Z T27.heap sr_13 "java/lang/String" := Exa.keep f_36 Kq27
          have f_451 : Exa Z h55 sr_13 "java/lang/String" := Exa.ext E55 f_450
          have f_452 : Exa Z T64.heap sr_13 "java/lang/String" := Exa.keep f_451 Kq64
          have f_453 : Exa Z T71.heap sr_13 "java/lang/String" := Exa.keep f_452 Kq71
          have f_454 : Exa Z T75.heap sr_13 "java/lang/String" := Exa.keep f_453 Kq75
          have f_455 : Exa Z T79.heap sr_13 "java/lang/String" := Exa.keep f_454 Kq79
          have f_456 : Exa Z T83.heap sr_13 "java/lang/String" := Exa.keep f_455 Kq83
          have f_457 : Fld Z T19.heap sr_13 "java/lang/String" "value" "[B" (.ref ar_13) := Fld.keep o13_1 Kq19 nin0
          have f_458 : Fld Z T23.heap sr_13 "java/lang/String" "value" "[B" (.ref ar_13) := Fld.keep f_457 Kq23 nin0
          have ne_sr_13_b4_460 : sr_13 ≠ b4 := Exa.ne f_456 f_386 (by decide)
          have f_459 : Fld Z T27.heap sr_13 "java/lang/String" "value" "[B" (.ref ar_13) := Fld.keep f_458 Kq27 (ninS ne_sr_13_b4_460 nin0)
          have f_461 : Fld Z h55 sr_13 "java/lang/String" "value" "[B" (.ref ar_13) := Fld.ext E55 f_459
          have f_462 : Fld Z T64.heap sr_13 "java/lang/String" "value" "[B" (.ref ar_13) := Fld.keep f_461 Kq64 nin0
          have f_463 : Fld Z T71.heap sr_13 "java/lang/String" "value" "[B" (.ref ar_13) := Fld.keep f_462 Kq71 nin0
          have f_464 : Fld Z T75.heap sr_13 "java/lang/String" "value" "[B" (.ref ar_13) := Fld.keep f_463 Kq75 nin0
          have f_465 : Fld Z T79.heap sr_13 "java/lang/String" "value" "[B" (.ref ar_13) := Fld.keep f_464 Kq79 nin0
          have f_467 : Exa Z T27.heap sr_13 "java/lang/String" := Exa.keep f_36 Kq27
          have ne_sr_13_b55_468 : sr_13 ≠ b55 := Nat.ne_of_lt (Nat.lt_of_lt_of_le f_467.lt (Nat.le_of_eq g55.symm))
          have f_466 : Fld Z T83.heap sr_13 "java/lang/String" "value" "[B" (.ref ar_13) := Fld.keep f_465 Kq83 (ninS ne_sr_13_b55_468 nin0)
          have f_469 : Fld Z T19.heap sr_13 "java/lang/String" "coder" "B" (.int (0 : Int32)) := Fld.keep o13_2 Kq19 nin0
          have f_470 : Fld Z T23.heap sr_13 "java/lang/String" "coder" "B" (.int (0 : Int32)) := Fld.keep f_469 Kq23 nin0
          have f_471 : Fld Z T27.heap sr_13 "java/lang/String" "coder" "B" (.int (0 : Int32)) := Fld.keep f_470 Kq27 (ninS ne_sr_13_b4_460 nin0)
          have f_472 : Fld Z h55 sr_13 "java/lang/String" "coder" "B" (.int (0 : Int32)) := Fld.ext E55 f_471
          have f_473 : Fld Z T64.heap sr_13 "java/lang/String" "coder" "B" (.int (0 : Int32)) := Fld.keep f_472 Kq64 nin0
          have f_474 : Fld Z T71.heap sr_13 "java/lang/String" "coder" "B" (.int (0 : Int32)) := Fld.keep f_473 Kq71 nin0
          have f_475 : Fld Z T75.heap sr_13 "java/lang/String" "coder" "B" (.int (0 : Int32)) := Fld.keep f_474 Kq75 nin0
          have f_476 : Fld Z T79.heap sr_13 "java/lang/String" "coder" "B" (.int (0 : Int32)) := Fld.keep f_475 Kq79 nin0
          have f_477 : Fld Z T83.heap sr_13 "java/lang/String" "coder" "B" (.int (0 : Int32)) := Fld.keep f_476 Kq83 (ninS ne_sr_13_b55_468 nin0)
          have f_478 : Arv Z T19.heap ar_13 kk_13 .byte (own_sl (own_len1 p2 (1 : Int32))) (own_sv (own_len1 p2 (1 : Int32)) (own_ch p0 (1 : Int32))) (.int (0 : Int32)) := Arv.keep o13_3 Kq19 nin0
          have f_479 : Arv Z T23.heap ar_13 kk_13 .byte (own_sl (own_len1 p2 (1 : Int32))) (own_sv (own_len1 p2 (1 : Int32)) (own_ch p0 (1 : Int32))) (.int (0 : Int32)) := Arv.keep f_478 Kq23 nin0
          have f_481 : Exa Z T13.heap b4 "com/example/orderd/orderd/order/GameOrder" := Exa.keep f_7 Kq13
          have ne_b4_ar_13_482 : b4 ≠ ar_13 := Exa.neArv f_481 o13_3 (hw _ (List.mem_of_getElem? (i := 25) rfl))
          have f_480 : Arv Z T27.heap ar_13 kk_13 .byte (own_sl (own_len1 p2 (1 : Int32))) (own_sv (own_len1 p2 (1 : Int32)) (own_ch p0 (1 : Int32))) (.int (0 : Int32)) := Arv.keep f_479 Kq27 (ninS (Ne.symm ne_b4_ar_13_482) nin0)
          have f_483 : Arv Z h55 ar_13 kk_13 .byte (own_sl (own_len1 p2 (1 : Int32))) (own_sv (own_len1 p2 (1 : Int32)) (own_ch p0 (1 : Int32))) (.int (0 : Int32)) := Arv.ext f_480 E55
          have f_484 : Arv Z T64.heap ar_13 kk_13 .byte (own_sl (own_len1 p2 (1 : Int32))) (own_sv (own_len1 p2 (1 : Int32)) (own_ch p0 (1 : Int32))) (.int (0 : Int32)) := Arv.keep f_483 Kq64 nin0
          have f_485 : Arv Z T71.heap ar_13 kk_13 .byte (own_sl (own_len1 p2 (1 : Int32))) (own_sv (own_len1 p2 (1 : Int32)) (own_ch p0 (1 : Int32))) (.int (0 : Int32)) := Arv.keep f_484 Kq71 nin0
          have f_486 : Arv Z T75.heap ar_13 kk_13 .byte (own_sl (own_len1 p2 (1 : Int32))) (own_sv (own_len1 p2 (1 : Int32)) (own_ch p0 (1 : Int32))) (.int (0 : Int32)) := Arv.keep f_485 Kq75 nin0
          have f_487 : Arv Z T79.heap ar_13 kk_13 .byte (own_sl (own_len1 p2 (1 : Int32))) (own_sv (own_len1 p2 (1 : Int32)) (own_ch p0 (1 : Int32))) (.int (0 : Int32)) := Arv.keep f_486 Kq79 nin0
          have f_489 : Arv Z T19.heap ar_13 kk_13 .byte (own_sl (own_len1 p2 (1 : Int32))) (own_sv (own_len1 p2 (1 : Int32)) (own_ch p0 (1 : Int32))) (.int (0 : Int32)) := Arv.keep o13_3 Kq19 nin0
          have f_490 : Arv Z T23.heap ar_13 kk_13 .byte (own_sl (own_len1 p2 (1 : Int32))) (own_sv (own_len1 p2 (1 : Int32)) (own_ch p0 (1 : Int32))) (.int (0 : Int32)) := Arv.keep f_489 Kq23 nin0
          have f_491 : Arv Z T27.heap ar_13 kk_13 .byte (own_sl (own_len1 p2 (1 : Int32))) (own_sv (own_len1 p2 (1 : Int32)) (own_ch p0 (1 : Int32))) (.int (0 : Int32)) := Arv.keep f_490 Kq27 (ninS (Ne.symm ne_b4_ar_13_482) nin0)
          have ne_ar_13_b55_492 : ar_13 ≠ b55 := Nat.ne_of_lt (Nat.lt_of_lt_of_le f_491.lt (Nat.le_of_eq g55.symm))
          have f_488 : Arv Z T83.heap ar_13 kk_13 .byte (own_sl (own_len1 p2 (1 : Int32))) (own_sv (own_len1 p2 (1 : Int32)) (own_ch p0 (1 : Int32))) (.int (0 : Int32)) := Arv.keep f_487 Kq83 (ninS ne_ar_13_b55_492 nin0)
          have f_493 : Fld Z h55 b4 "com/example/orderd/orderd/order/GameOrder" "currency" "Ljava/lang/String;" (.ref sr_19) := Fld.ext E55 o27_2
          have f_494 : Fld Z T64.heap b4 "com/example/orderd/orderd/order/GameOrder" "currency" "Ljava/lang/String;" (.ref sr_19) := Fld.keep f_493 Kq64 nin0
          have f_495 : Fld Z T71.heap b4 "com/example/orderd/orderd/order/GameOrder" "currency" "Ljava/lang/String;" (.ref sr_19) := Fld.keep f_494 Kq71 nin0
          have f_496 : Fld Z T75.heap b4 "com/example/orderd/orderd/order/GameOrder" "currency" "Ljava/lang/String;" (.ref sr_19) := Fld.keep f_495 Kq75 nin0
          have f_497 : Fld Z T79.heap b4 "com/example/orderd/orderd/order/GameOrder" "currency" "Ljava/lang/String;" (.ref sr_19) := Fld.keep f_496 Kq79 nin0
          have f_498 : Fld Z T83.heap b4 "com/example/orderd/orderd/order/GameOrder" "currency" "Ljava/lang/String;" (.ref sr_19) := Fld.keep f_497 Kq83 (ninS ne_b4_b55_393 nin0)
          have f_499 : Exa Z T27.heap sr_19 "java/lang/String" := Exa.keep f_37 Kq27
          have f_500 : Exa Z h55 sr_19 "java/lang/String" := Exa.ext E55 f_499
          have f_501 : Exa Z T64.heap sr_19 "java/lang/String" := Exa.keep f_500 Kq64
          have f_502 : Exa Z T71.heap sr_19 "java/lang/String" := Exa.keep f_501 Kq71
          have f_503 : Exa Z T75.heap sr_19 "java/lang/String" := Exa.keep f_502 Kq75
          have f_504 : Exa Z T79.heap sr_19 "java/lang/String" := Exa.keep f_503 Kq79
          have f_505 : Exa Z T83.heap sr_19 "java/lang/String" := Exa.keep f_504 Kq83
          have f_506 : Fld Z T23.heap sr_19 "java/lang/String" "value" "[B" (.ref ar_19) := Fld.keep o19_1 Kq23 nin0
          have ne_sr_19_b4_508 : sr_19 ≠ b4 := Exa.ne f_505 f_386 (by decide)
          have f_507 : Fld Z T27.heap sr_19 "java/lang/String" "value" "[B" (.ref ar_19) := Fld.keep f_506 Kq27 (ninS ne_sr_19_b4_508 nin0)
          have f_509 : Fld Z h55 sr_19 "java/lang/String" "value" "[B" (.ref ar_19) := Fld.ext E55 f_507
          have f_510 : Fld Z T64.heap sr_19 "java/lang/String" "value" "[B" (.ref ar_19) := Fld.keep f_509 Kq64 nin0
          have f_511 : Fld Z T71.heap sr_19 "java/lang/String" "value" "[B" (.ref ar_19) := Fld.keep f_510 Kq71 nin0
          have f_512 : Fld Z T75.heap sr_19 "java/lang/String" "value" "[B" (.ref ar_19) := Fld.keep f_511 Kq75 nin0
          have f_513 : Fld Z T79.heap sr_19 "java/lang/String" "value" "[B" (.ref ar_19) := Fld.keep f_512 Kq79 nin0
          have f_515 : Exa Z T27.heap sr_19 "java/lang/String" := Exa.keep f_37 Kq27
          have ne_sr_19_b55_516 : sr_19 ≠ b55 := Nat.ne_of_lt (Nat.lt_of_lt_of_le f_515.lt (Nat.le_of_eq g55.symm))
          have f_514 : Fld Z T83.heap sr_19 "java/lang/String" "value" "[B" (.ref ar_19) := Fld.keep f_513 Kq83 (ninS ne_sr_19_b55_516 nin0)
          have f_517 : Fld Z T23.heap sr_19 "java/lang/String" "coder" "B" (.int (0 : Int32)) := Fld.keep o19_2 Kq23 nin0
          have f_518 : Fld Z T27.heap sr_19 "java/lang/String" "coder" "B" (.int (0 : Int32)) := Fld.keep f_517 Kq27 (ninS ne_sr_19_b4_508 nin0)
          have f_519 : Fld Z h55 sr_19 "java/lang/String" "coder" "B" (.int (0 : Int32)) := Fld.ext E55 f_518
          have f_520 : Fld Z T64.heap sr_19 "java/lang/String" "coder" "B" (.int (0 : Int32)) := Fld.keep f_519 Kq64 nin0
          have f_521 : Fld Z T71.heap sr_19 "java/lang/String" "coder" "B" (.int (0 : Int32)) := Fld.keep f_520 Kq71 nin0
          have f_522 : Fld Z T75.heap sr_19 "java/lang/String" "coder" "B" (.int (0 : Int32)) := Fld.keep f_521 Kq75 nin0
          have f_523 : Fld Z T79.heap sr_19 "java/lang/String" "coder" "B" (.int (0 : Int32)) := Fld.keep f_522 Kq79 nin0
          have f_524 : Fld Z T83.heap sr_19 "java/lang/String" "coder" "B" (.int (0 : Int32)) := Fld.keep f_523 Kq83 (ninS ne_sr_19_b55_516 nin0)
          have f_525 : Arv Z T23.heap ar_19 kk_19 .byte (own_sl (own_len1 p2 (2 : Int32))) (own_sv (own_len1 p2 (2 : Int32)) (own_ch p0 (2 : Int32))) (.int (0 : Int32)) := Arv.keep o19_3 Kq23 nin0
          have f_527 : Exa Z T13.heap b4 "com/example/orderd/orderd/order/GameOrder" := Exa.keep f_7 Kq13
          have f_528 : Exa Z T19.heap b4 "com/example/orderd/orderd/order/GameOrder" := Exa.keep f_527 Kq19
          have ne_b4_ar_19_529 : b4 ≠ ar_19 := Exa.neArv f_528 o19_3 (hw _ (List.mem_of_getElem? (i := 25) rfl))
          have f_526 : Arv Z T27.heap ar_19 kk_19 .byte (own_sl (own_len1 p2 (2 : Int32))) (own_sv (own_len1 p2 (2 : Int32)) (own_ch p0 (2 : Int32))) (.int (0 : Int32)) := Arv.keep f_525 Kq27 (ninS (Ne.symm ne_b4_ar_19_529) nin0)
          have f_530 : Arv Z h55 ar_19 kk_19 .byte (own_sl (own_len1 p2 (2 : Int32))) (own_sv (own_len1 p2 (2 : Int32)) (own_ch p0 (2 : Int32))) (.int (0 : Int32)) := Arv.ext f_526 E55
          have f_531 : Arv Z T64.heap ar_19 kk_19 .byte (own_sl (own_len1 p2 (2 : Int32))) (own_sv (own_len1 p2 (2 : Int32)) (own_ch p0 (2 : Int32))) (.int (0 : Int32)) := Arv.keep f_530 Kq64 nin0
          have f_532 : Arv Z T71.heap ar_19 kk_19 .byte (own_sl (own_len1 p2 (2 : Int32))) (own_sv (own_len1 p2 (2 : Int32)) (own_ch p0 (2 : Int32))) (.int (0 : Int32)) := Arv.keep f_531 Kq71 nin0
          have f_533 : Arv Z T75.heap ar_19 kk_19 .byte (own_sl (own_len1 p2 (2 : Int32))) (own_sv (own_len1 p2 (2 : Int32)) (own_ch p0 (2 : Int32))) (.int (0 : Int32)) := Arv.keep f_532 Kq75 nin0
          have f_534 : Arv Z T79.heap ar_19 kk_19 .byte (own_sl (own_len1 p2 (2 : Int32))) (own_sv (own_len1 p2 (2 : Int32)) (own_ch p0 (2 : Int32))) (.int (0 : Int32)) := Arv.keep f_533 Kq79 nin0
          have f_536 : Arv Z T23.heap ar_19 kk_19 .byte (own_sl (own_len1 p2 (2 : Int32))) (own_sv (own_len1 p2 (2 : Int32)) (own_ch p0 (2 : Int32))) (.int (0 : Int32)) := Arv.keep o19_3 Kq23 nin0
          have f_537 : Arv Z T27.heap ar_19 kk_19 .byte (own_sl (own_len1 p2 (2 : Int32))) (own_sv (own_len1 p2 (2 : Int32)) (own_ch p0 (2 : Int32))) (.int (0 : Int32)) := Arv.keep f_536 Kq27 (ninS (Ne.symm ne_b4_ar_19_529) nin0)
          have ne_ar_19_b55_538 : ar_19 ≠ b55 := Nat.ne_of_lt (Nat.lt_of_lt_of_le f_537.lt (Nat.le_of_eq g55.symm))
          have f_535 : Arv Z T83.heap ar_19 kk_19 .byte (own_sl (own_len1 p2 (2 : Int32))) (own_sv (own_len1 p2 (2 : Int32)) (own_ch p0 (2 : Int32))) (.int (0 : Int32)) := Arv.keep f_534 Kq83 (ninS ne_ar_19_b55_538 nin0)
          have f_539 : Fld Z h55 b4 "com/example/orderd/orderd/order/GameOrder" "role" "Ljava/lang/String;" (.ref sr_23) := Fld.ext E55 o27_3
          have f_540 : Fld Z T64.heap b4 "com/example/orderd/orderd/order/GameOrder" "role" "Ljava/lang/String;" (.ref sr_23) := Fld.keep f_539 Kq64 nin0
          have f_541 : Fld Z T71.heap b4 "com/example/orderd/orderd/order/GameOrder" "role" "Ljava/lang/String;" (.ref sr_23) := Fld.keep f_540 Kq71 nin0
          have f_542 : Fld Z T75.heap b4 "com/example/orderd/orderd/order/GameOrder" "role" "Ljava/lang/String;" (.ref sr_23) := Fld.keep f_541 Kq75 nin0
          have f_543 : Fld Z T79.heap b4 "com/example/orderd/orderd/order/GameOrder" "role" "Ljava/lang/String;" (.ref sr_23) := Fld.keep f_542 Kq79 nin0
          have f_544 : Fld Z T83.heap b4 "com/example/orderd/orderd/order/GameOrder" "role" "Ljava/lang/String;" (.ref sr_23) := Fld.keep f_543 Kq83 (ninS ne_b4_b55_393 nin0)
          have f_545 : Exa Z T27.heap sr_23 "java/lang/String" := Exa.keep o23_0 Kq27
          have f_546 : Exa Z h55 sr_23 "java/lang/String" := Exa.ext E55 f_545
          have f_547 : Exa Z T64.heap sr_23 "java/lang/String" := Exa.keep f_546 Kq64
          have f_548 : Exa Z T71.heap sr_23 "java/lang/String" := Exa.keep f_547 Kq71
          have f_549 : Exa Z T75.heap sr_23 "java/lang/String" := Exa.keep f_548 Kq75
          have f_550 : Exa Z T79.heap sr_23 "java/lang/String" := Exa.keep f_549 Kq79
          have f_551 : Exa Z T83.heap sr_23 "java/lang/String" := Exa.keep f_550 Kq83
          have ne_sr_23_b4_553 : sr_23 ≠ b4 := Exa.ne f_551 f_386 (by decide)
          have f_552 : Fld Z T27.heap sr_23 "java/lang/String" "value" "[B" (.ref ar_23) := Fld.keep o23_1 Kq27 (ninS ne_sr_23_b4_553 nin0)
          have f_554 : Fld Z h55 sr_23 "java/lang/String" "value" "[B" (.ref ar_23) := Fld.ext E55 f_552
          have f_555 : Fld Z T64.heap sr_23 "java/lang/String" "value" "[B" (.ref ar_23) := Fld.keep f_554 Kq64 nin0
          have f_556 : Fld Z T71.heap sr_23 "java/lang/String" "value" "[B" (.ref ar_23) := Fld.keep f_555 Kq71 nin0
          have f_557 : Fld Z T75.heap sr_23 "java/lang/String" "value" "[B" (.ref ar_23) := Fld.keep f_556 Kq75 nin0
          have f_558 : Fld Z T79.heap sr_23 "java/lang/String" "value" "[B" (.ref ar_23) := Fld.keep f_557 Kq79 nin0
          have f_560 : Fld Z T27.heap sr_23 "java/lang/String" "coder" "B" (.int (0 : Int32)) := Fld.keep o23_2 Kq27 (ninS ne_sr_23_b4_553 nin0)
          have ne_sr_23_b55_561 : sr_23 ≠ b55 := Nat.ne_of_lt (Nat.lt_of_lt_of_le f_560.lt (Nat.le_of_eq g55.symm))
          have f_559 : Fld Z T83.heap sr_23 "java/lang/String" "value" "[B" (.ref ar_23) := Fld.keep f_558 Kq83 (ninS ne_sr_23_b55_561 nin0)
          have f_562 : Fld Z T27.heap sr_23 "java/lang/String" "coder" "B" (.int (0 : Int32)) := Fld.keep o23_2 Kq27 (ninS ne_sr_23_b4_553 nin0)
          have f_563 : Fld Z h55 sr_23 "java/lang/String" "coder" "B" (.int (0 : Int32)) := Fld.ext E55 f_562
          have f_564 : Fld Z T64.heap sr_23 "java/lang/String" "coder" "B" (.int (0 : Int32)) := Fld.keep f_563 Kq64 nin0
          have f_565 : Fld Z T71.heap sr_23 "java/lang/String" "coder" "B" (.int (0 : Int32)) := Fld.keep f_564 Kq71 nin0
          have f_566 : Fld Z T75.heap sr_23 "java/lang/String" "coder" "B" (.int (0 : Int32)) := Fld.keep f_565 Kq75 nin0
          have f_567 : Fld Z T79.heap sr_23 "java/lang/String" "coder" "B" (.int (0 : Int32)) := Fld.keep f_566 Kq79 nin0
          have f_568 : Fld Z T83.heap sr_23 "java/lang/String" "coder" "B" (.int (0 : Int32)) := Fld.keep f_567 Kq83 (ninS ne_sr_23_b55_561 nin0)
          have ne_b4_ar_23_570 : b4 ≠ ar_23 := Exa.neArv f_30 o23_3 (hw _ (List.mem_of_getElem? (i := 25) rfl))
          have f_569 : Arv Z T27.heap ar_23 kk_23 .byte (own_sl (own_len1 p2 (3 : Int32))) (own_sv (own_len1 p2 (3 : Int32)) (own_ch p0 (3 : Int32))) (.int (0 : Int32)) := Arv.keep o23_3 Kq27 (ninS (Ne.symm ne_b4_ar_23_570) nin0)
          have f_571 : Arv Z h55 ar_23 kk_23 .byte (own_sl (own_len1 p2 (3 : Int32))) (own_sv (own_len1 p2 (3 : Int32)) (own_ch p0 (3 : Int32))) (.int (0 : Int32)) := Arv.ext f_569 E55
          have f_572 : Arv Z T64.heap ar_23 kk_23 .byte (own_sl (own_len1 p2 (3 : Int32))) (own_sv (own_len1 p2 (3 : Int32)) (own_ch p0 (3 : Int32))) (.int (0 : Int32)) := Arv.keep f_571 Kq64 nin0
          have f_573 : Arv Z T71.heap ar_23 kk_23 .byte (own_sl (own_len1 p2 (3 : Int32))) (own_sv (own_len1 p2 (3 : Int32)) (own_ch p0 (3 : Int32))) (.int (0 : Int32)) := Arv.keep f_572 Kq71 nin0
          have f_574 : Arv Z T75.heap ar_23 kk_23 .byte (own_sl (own_len1 p2 (3 : Int32))) (own_sv (own_len1 p2 (3 : Int32)) (own_ch p0 (3 : Int32))) (.int (0 : Int32)) := Arv.keep f_573 Kq75 nin0
          have f_575 : Arv Z T79.heap ar_23 kk_23 .byte (own_sl (own_len1 p2 (3 : Int32))) (own_sv (own_len1 p2 (3 : Int32)) (own_ch p0 (3 : Int32))) (.int (0 : Int32)) := Arv.keep f_574 Kq79 nin0
          have f_577 : Arv Z T27.heap ar_23 kk_23 .byte (own_sl (own_len1 p2 (3 : Int32))) (own_sv (own_len1 p2 (3 : Int32)) (own_ch p0 (3 : Int32))) (.int (0 : Int32)) := Arv.keep o23_3 Kq27 (ninS (Ne.symm ne_b4_ar_23_570) nin0)
          have ne_ar_23_b55_578 : ar_23 ≠ b55 := Nat.ne_of_lt (Nat.lt_of_lt_of_le f_577.lt (Nat.le_of_eq g55.symm))
          have f_576 : Arv Z T83.heap ar_23 kk_23 .byte (own_sl (own_len1 p2 (3 : Int32))) (own_sv (own_len1 p2 (3 : Int32)) (own_ch p0 (3 : Int32))) (.int (0 : Int32)) := Arv.keep f_575 Kq83 (ninS ne_ar_23_b55_578 nin0)
          have f_579 : Fld Z h55 b4 "com/example/orderd/orderd/order/GameOrder" "amount" "J" (.long q3) := Fld.ext E55 o27_4
          have f_580 : Fld Z T64.heap b4 "com/example/orderd/orderd/order/GameOrder" "amount" "J" (.long q3) := Fld.keep f_579 Kq64 nin0
          have f_581 : Fld Z T71.heap b4 "com/example/orderd/orderd/order/GameOrder" "amount" "J" (.long q3) := Fld.keep f_580 Kq71 nin0
          have f_582 : Fld Z T75.heap b4 "com/example/orderd/orderd/order/GameOrder" "amount" "J" (.long q3) := Fld.keep f_581 Kq75 nin0
          have f_583 : Fld Z T79.heap b4 "com/example/orderd/orderd/order/GameOrder" "amount" "J" (.long q3) := Fld.keep f_582 Kq79 nin0
          have f_584 : Fld Z T83.heap b4 "com/example/orderd/orderd/order/GameOrder" "amount" "J" (.long q3) := Fld.keep f_583 Kq83 (ninS ne_b4_b55_393 nin0)
          obtain ⟨cq377, kq377, q377a, q377b, q377c⟩ := isOf hZ83 ek145 f_386
          obtain ⟨_, _, ⟨T377, L377, k377, n377⟩, -, X377, ⟨Lc377, hQ377, l377, y377, z377⟩, st377⟩ := Xk145.virtualBack hx (y := (⟨"com/example/orderd/orderd/order/GameOrder", "equals", "(Ljava/lang/Object;)Z"⟩ : MethodName)) (z := (⟨"com/example/orderd/orderd/order/GameOrder", "equals", "(Ljava/lang/Object;)Z"⟩ : MethodName)) hown83 (mvT hZ83 (hw _ (List.mem_of_getElem? (i := 65) rfl))) (mvT hZ83 (hw _ (List.mem_of_getElem? (i := 66) rfl))) (notFace_of_selects (args := #[]) (mvT hZ83 (hw _ (List.mem_of_getElem? (i := 68) rfl)))) (mvT hZ83 (hw _ (List.mem_of_getElem? (i := 68) rfl))) (mvT hZ83 (hw _ (List.mem_of_getElem? (i := 67) rfl))) (by decide) (backOf (W := 0) (rm13 l Z a0 hw [] b4 b4 cs q3 q3 sr_1 ar_1 kk_1 (own_len1 p2 (0 : Int32)) (own_ch p0 (0 : Int32)) sr_1 ar_1 kk_1 (own_len1 p2 (0 : Int32)) (own_ch p0 (0 : Int32)) sr_13 ar_13 kk_13 (own_len1 p2 (1 : Int32)) (own_ch p0 (1 : Int32)) sr_13 ar_13 kk_13 (own_len1 p2 (1 : Int32)) (own_ch p0 (1 : Int32)) sr_19 ar_19 kk_19 (own_len1 p2 (2 : Int32)) (own_ch p0 (2 : Int32)) sr_19 ar_19 kk_19 (own_len1 p2 (2 : Int32)) (own_ch p0 (2 : Int32)) sr_23 ar_23 kk_23 (own_len1 p2 (3 : Int32)) (own_ch p0 (3 : Int32)) sr_23 ar_23 kk_23 (own_len1 p2 (3 : Int32)) (own_ch p0 (3 : Int32)) T83.heap n0 Z114 f_379 (hcs) f_386 f_386 f_392 f_400 f_412 f_425 f_437 f_392 f_400 f_412 f_425 f_437 f_449 f_456 f_466 f_477 f_488 f_449 f_456 f_466 f_477 f_488 f_498 f_505 f_514 f_524 f_535 f_498 f_505 f_514 f_524 f_535 f_544 f_551 f_559 f_568 f_576 f_544 f_551 f_559 f_568 f_576 f_584 f_584) hZ83 (hw _ (List.mem_of_getElem? (i := 69) rfl)) (hw _ (List.mem_of_getElem? (i := 26) rfl)) (by decide) (by decide)) q377a q377c (g := (mkF m 200 #[.val (.int p0), .val (.int p1), .val (.int p2), .val (.long q3), .second, .val (.long q4), .second, .val (.long am), .second, .val (.ref sr_1), .val (.ref b4), .val (.ref b55), .val (.int rf), .val (.int (((p2.toUInt32 >>> ((16 : Int32) &&& 31).toUInt32).toInt32) &&& (3 : Int32)))] [(.ref b4), (.ref b4)])) rfl (by rw [hml]; rfl) (Steps.refl _) (argsL := [(.ref b4)]) (rest := []) (lenOf own_pd256 rfl) rfl (by show 2 * 0 + _ ≤ _; exact Nat.le_of_eq rfl) (hb hby at_200) (fun _ _ => ⟨rfl, ek145, (by decide : 34 + 0 ≤ _), (by decide : 282 + 0 ≤ _)⟩)
          dsimp only [Pt.U, Pt.locs, Pt.cells, Pt.slots] at X377 l377 y377 z377 st377 hQ377
          subst l377 y377 z377
          obtain ⟨rfl, N377q, eh377⟩ := hQ377
          have N377 := Fr.app Nk145 N377q
          refine Good.back (fun _ k => st377.trans k) ?_
          show Good p e below _ (T377.setTop (mkF m 203 #[.val (.int p0), .val (.int p1), .val (.int p2), .val (.long q3), .second, .val (.long q4), .second, .val (.long am), .second, .val (.ref sr_1), .val (.ref b4), .val (.ref b55), .val (.int rf), .val (.int (((p2.toUInt32 >>> ((16 : Int32) &&& 31).toUInt32).toInt32) &&& (3 : Int32)))] [(.int (own_geq (own_seq (own_len1 p2 (0 : Int32)) (own_ch p0 (0 : Int32)) (own_len1 p2 (0 : Int32)) (own_ch p0 (0 : Int32))) (own_seq (own_len1 p2 (1 : Int32)) (own_ch p0 (1 : Int32)) (own_len1 p2 (1 : Int32)) (own_ch p0 (1 : Int32))) (lcmpW q3 q3) (own_seq (own_len1 p2 (2 : Int32)) (own_ch p0 (2 : Int32)) (own_len1 p2 (2 : Int32)) (own_ch p0 (2 : Int32))) (own_seq (own_len1 p2 (3 : Int32)) (own_ch p0 (3 : Int32)) (own_len1 p2 (3 : Int32)) (own_ch p0 (3 : Int32)))))]))
          obtain ⟨fs585, hr585, hrun585, hended585, hRE585⟩ := leaveW X377 hS83 (by rw [eh377]; exact (Nat.le_refl _)) (v := some (.int (nar .boolean (own_geq (own_seq (own_len1 p2 (0 : Int32)) (own_ch p0 (0 : Int32)) (own_len1 p2 (0 : Int32)) (own_ch p0 (0 : Int32))) (own_seq (own_len1 p2 (1 : Int32)) (own_ch p0 (1 : Int32)) (own_len1 p2 (1 : Int32)) (own_ch p0 (1 : Int32))) (lcmpW q3 q3) (own_seq (own_len1 p2 (2 : Int32)) (own_ch p0 (2 : Int32)) (own_len1 p2 (2 : Int32)) (own_ch p0 (2 : Int32))) (own_seq (own_len1 p2 (3 : Int32)) (own_ch p0 (3 : Int32)) (own_len1 p2 (3 : Int32)) (own_ch p0 (3 : Int32))))))) (fun h => by rw [Bd.returns] at h; cases h)
          have hCH585 : CHr Z own_EL s.vm s.heap T377.vm T377.heap := by rw [hh, eh377]; exact C83.trans (CHv.at X377 hZ83 (own_EW hw) C83.1)
          refine Good.done (retN X377 hx (t := .boolean) Bd.returns (by simp) (hb hby at_203) hr585) hrun585 hended585 ⟨_, _, rfl, ?_, hCH585, hRE585.1, hRE585.2.1, hRE585.2.2.1, hRE585.2.2.2.mono (by decide) (by decide)⟩
          show Q0 Z p0 p1 p2 q3 q4 cs h0 n0 _ T377.heap _
          rw [eh377]
          exact ⟨congrArg (fun z => some (Value.int z)) (by rw [own_g1 (by rw [own_seqR]; decide) (by rw [own_seqR]; decide) (by rw [own_seqR]; decide) (by rw [own_seqR]; decide) ((lw_eq _ _).mpr rfl)]; rfl), N377⟩
        · refine Good.back (fun _ k => XS.icmpYes Xk145.here hx rfl (pc0 := 193) (pc' := 204) rfl (hb hby at_193) rfl (feq hc193_376).2 (by decide) (by decide) k) ?_
          show Good p e below _ (Tk145.setTop (mkF m 204 #[.val (.int p0), .val (.int p1), .val (.int p2), .val (.long q3), .second, .val (.long q4), .second, .val (.long am), .second, .val (.ref sr_1), .val (.ref b4), .val (.ref b55), .val (.int rf), .val (.int (((p2.toUInt32 >>> ((16 : Int32) &&& 31).toUInt32).toInt32) &&& (3 : Int32)))] []))
          refine Good.back (fun _ k => XS.iload Xk145.here hx rfl (hb hby at_204) rfl k) ?_
          show Good p e below _ (Tk145.setTop (mkF m 206 #[.val (.int p0), .val (.int p1), .val (.int p2), .val (.long q3), .second, .val (.long q4), .second, .val (.long am), .second, .val (.ref sr_1), .val (.ref b4), .val (.ref b55), .val (.int rf), .val (.int (((p2.toUInt32 >>> ((16 : Int32) &&& 31).toUInt32).toInt32) &&& (3 : Int32)))] [(.int (((p2.toUInt32 >>> ((16 : Int32) &&& 31).toUInt32).toInt32) &&& (3 : Int32)))]))
          refine Good.back (fun _ k => XS.iconst Xk145.here hx rfl (hb hby at_206) k) ?_
          show Good p e below _ (Tk145.setTop (mkF m 207 #[.val (.int p0), .val (.int p1), .val (.int p2), .val (.long q3), .second, .val (.long q4), .second, .val (.long am), .second, .val (.ref sr_1), .val (.ref b4), .val (.ref b55), .val (.int rf), .val (.int (((p2.toUInt32 >>> ((16 : Int32) &&& 31).toUInt32).toInt32) &&& (3 : Int32)))] [(.int (2 : Int32)), (.int (((p2.toUInt32 >>> ((16 : Int32) &&& 31).toUInt32).toInt32) &&& (3 : Int32)))]))
          by_cases hc207_586 : (((p2.toUInt32 >>> ((16 : Int32) &&& 31).toUInt32).toInt32) &&& (3 : Int32)) = (2 : Int32)
          · refine Good.back (fun _ k => XS.icmpNo Xk145.here hx rfl (hb hby at_207) rfl (teq hc207_586).2 k) ?_
            show Good p e below _ (Tk145.setTop (mkF m 210 #[.val (.int p0), .val (.int p1), .val (.int p2), .val (.long q3), .second, .val (.long q4), .second, .val (.long am), .second, .val (.ref sr_1), .val (.ref b4), .val (.ref b55), .val (.int rf), .val (.int (((p2.toUInt32 >>> ((16 : Int32) &&& 31).toUInt32).toInt32) &&& (3 : Int32)))] []))
            refine Good.back (fun _ k => XS.aload Xk145.here hx rfl (hb hby at_210) rfl rfl k) ?_
            show Good p e below _ (Tk145.setTop (mkF m 212 #[.val (.int p0), .val (.int p1), .val (.int p2), .val (.long q3), .second, .val (.long q4), .second, .val (.long am), .second, .val (.ref sr_1), .val (.ref b4), .val (.ref b55), .val (.int rf), .val (.int (((p2.toUInt32 >>> ((16 : Int32) &&& 31).toUInt32).toInt32) &&& (3 : Int32)))] [(.ref b4)]))
            refine Good.back (fun _ k => XS.aconstNull Xk145.here hx rfl (hb hby at_212) k) ?_
            show Good p e below _ (Tk145.setTop (mkF m 213 #[.val (.int p0), .val (.int p1), .val (.int p2), .val (.long q3), .second, .val (.long q4), .second, .val (.long am), .second, .val (.ref sr_1), .val (.ref b4), .val (.ref b55), .val (.int rf), .val (.int (((p2.toUInt32 >>> ((16 : Int32) &&& 31).toUInt32).toInt32) &&& (3 : Int32)))] [.null, (.ref b4)]))
            have f_588 : Exa Z T27.heap b4 "com/example/orderd/orderd/order/GameOrder" := Exa.keep f_30 Kq27
            have f_589 : Exa Z h55 b4 "com/example/orderd/orderd/order/GameOrder" := Exa.ext E55 f_588
            have f_590 : Exa Z T64.heap b4 "com/example/orderd/orderd/order/GameOrder" := Exa.keep f_589 Kq64
            have f_591 : Exa Z T71.heap b4 "com/example/orderd/orderd/order/GameOrder" := Exa.keep f_590 Kq71
            have f_592 : Exa Z T75.heap b4 "com/example/orderd/orderd/order/GameOrder" := Exa.keep f_591 Kq75
            have f_593 : Exa Z T79.heap b4 "com/example/orderd/orderd/order/GameOrder" := Exa.keep f_592 Kq79
            have f_594 : Exa Z T83.heap b4 "com/example/orderd/orderd/order/GameOrder" := Exa.keep f_593 Kq83
            obtain ⟨cq587, kq587, q587a, q587b, q587c⟩ := isOf hZ83 ek145 f_594
            obtain ⟨_, _, ⟨T587, L587, k587, n587⟩, -, X587, ⟨Lc587, hQ587, l587, y587, z587⟩, st587⟩ := Xk145.virtualBack hx (y := (⟨"com/example/orderd/orderd/order/GameOrder", "equals", "(Ljava/lang/Object;)Z"⟩ : MethodName)) (z := (⟨"com/example/orderd/orderd/order/GameOrder", "equals", "(Ljava/lang/Object;)Z"⟩ : MethodName)) hown83 (mvT hZ83 (hw _ (List.mem_of_getElem? (i := 65) rfl))) (mvT hZ83 (hw _ (List.mem_of_getElem? (i := 66) rfl))) (notFace_of_selects (args := #[]) (mvT hZ83 (hw _ (List.mem_of_getElem? (i := 68) rfl)))) (mvT hZ83 (hw _ (List.mem_of_getElem? (i := 68) rfl))) (mvT hZ83 (hw _ (List.mem_of_getElem? (i := 67) rfl))) (by decide) (backOf (W := 0) (rm13n l Z a0 hw [] b4  T83.heap n0 Z114 ) hZ83 (hw _ (List.mem_of_getElem? (i := 69) rfl)) (hw _ (List.mem_of_getElem? (i := 26) rfl)) (by decide) (by decide)) q587a q587c (g := (mkF m 213 #[.val (.int p0), .val (.int p1), .val (.int p2), .val (.long q3), .second, .val (.long q4), .second, .val (.long am), .second, .val (.ref sr_1), .val (.ref b4), .val (.ref b55), .val (.int rf), .val (.int (((p2.toUInt32 >>> ((16 : Int32) &&& 31).toUInt32).toInt32) &&& (3 : Int32)))] [.null, (.ref b4)])) rfl (by rw [hml]; rfl) (Steps.refl _) (argsL := [.null]) (rest := []) (lenOf own_pd256 rfl) rfl (by show 2 * 0 + _ ≤ _; exact Nat.le_of_eq rfl) (hb hby at_213) (fun _ _ => ⟨rfl, ek145, (by decide : 34 + 0 ≤ _), (by decide : 282 + 0 ≤ _)⟩)
            dsimp only [Pt.U, Pt.locs, Pt.cells, Pt.slots] at X587 l587 y587 z587 st587 hQ587
            subst l587 y587 z587
            obtain ⟨rfl, N587q, eh587⟩ := hQ587
            have N587 := Fr.app Nk145 N587q
            refine Good.back (fun _ k => st587.trans k) ?_
            show Good p e below _ (T587.setTop (mkF m 216 #[.val (.int p0), .val (.int p1), .val (.int p2), .val (.long q3), .second, .val (.long q4), .second, .val (.long am), .second, .val (.ref sr_1), .val (.ref b4), .val (.ref b55), .val (.int rf), .val (.int (((p2.toUInt32 >>> ((16 : Int32) &&& 31).toUInt32).toInt32) &&& (3 : Int32)))] [(.int (0 : Int32))]))
            refine Good.back (fun _ k => XS.ifNo X587.here hx rfl (hb hby at_216) rfl ((if0 _ _).trans (teq (by decide : ((0 : Int32) = (0 : Int32)))).2) k) ?_
            show Good p e below _ (T587.setTop (mkF m 219 #[.val (.int p0), .val (.int p1), .val (.int p2), .val (.long q3), .second, .val (.long q4), .second, .val (.long am), .second, .val (.ref sr_1), .val (.ref b4), .val (.ref b55), .val (.int rf), .val (.int (((p2.toUInt32 >>> ((16 : Int32) &&& 31).toUInt32).toInt32) &&& (3 : Int32)))] []))
            refine Good.back (fun _ k => XS.iconst X587.here hx rfl (hb hby at_219) k) ?_
            show Good p e below _ (T587.setTop (mkF m 220 #[.val (.int p0), .val (.int p1), .val (.int p2), .val (.long q3), .second, .val (.long q4), .second, .val (.long am), .second, .val (.ref sr_1), .val (.ref b4), .val (.ref b55), .val (.int rf), .val (.int (((p2.toUInt32 >>> ((16 : Int32) &&& 31).toUInt32).toInt32) &&& (3 : Int32)))] [(.int (1 : Int32))]))
            refine Good.back (fun _ k => XS.goto X587.here hx rfl (pc0 := 220) (pc' := 224) rfl (hb hby at_220) (by decide) (by decide) k) ?_
            show Good p e below _ (T587.setTop (mkF m 224 #[.val (.int p0), .val (.int p1), .val (.int p2), .val (.long q3), .second, .val (.long q4), .second, .val (.long am), .second, .val (.ref sr_1), .val (.ref b4), .val (.ref b55), .val (.int rf), .val (.int (((p2.toUInt32 >>> ((16 : Int32) &&& 31).toUInt32).toInt32) &&& (3 : Int32)))] [(.int (1 : Int32))]))
            obtain ⟨fs595, hr595, hrun595, hended595, hRE595⟩ := leaveW X587 hS83 (by rw [eh587]; exact (Nat.le_refl _)) (v := some (.int (1 : Int32))) (fun h => by rw [Bd.returns] at h; cases h)
            have hCH595 : CHr Z own_EL s.vm s.heap T587.vm T587.heap := by rw [hh, eh587]; exact C83.trans (CHv.at X587 hZ83 (own_EW hw) C83.1)
            refine Good.done (retN X587 hx (t := .boolean) Bd.returns (by simp) (hb hby at_224) hr595) hrun595 hended595 ⟨_, _, rfl, ?_, hCH595, hRE595.1, hRE595.2.1, hRE595.2.2.1, hRE595.2.2.2.mono (by decide) (by decide)⟩
            show Q0 Z p0 p1 p2 q3 q4 cs h0 n0 _ T587.heap _
            rw [eh587]
            exact ⟨rfl, N587⟩
          · refine Good.back (fun _ k => XS.icmpYes Xk145.here hx rfl (pc0 := 207) (pc' := 225) rfl (hb hby at_207) rfl (feq hc207_586).2 (by decide) (by decide) k) ?_
            show Good p e below _ (Tk145.setTop (mkF m 225 #[.val (.int p0), .val (.int p1), .val (.int p2), .val (.long q3), .second, .val (.long q4), .second, .val (.long am), .second, .val (.ref sr_1), .val (.ref b4), .val (.ref b55), .val (.int rf), .val (.int (((p2.toUInt32 >>> ((16 : Int32) &&& 31).toUInt32).toInt32) &&& (3 : Int32)))] []))
            refine Good.back (fun _ k => XS.aload Xk145.here hx rfl (hb hby at_225) rfl rfl k) ?_
            show Good p e below _ (Tk145.setTop (mkF m 227 #[.val (.int p0), .val (.int p1), .val (.int p2), .val (.long q3), .second, .val (.long q4), .second, .val (.long am), .second, .val (.ref sr_1), .val (.ref b4), .val (.ref b55), .val (.int rf), .val (.int (((p2.toUInt32 >>> ((16 : Int32) &&& 31).toUInt32).toInt32) &&& (3 : Int32)))] [(.ref b4)]))
            refine Good.back (fun _ k => XS.aload Xk145.here hx rfl (hb hby at_227) rfl rfl k) ?_
            show Good p e below _ (Tk145.setTop (mkF m 229 #[.val (.int p0), .val (.int p1), .val (.int p2), .val (.long q3), .second, .val (.long q4), .second, .val (.long am), .second, .val (.ref sr_1), .val (.ref b4), .val (.ref b55), .val (.int rf), .val (.int (((p2.toUInt32 >>> ((16 : Int32) &&& 31).toUInt32).toInt32) &&& (3 : Int32)))] [(.ref sr_1), (.ref b4)]))
            have f_597 : Exa Z T27.heap sr_1 "java/lang/String" := Exa.keep f_34 Kq27
            have f_598 : Exa Z h55 sr_1 "java/lang/String" := Exa.ext E55 f_597
            have f_599 : Exa Z T64.heap sr_1 "java/lang/String" := Exa.keep f_598 Kq64
            have f_600 : Exa Z T71.heap sr_1 "java/lang/String" := Exa.keep f_599 Kq71
            have f_601 : Exa Z T75.heap sr_1 "java/lang/String" := Exa.keep f_600 Kq75
            have f_602 : Exa Z T79.heap sr_1 "java/lang/String" := Exa.keep f_601 Kq79
            have f_603 : Exa Z T83.heap sr_1 "java/lang/String" := Exa.keep f_602 Kq83
            have f_604 : Exa Z T27.heap b4 "com/example/orderd/orderd/order/GameOrder" := Exa.keep f_30 Kq27
            have f_605 : Exa Z h55 b4 "com/example/orderd/orderd/order/GameOrder" := Exa.ext E55 f_604
            have f_606 : Exa Z T64.heap b4 "com/example/orderd/orderd/order/GameOrder" := Exa.keep f_605 Kq64
            have f_607 : Exa Z T71.heap b4 "com/example/orderd/orderd/order/GameOrder" := Exa.keep f_606 Kq71
            have f_608 : Exa Z T75.heap b4 "com/example/orderd/orderd/order/GameOrder" := Exa.keep f_607 Kq75
            have f_609 : Exa Z T79.heap b4 "com/example/orderd/orderd/order/GameOrder" := Exa.keep f_608 Kq79
            have f_610 : Exa Z T83.heap b4 "com/example/orderd/orderd/order/GameOrder" := Exa.keep f_609 Kq83
            obtain ⟨cq596, kq596, q596a, q596b, q596c⟩ := isOf hZ83 ek145 f_610
            obtain ⟨_, _, ⟨T596, L596, k596, n596⟩, -, X596, ⟨Lc596, hQ596, l596, y596, z596⟩, st596⟩ := Xk145.virtualBack hx (y := (⟨"com/example/orderd/orderd/order/GameOrder", "equals", "(Ljava/lang/Object;)Z"⟩ : MethodName)) (z := (⟨"com/example/orderd/orderd/order/GameOrder", "equals", "(Ljava/lang/Object;)Z"⟩ : MethodName)) hown83 (mvT hZ83 (hw _ (List.mem_of_getElem? (i := 65) rfl))) (mvT hZ83 (hw _ (List.mem_of_getElem? (i := 66) rfl))) (notFace_of_selects (args := #[]) (mvT hZ83 (hw _ (List.mem_of_getElem? (i := 68) rfl)))) (mvT hZ83 (hw _ (List.mem_of_getElem? (i := 68) rfl))) (mvT hZ83 (hw _ (List.mem_of_getElem? (i := 67) rfl))) (by decide) (backOf (W := 0) (rm13s l Z a0 hw [] b4 sr_1  T83.heap n0 Z114 f_603) hZ83 (hw _ (List.mem_of_getElem? (i := 69) rfl)) (hw _ (List.mem_of_getElem? (i := 26) rfl)) (by decide) (by decide)) q596a q596c (g := (mkF m 229 #[.val (.int p0), .val (.int p1), .val (.int p2), .val (.long q3), .second, .val (.long q4), .second, .val (.long am), .second, .val (.ref sr_1), .val (.ref b4), .val (.ref b55), .val (.int rf), .val (.int (((p2.toUInt32 >>> ((16 : Int32) &&& 31).toUInt32).toInt32) &&& (3 : Int32)))] [(.ref sr_1), (.ref b4)])) rfl (by rw [hml]; rfl) (Steps.refl _) (argsL := [(.ref sr_1)]) (rest := []) (lenOf own_pd256 rfl) rfl (by show 2 * 0 + _ ≤ _; exact Nat.le_of_eq rfl) (hb hby at_229) (fun _ _ => ⟨rfl, ek145, (by decide : 34 + 0 ≤ _), (by decide : 282 + 0 ≤ _)⟩)
            dsimp only [Pt.U, Pt.locs, Pt.cells, Pt.slots] at X596 l596 y596 z596 st596 hQ596
            subst l596 y596 z596
            obtain ⟨rfl, N596q, eh596⟩ := hQ596
            have N596 := Fr.app Nk145 N596q
            refine Good.back (fun _ k => st596.trans k) ?_
            show Good p e below _ (T596.setTop (mkF m 232 #[.val (.int p0), .val (.int p1), .val (.int p2), .val (.long q3), .second, .val (.long q4), .second, .val (.long am), .second, .val (.ref sr_1), .val (.ref b4), .val (.ref b55), .val (.int rf), .val (.int (((p2.toUInt32 >>> ((16 : Int32) &&& 31).toUInt32).toInt32) &&& (3 : Int32)))] [(.int (0 : Int32))]))
            refine Good.back (fun _ k => XS.ifNo X596.here hx rfl (hb hby at_232) rfl ((if0 _ _).trans (teq (by decide : ((0 : Int32) = (0 : Int32)))).2) k) ?_
            show Good p e below _ (T596.setTop (mkF m 235 #[.val (.int p0), .val (.int p1), .val (.int p2), .val (.long q3), .second, .val (.long q4), .second, .val (.long am), .second, .val (.ref sr_1), .val (.ref b4), .val (.ref b55), .val (.int rf), .val (.int (((p2.toUInt32 >>> ((16 : Int32) &&& 31).toUInt32).toInt32) &&& (3 : Int32)))] []))
            refine Good.back (fun _ k => XS.iconst X596.here hx rfl (hb hby at_235) k) ?_
            show Good p e below _ (T596.setTop (mkF m 236 #[.val (.int p0), .val (.int p1), .val (.int p2), .val (.long q3), .second, .val (.long q4), .second, .val (.long am), .second, .val (.ref sr_1), .val (.ref b4), .val (.ref b55), .val (.int rf), .val (.int (((p2.toUInt32 >>> ((16 : Int32) &&& 31).toUInt32).toInt32) &&& (3 : Int32)))] [(.int (1 : Int32))]))
            refine Good.back (fun _ k => XS.goto X596.here hx rfl (pc0 := 236) (pc' := 240) rfl (hb hby at_236) (by decide) (by decide) k) ?_
            show Good p e below _ (T596.setTop (mkF m 240 #[.val (.int p0), .val (.int p1), .val (.int p2), .val (.long q3), .second, .val (.long q4), .second, .val (.long am), .second, .val (.ref sr_1), .val (.ref b4), .val (.ref b55), .val (.int rf), .val (.int (((p2.toUInt32 >>> ((16 : Int32) &&& 31).toUInt32).toInt32) &&& (3 : Int32)))] [(.int (1 : Int32))]))
            obtain ⟨fs611, hr611, hrun611, hended611, hRE611⟩ := leaveW X596 hS83 (by rw [eh596]; exact (Nat.le_refl _)) (v := some (.int (1 : Int32))) (fun h => by rw [Bd.returns] at h; cases h)
            have hCH611 : CHr Z own_EL s.vm s.heap T596.vm T596.heap := by rw [hh, eh596]; exact C83.trans (CHv.at X596 hZ83 (own_EW hw) C83.1)
            refine Good.done (retN X596 hx (t := .boolean) Bd.returns (by simp) (hb hby at_240) hr611) hrun611 hended611 ⟨_, _, rfl, ?_, hCH611, hRE611.1, hRE611.2.1, hRE611.2.2.1, hRE611.2.2.2.mono (by decide) (by decide)⟩
            show Q0 Z p0 p1 p2 q3 q4 cs h0 n0 _ T596.heap _
            rw [eh596]
            exact ⟨rfl, N596⟩
    show Good p e below _ (T83.setTop (mkF m 93 #[.val (.int p0), .val (.int p1), .val (.int p2), .val (.long q3), .second, .val (.long q4), .second, .val (.long am), .second, .val (.ref sr_1), .val (.ref b4), .val (.ref b55), .unset, .unset] []))
    refine Good.back (fun _ k => XS.iloadN X83.here hx rfl (hb hby at_93) rfl k) ?_
    show Good p e below _ (T83.setTop (mkF m 94 #[.val (.int p0), .val (.int p1), .val (.int p2), .val (.long q3), .second, .val (.long q4), .second, .val (.long am), .second, .val (.ref sr_1), .val (.ref b4), .val (.ref b55), .unset, .unset] [(.int p0)]))
    refine Good.back (fun _ k => XS.iloadN X83.here hx rfl (hb hby at_94) rfl k) ?_
    show Good p e below _ (T83.setTop (mkF m 95 #[.val (.int p0), .val (.int p1), .val (.int p2), .val (.long q3), .second, .val (.long q4), .second, .val (.long am), .second, .val (.ref sr_1), .val (.ref b4), .val (.ref b55), .unset, .unset] [(.int p1), (.int p0)]))
    refine Good.back (fun _ k => XS.iloadN X83.here hx rfl (hb hby at_95) rfl k) ?_
    show Good p e below _ (T83.setTop (mkF m 96 #[.val (.int p0), .val (.int p1), .val (.int p2), .val (.long q3), .second, .val (.long q4), .second, .val (.long am), .second, .val (.ref sr_1), .val (.ref b4), .val (.ref b55), .unset, .unset] [(.int p2), (.int p1), (.int p0)]))
    refine Good.back (fun _ k => XS.iconst X83.here hx rfl (hb hby at_96) k) ?_
    show Good p e below _ (T83.setTop (mkF m 97 #[.val (.int p0), .val (.int p1), .val (.int p2), .val (.long q3), .second, .val (.long q4), .second, .val (.long am), .second, .val (.ref sr_1), .val (.ref b4), .val (.ref b55), .unset, .unset] [(.int (0 : Int32)), (.int p2), (.int p1), (.int p0)]))
    obtain ⟨_, _, ⟨T612, L612, k612, n612⟩, -, X612, ⟨Lc612, hQ612, l612, y612, z612⟩, st612⟩ := Jvm.LawKit.callS X83 hx (y := (⟨"com/example/orderd/orderd/order/GameOrderEqualsPinLaw", "same", "(IIII)Z"⟩ : MethodName)) hown83 (mvT hZ83 (hw _ (List.mem_of_getElem? (i := 62) rfl))) (mvT hZ83 (hw _ (List.mem_of_getElem? (i := 63) rfl))) (mvT hZ83 (hw _ (List.mem_of_getElem? (i := 2) rfl))) (mvT hZ83 (hw _ (List.mem_of_getElem? (i := 64) rfl))) (by decide) (backOf (W := 0) (rm12 l Z a0 hw [] p0 p1 p2 (0 : Int32)  T83.heap n0 Z114 ) hZ83 (hw _ (List.mem_of_getElem? (i := 64) rfl)) (hw _ (List.mem_of_getElem? (i := 2) rfl)) (by decide) (by decide)) (g := (mkF m 97 #[.val (.int p0), .val (.int p1), .val (.int p2), .val (.long q3), .second, .val (.long q4), .second, .val (.long am), .second, .val (.ref sr_1), .val (.ref b4), .val (.ref b55), .unset, .unset] [(.int (0 : Int32)), (.int p2), (.int p1), (.int p0)])) rfl (by rw [hml]; rfl) (argsL := [(.int p0), (.int p1), (.int p2), (.int (0 : Int32))]) (rest := []) (lenOf own_pd298 rfl) rfl (by show 2 * 0 + _ ≤ _; exact Nat.le_of_eq rfl) (hb hby at_97) (fun _ _ => ⟨rfl, rfl, (by decide : 34 + 0 ≤ _), (by decide : 282 + 0 ≤ _)⟩)
    dsimp only [Pt.U, Pt.locs, Pt.cells, Pt.slots] at X612 l612 y612 z612 st612 hQ612
    subst l612 y612 z612
    obtain ⟨rfl, N612q, eh612⟩ := hQ612
    have N612 := Fr.app N83 N612q
    refine Good.back st612 ?_
    show Good p e below _ (T612.setTop (mkF m 100 #[.val (.int p0), .val (.int p1), .val (.int p2), .val (.long q3), .second, .val (.long q4), .second, .val (.long am), .second, .val (.ref sr_1), .val (.ref b4), .val (.ref b55), .unset, .unset] [(.int (own_same p0 p1 p2 (0 : Int32)))]))
    by_cases hc100_613 : (own_same p0 p1 p2 (0 : Int32)) = (0 : Int32)
    · refine Good.back (fun _ k => XS.ifYes X612.here hx rfl (pc0 := 100) (pc' := 144) rfl (hb hby at_100) rfl ((if0 _ _).trans (teq hc100_613).1) (by decide) (by decide) k) ?_
      show Good p e below _ (T612.setTop (mkF m 144 #[.val (.int p0), .val (.int p1), .val (.int p2), .val (.long q3), .second, .val (.long q4), .second, .val (.long am), .second, .val (.ref sr_1), .val (.ref b4), .val (.ref b55), .unset, .unset] []))
      refine Good.back (fun _ k => XS.iconst X612.here hx rfl (hb hby at_144) k) ?_
      show Good p e below _ (T612.setTop (mkF m 145 #[.val (.int p0), .val (.int p1), .val (.int p2), .val (.long q3), .second, .val (.long q4), .second, .val (.long am), .second, .val (.ref sr_1), .val (.ref b4), .val (.ref b55), .unset, .unset] [(.int (0 : Int32))]))
      exact key145 (0 : Int32) _ _ X612 N612 eh612 (by rw [← own_se p0 p1 p2 (0 : Int32), ← own_se p0 p1 p2 (1 : Int32), ← own_se p0 p1 p2 (2 : Int32), ← own_se p0 p1 p2 (3 : Int32)]; exact own_g0 (Or.inl hc100_613)) (by rw [own_seqS (own_len2 p2 (0 : Int32)) (own_chr2 p0 p1 p2 (0 : Int32)) (own_len1 p2 (0 : Int32)) (own_ch p0 (0 : Int32)), own_seqS (own_len2 p2 (1 : Int32)) (own_chr2 p0 p1 p2 (1 : Int32)) (own_len1 p2 (1 : Int32)) (own_ch p0 (1 : Int32)), own_seqS (own_len2 p2 (2 : Int32)) (own_chr2 p0 p1 p2 (2 : Int32)) (own_len1 p2 (2 : Int32)) (own_ch p0 (2 : Int32)), own_seqS (own_len2 p2 (3 : Int32)) (own_chr2 p0 p1 p2 (3 : Int32)) (own_len1 p2 (3 : Int32)) (own_ch p0 (3 : Int32)), ← own_se p0 p1 p2 (0 : Int32), ← own_se p0 p1 p2 (1 : Int32), ← own_se p0 p1 p2 (2 : Int32), ← own_se p0 p1 p2 (3 : Int32)]; exact own_g0 (Or.inl hc100_613))
    · refine Good.back (fun _ k => XS.ifNo X612.here hx rfl (hb hby at_100) rfl ((if0 _ _).trans (feq hc100_613).1) k) ?_
      show Good p e below _ (T612.setTop (mkF m 103 #[.val (.int p0), .val (.int p1), .val (.int p2), .val (.long q3), .second, .val (.long q4), .second, .val (.long am), .second, .val (.ref sr_1), .val (.ref b4), .val (.ref b55), .unset, .unset] []))
      refine Good.back (fun _ k => XS.iloadN X612.here hx rfl (hb hby at_103) rfl k) ?_
      show Good p e below _ (T612.setTop (mkF m 104 #[.val (.int p0), .val (.int p1), .val (.int p2), .val (.long q3), .second, .val (.long q4), .second, .val (.long am), .second, .val (.ref sr_1), .val (.ref b4), .val (.ref b55), .unset, .unset] [(.int p0)]))
      refine Good.back (fun _ k => XS.iloadN X612.here hx rfl (hb hby at_104) rfl k) ?_
      show Good p e below _ (T612.setTop (mkF m 105 #[.val (.int p0), .val (.int p1), .val (.int p2), .val (.long q3), .second, .val (.long q4), .second, .val (.long am), .second, .val (.ref sr_1), .val (.ref b4), .val (.ref b55), .unset, .unset] [(.int p1), (.int p0)]))
      refine Good.back (fun _ k => XS.iloadN X612.here hx rfl (hb hby at_105) rfl k) ?_
      show Good p e below _ (T612.setTop (mkF m 106 #[.val (.int p0), .val (.int p1), .val (.int p2), .val (.long q3), .second, .val (.long q4), .second, .val (.long am), .second, .val (.ref sr_1), .val (.ref b4), .val (.ref b55), .unset, .unset] [(.int p2), (.int p1), (.int p0)]))
      refine Good.back (fun _ k => XS.iconst X612.here hx rfl (hb hby at_106) k) ?_
      show Good p e below _ (T612.setTop (mkF m 107 #[.val (.int p0), .val (.int p1), .val (.int p2), .val (.long q3), .second, .val (.long q4), .second, .val (.long am), .second, .val (.ref sr_1), .val (.ref b4), .val (.ref b55), .unset, .unset] [(.int (1 : Int32)), (.int p2), (.int p1), (.int p0)]))
      obtain ⟨_, _, ⟨T614, L614, k614, n614⟩, -, X614, ⟨Lc614, hQ614, l614, y614, z614⟩, st614⟩ := Jvm.LawKit.callS X612 hx (y := (⟨"com/example/orderd/orderd/order/GameOrderEqualsPinLaw", "same", "(IIII)Z"⟩ : MethodName)) hown83 (mvT hZ83 (hw _ (List.mem_of_getElem? (i := 62) rfl))) (mvT hZ83 (hw _ (List.mem_of_getElem? (i := 63) rfl))) (mvT hZ83 (hw _ (List.mem_of_getElem? (i := 2) rfl))) (mvT hZ83 (hw _ (List.mem_of_getElem? (i := 64) rfl))) (by decide) (backOf (W := 0) (rm12 l Z a0 hw [] p0 p1 p2 (1 : Int32)  T83.heap n0 Z114 ) hZ83 (hw _ (List.mem_of_getElem? (i := 64) rfl)) (hw _ (List.mem_of_getElem? (i := 2) rfl)) (by decide) (by decide)) (g := (mkF m 107 #[.val (.int p0), .val (.int p1), .val (.int p2), .val (.long q3), .second, .val (.long q4), .second, .val (.long am), .second, .val (.ref sr_1), .val (.ref b4), .val (.ref b55), .unset, .unset] [(.int (1 : Int32)), (.int p2), (.int p1), (.int p0)])) rfl (by rw [hml]; rfl) (argsL := [(.int p0), (.int p1), (.int p2), (.int (1 : Int32))]) (rest := []) (lenOf own_pd298 rfl) rfl (by show 2 * 0 + _ ≤ _; exact Nat.le_of_eq rfl) (hb hby at_107) (fun _ _ => ⟨rfl, eh612, (by decide : 34 + 0 ≤ _), (by decide : 282 + 0 ≤ _)⟩)
      dsimp only [Pt.U, Pt.locs, Pt.cells, Pt.slots] at X614 l614 y614 z614 st614 hQ614
      subst l614 y614 z614
      obtain ⟨rfl, N614q, eh614⟩ := hQ614
      have N614 := Fr.app N612 N614q
      refine Good.back st614 ?_
      show Good p e below _ (T614.setTop (mkF m 110 #[.val (.int p0), .val (.int p1), .val (.int p2), .val (.long q3), .second, .val (.long q4), .second, .val (.long am), .second, .val (.ref sr_1), .val (.ref b4), .val (.ref b55), .unset, .unset] [(.int (own_same p0 p1 p2 (1 : Int32)))]))
      by_cases hc110_615 : (own_same p0 p1 p2 (1 : Int32)) = (0 : Int32)
      · refine Good.back (fun _ k => XS.ifYes X614.here hx rfl (pc0 := 110) (pc' := 144) rfl (hb hby at_110) rfl ((if0 _ _).trans (teq hc110_615).1) (by decide) (by decide) k) ?_
        show Good p e below _ (T614.setTop (mkF m 144 #[.val (.int p0), .val (.int p1), .val (.int p2), .val (.long q3), .second, .val (.long q4), .second, .val (.long am), .second, .val (.ref sr_1), .val (.ref b4), .val (.ref b55), .unset, .unset] []))
        refine Good.back (fun _ k => XS.iconst X614.here hx rfl (hb hby at_144) k) ?_
        show Good p e below _ (T614.setTop (mkF m 145 #[.val (.int p0), .val (.int p1), .val (.int p2), .val (.long q3), .second, .val (.long q4), .second, .val (.long am), .second, .val (.ref sr_1), .val (.ref b4), .val (.ref b55), .unset, .unset] [(.int (0 : Int32))]))
        exact key145 (0 : Int32) _ _ X614 N614 eh614 (by rw [← own_se p0 p1 p2 (0 : Int32), ← own_se p0 p1 p2 (1 : Int32), ← own_se p0 p1 p2 (2 : Int32), ← own_se p0 p1 p2 (3 : Int32)]; exact own_g0 (Or.inr (Or.inl hc110_615))) (by rw [own_seqS (own_len2 p2 (0 : Int32)) (own_chr2 p0 p1 p2 (0 : Int32)) (own_len1 p2 (0 : Int32)) (own_ch p0 (0 : Int32)), own_seqS (own_len2 p2 (1 : Int32)) (own_chr2 p0 p1 p2 (1 : Int32)) (own_len1 p2 (1 : Int32)) (own_ch p0 (1 : Int32)), own_seqS (own_len2 p2 (2 : Int32)) (own_chr2 p0 p1 p2 (2 : Int32)) (own_len1 p2 (2 : Int32)) (own_ch p0 (2 : Int32)), own_seqS (own_len2 p2 (3 : Int32)) (own_chr2 p0 p1 p2 (3 : Int32)) (own_len1 p2 (3 : Int32)) (own_ch p0 (3 : Int32)), ← own_se p0 p1 p2 (0 : Int32), ← own_se p0 p1 p2 (1 : Int32), ← own_se p0 p1 p2 (2 : Int32), ← own_se p0 p1 p2 (3 : Int32)]; exact own_g0 (Or.inr (Or.inl hc110_615)))
      · refine Good.back (fun _ k => XS.ifNo X614.here hx rfl (hb hby at_110) rfl ((if0 _ _).trans (feq hc110_615).1) k) ?_
        show Good p e below _ (T614.setTop (mkF m 113 #[.val (.int p0), .val (.int p1), .val (.int p2), .val (.long q3), .second, .val (.long q4), .second, .val (.long am), .second, .val (.ref sr_1), .val (.ref b4), .val (.ref b55), .unset, .unset] []))
        refine Good.back (fun _ k => XS.iloadN X614.here hx rfl (hb hby at_113) rfl k) ?_
        show Good p e below _ (T614.setTop (mkF m 114 #[.val (.int p0), .val (.int p1), .val (.int p2), .val (.long q3), .second, .val (.long q4), .second, .val (.long am), .second, .val (.ref sr_1), .val (.ref b4), .val (.ref b55), .unset, .unset] [(.int p0)]))
        refine Good.back (fun _ k => XS.iloadN X614.here hx rfl (hb hby at_114) rfl k) ?_
        show Good p e below _ (T614.setTop (mkF m 115 #[.val (.int p0), .val (.int p1), .val (.int p2), .val (.long q3), .second, .val (.long q4), .second, .val (.long am), .second, .val (.ref sr_1), .val (.ref b4), .val (.ref b55), .unset, .unset] [(.int p1), (.int p0)]))
        refine Good.back (fun _ k => XS.iloadN X614.here hx rfl (hb hby at_115) rfl k) ?_
        show Good p e below _ (T614.setTop (mkF m 116 #[.val (.int p0), .val (.int p1), .val (.int p2), .val (.long q3), .second, .val (.long q4), .second, .val (.long am), .second, .val (.ref sr_1), .val (.ref b4), .val (.ref b55), .unset, .unset] [(.int p2), (.int p1), (.int p0)]))
        refine Good.back (fun _ k => XS.iconst X614.here hx rfl (hb hby at_116) k) ?_
        show Good p e below _ (T614.setTop (mkF m 117 #[.val (.int p0), .val (.int p1), .val (.int p2), .val (.long q3), .second, .val (.long q4), .second, .val (.long am), .second, .val (.ref sr_1), .val (.ref b4), .val (.ref b55), .unset, .unset] [(.int (2 : Int32)), (.int p2), (.int p1), (.int p0)]))
        obtain ⟨_, _, ⟨T616, L616, k616, n616⟩, -, X616, ⟨Lc616, hQ616, l616, y616, z616⟩, st616⟩ := Jvm.LawKit.callS X614 hx (y := (⟨"com/example/orderd/orderd/order/GameOrderEqualsPinLaw", "same", "(IIII)Z"⟩ : MethodName)) hown83 (mvT hZ83 (hw _ (List.mem_of_getElem? (i := 62) rfl))) (mvT hZ83 (hw _ (List.mem_of_getElem? (i := 63) rfl))) (mvT hZ83 (hw _ (List.mem_of_getElem? (i := 2) rfl))) (mvT hZ83 (hw _ (List.mem_of_getElem? (i := 64) rfl))) (by decide) (backOf (W := 0) (rm12 l Z a0 hw [] p0 p1 p2 (2 : Int32)  T83.heap n0 Z114 ) hZ83 (hw _ (List.mem_of_getElem? (i := 64) rfl)) (hw _ (List.mem_of_getElem? (i := 2) rfl)) (by decide) (by decide)) (g := (mkF m 117 #[.val (.int p0), .val (.int p1), .val (.int p2), .val (.long q3), .second, .val (.long q4), .second, .val (.long am), .second, .val (.ref sr_1), .val (.ref b4), .val (.ref b55), .unset, .unset] [(.int (2 : Int32)), (.int p2), (.int p1), (.int p0)])) rfl (by rw [hml]; rfl) (argsL := [(.int p0), (.int p1), (.int p2), (.int (2 : Int32))]) (rest := []) (lenOf own_pd298 rfl) rfl (by show 2 * 0 + _ ≤ _; exact Nat.le_of_eq rfl) (hb hby at_117) (fun _ _ => ⟨rfl, eh614, (by decide : 34 + 0 ≤ _), (by decide : 282 + 0 ≤ _)⟩)
        dsimp only [Pt.U, Pt.locs, Pt.cells, Pt.slots] at X616 l616 y616 z616 st616 hQ616
        subst l616 y616 z616
        obtain ⟨rfl, N616q, eh616⟩ := hQ616
        have N616 := Fr.app N614 N616q
        refine Good.back st616 ?_
        show Good p e below _ (T616.setTop (mkF m 120 #[.val (.int p0), .val (.int p1), .val (.int p2), .val (.long q3), .second, .val (.long q4), .second, .val (.long am), .second, .val (.ref sr_1), .val (.ref b4), .val (.ref b55), .unset, .unset] [(.int (own_same p0 p1 p2 (2 : Int32)))]))
        by_cases hc120_617 : (own_same p0 p1 p2 (2 : Int32)) = (0 : Int32)
        · refine Good.back (fun _ k => XS.ifYes X616.here hx rfl (pc0 := 120) (pc' := 144) rfl (hb hby at_120) rfl ((if0 _ _).trans (teq hc120_617).1) (by decide) (by decide) k) ?_
          show Good p e below _ (T616.setTop (mkF m 144 #[.val (.int p0), .val (.int p1), .val (.int p2), .val (.long q3), .second, .val (.long q4), .second, .val (.long am), .second, .val (.ref sr_1), .val (.ref b4), .val (.ref b55), .unset, .unset] []))
          refine Good.back (fun _ k => XS.iconst X616.here hx rfl (hb hby at_144) k) ?_
          show Good p e below _ (T616.setTop (mkF m 145 #[.val (.int p0), .val (.int p1), .val (.int p2), .val (.long q3), .second, .val (.long q4), .second, .val (.long am), .second, .val (.ref sr_1), .val (.ref b4), .val (.ref b55), .unset, .unset] [(.int (0 : Int32))]))
          exact key145 (0 : Int32) _ _ X616 N616 eh616 (by rw [← own_se p0 p1 p2 (0 : Int32), ← own_se p0 p1 p2 (1 : Int32), ← own_se p0 p1 p2 (2 : Int32), ← own_se p0 p1 p2 (3 : Int32)]; exact own_g0 (Or.inr (Or.inr (Or.inl hc120_617)))) (by rw [own_seqS (own_len2 p2 (0 : Int32)) (own_chr2 p0 p1 p2 (0 : Int32)) (own_len1 p2 (0 : Int32)) (own_ch p0 (0 : Int32)), own_seqS (own_len2 p2 (1 : Int32)) (own_chr2 p0 p1 p2 (1 : Int32)) (own_len1 p2 (1 : Int32)) (own_ch p0 (1 : Int32)), own_seqS (own_len2 p2 (2 : Int32)) (own_chr2 p0 p1 p2 (2 : Int32)) (own_len1 p2 (2 : Int32)) (own_ch p0 (2 : Int32)), own_seqS (own_len2 p2 (3 : Int32)) (own_chr2 p0 p1 p2 (3 : Int32)) (own_len1 p2 (3 : Int32)) (own_ch p0 (3 : Int32)), ← own_se p0 p1 p2 (0 : Int32), ← own_se p0 p1 p2 (1 : Int32), ← own_se p0 p1 p2 (2 : Int32), ← own_se p0 p1 p2 (3 : Int32)]; exact own_g0 (Or.inr (Or.inr (Or.inl hc120_617))))
        · refine Good.back (fun _ k => XS.ifNo X616.here hx rfl (hb hby at_120) rfl ((if0 _ _).trans (feq hc120_617).1) k) ?_
          show Good p e below _ (T616.setTop (mkF m 123 #[.val (.int p0), .val (.int p1), .val (.int p2), .val (.long q3), .second, .val (.long q4), .second, .val (.long am), .second, .val (.ref sr_1), .val (.ref b4), .val (.ref b55), .unset, .unset] []))
          refine Good.back (fun _ k => XS.iloadN X616.here hx rfl (hb hby at_123) rfl k) ?_
          show Good p e below _ (T616.setTop (mkF m 124 #[.val (.int p0), .val (.int p1), .val (.int p2), .val (.long q3), .second, .val (.long q4), .second, .val (.long am), .second, .val (.ref sr_1), .val (.ref b4), .val (.ref b55), .unset, .unset] [(.int p0)]))
          refine Good.back (fun _ k => XS.iloadN X616.here hx rfl (hb hby at_124) rfl k) ?_
          show Good p e below _ (T616.setTop (mkF m 125 #[.val (.int p0), .val (.int p1), .val (.int p2), .val (.long q3), .second, .val (.long q4), .second, .val (.long am), .second, .val (.ref sr_1), .val (.ref b4), .val (.ref b55), .unset, .unset] [(.int p1), (.int p0)]))
          refine Good.back (fun _ k => XS.iloadN X616.here hx rfl (hb hby at_125) rfl k) ?_
          show Good p e below _ (T616.setTop (mkF m 126 #[.val (.int p0), .val (.int p1), .val (.int p2), .val (.long q3), .second, .val (.long q4), .second, .val (.long am), .second, .val (.ref sr_1), .val (.ref b4), .val (.ref b55), .unset, .unset] [(.int p2), (.int p1), (.int p0)]))
          refine Good.back (fun _ k => XS.iconst X616.here hx rfl (hb hby at_126) k) ?_
          show Good p e below _ (T616.setTop (mkF m 127 #[.val (.int p0), .val (.int p1), .val (.int p2), .val (.long q3), .second, .val (.long q4), .second, .val (.long am), .second, .val (.ref sr_1), .val (.ref b4), .val (.ref b55), .unset, .unset] [(.int (3 : Int32)), (.int p2), (.int p1), (.int p0)]))
          obtain ⟨_, _, ⟨T618, L618, k618, n618⟩, -, X618, ⟨Lc618, hQ618, l618, y618, z618⟩, st618⟩ := Jvm.LawKit.callS X616 hx (y := (⟨"com/example/orderd/orderd/order/GameOrderEqualsPinLaw", "same", "(IIII)Z"⟩ : MethodName)) hown83 (mvT hZ83 (hw _ (List.mem_of_getElem? (i := 62) rfl))) (mvT hZ83 (hw _ (List.mem_of_getElem? (i := 63) rfl))) (mvT hZ83 (hw _ (List.mem_of_getElem? (i := 2) rfl))) (mvT hZ83 (hw _ (List.mem_of_getElem? (i := 64) rfl))) (by decide) (backOf (W := 0) (rm12 l Z a0 hw [] p0 p1 p2 (3 : Int32)  T83.heap n0 Z114 ) hZ83 (hw _ (List.mem_of_getElem? (i := 64) rfl)) (hw _ (List.mem_of_getElem? (i := 2) rfl)) (by decide) (by decide)) (g := (mkF m 127 #[.val (.int p0), .val (.int p1), .val (.int p2), .val (.long q3), .second, .val (.long q4), .second, .val (.long am), .second, .val (.ref sr_1), .val (.ref b4), .val (.ref b55), .unset, .unset] [(.int (3 : Int32)), (.int p2), (.int p1), (.int p0)])) rfl (by rw [hml]; rfl) (argsL := [(.int p0), (.int p1), (.int p2), (.int (3 : Int32))]) (rest := []) (lenOf own_pd298 rfl) rfl (by show 2 * 0 + _ ≤ _; exact Nat.le_of_eq rfl) (hb hby at_127) (fun _ _ => ⟨rfl, eh616, (by decide : 34 + 0 ≤ _), (by decide : 282 + 0 ≤ _)⟩)
          dsimp only [Pt.U, Pt.locs, Pt.cells, Pt.slots] at X618 l618 y618 z618 st618 hQ618
          subst l618 y618 z618
          obtain ⟨rfl, N618q, eh618⟩ := hQ618
          have N618 := Fr.app N616 N618q
          refine Good.back st618 ?_
          show Good p e below _ (T618.setTop (mkF m 130 #[.val (.int p0), .val (.int p1), .val (.int p2), .val (.long q3), .second, .val (.long q4), .second, .val (.long am), .second, .val (.ref sr_1), .val (.ref b4), .val (.ref b55), .unset, .unset] [(.int (own_same p0 p1 p2 (3 : Int32)))]))
          by_cases hc130_619 : (own_same p0 p1 p2 (3 : Int32)) = (0 : Int32)
          · refine Good.back (fun _ k => XS.ifYes X618.here hx rfl (pc0 := 130) (pc' := 144) rfl (hb hby at_130) rfl ((if0 _ _).trans (teq hc130_619).1) (by decide) (by decide) k) ?_
            show Good p e below _ (T618.setTop (mkF m 144 #[.val (.int p0), .val (.int p1), .val (.int p2), .val (.long q3), .second, .val (.long q4), .second, .val (.long am), .second, .val (.ref sr_1), .val (.ref b4), .val (.ref b55), .unset, .unset] []))
            refine Good.back (fun _ k => XS.iconst X618.here hx rfl (hb hby at_144) k) ?_
            show Good p e below _ (T618.setTop (mkF m 145 #[.val (.int p0), .val (.int p1), .val (.int p2), .val (.long q3), .second, .val (.long q4), .second, .val (.long am), .second, .val (.ref sr_1), .val (.ref b4), .val (.ref b55), .unset, .unset] [(.int (0 : Int32))]))
            exact key145 (0 : Int32) _ _ X618 N618 eh618 (by rw [← own_se p0 p1 p2 (0 : Int32), ← own_se p0 p1 p2 (1 : Int32), ← own_se p0 p1 p2 (2 : Int32), ← own_se p0 p1 p2 (3 : Int32)]; exact own_g0 (Or.inr (Or.inr (Or.inr (Or.inl hc130_619))))) (by rw [own_seqS (own_len2 p2 (0 : Int32)) (own_chr2 p0 p1 p2 (0 : Int32)) (own_len1 p2 (0 : Int32)) (own_ch p0 (0 : Int32)), own_seqS (own_len2 p2 (1 : Int32)) (own_chr2 p0 p1 p2 (1 : Int32)) (own_len1 p2 (1 : Int32)) (own_ch p0 (1 : Int32)), own_seqS (own_len2 p2 (2 : Int32)) (own_chr2 p0 p1 p2 (2 : Int32)) (own_len1 p2 (2 : Int32)) (own_ch p0 (2 : Int32)), own_seqS (own_len2 p2 (3 : Int32)) (own_chr2 p0 p1 p2 (3 : Int32)) (own_len1 p2 (3 : Int32)) (own_ch p0 (3 : Int32)), ← own_se p0 p1 p2 (0 : Int32), ← own_se p0 p1 p2 (1 : Int32), ← own_se p0 p1 p2 (2 : Int32), ← own_se p0 p1 p2 (3 : Int32)]; exact own_g0 (Or.inr (Or.inr (Or.inr (Or.inl hc130_619)))))
          · refine Good.back (fun _ k => XS.ifNo X618.here hx rfl (hb hby at_130) rfl ((if0 _ _).trans (feq hc130_619).1) k) ?_
            show Good p e below _ (T618.setTop (mkF m 133 #[.val (.int p0), .val (.int p1), .val (.int p2), .val (.long q3), .second, .val (.long q4), .second, .val (.long am), .second, .val (.ref sr_1), .val (.ref b4), .val (.ref b55), .unset, .unset] []))
            refine Good.back (fun _ k => XS.lloadN X618.here hx rfl (hb hby at_133) rfl k) ?_
            show Good p e below _ (T618.setTop (mkF m 134 #[.val (.int p0), .val (.int p1), .val (.int p2), .val (.long q3), .second, .val (.long q4), .second, .val (.long am), .second, .val (.ref sr_1), .val (.ref b4), .val (.ref b55), .unset, .unset] [(.long q3)]))
            refine Good.back (fun _ k => XS.lload X618.here hx rfl (hb hby at_134) rfl k) ?_
            show Good p e below _ (T618.setTop (mkF m 136 #[.val (.int p0), .val (.int p1), .val (.int p2), .val (.long q3), .second, .val (.long q4), .second, .val (.long am), .second, .val (.ref sr_1), .val (.ref b4), .val (.ref b55), .unset, .unset] [(.long am), (.long q3)]))
            refine Good.back (fun _ k => XS.lcmp X618.here hx rfl (hb hby at_136) rfl k) ?_
            show Good p e below _ (T618.setTop (mkF m 137 #[.val (.int p0), .val (.int p1), .val (.int p2), .val (.long q3), .second, .val (.long q4), .second, .val (.long am), .second, .val (.ref sr_1), .val (.ref b4), .val (.ref b55), .unset, .unset] [(.int (lcmpW q3 am))]))
            by_cases hc137_620 : (lcmpW q3 am) = (0 : Int32)
            · refine Good.back (fun _ k => XS.ifNo X618.here hx rfl (hb hby at_137) rfl ((if0 _ _).trans (teq hc137_620).2) k) ?_
              show Good p e below _ (T618.setTop (mkF m 140 #[.val (.int p0), .val (.int p1), .val (.int p2), .val (.long q3), .second, .val (.long q4), .second, .val (.long am), .second, .val (.ref sr_1), .val (.ref b4), .val (.ref b55), .unset, .unset] []))
              refine Good.back (fun _ k => XS.iconst X618.here hx rfl (hb hby at_140) k) ?_
              show Good p e below _ (T618.setTop (mkF m 141 #[.val (.int p0), .val (.int p1), .val (.int p2), .val (.long q3), .second, .val (.long q4), .second, .val (.long am), .second, .val (.ref sr_1), .val (.ref b4), .val (.ref b55), .unset, .unset] [(.int (1 : Int32))]))
              refine Good.back (fun _ k => XS.goto X618.here hx rfl (pc0 := 141) (pc' := 145) rfl (hb hby at_141) (by decide) (by decide) k) ?_
              show Good p e below _ (T618.setTop (mkF m 145 #[.val (.int p0), .val (.int p1), .val (.int p2), .val (.long q3), .second, .val (.long q4), .second, .val (.long am), .second, .val (.ref sr_1), .val (.ref b4), .val (.ref b55), .unset, .unset] [(.int (1 : Int32))]))
              exact key145 (1 : Int32) _ _ X618 N618 eh618 (by rw [← own_se p0 p1 p2 (0 : Int32), ← own_se p0 p1 p2 (1 : Int32), ← own_se p0 p1 p2 (2 : Int32), ← own_se p0 p1 p2 (3 : Int32)]; exact own_g1 hc100_613 hc110_615 hc120_617 hc130_619 hc137_620) (by rw [own_seqS (own_len2 p2 (0 : Int32)) (own_chr2 p0 p1 p2 (0 : Int32)) (own_len1 p2 (0 : Int32)) (own_ch p0 (0 : Int32)), own_seqS (own_len2 p2 (1 : Int32)) (own_chr2 p0 p1 p2 (1 : Int32)) (own_len1 p2 (1 : Int32)) (own_ch p0 (1 : Int32)), own_seqS (own_len2 p2 (2 : Int32)) (own_chr2 p0 p1 p2 (2 : Int32)) (own_len1 p2 (2 : Int32)) (own_ch p0 (2 : Int32)), own_seqS (own_len2 p2 (3 : Int32)) (own_chr2 p0 p1 p2 (3 : Int32)) (own_len1 p2 (3 : Int32)) (own_ch p0 (3 : Int32)), ← own_se p0 p1 p2 (0 : Int32), ← own_se p0 p1 p2 (1 : Int32), ← own_se p0 p1 p2 (2 : Int32), ← own_se p0 p1 p2 (3 : Int32)]; exact own_g1 hc100_613 hc110_615 hc120_617 hc130_619 (own_lcS.mpr hc137_620))
            · refine Good.back (fun _ k => XS.ifYes X618.here hx rfl (pc0 := 137) (pc' := 144) rfl (hb hby at_137) rfl ((if0 _ _).trans (feq hc137_620).2) (by decide) (by decide) k) ?_
              show Good p e below _ (T618.setTop (mkF m 144 #[.val (.int p0), .val (.int p1), .val (.int p2), .val (.long q3), .second, .val (.long q4), .second, .val (.long am), .second, .val (.ref sr_1), .val (.ref b4), .val (.ref b55), .unset, .unset] []))
              refine Good.back (fun _ k => XS.iconst X618.here hx rfl (hb hby at_144) k) ?_
              show Good p e below _ (T618.setTop (mkF m 145 #[.val (.int p0), .val (.int p1), .val (.int p2), .val (.long q3), .second, .val (.long q4), .second, .val (.long am), .second, .val (.ref sr_1), .val (.ref b4), .val (.ref b55), .unset, .unset] [(.int (0 : Int32))]))
              exact key145 (0 : Int32) _ _ X618 N618 eh618 (by rw [← own_se p0 p1 p2 (0 : Int32), ← own_se p0 p1 p2 (1 : Int32), ← own_se p0 p1 p2 (2 : Int32), ← own_se p0 p1 p2 (3 : Int32)]; exact own_g0 (Or.inr (Or.inr (Or.inr (Or.inr hc137_620))))) (by rw [own_seqS (own_len2 p2 (0 : Int32)) (own_chr2 p0 p1 p2 (0 : Int32)) (own_len1 p2 (0 : Int32)) (own_ch p0 (0 : Int32)), own_seqS (own_len2 p2 (1 : Int32)) (own_chr2 p0 p1 p2 (1 : Int32)) (own_len1 p2 (1 : Int32)) (own_ch p0 (1 : Int32)), own_seqS (own_len2 p2 (2 : Int32)) (own_chr2 p0 p1 p2 (2 : Int32)) (own_len1 p2 (2 : Int32)) (own_ch p0 (2 : Int32)), own_seqS (own_len2 p2 (3 : Int32)) (own_chr2 p0 p1 p2 (3 : Int32)) (own_len1 p2 (3 : Int32)) (own_ch p0 (3 : Int32)), ← own_se p0 p1 p2 (0 : Int32), ← own_se p0 p1 p2 (1 : Int32), ← own_se p0 p1 p2 (2 : Int32), ← own_se p0 p1 p2 (3 : Int32)]; exact own_g0 (Or.inr (Or.inr (Or.inr (Or.inr (fun q => hc137_620 (own_lcS.mp q)))))))
  show Good p e below _ (s₁.setTop (mkF m 0 #[.val (.int p0), .val (.int p1), .val (.int p2), .val (.long q3), .second, .val (.long q4), .second, .unset, .unset, .unset, .unset, .unset, .unset, .unset] []))
  refine Good.back (fun _ k => XS.iloadN X0c.here hx rfl (hb hby at_0) rfl k) ?_
  show Good p e below _ (s₁.setTop (mkF m 1 #[.val (.int p0), .val (.int p1), .val (.int p2), .val (.long q3), .second, .val (.long q4), .second, .unset, .unset, .unset, .unset, .unset, .unset, .unset] [(.int p2)]))
  refine Good.back (fun _ k => XS.iconst X0c.here hx rfl (hb hby at_1) k) ?_
  show Good p e below _ (s₁.setTop (mkF m 2 #[.val (.int p0), .val (.int p1), .val (.int p2), .val (.long q3), .second, .val (.long q4), .second, .unset, .unset, .unset, .unset, .unset, .unset, .unset] [(.int (4 : Int32)), (.int p2)]))
  obtain ⟨_, _, ⟨T621, L621, k621, n621⟩, -, X621, ⟨Lc621, hQ621, l621, y621, z621⟩, st621⟩ := Jvm.LawKit.callS X0c hx (y := (⟨"com/example/orderd/orderd/order/GameOrderEqualsPinLaw", "drawn", "(II)Z"⟩ : MethodName)) hown0 (mvT hZ0 (hw _ (List.mem_of_getElem? (i := 0) rfl))) (mvT hZ0 (hw _ (List.mem_of_getElem? (i := 1) rfl))) (mvT hZ0 (hw _ (List.mem_of_getElem? (i := 2) rfl))) (mvT hZ0 (hw _ (List.mem_of_getElem? (i := 3) rfl))) (by decide) (backOf (W := 0) (rm1 l Z a0 hw [] p2 (4 : Int32)  h0 n0 Z0 ) hZ0 (hw _ (List.mem_of_getElem? (i := 3) rfl)) (hw _ (List.mem_of_getElem? (i := 2) rfl)) (by decide) (by decide)) (g := (mkF m 2 #[.val (.int p0), .val (.int p1), .val (.int p2), .val (.long q3), .second, .val (.long q4), .second, .unset, .unset, .unset, .unset, .unset, .unset, .unset] [(.int (4 : Int32)), (.int p2)])) rfl (by rw [hml]; rfl) (argsL := [(.int p2), (.int (4 : Int32))]) (rest := []) (lenOf own_pd31 rfl) rfl (by show 2 * 0 + _ ≤ _; exact Nat.le_of_eq rfl) (hb hby at_2) (fun _ _ => ⟨rfl, e0, (by decide : 0 + 0 ≤ _), (by decide : 0 + 0 ≤ _)⟩)
  dsimp only [Pt.U, Pt.locs, Pt.cells, Pt.slots] at X621 l621 y621 z621 st621 hQ621
  subst l621 y621 z621
  obtain ⟨rfl, N621q, eh621⟩ := hQ621
  have N621 := Fr.app N0 N621q
  refine Good.back st621 ?_
  show Good p e below _ (T621.setTop (mkF m 5 #[.val (.int p0), .val (.int p1), .val (.int p2), .val (.long q3), .second, .val (.long q4), .second, .unset, .unset, .unset, .unset, .unset, .unset, .unset] [(.int (own_drawn p2 (4 : Int32)))]))
  by_cases hc5_622 : (own_drawn p2 (4 : Int32)) = (0 : Int32)
  · refine Good.back (fun _ k => XS.ifYes X621.here hx rfl (pc0 := 5) (pc' := 13) rfl (hb hby at_5) rfl ((if0 _ _).trans (teq hc5_622).1) (by decide) (by decide) k) ?_
    show Good p e below _ (T621.setTop (mkF m 13 #[.val (.int p0), .val (.int p1), .val (.int p2), .val (.long q3), .second, .val (.long q4), .second, .unset, .unset, .unset, .unset, .unset, .unset, .unset] []))
    refine Good.back (fun _ k => XS.lloadN X621.here hx rfl (hb hby at_13) rfl k) ?_
    show Good p e below _ (T621.setTop (mkF m 14 #[.val (.int p0), .val (.int p1), .val (.int p2), .val (.long q3), .second, .val (.long q4), .second, .unset, .unset, .unset, .unset, .unset, .unset, .unset] [(.long q3)]))
    exact key14 q3 _ _ X621 N621 eh621 
  · refine Good.back (fun _ k => XS.ifNo X621.here hx rfl (hb hby at_5) rfl ((if0 _ _).trans (feq hc5_622).1) k) ?_
    show Good p e below _ (T621.setTop (mkF m 8 #[.val (.int p0), .val (.int p1), .val (.int p2), .val (.long q3), .second, .val (.long q4), .second, .unset, .unset, .unset, .unset, .unset, .unset, .unset] []))
    refine Good.back (fun _ k => XS.lload X621.here hx rfl (hb hby at_8) rfl k) ?_
    show Good p e below _ (T621.setTop (mkF m 10 #[.val (.int p0), .val (.int p1), .val (.int p2), .val (.long q3), .second, .val (.long q4), .second, .unset, .unset, .unset, .unset, .unset, .unset, .unset] [(.long q4)]))
    refine Good.back (fun _ k => XS.goto X621.here hx rfl (pc0 := 10) (pc' := 14) rfl (hb hby at_10) (by decide) (by decide) k) ?_
    show Good p e below _ (T621.setTop (mkF m 14 #[.val (.int p0), .val (.int p1), .val (.int p2), .val (.long q3), .second, .val (.long q4), .second, .unset, .unset, .unset, .unset, .unset, .unset, .unset] [(.long q4)]))
    exact key14 q4 _ _ X621 N621 eh621 
theorem own_allS {P : String × Nat → Prop} {x : String × Nat} {L : List (String × Nat)} (n : P x) (r : ∀ y ∈ L, P y) : ∀ y ∈ x :: L, P y := fun y q => by
  rcases List.mem_cons.mp q with rfl | q
  · exact n
  · exact r y q
set_option maxRecDepth 65536 in
set_option maxHeartbeats 40000000 in
theorem comes_1 {Post : Tables → Env → Array Value → State → Outcome → State → Prop} (hpost : ∀ tb e args s v u, (limb_1_1.after args s (.returned v) u = true ∧ limb_1_2.after args s (.returned v) u = true ∧ True) → ReturnedEndW s (.returned v) u (Jvm.fieldLocs frame_1_writes args s ++ Jvm.arrayLocs frame_1_arrays args s ++ Jvm.staticLocs frame_1_statics s) 56 5312 → Post tb e args s (.returned v) u) :
    ArmFor flags0 classFile x code maxLocals ret World_1 tables_1 room_1 Calls_1 rest_1 Pre_1 Post := by
  intro l hfl _ _ p e ha hc hk s m args below hf hA hF happ hP
  obtain ⟨hcalls, hrest, hpre⟩ := hP
  obtain ⟨-, -, -, hnamed, -, -, -, hat⟩ := (Spec.applies_iff hf).mp happ
  obtain ⟨hg, hn⟩ := and_e (Cond.before_iff.mp (show (Jvm.Cond.and given_1 narrow_1).before args s = true from hpre))
  obtain ⟨g1, g2⟩ := and_e hg
  obtain ⟨g3, g4⟩ := and_e g2
  obtain ⟨g5, g6⟩ := and_e g4
  obtain ⟨g7, g8⟩ := and_e g6
  obtain ⟨g9, g10⟩ := and_e g8
  obtain ⟨w0, w1, w2, w3, w4, rfl⟩ : ∃ w0 w1 w2 w3 w4 : Value, args = #[w0, w1, w2, w3, w4] := by
    have hs : args.size = 5 := by simpa [Cond.value, given_1] using g1
    obtain ⟨L⟩ := args
    match L, hs with
    | [w0, w1, w2, w3, w4], _ => exact ⟨w0, w1, w2, w3, w4, rfl⟩
  have hw := fun d (hd : d ∈ tables_1) => atoms_spec (ws := Jvm.Cond.code x code maxLocals ret :: tables_1) hat d (List.mem_cons_of_mem _ hd)
  have hfit : Fit s := fun {y c} hc i hi => by
    obtain ⟨ha, rfl⟩ := Array.getElem?_eq_some_iff.mp hc
    have q := List.all_eq_true.mp ((Array.all_eq_true_iff_forall_mem.mp hF) _ (Array.getElem_mem ha)) i (List.mem_range.mpr hi)
    simpa [Array.getElem?_eq_getElem hi] using q
  obtain ⟨hsets, hown0⟩ := atoms_of _ (rest_1_c_eq ▸ (show rest_1_c.before _ s = true from hrest))
  have hr0 := Cond.before_iff.mp hown0
  obtain ⟨i0, ei0⟩ := is_v g3
  obtain rfl : w0 = (.int i0) := Option.some.inj ei0
  obtain ⟨i1, ei1⟩ := is_v g5
  obtain rfl : w1 = (.int i1) := Option.some.inj ei1
  obtain ⟨i2, ei2⟩ := is_v g7
  obtain rfl : w2 = (.int i2) := Option.some.inj ei2
  obtain ⟨i3, ei3⟩ := isL_v g9
  obtain rfl : w3 = (.long i3) := Option.some.inj ei3
  obtain ⟨i4, ei4⟩ := isL_v g10
  obtain rfl : w4 = (.long i4) := Option.some.inj ei4
  have qcs1 := Cond.before_iff.mp (hsets _ (List.mem_of_getElem? (i := 1) rfl))
  obtain ⟨cs, ecs⟩ := is_v qcs1
  have qcs2 := not_v (Cond.before_iff.mp (hsets _ (List.mem_of_getElem? (i := 2) rfl)))
  have hcs : ¬ (cs = (0 : Int32)) := own_neI qcs2 ecs
  have S_cs : Sta s s.heap "java/lang/String" "COMPACT_STRINGS" "Z" (.int cs) := Sta.start ecs (Or.inl (hsets _ (List.mem_of_getElem? (i := 0) rfl)))
  obtain ⟨n, o, h1, h2, h3, _, L, rfl, ⟨rfl, N⟩, -, hq⟩ := rm0 l s _ hw tables_1 i0 i1 i2 i3 i4 cs s.heap s.heap.size (Nat.le_refl _) S_cs hcs p e ha hc hk s m _ below hf ((Spec.applies_iff_loose hf).mp happ).1 ⟨rfl, State.Warmed39.refl s, rfl, CHv.start (own_EW hw) (own_allS (hcalls.1 _ (List.mem_of_getElem? (i := 4) rfl)) (fun _ q => nomatch q)) (hsets _ (List.mem_of_getElem? (i := 2) rfl)) (hw _ (List.mem_of_getElem? (i := 19) rfl)) (hw _ (List.mem_of_getElem? (i := 18) rfl))⟩ trivial
  refine ⟨n, _, h1, h2, h3, hpost _ _ _ _ _ _ ⟨Cond.after_iff.mpr rfl, Cond.after_iff.mpr (eq_i res_at (Term.int_eval (1)) rfl), trivial⟩ ⟨hq.1, hq.2.1, hq.2.2.1, (hq.2.2.2.sift fun y hy => Or.inr (N y hy)).mono (by decide) (by decide)⟩⟩
theorem main_1_1 : Claimed_1_1 := comes_1 fun _ _ _ _ _ _ h hF => ⟨h.1, hF⟩
theorem main_1_2 : Claimed_1_2 := comes_1 fun _ _ _ _ _ _ h hF => ⟨h.2.1, hF⟩
end Jvm.Pilot.@@N@@
namespace Jvm.Pilot.@@N@@
open Jvm Jvm.ClassFile Sem Op Lib Jvm.Free Jvm.Stand Jvm.Pilot.@@N@@.Jvm.D
/-! MADE BY PROGRAM (witnessworld.py) out of the Statement's table words and the real class files: 18 classes; the members and pool entries that the words name. The judged class is class 1, her method 10. -/
namespace start1
open Jvm.ClassFile
def u (s : String) : CpInfo := .utf8 (stringToUtf16 s)
/-- a pool by its gaps: so many unusable entries, then the entry; so many at the end -/
def gap : Nat → List CpInfo → List CpInfo
  | 0, r => r
  | n + 1, r => .unusable :: gap n r
def poolList (es : List (Nat × CpInfo)) (last : Nat) : List CpInfo := es.foldr (fun e r => gap e.1 (e.2 :: r)) (gap last [])
def pool (es : List (Nat × CpInfo)) (last : Nat) : Array CpInfo := ⟨poolList es last⟩
def fileOf (pool : Array CpInfo) (this : Nat) (attrs : Array Attribute := #[]) (ms : Array MethodInfo := #[]) (fl : Nat := 33) (sup : Nat := 0) (ifs : Array Nat := #[]) (fds : Array FieldInfo := #[]) : ClassFile where
  minorVersion := 0
  majorVersion := 65
  constantPool := pool
  accessFlags := fl
  thisClass := this
  superClass := sup
  interfaces := ifs
  fields := fds
  methods := ms
  attributes := attrs
def plain (name : String) (sup : Option ClassId) : Class where
  name := name
  kind := .ordinary
  loader := none
  accessFlags := 33
  super := sup
  interfaces := #[]
  cf := none
  fields := #[]
  methods := #[]
  instanceTypes := #[]
  staticTypes := #[]
  resolved := #[]
  callSites := []
  init := .initialized
  statics := none
  mirror := none

def pool0 : Array CpInfo := pool [(5, u "<init>"), (0, u "()V"), (1, .class_ 10), (1, u "java/lang/Object")] 113

def k0c0 : Code := { maxStack := 0, maxLocals := 1, code := object_method_1_code, exceptionTable := #[], attributes := #[] }
def k0m0 : Method := { name := "<init>", desc := "()V", sig := { parameters := [], returnType := none }, accessFlags := 1, code := some k0c0 }
/-- java/lang/Object -/
def k0 : Class := { plain "java/lang/Object" none with
  accessFlags := 33
  interfaces := #[]
  cf := some (fileOf pool0 8 #[] #[{ accessFlags := 1, nameIndex := 5, descriptorIndex := 6, attributes := #[] }] 33 0 #[] #[])
  fields := #[]
  methods := #[k0m0]
  instanceTypes := #[]
  staticTypes := #[]
  resolved := Array.replicate 124 none
  statics := none }

def pool1 : Array CpInfo := pool [(2, .class_ 4), (1, u "java/lang/Object"), (0, u "<init>"), (0, u "()V"), (0, .string 8), (0, u ""), (0, .methodref 10 11), (0, .class_ 12), (0, .nameAndType 13 14), (0, u "java/lang/String"), (0, u "valueOf"), (0, u "(C)Ljava/lang/String;"), (0, .methodref 16 17), (0, .class_ 18), (0, .nameAndType 19 20), (0, u "com/example/orderd/orderd/order/GameOrderEqualsPinLaw"), (0, u "drawn"), (0, u "(II)Z"), (0, .methodref 16 22), (0, .nameAndType 23 20), (0, u "len1"), (0, .methodref 16 25), (0, .nameAndType 26 27), (0, u "ch"), (0, u "(II)C"), (0, .methodref 16 29), (0, .nameAndType 30 31), (0, u "str"), (0, u "(ZC)Ljava/lang/String;"), (0, .methodref 16 33), (0, .nameAndType 34 20), (0, u "len2"), (0, .methodref 16 36), (0, .nameAndType 37 38), (0, u "chr2"), (0, u "(IIII)C"), (0, .methodref 16 40), (0, .nameAndType 41 42), (0, u "first"), (0, u "(III)Ljava/lang/String;"), (0, .class_ 44), (0, u "com/example/orderd/orderd/order/GameOrder"), (0, .methodref 43 46), (0, .nameAndType 5 47), (0, u "(Ljava/lang/String;Ljava/lang/String;JLjava/lang/String;Ljava/lang/String;)V"), (0, .methodref 16 49), (0, .nameAndType 50 51), (0, u "second"), (0, u "(IIII)Ljava/lang/String;"), (0, .methodref 16 53), (0, .nameAndType 54 55), (0, u "same"), (0, u "(IIII)Z"), (0, .methodref 43 57), (0, .nameAndType 58 59), (0, u "equals"), (0, u "(Ljava/lang/Object;)Z"), (3, u "law"), (0, u "(IIIJJ)Z")] 2

def k1m0 : Method := { name := "<init>", desc := "()V", sig := { parameters := [], returnType := none }, accessFlags := 1, code := none }
def k1c1 : Code := { maxStack := 3, maxLocals := 2, code := method_2_code, exceptionTable := #[], attributes := #[] }
def k1m1 : Method := { name := "ch", desc := "(II)C", sig := { parameters := [.int, .int], returnType := some .char }, accessFlags := 10, code := some k1c1 }
def k1c2 : Code := { maxStack := 1, maxLocals := 2, code := method_3_code, exceptionTable := #[], attributes := #[] }
def k1m2 : Method := { name := "str", desc := "(ZC)Ljava/lang/String;", sig := { parameters := [.boolean, .char], returnType := some (.object "java/lang/String") }, accessFlags := 10, code := some k1c2 }
def k1c3 : Code := { maxStack := 2, maxLocals := 2, code := method_4_code, exceptionTable := #[], attributes := #[] }
def k1m3 : Method := { name := "drawn", desc := "(II)Z", sig := { parameters := [.int, .int], returnType := some .boolean }, accessFlags := 10, code := some k1c3 }
def k1c4 : Code := { maxStack := 3, maxLocals := 2, code := method_5_code, exceptionTable := #[], attributes := #[] }
def k1m4 : Method := { name := "len1", desc := "(II)Z", sig := { parameters := [.int, .int], returnType := some .boolean }, accessFlags := 10, code := some k1c4 }
def k1c5 : Code := { maxStack := 3, maxLocals := 2, code := method_6_code, exceptionTable := #[], attributes := #[] }
def k1m5 : Method := { name := "len2", desc := "(II)Z", sig := { parameters := [.int, .int], returnType := some .boolean }, accessFlags := 10, code := some k1c5 }
def k1c6 : Code := { maxStack := 2, maxLocals := 4, code := method_7_code, exceptionTable := #[], attributes := #[] }
def k1m6 : Method := { name := "chr2", desc := "(IIII)C", sig := { parameters := [.int, .int, .int, .int], returnType := some .char }, accessFlags := 10, code := some k1c6 }
def k1c7 : Code := { maxStack := 3, maxLocals := 3, code := method_8_code, exceptionTable := #[], attributes := #[] }
def k1m7 : Method := { name := "first", desc := "(III)Ljava/lang/String;", sig := { parameters := [.int, .int, .int], returnType := some (.object "java/lang/String") }, accessFlags := 10, code := some k1c7 }
def k1c8 : Code := { maxStack := 5, maxLocals := 4, code := method_9_code, exceptionTable := #[], attributes := #[] }
def k1m8 : Method := { name := "second", desc := "(IIII)Ljava/lang/String;", sig := { parameters := [.int, .int, .int, .int], returnType := some (.object "java/lang/String") }, accessFlags := 10, code := some k1c8 }
def k1c9 : Code := { maxStack := 5, maxLocals := 6, code := method_10_code, exceptionTable := #[], attributes := #[] }
def k1m9 : Method := { name := "same", desc := "(IIII)Z", sig := { parameters := [.int, .int, .int, .int], returnType := some .boolean }, accessFlags := 10, code := some k1c9 }
def k1c10 : Code := { maxStack := 11, maxLocals := 14, code := code, exceptionTable := #[], attributes := #[] }
def k1m10 : Method := { name := "law", desc := "(IIIJJ)Z", sig := { parameters := [.int, .int, .int, .long, .long], returnType := some .boolean }, accessFlags := 9, code := some k1c10 }
/-- com/example/orderd/orderd/order/GameOrderEqualsPinLaw -/
def k1 : Class := { plain "com/example/orderd/orderd/order/GameOrderEqualsPinLaw" (some 0) with
  accessFlags := 49
  interfaces := #[]
  cf := some (fileOf pool1 16 #[] #[{ accessFlags := 1, nameIndex := 5, descriptorIndex := 6, attributes := #[] }, { accessFlags := 10, nameIndex := 26, descriptorIndex := 27, attributes := #[] }, { accessFlags := 10, nameIndex := 30, descriptorIndex := 31, attributes := #[] }, { accessFlags := 10, nameIndex := 19, descriptorIndex := 20, attributes := #[] }, { accessFlags := 10, nameIndex := 23, descriptorIndex := 20, attributes := #[] }, { accessFlags := 10, nameIndex := 34, descriptorIndex := 20, attributes := #[] }, { accessFlags := 10, nameIndex := 37, descriptorIndex := 38, attributes := #[] }, { accessFlags := 10, nameIndex := 41, descriptorIndex := 42, attributes := #[] }, { accessFlags := 10, nameIndex := 50, descriptorIndex := 51, attributes := #[] }, { accessFlags := 10, nameIndex := 54, descriptorIndex := 55, attributes := #[] }, { accessFlags := 9, nameIndex := 63, descriptorIndex := 64, attributes := #[] }] 49 2 #[] #[])
  fields := #[]
  methods := #[k1m0, k1m1, k1m2, k1m3, k1m4, k1m5, k1m6, k1m7, k1m8, k1m9, k1m10]
  instanceTypes := #[]
  staticTypes := #[]
  resolved := Array.replicate 67 none
  statics := none }

def pool2 : Array CpInfo := pool [(1, .class_ 2), (0, u "java/io/Serializable"), (0, .class_ 4), (0, u "java/lang/Object")] 2

/-- java/io/Serializable -/
def k2 : Class := { plain "java/io/Serializable" (some 0) with
  accessFlags := 1537
  interfaces := #[]
  cf := some (fileOf pool2 1 #[] #[] 1537 3 #[] #[])
  fields := #[]
  methods := #[]
  instanceTypes := #[]
  staticTypes := #[]
  resolved := Array.replicate 7 none
  statics := none }

def pool3 : Array CpInfo := pool [(1, .class_ 2), (0, u "java/lang/Comparable"), (0, .class_ 4), (0, u "java/lang/Object")] 7

/-- java/lang/Comparable -/
def k3 : Class := { plain "java/lang/Comparable" (some 0) with
  accessFlags := 1537
  interfaces := #[]
  cf := some (fileOf pool3 1 #[] #[] 1537 3 #[] #[])
  fields := #[]
  methods := #[]
  instanceTypes := #[]
  staticTypes := #[]
  resolved := Array.replicate 12 none
  statics := none }

def pool4 : Array CpInfo := pool [(2, .class_ 4), (1, u "java/lang/CharSequence"), (42, .class_ 48), (0, u "java/lang/CharSequence$1CodePointIterator"), (10, .class_ 60), (0, u "java/lang/CharSequence$1CharIterator"), (5, .class_ 67), (0, u "java/lang/Object")] 63

/-- java/lang/CharSequence -/
def k4 : Class := { plain "java/lang/CharSequence" (some 0) with
  accessFlags := 1537
  interfaces := #[]
  cf := some (fileOf pool4 2 #[.nestMembers #[47, 59]] #[] 1537 66 #[] #[])
  fields := #[]
  methods := #[]
  instanceTypes := #[]
  staticTypes := #[]
  resolved := Array.replicate 131 none
  statics := none }

def pool5 : Array CpInfo := pool [(1, .class_ 2), (0, u "java/lang/constant/Constable"), (0, .class_ 4), (0, u "java/lang/Object")] 6

/-- java/lang/constant/Constable -/
def k5 : Class := { plain "java/lang/constant/Constable" (some 0) with
  accessFlags := 1537
  interfaces := #[]
  cf := some (fileOf pool5 1 #[] #[] 1537 3 #[] #[])
  fields := #[]
  methods := #[]
  instanceTypes := #[]
  staticTypes := #[]
  resolved := Array.replicate 11 none
  statics := none }

def pool6 : Array CpInfo := pool [(1, .class_ 2), (0, u "java/lang/constant/ConstantDesc"), (0, .class_ 4), (0, u "java/lang/Object")] 32

/-- java/lang/constant/ConstantDesc -/
def k6 : Class := { plain "java/lang/constant/ConstantDesc" (some 0) with
  accessFlags := 1537
  interfaces := #[]
  cf := some (fileOf pool6 1 #[] #[] 1537 3 #[] #[])
  fields := #[]
  methods := #[]
  instanceTypes := #[]
  staticTypes := #[]
  resolved := Array.replicate 37 none
  statics := none }

def pool7 : Array CpInfo := pool [(1, .methodref 2 3), (0, .class_ 4), (0, .nameAndType 5 6), (0, u "java/lang/Object"), (0, u "<init>"), (0, u "()V"), (2, .fieldref 10 11), (0, .class_ 12), (0, .nameAndType 13 14), (0, u "java/lang/String"), (0, u "value"), (0, u "[B"), (0, .fieldref 10 16), (0, .nameAndType 17 18), (0, u "coder"), (0, u "B"), (2, u "hash"), (0, u "I"), (2, u "hashIsZero"), (0, u "Z"), (11, .fieldref 10 39), (0, .nameAndType 40 26), (0, u "COMPACT_STRINGS"), (12, u "toBytes"), (53, .class_ 109), (1, u "java/lang/StringLatin1"), (99, .methodref 10 210), (0, .nameAndType 5 211), (0, u "([BB)V"), (157, u "(C)Z"), (171, .methodref 107 542), (0, .nameAndType 543 544), (0, u "equals"), (0, u "([B[B)Z"), (28, u "(Ljava/lang/Object;)Z"), (1, .class_ 576), (0, u "java/lang/CharSequence"), (22, u "CASE_INSENSITIVE_ORDER"), (0, u "Ljava/util/Comparator;"), (181, u "valueOf"), (0, u "(C)Ljava/lang/String;"), (231, .methodref 107 1016), (0, .nameAndType 1017 369), (0, u "canEncode"), (0, .methodref 107 1019), (0, .nameAndType 53 1020), (0, u "(C)[B"), (80, u "serialPersistentFields"), (0, u "[Ljava/io/ObjectStreamField;"), (0, .class_ 1104), (0, u "java/lang/String$CaseInsensitiveComparator"), (1, .class_ 1107), (0, u "java/io/Serializable"), (0, .class_ 1109), (0, u "java/lang/Comparable"), (0, .class_ 1111), (0, u "java/lang/constant/Constable"), (0, .class_ 1113), (0, u "java/lang/constant/ConstantDesc"), (2, u "serialVersionUID"), (0, u "J"), (3, u "REPL"), (0, u "C"), (2, u "LATIN1"), (1, u "UTF16")] 323

def k7m0 : Method := { name := "<init>", desc := "()V", sig := { parameters := [], returnType := none }, accessFlags := 1, code := none }
def k7c1 : Code := { maxStack := 2, maxLocals := 3, code := jdk_42_method_66_code, exceptionTable := #[], attributes := #[] }
def k7m1 : Method := { name := "equals", desc := "(Ljava/lang/Object;)Z", sig := { parameters := [(.object "java/lang/Object")], returnType := some .boolean }, accessFlags := 1, code := some k7c1 }
def k7c2 : Code := { maxStack := 4, maxLocals := 1, code := jdk_42_method_139_code, exceptionTable := #[], attributes := #[] }
def k7m2 : Method := { name := "valueOf", desc := "(C)Ljava/lang/String;", sig := { parameters := [.char], returnType := some (.object "java/lang/String") }, accessFlags := 9, code := some k7c2 }
def k7c3 : Code := { maxStack := 2, maxLocals := 3, code := jdk_42_method_151_code, exceptionTable := #[], attributes := #[] }
def k7m3 : Method := { name := "<init>", desc := "([BB)V", sig := { parameters := [(.array .byte), .byte], returnType := none }, accessFlags := 0, code := some k7c3 }
/-- java/lang/String -/
def k7 : Class := { plain "java/lang/String" (some 0) with
  accessFlags := 49
  interfaces := #[2, 3, 4, 5, 6]
  cf := some (fileOf pool7 10 #[.nestMembers #[1103]] #[{ accessFlags := 1, nameIndex := 5, descriptorIndex := 6, attributes := #[] }, { accessFlags := 1, nameIndex := 543, descriptorIndex := 573, attributes := #[] }, { accessFlags := 9, nameIndex := 782, descriptorIndex := 783, attributes := #[] }, { accessFlags := 0, nameIndex := 5, descriptorIndex := 211, attributes := #[] }] 49 2 #[1106, 1108, 575, 1110, 1112] #[{ accessFlags := 18, nameIndex := 13, descriptorIndex := 14, attributes := #[] }, { accessFlags := 18, nameIndex := 17, descriptorIndex := 18, attributes := #[] }, { accessFlags := 2, nameIndex := 21, descriptorIndex := 22, attributes := #[] }, { accessFlags := 2, nameIndex := 25, descriptorIndex := 26, attributes := #[] }, { accessFlags := 26, nameIndex := 1116, descriptorIndex := 1117, attributes := #[] }, { accessFlags := 24, nameIndex := 40, descriptorIndex := 26, attributes := #[] }, { accessFlags := 26, nameIndex := 1101, descriptorIndex := 1102, attributes := #[] }, { accessFlags := 26, nameIndex := 1121, descriptorIndex := 1122, attributes := #[] }, { accessFlags := 25, nameIndex := 599, descriptorIndex := 600, attributes := #[] }, { accessFlags := 24, nameIndex := 1125, descriptorIndex := 18, attributes := #[] }, { accessFlags := 24, nameIndex := 1127, descriptorIndex := 18, attributes := #[] }])
  fields := #[{ name := "value", type := (.array .byte), accessFlags := 18, slot := 0, constantValue := 0 }, { name := "coder", type := .byte, accessFlags := 18, slot := 1, constantValue := 0 }, { name := "hash", type := .int, accessFlags := 2, slot := 2, constantValue := 0 }, { name := "hashIsZero", type := .boolean, accessFlags := 2, slot := 3, constantValue := 0 }, { name := "serialVersionUID", type := .long, accessFlags := 26, slot := 0, constantValue := 0 }, { name := "COMPACT_STRINGS", type := .boolean, accessFlags := 24, slot := 1, constantValue := 0 }, { name := "serialPersistentFields", type := (.array (.object "java/io/ObjectStreamField")), accessFlags := 26, slot := 2, constantValue := 0 }, { name := "REPL", type := .char, accessFlags := 26, slot := 3, constantValue := 0 }, { name := "CASE_INSENSITIVE_ORDER", type := (.object "java/util/Comparator"), accessFlags := 25, slot := 4, constantValue := 0 }, { name := "LATIN1", type := .byte, accessFlags := 24, slot := 5, constantValue := 0 }, { name := "UTF16", type := .byte, accessFlags := 24, slot := 6, constantValue := 0 }]
  methods := #[k7m0, k7m1, k7m2, k7m3]
  instanceTypes := #[(.array .byte), .byte, .int, .boolean]
  staticTypes := #[.long, .boolean, (.array (.object "java/io/ObjectStreamField")), .char, (.object "java/util/Comparator"), .byte, .byte]
  resolved := Array.replicate 1451 none
  statics := some 0 }

def pool8 : Array CpInfo := pool [(1, .methodref 2 3), (0, .class_ 4), (0, .nameAndType 5 6), (0, u "java/lang/Object"), (0, u "<init>"), (0, u "()V"), (0, .string 8), (0, u "number"), (0, .methodref 10 11), (0, .class_ 12), (0, .nameAndType 13 14), (0, u "java/util/Objects"), (0, u "requireNonNull"), (0, u "(Ljava/lang/Object;Ljava/lang/String;)Ljava/lang/Object;"), (0, .class_ 16), (0, u "java/lang/String"), (0, .fieldref 18 19), (0, .class_ 20), (0, .nameAndType 8 21), (0, u "com/example/orderd/orderd/order/GameOrder"), (0, u "Ljava/lang/String;"), (0, .string 23), (0, u "product"), (0, .fieldref 18 25), (0, .nameAndType 23 21), (0, .fieldref 18 27), (0, .nameAndType 28 29), (0, u "amount"), (0, u "J"), (0, .string 31), (0, u "currency"), (0, .fieldref 18 33), (0, .nameAndType 31 21), (0, .string 35), (0, u "role"), (0, .fieldref 18 37), (0, .nameAndType 35 21), (5, .methodref 15 44), (0, .nameAndType 45 46), (0, u "equals"), (0, u "(Ljava/lang/Object;)Z"), (18, u "(Ljava/lang/String;Ljava/lang/String;JLjava/lang/String;Ljava/lang/String;)V")] 9

def k8c0 : Code := { maxStack := 3, maxLocals := 7, code := prog_21_method_1_code, exceptionTable := #[], attributes := #[] }
def k8m0 : Method := { name := "<init>", desc := "(Ljava/lang/String;Ljava/lang/String;JLjava/lang/String;Ljava/lang/String;)V", sig := { parameters := [(.object "java/lang/String"), (.object "java/lang/String"), .long, (.object "java/lang/String"), (.object "java/lang/String")], returnType := none }, accessFlags := 1, code := some k8c0 }
def k8c1 : Code := { maxStack := 4, maxLocals := 3, code := prog_21_method_8_code, exceptionTable := #[], attributes := #[] }
def k8m1 : Method := { name := "equals", desc := "(Ljava/lang/Object;)Z", sig := { parameters := [(.object "java/lang/Object")], returnType := some .boolean }, accessFlags := 1, code := some k8c1 }
/-- com/example/orderd/orderd/order/GameOrder -/
def k8 : Class := { plain "com/example/orderd/orderd/order/GameOrder" (some 0) with
  accessFlags := 33
  interfaces := #[]
  cf := some (fileOf pool8 18 #[] #[{ accessFlags := 1, nameIndex := 5, descriptorIndex := 65, attributes := #[] }, { accessFlags := 1, nameIndex := 45, descriptorIndex := 46, attributes := #[] }] 33 2 #[] #[{ accessFlags := 18, nameIndex := 8, descriptorIndex := 21, attributes := #[] }, { accessFlags := 18, nameIndex := 23, descriptorIndex := 21, attributes := #[] }, { accessFlags := 18, nameIndex := 28, descriptorIndex := 29, attributes := #[] }, { accessFlags := 18, nameIndex := 31, descriptorIndex := 21, attributes := #[] }, { accessFlags := 18, nameIndex := 35, descriptorIndex := 21, attributes := #[] }])
  fields := #[{ name := "number", type := (.object "java/lang/String"), accessFlags := 18, slot := 0, constantValue := 0 }, { name := "product", type := (.object "java/lang/String"), accessFlags := 18, slot := 1, constantValue := 0 }, { name := "amount", type := .long, accessFlags := 18, slot := 2, constantValue := 0 }, { name := "currency", type := (.object "java/lang/String"), accessFlags := 18, slot := 3, constantValue := 0 }, { name := "role", type := (.object "java/lang/String"), accessFlags := 18, slot := 4, constantValue := 0 }]
  methods := #[k8m0, k8m1]
  instanceTypes := #[(.object "java/lang/String"), (.object "java/lang/String"), .long, (.object "java/lang/String"), (.object "java/lang/String")]
  staticTypes := #[]
  resolved := Array.replicate 75 none
  statics := none }

def pool9 : Array CpInfo := pool [(2, .class_ 4), (1, u "java/lang/Object"), (0, u "<init>"), (0, u "()V"), (35, .class_ 44), (1, u "java/util/Objects"), (0, u "requireNonNull"), (48, u "(Ljava/lang/Object;Ljava/lang/String;)Ljava/lang/Object;")] 89

def k9m0 : Method := { name := "<init>", desc := "()V", sig := { parameters := [], returnType := none }, accessFlags := 2, code := none }
def k9c1 : Code := { maxStack := 3, maxLocals := 2, code := jdk_31_method_11_code, exceptionTable := #[], attributes := #[] }
def k9m1 : Method := { name := "requireNonNull", desc := "(Ljava/lang/Object;Ljava/lang/String;)Ljava/lang/Object;", sig := { parameters := [(.object "java/lang/Object"), (.object "java/lang/String")], returnType := some (.object "java/lang/Object") }, accessFlags := 9, code := some k9c1 }
/-- java/util/Objects -/
def k9 : Class := { plain "java/util/Objects" (some 0) with
  accessFlags := 49
  interfaces := #[]
  cf := some (fileOf pool9 42 #[] #[{ accessFlags := 2, nameIndex := 5, descriptorIndex := 6, attributes := #[] }, { accessFlags := 9, nameIndex := 45, descriptorIndex := 94, attributes := #[] }] 49 2 #[] #[])
  fields := #[]
  methods := #[k9m0, k9m1]
  instanceTypes := #[]
  staticTypes := #[]
  resolved := Array.replicate 184 none
  statics := none }

def pool10 : Array CpInfo := pool [(4, .class_ 6), (1, u "java/lang/Object"), (0, u "<init>"), (0, u "()V"), (5, .class_ 16), (1, u "java/lang/StringLatin1"), (73, u "canEncode"), (14, u "(C)Z"), (15, u "$assertionsDisabled"), (0, u "Z"), (98, .class_ 223), (1, u "java/lang/StringLatin1$LinesSpliterator"), (57, u "equals"), (0, u "([B[B)Z"), (97, u "toBytes"), (1, u "(C)[B"), (7, .class_ 391), (0, u "java/lang/StringLatin1$CharsSpliterator")] 3

def k10m0 : Method := { name := "<init>", desc := "()V", sig := { parameters := [], returnType := none }, accessFlags := 0, code := none }
def k10c1 : Code := { maxStack := 2, maxLocals := 1, code := jdk_43_method_3_code, exceptionTable := #[], attributes := #[] }
def k10m1 : Method := { name := "canEncode", desc := "(C)Z", sig := { parameters := [.char], returnType := some .boolean }, accessFlags := 9, code := some k10c1 }
def k10c2 : Code := { maxStack := 3, maxLocals := 3, code := jdk_43_method_13_code, exceptionTable := #[], attributes := #[] }
def k10m2 : Method := { name := "equals", desc := "([B[B)Z", sig := { parameters := [(.array .byte), (.array .byte)], returnType := some .boolean }, accessFlags := 9, code := some k10c2 }
def k10c3 : Code := { maxStack := 4, maxLocals := 1, code := jdk_43_method_46_code, exceptionTable := #[], attributes := #[] }
def k10m3 : Method := { name := "toBytes", desc := "(C)[B", sig := { parameters := [.char], returnType := some (.array .byte) }, accessFlags := 9, code := some k10c3 }
/-- java/lang/StringLatin1 -/
def k10 : Class := { plain "java/lang/StringLatin1" (some 0) with
  accessFlags := 48
  interfaces := #[]
  cf := some (fileOf pool10 14 #[.nestMembers #[390, 221]] #[{ accessFlags := 0, nameIndex := 7, descriptorIndex := 8, attributes := #[] }, { accessFlags := 9, nameIndex := 90, descriptorIndex := 105, attributes := #[] }, { accessFlags := 9, nameIndex := 281, descriptorIndex := 282, attributes := #[] }, { accessFlags := 9, nameIndex := 380, descriptorIndex := 382, attributes := #[] }] 48 4 #[] #[{ accessFlags := 4120, nameIndex := 121, descriptorIndex := 122, attributes := #[] }])
  fields := #[{ name := "$assertionsDisabled", type := .boolean, accessFlags := 4120, slot := 0, constantValue := 0 }]
  methods := #[k10m0, k10m1, k10m2, k10m3]
  instanceTypes := #[]
  staticTypes := #[.boolean]
  resolved := Array.replicate 395 none
  statics := none }

def pool11 : Array CpInfo := pool [(2, .class_ 4), (1, u "java/lang/Object"), (0, u "<init>"), (0, u "()V"), (17, .class_ 26), (1, u "jdk/internal/util/Preconditions"), (28, .class_ 56), (0, u "jdk/internal/util/Preconditions$4"), (57, .class_ 115), (0, u "jdk/internal/util/Preconditions$1"), (7, u "SIOOBE_FORMATTER"), (0, u "Ljava/util/function/BiFunction;"), (0, .class_ 126), (0, u "jdk/internal/util/Preconditions$2"), (3, u "AIOOBE_FORMATTER"), (0, .class_ 132), (0, u "jdk/internal/util/Preconditions$3"), (3, u "IOOBE_FORMATTER")] 57

def k11m0 : Method := { name := "<init>", desc := "()V", sig := { parameters := [], returnType := none }, accessFlags := 1, code := none }
/-- jdk/internal/util/Preconditions -/
def k11 : Class := { plain "jdk/internal/util/Preconditions" (some 0) with
  accessFlags := 33
  interfaces := #[]
  cf := some (fileOf pool11 24 #[.nestMembers #[55, 131, 125, 114]] #[{ accessFlags := 1, nameIndex := 5, descriptorIndex := 6, attributes := #[] }] 33 2 #[] #[{ accessFlags := 25, nameIndex := 123, descriptorIndex := 124, attributes := #[] }, { accessFlags := 25, nameIndex := 130, descriptorIndex := 124, attributes := #[] }, { accessFlags := 25, nameIndex := 136, descriptorIndex := 124, attributes := #[] }])
  fields := #[{ name := "SIOOBE_FORMATTER", type := (.object "java/util/function/BiFunction"), accessFlags := 25, slot := 0, constantValue := 0 }, { name := "AIOOBE_FORMATTER", type := (.object "java/util/function/BiFunction"), accessFlags := 25, slot := 1, constantValue := 0 }, { name := "IOOBE_FORMATTER", type := (.object "java/util/function/BiFunction"), accessFlags := 25, slot := 2, constantValue := 0 }]
  methods := #[k11m0]
  instanceTypes := #[]
  staticTypes := #[(.object "java/util/function/BiFunction"), (.object "java/util/function/BiFunction"), (.object "java/util/function/BiFunction")]
  resolved := Array.replicate 194 none
  statics := some 1 }

def pool12 : Array CpInfo := pool [(9, u "<init>"), (6, .class_ 18), (1, u "java/lang/Object"), (0, u "()V"), (1, .class_ 23), (1, u "jdk/internal/util/ArraysSupport"), (0, u "LOG2_ARRAY_LONG_INDEX_SCALE"), (0, u "I"), (2, u "U"), (0, u "Ljdk/internal/misc/Unsafe;"), (8, u "BIG_ENDIAN"), (0, u "Z"), (8, u "LOG2_BYTE_BIT_SIZE"), (4, u "LOG2_ARRAY_INT_INDEX_SCALE"), (54, u "JLA"), (0, u "Ljdk/internal/access/JavaLangAccess;"), (11, u "LOG2_ARRAY_BOOLEAN_INDEX_SCALE"), (9, u "LOG2_ARRAY_BYTE_INDEX_SCALE"), (5, u "LOG2_ARRAY_CHAR_INDEX_SCALE"), (5, u "LOG2_ARRAY_SHORT_INDEX_SCALE"), (18, u "LOG2_ARRAY_FLOAT_INDEX_SCALE"), (24, u "LOG2_ARRAY_DOUBLE_INDEX_SCALE"), (89, u "T_BOOLEAN"), (2, u "T_CHAR"), (1, u "T_FLOAT"), (1, u "T_DOUBLE"), (1, u "T_BYTE"), (1, u "T_SHORT"), (1, u "T_INT"), (1, u "T_LONG"), (1, u "SOFT_MAX_ARRAY_LENGTH")] 83

def k12m0 : Method := { name := "<init>", desc := "()V", sig := { parameters := [], returnType := none }, accessFlags := 2, code := none }
/-- jdk/internal/util/ArraysSupport -/
def k12 : Class := { plain "jdk/internal/util/ArraysSupport" (some 0) with
  accessFlags := 33
  interfaces := #[]
  cf := some (fileOf pool12 21 #[] #[{ accessFlags := 2, nameIndex := 9, descriptorIndex := 19, attributes := #[] }] 33 16 #[] #[{ accessFlags := 24, nameIndex := 28, descriptorIndex := 29, attributes := #[] }, { accessFlags := 26, nameIndex := 38, descriptorIndex := 39, attributes := #[] }, { accessFlags := 25, nameIndex := 121, descriptorIndex := 25, attributes := #[] }, { accessFlags := 25, nameIndex := 131, descriptorIndex := 25, attributes := #[] }, { accessFlags := 25, nameIndex := 137, descriptorIndex := 25, attributes := #[] }, { accessFlags := 25, nameIndex := 143, descriptorIndex := 25, attributes := #[] }, { accessFlags := 25, nameIndex := 53, descriptorIndex := 25, attributes := #[] }, { accessFlags := 25, nameIndex := 24, descriptorIndex := 25, attributes := #[] }, { accessFlags := 25, nameIndex := 162, descriptorIndex := 25, attributes := #[] }, { accessFlags := 25, nameIndex := 187, descriptorIndex := 25, attributes := #[] }, { accessFlags := 26, nameIndex := 48, descriptorIndex := 25, attributes := #[] }, { accessFlags := 25, nameIndex := 277, descriptorIndex := 25, attributes := #[] }, { accessFlags := 25, nameIndex := 280, descriptorIndex := 25, attributes := #[] }, { accessFlags := 25, nameIndex := 282, descriptorIndex := 25, attributes := #[] }, { accessFlags := 25, nameIndex := 284, descriptorIndex := 25, attributes := #[] }, { accessFlags := 25, nameIndex := 286, descriptorIndex := 25, attributes := #[] }, { accessFlags := 25, nameIndex := 288, descriptorIndex := 25, attributes := #[] }, { accessFlags := 25, nameIndex := 290, descriptorIndex := 25, attributes := #[] }, { accessFlags := 25, nameIndex := 292, descriptorIndex := 25, attributes := #[] }, { accessFlags := 26, nameIndex := 108, descriptorIndex := 109, attributes := #[] }, { accessFlags := 25, nameIndex := 294, descriptorIndex := 25, attributes := #[] }])
  fields := #[{ name := "U", type := (.object "jdk/internal/misc/Unsafe"), accessFlags := 24, slot := 0, constantValue := 0 }, { name := "BIG_ENDIAN", type := .boolean, accessFlags := 26, slot := 1, constantValue := 0 }, { name := "LOG2_ARRAY_BOOLEAN_INDEX_SCALE", type := .int, accessFlags := 25, slot := 2, constantValue := 0 }, { name := "LOG2_ARRAY_BYTE_INDEX_SCALE", type := .int, accessFlags := 25, slot := 3, constantValue := 0 }, { name := "LOG2_ARRAY_CHAR_INDEX_SCALE", type := .int, accessFlags := 25, slot := 4, constantValue := 0 }, { name := "LOG2_ARRAY_SHORT_INDEX_SCALE", type := .int, accessFlags := 25, slot := 5, constantValue := 0 }, { name := "LOG2_ARRAY_INT_INDEX_SCALE", type := .int, accessFlags := 25, slot := 6, constantValue := 0 }, { name := "LOG2_ARRAY_LONG_INDEX_SCALE", type := .int, accessFlags := 25, slot := 7, constantValue := 0 }, { name := "LOG2_ARRAY_FLOAT_INDEX_SCALE", type := .int, accessFlags := 25, slot := 8, constantValue := 0 }, { name := "LOG2_ARRAY_DOUBLE_INDEX_SCALE", type := .int, accessFlags := 25, slot := 9, constantValue := 0 }, { name := "LOG2_BYTE_BIT_SIZE", type := .int, accessFlags := 26, slot := 10, constantValue := 0 }, { name := "T_BOOLEAN", type := .int, accessFlags := 25, slot := 11, constantValue := 0 }, { name := "T_CHAR", type := .int, accessFlags := 25, slot := 12, constantValue := 0 }, { name := "T_FLOAT", type := .int, accessFlags := 25, slot := 13, constantValue := 0 }, { name := "T_DOUBLE", type := .int, accessFlags := 25, slot := 14, constantValue := 0 }, { name := "T_BYTE", type := .int, accessFlags := 25, slot := 15, constantValue := 0 }, { name := "T_SHORT", type := .int, accessFlags := 25, slot := 16, constantValue := 0 }, { name := "T_INT", type := .int, accessFlags := 25, slot := 17, constantValue := 0 }, { name := "T_LONG", type := .int, accessFlags := 25, slot := 18, constantValue := 0 }, { name := "JLA", type := (.object "jdk/internal/access/JavaLangAccess"), accessFlags := 26, slot := 19, constantValue := 0 }, { name := "SOFT_MAX_ARRAY_LENGTH", type := .int, accessFlags := 25, slot := 20, constantValue := 0 }]
  methods := #[k12m0]
  instanceTypes := #[]
  staticTypes := #[(.object "jdk/internal/misc/Unsafe"), .boolean, .int, .int, .int, .int, .int, .int, .int, .int, .int, .int, .int, .int, .int, .int, .int, .int, .int, (.object "jdk/internal/access/JavaLangAccess"), .int]
  resolved := Array.replicate 378 none
  statics := none }

def pool13 : Array CpInfo := pool [(1, u "java/lang/Cloneable"), (0, .class_ 1), (0, u "java/lang/Object"), (0, .class_ 3)] 3

/-- java/lang/Cloneable -/
def k13 : Class := { plain "java/lang/Cloneable" (some 0) with
  accessFlags := 1537
  interfaces := #[]
  cf := some (fileOf pool13 2 #[] #[] 1537 4 #[] #[])
  fields := #[]
  methods := #[]
  instanceTypes := #[]
  staticTypes := #[]
  resolved := Array.replicate 8 none
  statics := none }

/-- the primitive byte -/
def k14 : Class := { plain "byte" none with kind := .primitive 'B', accessFlags := 0x411 }
/-- [B -/
def k15 : Class := { plain "[B" (some 0) with kind := .array 14 .byte, interfaces := #[13, 2], accessFlags := 1041 }

/-- the primitive int -/
def k16 : Class := { plain "int" none with kind := .primitive 'I', accessFlags := 0x411 }
/-- [I -/
def k17 : Class := { plain "[I" (some 0) with kind := .array 16 .int, interfaces := #[13, 2], accessFlags := 1041 }

def heap : Heap := #[{ cls := 7, slots := #[.long 0, .int 1, .null, .int 0, .null, .int 0, .int 0], vm := .statics 7 },
  { cls := 11, slots := #[.null, .null, .null], vm := .statics 11 }]
def classes : Array Class := #[k0, k1, k2, k3, k4, k5, k6, k7, k8, k9, k10, k11, k12, k13, k14, k15, k16, k17]
def interned : List (Array UInt16 × Addr) := []
def slotsUsed : Nat := 10
def theMethod : MethodId := ⟨1, 10⟩
def args0 : Array Value := #[.int 5, .int 7, .int 3, .long 4, .long 5]
def aboutOver (below : List Frame) : State where
  vm := { classes := classes, interned := interned.toArray }
  heap := heap
  slotsUsed := slotsUsed
  threads := #[{ frames := .invoking theMethod args0 :: below }]
def below0 : List Frame := [.native { method := ⟨0, 0⟩, args := #[] }]
def about1 : State := aboutOver below0
def p0 : Program := .bare "" "" ""
def e0 : Env := launch0.env 0 0 0
theorem w_frames : about1.frames = Frame.invoking theMethod args0 :: below0 := rfl
set_option maxRecDepth 65536 in
theorem w_args : argsFit about1.vm theMethod args0 = true := by decide +kernel
set_option maxRecDepth 65536 in
theorem w_heap : heapFits about1 = true := by decide +kernel
set_option maxRecDepth 65536 in
theorem w_runnable : about1.curStatus? = some .runnable := by decide +kernel
set_option maxRecDepth 65536 in
theorem w_alone : about1.alone = true := by decide +kernel
set_option maxRecDepth 65536 in
theorem w_named : about1.methodNamed? x = some theMethod := by decide +kernel
set_option maxRecDepth 65536 in
theorem w_hears : about1.hears theMethod below0 = true := by decide +kernel
set_option maxRecDepth 65536 in
theorem w_ripe : about1.ripe theMethod args0 below0 = true := by decide +kernel
theorem w_running : about1.status = .running := rfl
set_option maxRecDepth 65536 in
theorem w_room : about1.hasRoom e0.platform room_1 = true :=
  launch0.hasRoom_least _ room_1 (by decide +kernel) (by decide +kernel) (by decide +kernel) (by decide +kernel) (by decide +kernel) (by decide +kernel)
theorem allAtoms_all (ts : List Jvm.Cond) (a : Array Jvm.Value) (st : Jvm.State) : (allAtoms ts).before a st = ts.all (fun c => c.before a st) := by
  induction ts with
  | nil => rfl
  | cons c t ih =>
    show (Jvm.Cond.and c (allAtoms t)).before a st = _
    rw [Jvm.Cond.before_and, ih, List.all_cons]
def words1 : List Jvm.Cond := Jvm.Cond.code x code maxLocals ret :: tables_1
/-- a 'code' word, met by the world's own term for the bytes: nothing is compared byte by byte -/
theorem code_word {y : MethodName} {bytes : ByteArray} {mx : Nat} {rt : Option FieldType} {a : Array Value} {s : State} {m : MethodId} {meth : Method} {c : Code} (h1 : s.methodNamed? y = some m) (h2 : s.vm.method? m = some meth) (h3 : meth.code = some c) (h4 : c.code = bytes)
    (h5 : (c.maxLocals == mx && c.exceptionTable.isEmpty && decide (c.maxStack ≤ mostOperands) && decide (meth.sig.returnType = rt) && !meth.locks && decide (parseMethodDescriptor y.desc = some meth.sig)) = true) : (Jvm.Cond.code y bytes mx rt).before a s = true := by
  simp only [Bool.and_eq_true, beq_iff_eq, Bool.not_eq_true', decide_eq_true_eq] at h5
  obtain ⟨⟨⟨⟨⟨g1, g2⟩, g3⟩, g4⟩, g5⟩, g6⟩ := h5
  simp [Cond.before, Cond.holds, Cond.value, h1, h2, h3, h4, g1, g2, g3, g4, g5, g6]
def isCode : Jvm.Cond → Bool
  | .code _ _ _ _ => true
  | _ => false
theorem all_split {L : List Jvm.Cond} {P : Jvm.Cond → Bool} (h1 : L.all (fun c => isCode c || P c) = true) (h2 : ∀ c ∈ L.filter isCode, P c = true) : L.all P = true := by
  refine List.all_eq_true.mpr fun c hc => ?_
  have h := List.all_eq_true.mp h1 c hc
  rcases Bool.eq_false_or_eq_true (isCode c) with hi | hi
  · exact h2 c (List.mem_filter.mpr ⟨hc, hi⟩)
  · simpa [hi] using h
set_option maxRecDepth 65536 in
theorem w_c0 : (Jvm.Cond.code x code maxLocals ret).before args0 about1 = true := code_word (m := ⟨1, 10⟩) (meth := k1m10) (c := k1c10) (by decide +kernel) rfl rfl rfl (by decide +kernel)
set_option maxRecDepth 65536 in
theorem w_c1 : (Jvm.Cond.code ({ cls := "com/example/orderd/orderd/order/GameOrderEqualsPinLaw", name := "drawn", desc := "(II)Z" } : Jvm.MethodName) method_4_code (2 : Nat) (Option.some Jvm.ClassFile.FieldType.boolean)).before args0 about1 = true := code_word (m := ⟨1, 3⟩) (meth := k1m3) (c := k1c3) (by decide +kernel) rfl rfl rfl (by decide +kernel)
set_option maxRecDepth 65536 in
theorem w_c2 : (Jvm.Cond.code ({ cls := "com/example/orderd/orderd/order/GameOrderEqualsPinLaw", name := "first", desc := "(III)Ljava/lang/String;" } : Jvm.MethodName) method_8_code (3 : Nat) (Option.some (Jvm.ClassFile.FieldType.object "java/lang/String"))).before args0 about1 = true := code_word (m := ⟨1, 7⟩) (meth := k1m7) (c := k1c7) (by decide +kernel) rfl rfl rfl (by decide +kernel)
set_option maxRecDepth 65536 in
theorem w_c3 : (Jvm.Cond.code ({ cls := "com/example/orderd/orderd/order/GameOrderEqualsPinLaw", name := "len1", desc := "(II)Z" } : Jvm.MethodName) method_5_code (2 : Nat) (Option.some Jvm.ClassFile.FieldType.boolean)).before args0 about1 = true := code_word (m := ⟨1, 4⟩) (meth := k1m4) (c := k1c4) (by decide +kernel) rfl rfl rfl (by decide +kernel)
set_option maxRecDepth 65536 in
theorem w_c4 : (Jvm.Cond.code ({ cls := "com/example/orderd/orderd/order/GameOrderEqualsPinLaw", name := "ch", desc := "(II)C" } : Jvm.MethodName) method_2_code (2 : Nat) (Option.some Jvm.ClassFile.FieldType.char)).before args0 about1 = true := code_word (m := ⟨1, 1⟩) (meth := k1m1) (c := k1c1) (by decide +kernel) rfl rfl rfl (by decide +kernel)
set_option maxRecDepth 65536 in
theorem w_c5 : (Jvm.Cond.code ({ cls := "com/example/orderd/orderd/order/GameOrderEqualsPinLaw", name := "str", desc := "(ZC)Ljava/lang/String;" } : Jvm.MethodName) method_3_code (2 : Nat) (Option.some (Jvm.ClassFile.FieldType.object "java/lang/String"))).before args0 about1 = true := code_word (m := ⟨1, 2⟩) (meth := k1m2) (c := k1c2) (by decide +kernel) rfl rfl rfl (by decide +kernel)
set_option maxRecDepth 65536 in
theorem w_c6 : (Jvm.Cond.code ({ cls := "com/example/orderd/orderd/order/GameOrder", name := "<init>", desc := "(Ljava/lang/String;Ljava/lang/String;JLjava/lang/String;Ljava/lang/String;)V" } : Jvm.MethodName) prog_21_method_1_code (7 : Nat) (Option.none : Option Jvm.ClassFile.FieldType)).before args0 about1 = true := code_word (m := ⟨8, 0⟩) (meth := k8m0) (c := k8c0) (by decide +kernel) rfl rfl rfl (by decide +kernel)
set_option maxRecDepth 65536 in
theorem w_c7 : (Jvm.Cond.code ({ cls := "java/lang/Object", name := "<init>", desc := "()V" } : Jvm.MethodName) object_method_1_code (1 : Nat) (Option.none : Option Jvm.ClassFile.FieldType)).before args0 about1 = true := code_word (m := ⟨0, 0⟩) (meth := k0m0) (c := k0c0) (by decide +kernel) rfl rfl rfl (by decide +kernel)
set_option maxRecDepth 65536 in
theorem w_c8 : (Jvm.Cond.code ({ cls := "java/util/Objects", name := "requireNonNull", desc := "(Ljava/lang/Object;Ljava/lang/String;)Ljava/lang/Object;" } : Jvm.MethodName) jdk_31_method_11_code (2 : Nat) (Option.some (Jvm.ClassFile.FieldType.object "java/lang/Object"))).before args0 about1 = true := code_word (m := ⟨9, 1⟩) (meth := k9m1) (c := k9c1) (by decide +kernel) rfl rfl rfl (by decide +kernel)
set_option maxRecDepth 65536 in
theorem w_c9 : (Jvm.Cond.code ({ cls := "com/example/orderd/orderd/order/GameOrderEqualsPinLaw", name := "second", desc := "(IIII)Ljava/lang/String;" } : Jvm.MethodName) method_9_code (4 : Nat) (Option.some (Jvm.ClassFile.FieldType.object "java/lang/String"))).before args0 about1 = true := code_word (m := ⟨1, 8⟩) (meth := k1m8) (c := k1c8) (by decide +kernel) rfl rfl rfl (by decide +kernel)
set_option maxRecDepth 65536 in
theorem w_c10 : (Jvm.Cond.code ({ cls := "com/example/orderd/orderd/order/GameOrderEqualsPinLaw", name := "len2", desc := "(II)Z" } : Jvm.MethodName) method_6_code (2 : Nat) (Option.some Jvm.ClassFile.FieldType.boolean)).before args0 about1 = true := code_word (m := ⟨1, 5⟩) (meth := k1m5) (c := k1c5) (by decide +kernel) rfl rfl rfl (by decide +kernel)
set_option maxRecDepth 65536 in
theorem w_c11 : (Jvm.Cond.code ({ cls := "com/example/orderd/orderd/order/GameOrderEqualsPinLaw", name := "chr2", desc := "(IIII)C" } : Jvm.MethodName) method_7_code (4 : Nat) (Option.some Jvm.ClassFile.FieldType.char)).before args0 about1 = true := code_word (m := ⟨1, 6⟩) (meth := k1m6) (c := k1c6) (by decide +kernel) rfl rfl rfl (by decide +kernel)
set_option maxRecDepth 65536 in
theorem w_c12 : (Jvm.Cond.code ({ cls := "com/example/orderd/orderd/order/GameOrderEqualsPinLaw", name := "same", desc := "(IIII)Z" } : Jvm.MethodName) method_10_code (6 : Nat) (Option.some Jvm.ClassFile.FieldType.boolean)).before args0 about1 = true := code_word (m := ⟨1, 9⟩) (meth := k1m9) (c := k1c9) (by decide +kernel) rfl rfl rfl (by decide +kernel)
set_option maxRecDepth 65536 in
theorem w_c13 : (Jvm.Cond.code ({ cls := "com/example/orderd/orderd/order/GameOrder", name := "equals", desc := "(Ljava/lang/Object;)Z" } : Jvm.MethodName) prog_21_method_8_code (3 : Nat) (Option.some Jvm.ClassFile.FieldType.boolean)).before args0 about1 = true := code_word (m := ⟨8, 1⟩) (meth := k8m1) (c := k8c1) (by decide +kernel) rfl rfl rfl (by decide +kernel)
set_option maxRecDepth 65536 in
theorem w_c14 : (Jvm.Cond.code ({ cls := "java/lang/String", name := "equals", desc := "(Ljava/lang/Object;)Z" } : Jvm.MethodName) jdk_42_method_66_code (3 : Nat) (Option.some Jvm.ClassFile.FieldType.boolean)).before args0 about1 = true := code_word (m := ⟨7, 1⟩) (meth := k7m1) (c := k7c1) (by decide +kernel) rfl rfl rfl (by decide +kernel)
set_option maxRecDepth 65536 in
theorem w_c15 : (Jvm.Cond.code ({ cls := "java/lang/String", name := "valueOf", desc := "(C)Ljava/lang/String;" } : Jvm.MethodName) jdk_42_method_139_code (1 : Nat) (Option.some (Jvm.ClassFile.FieldType.object "java/lang/String"))).before args0 about1 = true := code_word (m := ⟨7, 2⟩) (meth := k7m2) (c := k7c2) (by decide +kernel) rfl rfl rfl (by decide +kernel)
set_option maxRecDepth 65536 in
theorem w_c16 : (Jvm.Cond.code ({ cls := "java/lang/StringLatin1", name := "canEncode", desc := "(C)Z" } : Jvm.MethodName) jdk_43_method_3_code (1 : Nat) (Option.some Jvm.ClassFile.FieldType.boolean)).before args0 about1 = true := code_word (m := ⟨10, 1⟩) (meth := k10m1) (c := k10c1) (by decide +kernel) rfl rfl rfl (by decide +kernel)
set_option maxRecDepth 65536 in
theorem w_c17 : (Jvm.Cond.code ({ cls := "java/lang/StringLatin1", name := "toBytes", desc := "(C)[B" } : Jvm.MethodName) jdk_43_method_46_code (1 : Nat) (Option.some (Jvm.ClassFile.FieldType.array Jvm.ClassFile.FieldType.byte))).before args0 about1 = true := code_word (m := ⟨10, 3⟩) (meth := k10m3) (c := k10c3) (by decide +kernel) rfl rfl rfl (by decide +kernel)
set_option maxRecDepth 65536 in
theorem w_c18 : (Jvm.Cond.code ({ cls := "java/lang/String", name := "<init>", desc := "([BB)V" } : Jvm.MethodName) jdk_42_method_151_code (3 : Nat) (Option.none : Option Jvm.ClassFile.FieldType)).before args0 about1 = true := code_word (m := ⟨7, 3⟩) (meth := k7m3) (c := k7c3) (by decide +kernel) rfl rfl rfl (by decide +kernel)
set_option maxRecDepth 65536 in
theorem w_c19 : (Jvm.Cond.code ({ cls := "java/lang/StringLatin1", name := "equals", desc := "([B[B)Z" } : Jvm.MethodName) jdk_43_method_13_code (3 : Nat) (Option.some Jvm.ClassFile.FieldType.boolean)).before args0 about1 = true := code_word (m := ⟨10, 2⟩) (meth := k10m2) (c := k10c2) (by decide +kernel) rfl rfl rfl (by decide +kernel)
def codes1 : List Jvm.Cond := [Jvm.Cond.code x code maxLocals ret, Jvm.Cond.code ({ cls := "com/example/orderd/orderd/order/GameOrderEqualsPinLaw", name := "drawn", desc := "(II)Z" } : Jvm.MethodName) method_4_code (2 : Nat) (Option.some Jvm.ClassFile.FieldType.boolean), Jvm.Cond.code ({ cls := "com/example/orderd/orderd/order/GameOrderEqualsPinLaw", name := "first", desc := "(III)Ljava/lang/String;" } : Jvm.MethodName) method_8_code (3 : Nat) (Option.some (Jvm.ClassFile.FieldType.object "java/lang/String")), Jvm.Cond.code ({ cls := "com/example/orderd/orderd/order/GameOrderEqualsPinLaw", name := "len1", desc := "(II)Z" } : Jvm.MethodName) method_5_code (2 : Nat) (Option.some Jvm.ClassFile.FieldType.boolean), Jvm.Cond.code ({ cls := "com/example/orderd/orderd/order/GameOrderEqualsPinLaw", name := "ch", desc := "(II)C" } : Jvm.MethodName) method_2_code (2 : Nat) (Option.some Jvm.ClassFile.FieldType.char), Jvm.Cond.code ({ cls := "com/example/orderd/orderd/order/GameOrderEqualsPinLaw", name := "str", desc := "(ZC)Ljava/lang/String;" } : Jvm.MethodName) method_3_code (2 : Nat) (Option.some (Jvm.ClassFile.FieldType.object "java/lang/String")), Jvm.Cond.code ({ cls := "com/example/orderd/orderd/order/GameOrder", name := "<init>", desc := "(Ljava/lang/String;Ljava/lang/String;JLjava/lang/String;Ljava/lang/String;)V" } : Jvm.MethodName) prog_21_method_1_code (7 : Nat) (Option.none : Option Jvm.ClassFile.FieldType), Jvm.Cond.code ({ cls := "java/lang/Object", name := "<init>", desc := "()V" } : Jvm.MethodName) object_method_1_code (1 : Nat) (Option.none : Option Jvm.ClassFile.FieldType), Jvm.Cond.code ({ cls := "java/util/Objects", name := "requireNonNull", desc := "(Ljava/lang/Object;Ljava/lang/String;)Ljava/lang/Object;" } : Jvm.MethodName) jdk_31_method_11_code (2 : Nat) (Option.some (Jvm.ClassFile.FieldType.object "java/lang/Object")), Jvm.Cond.code ({ cls := "com/example/orderd/orderd/order/GameOrderEqualsPinLaw", name := "second", desc := "(IIII)Ljava/lang/String;" } : Jvm.MethodName) method_9_code (4 : Nat) (Option.some (Jvm.ClassFile.FieldType.object "java/lang/String")), Jvm.Cond.code ({ cls := "com/example/orderd/orderd/order/GameOrderEqualsPinLaw", name := "len2", desc := "(II)Z" } : Jvm.MethodName) method_6_code (2 : Nat) (Option.some Jvm.ClassFile.FieldType.boolean), Jvm.Cond.code ({ cls := "com/example/orderd/orderd/order/GameOrderEqualsPinLaw", name := "chr2", desc := "(IIII)C" } : Jvm.MethodName) method_7_code (4 : Nat) (Option.some Jvm.ClassFile.FieldType.char), Jvm.Cond.code ({ cls := "com/example/orderd/orderd/order/GameOrderEqualsPinLaw", name := "same", desc := "(IIII)Z" } : Jvm.MethodName) method_10_code (6 : Nat) (Option.some Jvm.ClassFile.FieldType.boolean), Jvm.Cond.code ({ cls := "com/example/orderd/orderd/order/GameOrder", name := "equals", desc := "(Ljava/lang/Object;)Z" } : Jvm.MethodName) prog_21_method_8_code (3 : Nat) (Option.some Jvm.ClassFile.FieldType.boolean), Jvm.Cond.code ({ cls := "java/lang/String", name := "equals", desc := "(Ljava/lang/Object;)Z" } : Jvm.MethodName) jdk_42_method_66_code (3 : Nat) (Option.some Jvm.ClassFile.FieldType.boolean), Jvm.Cond.code ({ cls := "java/lang/String", name := "valueOf", desc := "(C)Ljava/lang/String;" } : Jvm.MethodName) jdk_42_method_139_code (1 : Nat) (Option.some (Jvm.ClassFile.FieldType.object "java/lang/String")), Jvm.Cond.code ({ cls := "java/lang/StringLatin1", name := "canEncode", desc := "(C)Z" } : Jvm.MethodName) jdk_43_method_3_code (1 : Nat) (Option.some Jvm.ClassFile.FieldType.boolean), Jvm.Cond.code ({ cls := "java/lang/StringLatin1", name := "toBytes", desc := "(C)[B" } : Jvm.MethodName) jdk_43_method_46_code (1 : Nat) (Option.some (Jvm.ClassFile.FieldType.array Jvm.ClassFile.FieldType.byte)), Jvm.Cond.code ({ cls := "java/lang/String", name := "<init>", desc := "([BB)V" } : Jvm.MethodName) jdk_42_method_151_code (3 : Nat) (Option.none : Option Jvm.ClassFile.FieldType), Jvm.Cond.code ({ cls := "java/lang/StringLatin1", name := "equals", desc := "([B[B)Z" } : Jvm.MethodName) jdk_43_method_13_code (3 : Nat) (Option.some Jvm.ClassFile.FieldType.boolean)]
set_option maxRecDepth 65536 in
theorem codes_eq : words1.filter isCode = codes1 := rfl
theorem w_codes : ∀ c ∈ words1.filter isCode, c.before args0 about1 = true := by
  rw [codes_eq]
  intro c hc
  simp only [codes1, List.mem_cons, List.not_mem_nil, or_false] at hc
  rcases hc with rfl | rfl | rfl | rfl | rfl | rfl | rfl | rfl | rfl | rfl | rfl | rfl | rfl | rfl | rfl | rfl | rfl | rfl | rfl | rfl
  · exact w_c0
  · exact w_c1
  · exact w_c2
  · exact w_c3
  · exact w_c4
  · exact w_c5
  · exact w_c6
  · exact w_c7
  · exact w_c8
  · exact w_c9
  · exact w_c10
  · exact w_c11
  · exact w_c12
  · exact w_c13
  · exact w_c14
  · exact w_c15
  · exact w_c16
  · exact w_c17
  · exact w_c18
  · exact w_c19
set_option maxRecDepth 65536 in
theorem w_t1 : (words1.take 24).all (fun c => isCode c || c.before args0 about1) = true := by decide +kernel
set_option maxRecDepth 65536 in
theorem w_t2 : ((words1.drop 24).take 24).all (fun c => isCode c || c.before args0 about1) = true := by decide +kernel
set_option maxRecDepth 65536 in
theorem w_t3 : (((words1.drop 24).drop 24).take 24).all (fun c => isCode c || c.before args0 about1) = true := by decide +kernel
set_option maxRecDepth 65536 in
theorem w_t4 : ((((words1.drop 24).drop 24).drop 24).take 24).all (fun c => isCode c || c.before args0 about1) = true := by decide +kernel
set_option maxRecDepth 65536 in
theorem w_t5 : ((((words1.drop 24).drop 24).drop 24).drop 24).all (fun c => isCode c || c.before args0 about1) = true := by decide +kernel
theorem w_tables : (allAtoms (Jvm.Cond.code x code maxLocals ret :: tables_1)).before args0 about1 = true := by
  rw [allAtoms_all]
  show words1.all (fun c => c.before args0 about1) = true
  refine all_split ?_ w_codes
  rw [← List.take_append_drop 24 words1, List.all_append, w_t1, ← List.take_append_drop 24 (words1.drop 24), List.all_append, w_t2, ← List.take_append_drop 24 ((words1.drop 24).drop 24), List.all_append, w_t3, ← List.take_append_drop 24 (((words1.drop 24).drop 24).drop 24), List.all_append, w_t4, w_t5]
  rfl
set_option maxRecDepth 65536 in
theorem w_rest : rest_1_c.before args0 about1 = true := by decide +kernel
set_option maxRecDepth 65536 in
theorem w_case : (Jvm.Cond.and given_1 narrow_1).before args0 about1 = true := by decide +kernel
set_option maxRecDepth 65536 in
theorem w_consts : constsHeld consts_1 about1 := Jvm.Lit.constsHeldB_iff.mp (by decide +kernel)
theorem w_applies : (headSpec (Jvm.Cond.code x code maxLocals ret :: tables_1) room_1).applies x e0.platform about1 = true :=
  (Spec.applies_iff w_frames).mpr ⟨w_running, w_runnable, w_alone, w_named, w_hears, w_ripe, w_room, w_tables⟩
theorem atStart : AtStart classFile x code maxLocals ret World_1 tables_1 room_1 Calls_1 rest_1 Pre_1 launch0 p0 e0 about1 theMethod args0 below0 :=
  ⟨lists_1, trivial, launch0.admits_env _ _ _, launch0.least_env, fairChoices_fair.cas, fairChoices_fair.clock, w_frames, w_args, w_heap, w_applies, ⟨w_consts, trivial⟩, w_rest, w_case⟩
end start1
theorem witness_1 : WitnessClaimed_1 := ⟨start1.p0, start1.e0, start1.about1, start1.theMethod, start1.args0, start1.below0, start1.atStart⟩
end Jvm.Pilot.@@N@@
