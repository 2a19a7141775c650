import JvmDerived
import JvmDerived.Pilot.@@N@@Statement
import JvmDerived.Pilot.@@N@@Code
set_option linter.unusedVariables false
set_option linter.unusedSimpArgs false
namespace Jvm.RoadKit
open Sem ClassFile Op Lib Jvm.Stand Jvm.Free Jvm.LawKit
section New
variable {p : Program} {l : Launch} {e : Env} {R : Room} {s : State} {m : MethodId} {args : Array Value} {below : List Frame} {meth : Method} {c : Code} {T : State} {locs : List Loc} {cells slots : Nat}
theorem retI (X : Stand p l e R s m args below meth c T locs cells slots) (hx : p.tables.exec = Jvm.exec) {pc : Nat} {Ls : Array Slot} {z : Int32} {rest : List Value} (hret : meth.sig.returnType = some .int) (hd : decode c.code pc = .ok (.ireturn, 1)) {fs : List Frame}
    (hl : ∀ (f : JFrame) (acts : List Action), f.method = m → f.locked = none → f.entered = [] → (doReturn e (T.setTop f) acts (some (.int z))).1 = T.setFrames fs) : Steps p.tables e below (T.setTop (mkF m pc Ls (.int z :: rest))) (T.setFrames fs) := by
  have hm' : T.vm.method? m = some meth := X.method'
  have hn : narrow .int (.int z) = .int z := rfl
  show Steps p.tables e below (T.setTop { method := m, pc := pc, locals := Ls, stack := _ :: rest, locked := none }) _
  jvm_step X.here [X.here.top, hx, hd, hm', hret, hn]
  first | (intro acts; rw [hl _ acts rfl rfl rfl]) | rw [hl _ _ rfl rfl rfl]
  exact Steps.refl _
end New
/-- from this state a run goes on to an end that meets K -/
def Good (p : Program) (e : Env) (below : List Frame) (K : Outcome → State → Prop) (S : State) : Prop := ∃ s₂ o, Steps p.tables e below S s₂ ∧ s₂.status = .running ∧ Ended s₂ below o ∧ K o s₂
theorem Good.back {p : Program} {e : Env} {below : List Frame} {K : Outcome → State → Prop} {S S' : State} (h : ∀ t, Steps p.tables e below S' t → Steps p.tables e below S t) (g : Good p e below K S') : Good p e below K S := by
  obtain ⟨t, o, h1, h2⟩ := g
  exact ⟨t, o, h t h1, h2⟩
theorem Good.done {p : Program} {e : Env} {below : List Frame} {K : Outcome → State → Prop} {S t : State} {o : Outcome} (h1 : Steps p.tables e below S t) (h2 : t.status = .running) (h3 : Ended t below o) (h4 : K o t) : Good p e below K S := ⟨t, o, h1, h2, h3, h4⟩
end Jvm.RoadKit
namespace Jvm.Pilot.@@N@@
open Jvm Jvm.ClassFile Sem Op Lib Jvm.Free Jvm.Stand Jvm.LawKit Jvm.RoadKit Bundle Jvm.Pilot.@@N@@.Jvm.D
theorem own_eqV {args : Array Value} {first s : State} {o : Option Outcome} {idx : List Nat} {a b : Term} {y : Value} (h : (Jvm.Cond.eq a b).value args first o s idx = some true) (hb : b.eval args first o idx s = some y) : a.eval args first o idx s = some y := by
  cases ha : a.eval args first o idx s with
  | none => simp [Jvm.Cond.value, ha] at h
  | some x => cases x <;> cases y <;> simp_all [Jvm.Cond.value]
theorem own_len {args : Array Value} {s : State} {t : Term} {a : Addr} {cl : Cell} {ty : FieldType} {k : Int32} (A : Arr s s.heap a cl ty) (ev : t.eval args s none [] s = some (.ref a)) (h : (Term.length t).eval args s none [] s = some (.int k)) : cl.slots.size < 2 ^ 31 ∧ cl.slots.size.toInt32 = k := by
  have ha : s.arrayAt? a = some cl := IntBox.arrayAt_of A.1 A.2.1 A.2.2
  simp [Term.eval, ev, ha] at h
  exact h

theorem own_small {e : Int32} {n : Nat} (h0 : 0 ≤ e.toInt) (hn : e.toInt < n) : ∃ k : Nat, k < n ∧ e = Int32.ofNat k := by
  refine ⟨e.toInt.toNat, by omega, ?_⟩
  apply Int32.toInt_inj.mp
  have hb := e.toInt_lt
  rw [Int32.toInt_ofNat_of_lt (by omega)]
  omega
theorem own_mask {x m : Int32} {n : Nat} (hm : 0 ≤ m.toInt) (hn : m.toInt < n) : ∃ k : Nat, k < n ∧ (x &&& m) = Int32.ofNat k := by
  have h := c_and x m hm
  exact own_small h.1 (by omega)
theorem own_modm {x y : Int32} {d : Int} {n : Nat} (hy : y.toInt = d) (hd : 0 < d) (hn : d ≤ n) : ∃ k : Nat, k < n ∧ ((x &&& (2147483647 : Int32)) % y) = Int32.ofNat k := by
  have h := c_and x 2147483647 (by decide)
  have h2 := (c_irem (x &&& 2147483647) y d hy).1 h.1
  refine own_small ?_ ?_ <;> rw [h2]
  · exact Int.emod_nonneg _ (by omega)
  · have := Int.emod_lt_of_pos (x &&& 2147483647).toInt hd
    omega

theorem own_pn0 : plainName "org/ludarium/games/sabotage/Card$Kind" = true := by first | (simp [plainName, overriddenIn]; done) | decide +kernel
theorem own_d1_0 : decode prog_21_method_4_code 0 = .ok (.aload_n 0, 1) := by decide +kernel
theorem own_d1_1 : decode prog_21_method_4_code 1 = .ok (.getstatic 37, 3) := by decide +kernel
theorem own_d1_4 : decode prog_21_method_4_code 4 = .ok (.if_acmp .eq 14, 3) := by decide +kernel
theorem own_d1_7 : decode prog_21_method_4_code 7 = .ok (.aload_n 0, 1) := by decide +kernel
theorem own_d1_8 : decode prog_21_method_4_code 8 = .ok (.getstatic 40, 3) := by decide +kernel
theorem own_d1_11 : decode prog_21_method_4_code 11 = .ok (.if_acmp .eq 7, 3) := by decide +kernel
theorem own_d1_14 : decode prog_21_method_4_code 14 = .ok (.iconst 1, 1) := by decide +kernel
theorem own_d1_15 : decode prog_21_method_4_code 15 = .ok (.goto 4, 3) := by decide +kernel
theorem own_d1_19 : decode prog_21_method_4_code 19 = .ok (.ireturn, 1) := by decide +kernel
theorem own_ef_1y (m : MethodId) (x0 : Addr) : entryFrame m #[(.ref x0)] 1 = mkF m 0 #[.val (.ref x0)] [] := by first | (simp [entryFrame, mkF, argsToLocals, Value.category]; done) | rfl
def Q1y (Z : State) (r0 : Addr) (w_SAB : Addr) (w_DIS : Addr) (h0 : Heap) (n0 : Nat) (v : Option Value) (h : Heap) (L : List Loc) : Prop := v = some (.int 1) ∧ Fr n0 L ∧ h = h0
set_option maxRecDepth 65536 in
set_option maxHeartbeats 40000000 in
theorem rm1y (l : Launch) (Z : State) (a0 : Array Value) (hw : ∀ d ∈ tables_1, d.before a0 Z = true) (ws : List Jvm.Cond) (r0 : Addr) (w_SAB : Addr) (w_DIS : Addr) (h0 : Heap) (n0 : Nat) (Z0 : n0 ≤ h0.size) (S_w_SAB : Sta Z h0 "org/ludarium/games/sabotage/Card$Kind" "SAB" "Lorg/ludarium/games/sabotage/Card$Kind;" (.ref w_SAB)) (S_w_DIS : Sta Z h0 "org/ludarium/games/sabotage/Card$Kind" "DIS" "Lorg/ludarium/games/sabotage/Card$Kind;" (.ref w_DIS)) (hs : r0 ≠ w_SAB) (hd : r0 ≠ w_DIS) :
    MetFree l (⟨"org/ludarium/games/sabotage/Card$Kind", "isPipe", "()Z"⟩ : MethodName) (head1 (Jvm.Cond.code (⟨"org/ludarium/games/sabotage/Card$Kind", "isPipe", "()Z"⟩ : MethodName) prog_21_method_4_code 1 (some .boolean) :: ws) ({ frames := 0, cells := 0, slots := 0, locals := 0 } : Room)) (fun a U => a = #[(.ref r0)] ∧ Z.Warmed39 U.vm ∧ U.heap = h0) (fun _ _ _ _ _ => True) (fun _ U o U' => ∃ v L, o = .returned v ∧ Q1y Z r0 w_SAB w_DIS h0 n0 v U'.heap L ∧ FrameEnd U o U' L ({ frames := 0, cells := 0, slots := 0, locals := 0 } : Room).cells ({ frames := 0, cells := 0, slots := 0, locals := 0 } : Room).slots) := by
  refine MetFree.of_bodySF (plainFor_of_name own_pn0) hisR ?_
  intro p e s m args below meth c s₁ Bd hml0 hP hK
  obtain ⟨rfl, hZ, hh⟩ := hP
  have hx := Bd.exec
  have hby := Bd.bytes
  have hml : c.maxLocals = 1 := hml0
  have hown : s.vm.findClass "org/ludarium/games/sabotage/Card$Kind" = some m.cls := findClass_of_methodNamed Bd.named
  have hnm := (name_of_methodNamed Bd.named Bd.method).1
  have X0 : Stand p l e ({ frames := 0, cells := 0, slots := 0, locals := 0 } : Room) s m #[(.ref r0)] below meth c s₁ [] 0 0 := Stand.of_body Bd
  have e0 : s₁.heap = h0 := by rw [← hh, Bd.state]; rfl
  have N0 := Fr.nil n0
  show Good p e below (fun o U' => ∃ v L, o = .returned v ∧ Q1y Z r0 w_SAB w_DIS h0 n0 v U'.heap L ∧ FrameEnd s o U' L ({ frames := 0, cells := 0, slots := 0, locals := 0 } : Room).cells ({ frames := 0, cells := 0, slots := 0, locals := 0 } : Room).slots) _
  refine Good.back (S' := s₁.setTop (mkF m 0 #[.val (.ref r0)] [])) (fun t k => castTop (own_ef_1y m r0) k) ?_
  show Good p e below _ (s₁.setTop (mkF m 0 #[.val (.ref r0)] []))
  refine Good.back (fun _ k => XS.aloadN X0.here hx rfl (hb hby own_d1_0) rfl rfl k) ?_
  show Good p e below _ (s₁.setTop (mkF m 1 #[.val (.ref r0)] [(.ref r0)]))
  obtain ⟨T1, X1, e1, st1⟩ := getS2 X0 hx hZ hown (host := "") (Or.inl (hw _ (List.mem_of_getElem? (i := 36) rfl))) Via.refl e0 S_w_SAB (g := (mkF m 1 #[.val (.ref r0)] [(.ref r0)])) rfl (hb hby own_d1_1)
  refine Good.back st1 ?_
  show Good p e below _ (T1.setTop (mkF m 4 #[.val (.ref r0)] [(.ref w_SAB), (.ref r0)]))
  refine Good.back (fun _ k => Jvm.RoadKit.acmp (g := (mkF m 4 #[.val (.ref r0)] [(.ref w_SAB), (.ref r0)])) X1 hx rfl rfl rfl (pc0 := 4) (pc' := 7) (same := false) rfl (hb hby own_d1_4) rfl (decide_eq_false fun q => hs (Value.ref.inj q)) (by decide) (by decide) k) ?_
  show Good p e below _ (T1.setTop (mkF m 7 #[.val (.ref r0)] []))
  refine Good.back (fun _ k => XS.aloadN X1.here hx rfl (hb hby own_d1_7) rfl rfl k) ?_
  show Good p e below _ (T1.setTop (mkF m 8 #[.val (.ref r0)] [(.ref r0)]))
  obtain ⟨T2, X2, e2, st2⟩ := getS2 X1 hx hZ hown (host := "") (Or.inl (hw _ (List.mem_of_getElem? (i := 37) rfl))) Via.refl e1 S_w_DIS (g := (mkF m 8 #[.val (.ref r0)] [(.ref r0)])) rfl (hb hby own_d1_8)
  refine Good.back st2 ?_
  show Good p e below _ (T2.setTop (mkF m 11 #[.val (.ref r0)] [(.ref w_DIS), (.ref r0)]))
  refine Good.back (fun _ k => Jvm.RoadKit.acmp (g := (mkF m 11 #[.val (.ref r0)] [(.ref w_DIS), (.ref r0)])) X2 hx rfl rfl rfl (pc0 := 11) (pc' := 14) (same := false) rfl (hb hby own_d1_11) rfl (decide_eq_false fun q => hd (Value.ref.inj q)) (by decide) (by decide) k) ?_
  show Good p e below _ (T2.setTop (mkF m 14 #[.val (.ref r0)] []))
  refine Good.back (fun _ k => XS.iconst X2.here hx rfl (hb hby own_d1_14) k) ?_
  show Good p e below _ (T2.setTop (mkF m 15 #[.val (.ref r0)] [(.int (1 : Int32))]))
  refine Good.back (fun _ k => XS.goto X2.here hx rfl (pc0 := 15) (pc' := 19) rfl (hb hby own_d1_15) (by decide) (by decide) k) ?_
  show Good p e below _ (T2.setTop (mkF m 19 #[.val (.ref r0)] [(.int (1 : Int32))]))
  obtain ⟨fs3, hr3, hrun3, hended3, hW3, hsame3⟩ := X2.leave (v := some (.int (1 : Int32))) (fun h => by rw [Bd.returns] at h; cases h)
  refine Good.done (retN X2 hx (t := .boolean) Bd.returns (by simp) (hb hby own_d1_19) hr3) hrun3 hended3 ⟨_, _, rfl, ?_, ⟨_, rfl⟩, hW3, hsame3.mono (by decide) (by decide)⟩
  show Q1y Z r0 w_SAB w_DIS h0 n0 _ T2.heap _
  rw [e2]
  exact ⟨rfl, N0, rfl⟩
theorem own_d1_18 : decode prog_21_method_4_code 18 = .ok (.iconst 0, 1) := by decide +kernel
theorem own_ef_1SAB (m : MethodId) (x0 : Addr) : entryFrame m #[(.ref x0)] 1 = mkF m 0 #[.val (.ref x0)] [] := by first | (simp [entryFrame, mkF, argsToLocals, Value.category]; done) | rfl
def Q1SAB (Z : State) (w_SAB : Addr) (w_DIS : Addr) (h0 : Heap) (n0 : Nat) (v : Option Value) (h : Heap) (L : List Loc) : Prop := v = some (.int 0) ∧ Fr n0 L ∧ h = h0
set_option maxRecDepth 65536 in
set_option maxHeartbeats 40000000 in
theorem rm1SAB (l : Launch) (Z : State) (a0 : Array Value) (hw : ∀ d ∈ tables_1, d.before a0 Z = true) (ws : List Jvm.Cond) (w_SAB : Addr) (w_DIS : Addr) (h0 : Heap) (n0 : Nat) (Z0 : n0 ≤ h0.size) (S_w_SAB : Sta Z h0 "org/ludarium/games/sabotage/Card$Kind" "SAB" "Lorg/ludarium/games/sabotage/Card$Kind;" (.ref w_SAB)) (S_w_DIS : Sta Z h0 "org/ludarium/games/sabotage/Card$Kind" "DIS" "Lorg/ludarium/games/sabotage/Card$Kind;" (.ref w_DIS)) :
    MetFree l (⟨"org/ludarium/games/sabotage/Card$Kind", "isPipe", "()Z"⟩ : MethodName) (head1 (Jvm.Cond.code (⟨"org/ludarium/games/sabotage/Card$Kind", "isPipe", "()Z"⟩ : MethodName) prog_21_method_4_code 1 (some .boolean) :: ws) ({ frames := 0, cells := 0, slots := 0, locals := 0 } : Room)) (fun a U => a = #[(.ref w_SAB)] ∧ Z.Warmed39 U.vm ∧ U.heap = h0) (fun _ _ _ _ _ => True) (fun _ U o U' => ∃ v L, o = .returned v ∧ Q1SAB Z w_SAB w_DIS h0 n0 v U'.heap L ∧ FrameEnd U o U' L ({ frames := 0, cells := 0, slots := 0, locals := 0 } : Room).cells ({ frames := 0, cells := 0, slots := 0, locals := 0 } : Room).slots) := by
  refine MetFree.of_bodySF (plainFor_of_name own_pn0) hisR ?_
  intro p e s m args below meth c s₁ Bd hml0 hP hK
  obtain ⟨rfl, hZ, hh⟩ := hP
  have hx := Bd.exec
  have hby := Bd.bytes
  have hml : c.maxLocals = 1 := hml0
  have hown : s.vm.findClass "org/ludarium/games/sabotage/Card$Kind" = some m.cls := findClass_of_methodNamed Bd.named
  have hnm := (name_of_methodNamed Bd.named Bd.method).1
  have X0 : Stand p l e ({ frames := 0, cells := 0, slots := 0, locals := 0 } : Room) s m #[(.ref w_SAB)] below meth c s₁ [] 0 0 := Stand.of_body Bd
  have e0 : s₁.heap = h0 := by rw [← hh, Bd.state]; rfl
  have N0 := Fr.nil n0
  show Good p e below (fun o U' => ∃ v L, o = .returned v ∧ Q1SAB Z w_SAB w_DIS h0 n0 v U'.heap L ∧ FrameEnd s o U' L ({ frames := 0, cells := 0, slots := 0, locals := 0 } : Room).cells ({ frames := 0, cells := 0, slots := 0, locals := 0 } : Room).slots) _
  refine Good.back (S' := s₁.setTop (mkF m 0 #[.val (.ref w_SAB)] [])) (fun t k => castTop (own_ef_1SAB m w_SAB) k) ?_
  show Good p e below _ (s₁.setTop (mkF m 0 #[.val (.ref w_SAB)] []))
  refine Good.back (fun _ k => XS.aloadN X0.here hx rfl (hb hby own_d1_0) rfl rfl k) ?_
  show Good p e below _ (s₁.setTop (mkF m 1 #[.val (.ref w_SAB)] [(.ref w_SAB)]))
  obtain ⟨T1, X1, e1, st1⟩ := getS2 X0 hx hZ hown (host := "") (Or.inl (hw _ (List.mem_of_getElem? (i := 36) rfl))) Via.refl e0 S_w_SAB (g := (mkF m 1 #[.val (.ref w_SAB)] [(.ref w_SAB)])) rfl (hb hby own_d1_1)
  refine Good.back st1 ?_
  show Good p e below _ (T1.setTop (mkF m 4 #[.val (.ref w_SAB)] [(.ref w_SAB), (.ref w_SAB)]))
  refine Good.back (fun _ k => Jvm.RoadKit.acmp (g := (mkF m 4 #[.val (.ref w_SAB)] [(.ref w_SAB), (.ref w_SAB)])) X1 hx rfl rfl rfl (pc0 := 4) (pc' := 18) (same := true) rfl (hb hby own_d1_4) rfl (decide_eq_true rfl) (by decide) (by decide) k) ?_
  show Good p e below _ (T1.setTop (mkF m 18 #[.val (.ref w_SAB)] []))
  refine Good.back (fun _ k => XS.iconst X1.here hx rfl (hb hby own_d1_18) k) ?_
  show Good p e below _ (T1.setTop (mkF m 19 #[.val (.ref w_SAB)] [(.int (0 : Int32))]))
  obtain ⟨fs2, hr2, hrun2, hended2, hW2, hsame2⟩ := X1.leave (v := some (.int (0 : Int32))) (fun h => by rw [Bd.returns] at h; cases h)
  refine Good.done (retN X1 hx (t := .boolean) Bd.returns (by simp) (hb hby own_d1_19) hr2) hrun2 hended2 ⟨_, _, rfl, ?_, ⟨_, rfl⟩, hW2, hsame2.mono (by decide) (by decide)⟩
  show Q1SAB Z w_SAB w_DIS h0 n0 _ T1.heap _
  rw [e1]
  exact ⟨rfl, N0, rfl⟩
theorem own_ef_1DIS (m : MethodId) (x0 : Addr) : entryFrame m #[(.ref x0)] 1 = mkF m 0 #[.val (.ref x0)] [] := by first | (simp [entryFrame, mkF, argsToLocals, Value.category]; done) | rfl
def Q1DIS (Z : State) (w_SAB : Addr) (w_DIS : Addr) (h0 : Heap) (n0 : Nat) (v : Option Value) (h : Heap) (L : List Loc) : Prop := v = some (.int 0) ∧ Fr n0 L ∧ h = h0
set_option maxRecDepth 65536 in
set_option maxHeartbeats 40000000 in
theorem rm1DIS (l : Launch) (Z : State) (a0 : Array Value) (hw : ∀ d ∈ tables_1, d.before a0 Z = true) (ws : List Jvm.Cond) (w_SAB : Addr) (w_DIS : Addr) (h0 : Heap) (n0 : Nat) (Z0 : n0 ≤ h0.size) (S_w_SAB : Sta Z h0 "org/ludarium/games/sabotage/Card$Kind" "SAB" "Lorg/ludarium/games/sabotage/Card$Kind;" (.ref w_SAB)) (S_w_DIS : Sta Z h0 "org/ludarium/games/sabotage/Card$Kind" "DIS" "Lorg/ludarium/games/sabotage/Card$Kind;" (.ref w_DIS)) (hs : w_DIS ≠ w_SAB) :
    MetFree l (⟨"org/ludarium/games/sabotage/Card$Kind", "isPipe", "()Z"⟩ : MethodName) (head1 (Jvm.Cond.code (⟨"org/ludarium/games/sabotage/Card$Kind", "isPipe", "()Z"⟩ : MethodName) prog_21_method_4_code 1 (some .boolean) :: ws) ({ frames := 0, cells := 0, slots := 0, locals := 0 } : Room)) (fun a U => a = #[(.ref w_DIS)] ∧ Z.Warmed39 U.vm ∧ U.heap = h0) (fun _ _ _ _ _ => True) (fun _ U o U' => ∃ v L, o = .returned v ∧ Q1DIS Z w_SAB w_DIS h0 n0 v U'.heap L ∧ FrameEnd U o U' L ({ frames := 0, cells := 0, slots := 0, locals := 0 } : Room).cells ({ frames := 0, cells := 0, slots := 0, locals := 0 } : Room).slots) := by
  refine MetFree.of_bodySF (plainFor_of_name own_pn0) hisR ?_
  intro p e s m args below meth c s₁ Bd hml0 hP hK
  obtain ⟨rfl, hZ, hh⟩ := hP
  have hx := Bd.exec
  have hby := Bd.bytes
  have hml : c.maxLocals = 1 := hml0
  have hown : s.vm.findClass "org/ludarium/games/sabotage/Card$Kind" = some m.cls := findClass_of_methodNamed Bd.named
  have hnm := (name_of_methodNamed Bd.named Bd.method).1
  have X0 : Stand p l e ({ frames := 0, cells := 0, slots := 0, locals := 0 } : Room) s m #[(.ref w_DIS)] below meth c s₁ [] 0 0 := Stand.of_body Bd
  have e0 : s₁.heap = h0 := by rw [← hh, Bd.state]; rfl
  have N0 := Fr.nil n0
  show Good p e below (fun o U' => ∃ v L, o = .returned v ∧ Q1DIS Z w_SAB w_DIS h0 n0 v U'.heap L ∧ FrameEnd s o U' L ({ frames := 0, cells := 0, slots := 0, locals := 0 } : Room).cells ({ frames := 0, cells := 0, slots := 0, locals := 0 } : Room).slots) _
  refine Good.back (S' := s₁.setTop (mkF m 0 #[.val (.ref w_DIS)] [])) (fun t k => castTop (own_ef_1DIS m w_DIS) k) ?_
  show Good p e below _ (s₁.setTop (mkF m 0 #[.val (.ref w_DIS)] []))
  refine Good.back (fun _ k => XS.aloadN X0.here hx rfl (hb hby own_d1_0) rfl rfl k) ?_
  show Good p e below _ (s₁.setTop (mkF m 1 #[.val (.ref w_DIS)] [(.ref w_DIS)]))
  obtain ⟨T1, X1, e1, st1⟩ := getS2 X0 hx hZ hown (host := "") (Or.inl (hw _ (List.mem_of_getElem? (i := 36) rfl))) Via.refl e0 S_w_SAB (g := (mkF m 1 #[.val (.ref w_DIS)] [(.ref w_DIS)])) rfl (hb hby own_d1_1)
  refine Good.back st1 ?_
  show Good p e below _ (T1.setTop (mkF m 4 #[.val (.ref w_DIS)] [(.ref w_SAB), (.ref w_DIS)]))
  refine Good.back (fun _ k => Jvm.RoadKit.acmp (g := (mkF m 4 #[.val (.ref w_DIS)] [(.ref w_SAB), (.ref w_DIS)])) X1 hx rfl rfl rfl (pc0 := 4) (pc' := 7) (same := false) rfl (hb hby own_d1_4) rfl (decide_eq_false fun q => hs (Value.ref.inj q)) (by decide) (by decide) k) ?_
  show Good p e below _ (T1.setTop (mkF m 7 #[.val (.ref w_DIS)] []))
  refine Good.back (fun _ k => XS.aloadN X1.here hx rfl (hb hby own_d1_7) rfl rfl k) ?_
  show Good p e below _ (T1.setTop (mkF m 8 #[.val (.ref w_DIS)] [(.ref w_DIS)]))
  obtain ⟨T2, X2, e2, st2⟩ := getS2 X1 hx hZ hown (host := "") (Or.inl (hw _ (List.mem_of_getElem? (i := 37) rfl))) Via.refl e1 S_w_DIS (g := (mkF m 8 #[.val (.ref w_DIS)] [(.ref w_DIS)])) rfl (hb hby own_d1_8)
  refine Good.back st2 ?_
  show Good p e below _ (T2.setTop (mkF m 11 #[.val (.ref w_DIS)] [(.ref w_DIS), (.ref w_DIS)]))
  refine Good.back (fun _ k => Jvm.RoadKit.acmp (g := (mkF m 11 #[.val (.ref w_DIS)] [(.ref w_DIS), (.ref w_DIS)])) X2 hx rfl rfl rfl (pc0 := 11) (pc' := 18) (same := true) rfl (hb hby own_d1_11) rfl (decide_eq_true rfl) (by decide) (by decide) k) ?_
  show Good p e below _ (T2.setTop (mkF m 18 #[.val (.ref w_DIS)] []))
  refine Good.back (fun _ k => XS.iconst X2.here hx rfl (hb hby own_d1_18) k) ?_
  show Good p e below _ (T2.setTop (mkF m 19 #[.val (.ref w_DIS)] [(.int (0 : Int32))]))
  obtain ⟨fs3, hr3, hrun3, hended3, hW3, hsame3⟩ := X2.leave (v := some (.int (0 : Int32))) (fun h => by rw [Bd.returns] at h; cases h)
  refine Good.done (retN X2 hx (t := .boolean) Bd.returns (by simp) (hb hby own_d1_19) hr3) hrun3 hended3 ⟨_, _, rfl, ?_, ⟨_, rfl⟩, hW3, hsame3.mono (by decide) (by decide)⟩
  show Q1DIS Z w_SAB w_DIS h0 n0 _ T2.heap _
  rw [e2]
  exact ⟨rfl, N0, rfl⟩
theorem own_pd10 : parseMethodDescriptor "()Z" = some ⟨[], some .boolean⟩ := by decide +kernel
theorem own_pn1 : plainName "org/ludarium/games/sabotage/KindIsPipePinLaw" = true := by first | (simp [plainName, overriddenIn]; done) | decide +kernel
theorem own_ef_0 (m : MethodId) (x0 : Int32) : entryFrame m #[(.int x0)] maxLocals = mkF m 0 #[.val (.int x0), .unset, .unset, .unset] [] := by first | (simp [entryFrame, mkF, argsToLocals, Value.category, maxLocals]; done) | rfl
def Q0 (Z : State) (p0 : Int32) (w_A : Addr) (w_B : Addr) (w_C : Addr) (w_D : Addr) (w_E : Addr) (w_F : Addr) (w_G : Addr) (w_H : Addr) (w_I : Addr) (w_X : Addr) (w_W : Addr) (w_SAB : Addr) (w_DIS : Addr) (h0 : Heap) (n0 : Nat) (v : Option Value) (h : Heap) (L : List Loc) : Prop := v = some (.int 1) ∧ Fr n0 L
set_option maxRecDepth 65536 in
set_option maxHeartbeats 40000000 in
theorem rm0 (l : Launch) (Z : State) (a0 : Array Value) (hw : ∀ d ∈ tables_1, d.before a0 Z = true) (ws : List Jvm.Cond) (p0 : Int32) (w_A : Addr) (w_B : Addr) (w_C : Addr) (w_D : Addr) (w_E : Addr) (w_F : Addr) (w_G : Addr) (w_H : Addr) (w_I : Addr) (w_X : Addr) (w_W : Addr) (w_SAB : Addr) (w_DIS : Addr) (h0 : Heap) (n0 : Nat) (Z0 : n0 ≤ h0.size) (S_w_A : Sta Z h0 "org/ludarium/games/sabotage/Card$Kind" "A" "Lorg/ludarium/games/sabotage/Card$Kind;" (.ref w_A)) (E_w_A : Exa Z h0 w_A "org/ludarium/games/sabotage/Card$Kind") (S_w_B : Sta Z h0 "org/ludarium/games/sabotage/Card$Kind" "B" "Lorg/ludarium/games/sabotage/Card$Kind;" (.ref w_B)) (E_w_B : Exa Z h0 w_B "org/ludarium/games/sabotage/Card$Kind") (S_w_C : Sta Z h0 "org/ludarium/games/sabotage/Card$Kind" "C" "Lorg/ludarium/games/sabotage/Card$Kind;" (.ref w_C)) (E_w_C : Exa Z h0 w_C "org/ludarium/games/sabotage/Card$Kind") (S_w_D : Sta Z h0 "org/ludarium/games/sabotage/Card$Kind" "D" "Lorg/ludarium/games/sabotage/Card$Kind;" (.ref w_D)) (E_w_D : Exa Z h0 w_D "org/ludarium/games/sabotage/Card$Kind") (S_w_E : Sta Z h0 "org/ludarium/games/sabotage/Card$Kind" "E" "Lorg/ludarium/games/sabotage/Card$Kind;" (.ref w_E)) (E_w_E : Exa Z h0 w_E "org/ludarium/games/sabotage/Card$Kind") (S_w_F : Sta Z h0 "org/ludarium/games/sabotage/Card$Kind" "F" "Lorg/ludarium/games/sabotage/Card$Kind;" (.ref w_F)) (E_w_F : Exa Z h0 w_F "org/ludarium/games/sabotage/Card$Kind") (S_w_G : Sta Z h0 "org/ludarium/games/sabotage/Card$Kind" "G" "Lorg/ludarium/games/sabotage/Card$Kind;" (.ref w_G)) (E_w_G : Exa Z h0 w_G "org/ludarium/games/sabotage/Card$Kind") (S_w_H : Sta Z h0 "org/ludarium/games/sabotage/Card$Kind" "H" "Lorg/ludarium/games/sabotage/Card$Kind;" (.ref w_H)) (E_w_H : Exa Z h0 w_H "org/ludarium/games/sabotage/Card$Kind") (S_w_I : Sta Z h0 "org/ludarium/games/sabotage/Card$Kind" "I" "Lorg/ludarium/games/sabotage/Card$Kind;" (.ref w_I)) (E_w_I : Exa Z h0 w_I "org/ludarium/games/sabotage/Card$Kind") (S_w_X : Sta Z h0 "org/ludarium/games/sabotage/Card$Kind" "X" "Lorg/ludarium/games/sabotage/Card$Kind;" (.ref w_X)) (E_w_X : Exa Z h0 w_X "org/ludarium/games/sabotage/Card$Kind") (S_w_W : Sta Z h0 "org/ludarium/games/sabotage/Card$Kind" "W" "Lorg/ludarium/games/sabotage/Card$Kind;" (.ref w_W)) (E_w_W : Exa Z h0 w_W "org/ludarium/games/sabotage/Card$Kind") (S_w_SAB : Sta Z h0 "org/ludarium/games/sabotage/Card$Kind" "SAB" "Lorg/ludarium/games/sabotage/Card$Kind;" (.ref w_SAB)) (E_w_SAB : Exa Z h0 w_SAB "org/ludarium/games/sabotage/Card$Kind") (S_w_DIS : Sta Z h0 "org/ludarium/games/sabotage/Card$Kind" "DIS" "Lorg/ludarium/games/sabotage/Card$Kind;" (.ref w_DIS)) (E_w_DIS : Exa Z h0 w_DIS "org/ludarium/games/sabotage/Card$Kind") (F_ordinal_w_A : Fld Z h0 w_A "java/lang/Enum" "ordinal" "I" (.int (0 : Int32))) (F_ordinal_w_SAB : Fld Z h0 w_SAB "java/lang/Enum" "ordinal" "I" (.int (11 : Int32))) (F_ordinal_w_DIS : Fld Z h0 w_DIS "java/lang/Enum" "ordinal" "I" (.int (12 : Int32))) (F_ordinal_w_D : Fld Z h0 w_D "java/lang/Enum" "ordinal" "I" (.int (3 : Int32))) (F_ordinal_w_G : Fld Z h0 w_G "java/lang/Enum" "ordinal" "I" (.int (6 : Int32))) (F_ordinal_w_F : Fld Z h0 w_F "java/lang/Enum" "ordinal" "I" (.int (5 : Int32))) (F_ordinal_w_H : Fld Z h0 w_H "java/lang/Enum" "ordinal" "I" (.int (7 : Int32))) (F_ordinal_w_X : Fld Z h0 w_X "java/lang/Enum" "ordinal" "I" (.int (9 : Int32))) (F_ordinal_w_C : Fld Z h0 w_C "java/lang/Enum" "ordinal" "I" (.int (2 : Int32))) (F_ordinal_w_B : Fld Z h0 w_B "java/lang/Enum" "ordinal" "I" (.int (1 : Int32))) (F_ordinal_w_I : Fld Z h0 w_I "java/lang/Enum" "ordinal" "I" (.int (8 : Int32))) (F_ordinal_w_W : Fld Z h0 w_W "java/lang/Enum" "ordinal" "I" (.int (10 : Int32))) (F_ordinal_w_E : Fld Z h0 w_E "java/lang/Enum" "ordinal" "I" (.int (4 : Int32))) (ne_w_A_w_SAB : w_A ≠ w_SAB) (ne_w_A_w_DIS : w_A ≠ w_DIS) (ne_w_SAB_w_DIS : w_SAB ≠ w_DIS) (ne_w_SAB_w_D : w_SAB ≠ w_D) (ne_w_SAB_w_G : w_SAB ≠ w_G) (ne_w_SAB_w_F : w_SAB ≠ w_F) (ne_w_SAB_w_H : w_SAB ≠ w_H) (ne_w_SAB_w_X : w_SAB ≠ w_X) (ne_w_SAB_w_C : w_SAB ≠ w_C) (ne_w_SAB_w_B : w_SAB ≠ w_B) (ne_w_SAB_w_I : w_SAB ≠ w_I) (ne_w_SAB_w_W : w_SAB ≠ w_W) (ne_w_SAB_w_E : w_SAB ≠ w_E) (ne_w_DIS_w_D : w_DIS ≠ w_D) (ne_w_DIS_w_G : w_DIS ≠ w_G) (ne_w_DIS_w_F : w_DIS ≠ w_F) (ne_w_DIS_w_H : w_DIS ≠ w_H) (ne_w_DIS_w_X : w_DIS ≠ w_X) (ne_w_DIS_w_C : w_DIS ≠ w_C) (ne_w_DIS_w_B : w_DIS ≠ w_B) (ne_w_DIS_w_I : w_DIS ≠ w_I) (ne_w_DIS_w_W : w_DIS ≠ w_W) (ne_w_DIS_w_E : w_DIS ≠ w_E) :
    MetFree l x (head1 (Jvm.Cond.code x code maxLocals ret :: ws) room_1) (fun a U => a = #[(.int p0)] ∧ Z.Warmed39 U.vm ∧ U.heap = h0) (fun _ _ _ _ _ => True) (fun _ U o U' => ∃ v L, o = .returned v ∧ Q0 Z p0 w_A w_B w_C w_D w_E w_F w_G w_H w_I w_X w_W w_SAB w_DIS h0 n0 v U'.heap L ∧ FrameEnd U o U' L 16 128) := by
  refine MetFree.of_bodySF (plainFor_of_name own_pn1) hisR ?_
  intro p e s m args below meth c s₁ Bd hml0 hP hK
  obtain ⟨rfl, hZ, hh⟩ := hP
  have hx := Bd.exec
  have hby := Bd.bytes
  have hml : c.maxLocals = 4 := hml0
  have hown : s.vm.findClass "org/ludarium/games/sabotage/KindIsPipePinLaw" = some m.cls := findClass_of_methodNamed Bd.named
  have hnm := (name_of_methodNamed Bd.named Bd.method).1
  have X0 : Stand p l e room_1 s m #[(.int p0)] below meth c s₁ [] 0 0 := Stand.of_body Bd
  have e0 : s₁.heap = h0 := by rw [← hh, Bd.state]; rfl
  have N0 := Fr.nil n0
  show Good p e below (fun o U' => ∃ v L, o = .returned v ∧ Q0 Z p0 w_A w_B w_C w_D w_E w_F w_G w_H w_I w_X w_W w_SAB w_DIS h0 n0 v U'.heap L ∧ FrameEnd s o U' L 16 128) _
  refine Good.back (S' := s₁.setTop (mkF m 0 #[.val (.int p0), .unset, .unset, .unset] [])) (fun t k => castTop (own_ef_0 m p0) k) ?_
  show Good p e below _ (s₁.setTop (mkF m 0 #[.val (.int p0), .unset, .unset, .unset] []))
  refine Good.back (fun _ k => XS.bipush X0.here hx rfl (hb hby at_0) k) ?_
  show Good p e below _ (s₁.setTop (mkF m 2 #[.val (.int p0), .unset, .unset, .unset] [(.int (13 : Int32))]))
  obtain ⟨T1, h1, k1, X1, e1, E1, A1, O1, st1⟩ := newR X0 hx hZ hown (hw _ (List.mem_of_getElem? (i := 0) rfl)) (hw _ (List.mem_of_getElem? (i := 1) rfl)) e0 (g := (mkF m 2 #[.val (.int p0), .unset, .unset, .unset] [(.int (13 : Int32))])) rfl (hb hby at_2) rfl (by decide) (cap := 13) (by decide) (by decide) (by decide) (by decide)
  obtain ⟨b1, g1⟩ : ∃ z, z = h0.size := ⟨_, rfl⟩
  rw [← g1] at A1 st1
  refine Good.back st1 ?_
  have g_b1 : n0 ≤ b1 := Nat.le_trans Z0 (Nat.le_of_eq g1.symm)
  have Z2 : n0 ≤ h1.size := Nat.le_trans Z0 E1.1
  have f_3 : Arv Z h1 b1 k1 (.object "org/ludarium/games/sabotage/Card$Kind") (13 : Int32) [.null, .null, .null, .null, .null, .null, .null, .null, .null, .null, .null, .null, .null] .null := (Arv.new A1 (by decide)).pad (pad_rep [] .null 13)
  show Good p e below _ (T1.setTop (mkF m 5 #[.val (.int p0), .unset, .unset, .unset] [(.ref b1)]))
  refine Good.back (fun _ k => XS.dup X1.here hx rfl (hb hby at_5) rfl rfl k) ?_
  show Good p e below _ (T1.setTop (mkF m 6 #[.val (.int p0), .unset, .unset, .unset] [(.ref b1), (.ref b1)]))
  refine Good.back (fun _ k => XS.iconst X1.here hx rfl (hb hby at_6) k) ?_
  show Good p e below _ (T1.setTop (mkF m 7 #[.val (.int p0), .unset, .unset, .unset] [(.int (0 : Int32)), (.ref b1), (.ref b1)]))
  have f_4 : Sta Z h1 "org/ludarium/games/sabotage/Card$Kind" "A" "Lorg/ludarium/games/sabotage/Card$Kind;" (.ref w_A) := Sta.ext E1 S_w_A
  obtain ⟨T5, X5, e5, st5⟩ := getS2 X1 hx hZ hown (host := "") (Or.inl (hw _ (List.mem_of_getElem? (i := 2) rfl))) Via.refl e1 f_4 (g := (mkF m 7 #[.val (.int p0), .unset, .unset, .unset] [(.int (0 : Int32)), (.ref b1), (.ref b1)])) rfl (hb hby at_7)
  refine Good.back st5 ?_
  show Good p e below _ (T5.setTop (mkF m 10 #[.val (.int p0), .unset, .unset, .unset] [(.ref w_A), (.int (0 : Int32)), (.ref b1), (.ref b1)]))
  have fc6 := f_3
  obtain ⟨cl6, Ar6, qk6, S6, N6', H6, G6⟩ := fc6
  have hin6 : ¬ ((0 : Int32) < 0 ∨ cl6.slots.size ≤ ((0 : Int32)).toNatClampNeg) := inb_of S6 ⟨by decide, by decide⟩
  have f_6 : Exa Z h1 w_A "org/ludarium/games/sabotage/Card$Kind" := Exa.ext E1 E_w_A
  obtain ⟨T7, h7, X7, e7, W7, st7⟩ := stR X5 hx hZ e5 Ar6 (j := (0 : Int32)) hin6 rfl (Sto.ofV Ar6 qk6 O1 (Ins.self f_6)) (g := (mkF m 10 #[.val (.int p0), .unset, .unset, .unset] [(.ref w_A), (.int (0 : Int32)), (.ref b1), (.ref b1)])) rfl rfl (hb hby at_10)
  refine Good.back st7 ?_
  have f_8 : Arv Z h7 b1 k1 (.object "org/ludarium/games/sabotage/Card$Kind") (13 : Int32) [(.ref w_A), .null, .null, .null, .null, .null, .null, .null, .null, .null, .null, .null, .null] .null := Arv.set Ar6 qk6 S6 N6' H6 G6 rfl W7 0 rfl (Nat.le_of_ble_eq_true rfl)
  have N7 := Fr.snoc X7 N0 g_b1
  have Z9 : n0 ≤ h7.size := Nat.le_trans Z2 (Keep.of_wr W7).1
  show Good p e below _ (T7.setTop (mkF m 11 #[.val (.int p0), .unset, .unset, .unset] [(.ref b1)]))
  refine Good.back (fun _ k => XS.dup X7.here hx rfl (hb hby at_11) rfl rfl k) ?_
  show Good p e below _ (T7.setTop (mkF m 12 #[.val (.int p0), .unset, .unset, .unset] [(.ref b1), (.ref b1)]))
  refine Good.back (fun _ k => XS.iconst X7.here hx rfl (hb hby at_12) k) ?_
  show Good p e below _ (T7.setTop (mkF m 13 #[.val (.int p0), .unset, .unset, .unset] [(.int (1 : Int32)), (.ref b1), (.ref b1)]))
  have f_10 : Sta Z h1 "org/ludarium/games/sabotage/Card$Kind" "B" "Lorg/ludarium/games/sabotage/Card$Kind;" (.ref w_B) := Sta.ext E1 S_w_B
  have f_11 : Sta Z h7 "org/ludarium/games/sabotage/Card$Kind" "B" "Lorg/ludarium/games/sabotage/Card$Kind;" (.ref w_B) := Sta.wr W7 f_10
  obtain ⟨T12, X12, e12, st12⟩ := getS2 X7 hx hZ hown (host := "") (Or.inl (hw _ (List.mem_of_getElem? (i := 6) rfl))) Via.refl e7 f_11 (g := (mkF m 13 #[.val (.int p0), .unset, .unset, .unset] [(.int (1 : Int32)), (.ref b1), (.ref b1)])) rfl (hb hby at_13)
  refine Good.back st12 ?_
  show Good p e below _ (T12.setTop (mkF m 16 #[.val (.int p0), .unset, .unset, .unset] [(.ref w_B), (.int (1 : Int32)), (.ref b1), (.ref b1)]))
  have fc13 := f_8
  obtain ⟨cl13, Ar13, qk13, S13, N13', H13, G13⟩ := fc13
  have hin13 : ¬ ((1 : Int32) < 0 ∨ cl13.slots.size ≤ ((1 : Int32)).toNatClampNeg) := inb_of S13 ⟨by decide, by decide⟩
  have f_13 : Exa Z h1 w_B "org/ludarium/games/sabotage/Card$Kind" := Exa.ext E1 E_w_B
  have f_14 : Exa Z h7 w_B "org/ludarium/games/sabotage/Card$Kind" := Exa.wr W7 f_13
  obtain ⟨T15, h15, X15, e15, W15, st15⟩ := stR X12 hx hZ e12 Ar13 (j := (1 : Int32)) hin13 rfl (Sto.ofV Ar13 qk13 O1 (Ins.self f_14)) (g := (mkF m 16 #[.val (.int p0), .unset, .unset, .unset] [(.ref w_B), (.int (1 : Int32)), (.ref b1), (.ref b1)])) rfl rfl (hb hby at_16)
  refine Good.back st15 ?_
  have f_16 : Arv Z h15 b1 k1 (.object "org/ludarium/games/sabotage/Card$Kind") (13 : Int32) [(.ref w_A), (.ref w_B), .null, .null, .null, .null, .null, .null, .null, .null, .null, .null, .null] .null := Arv.set Ar13 qk13 S13 N13' H13 G13 rfl W15 1 rfl (Nat.le_of_ble_eq_true rfl)
  have N15 := Fr.snoc X15 N7 g_b1
  have Z17 : n0 ≤ h15.size := Nat.le_trans Z9 (Keep.of_wr W15).1
  show Good p e below _ (T15.setTop (mkF m 17 #[.val (.int p0), .unset, .unset, .unset] [(.ref b1)]))
  refine Good.back (fun _ k => XS.dup X15.here hx rfl (hb hby at_17) rfl rfl k) ?_
  show Good p e below _ (T15.setTop (mkF m 18 #[.val (.int p0), .unset, .unset, .unset] [(.ref b1), (.ref b1)]))
  refine Good.back (fun _ k => XS.iconst X15.here hx rfl (hb hby at_18) k) ?_
  show Good p e below _ (T15.setTop (mkF m 19 #[.val (.int p0), .unset, .unset, .unset] [(.int (2 : Int32)), (.ref b1), (.ref b1)]))
  have f_18 : Sta Z h1 "org/ludarium/games/sabotage/Card$Kind" "C" "Lorg/ludarium/games/sabotage/Card$Kind;" (.ref w_C) := Sta.ext E1 S_w_C
  have f_19 : Sta Z h7 "org/ludarium/games/sabotage/Card$Kind" "C" "Lorg/ludarium/games/sabotage/Card$Kind;" (.ref w_C) := Sta.wr W7 f_18
  have f_20 : Sta Z h15 "org/ludarium/games/sabotage/Card$Kind" "C" "Lorg/ludarium/games/sabotage/Card$Kind;" (.ref w_C) := Sta.wr W15 f_19
  obtain ⟨T21, X21, e21, st21⟩ := getS2 X15 hx hZ hown (host := "") (Or.inl (hw _ (List.mem_of_getElem? (i := 8) rfl))) Via.refl e15 f_20 (g := (mkF m 19 #[.val (.int p0), .unset, .unset, .unset] [(.int (2 : Int32)), (.ref b1), (.ref b1)])) rfl (hb hby at_19)
  refine Good.back st21 ?_
  show Good p e below _ (T21.setTop (mkF m 22 #[.val (.int p0), .unset, .unset, .unset] [(.ref w_C), (.int (2 : Int32)), (.ref b1), (.ref b1)]))
  have fc22 := f_16
  obtain ⟨cl22, Ar22, qk22, S22, N22', H22, G22⟩ := fc22
  have hin22 : ¬ ((2 : Int32) < 0 ∨ cl22.slots.size ≤ ((2 : Int32)).toNatClampNeg) := inb_of S22 ⟨by decide, by decide⟩
  have f_22 : Exa Z h1 w_C "org/ludarium/games/sabotage/Card$Kind" := Exa.ext E1 E_w_C
  have f_23 : Exa Z h7 w_C "org/ludarium/games/sabotage/Card$Kind" := Exa.wr W7 f_22
  have f_24 : Exa Z h15 w_C "org/ludarium/games/sabotage/Card$Kind" := Exa.wr W15 f_23
  obtain ⟨T25, h25, X25, e25, W25, st25⟩ := stR X21 hx hZ e21 Ar22 (j := (2 : Int32)) hin22 rfl (Sto.ofV Ar22 qk22 O1 (Ins.self f_24)) (g := (mkF m 22 #[.val (.int p0), .unset, .unset, .unset] [(.ref w_C), (.int (2 : Int32)), (.ref b1), (.ref b1)])) rfl rfl (hb hby at_22)
  refine Good.back st25 ?_
  have f_26 : Arv Z h25 b1 k1 (.object "org/ludarium/games/sabotage/Card$Kind") (13 : Int32) [(.ref w_A), (.ref w_B), (.ref w_C), .null, .null, .null, .null, .null, .null, .null, .null, .null, .null] .null := Arv.set Ar22 qk22 S22 N22' H22 G22 rfl W25 2 rfl (Nat.le_of_ble_eq_true rfl)
  have N25 := Fr.snoc X25 N15 g_b1
  have Z27 : n0 ≤ h25.size := Nat.le_trans Z17 (Keep.of_wr W25).1
  show Good p e below _ (T25.setTop (mkF m 23 #[.val (.int p0), .unset, .unset, .unset] [(.ref b1)]))
  refine Good.back (fun _ k => XS.dup X25.here hx rfl (hb hby at_23) rfl rfl k) ?_
  show Good p e below _ (T25.setTop (mkF m 24 #[.val (.int p0), .unset, .unset, .unset] [(.ref b1), (.ref b1)]))
  refine Good.back (fun _ k => XS.iconst X25.here hx rfl (hb hby at_24) k) ?_
  show Good p e below _ (T25.setTop (mkF m 25 #[.val (.int p0), .unset, .unset, .unset] [(.int (3 : Int32)), (.ref b1), (.ref b1)]))
  have f_28 : Sta Z h1 "org/ludarium/games/sabotage/Card$Kind" "D" "Lorg/ludarium/games/sabotage/Card$Kind;" (.ref w_D) := Sta.ext E1 S_w_D
  have f_29 : Sta Z h7 "org/ludarium/games/sabotage/Card$Kind" "D" "Lorg/ludarium/games/sabotage/Card$Kind;" (.ref w_D) := Sta.wr W7 f_28
  have f_30 : Sta Z h15 "org/ludarium/games/sabotage/Card$Kind" "D" "Lorg/ludarium/games/sabotage/Card$Kind;" (.ref w_D) := Sta.wr W15 f_29
  have f_31 : Sta Z h25 "org/ludarium/games/sabotage/Card$Kind" "D" "Lorg/ludarium/games/sabotage/Card$Kind;" (.ref w_D) := Sta.wr W25 f_30
  obtain ⟨T32, X32, e32, st32⟩ := getS2 X25 hx hZ hown (host := "") (Or.inl (hw _ (List.mem_of_getElem? (i := 10) rfl))) Via.refl e25 f_31 (g := (mkF m 25 #[.val (.int p0), .unset, .unset, .unset] [(.int (3 : Int32)), (.ref b1), (.ref b1)])) rfl (hb hby at_25)
  refine Good.back st32 ?_
  show Good p e below _ (T32.setTop (mkF m 28 #[.val (.int p0), .unset, .unset, .unset] [(.ref w_D), (.int (3 : Int32)), (.ref b1), (.ref b1)]))
  have fc33 := f_26
  obtain ⟨cl33, Ar33, qk33, S33, N33', H33, G33⟩ := fc33
  have hin33 : ¬ ((3 : Int32) < 0 ∨ cl33.slots.size ≤ ((3 : Int32)).toNatClampNeg) := inb_of S33 ⟨by decide, by decide⟩
  have f_33 : Exa Z h1 w_D "org/ludarium/games/sabotage/Card$Kind" := Exa.ext E1 E_w_D
  have f_34 : Exa Z h7 w_D "org/ludarium/games/sabotage/Card$Kind" := Exa.wr W7 f_33
  have f_35 : Exa Z h15 w_D "org/ludarium/games/sabotage/Card$Kind" := Exa.wr W15 f_34
  have f_36 : Exa Z h25 w_D "org/ludarium/games/sabotage/Card$Kind" := Exa.wr W25 f_35
  obtain ⟨T37, h37, X37, e37, W37, st37⟩ := stR X32 hx hZ e32 Ar33 (j := (3 : Int32)) hin33 rfl (Sto.ofV Ar33 qk33 O1 (Ins.self f_36)) (g := (mkF m 28 #[.val (.int p0), .unset, .unset, .unset] [(.ref w_D), (.int (3 : Int32)), (.ref b1), (.ref b1)])) rfl rfl (hb hby at_28)
  refine Good.back st37 ?_
  have f_38 : Arv Z h37 b1 k1 (.object "org/ludarium/games/sabotage/Card$Kind") (13 : Int32) [(.ref w_A), (.ref w_B), (.ref w_C), (.ref w_D), .null, .null, .null, .null, .null, .null, .null, .null, .null] .null := Arv.set Ar33 qk33 S33 N33' H33 G33 rfl W37 3 rfl (Nat.le_of_ble_eq_true rfl)
  have N37 := Fr.snoc X37 N25 g_b1
  have Z39 : n0 ≤ h37.size := Nat.le_trans Z27 (Keep.of_wr W37).1
  show Good p e below _ (T37.setTop (mkF m 29 #[.val (.int p0), .unset, .unset, .unset] [(.ref b1)]))
  refine Good.back (fun _ k => XS.dup X37.here hx rfl (hb hby at_29) rfl rfl k) ?_
  show Good p e below _ (T37.setTop (mkF m 30 #[.val (.int p0), .unset, .unset, .unset] [(.ref b1), (.ref b1)]))
  refine Good.back (fun _ k => XS.iconst X37.here hx rfl (hb hby at_30) k) ?_
  show Good p e below _ (T37.setTop (mkF m 31 #[.val (.int p0), .unset, .unset, .unset] [(.int (4 : Int32)), (.ref b1), (.ref b1)]))
  have f_40 : Sta Z h1 "org/ludarium/games/sabotage/Card$Kind" "E" "Lorg/ludarium/games/sabotage/Card$Kind;" (.ref w_E) := Sta.ext E1 S_w_E
  have f_41 : Sta Z h7 "org/ludarium/games/sabotage/Card$Kind" "E" "Lorg/ludarium/games/sabotage/Card$Kind;" (.ref w_E) := Sta.wr W7 f_40
  have f_42 : Sta Z h15 "org/ludarium/games/sabotage/Card$Kind" "E" "Lorg/ludarium/games/sabotage/Card$Kind;" (.ref w_E) := Sta.wr W15 f_41
  have f_43 : Sta Z h25 "org/ludarium/games/sabotage/Card$Kind" "E" "Lorg/ludarium/games/sabotage/Card$Kind;" (.ref w_E) := Sta.wr W25 f_42
  have f_44 : Sta Z h37 "org/ludarium/games/sabotage/Card$Kind" "E" "Lorg/ludarium/games/sabotage/Card$Kind;" (.ref w_E) := Sta.wr W37 f_43
  obtain ⟨T45, X45, e45, st45⟩ := getS2 X37 hx hZ hown (host := "") (Or.inl (hw _ (List.mem_of_getElem? (i := 12) rfl))) Via.refl e37 f_44 (g := (mkF m 31 #[.val (.int p0), .unset, .unset, .unset] [(.int (4 : Int32)), (.ref b1), (.ref b1)])) rfl (hb hby at_31)
  refine Good.back st45 ?_
  show Good p e below _ (T45.setTop (mkF m 34 #[.val (.int p0), .unset, .unset, .unset] [(.ref w_E), (.int (4 : Int32)), (.ref b1), (.ref b1)]))
  have fc46 := f_38
  obtain ⟨cl46, Ar46, qk46, S46, N46', H46, G46⟩ := fc46
  have hin46 : ¬ ((4 : Int32) < 0 ∨ cl46.slots.size ≤ ((4 : Int32)).toNatClampNeg) := inb_of S46 ⟨by decide, by decide⟩
  have f_46 : Exa Z h1 w_E "org/ludarium/games/sabotage/Card$Kind" := Exa.ext E1 E_w_E
  have f_47 : Exa Z h7 w_E "org/ludarium/games/sabotage/Card$Kind" := Exa.wr W7 f_46
  have f_48 : Exa Z h15 w_E "org/ludarium/games/sabotage/Card$Kind" := Exa.wr W15 f_47
  have f_49 : Exa Z h25 w_E "org/ludarium/games/sabotage/Card$Kind" := Exa.wr W25 f_48
  have f_50 : Exa Z h37 w_E "org/ludarium/games/sabotage/Card$Kind" := Exa.wr W37 f_49
  obtain ⟨T51, h51, X51, e51, W51, st51⟩ := stR X45 hx hZ e45 Ar46 (j := (4 : Int32)) hin46 rfl (Sto.ofV Ar46 qk46 O1 (Ins.self f_50)) (g := (mkF m 34 #[.val (.int p0), .unset, .unset, .unset] [(.ref w_E), (.int (4 : Int32)), (.ref b1), (.ref b1)])) rfl rfl (hb hby at_34)
  refine Good.back st51 ?_
  have f_52 : Arv Z h51 b1 k1 (.object "org/ludarium/games/sabotage/Card$Kind") (13 : Int32) [(.ref w_A), (.ref w_B), (.ref w_C), (.ref w_D), (.ref w_E), .null, .null, .null, .null, .null, .null, .null, .null] .null := Arv.set Ar46 qk46 S46 N46' H46 G46 rfl W51 4 rfl (Nat.le_of_ble_eq_true rfl)
  have N51 := Fr.snoc X51 N37 g_b1
  have Z53 : n0 ≤ h51.size := Nat.le_trans Z39 (Keep.of_wr W51).1
  show Good p e below _ (T51.setTop (mkF m 35 #[.val (.int p0), .unset, .unset, .unset] [(.ref b1)]))
  refine Good.back (fun _ k => XS.dup X51.here hx rfl (hb hby at_35) rfl rfl k) ?_
  show Good p e below _ (T51.setTop (mkF m 36 #[.val (.int p0), .unset, .unset, .unset] [(.ref b1), (.ref b1)]))
  refine Good.back (fun _ k => XS.iconst X51.here hx rfl (hb hby at_36) k) ?_
  show Good p e below _ (T51.setTop (mkF m 37 #[.val (.int p0), .unset, .unset, .unset] [(.int (5 : Int32)), (.ref b1), (.ref b1)]))
  have f_54 : Sta Z h1 "org/ludarium/games/sabotage/Card$Kind" "F" "Lorg/ludarium/games/sabotage/Card$Kind;" (.ref w_F) := Sta.ext E1 S_w_F
  have f_55 : Sta Z h7 "org/ludarium/games/sabotage/Card$Kind" "F" "Lorg/ludarium/games/sabotage/Card$Kind;" (.ref w_F) := Sta.wr W7 f_54
  have f_56 : Sta Z h15 "org/ludarium/games/sabotage/Card$Kind" "F" "Lorg/ludarium/games/sabotage/Card$Kind;" (.ref w_F) := Sta.wr W15 f_55
  have f_57 : Sta Z h25 "org/ludarium/games/sabotage/Card$Kind" "F" "Lorg/ludarium/games/sabotage/Card$Kind;" (.ref w_F) := Sta.wr W25 f_56
  have f_58 : Sta Z h37 "org/ludarium/games/sabotage/Card$Kind" "F" "Lorg/ludarium/games/sabotage/Card$Kind;" (.ref w_F) := Sta.wr W37 f_57
  have f_59 : Sta Z h51 "org/ludarium/games/sabotage/Card$Kind" "F" "Lorg/ludarium/games/sabotage/Card$Kind;" (.ref w_F) := Sta.wr W51 f_58
  obtain ⟨T60, X60, e60, st60⟩ := getS2 X51 hx hZ hown (host := "") (Or.inl (hw _ (List.mem_of_getElem? (i := 14) rfl))) Via.refl e51 f_59 (g := (mkF m 37 #[.val (.int p0), .unset, .unset, .unset] [(.int (5 : Int32)), (.ref b1), (.ref b1)])) rfl (hb hby at_37)
  refine Good.back st60 ?_
  show Good p e below _ (T60.setTop (mkF m 40 #[.val (.int p0), .unset, .unset, .unset] [(.ref w_F), (.int (5 : Int32)), (.ref b1), (.ref b1)]))
  have fc61 := f_52
  obtain ⟨cl61, Ar61, qk61, S61, N61', H61, G61⟩ := fc61
  have hin61 : ¬ ((5 : Int32) < 0 ∨ cl61.slots.size ≤ ((5 : Int32)).toNatClampNeg) := inb_of S61 ⟨by decide, by decide⟩
  have f_61 : Exa Z h1 w_F "org/ludarium/games/sabotage/Card$Kind" := Exa.ext E1 E_w_F
  have f_62 : Exa Z h7 w_F "org/ludarium/games/sabotage/Card$Kind" := Exa.wr W7 f_61
  have f_63 : Exa Z h15 w_F "org/ludarium/games/sabotage/Card$Kind" := Exa.wr W15 f_62
  have f_64 : Exa Z h25 w_F "org/ludarium/games/sabotage/Card$Kind" := Exa.wr W25 f_63
  have f_65 : Exa Z h37 w_F "org/ludarium/games/sabotage/Card$Kind" := Exa.wr W37 f_64
  have f_66 : Exa Z h51 w_F "org/ludarium/games/sabotage/Card$Kind" := Exa.wr W51 f_65
  obtain ⟨T67, h67, X67, e67, W67, st67⟩ := stR X60 hx hZ e60 Ar61 (j := (5 : Int32)) hin61 rfl (Sto.ofV Ar61 qk61 O1 (Ins.self f_66)) (g := (mkF m 40 #[.val (.int p0), .unset, .unset, .unset] [(.ref w_F), (.int (5 : Int32)), (.ref b1), (.ref b1)])) rfl rfl (hb hby at_40)
  refine Good.back st67 ?_
  have f_68 : Arv Z h67 b1 k1 (.object "org/ludarium/games/sabotage/Card$Kind") (13 : Int32) [(.ref w_A), (.ref w_B), (.ref w_C), (.ref w_D), (.ref w_E), (.ref w_F), .null, .null, .null, .null, .null, .null, .null] .null := Arv.set Ar61 qk61 S61 N61' H61 G61 rfl W67 5 rfl (Nat.le_of_ble_eq_true rfl)
  have N67 := Fr.snoc X67 N51 g_b1
  have Z69 : n0 ≤ h67.size := Nat.le_trans Z53 (Keep.of_wr W67).1
  show Good p e below _ (T67.setTop (mkF m 41 #[.val (.int p0), .unset, .unset, .unset] [(.ref b1)]))
  refine Good.back (fun _ k => XS.dup X67.here hx rfl (hb hby at_41) rfl rfl k) ?_
  show Good p e below _ (T67.setTop (mkF m 42 #[.val (.int p0), .unset, .unset, .unset] [(.ref b1), (.ref b1)]))
  refine Good.back (fun _ k => XS.bipush X67.here hx rfl (hb hby at_42) k) ?_
  show Good p e below _ (T67.setTop (mkF m 44 #[.val (.int p0), .unset, .unset, .unset] [(.int (6 : Int32)), (.ref b1), (.ref b1)]))
  have f_70 : Sta Z h1 "org/ludarium/games/sabotage/Card$Kind" "G" "Lorg/ludarium/games/sabotage/Card$Kind;" (.ref w_G) := Sta.ext E1 S_w_G
  have f_71 : Sta Z h7 "org/ludarium/games/sabotage/Card$Kind" "G" "Lorg/ludarium/games/sabotage/Card$Kind;" (.ref w_G) := Sta.wr W7 f_70
  have f_72 : Sta Z h15 "org/ludarium/games/sabotage/Card$Kind" "G" "Lorg/ludarium/games/sabotage/Card$Kind;" (.ref w_G) := Sta.wr W15 f_71
  have f_73 : Sta Z h25 "org/ludarium/games/sabotage/Card$Kind" "G" "Lorg/ludarium/games/sabotage/Card$Kind;" (.ref w_G) := Sta.wr W25 f_72
  have f_74 : Sta Z h37 "org/ludarium/games/sabotage/Card$Kind" "G" "Lorg/ludarium/games/sabotage/Card$Kind;" (.ref w_G) := Sta.wr W37 f_73
  have f_75 : Sta Z h51 "org/ludarium/games/sabotage/Card$Kind" "G" "Lorg/ludarium/games/sabotage/Card$Kind;" (.ref w_G) := Sta.wr W51 f_74
  have f_76 : Sta Z h67 "org/ludarium/games/sabotage/Card$Kind" "G" "Lorg/ludarium/games/sabotage/Card$Kind;" (.ref w_G) := Sta.wr W67 f_75
  obtain ⟨T77, X77, e77, st77⟩ := getS2 X67 hx hZ hown (host := "") (Or.inl (hw _ (List.mem_of_getElem? (i := 16) rfl))) Via.refl e67 f_76 (g := (mkF m 44 #[.val (.int p0), .unset, .unset, .unset] [(.int (6 : Int32)), (.ref b1), (.ref b1)])) rfl (hb hby at_44)
  refine Good.back st77 ?_
  show Good p e below _ (T77.setTop (mkF m 47 #[.val (.int p0), .unset, .unset, .unset] [(.ref w_G), (.int (6 : Int32)), (.ref b1), (.ref b1)]))
  have fc78 := f_68
  obtain ⟨cl78, Ar78, qk78, S78, N78', H78, G78⟩ := fc78
  have hin78 : ¬ ((6 : Int32) < 0 ∨ cl78.slots.size ≤ ((6 : Int32)).toNatClampNeg) := inb_of S78 ⟨by decide, by decide⟩
  have f_78 : Exa Z h1 w_G "org/ludarium/games/sabotage/Card$Kind" := Exa.ext E1 E_w_G
  have f_79 : Exa Z h7 w_G "org/ludarium/games/sabotage/Card$Kind" := Exa.wr W7 f_78
  have f_80 : Exa Z h15 w_G "org/ludarium/games/sabotage/Card$Kind" := Exa.wr W15 f_79
  have f_81 : Exa Z h25 w_G "org/ludarium/games/sabotage/Card$Kind" := Exa.wr W25 f_80
  have f_82 : Exa Z h37 w_G "org/ludarium/games/sabotage/Card$Kind" := Exa.wr W37 f_81
  have f_83 : Exa Z h51 w_G "org/ludarium/games/sabotage/Card$Kind" := Exa.wr W51 f_82
  have f_84 : Exa Z h67 w_G "org/ludarium/games/sabotage/Card$Kind" := Exa.wr W67 f_83
  obtain ⟨T85, h85, X85, e85, W85, st85⟩ := stR X77 hx hZ e77 Ar78 (j := (6 : Int32)) hin78 rfl (Sto.ofV Ar78 qk78 O1 (Ins.self f_84)) (g := (mkF m 47 #[.val (.int p0), .unset, .unset, .unset] [(.ref w_G), (.int (6 : Int32)), (.ref b1), (.ref b1)])) rfl rfl (hb hby at_47)
  refine Good.back st85 ?_
  have f_86 : Arv Z h85 b1 k1 (.object "org/ludarium/games/sabotage/Card$Kind") (13 : Int32) [(.ref w_A), (.ref w_B), (.ref w_C), (.ref w_D), (.ref w_E), (.ref w_F), (.ref w_G), .null, .null, .null, .null, .null, .null] .null := Arv.set Ar78 qk78 S78 N78' H78 G78 rfl W85 6 rfl (Nat.le_of_ble_eq_true rfl)
  have N85 := Fr.snoc X85 N67 g_b1
  have Z87 : n0 ≤ h85.size := Nat.le_trans Z69 (Keep.of_wr W85).1
  show Good p e below _ (T85.setTop (mkF m 48 #[.val (.int p0), .unset, .unset, .unset] [(.ref b1)]))
  refine Good.back (fun _ k => XS.dup X85.here hx rfl (hb hby at_48) rfl rfl k) ?_
  show Good p e below _ (T85.setTop (mkF m 49 #[.val (.int p0), .unset, .unset, .unset] [(.ref b1), (.ref b1)]))
  refine Good.back (fun _ k => XS.bipush X85.here hx rfl (hb hby at_49) k) ?_
  show Good p e below _ (T85.setTop (mkF m 51 #[.val (.int p0), .unset, .unset, .unset] [(.int (7 : Int32)), (.ref b1), (.ref b1)]))
  have f_88 : Sta Z h1 "org/ludarium/games/sabotage/Card$Kind" "H" "Lorg/ludarium/games/sabotage/Card$Kind;" (.ref w_H) := Sta.ext E1 S_w_H
  have f_89 : Sta Z h7 "org/ludarium/games/sabotage/Card$Kind" "H" "Lorg/ludarium/games/sabotage/Card$Kind;" (.ref w_H) := Sta.wr W7 f_88
  have f_90 : Sta Z h15 "org/ludarium/games/sabotage/Card$Kind" "H" "Lorg/ludarium/games/sabotage/Card$Kind;" (.ref w_H) := Sta.wr W15 f_89
  have f_91 : Sta Z h25 "org/ludarium/games/sabotage/Card$Kind" "H" "Lorg/ludarium/games/sabotage/Card$Kind;" (.ref w_H) := Sta.wr W25 f_90
  have f_92 : Sta Z h37 "org/ludarium/games/sabotage/Card$Kind" "H" "Lorg/ludarium/games/sabotage/Card$Kind;" (.ref w_H) := Sta.wr W37 f_91
  have f_93 : Sta Z h51 "org/ludarium/games/sabotage/Card$Kind" "H" "Lorg/ludarium/games/sabotage/Card$Kind;" (.ref w_H) := Sta.wr W51 f_92
  have f_94 : Sta Z h67 "org/ludarium/games/sabotage/Card$Kind" "H" "Lorg/ludarium/games/sabotage/Card$Kind;" (.ref w_H) := Sta.wr W67 f_93
  have f_95 : Sta Z h85 "org/ludarium/games/sabotage/Card$Kind" "H" "Lorg/ludarium/games/sabotage/Card$Kind;" (.ref w_H) := Sta.wr W85 f_94
  obtain ⟨T96, X96, e96, st96⟩ := getS2 X85 hx hZ hown (host := "") (Or.inl (hw _ (List.mem_of_getElem? (i := 18) rfl))) Via.refl e85 f_95 (g := (mkF m 51 #[.val (.int p0), .unset, .unset, .unset] [(.int (7 : Int32)), (.ref b1), (.ref b1)])) rfl (hb hby at_51)
  refine Good.back st96 ?_
  show Good p e below _ (T96.setTop (mkF m 54 #[.val (.int p0), .unset, .unset, .unset] [(.ref w_H), (.int (7 : Int32)), (.ref b1), (.ref b1)]))
  have fc97 := f_86
  obtain ⟨cl97, Ar97, qk97, S97, N97', H97, G97⟩ := fc97
  have hin97 : ¬ ((7 : Int32) < 0 ∨ cl97.slots.size ≤ ((7 : Int32)).toNatClampNeg) := inb_of S97 ⟨by decide, by decide⟩
  have f_97 : Exa Z h1 w_H "org/ludarium/games/sabotage/Card$Kind" := Exa.ext E1 E_w_H
  have f_98 : Exa Z h7 w_H "org/ludarium/games/sabotage/Card$Kind" := Exa.wr W7 f_97
  have f_99 : Exa Z h15 w_H "org/ludarium/games/sabotage/Card$Kind" := Exa.wr W15 f_98
  have f_100 : Exa Z h25 w_H "org/ludarium/games/sabotage/Card$Kind" := Exa.wr W25 f_99
  have f_101 : Exa Z h37 w_H "org/ludarium/games/sabotage/Card$Kind" := Exa.wr W37 f_100
  have f_102 : Exa Z h51 w_H "org/ludarium/games/sabotage/Card$Kind" := Exa.wr W51 f_101
  have f_103 : Exa Z h67 w_H "org/ludarium/games/sabotage/Card$Kind" := Exa.wr W67 f_102
  have f_104 : Exa Z h85 w_H "org/ludarium/games/sabotage/Card$Kind" := Exa.wr W85 f_103
  obtain ⟨T105, h105, X105, e105, W105, st105⟩ := stR X96 hx hZ e96 Ar97 (j := (7 : Int32)) hin97 rfl (Sto.ofV Ar97 qk97 O1 (Ins.self f_104)) (g := (mkF m 54 #[.val (.int p0), .unset, .unset, .unset] [(.ref w_H), (.int (7 : Int32)), (.ref b1), (.ref b1)])) rfl rfl (hb hby at_54)
  refine Good.back st105 ?_
  have f_106 : Arv Z h105 b1 k1 (.object "org/ludarium/games/sabotage/Card$Kind") (13 : Int32) [(.ref w_A), (.ref w_B), (.ref w_C), (.ref w_D), (.ref w_E), (.ref w_F), (.ref w_G), (.ref w_H), .null, .null, .null, .null, .null] .null := Arv.set Ar97 qk97 S97 N97' H97 G97 rfl W105 7 rfl (Nat.le_of_ble_eq_true rfl)
  have N105 := Fr.snoc X105 N85 g_b1
  have Z107 : n0 ≤ h105.size := Nat.le_trans Z87 (Keep.of_wr W105).1
  show Good p e below _ (T105.setTop (mkF m 55 #[.val (.int p0), .unset, .unset, .unset] [(.ref b1)]))
  refine Good.back (fun _ k => XS.dup X105.here hx rfl (hb hby at_55) rfl rfl k) ?_
  show Good p e below _ (T105.setTop (mkF m 56 #[.val (.int p0), .unset, .unset, .unset] [(.ref b1), (.ref b1)]))
  refine Good.back (fun _ k => XS.bipush X105.here hx rfl (hb hby at_56) k) ?_
  show Good p e below _ (T105.setTop (mkF m 58 #[.val (.int p0), .unset, .unset, .unset] [(.int (8 : Int32)), (.ref b1), (.ref b1)]))
  have f_108 : Sta Z h1 "org/ludarium/games/sabotage/Card$Kind" "I" "Lorg/ludarium/games/sabotage/Card$Kind;" (.ref w_I) := Sta.ext E1 S_w_I
  have f_109 : Sta Z h7 "org/ludarium/games/sabotage/Card$Kind" "I" "Lorg/ludarium/games/sabotage/Card$Kind;" (.ref w_I) := Sta.wr W7 f_108
  have f_110 : Sta Z h15 "org/ludarium/games/sabotage/Card$Kind" "I" "Lorg/ludarium/games/sabotage/Card$Kind;" (.ref w_I) := Sta.wr W15 f_109
  have f_111 : Sta Z h25 "org/ludarium/games/sabotage/Card$Kind" "I" "Lorg/ludarium/games/sabotage/Card$Kind;" (.ref w_I) := Sta.wr W25 f_110
  have f_112 : Sta Z h37 "org/ludarium/games/sabotage/Card$Kind" "I" "Lorg/ludarium/games/sabotage/Card$Kind;" (.ref w_I) := Sta.wr W37 f_111
  have f_113 : Sta Z h51 "org/ludarium/games/sabotage/Card$Kind" "I" "Lorg/ludarium/games/sabotage/Card$Kind;" (.ref w_I) := Sta.wr W51 f_112
  have f_114 : Sta Z h67 "org/ludarium/games/sabotage/Card$Kind" "I" "Lorg/ludarium/games/sabotage/Card$Kind;" (.ref w_I) := Sta.wr W67 f_113
  have f_115 : Sta Z h85 "org/ludarium/games/sabotage/Card$Kind" "I" "Lorg/ludarium/games/sabotage/Card$Kind;" (.ref w_I) := Sta.wr W85 f_114
  have f_116 : Sta Z h105 "org/ludarium/games/sabotage/Card$Kind" "I" "Lorg/ludarium/games/sabotage/Card$Kind;" (.ref w_I) := Sta.wr W105 f_115
  obtain ⟨T117, X117, e117, st117⟩ := getS2 X105 hx hZ hown (host := "") (Or.inl (hw _ (List.mem_of_getElem? (i := 20) rfl))) Via.refl e105 f_116 (g := (mkF m 58 #[.val (.int p0), .unset, .unset, .unset] [(.int (8 : Int32)), (.ref b1), (.ref b1)])) rfl (hb hby at_58)
  refine Good.back st117 ?_
  show Good p e below _ (T117.setTop (mkF m 61 #[.val (.int p0), .unset, .unset, .unset] [(.ref w_I), (.int (8 : Int32)), (.ref b1), (.ref b1)]))
  have fc118 := f_106
  obtain ⟨cl118, Ar118, qk118, S118, N118', H118, G118⟩ := fc118
  have hin118 : ¬ ((8 : Int32) < 0 ∨ cl118.slots.size ≤ ((8 : Int32)).toNatClampNeg) := inb_of S118 ⟨by decide, by decide⟩
  have f_118 : Exa Z h1 w_I "org/ludarium/games/sabotage/Card$Kind" := Exa.ext E1 E_w_I
  have f_119 : Exa Z h7 w_I "org/ludarium/games/sabotage/Card$Kind" := Exa.wr W7 f_118
  have f_120 : Exa Z h15 w_I "org/ludarium/games/sabotage/Card$Kind" := Exa.wr W15 f_119
  have f_121 : Exa Z h25 w_I "org/ludarium/games/sabotage/Card$Kind" := Exa.wr W25 f_120
  have f_122 : Exa Z h37 w_I "org/ludarium/games/sabotage/Card$Kind" := Exa.wr W37 f_121
  have f_123 : Exa Z h51 w_I "org/ludarium/games/sabotage/Card$Kind" := Exa.wr W51 f_122
  have f_124 : Exa Z h67 w_I "org/ludarium/games/sabotage/Card$Kind" := Exa.wr W67 f_123
  have f_125 : Exa Z h85 w_I "org/ludarium/games/sabotage/Card$Kind" := Exa.wr W85 f_124
  have f_126 : Exa Z h105 w_I "org/ludarium/games/sabotage/Card$Kind" := Exa.wr W105 f_125
  obtain ⟨T127, h127, X127, e127, W127, st127⟩ := stR X117 hx hZ e117 Ar118 (j := (8 : Int32)) hin118 rfl (Sto.ofV Ar118 qk118 O1 (Ins.self f_126)) (g := (mkF m 61 #[.val (.int p0), .unset, .unset, .unset] [(.ref w_I), (.int (8 : Int32)), (.ref b1), (.ref b1)])) rfl rfl (hb hby at_61)
  refine Good.back st127 ?_
  have f_128 : Arv Z h127 b1 k1 (.object "org/ludarium/games/sabotage/Card$Kind") (13 : Int32) [(.ref w_A), (.ref w_B), (.ref w_C), (.ref w_D), (.ref w_E), (.ref w_F), (.ref w_G), (.ref w_H), (.ref w_I), .null, .null, .null, .null] .null := Arv.set Ar118 qk118 S118 N118' H118 G118 rfl W127 8 rfl (Nat.le_of_ble_eq_true rfl)
  have N127 := Fr.snoc X127 N105 g_b1
  have Z129 : n0 ≤ h127.size := Nat.le_trans Z107 (Keep.of_wr W127).1
  show Good p e below _ (T127.setTop (mkF m 62 #[.val (.int p0), .unset, .unset, .unset] [(.ref b1)]))
  refine Good.back (fun _ k => XS.dup X127.here hx rfl (hb hby at_62) rfl rfl k) ?_
  show Good p e below _ (T127.setTop (mkF m 63 #[.val (.int p0), .unset, .unset, .unset] [(.ref b1), (.ref b1)]))
  refine Good.back (fun _ k => XS.bipush X127.here hx rfl (hb hby at_63) k) ?_
  show Good p e below _ (T127.setTop (mkF m 65 #[.val (.int p0), .unset, .unset, .unset] [(.int (9 : Int32)), (.ref b1), (.ref b1)]))
  have f_130 : Sta Z h1 "org/ludarium/games/sabotage/Card$Kind" "X" "Lorg/ludarium/games/sabotage/Card$Kind;" (.ref w_X) := Sta.ext E1 S_w_X
  have f_131 : Sta Z h7 "org/ludarium/games/sabotage/Card$Kind" "X" "Lorg/ludarium/games/sabotage/Card$Kind;" (.ref w_X) := Sta.wr W7 f_130
  have f_132 : Sta Z h15 "org/ludarium/games/sabotage/Card$Kind" "X" "Lorg/ludarium/games/sabotage/Card$Kind;" (.ref w_X) := Sta.wr W15 f_131
  have f_133 : Sta Z h25 "org/ludarium/games/sabotage/Card$Kind" "X" "Lorg/ludarium/games/sabotage/Card$Kind;" (.ref w_X) := Sta.wr W25 f_132
  have f_134 : Sta Z h37 "org/ludarium/games/sabotage/Card$Kind" "X" "Lorg/ludarium/games/sabotage/Card$Kind;" (.ref w_X) := Sta.wr W37 f_133
  have f_135 : Sta Z h51 "org/ludarium/games/sabotage/Card$Kind" "X" "Lorg/ludarium/games/sabotage/Card$Kind;" (.ref w_X) := Sta.wr W51 f_134
  have f_136 : Sta Z h67 "org/ludarium/games/sabotage/Card$Kind" "X" "Lorg/ludarium/games/sabotage/Card$Kind;" (.ref w_X) := Sta.wr W67 f_135
  have f_137 : Sta Z h85 "org/ludarium/games/sabotage/Card$Kind" "X" "Lorg/ludarium/games/sabotage/Card$Kind;" (.ref w_X) := Sta.wr W85 f_136
  have f_138 : Sta Z h105 "org/ludarium/games/sabotage/Card$Kind" "X" "Lorg/ludarium/games/sabotage/Card$Kind;" (.ref w_X) := Sta.wr W105 f_137
  have f_139 : Sta Z h127 "org/ludarium/games/sabotage/Card$Kind" "X" "Lorg/ludarium/games/sabotage/Card$Kind;" (.ref w_X) := Sta.wr W127 f_138
  obtain ⟨T140, X140, e140, st140⟩ := getS2 X127 hx hZ hown (host := "") (Or.inl (hw _ (List.mem_of_getElem? (i := 22) rfl))) Via.refl e127 f_139 (g := (mkF m 65 #[.val (.int p0), .unset, .unset, .unset] [(.int (9 : Int32)), (.ref b1), (.ref b1)])) rfl (hb hby at_65)
  refine Good.back st140 ?_
  show Good p e below _ (T140.setTop (mkF m 68 #[.val (.int p0), .unset, .unset, .unset] [(.ref w_X), (.int (9 : Int32)), (.ref b1), (.ref b1)]))
  have fc141 := f_128
  obtain ⟨cl141, Ar141, qk141, S141, N141', H141, G141⟩ := fc141
  have hin141 : ¬ ((9 : Int32) < 0 ∨ cl141.slots.size ≤ ((9 : Int32)).toNatClampNeg) := inb_of S141 ⟨by decide, by decide⟩
  have f_141 : Exa Z h1 w_X "org/ludarium/games/sabotage/Card$Kind" := Exa.ext E1 E_w_X
  have f_142 : Exa Z h7 w_X "org/ludarium/games/sabotage/Card$Kind" := Exa.wr W7 f_141
  have f_143 : Exa Z h15 w_X "org/ludarium/games/sabotage/Card$Kind" := Exa.wr W15 f_142
  have f_144 : Exa Z h25 w_X "org/ludarium/games/sabotage/Card$Kind" := Exa.wr W25 f_143
  have f_145 : Exa Z h37 w_X "org/ludarium/games/sabotage/Card$Kind" := Exa.wr W37 f_144
  have f_146 : Exa Z h51 w_X "org/ludarium/games/sabotage/Card$Kind" := Exa.wr W51 f_145
  have f_147 : Exa Z h67 w_X "org/ludarium/games/sabotage/Card$Kind" := Exa.wr W67 f_146
  have f_148 : Exa Z h85 w_X "org/ludarium/games/sabotage/Card$Kind" := Exa.wr W85 f_147
  have f_149 : Exa Z h105 w_X "org/ludarium/games/sabotage/Card$Kind" := Exa.wr W105 f_148
  have f_150 : Exa Z h127 w_X "org/ludarium/games/sabotage/Card$Kind" := Exa.wr W127 f_149
  obtain ⟨T151, h151, X151, e151, W151, st151⟩ := stR X140 hx hZ e140 Ar141 (j := (9 : Int32)) hin141 rfl (Sto.ofV Ar141 qk141 O1 (Ins.self f_150)) (g := (mkF m 68 #[.val (.int p0), .unset, .unset, .unset] [(.ref w_X), (.int (9 : Int32)), (.ref b1), (.ref b1)])) rfl rfl (hb hby at_68)
  refine Good.back st151 ?_
  have f_152 : Arv Z h151 b1 k1 (.object "org/ludarium/games/sabotage/Card$Kind") (13 : Int32) [(.ref w_A), (.ref w_B), (.ref w_C), (.ref w_D), (.ref w_E), (.ref w_F), (.ref w_G), (.ref w_H), (.ref w_I), (.ref w_X), .null, .null, .null] .null := Arv.set Ar141 qk141 S141 N141' H141 G141 rfl W151 9 rfl (Nat.le_of_ble_eq_true rfl)
  have N151 := Fr.snoc X151 N127 g_b1
  have Z153 : n0 ≤ h151.size := Nat.le_trans Z129 (Keep.of_wr W151).1
  show Good p e below _ (T151.setTop (mkF m 69 #[.val (.int p0), .unset, .unset, .unset] [(.ref b1)]))
  refine Good.back (fun _ k => XS.dup X151.here hx rfl (hb hby at_69) rfl rfl k) ?_
  show Good p e below _ (T151.setTop (mkF m 70 #[.val (.int p0), .unset, .unset, .unset] [(.ref b1), (.ref b1)]))
  refine Good.back (fun _ k => XS.bipush X151.here hx rfl (hb hby at_70) k) ?_
  show Good p e below _ (T151.setTop (mkF m 72 #[.val (.int p0), .unset, .unset, .unset] [(.int (10 : Int32)), (.ref b1), (.ref b1)]))
  have f_154 : Sta Z h1 "org/ludarium/games/sabotage/Card$Kind" "W" "Lorg/ludarium/games/sabotage/Card$Kind;" (.ref w_W) := Sta.ext E1 S_w_W
  have f_155 : Sta Z h7 "org/ludarium/games/sabotage/Card$Kind" "W" "Lorg/ludarium/games/sabotage/Card$Kind;" (.ref w_W) := Sta.wr W7 f_154
  have f_156 : Sta Z h15 "org/ludarium/games/sabotage/Card$Kind" "W" "Lorg/ludarium/games/sabotage/Card$Kind;" (.ref w_W) := Sta.wr W15 f_155
  have f_157 : Sta Z h25 "org/ludarium/games/sabotage/Card$Kind" "W" "Lorg/ludarium/games/sabotage/Card$Kind;" (.ref w_W) := Sta.wr W25 f_156
  have f_158 : Sta Z h37 "org/ludarium/games/sabotage/Card$Kind" "W" "Lorg/ludarium/games/sabotage/Card$Kind;" (.ref w_W) := Sta.wr W37 f_157
  have f_159 : Sta Z h51 "org/ludarium/games/sabotage/Card$Kind" "W" "Lorg/ludarium/games/sabotage/Card$Kind;" (.ref w_W) := Sta.wr W51 f_158
  have f_160 : Sta Z h67 "org/ludarium/games/sabotage/Card$Kind" "W" "Lorg/ludarium/games/sabotage/Card$Kind;" (.ref w_W) := Sta.wr W67 f_159
  have f_161 : Sta Z h85 "org/ludarium/games/sabotage/Card$Kind" "W" "Lorg/ludarium/games/sabotage/Card$Kind;" (.ref w_W) := Sta.wr W85 f_160
  have f_162 : Sta Z h105 "org/ludarium/games/sabotage/Card$Kind" "W" "Lorg/ludarium/games/sabotage/Card$Kind;" (.ref w_W) := Sta.wr W105 f_161
  have f_163 : Sta Z h127 "org/ludarium/games/sabotage/Card$Kind" "W" "Lorg/ludarium/games/sabotage/Card$Kind;" (.ref w_W) := Sta.wr W127 f_162
  have f_164 : Sta Z h151 "org/ludarium/games/sabotage/Card$Kind" "W" "Lorg/ludarium/games/sabotage/Card$Kind;" (.ref w_W) := Sta.wr W151 f_163
  obtain ⟨T165, X165, e165, st165⟩ := getS2 X151 hx hZ hown (host := "") (Or.inl (hw _ (List.mem_of_getElem? (i := 24) rfl))) Via.refl e151 f_164 (g := (mkF m 72 #[.val (.int p0), .unset, .unset, .unset] [(.int (10 : Int32)), (.ref b1), (.ref b1)])) rfl (hb hby at_72)
  refine Good.back st165 ?_
  show Good p e below _ (T165.setTop (mkF m 75 #[.val (.int p0), .unset, .unset, .unset] [(.ref w_W), (.int (10 : Int32)), (.ref b1), (.ref b1)]))
  have fc166 := f_152
  obtain ⟨cl166, Ar166, qk166, S166, N166', H166, G166⟩ := fc166
  have hin166 : ¬ ((10 : Int32) < 0 ∨ cl166.slots.size ≤ ((10 : Int32)).toNatClampNeg) := inb_of S166 ⟨by decide, by decide⟩
  have f_166 : Exa Z h1 w_W "org/ludarium/games/sabotage/Card$Kind" := Exa.ext E1 E_w_W
  have f_167 : Exa Z h7 w_W "org/ludarium/games/sabotage/Card$Kind" := Exa.wr W7 f_166
  have f_168 : Exa Z h15 w_W "org/ludarium/games/sabotage/Card$Kind" := Exa.wr W15 f_167
  have f_169 : Exa Z h25 w_W "org/ludarium/games/sabotage/Card$Kind" := Exa.wr W25 f_168
  have f_170 : Exa Z h37 w_W "org/ludarium/games/sabotage/Card$Kind" := Exa.wr W37 f_169
  have f_171 : Exa Z h51 w_W "org/ludarium/games/sabotage/Card$Kind" := Exa.wr W51 f_170
  have f_172 : Exa Z h67 w_W "org/ludarium/games/sabotage/Card$Kind" := Exa.wr W67 f_171
  have f_173 : Exa Z h85 w_W "org/ludarium/games/sabotage/Card$Kind" := Exa.wr W85 f_172
  have f_174 : Exa Z h105 w_W "org/ludarium/games/sabotage/Card$Kind" := Exa.wr W105 f_173
  have f_175 : Exa Z h127 w_W "org/ludarium/games/sabotage/Card$Kind" := Exa.wr W127 f_174
  have f_176 : Exa Z h151 w_W "org/ludarium/games/sabotage/Card$Kind" := Exa.wr W151 f_175
  obtain ⟨T177, h177, X177, e177, W177, st177⟩ := stR X165 hx hZ e165 Ar166 (j := (10 : Int32)) hin166 rfl (Sto.ofV Ar166 qk166 O1 (Ins.self f_176)) (g := (mkF m 75 #[.val (.int p0), .unset, .unset, .unset] [(.ref w_W), (.int (10 : Int32)), (.ref b1), (.ref b1)])) rfl rfl (hb hby at_75)
  refine Good.back st177 ?_
  have f_178 : Arv Z h177 b1 k1 (.object "org/ludarium/games/sabotage/Card$Kind") (13 : Int32) [(.ref w_A), (.ref w_B), (.ref w_C), (.ref w_D), (.ref w_E), (.ref w_F), (.ref w_G), (.ref w_H), (.ref w_I), (.ref w_X), (.ref w_W), .null, .null] .null := Arv.set Ar166 qk166 S166 N166' H166 G166 rfl W177 10 rfl (Nat.le_of_ble_eq_true rfl)
  have N177 := Fr.snoc X177 N151 g_b1
  have Z179 : n0 ≤ h177.size := Nat.le_trans Z153 (Keep.of_wr W177).1
  show Good p e below _ (T177.setTop (mkF m 76 #[.val (.int p0), .unset, .unset, .unset] [(.ref b1)]))
  refine Good.back (fun _ k => XS.dup X177.here hx rfl (hb hby at_76) rfl rfl k) ?_
  show Good p e below _ (T177.setTop (mkF m 77 #[.val (.int p0), .unset, .unset, .unset] [(.ref b1), (.ref b1)]))
  refine Good.back (fun _ k => XS.bipush X177.here hx rfl (hb hby at_77) k) ?_
  show Good p e below _ (T177.setTop (mkF m 79 #[.val (.int p0), .unset, .unset, .unset] [(.int (11 : Int32)), (.ref b1), (.ref b1)]))
  have f_180 : Sta Z h1 "org/ludarium/games/sabotage/Card$Kind" "SAB" "Lorg/ludarium/games/sabotage/Card$Kind;" (.ref w_SAB) := Sta.ext E1 S_w_SAB
  have f_181 : Sta Z h7 "org/ludarium/games/sabotage/Card$Kind" "SAB" "Lorg/ludarium/games/sabotage/Card$Kind;" (.ref w_SAB) := Sta.wr W7 f_180
  have f_182 : Sta Z h15 "org/ludarium/games/sabotage/Card$Kind" "SAB" "Lorg/ludarium/games/sabotage/Card$Kind;" (.ref w_SAB) := Sta.wr W15 f_181
  have f_183 : Sta Z h25 "org/ludarium/games/sabotage/Card$Kind" "SAB" "Lorg/ludarium/games/sabotage/Card$Kind;" (.ref w_SAB) := Sta.wr W25 f_182
  have f_184 : Sta Z h37 "org/ludarium/games/sabotage/Card$Kind" "SAB" "Lorg/ludarium/games/sabotage/Card$Kind;" (.ref w_SAB) := Sta.wr W37 f_183
  have f_185 : Sta Z h51 "org/ludarium/games/sabotage/Card$Kind" "SAB" "Lorg/ludarium/games/sabotage/Card$Kind;" (.ref w_SAB) := Sta.wr W51 f_184
  have f_186 : Sta Z h67 "org/ludarium/games/sabotage/Card$Kind" "SAB" "Lorg/ludarium/games/sabotage/Card$Kind;" (.ref w_SAB) := Sta.wr W67 f_185
  have f_187 : Sta Z h85 "org/ludarium/games/sabotage/Card$Kind" "SAB" "Lorg/ludarium/games/sabotage/Card$Kind;" (.ref w_SAB) := Sta.wr W85 f_186
  have f_188 : Sta Z h105 "org/ludarium/games/sabotage/Card$Kind" "SAB" "Lorg/ludarium/games/sabotage/Card$Kind;" (.ref w_SAB) := Sta.wr W105 f_187
  have f_189 : Sta Z h127 "org/ludarium/games/sabotage/Card$Kind" "SAB" "Lorg/ludarium/games/sabotage/Card$Kind;" (.ref w_SAB) := Sta.wr W127 f_188
  have f_190 : Sta Z h151 "org/ludarium/games/sabotage/Card$Kind" "SAB" "Lorg/ludarium/games/sabotage/Card$Kind;" (.ref w_SAB) := Sta.wr W151 f_189
  have f_191 : Sta Z h177 "org/ludarium/games/sabotage/Card$Kind" "SAB" "Lorg/ludarium/games/sabotage/Card$Kind;" (.ref w_SAB) := Sta.wr W177 f_190
  obtain ⟨T192, X192, e192, st192⟩ := getS2 X177 hx hZ hown (host := "") (Or.inl (hw _ (List.mem_of_getElem? (i := 26) rfl))) Via.refl e177 f_191 (g := (mkF m 79 #[.val (.int p0), .unset, .unset, .unset] [(.int (11 : Int32)), (.ref b1), (.ref b1)])) rfl (hb hby at_79)
  refine Good.back st192 ?_
  show Good p e below _ (T192.setTop (mkF m 82 #[.val (.int p0), .unset, .unset, .unset] [(.ref w_SAB), (.int (11 : Int32)), (.ref b1), (.ref b1)]))
  have fc193 := f_178
  obtain ⟨cl193, Ar193, qk193, S193, N193', H193, G193⟩ := fc193
  have hin193 : ¬ ((11 : Int32) < 0 ∨ cl193.slots.size ≤ ((11 : Int32)).toNatClampNeg) := inb_of S193 ⟨by decide, by decide⟩
  have f_193 : Exa Z h1 w_SAB "org/ludarium/games/sabotage/Card$Kind" := Exa.ext E1 E_w_SAB
  have f_194 : Exa Z h7 w_SAB "org/ludarium/games/sabotage/Card$Kind" := Exa.wr W7 f_193
  have f_195 : Exa Z h15 w_SAB "org/ludarium/games/sabotage/Card$Kind" := Exa.wr W15 f_194
  have f_196 : Exa Z h25 w_SAB "org/ludarium/games/sabotage/Card$Kind" := Exa.wr W25 f_195
  have f_197 : Exa Z h37 w_SAB "org/ludarium/games/sabotage/Card$Kind" := Exa.wr W37 f_196
  have f_198 : Exa Z h51 w_SAB "org/ludarium/games/sabotage/Card$Kind" := Exa.wr W51 f_197
  have f_199 : Exa Z h67 w_SAB "org/ludarium/games/sabotage/Card$Kind" := Exa.wr W67 f_198
  have f_200 : Exa Z h85 w_SAB "org/ludarium/games/sabotage/Card$Kind" := Exa.wr W85 f_199
  have f_201 : Exa Z h105 w_SAB "org/ludarium/games/sabotage/Card$Kind" := Exa.wr W105 f_200
  have f_202 : Exa Z h127 w_SAB "org/ludarium/games/sabotage/Card$Kind" := Exa.wr W127 f_201
  have f_203 : Exa Z h151 w_SAB "org/ludarium/games/sabotage/Card$Kind" := Exa.wr W151 f_202
  have f_204 : Exa Z h177 w_SAB "org/ludarium/games/sabotage/Card$Kind" := Exa.wr W177 f_203
  obtain ⟨T205, h205, X205, e205, W205, st205⟩ := stR X192 hx hZ e192 Ar193 (j := (11 : Int32)) hin193 rfl (Sto.ofV Ar193 qk193 O1 (Ins.self f_204)) (g := (mkF m 82 #[.val (.int p0), .unset, .unset, .unset] [(.ref w_SAB), (.int (11 : Int32)), (.ref b1), (.ref b1)])) rfl rfl (hb hby at_82)
  refine Good.back st205 ?_
  have f_206 : Arv Z h205 b1 k1 (.object "org/ludarium/games/sabotage/Card$Kind") (13 : Int32) [(.ref w_A), (.ref w_B), (.ref w_C), (.ref w_D), (.ref w_E), (.ref w_F), (.ref w_G), (.ref w_H), (.ref w_I), (.ref w_X), (.ref w_W), (.ref w_SAB), .null] .null := Arv.set Ar193 qk193 S193 N193' H193 G193 rfl W205 11 rfl (Nat.le_of_ble_eq_true rfl)
  have N205 := Fr.snoc X205 N177 g_b1
  have Z207 : n0 ≤ h205.size := Nat.le_trans Z179 (Keep.of_wr W205).1
  show Good p e below _ (T205.setTop (mkF m 83 #[.val (.int p0), .unset, .unset, .unset] [(.ref b1)]))
  refine Good.back (fun _ k => XS.dup X205.here hx rfl (hb hby at_83) rfl rfl k) ?_
  show Good p e below _ (T205.setTop (mkF m 84 #[.val (.int p0), .unset, .unset, .unset] [(.ref b1), (.ref b1)]))
  refine Good.back (fun _ k => XS.bipush X205.here hx rfl (hb hby at_84) k) ?_
  show Good p e below _ (T205.setTop (mkF m 86 #[.val (.int p0), .unset, .unset, .unset] [(.int (12 : Int32)), (.ref b1), (.ref b1)]))
  have f_208 : Sta Z h1 "org/ludarium/games/sabotage/Card$Kind" "DIS" "Lorg/ludarium/games/sabotage/Card$Kind;" (.ref w_DIS) := Sta.ext E1 S_w_DIS
  have f_209 : Sta Z h7 "org/ludarium/games/sabotage/Card$Kind" "DIS" "Lorg/ludarium/games/sabotage/Card$Kind;" (.ref w_DIS) := Sta.wr W7 f_208
  have f_210 : Sta Z h15 "org/ludarium/games/sabotage/Card$Kind" "DIS" "Lorg/ludarium/games/sabotage/Card$Kind;" (.ref w_DIS) := Sta.wr W15 f_209
  have f_211 : Sta Z h25 "org/ludarium/games/sabotage/Card$Kind" "DIS" "Lorg/ludarium/games/sabotage/Card$Kind;" (.ref w_DIS) := Sta.wr W25 f_210
  have f_212 : Sta Z h37 "org/ludarium/games/sabotage/Card$Kind" "DIS" "Lorg/ludarium/games/sabotage/Card$Kind;" (.ref w_DIS) := Sta.wr W37 f_211
  have f_213 : Sta Z h51 "org/ludarium/games/sabotage/Card$Kind" "DIS" "Lorg/ludarium/games/sabotage/Card$Kind;" (.ref w_DIS) := Sta.wr W51 f_212
  have f_214 : Sta Z h67 "org/ludarium/games/sabotage/Card$Kind" "DIS" "Lorg/ludarium/games/sabotage/Card$Kind;" (.ref w_DIS) := Sta.wr W67 f_213
  have f_215 : Sta Z h85 "org/ludarium/games/sabotage/Card$Kind" "DIS" "Lorg/ludarium/games/sabotage/Card$Kind;" (.ref w_DIS) := Sta.wr W85 f_214
  have f_216 : Sta Z h105 "org/ludarium/games/sabotage/Card$Kind" "DIS" "Lorg/ludarium/games/sabotage/Card$Kind;" (.ref w_DIS) := Sta.wr W105 f_215
  have f_217 : Sta Z h127 "org/ludarium/games/sabotage/Card$Kind" "DIS" "Lorg/ludarium/games/sabotage/Card$Kind;" (.ref w_DIS) := Sta.wr W127 f_216
  have f_218 : Sta Z h151 "org/ludarium/games/sabotage/Card$Kind" "DIS" "Lorg/ludarium/games/sabotage/Card$Kind;" (.ref w_DIS) := Sta.wr W151 f_217
  have f_219 : Sta Z h177 "org/ludarium/games/sabotage/Card$Kind" "DIS" "Lorg/ludarium/games/sabotage/Card$Kind;" (.ref w_DIS) := Sta.wr W177 f_218
  have f_220 : Sta Z h205 "org/ludarium/games/sabotage/Card$Kind" "DIS" "Lorg/ludarium/games/sabotage/Card$Kind;" (.ref w_DIS) := Sta.wr W205 f_219
  obtain ⟨T221, X221, e221, st221⟩ := getS2 X205 hx hZ hown (host := "") (Or.inl (hw _ (List.mem_of_getElem? (i := 28) rfl))) Via.refl e205 f_220 (g := (mkF m 86 #[.val (.int p0), .unset, .unset, .unset] [(.int (12 : Int32)), (.ref b1), (.ref b1)])) rfl (hb hby at_86)
  refine Good.back st221 ?_
  show Good p e below _ (T221.setTop (mkF m 89 #[.val (.int p0), .unset, .unset, .unset] [(.ref w_DIS), (.int (12 : Int32)), (.ref b1), (.ref b1)]))
  have fc222 := f_206
  obtain ⟨cl222, Ar222, qk222, S222, N222', H222, G222⟩ := fc222
  have hin222 : ¬ ((12 : Int32) < 0 ∨ cl222.slots.size ≤ ((12 : Int32)).toNatClampNeg) := inb_of S222 ⟨by decide, by decide⟩
  have f_222 : Exa Z h1 w_DIS "org/ludarium/games/sabotage/Card$Kind" := Exa.ext E1 E_w_DIS
  have f_223 : Exa Z h7 w_DIS "org/ludarium/games/sabotage/Card$Kind" := Exa.wr W7 f_222
  have f_224 : Exa Z h15 w_DIS "org/ludarium/games/sabotage/Card$Kind" := Exa.wr W15 f_223
  have f_225 : Exa Z h25 w_DIS "org/ludarium/games/sabotage/Card$Kind" := Exa.wr W25 f_224
  have f_226 : Exa Z h37 w_DIS "org/ludarium/games/sabotage/Card$Kind" := Exa.wr W37 f_225
  have f_227 : Exa Z h51 w_DIS "org/ludarium/games/sabotage/Card$Kind" := Exa.wr W51 f_226
  have f_228 : Exa Z h67 w_DIS "org/ludarium/games/sabotage/Card$Kind" := Exa.wr W67 f_227
  have f_229 : Exa Z h85 w_DIS "org/ludarium/games/sabotage/Card$Kind" := Exa.wr W85 f_228
  have f_230 : Exa Z h105 w_DIS "org/ludarium/games/sabotage/Card$Kind" := Exa.wr W105 f_229
  have f_231 : Exa Z h127 w_DIS "org/ludarium/games/sabotage/Card$Kind" := Exa.wr W127 f_230
  have f_232 : Exa Z h151 w_DIS "org/ludarium/games/sabotage/Card$Kind" := Exa.wr W151 f_231
  have f_233 : Exa Z h177 w_DIS "org/ludarium/games/sabotage/Card$Kind" := Exa.wr W177 f_232
  have f_234 : Exa Z h205 w_DIS "org/ludarium/games/sabotage/Card$Kind" := Exa.wr W205 f_233
  obtain ⟨T235, h235, X235, e235, W235, st235⟩ := stR X221 hx hZ e221 Ar222 (j := (12 : Int32)) hin222 rfl (Sto.ofV Ar222 qk222 O1 (Ins.self f_234)) (g := (mkF m 89 #[.val (.int p0), .unset, .unset, .unset] [(.ref w_DIS), (.int (12 : Int32)), (.ref b1), (.ref b1)])) rfl rfl (hb hby at_89)
  refine Good.back st235 ?_
  have f_236 : Arv Z h235 b1 k1 (.object "org/ludarium/games/sabotage/Card$Kind") (13 : Int32) [(.ref w_A), (.ref w_B), (.ref w_C), (.ref w_D), (.ref w_E), (.ref w_F), (.ref w_G), (.ref w_H), (.ref w_I), (.ref w_X), (.ref w_W), (.ref w_SAB), (.ref w_DIS)] .null := Arv.set Ar222 qk222 S222 N222' H222 G222 rfl W235 12 rfl (Nat.le_of_ble_eq_true rfl)
  have N235 := Fr.snoc X235 N205 g_b1
  have Z237 : n0 ≤ h235.size := Nat.le_trans Z207 (Keep.of_wr W235).1
  show Good p e below _ (T235.setTop (mkF m 90 #[.val (.int p0), .unset, .unset, .unset] [(.ref b1)]))
  refine Good.back (fun _ k => XS.astoreN X235.here hx rfl (hb hby at_90) rfl rfl (l' := #[.val (.int p0), .val (.ref b1), .unset, .unset]) rfl k) ?_
  show Good p e below _ (T235.setTop (mkF m 91 #[.val (.int p0), .val (.ref b1), .unset, .unset] []))
  refine Good.back (fun _ k => XS.iloadN X235.here hx rfl (hb hby at_91) rfl k) ?_
  show Good p e below _ (T235.setTop (mkF m 92 #[.val (.int p0), .val (.ref b1), .unset, .unset] [(.int p0)]))
  refine Good.back (X235.ldcInt hx hown (mvT hZ (hw _ (List.mem_of_getElem? (i := 30) rfl))) (g := (mkF m 92 #[.val (.int p0), .val (.ref b1), .unset, .unset] [(.int p0)])) rfl (hb hby at_92)) ?_
  show Good p e below _ (T235.setTop (mkF m 94 #[.val (.int p0), .val (.ref b1), .unset, .unset] [(.int (2147483647 : Int32)), (.int p0)]))
  refine Good.back (fun _ k => XS.iand X235.here hx rfl (hb hby at_94) rfl k) ?_
  show Good p e below _ (T235.setTop (mkF m 95 #[.val (.int p0), .val (.ref b1), .unset, .unset] [(.int (p0 &&& (2147483647 : Int32)))]))
  refine Good.back (fun _ k => XS.bipush X235.here hx rfl (hb hby at_95) k) ?_
  show Good p e below _ (T235.setTop (mkF m 97 #[.val (.int p0), .val (.ref b1), .unset, .unset] [(.int (13 : Int32)), (.int (p0 &&& (2147483647 : Int32)))]))
  refine Good.back (fun _ k => iremM (g := (mkF m 97 #[.val (.int p0), .val (.ref b1), .unset, .unset] [(.int (13 : Int32)), (.int (p0 &&& (2147483647 : Int32)))])) X235 hx rfl (hb hby at_97) rfl (by decide) k) ?_
  show Good p e below _ (T235.setTop (mkF m 98 #[.val (.int p0), .val (.ref b1), .unset, .unset] [(.int ((p0 &&& (2147483647 : Int32)) % (13 : Int32)))]))
  refine Good.back (fun _ k => XS.istoreN X235.here hx rfl (hb hby at_98) rfl (l' := #[.val (.int p0), .val (.ref b1), .val (.int ((p0 &&& (2147483647 : Int32)) % (13 : Int32))), .unset]) rfl k) ?_
  show Good p e below _ (T235.setTop (mkF m 99 #[.val (.int p0), .val (.ref b1), .val (.int ((p0 &&& (2147483647 : Int32)) % (13 : Int32))), .unset] []))
  obtain ⟨k238, hk238, he238⟩ := own_modm (x := p0) (y := 13) (d := 13) (n := 13) (by decide) (by decide) (by decide)
  rcases (by omega : k238 = 0 ∨ k238 = 1 ∨ k238 = 2 ∨ k238 = 3 ∨ k238 = 4 ∨ k238 = 5 ∨ k238 = 6 ∨ k238 = 7 ∨ k238 = 8 ∨ k238 = 9 ∨ k238 = 10 ∨ k238 = 11 ∨ k238 = 12) with rfl | rfl | rfl | rfl | rfl | rfl | rfl | rfl | rfl | rfl | rfl | rfl | rfl
  · have he238' : ((p0 &&& (2147483647 : Int32)) % (13 : Int32)) = (0 : Int32) := he238
    rw [he238']
    show Good p e below _ (T235.setTop (mkF m 99 #[.val (.int p0), .val (.ref b1), .val (.int (0 : Int32)), .unset] []))
    refine Good.back (fun _ k => XS.iloadN X235.here hx rfl (hb hby at_99) rfl k) ?_
    show Good p e below _ (T235.setTop (mkF m 100 #[.val (.int p0), .val (.ref b1), .val (.int (0 : Int32)), .unset] [(.int (0 : Int32))]))
    refine Good.back (fun _ k => XS.bipush X235.here hx rfl (hb hby at_100) k) ?_
    show Good p e below _ (T235.setTop (mkF m 102 #[.val (.int p0), .val (.ref b1), .val (.int (0 : Int32)), .unset] [(.int (9 : Int32)), (.int (0 : Int32))]))
    refine Good.back (fun _ k => XS.icmpNo X235.here hx rfl (hb hby at_102) rfl (tlt (by decide : ((0 : Int32) < (9 : Int32)))).2.1 k) ?_
    show Good p e below _ (T235.setTop (mkF m 105 #[.val (.int p0), .val (.ref b1), .val (.int (0 : Int32)), .unset] []))
    refine Good.back (fun _ k => XS.iconst X235.here hx rfl (hb hby at_105) k) ?_
    show Good p e below _ (T235.setTop (mkF m 106 #[.val (.int p0), .val (.ref b1), .val (.int (0 : Int32)), .unset] [(.int (1 : Int32))]))
    refine Good.back (fun _ k => XS.istoreN X235.here hx rfl (hb hby at_106) rfl (l' := #[.val (.int p0), .val (.ref b1), .val (.int (0 : Int32)), .val (.int (1 : Int32))]) rfl k) ?_
    show Good p e below _ (T235.setTop (mkF m 107 #[.val (.int p0), .val (.ref b1), .val (.int (0 : Int32)), .val (.int (1 : Int32))] []))
    refine Good.back (fun _ k => XS.goto X235.here hx rfl (pc0 := 107) (pc' := 134) rfl (hb hby at_107) (by decide) (by decide) k) ?_
    show Good p e below _ (T235.setTop (mkF m 134 #[.val (.int p0), .val (.ref b1), .val (.int (0 : Int32)), .val (.int (1 : Int32))] []))
    refine Good.back (fun _ k => XS.aloadN X235.here hx rfl (hb hby at_134) rfl rfl k) ?_
    show Good p e below _ (T235.setTop (mkF m 135 #[.val (.int p0), .val (.ref b1), .val (.int (0 : Int32)), .val (.int (1 : Int32))] [(.ref b1)]))
    refine Good.back (fun _ k => XS.iloadN X235.here hx rfl (hb hby at_135) rfl k) ?_
    show Good p e below _ (T235.setTop (mkF m 136 #[.val (.int p0), .val (.ref b1), .val (.int (0 : Int32)), .val (.int (1 : Int32))] [(.int (0 : Int32)), (.ref b1)]))
    have fc239 := f_236
    obtain ⟨cl239, Ar239, qk239, S239, N239', H239, G239⟩ := fc239
    have hin239 : ¬ ((0 : Int32) < 0 ∨ cl239.slots.size ≤ ((0 : Int32)).toNatClampNeg) := inb_of S239 ⟨by decide, by decide⟩
    have hat239 : cl239.slots[((0 : Int32)).toNatClampNeg]? = some (.ref w_A) := Has.at H239 hin239 rfl
    refine Good.back (X235.aaload hx (j := (0 : Int32)) (v := (.ref w_A)) (by rw [e235]; exact Ar239.1) (State.isArrayOf_alike hZ.alike Ar239.2.1) rfl Ar239.2.2 hin239 hat239 (g := (mkF m 136 #[.val (.int p0), .val (.ref b1), .val (.int (0 : Int32)), .val (.int (1 : Int32))] [(.int (0 : Int32)), (.ref b1)])) rfl rfl (hb hby at_136)) ?_
    show Good p e below _ (T235.setTop (mkF m 137 #[.val (.int p0), .val (.ref b1), .val (.int (0 : Int32)), .val (.int (1 : Int32))] [(.ref w_A)]))
    have f_241 : Sta Z h205 "org/ludarium/games/sabotage/Card$Kind" "SAB" "Lorg/ludarium/games/sabotage/Card$Kind;" (.ref w_SAB) := Sta.wr W205 f_191
    have f_242 : Sta Z h235 "org/ludarium/games/sabotage/Card$Kind" "SAB" "Lorg/ludarium/games/sabotage/Card$Kind;" (.ref w_SAB) := Sta.wr W235 f_241
    have f_243 : Sta Z h235 "org/ludarium/games/sabotage/Card$Kind" "DIS" "Lorg/ludarium/games/sabotage/Card$Kind;" (.ref w_DIS) := Sta.wr W235 f_220
    have f_244 : Exa Z h7 w_A "org/ludarium/games/sabotage/Card$Kind" := Exa.wr W7 f_6
    have f_245 : Exa Z h15 w_A "org/ludarium/games/sabotage/Card$Kind" := Exa.wr W15 f_244
    have f_246 : Exa Z h25 w_A "org/ludarium/games/sabotage/Card$Kind" := Exa.wr W25 f_245
    have f_247 : Exa Z h37 w_A "org/ludarium/games/sabotage/Card$Kind" := Exa.wr W37 f_246
    have f_248 : Exa Z h51 w_A "org/ludarium/games/sabotage/Card$Kind" := Exa.wr W51 f_247
    have f_249 : Exa Z h67 w_A "org/ludarium/games/sabotage/Card$Kind" := Exa.wr W67 f_248
    have f_250 : Exa Z h85 w_A "org/ludarium/games/sabotage/Card$Kind" := Exa.wr W85 f_249
    have f_251 : Exa Z h105 w_A "org/ludarium/games/sabotage/Card$Kind" := Exa.wr W105 f_250
    have f_252 : Exa Z h127 w_A "org/ludarium/games/sabotage/Card$Kind" := Exa.wr W127 f_251
    have f_253 : Exa Z h151 w_A "org/ludarium/games/sabotage/Card$Kind" := Exa.wr W151 f_252
    have f_254 : Exa Z h177 w_A "org/ludarium/games/sabotage/Card$Kind" := Exa.wr W177 f_253
    have f_255 : Exa Z h205 w_A "org/ludarium/games/sabotage/Card$Kind" := Exa.wr W205 f_254
    have f_256 : Exa Z h235 w_A "org/ludarium/games/sabotage/Card$Kind" := Exa.wr W235 f_255
    obtain ⟨cq240, kq240, q240a, q240b, q240c⟩ := isOf hZ e235 f_256
    obtain ⟨_, _, ⟨T240, L240, k240, n240⟩, -, X240, ⟨Lc240, hQ240, l240, y240, z240⟩, st240⟩ := X235.virtualBack hx (y := (⟨"org/ludarium/games/sabotage/Card$Kind", "isPipe", "()Z"⟩ : MethodName)) (z := (⟨"org/ludarium/games/sabotage/Card$Kind", "isPipe", "()Z"⟩ : MethodName)) hown (mvT hZ (hw _ (List.mem_of_getElem? (i := 31) rfl))) (mvT hZ (hw _ (List.mem_of_getElem? (i := 32) rfl))) (notFace_of_selects (args := #[]) (mvT hZ (hw _ (List.mem_of_getElem? (i := 34) rfl)))) (mvT hZ (hw _ (List.mem_of_getElem? (i := 34) rfl))) (mvT hZ (hw _ (List.mem_of_getElem? (i := 33) rfl))) (by decide) (backOf (W := 0) (rm1y l Z a0 hw [] w_A w_SAB w_DIS h235 n0 Z237 f_242 f_243 ne_w_A_w_SAB ne_w_A_w_DIS) hZ (hw _ (List.mem_of_getElem? (i := 35) rfl)) (hw _ (List.mem_of_getElem? (i := 3) rfl)) (by decide) (by decide)) q240a q240c (g := (mkF m 137 #[.val (.int p0), .val (.ref b1), .val (.int (0 : Int32)), .val (.int (1 : Int32))] [(.ref w_A)])) rfl (by rw [hml]; rfl) (Steps.refl _) (argsL := []) (rest := []) (lenOf own_pd10 rfl) rfl (by show 2 * 0 + _ ≤ _; exact Nat.le_of_eq rfl) (hb hby at_137) (fun _ _ => ⟨rfl, e235, (by decide : 1 + 0 ≤ _), (by decide : 13 + 0 ≤ _)⟩)
    dsimp only [Pt.U, Pt.locs, Pt.cells, Pt.slots] at X240 l240 y240 z240 st240 hQ240
    subst l240 y240 z240
    obtain ⟨rfl, N240q, eh240⟩ := hQ240
    have N240 := Fr.app N235 N240q
    refine Good.back (fun _ k => st240.trans k) ?_
    show Good p e below _ (T240.setTop (mkF m 140 #[.val (.int p0), .val (.ref b1), .val (.int (0 : Int32)), .val (.int (1 : Int32))] [(.int (1 : Int32))]))
    refine Good.back (fun _ k => XS.iloadN X240.here hx rfl (hb hby at_140) rfl k) ?_
    show Good p e below _ (T240.setTop (mkF m 141 #[.val (.int p0), .val (.ref b1), .val (.int (0 : Int32)), .val (.int (1 : Int32))] [(.int (1 : Int32)), (.int (1 : Int32))]))
    refine Good.back (fun _ k => XS.icmpNo X240.here hx rfl (hb hby at_141) rfl (teq (by decide : ((1 : Int32) = (1 : Int32)))).2 k) ?_
    show Good p e below _ (T240.setTop (mkF m 144 #[.val (.int p0), .val (.ref b1), .val (.int (0 : Int32)), .val (.int (1 : Int32))] []))
    refine Good.back (fun _ k => XS.iconst X240.here hx rfl (hb hby at_144) k) ?_
    show Good p e below _ (T240.setTop (mkF m 145 #[.val (.int p0), .val (.ref b1), .val (.int (0 : Int32)), .val (.int (1 : Int32))] [(.int (1 : Int32))]))
    refine Good.back (fun _ k => XS.goto X240.here hx rfl (pc0 := 145) (pc' := 149) rfl (hb hby at_145) (by decide) (by decide) k) ?_
    show Good p e below _ (T240.setTop (mkF m 149 #[.val (.int p0), .val (.ref b1), .val (.int (0 : Int32)), .val (.int (1 : Int32))] [(.int (1 : Int32))]))
    obtain ⟨fs257, hr257, hrun257, hended257, hW257, hsame257⟩ := X240.leave (v := some (.int (1 : Int32))) (fun h => by rw [Bd.returns] at h; cases h)
    refine Good.done (retN X240 hx (t := .boolean) Bd.returns (by simp) (hb hby at_149) hr257) hrun257 hended257 ⟨_, _, rfl, ?_, ⟨_, rfl⟩, hW257, hsame257.mono (by decide) (by decide)⟩
    show Q0 Z p0 w_A w_B w_C w_D w_E w_F w_G w_H w_I w_X w_W w_SAB w_DIS h0 n0 _ T240.heap _
    rw [eh240]
    exact ⟨rfl, N240⟩
  · have he238' : ((p0 &&& (2147483647 : Int32)) % (13 : Int32)) = (1 : Int32) := he238
    rw [he238']
    show Good p e below _ (T235.setTop (mkF m 99 #[.val (.int p0), .val (.ref b1), .val (.int (1 : Int32)), .unset] []))
    refine Good.back (fun _ k => XS.iloadN X235.here hx rfl (hb hby at_99) rfl k) ?_
    show Good p e below _ (T235.setTop (mkF m 100 #[.val (.int p0), .val (.ref b1), .val (.int (1 : Int32)), .unset] [(.int (1 : Int32))]))
    refine Good.back (fun _ k => XS.bipush X235.here hx rfl (hb hby at_100) k) ?_
    show Good p e below _ (T235.setTop (mkF m 102 #[.val (.int p0), .val (.ref b1), .val (.int (1 : Int32)), .unset] [(.int (9 : Int32)), (.int (1 : Int32))]))
    refine Good.back (fun _ k => XS.icmpNo X235.here hx rfl (hb hby at_102) rfl (tlt (by decide : ((1 : Int32) < (9 : Int32)))).2.1 k) ?_
    show Good p e below _ (T235.setTop (mkF m 105 #[.val (.int p0), .val (.ref b1), .val (.int (1 : Int32)), .unset] []))
    refine Good.back (fun _ k => XS.iconst X235.here hx rfl (hb hby at_105) k) ?_
    show Good p e below _ (T235.setTop (mkF m 106 #[.val (.int p0), .val (.ref b1), .val (.int (1 : Int32)), .unset] [(.int (1 : Int32))]))
    refine Good.back (fun _ k => XS.istoreN X235.here hx rfl (hb hby at_106) rfl (l' := #[.val (.int p0), .val (.ref b1), .val (.int (1 : Int32)), .val (.int (1 : Int32))]) rfl k) ?_
    show Good p e below _ (T235.setTop (mkF m 107 #[.val (.int p0), .val (.ref b1), .val (.int (1 : Int32)), .val (.int (1 : Int32))] []))
    refine Good.back (fun _ k => XS.goto X235.here hx rfl (pc0 := 107) (pc' := 134) rfl (hb hby at_107) (by decide) (by decide) k) ?_
    show Good p e below _ (T235.setTop (mkF m 134 #[.val (.int p0), .val (.ref b1), .val (.int (1 : Int32)), .val (.int (1 : Int32))] []))
    refine Good.back (fun _ k => XS.aloadN X235.here hx rfl (hb hby at_134) rfl rfl k) ?_
    show Good p e below _ (T235.setTop (mkF m 135 #[.val (.int p0), .val (.ref b1), .val (.int (1 : Int32)), .val (.int (1 : Int32))] [(.ref b1)]))
    refine Good.back (fun _ k => XS.iloadN X235.here hx rfl (hb hby at_135) rfl k) ?_
    show Good p e below _ (T235.setTop (mkF m 136 #[.val (.int p0), .val (.ref b1), .val (.int (1 : Int32)), .val (.int (1 : Int32))] [(.int (1 : Int32)), (.ref b1)]))
    have fc258 := f_236
    obtain ⟨cl258, Ar258, qk258, S258, N258', H258, G258⟩ := fc258
    have hin258 : ¬ ((1 : Int32) < 0 ∨ cl258.slots.size ≤ ((1 : Int32)).toNatClampNeg) := inb_of S258 ⟨by decide, by decide⟩
    have hat258 : cl258.slots[((1 : Int32)).toNatClampNeg]? = some (.ref w_B) := Has.at H258 hin258 rfl
    refine Good.back (X235.aaload hx (j := (1 : Int32)) (v := (.ref w_B)) (by rw [e235]; exact Ar258.1) (State.isArrayOf_alike hZ.alike Ar258.2.1) rfl Ar258.2.2 hin258 hat258 (g := (mkF m 136 #[.val (.int p0), .val (.ref b1), .val (.int (1 : Int32)), .val (.int (1 : Int32))] [(.int (1 : Int32)), (.ref b1)])) rfl rfl (hb hby at_136)) ?_
    show Good p e below _ (T235.setTop (mkF m 137 #[.val (.int p0), .val (.ref b1), .val (.int (1 : Int32)), .val (.int (1 : Int32))] [(.ref w_B)]))
    have f_260 : Sta Z h205 "org/ludarium/games/sabotage/Card$Kind" "SAB" "Lorg/ludarium/games/sabotage/Card$Kind;" (.ref w_SAB) := Sta.wr W205 f_191
    have f_261 : Sta Z h235 "org/ludarium/games/sabotage/Card$Kind" "SAB" "Lorg/ludarium/games/sabotage/Card$Kind;" (.ref w_SAB) := Sta.wr W235 f_260
    have f_262 : Sta Z h235 "org/ludarium/games/sabotage/Card$Kind" "DIS" "Lorg/ludarium/games/sabotage/Card$Kind;" (.ref w_DIS) := Sta.wr W235 f_220
    have f_263 : Exa Z h15 w_B "org/ludarium/games/sabotage/Card$Kind" := Exa.wr W15 f_14
    have f_264 : Exa Z h25 w_B "org/ludarium/games/sabotage/Card$Kind" := Exa.wr W25 f_263
    have f_265 : Exa Z h37 w_B "org/ludarium/games/sabotage/Card$Kind" := Exa.wr W37 f_264
    have f_266 : Exa Z h51 w_B "org/ludarium/games/sabotage/Card$Kind" := Exa.wr W51 f_265
    have f_267 : Exa Z h67 w_B "org/ludarium/games/sabotage/Card$Kind" := Exa.wr W67 f_266
    have f_268 : Exa Z h85 w_B "org/ludarium/games/sabotage/Card$Kind" := Exa.wr W85 f_267
    have f_269 : Exa Z h105 w_B "org/ludarium/games/sabotage/Card$Kind" := Exa.wr W105 f_268
    have f_270 : Exa Z h127 w_B "org/ludarium/games/sabotage/Card$Kind" := Exa.wr W127 f_269
    have f_271 : Exa Z h151 w_B "org/ludarium/games/sabotage/Card$Kind" := Exa.wr W151 f_270
    have f_272 : Exa Z h177 w_B "org/ludarium/games/sabotage/Card$Kind" := Exa.wr W177 f_271
    have f_273 : Exa Z h205 w_B "org/ludarium/games/sabotage/Card$Kind" := Exa.wr W205 f_272
    have f_274 : Exa Z h235 w_B "org/ludarium/games/sabotage/Card$Kind" := Exa.wr W235 f_273
    obtain ⟨cq259, kq259, q259a, q259b, q259c⟩ := isOf hZ e235 f_274
    obtain ⟨_, _, ⟨T259, L259, k259, n259⟩, -, X259, ⟨Lc259, hQ259, l259, y259, z259⟩, st259⟩ := X235.virtualBack hx (y := (⟨"org/ludarium/games/sabotage/Card$Kind", "isPipe", "()Z"⟩ : MethodName)) (z := (⟨"org/ludarium/games/sabotage/Card$Kind", "isPipe", "()Z"⟩ : MethodName)) hown (mvT hZ (hw _ (List.mem_of_getElem? (i := 31) rfl))) (mvT hZ (hw _ (List.mem_of_getElem? (i := 32) rfl))) (notFace_of_selects (args := #[]) (mvT hZ (hw _ (List.mem_of_getElem? (i := 34) rfl)))) (mvT hZ (hw _ (List.mem_of_getElem? (i := 34) rfl))) (mvT hZ (hw _ (List.mem_of_getElem? (i := 33) rfl))) (by decide) (backOf (W := 0) (rm1y l Z a0 hw [] w_B w_SAB w_DIS h235 n0 Z237 f_261 f_262 (Ne.symm ne_w_SAB_w_B) (Ne.symm ne_w_DIS_w_B)) hZ (hw _ (List.mem_of_getElem? (i := 35) rfl)) (hw _ (List.mem_of_getElem? (i := 3) rfl)) (by decide) (by decide)) q259a q259c (g := (mkF m 137 #[.val (.int p0), .val (.ref b1), .val (.int (1 : Int32)), .val (.int (1 : Int32))] [(.ref w_B)])) rfl (by rw [hml]; rfl) (Steps.refl _) (argsL := []) (rest := []) (lenOf own_pd10 rfl) rfl (by show 2 * 0 + _ ≤ _; exact Nat.le_of_eq rfl) (hb hby at_137) (fun _ _ => ⟨rfl, e235, (by decide : 1 + 0 ≤ _), (by decide : 13 + 0 ≤ _)⟩)
    dsimp only [Pt.U, Pt.locs, Pt.cells, Pt.slots] at X259 l259 y259 z259 st259 hQ259
    subst l259 y259 z259
    obtain ⟨rfl, N259q, eh259⟩ := hQ259
    have N259 := Fr.app N235 N259q
    refine Good.back (fun _ k => st259.trans k) ?_
    show Good p e below _ (T259.setTop (mkF m 140 #[.val (.int p0), .val (.ref b1), .val (.int (1 : Int32)), .val (.int (1 : Int32))] [(.int (1 : Int32))]))
    refine Good.back (fun _ k => XS.iloadN X259.here hx rfl (hb hby at_140) rfl k) ?_
    show Good p e below _ (T259.setTop (mkF m 141 #[.val (.int p0), .val (.ref b1), .val (.int (1 : Int32)), .val (.int (1 : Int32))] [(.int (1 : Int32)), (.int (1 : Int32))]))
    refine Good.back (fun _ k => XS.icmpNo X259.here hx rfl (hb hby at_141) rfl (teq (by decide : ((1 : Int32) = (1 : Int32)))).2 k) ?_
    show Good p e below _ (T259.setTop (mkF m 144 #[.val (.int p0), .val (.ref b1), .val (.int (1 : Int32)), .val (.int (1 : Int32))] []))
    refine Good.back (fun _ k => XS.iconst X259.here hx rfl (hb hby at_144) k) ?_
    show Good p e below _ (T259.setTop (mkF m 145 #[.val (.int p0), .val (.ref b1), .val (.int (1 : Int32)), .val (.int (1 : Int32))] [(.int (1 : Int32))]))
    refine Good.back (fun _ k => XS.goto X259.here hx rfl (pc0 := 145) (pc' := 149) rfl (hb hby at_145) (by decide) (by decide) k) ?_
    show Good p e below _ (T259.setTop (mkF m 149 #[.val (.int p0), .val (.ref b1), .val (.int (1 : Int32)), .val (.int (1 : Int32))] [(.int (1 : Int32))]))
    obtain ⟨fs275, hr275, hrun275, hended275, hW275, hsame275⟩ := X259.leave (v := some (.int (1 : Int32))) (fun h => by rw [Bd.returns] at h; cases h)
    refine Good.done (retN X259 hx (t := .boolean) Bd.returns (by simp) (hb hby at_149) hr275) hrun275 hended275 ⟨_, _, rfl, ?_, ⟨_, rfl⟩, hW275, hsame275.mono (by decide) (by decide)⟩
    show Q0 Z p0 w_A w_B w_C w_D w_E w_F w_G w_H w_I w_X w_W w_SAB w_DIS h0 n0 _ T259.heap _
    rw [eh259]
    exact ⟨rfl, N259⟩
  · have he238' : ((p0 &&& (2147483647 : Int32)) % (13 : Int32)) = (2 : Int32) := he238
    rw [he238']
    show Good p e below _ (T235.setTop (mkF m 99 #[.val (.int p0), .val (.ref b1), .val (.int (2 : Int32)), .unset] []))
    refine Good.back (fun _ k => XS.iloadN X235.here hx rfl (hb hby at_99) rfl k) ?_
    show Good p e below _ (T235.setTop (mkF m 100 #[.val (.int p0), .val (.ref b1), .val (.int (2 : Int32)), .unset] [(.int (2 : Int32))]))
    refine Good.back (fun _ k => XS.bipush X235.here hx rfl (hb hby at_100) k) ?_
    show Good p e below _ (T235.setTop (mkF m 102 #[.val (.int p0), .val (.ref b1), .val (.int (2 : Int32)), .unset] [(.int (9 : Int32)), (.int (2 : Int32))]))
    refine Good.back (fun _ k => XS.icmpNo X235.here hx rfl (hb hby at_102) rfl (tlt (by decide : ((2 : Int32) < (9 : Int32)))).2.1 k) ?_
    show Good p e below _ (T235.setTop (mkF m 105 #[.val (.int p0), .val (.ref b1), .val (.int (2 : Int32)), .unset] []))
    refine Good.back (fun _ k => XS.iconst X235.here hx rfl (hb hby at_105) k) ?_
    show Good p e below _ (T235.setTop (mkF m 106 #[.val (.int p0), .val (.ref b1), .val (.int (2 : Int32)), .unset] [(.int (1 : Int32))]))
    refine Good.back (fun _ k => XS.istoreN X235.here hx rfl (hb hby at_106) rfl (l' := #[.val (.int p0), .val (.ref b1), .val (.int (2 : Int32)), .val (.int (1 : Int32))]) rfl k) ?_
    show Good p e below _ (T235.setTop (mkF m 107 #[.val (.int p0), .val (.ref b1), .val (.int (2 : Int32)), .val (.int (1 : Int32))] []))
    refine Good.back (fun _ k => XS.goto X235.here hx rfl (pc0 := 107) (pc' := 134) rfl (hb hby at_107) (by decide) (by decide) k) ?_
    show Good p e below _ (T235.setTop (mkF m 134 #[.val (.int p0), .val (.ref b1), .val (.int (2 : Int32)), .val (.int (1 : Int32))] []))
    refine Good.back (fun _ k => XS.aloadN X235.here hx rfl (hb hby at_134) rfl rfl k) ?_
    show Good p e below _ (T235.setTop (mkF m 135 #[.val (.int p0), .val (.ref b1), .val (.int (2 : Int32)), .val (.int (1 : Int32))] [(.ref b1)]))
    refine Good.back (fun _ k => XS.iloadN X235.here hx rfl (hb hby at_135) rfl k) ?_
    show Good p e below _ (T235.setTop (mkF m 136 #[.val (.int p0), .val (.ref b1), .val (.int (2 : Int32)), .val (.int (1 : Int32))] [(.int (2 : Int32)), (.ref b1)]))
    have fc276 := f_236
    obtain ⟨cl276, Ar276, qk276, S276, N276', H276, G276⟩ := fc276
    have hin276 : ¬ ((2 : Int32) < 0 ∨ cl276.slots.size ≤ ((2 : Int32)).toNatClampNeg) := inb_of S276 ⟨by decide, by decide⟩
    have hat276 : cl276.slots[((2 : Int32)).toNatClampNeg]? = some (.ref w_C) := Has.at H276 hin276 rfl
    refine Good.back (X235.aaload hx (j := (2 : Int32)) (v := (.ref w_C)) (by rw [e235]; exact Ar276.1) (State.isArrayOf_alike hZ.alike Ar276.2.1) rfl Ar276.2.2 hin276 hat276 (g := (mkF m 136 #[.val (.int p0), .val (.ref b1), .val (.int (2 : Int32)), .val (.int (1 : Int32))] [(.int (2 : Int32)), (.ref b1)])) rfl rfl (hb hby at_136)) ?_
    show Good p e below _ (T235.setTop (mkF m 137 #[.val (.int p0), .val (.ref b1), .val (.int (2 : Int32)), .val (.int (1 : Int32))] [(.ref w_C)]))
    have f_278 : Sta Z h205 "org/ludarium/games/sabotage/Card$Kind" "SAB" "Lorg/ludarium/games/sabotage/Card$Kind;" (.ref w_SAB) := Sta.wr W205 f_191
    have f_279 : Sta Z h235 "org/ludarium/games/sabotage/Card$Kind" "SAB" "Lorg/ludarium/games/sabotage/Card$Kind;" (.ref w_SAB) := Sta.wr W235 f_278
    have f_280 : Sta Z h235 "org/ludarium/games/sabotage/Card$Kind" "DIS" "Lorg/ludarium/games/sabotage/Card$Kind;" (.ref w_DIS) := Sta.wr W235 f_220
    have f_281 : Exa Z h25 w_C "org/ludarium/games/sabotage/Card$Kind" := Exa.wr W25 f_24
    have f_282 : Exa Z h37 w_C "org/ludarium/games/sabotage/Card$Kind" := Exa.wr W37 f_281
    have f_283 : Exa Z h51 w_C "org/ludarium/games/sabotage/Card$Kind" := Exa.wr W51 f_282
    have f_284 : Exa Z h67 w_C "org/ludarium/games/sabotage/Card$Kind" := Exa.wr W67 f_283
    have f_285 : Exa Z h85 w_C "org/ludarium/games/sabotage/Card$Kind" := Exa.wr W85 f_284
    have f_286 : Exa Z h105 w_C "org/ludarium/games/sabotage/Card$Kind" := Exa.wr W105 f_285
    have f_287 : Exa Z h127 w_C "org/ludarium/games/sabotage/Card$Kind" := Exa.wr W127 f_286
    have f_288 : Exa Z h151 w_C "org/ludarium/games/sabotage/Card$Kind" := Exa.wr W151 f_287
    have f_289 : Exa Z h177 w_C "org/ludarium/games/sabotage/Card$Kind" := Exa.wr W177 f_288
    have f_290 : Exa Z h205 w_C "org/ludarium/games/sabotage/Card$Kind" := Exa.wr W205 f_289
    have f_291 : Exa Z h235 w_C "org/ludarium/games/sabotage/Card$Kind" := Exa.wr W235 f_290
    obtain ⟨cq277, kq277, q277a, q277b, q277c⟩ := isOf hZ e235 f_291
    obtain ⟨_, _, ⟨T277, L277, k277, n277⟩, -, X277, ⟨Lc277, hQ277, l277, y277, z277⟩, st277⟩ := X235.virtualBack hx (y := (⟨"org/ludarium/games/sabotage/Card$Kind", "isPipe", "()Z"⟩ : MethodName)) (z := (⟨"org/ludarium/games/sabotage/Card$Kind", "isPipe", "()Z"⟩ : MethodName)) hown (mvT hZ (hw _ (List.mem_of_getElem? (i := 31) rfl))) (mvT hZ (hw _ (List.mem_of_getElem? (i := 32) rfl))) (notFace_of_selects (args := #[]) (mvT hZ (hw _ (List.mem_of_getElem? (i := 34) rfl)))) (mvT hZ (hw _ (List.mem_of_getElem? (i := 34) rfl))) (mvT hZ (hw _ (List.mem_of_getElem? (i := 33) rfl))) (by decide) (backOf (W := 0) (rm1y l Z a0 hw [] w_C w_SAB w_DIS h235 n0 Z237 f_279 f_280 (Ne.symm ne_w_SAB_w_C) (Ne.symm ne_w_DIS_w_C)) hZ (hw _ (List.mem_of_getElem? (i := 35) rfl)) (hw _ (List.mem_of_getElem? (i := 3) rfl)) (by decide) (by decide)) q277a q277c (g := (mkF m 137 #[.val (.int p0), .val (.ref b1), .val (.int (2 : Int32)), .val (.int (1 : Int32))] [(.ref w_C)])) rfl (by rw [hml]; rfl) (Steps.refl _) (argsL := []) (rest := []) (lenOf own_pd10 rfl) rfl (by show 2 * 0 + _ ≤ _; exact Nat.le_of_eq rfl) (hb hby at_137) (fun _ _ => ⟨rfl, e235, (by decide : 1 + 0 ≤ _), (by decide : 13 + 0 ≤ _)⟩)
    dsimp only [Pt.U, Pt.locs, Pt.cells, Pt.slots] at X277 l277 y277 z277 st277 hQ277
    subst l277 y277 z277
    obtain ⟨rfl, N277q, eh277⟩ := hQ277
    have N277 := Fr.app N235 N277q
    refine Good.back (fun _ k => st277.trans k) ?_
    show Good p e below _ (T277.setTop (mkF m 140 #[.val (.int p0), .val (.ref b1), .val (.int (2 : Int32)), .val (.int (1 : Int32))] [(.int (1 : Int32))]))
    refine Good.back (fun _ k => XS.iloadN X277.here hx rfl (hb hby at_140) rfl k) ?_
    show Good p e below _ (T277.setTop (mkF m 141 #[.val (.int p0), .val (.ref b1), .val (.int (2 : Int32)), .val (.int (1 : Int32))] [(.int (1 : Int32)), (.int (1 : Int32))]))
    refine Good.back (fun _ k => XS.icmpNo X277.here hx rfl (hb hby at_141) rfl (teq (by decide : ((1 : Int32) = (1 : Int32)))).2 k) ?_
    show Good p e below _ (T277.setTop (mkF m 144 #[.val (.int p0), .val (.ref b1), .val (.int (2 : Int32)), .val (.int (1 : Int32))] []))
    refine Good.back (fun _ k => XS.iconst X277.here hx rfl (hb hby at_144) k) ?_
    show Good p e below _ (T277.setTop (mkF m 145 #[.val (.int p0), .val (.ref b1), .val (.int (2 : Int32)), .val (.int (1 : Int32))] [(.int (1 : Int32))]))
    refine Good.back (fun _ k => XS.goto X277.here hx rfl (pc0 := 145) (pc' := 149) rfl (hb hby at_145) (by decide) (by decide) k) ?_
    show Good p e below _ (T277.setTop (mkF m 149 #[.val (.int p0), .val (.ref b1), .val (.int (2 : Int32)), .val (.int (1 : Int32))] [(.int (1 : Int32))]))
    obtain ⟨fs292, hr292, hrun292, hended292, hW292, hsame292⟩ := X277.leave (v := some (.int (1 : Int32))) (fun h => by rw [Bd.returns] at h; cases h)
    refine Good.done (retN X277 hx (t := .boolean) Bd.returns (by simp) (hb hby at_149) hr292) hrun292 hended292 ⟨_, _, rfl, ?_, ⟨_, rfl⟩, hW292, hsame292.mono (by decide) (by decide)⟩
    show Q0 Z p0 w_A w_B w_C w_D w_E w_F w_G w_H w_I w_X w_W w_SAB w_DIS h0 n0 _ T277.heap _
    rw [eh277]
    exact ⟨rfl, N277⟩
  · have he238' : ((p0 &&& (2147483647 : Int32)) % (13 : Int32)) = (3 : Int32) := he238
    rw [he238']
    show Good p e below _ (T235.setTop (mkF m 99 #[.val (.int p0), .val (.ref b1), .val (.int (3 : Int32)), .unset] []))
    refine Good.back (fun _ k => XS.iloadN X235.here hx rfl (hb hby at_99) rfl k) ?_
    show Good p e below _ (T235.setTop (mkF m 100 #[.val (.int p0), .val (.ref b1), .val (.int (3 : Int32)), .unset] [(.int (3 : Int32))]))
    refine Good.back (fun _ k => XS.bipush X235.here hx rfl (hb hby at_100) k) ?_
    show Good p e below _ (T235.setTop (mkF m 102 #[.val (.int p0), .val (.ref b1), .val (.int (3 : Int32)), .unset] [(.int (9 : Int32)), (.int (3 : Int32))]))
    refine Good.back (fun _ k => XS.icmpNo X235.here hx rfl (hb hby at_102) rfl (tlt (by decide : ((3 : Int32) < (9 : Int32)))).2.1 k) ?_
    show Good p e below _ (T235.setTop (mkF m 105 #[.val (.int p0), .val (.ref b1), .val (.int (3 : Int32)), .unset] []))
    refine Good.back (fun _ k => XS.iconst X235.here hx rfl (hb hby at_105) k) ?_
    show Good p e below _ (T235.setTop (mkF m 106 #[.val (.int p0), .val (.ref b1), .val (.int (3 : Int32)), .unset] [(.int (1 : Int32))]))
    refine Good.back (fun _ k => XS.istoreN X235.here hx rfl (hb hby at_106) rfl (l' := #[.val (.int p0), .val (.ref b1), .val (.int (3 : Int32)), .val (.int (1 : Int32))]) rfl k) ?_
    show Good p e below _ (T235.setTop (mkF m 107 #[.val (.int p0), .val (.ref b1), .val (.int (3 : Int32)), .val (.int (1 : Int32))] []))
    refine Good.back (fun _ k => XS.goto X235.here hx rfl (pc0 := 107) (pc' := 134) rfl (hb hby at_107) (by decide) (by decide) k) ?_
    show Good p e below _ (T235.setTop (mkF m 134 #[.val (.int p0), .val (.ref b1), .val (.int (3 : Int32)), .val (.int (1 : Int32))] []))
    refine Good.back (fun _ k => XS.aloadN X235.here hx rfl (hb hby at_134) rfl rfl k) ?_
    show Good p e below _ (T235.setTop (mkF m 135 #[.val (.int p0), .val (.ref b1), .val (.int (3 : Int32)), .val (.int (1 : Int32))] [(.ref b1)]))
    refine Good.back (fun _ k => XS.iloadN X235.here hx rfl (hb hby at_135) rfl k) ?_
    show Good p e below _ (T235.setTop (mkF m 136 #[.val (.int p0), .val (.ref b1), .val (.int (3 : Int32)), .val (.int (1 : Int32))] [(.int (3 : Int32)), (.ref b1)]))
    have fc293 := f_236
    obtain ⟨cl293, Ar293, qk293, S293, N293', H293, G293⟩ := fc293
    have hin293 : ¬ ((3 : Int32) < 0 ∨ cl293.slots.size ≤ ((3 : Int32)).toNatClampNeg) := inb_of S293 ⟨by decide, by decide⟩
    have hat293 : cl293.slots[((3 : Int32)).toNatClampNeg]? = some (.ref w_D) := Has.at H293 hin293 rfl
    refine Good.back (X235.aaload hx (j := (3 : Int32)) (v := (.ref w_D)) (by rw [e235]; exact Ar293.1) (State.isArrayOf_alike hZ.alike Ar293.2.1) rfl Ar293.2.2 hin293 hat293 (g := (mkF m 136 #[.val (.int p0), .val (.ref b1), .val (.int (3 : Int32)), .val (.int (1 : Int32))] [(.int (3 : Int32)), (.ref b1)])) rfl rfl (hb hby at_136)) ?_
    show Good p e below _ (T235.setTop (mkF m 137 #[.val (.int p0), .val (.ref b1), .val (.int (3 : Int32)), .val (.int (1 : Int32))] [(.ref w_D)]))
    have f_295 : Sta Z h205 "org/ludarium/games/sabotage/Card$Kind" "SAB" "Lorg/ludarium/games/sabotage/Card$Kind;" (.ref w_SAB) := Sta.wr W205 f_191
    have f_296 : Sta Z h235 "org/ludarium/games/sabotage/Card$Kind" "SAB" "Lorg/ludarium/games/sabotage/Card$Kind;" (.ref w_SAB) := Sta.wr W235 f_295
    have f_297 : Sta Z h235 "org/ludarium/games/sabotage/Card$Kind" "DIS" "Lorg/ludarium/games/sabotage/Card$Kind;" (.ref w_DIS) := Sta.wr W235 f_220
    have f_298 : Exa Z h37 w_D "org/ludarium/games/sabotage/Card$Kind" := Exa.wr W37 f_36
    have f_299 : Exa Z h51 w_D "org/ludarium/games/sabotage/Card$Kind" := Exa.wr W51 f_298
    have f_300 : Exa Z h67 w_D "org/ludarium/games/sabotage/Card$Kind" := Exa.wr W67 f_299
    have f_301 : Exa Z h85 w_D "org/ludarium/games/sabotage/Card$Kind" := Exa.wr W85 f_300
    have f_302 : Exa Z h105 w_D "org/ludarium/games/sabotage/Card$Kind" := Exa.wr W105 f_301
    have f_303 : Exa Z h127 w_D "org/ludarium/games/sabotage/Card$Kind" := Exa.wr W127 f_302
    have f_304 : Exa Z h151 w_D "org/ludarium/games/sabotage/Card$Kind" := Exa.wr W151 f_303
    have f_305 : Exa Z h177 w_D "org/ludarium/games/sabotage/Card$Kind" := Exa.wr W177 f_304
    have f_306 : Exa Z h205 w_D "org/ludarium/games/sabotage/Card$Kind" := Exa.wr W205 f_305
    have f_307 : Exa Z h235 w_D "org/ludarium/games/sabotage/Card$Kind" := Exa.wr W235 f_306
    obtain ⟨cq294, kq294, q294a, q294b, q294c⟩ := isOf hZ e235 f_307
    obtain ⟨_, _, ⟨T294, L294, k294, n294⟩, -, X294, ⟨Lc294, hQ294, l294, y294, z294⟩, st294⟩ := X235.virtualBack hx (y := (⟨"org/ludarium/games/sabotage/Card$Kind", "isPipe", "()Z"⟩ : MethodName)) (z := (⟨"org/ludarium/games/sabotage/Card$Kind", "isPipe", "()Z"⟩ : MethodName)) hown (mvT hZ (hw _ (List.mem_of_getElem? (i := 31) rfl))) (mvT hZ (hw _ (List.mem_of_getElem? (i := 32) rfl))) (notFace_of_selects (args := #[]) (mvT hZ (hw _ (List.mem_of_getElem? (i := 34) rfl)))) (mvT hZ (hw _ (List.mem_of_getElem? (i := 34) rfl))) (mvT hZ (hw _ (List.mem_of_getElem? (i := 33) rfl))) (by decide) (backOf (W := 0) (rm1y l Z a0 hw [] w_D w_SAB w_DIS h235 n0 Z237 f_296 f_297 (Ne.symm ne_w_SAB_w_D) (Ne.symm ne_w_DIS_w_D)) hZ (hw _ (List.mem_of_getElem? (i := 35) rfl)) (hw _ (List.mem_of_getElem? (i := 3) rfl)) (by decide) (by decide)) q294a q294c (g := (mkF m 137 #[.val (.int p0), .val (.ref b1), .val (.int (3 : Int32)), .val (.int (1 : Int32))] [(.ref w_D)])) rfl (by rw [hml]; rfl) (Steps.refl _) (argsL := []) (rest := []) (lenOf own_pd10 rfl) rfl (by show 2 * 0 + _ ≤ _; exact Nat.le_of_eq rfl) (hb hby at_137) (fun _ _ => ⟨rfl, e235, (by decide : 1 + 0 ≤ _), (by decide : 13 + 0 ≤ _)⟩)
    dsimp only [Pt.U, Pt.locs, Pt.cells, Pt.slots] at X294 l294 y294 z294 st294 hQ294
    subst l294 y294 z294
    obtain ⟨rfl, N294q, eh294⟩ := hQ294
    have N294 := Fr.app N235 N294q
    refine Good.back (fun _ k => st294.trans k) ?_
    show Good p e below _ (T294.setTop (mkF m 140 #[.val (.int p0), .val (.ref b1), .val (.int (3 : Int32)), .val (.int (1 : Int32))] [(.int (1 : Int32))]))
    refine Good.back (fun _ k => XS.iloadN X294.here hx rfl (hb hby at_140) rfl k) ?_
    show Good p e below _ (T294.setTop (mkF m 141 #[.val (.int p0), .val (.ref b1), .val (.int (3 : Int32)), .val (.int (1 : Int32))] [(.int (1 : Int32)), (.int (1 : Int32))]))
    refine Good.back (fun _ k => XS.icmpNo X294.here hx rfl (hb hby at_141) rfl (teq (by decide : ((1 : Int32) = (1 : Int32)))).2 k) ?_
    show Good p e below _ (T294.setTop (mkF m 144 #[.val (.int p0), .val (.ref b1), .val (.int (3 : Int32)), .val (.int (1 : Int32))] []))
    refine Good.back (fun _ k => XS.iconst X294.here hx rfl (hb hby at_144) k) ?_
    show Good p e below _ (T294.setTop (mkF m 145 #[.val (.int p0), .val (.ref b1), .val (.int (3 : Int32)), .val (.int (1 : Int32))] [(.int (1 : Int32))]))
    refine Good.back (fun _ k => XS.goto X294.here hx rfl (pc0 := 145) (pc' := 149) rfl (hb hby at_145) (by decide) (by decide) k) ?_
    show Good p e below _ (T294.setTop (mkF m 149 #[.val (.int p0), .val (.ref b1), .val (.int (3 : Int32)), .val (.int (1 : Int32))] [(.int (1 : Int32))]))
    obtain ⟨fs308, hr308, hrun308, hended308, hW308, hsame308⟩ := X294.leave (v := some (.int (1 : Int32))) (fun h => by rw [Bd.returns] at h; cases h)
    refine Good.done (retN X294 hx (t := .boolean) Bd.returns (by simp) (hb hby at_149) hr308) hrun308 hended308 ⟨_, _, rfl, ?_, ⟨_, rfl⟩, hW308, hsame308.mono (by decide) (by decide)⟩
    show Q0 Z p0 w_A w_B w_C w_D w_E w_F w_G w_H w_I w_X w_W w_SAB w_DIS h0 n0 _ T294.heap _
    rw [eh294]
    exact ⟨rfl, N294⟩
  · have he238' : ((p0 &&& (2147483647 : Int32)) % (13 : Int32)) = (4 : Int32) := he238
    rw [he238']
    show Good p e below _ (T235.setTop (mkF m 99 #[.val (.int p0), .val (.ref b1), .val (.int (4 : Int32)), .unset] []))
    refine Good.back (fun _ k => XS.iloadN X235.here hx rfl (hb hby at_99) rfl k) ?_
    show Good p e below _ (T235.setTop (mkF m 100 #[.val (.int p0), .val (.ref b1), .val (.int (4 : Int32)), .unset] [(.int (4 : Int32))]))
    refine Good.back (fun _ k => XS.bipush X235.here hx rfl (hb hby at_100) k) ?_
    show Good p e below _ (T235.setTop (mkF m 102 #[.val (.int p0), .val (.ref b1), .val (.int (4 : Int32)), .unset] [(.int (9 : Int32)), (.int (4 : Int32))]))
    refine Good.back (fun _ k => XS.icmpNo X235.here hx rfl (hb hby at_102) rfl (tlt (by decide : ((4 : Int32) < (9 : Int32)))).2.1 k) ?_
    show Good p e below _ (T235.setTop (mkF m 105 #[.val (.int p0), .val (.ref b1), .val (.int (4 : Int32)), .unset] []))
    refine Good.back (fun _ k => XS.iconst X235.here hx rfl (hb hby at_105) k) ?_
    show Good p e below _ (T235.setTop (mkF m 106 #[.val (.int p0), .val (.ref b1), .val (.int (4 : Int32)), .unset] [(.int (1 : Int32))]))
    refine Good.back (fun _ k => XS.istoreN X235.here hx rfl (hb hby at_106) rfl (l' := #[.val (.int p0), .val (.ref b1), .val (.int (4 : Int32)), .val (.int (1 : Int32))]) rfl k) ?_
    show Good p e below _ (T235.setTop (mkF m 107 #[.val (.int p0), .val (.ref b1), .val (.int (4 : Int32)), .val (.int (1 : Int32))] []))
    refine Good.back (fun _ k => XS.goto X235.here hx rfl (pc0 := 107) (pc' := 134) rfl (hb hby at_107) (by decide) (by decide) k) ?_
    show Good p e below _ (T235.setTop (mkF m 134 #[.val (.int p0), .val (.ref b1), .val (.int (4 : Int32)), .val (.int (1 : Int32))] []))
    refine Good.back (fun _ k => XS.aloadN X235.here hx rfl (hb hby at_134) rfl rfl k) ?_
    show Good p e below _ (T235.setTop (mkF m 135 #[.val (.int p0), .val (.ref b1), .val (.int (4 : Int32)), .val (.int (1 : Int32))] [(.ref b1)]))
    refine Good.back (fun _ k => XS.iloadN X235.here hx rfl (hb hby at_135) rfl k) ?_
    show Good p e below _ (T235.setTop (mkF m 136 #[.val (.int p0), .val (.ref b1), .val (.int (4 : Int32)), .val (.int (1 : Int32))] [(.int (4 : Int32)), (.ref b1)]))
    have fc309 := f_236
    obtain ⟨cl309, Ar309, qk309, S309, N309', H309, G309⟩ := fc309
    have hin309 : ¬ ((4 : Int32) < 0 ∨ cl309.slots.size ≤ ((4 : Int32)).toNatClampNeg) := inb_of S309 ⟨by decide, by decide⟩
    have hat309 : cl309.slots[((4 : Int32)).toNatClampNeg]? = some (.ref w_E) := Has.at H309 hin309 rfl
    refine Good.back (X235.aaload hx (j := (4 : Int32)) (v := (.ref w_E)) (by rw [e235]; exact Ar309.1) (State.isArrayOf_alike hZ.alike Ar309.2.1) rfl Ar309.2.2 hin309 hat309 (g := (mkF m 136 #[.val (.int p0), .val (.ref b1), .val (.int (4 : Int32)), .val (.int (1 : Int32))] [(.int (4 : Int32)), (.ref b1)])) rfl rfl (hb hby at_136)) ?_
    show Good p e below _ (T235.setTop (mkF m 137 #[.val (.int p0), .val (.ref b1), .val (.int (4 : Int32)), .val (.int (1 : Int32))] [(.ref w_E)]))
    have f_311 : Sta Z h205 "org/ludarium/games/sabotage/Card$Kind" "SAB" "Lorg/ludarium/games/sabotage/Card$Kind;" (.ref w_SAB) := Sta.wr W205 f_191
    have f_312 : Sta Z h235 "org/ludarium/games/sabotage/Card$Kind" "SAB" "Lorg/ludarium/games/sabotage/Card$Kind;" (.ref w_SAB) := Sta.wr W235 f_311
    have f_313 : Sta Z h235 "org/ludarium/games/sabotage/Card$Kind" "DIS" "Lorg/ludarium/games/sabotage/Card$Kind;" (.ref w_DIS) := Sta.wr W235 f_220
    have f_314 : Exa Z h51 w_E "org/ludarium/games/sabotage/Card$Kind" := Exa.wr W51 f_50
    have f_315 : Exa Z h67 w_E "org/ludarium/games/sabotage/Card$Kind" := Exa.wr W67 f_314
    have f_316 : Exa Z h85 w_E "org/ludarium/games/sabotage/Card$Kind" := Exa.wr W85 f_315
    have f_317 : Exa Z h105 w_E "org/ludarium/games/sabotage/Card$Kind" := Exa.wr W105 f_316
    have f_318 : Exa Z h127 w_E "org/ludarium/games/sabotage/Card$Kind" := Exa.wr W127 f_317
    have f_319 : Exa Z h151 w_E "org/ludarium/games/sabotage/Card$Kind" := Exa.wr W151 f_318
    have f_320 : Exa Z h177 w_E "org/ludarium/games/sabotage/Card$Kind" := Exa.wr W177 f_319
    have f_321 : Exa Z h205 w_E "org/ludarium/games/sabotage/Card$Kind" := Exa.wr W205 f_320
    have f_322 : Exa Z h235 w_E "org/ludarium/games/sabotage/Card$Kind" := Exa.wr W235 f_321
    obtain ⟨cq310, kq310, q310a, q310b, q310c⟩ := isOf hZ e235 f_322
    obtain ⟨_, _, ⟨T310, L310, k310, n310⟩, -, X310, ⟨Lc310, hQ310, l310, y310, z310⟩, st310⟩ := X235.virtualBack hx (y := (⟨"org/ludarium/games/sabotage/Card$Kind", "isPipe", "()Z"⟩ : MethodName)) (z := (⟨"org/ludarium/games/sabotage/Card$Kind", "isPipe", "()Z"⟩ : MethodName)) hown (mvT hZ (hw _ (List.mem_of_getElem? (i := 31) rfl))) (mvT hZ (hw _ (List.mem_of_getElem? (i := 32) rfl))) (notFace_of_selects (args := #[]) (mvT hZ (hw _ (List.mem_of_getElem? (i := 34) rfl)))) (mvT hZ (hw _ (List.mem_of_getElem? (i := 34) rfl))) (mvT hZ (hw _ (List.mem_of_getElem? (i := 33) rfl))) (by decide) (backOf (W := 0) (rm1y l Z a0 hw [] w_E w_SAB w_DIS h235 n0 Z237 f_312 f_313 (Ne.symm ne_w_SAB_w_E) (Ne.symm ne_w_DIS_w_E)) hZ (hw _ (List.mem_of_getElem? (i := 35) rfl)) (hw _ (List.mem_of_getElem? (i := 3) rfl)) (by decide) (by decide)) q310a q310c (g := (mkF m 137 #[.val (.int p0), .val (.ref b1), .val (.int (4 : Int32)), .val (.int (1 : Int32))] [(.ref w_E)])) rfl (by rw [hml]; rfl) (Steps.refl _) (argsL := []) (rest := []) (lenOf own_pd10 rfl) rfl (by show 2 * 0 + _ ≤ _; exact Nat.le_of_eq rfl) (hb hby at_137) (fun _ _ => ⟨rfl, e235, (by decide : 1 + 0 ≤ _), (by decide : 13 + 0 ≤ _)⟩)
    dsimp only [Pt.U, Pt.locs, Pt.cells, Pt.slots] at X310 l310 y310 z310 st310 hQ310
    subst l310 y310 z310
    obtain ⟨rfl, N310q, eh310⟩ := hQ310
    have N310 := Fr.app N235 N310q
    refine Good.back (fun _ k => st310.trans k) ?_
    show Good p e below _ (T310.setTop (mkF m 140 #[.val (.int p0), .val (.ref b1), .val (.int (4 : Int32)), .val (.int (1 : Int32))] [(.int (1 : Int32))]))
    refine Good.back (fun _ k => XS.iloadN X310.here hx rfl (hb hby at_140) rfl k) ?_
    show Good p e below _ (T310.setTop (mkF m 141 #[.val (.int p0), .val (.ref b1), .val (.int (4 : Int32)), .val (.int (1 : Int32))] [(.int (1 : Int32)), (.int (1 : Int32))]))
    refine Good.back (fun _ k => XS.icmpNo X310.here hx rfl (hb hby at_141) rfl (teq (by decide : ((1 : Int32) = (1 : Int32)))).2 k) ?_
    show Good p e below _ (T310.setTop (mkF m 144 #[.val (.int p0), .val (.ref b1), .val (.int (4 : Int32)), .val (.int (1 : Int32))] []))
    refine Good.back (fun _ k => XS.iconst X310.here hx rfl (hb hby at_144) k) ?_
    show Good p e below _ (T310.setTop (mkF m 145 #[.val (.int p0), .val (.ref b1), .val (.int (4 : Int32)), .val (.int (1 : Int32))] [(.int (1 : Int32))]))
    refine Good.back (fun _ k => XS.goto X310.here hx rfl (pc0 := 145) (pc' := 149) rfl (hb hby at_145) (by decide) (by decide) k) ?_
    show Good p e below _ (T310.setTop (mkF m 149 #[.val (.int p0), .val (.ref b1), .val (.int (4 : Int32)), .val (.int (1 : Int32))] [(.int (1 : Int32))]))
    obtain ⟨fs323, hr323, hrun323, hended323, hW323, hsame323⟩ := X310.leave (v := some (.int (1 : Int32))) (fun h => by rw [Bd.returns] at h; cases h)
    refine Good.done (retN X310 hx (t := .boolean) Bd.returns (by simp) (hb hby at_149) hr323) hrun323 hended323 ⟨_, _, rfl, ?_, ⟨_, rfl⟩, hW323, hsame323.mono (by decide) (by decide)⟩
    show Q0 Z p0 w_A w_B w_C w_D w_E w_F w_G w_H w_I w_X w_W w_SAB w_DIS h0 n0 _ T310.heap _
    rw [eh310]
    exact ⟨rfl, N310⟩
  · have he238' : ((p0 &&& (2147483647 : Int32)) % (13 : Int32)) = (5 : Int32) := he238
    rw [he238']
    show Good p e below _ (T235.setTop (mkF m 99 #[.val (.int p0), .val (.ref b1), .val (.int (5 : Int32)), .unset] []))
    refine Good.back (fun _ k => XS.iloadN X235.here hx rfl (hb hby at_99) rfl k) ?_
    show Good p e below _ (T235.setTop (mkF m 100 #[.val (.int p0), .val (.ref b1), .val (.int (5 : Int32)), .unset] [(.int (5 : Int32))]))
    refine Good.back (fun _ k => XS.bipush X235.here hx rfl (hb hby at_100) k) ?_
    show Good p e below _ (T235.setTop (mkF m 102 #[.val (.int p0), .val (.ref b1), .val (.int (5 : Int32)), .unset] [(.int (9 : Int32)), (.int (5 : Int32))]))
    refine Good.back (fun _ k => XS.icmpNo X235.here hx rfl (hb hby at_102) rfl (tlt (by decide : ((5 : Int32) < (9 : Int32)))).2.1 k) ?_
    show Good p e below _ (T235.setTop (mkF m 105 #[.val (.int p0), .val (.ref b1), .val (.int (5 : Int32)), .unset] []))
    refine Good.back (fun _ k => XS.iconst X235.here hx rfl (hb hby at_105) k) ?_
    show Good p e below _ (T235.setTop (mkF m 106 #[.val (.int p0), .val (.ref b1), .val (.int (5 : Int32)), .unset] [(.int (1 : Int32))]))
    refine Good.back (fun _ k => XS.istoreN X235.here hx rfl (hb hby at_106) rfl (l' := #[.val (.int p0), .val (.ref b1), .val (.int (5 : Int32)), .val (.int (1 : Int32))]) rfl k) ?_
    show Good p e below _ (T235.setTop (mkF m 107 #[.val (.int p0), .val (.ref b1), .val (.int (5 : Int32)), .val (.int (1 : Int32))] []))
    refine Good.back (fun _ k => XS.goto X235.here hx rfl (pc0 := 107) (pc' := 134) rfl (hb hby at_107) (by decide) (by decide) k) ?_
    show Good p e below _ (T235.setTop (mkF m 134 #[.val (.int p0), .val (.ref b1), .val (.int (5 : Int32)), .val (.int (1 : Int32))] []))
    refine Good.back (fun _ k => XS.aloadN X235.here hx rfl (hb hby at_134) rfl rfl k) ?_
    show Good p e below _ (T235.setTop (mkF m 135 #[.val (.int p0), .val (.ref b1), .val (.int (5 : Int32)), .val (.int (1 : Int32))] [(.ref b1)]))
    refine Good.back (fun _ k => XS.iloadN X235.here hx rfl (hb hby at_135) rfl k) ?_
    show Good p e below _ (T235.setTop (mkF m 136 #[.val (.int p0), .val (.ref b1), .val (.int (5 : Int32)), .val (.int (1 : Int32))] [(.int (5 : Int32)), (.ref b1)]))
    have fc324 := f_236
    obtain ⟨cl324, Ar324, qk324, S324, N324', H324, G324⟩ := fc324
    have hin324 : ¬ ((5 : Int32) < 0 ∨ cl324.slots.size ≤ ((5 : Int32)).toNatClampNeg) := inb_of S324 ⟨by decide, by decide⟩
    have hat324 : cl324.slots[((5 : Int32)).toNatClampNeg]? = some (.ref w_F) := Has.at H324 hin324 rfl
    refine Good.back (X235.aaload hx (j := (5 : Int32)) (v := (.ref w_F)) (by rw [e235]; exact Ar324.1) (State.isArrayOf_alike hZ.alike Ar324.2.1) rfl Ar324.2.2 hin324 hat324 (g := (mkF m 136 #[.val (.int p0), .val (.ref b1), .val (.int (5 : Int32)), .val (.int (1 : Int32))] [(.int (5 : Int32)), (.ref b1)])) rfl rfl (hb hby at_136)) ?_
    show Good p e below _ (T235.setTop (mkF m 137 #[.val (.int p0), .val (.ref b1), .val (.int (5 : Int32)), .val (.int (1 : Int32))] [(.ref w_F)]))
    have f_326 : Sta Z h205 "org/ludarium/games/sabotage/Card$Kind" "SAB" "Lorg/ludarium/games/sabotage/Card$Kind;" (.ref w_SAB) := Sta.wr W205 f_191
    have f_327 : Sta Z h235 "org/ludarium/games/sabotage/Card$Kind" "SAB" "Lorg/ludarium/games/sabotage/Card$Kind;" (.ref w_SAB) := Sta.wr W235 f_326
    have f_328 : Sta Z h235 "org/ludarium/games/sabotage/Card$Kind" "DIS" "Lorg/ludarium/games/sabotage/Card$Kind;" (.ref w_DIS) := Sta.wr W235 f_220
    have f_329 : Exa Z h67 w_F "org/ludarium/games/sabotage/Card$Kind" := Exa.wr W67 f_66
    have f_330 : Exa Z h85 w_F "org/ludarium/games/sabotage/Card$Kind" := Exa.wr W85 f_329
    have f_331 : Exa Z h105 w_F "org/ludarium/games/sabotage/Card$Kind" := Exa.wr W105 f_330
    have f_332 : Exa Z h127 w_F "org/ludarium/games/sabotage/Card$Kind" := Exa.wr W127 f_331
    have f_333 : Exa Z h151 w_F "org/ludarium/games/sabotage/Card$Kind" := Exa.wr W151 f_332
    have f_334 : Exa Z h177 w_F "org/ludarium/games/sabotage/Card$Kind" := Exa.wr W177 f_333
    have f_335 : Exa Z h205 w_F "org/ludarium/games/sabotage/Card$Kind" := Exa.wr W205 f_334
    have f_336 : Exa Z h235 w_F "org/ludarium/games/sabotage/Card$Kind" := Exa.wr W235 f_335
    obtain ⟨cq325, kq325, q325a, q325b, q325c⟩ := isOf hZ e235 f_336
    obtain ⟨_, _, ⟨T325, L325, k325, n325⟩, -, X325, ⟨Lc325, hQ325, l325, y325, z325⟩, st325⟩ := X235.virtualBack hx (y := (⟨"org/ludarium/games/sabotage/Card$Kind", "isPipe", "()Z"⟩ : MethodName)) (z := (⟨"org/ludarium/games/sabotage/Card$Kind", "isPipe", "()Z"⟩ : MethodName)) hown (mvT hZ (hw _ (List.mem_of_getElem? (i := 31) rfl))) (mvT hZ (hw _ (List.mem_of_getElem? (i := 32) rfl))) (notFace_of_selects (args := #[]) (mvT hZ (hw _ (List.mem_of_getElem? (i := 34) rfl)))) (mvT hZ (hw _ (List.mem_of_getElem? (i := 34) rfl))) (mvT hZ (hw _ (List.mem_of_getElem? (i := 33) rfl))) (by decide) (backOf (W := 0) (rm1y l Z a0 hw [] w_F w_SAB w_DIS h235 n0 Z237 f_327 f_328 (Ne.symm ne_w_SAB_w_F) (Ne.symm ne_w_DIS_w_F)) hZ (hw _ (List.mem_of_getElem? (i := 35) rfl)) (hw _ (List.mem_of_getElem? (i := 3) rfl)) (by decide) (by decide)) q325a q325c (g := (mkF m 137 #[.val (.int p0), .val (.ref b1), .val (.int (5 : Int32)), .val (.int (1 : Int32))] [(.ref w_F)])) rfl (by rw [hml]; rfl) (Steps.refl _) (argsL := []) (rest := []) (lenOf own_pd10 rfl) rfl (by show 2 * 0 + _ ≤ _; exact Nat.le_of_eq rfl) (hb hby at_137) (fun _ _ => ⟨rfl, e235, (by decide : 1 + 0 ≤ _), (by decide : 13 + 0 ≤ _)⟩)
    dsimp only [Pt.U, Pt.locs, Pt.cells, Pt.slots] at X325 l325 y325 z325 st325 hQ325
    subst l325 y325 z325
    obtain ⟨rfl, N325q, eh325⟩ := hQ325
    have N325 := Fr.app N235 N325q
    refine Good.back (fun _ k => st325.trans k) ?_
    show Good p e below _ (T325.setTop (mkF m 140 #[.val (.int p0), .val (.ref b1), .val (.int (5 : Int32)), .val (.int (1 : Int32))] [(.int (1 : Int32))]))
    refine Good.back (fun _ k => XS.iloadN X325.here hx rfl (hb hby at_140) rfl k) ?_
    show Good p e below _ (T325.setTop (mkF m 141 #[.val (.int p0), .val (.ref b1), .val (.int (5 : Int32)), .val (.int (1 : Int32))] [(.int (1 : Int32)), (.int (1 : Int32))]))
    refine Good.back (fun _ k => XS.icmpNo X325.here hx rfl (hb hby at_141) rfl (teq (by decide : ((1 : Int32) = (1 : Int32)))).2 k) ?_
    show Good p e below _ (T325.setTop (mkF m 144 #[.val (.int p0), .val (.ref b1), .val (.int (5 : Int32)), .val (.int (1 : Int32))] []))
    refine Good.back (fun _ k => XS.iconst X325.here hx rfl (hb hby at_144) k) ?_
    show Good p e below _ (T325.setTop (mkF m 145 #[.val (.int p0), .val (.ref b1), .val (.int (5 : Int32)), .val (.int (1 : Int32))] [(.int (1 : Int32))]))
    refine Good.back (fun _ k => XS.goto X325.here hx rfl (pc0 := 145) (pc' := 149) rfl (hb hby at_145) (by decide) (by decide) k) ?_
    show Good p e below _ (T325.setTop (mkF m 149 #[.val (.int p0), .val (.ref b1), .val (.int (5 : Int32)), .val (.int (1 : Int32))] [(.int (1 : Int32))]))
    obtain ⟨fs337, hr337, hrun337, hended337, hW337, hsame337⟩ := X325.leave (v := some (.int (1 : Int32))) (fun h => by rw [Bd.returns] at h; cases h)
    refine Good.done (retN X325 hx (t := .boolean) Bd.returns (by simp) (hb hby at_149) hr337) hrun337 hended337 ⟨_, _, rfl, ?_, ⟨_, rfl⟩, hW337, hsame337.mono (by decide) (by decide)⟩
    show Q0 Z p0 w_A w_B w_C w_D w_E w_F w_G w_H w_I w_X w_W w_SAB w_DIS h0 n0 _ T325.heap _
    rw [eh325]
    exact ⟨rfl, N325⟩
  · have he238' : ((p0 &&& (2147483647 : Int32)) % (13 : Int32)) = (6 : Int32) := he238
    rw [he238']
    show Good p e below _ (T235.setTop (mkF m 99 #[.val (.int p0), .val (.ref b1), .val (.int (6 : Int32)), .unset] []))
    refine Good.back (fun _ k => XS.iloadN X235.here hx rfl (hb hby at_99) rfl k) ?_
    show Good p e below _ (T235.setTop (mkF m 100 #[.val (.int p0), .val (.ref b1), .val (.int (6 : Int32)), .unset] [(.int (6 : Int32))]))
    refine Good.back (fun _ k => XS.bipush X235.here hx rfl (hb hby at_100) k) ?_
    show Good p e below _ (T235.setTop (mkF m 102 #[.val (.int p0), .val (.ref b1), .val (.int (6 : Int32)), .unset] [(.int (9 : Int32)), (.int (6 : Int32))]))
    refine Good.back (fun _ k => XS.icmpNo X235.here hx rfl (hb hby at_102) rfl (tlt (by decide : ((6 : Int32) < (9 : Int32)))).2.1 k) ?_
    show Good p e below _ (T235.setTop (mkF m 105 #[.val (.int p0), .val (.ref b1), .val (.int (6 : Int32)), .unset] []))
    refine Good.back (fun _ k => XS.iconst X235.here hx rfl (hb hby at_105) k) ?_
    show Good p e below _ (T235.setTop (mkF m 106 #[.val (.int p0), .val (.ref b1), .val (.int (6 : Int32)), .unset] [(.int (1 : Int32))]))
    refine Good.back (fun _ k => XS.istoreN X235.here hx rfl (hb hby at_106) rfl (l' := #[.val (.int p0), .val (.ref b1), .val (.int (6 : Int32)), .val (.int (1 : Int32))]) rfl k) ?_
    show Good p e below _ (T235.setTop (mkF m 107 #[.val (.int p0), .val (.ref b1), .val (.int (6 : Int32)), .val (.int (1 : Int32))] []))
    refine Good.back (fun _ k => XS.goto X235.here hx rfl (pc0 := 107) (pc' := 134) rfl (hb hby at_107) (by decide) (by decide) k) ?_
    show Good p e below _ (T235.setTop (mkF m 134 #[.val (.int p0), .val (.ref b1), .val (.int (6 : Int32)), .val (.int (1 : Int32))] []))
    refine Good.back (fun _ k => XS.aloadN X235.here hx rfl (hb hby at_134) rfl rfl k) ?_
    show Good p e below _ (T235.setTop (mkF m 135 #[.val (.int p0), .val (.ref b1), .val (.int (6 : Int32)), .val (.int (1 : Int32))] [(.ref b1)]))
    refine Good.back (fun _ k => XS.iloadN X235.here hx rfl (hb hby at_135) rfl k) ?_
    show Good p e below _ (T235.setTop (mkF m 136 #[.val (.int p0), .val (.ref b1), .val (.int (6 : Int32)), .val (.int (1 : Int32))] [(.int (6 : Int32)), (.ref b1)]))
    have fc338 := f_236
    obtain ⟨cl338, Ar338, qk338, S338, N338', H338, G338⟩ := fc338
    have hin338 : ¬ ((6 : Int32) < 0 ∨ cl338.slots.size ≤ ((6 : Int32)).toNatClampNeg) := inb_of S338 ⟨by decide, by decide⟩
    have hat338 : cl338.slots[((6 : Int32)).toNatClampNeg]? = some (.ref w_G) := Has.at H338 hin338 rfl
    refine Good.back (X235.aaload hx (j := (6 : Int32)) (v := (.ref w_G)) (by rw [e235]; exact Ar338.1) (State.isArrayOf_alike hZ.alike Ar338.2.1) rfl Ar338.2.2 hin338 hat338 (g := (mkF m 136 #[.val (.int p0), .val (.ref b1), .val (.int (6 : Int32)), .val (.int (1 : Int32))] [(.int (6 : Int32)), (.ref b1)])) rfl rfl (hb hby at_136)) ?_
    show Good p e below _ (T235.setTop (mkF m 137 #[.val (.int p0), .val (.ref b1), .val (.int (6 : Int32)), .val (.int (1 : Int32))] [(.ref w_G)]))
    have f_340 : Sta Z h205 "org/ludarium/games/sabotage/Card$Kind" "SAB" "Lorg/ludarium/games/sabotage/Card$Kind;" (.ref w_SAB) := Sta.wr W205 f_191
    have f_341 : Sta Z h235 "org/ludarium/games/sabotage/Card$Kind" "SAB" "Lorg/ludarium/games/sabotage/Card$Kind;" (.ref w_SAB) := Sta.wr W235 f_340
    have f_342 : Sta Z h235 "org/ludarium/games/sabotage/Card$Kind" "DIS" "Lorg/ludarium/games/sabotage/Card$Kind;" (.ref w_DIS) := Sta.wr W235 f_220
    have f_343 : Exa Z h85 w_G "org/ludarium/games/sabotage/Card$Kind" := Exa.wr W85 f_84
    have f_344 : Exa Z h105 w_G "org/ludarium/games/sabotage/Card$Kind" := Exa.wr W105 f_343
    have f_345 : Exa Z h127 w_G "org/ludarium/games/sabotage/Card$Kind" := Exa.wr W127 f_344
    have f_346 : Exa Z h151 w_G "org/ludarium/games/sabotage/Card$Kind" := Exa.wr W151 f_345
    have f_347 : Exa Z h177 w_G "org/ludarium/games/sabotage/Card$Kind" := Exa.wr W177 f_346
    have f_348 : Exa Z h205 w_G "org/ludarium/games/sabotage/Card$Kind" := Exa.wr W205 f_347
    have f_349 : Exa Z h235 w_G "org/ludarium/games/sabotage/Card$Kind" := Exa.wr W235 f_348
    obtain ⟨cq339, kq339, q339a, q339b, q339c⟩ := isOf hZ e235 f_349
    obtain ⟨_, _, ⟨T339, L339, k339, n339⟩, -, X339, ⟨Lc339, hQ339, l339, y339, z339⟩, st339⟩ := X235.virtualBack hx (y := (⟨"org/ludarium/games/sabotage/Card$Kind", "isPipe", "()Z"⟩ : MethodName)) (z := (⟨"org/ludarium/games/sabotage/Card$Kind", "isPipe", "()Z"⟩ : MethodName)) hown (mvT hZ (hw _ (List.mem_of_getElem? (i := 31) rfl))) (mvT hZ (hw _ (List.mem_of_getElem? (i := 32) rfl))) (notFace_of_selects (args := #[]) (mvT hZ (hw _ (List.mem_of_getElem? (i := 34) rfl)))) (mvT hZ (hw _ (List.mem_of_getElem? (i := 34) rfl))) (mvT hZ (hw _ (List.mem_of_getElem? (i := 33) rfl))) (by decide) (backOf (W := 0) (rm1y l Z a0 hw [] w_G w_SAB w_DIS h235 n0 Z237 f_341 f_342 (Ne.symm ne_w_SAB_w_G) (Ne.symm ne_w_DIS_w_G)) hZ (hw _ (List.mem_of_getElem? (i := 35) rfl)) (hw _ (List.mem_of_getElem? (i := 3) rfl)) (by decide) (by decide)) q339a q339c (g := (mkF m 137 #[.val (.int p0), .val (.ref b1), .val (.int (6 : Int32)), .val (.int (1 : Int32))] [(.ref w_G)])) rfl (by rw [hml]; rfl) (Steps.refl _) (argsL := []) (rest := []) (lenOf own_pd10 rfl) rfl (by show 2 * 0 + _ ≤ _; exact Nat.le_of_eq rfl) (hb hby at_137) (fun _ _ => ⟨rfl, e235, (by decide : 1 + 0 ≤ _), (by decide : 13 + 0 ≤ _)⟩)
    dsimp only [Pt.U, Pt.locs, Pt.cells, Pt.slots] at X339 l339 y339 z339 st339 hQ339
    subst l339 y339 z339
    obtain ⟨rfl, N339q, eh339⟩ := hQ339
    have N339 := Fr.app N235 N339q
    refine Good.back (fun _ k => st339.trans k) ?_
    show Good p e below _ (T339.setTop (mkF m 140 #[.val (.int p0), .val (.ref b1), .val (.int (6 : Int32)), .val (.int (1 : Int32))] [(.int (1 : Int32))]))
    refine Good.back (fun _ k => XS.iloadN X339.here hx rfl (hb hby at_140) rfl k) ?_
    show Good p e below _ (T339.setTop (mkF m 141 #[.val (.int p0), .val (.ref b1), .val (.int (6 : Int32)), .val (.int (1 : Int32))] [(.int (1 : Int32)), (.int (1 : Int32))]))
    refine Good.back (fun _ k => XS.icmpNo X339.here hx rfl (hb hby at_141) rfl (teq (by decide : ((1 : Int32) = (1 : Int32)))).2 k) ?_
    show Good p e below _ (T339.setTop (mkF m 144 #[.val (.int p0), .val (.ref b1), .val (.int (6 : Int32)), .val (.int (1 : Int32))] []))
    refine Good.back (fun _ k => XS.iconst X339.here hx rfl (hb hby at_144) k) ?_
    show Good p e below _ (T339.setTop (mkF m 145 #[.val (.int p0), .val (.ref b1), .val (.int (6 : Int32)), .val (.int (1 : Int32))] [(.int (1 : Int32))]))
    refine Good.back (fun _ k => XS.goto X339.here hx rfl (pc0 := 145) (pc' := 149) rfl (hb hby at_145) (by decide) (by decide) k) ?_
    show Good p e below _ (T339.setTop (mkF m 149 #[.val (.int p0), .val (.ref b1), .val (.int (6 : Int32)), .val (.int (1 : Int32))] [(.int (1 : Int32))]))
    obtain ⟨fs350, hr350, hrun350, hended350, hW350, hsame350⟩ := X339.leave (v := some (.int (1 : Int32))) (fun h => by rw [Bd.returns] at h; cases h)
    refine Good.done (retN X339 hx (t := .boolean) Bd.returns (by simp) (hb hby at_149) hr350) hrun350 hended350 ⟨_, _, rfl, ?_, ⟨_, rfl⟩, hW350, hsame350.mono (by decide) (by decide)⟩
    show Q0 Z p0 w_A w_B w_C w_D w_E w_F w_G w_H w_I w_X w_W w_SAB w_DIS h0 n0 _ T339.heap _
    rw [eh339]
    exact ⟨rfl, N339⟩
  · have he238' : ((p0 &&& (2147483647 : Int32)) % (13 : Int32)) = (7 : Int32) := he238
    rw [he238']
    show Good p e below _ (T235.setTop (mkF m 99 #[.val (.int p0), .val (.ref b1), .val (.int (7 : Int32)), .unset] []))
    refine Good.back (fun _ k => XS.iloadN X235.here hx rfl (hb hby at_99) rfl k) ?_
    show Good p e below _ (T235.setTop (mkF m 100 #[.val (.int p0), .val (.ref b1), .val (.int (7 : Int32)), .unset] [(.int (7 : Int32))]))
    refine Good.back (fun _ k => XS.bipush X235.here hx rfl (hb hby at_100) k) ?_
    show Good p e below _ (T235.setTop (mkF m 102 #[.val (.int p0), .val (.ref b1), .val (.int (7 : Int32)), .unset] [(.int (9 : Int32)), (.int (7 : Int32))]))
    refine Good.back (fun _ k => XS.icmpNo X235.here hx rfl (hb hby at_102) rfl (tlt (by decide : ((7 : Int32) < (9 : Int32)))).2.1 k) ?_
    show Good p e below _ (T235.setTop (mkF m 105 #[.val (.int p0), .val (.ref b1), .val (.int (7 : Int32)), .unset] []))
    refine Good.back (fun _ k => XS.iconst X235.here hx rfl (hb hby at_105) k) ?_
    show Good p e below _ (T235.setTop (mkF m 106 #[.val (.int p0), .val (.ref b1), .val (.int (7 : Int32)), .unset] [(.int (1 : Int32))]))
    refine Good.back (fun _ k => XS.istoreN X235.here hx rfl (hb hby at_106) rfl (l' := #[.val (.int p0), .val (.ref b1), .val (.int (7 : Int32)), .val (.int (1 : Int32))]) rfl k) ?_
    show Good p e below _ (T235.setTop (mkF m 107 #[.val (.int p0), .val (.ref b1), .val (.int (7 : Int32)), .val (.int (1 : Int32))] []))
    refine Good.back (fun _ k => XS.goto X235.here hx rfl (pc0 := 107) (pc' := 134) rfl (hb hby at_107) (by decide) (by decide) k) ?_
    show Good p e below _ (T235.setTop (mkF m 134 #[.val (.int p0), .val (.ref b1), .val (.int (7 : Int32)), .val (.int (1 : Int32))] []))
    refine Good.back (fun _ k => XS.aloadN X235.here hx rfl (hb hby at_134) rfl rfl k) ?_
    show Good p e below _ (T235.setTop (mkF m 135 #[.val (.int p0), .val (.ref b1), .val (.int (7 : Int32)), .val (.int (1 : Int32))] [(.ref b1)]))
    refine Good.back (fun _ k => XS.iloadN X235.here hx rfl (hb hby at_135) rfl k) ?_
    show Good p e below _ (T235.setTop (mkF m 136 #[.val (.int p0), .val (.ref b1), .val (.int (7 : Int32)), .val (.int (1 : Int32))] [(.int (7 : Int32)), (.ref b1)]))
    have fc351 := f_236
    obtain ⟨cl351, Ar351, qk351, S351, N351', H351, G351⟩ := fc351
    have hin351 : ¬ ((7 : Int32) < 0 ∨ cl351.slots.size ≤ ((7 : Int32)).toNatClampNeg) := inb_of S351 ⟨by decide, by decide⟩
    have hat351 : cl351.slots[((7 : Int32)).toNatClampNeg]? = some (.ref w_H) := Has.at H351 hin351 rfl
    refine Good.back (X235.aaload hx (j := (7 : Int32)) (v := (.ref w_H)) (by rw [e235]; exact Ar351.1) (State.isArrayOf_alike hZ.alike Ar351.2.1) rfl Ar351.2.2 hin351 hat351 (g := (mkF m 136 #[.val (.int p0), .val (.ref b1), .val (.int (7 : Int32)), .val (.int (1 : Int32))] [(.int (7 : Int32)), (.ref b1)])) rfl rfl (hb hby at_136)) ?_
    show Good p e below _ (T235.setTop (mkF m 137 #[.val (.int p0), .val (.ref b1), .val (.int (7 : Int32)), .val (.int (1 : Int32))] [(.ref w_H)]))
    have f_353 : Sta Z h205 "org/ludarium/games/sabotage/Card$Kind" "SAB" "Lorg/ludarium/games/sabotage/Card$Kind;" (.ref w_SAB) := Sta.wr W205 f_191
    have f_354 : Sta Z h235 "org/ludarium/games/sabotage/Card$Kind" "SAB" "Lorg/ludarium/games/sabotage/Card$Kind;" (.ref w_SAB) := Sta.wr W235 f_353
    have f_355 : Sta Z h235 "org/ludarium/games/sabotage/Card$Kind" "DIS" "Lorg/ludarium/games/sabotage/Card$Kind;" (.ref w_DIS) := Sta.wr W235 f_220
    have f_356 : Exa Z h105 w_H "org/ludarium/games/sabotage/Card$Kind" := Exa.wr W105 f_104
    have f_357 : Exa Z h127 w_H "org/ludarium/games/sabotage/Card$Kind" := Exa.wr W127 f_356
    have f_358 : Exa Z h151 w_H "org/ludarium/games/sabotage/Card$Kind" := Exa.wr W151 f_357
    have f_359 : Exa Z h177 w_H "org/ludarium/games/sabotage/Card$Kind" := Exa.wr W177 f_358
    have f_360 : Exa Z h205 w_H "org/ludarium/games/sabotage/Card$Kind" := Exa.wr W205 f_359
    have f_361 : Exa Z h235 w_H "org/ludarium/games/sabotage/Card$Kind" := Exa.wr W235 f_360
    obtain ⟨cq352, kq352, q352a, q352b, q352c⟩ := isOf hZ e235 f_361
    obtain ⟨_, _, ⟨T352, L352, k352, n352⟩, -, X352, ⟨Lc352, hQ352, l352, y352, z352⟩, st352⟩ := X235.virtualBack hx (y := (⟨"org/ludarium/games/sabotage/Card$Kind", "isPipe", "()Z"⟩ : MethodName)) (z := (⟨"org/ludarium/games/sabotage/Card$Kind", "isPipe", "()Z"⟩ : MethodName)) hown (mvT hZ (hw _ (List.mem_of_getElem? (i := 31) rfl))) (mvT hZ (hw _ (List.mem_of_getElem? (i := 32) rfl))) (notFace_of_selects (args := #[]) (mvT hZ (hw _ (List.mem_of_getElem? (i := 34) rfl)))) (mvT hZ (hw _ (List.mem_of_getElem? (i := 34) rfl))) (mvT hZ (hw _ (List.mem_of_getElem? (i := 33) rfl))) (by decide) (backOf (W := 0) (rm1y l Z a0 hw [] w_H w_SAB w_DIS h235 n0 Z237 f_354 f_355 (Ne.symm ne_w_SAB_w_H) (Ne.symm ne_w_DIS_w_H)) hZ (hw _ (List.mem_of_getElem? (i := 35) rfl)) (hw _ (List.mem_of_getElem? (i := 3) rfl)) (by decide) (by decide)) q352a q352c (g := (mkF m 137 #[.val (.int p0), .val (.ref b1), .val (.int (7 : Int32)), .val (.int (1 : Int32))] [(.ref w_H)])) rfl (by rw [hml]; rfl) (Steps.refl _) (argsL := []) (rest := []) (lenOf own_pd10 rfl) rfl (by show 2 * 0 + _ ≤ _; exact Nat.le_of_eq rfl) (hb hby at_137) (fun _ _ => ⟨rfl, e235, (by decide : 1 + 0 ≤ _), (by decide : 13 + 0 ≤ _)⟩)
    dsimp only [Pt.U, Pt.locs, Pt.cells, Pt.slots] at X352 l352 y352 z352 st352 hQ352
    subst l352 y352 z352
    obtain ⟨rfl, N352q, eh352⟩ := hQ352
    have N352 := Fr.app N235 N352q
    refine Good.back (fun _ k => st352.trans k) ?_
    show Good p e below _ (T352.setTop (mkF m 140 #[.val (.int p0), .val (.ref b1), .val (.int (7 : Int32)), .val (.int (1 : Int32))] [(.int (1 : Int32))]))
    refine Good.back (fun _ k => XS.iloadN X352.here hx rfl (hb hby at_140) rfl k) ?_
    show Good p e below _ (T352.setTop (mkF m 141 #[.val (.int p0), .val (.ref b1), .val (.int (7 : Int32)), .val (.int (1 : Int32))] [(.int (1 : Int32)), (.int (1 : Int32))]))
    refine Good.back (fun _ k => XS.icmpNo X352.here hx rfl (hb hby at_141) rfl (teq (by decide : ((1 : Int32) = (1 : Int32)))).2 k) ?_
    show Good p e below _ (T352.setTop (mkF m 144 #[.val (.int p0), .val (.ref b1), .val (.int (7 : Int32)), .val (.int (1 : Int32))] []))
    refine Good.back (fun _ k => XS.iconst X352.here hx rfl (hb hby at_144) k) ?_
    show Good p e below _ (T352.setTop (mkF m 145 #[.val (.int p0), .val (.ref b1), .val (.int (7 : Int32)), .val (.int (1 : Int32))] [(.int (1 : Int32))]))
    refine Good.back (fun _ k => XS.goto X352.here hx rfl (pc0 := 145) (pc' := 149) rfl (hb hby at_145) (by decide) (by decide) k) ?_
    show Good p e below _ (T352.setTop (mkF m 149 #[.val (.int p0), .val (.ref b1), .val (.int (7 : Int32)), .val (.int (1 : Int32))] [(.int (1 : Int32))]))
    obtain ⟨fs362, hr362, hrun362, hended362, hW362, hsame362⟩ := X352.leave (v := some (.int (1 : Int32))) (fun h => by rw [Bd.returns] at h; cases h)
    refine Good.done (retN X352 hx (t := .boolean) Bd.returns (by simp) (hb hby at_149) hr362) hrun362 hended362 ⟨_, _, rfl, ?_, ⟨_, rfl⟩, hW362, hsame362.mono (by decide) (by decide)⟩
    show Q0 Z p0 w_A w_B w_C w_D w_E w_F w_G w_H w_I w_X w_W w_SAB w_DIS h0 n0 _ T352.heap _
    rw [eh352]
    exact ⟨rfl, N352⟩
  · have he238' : ((p0 &&& (2147483647 : Int32)) % (13 : Int32)) = (8 : Int32) := he238
    rw [he238']
    show Good p e below _ (T235.setTop (mkF m 99 #[.val (.int p0), .val (.ref b1), .val (.int (8 : Int32)), .unset] []))
    refine Good.back (fun _ k => XS.iloadN X235.here hx rfl (hb hby at_99) rfl k) ?_
    show Good p e below _ (T235.setTop (mkF m 100 #[.val (.int p0), .val (.ref b1), .val (.int (8 : Int32)), .unset] [(.int (8 : Int32))]))
    refine Good.back (fun _ k => XS.bipush X235.here hx rfl (hb hby at_100) k) ?_
    show Good p e below _ (T235.setTop (mkF m 102 #[.val (.int p0), .val (.ref b1), .val (.int (8 : Int32)), .unset] [(.int (9 : Int32)), (.int (8 : Int32))]))
    refine Good.back (fun _ k => XS.icmpNo X235.here hx rfl (hb hby at_102) rfl (tlt (by decide : ((8 : Int32) < (9 : Int32)))).2.1 k) ?_
    show Good p e below _ (T235.setTop (mkF m 105 #[.val (.int p0), .val (.ref b1), .val (.int (8 : Int32)), .unset] []))
    refine Good.back (fun _ k => XS.iconst X235.here hx rfl (hb hby at_105) k) ?_
    show Good p e below _ (T235.setTop (mkF m 106 #[.val (.int p0), .val (.ref b1), .val (.int (8 : Int32)), .unset] [(.int (1 : Int32))]))
    refine Good.back (fun _ k => XS.istoreN X235.here hx rfl (hb hby at_106) rfl (l' := #[.val (.int p0), .val (.ref b1), .val (.int (8 : Int32)), .val (.int (1 : Int32))]) rfl k) ?_
    show Good p e below _ (T235.setTop (mkF m 107 #[.val (.int p0), .val (.ref b1), .val (.int (8 : Int32)), .val (.int (1 : Int32))] []))
    refine Good.back (fun _ k => XS.goto X235.here hx rfl (pc0 := 107) (pc' := 134) rfl (hb hby at_107) (by decide) (by decide) k) ?_
    show Good p e below _ (T235.setTop (mkF m 134 #[.val (.int p0), .val (.ref b1), .val (.int (8 : Int32)), .val (.int (1 : Int32))] []))
    refine Good.back (fun _ k => XS.aloadN X235.here hx rfl (hb hby at_134) rfl rfl k) ?_
    show Good p e below _ (T235.setTop (mkF m 135 #[.val (.int p0), .val (.ref b1), .val (.int (8 : Int32)), .val (.int (1 : Int32))] [(.ref b1)]))
    refine Good.back (fun _ k => XS.iloadN X235.here hx rfl (hb hby at_135) rfl k) ?_
    show Good p e below _ (T235.setTop (mkF m 136 #[.val (.int p0), .val (.ref b1), .val (.int (8 : Int32)), .val (.int (1 : Int32))] [(.int (8 : Int32)), (.ref b1)]))
    have fc363 := f_236
    obtain ⟨cl363, Ar363, qk363, S363, N363', H363, G363⟩ := fc363
    have hin363 : ¬ ((8 : Int32) < 0 ∨ cl363.slots.size ≤ ((8 : Int32)).toNatClampNeg) := inb_of S363 ⟨by decide, by decide⟩
    have hat363 : cl363.slots[((8 : Int32)).toNatClampNeg]? = some (.ref w_I) := Has.at H363 hin363 rfl
    refine Good.back (X235.aaload hx (j := (8 : Int32)) (v := (.ref w_I)) (by rw [e235]; exact Ar363.1) (State.isArrayOf_alike hZ.alike Ar363.2.1) rfl Ar363.2.2 hin363 hat363 (g := (mkF m 136 #[.val (.int p0), .val (.ref b1), .val (.int (8 : Int32)), .val (.int (1 : Int32))] [(.int (8 : Int32)), (.ref b1)])) rfl rfl (hb hby at_136)) ?_
    show Good p e below _ (T235.setTop (mkF m 137 #[.val (.int p0), .val (.ref b1), .val (.int (8 : Int32)), .val (.int (1 : Int32))] [(.ref w_I)]))
    have f_365 : Sta Z h205 "org/ludarium/games/sabotage/Card$Kind" "SAB" "Lorg/ludarium/games/sabotage/Card$Kind;" (.ref w_SAB) := Sta.wr W205 f_191
    have f_366 : Sta Z h235 "org/ludarium/games/sabotage/Card$Kind" "SAB" "Lorg/ludarium/games/sabotage/Card$Kind;" (.ref w_SAB) := Sta.wr W235 f_365
    have f_367 : Sta Z h235 "org/ludarium/games/sabotage/Card$Kind" "DIS" "Lorg/ludarium/games/sabotage/Card$Kind;" (.ref w_DIS) := Sta.wr W235 f_220
    have f_368 : Exa Z h127 w_I "org/ludarium/games/sabotage/Card$Kind" := Exa.wr W127 f_126
    have f_369 : Exa Z h151 w_I "org/ludarium/games/sabotage/Card$Kind" := Exa.wr W151 f_368
    have f_370 : Exa Z h177 w_I "org/ludarium/games/sabotage/Card$Kind" := Exa.wr W177 f_369
    have f_371 : Exa Z h205 w_I "org/ludarium/games/sabotage/Card$Kind" := Exa.wr W205 f_370
    have f_372 : Exa Z h235 w_I "org/ludarium/games/sabotage/Card$Kind" := Exa.wr W235 f_371
    obtain ⟨cq364, kq364, q364a, q364b, q364c⟩ := isOf hZ e235 f_372
    obtain ⟨_, _, ⟨T364, L364, k364, n364⟩, -, X364, ⟨Lc364, hQ364, l364, y364, z364⟩, st364⟩ := X235.virtualBack hx (y := (⟨"org/ludarium/games/sabotage/Card$Kind", "isPipe", "()Z"⟩ : MethodName)) (z := (⟨"org/ludarium/games/sabotage/Card$Kind", "isPipe", "()Z"⟩ : MethodName)) hown (mvT hZ (hw _ (List.mem_of_getElem? (i := 31) rfl))) (mvT hZ (hw _ (List.mem_of_getElem? (i := 32) rfl))) (notFace_of_selects (args := #[]) (mvT hZ (hw _ (List.mem_of_getElem? (i := 34) rfl)))) (mvT hZ (hw _ (List.mem_of_getElem? (i := 34) rfl))) (mvT hZ (hw _ (List.mem_of_getElem? (i := 33) rfl))) (by decide) (backOf (W := 0) (rm1y l Z a0 hw [] w_I w_SAB w_DIS h235 n0 Z237 f_366 f_367 (Ne.symm ne_w_SAB_w_I) (Ne.symm ne_w_DIS_w_I)) hZ (hw _ (List.mem_of_getElem? (i := 35) rfl)) (hw _ (List.mem_of_getElem? (i := 3) rfl)) (by decide) (by decide)) q364a q364c (g := (mkF m 137 #[.val (.int p0), .val (.ref b1), .val (.int (8 : Int32)), .val (.int (1 : Int32))] [(.ref w_I)])) rfl (by rw [hml]; rfl) (Steps.refl _) (argsL := []) (rest := []) (lenOf own_pd10 rfl) rfl (by show 2 * 0 + _ ≤ _; exact Nat.le_of_eq rfl) (hb hby at_137) (fun _ _ => ⟨rfl, e235, (by decide : 1 + 0 ≤ _), (by decide : 13 + 0 ≤ _)⟩)
    dsimp only [Pt.U, Pt.locs, Pt.cells, Pt.slots] at X364 l364 y364 z364 st364 hQ364
    subst l364 y364 z364
    obtain ⟨rfl, N364q, eh364⟩ := hQ364
    have N364 := Fr.app N235 N364q
    refine Good.back (fun _ k => st364.trans k) ?_
    show Good p e below _ (T364.setTop (mkF m 140 #[.val (.int p0), .val (.ref b1), .val (.int (8 : Int32)), .val (.int (1 : Int32))] [(.int (1 : Int32))]))
    refine Good.back (fun _ k => XS.iloadN X364.here hx rfl (hb hby at_140) rfl k) ?_
    show Good p e below _ (T364.setTop (mkF m 141 #[.val (.int p0), .val (.ref b1), .val (.int (8 : Int32)), .val (.int (1 : Int32))] [(.int (1 : Int32)), (.int (1 : Int32))]))
    refine Good.back (fun _ k => XS.icmpNo X364.here hx rfl (hb hby at_141) rfl (teq (by decide : ((1 : Int32) = (1 : Int32)))).2 k) ?_
    show Good p e below _ (T364.setTop (mkF m 144 #[.val (.int p0), .val (.ref b1), .val (.int (8 : Int32)), .val (.int (1 : Int32))] []))
    refine Good.back (fun _ k => XS.iconst X364.here hx rfl (hb hby at_144) k) ?_
    show Good p e below _ (T364.setTop (mkF m 145 #[.val (.int p0), .val (.ref b1), .val (.int (8 : Int32)), .val (.int (1 : Int32))] [(.int (1 : Int32))]))
    refine Good.back (fun _ k => XS.goto X364.here hx rfl (pc0 := 145) (pc' := 149) rfl (hb hby at_145) (by decide) (by decide) k) ?_
    show Good p e below _ (T364.setTop (mkF m 149 #[.val (.int p0), .val (.ref b1), .val (.int (8 : Int32)), .val (.int (1 : Int32))] [(.int (1 : Int32))]))
    obtain ⟨fs373, hr373, hrun373, hended373, hW373, hsame373⟩ := X364.leave (v := some (.int (1 : Int32))) (fun h => by rw [Bd.returns] at h; cases h)
    refine Good.done (retN X364 hx (t := .boolean) Bd.returns (by simp) (hb hby at_149) hr373) hrun373 hended373 ⟨_, _, rfl, ?_, ⟨_, rfl⟩, hW373, hsame373.mono (by decide) (by decide)⟩
    show Q0 Z p0 w_A w_B w_C w_D w_E w_F w_G w_H w_I w_X w_W w_SAB w_DIS h0 n0 _ T364.heap _
    rw [eh364]
    exact ⟨rfl, N364⟩
  · have he238' : ((p0 &&& (2147483647 : Int32)) % (13 : Int32)) = (9 : Int32) := he238
    rw [he238']
    show Good p e below _ (T235.setTop (mkF m 99 #[.val (.int p0), .val (.ref b1), .val (.int (9 : Int32)), .unset] []))
    refine Good.back (fun _ k => XS.iloadN X235.here hx rfl (hb hby at_99) rfl k) ?_
    show Good p e below _ (T235.setTop (mkF m 100 #[.val (.int p0), .val (.ref b1), .val (.int (9 : Int32)), .unset] [(.int (9 : Int32))]))
    refine Good.back (fun _ k => XS.bipush X235.here hx rfl (hb hby at_100) k) ?_
    show Good p e below _ (T235.setTop (mkF m 102 #[.val (.int p0), .val (.ref b1), .val (.int (9 : Int32)), .unset] [(.int (9 : Int32)), (.int (9 : Int32))]))
    refine Good.back (fun _ k => XS.icmpYes X235.here hx rfl (pc0 := 102) (pc' := 110) rfl (hb hby at_102) rfl (flt (by decide : ¬ ((9 : Int32) < (9 : Int32)))).2.1 (by decide) (by decide) k) ?_
    show Good p e below _ (T235.setTop (mkF m 110 #[.val (.int p0), .val (.ref b1), .val (.int (9 : Int32)), .unset] []))
    refine Good.back (fun _ k => XS.iloadN X235.here hx rfl (hb hby at_110) rfl k) ?_
    show Good p e below _ (T235.setTop (mkF m 111 #[.val (.int p0), .val (.ref b1), .val (.int (9 : Int32)), .unset] [(.int (9 : Int32))]))
    refine Good.back (fun _ k => XS.bipush X235.here hx rfl (hb hby at_111) k) ?_
    show Good p e below _ (T235.setTop (mkF m 113 #[.val (.int p0), .val (.ref b1), .val (.int (9 : Int32)), .unset] [(.int (9 : Int32)), (.int (9 : Int32))]))
    refine Good.back (fun _ k => XS.icmpNo X235.here hx rfl (hb hby at_113) rfl (teq (by decide : ((9 : Int32) = (9 : Int32)))).2 k) ?_
    show Good p e below _ (T235.setTop (mkF m 116 #[.val (.int p0), .val (.ref b1), .val (.int (9 : Int32)), .unset] []))
    refine Good.back (fun _ k => XS.iconst X235.here hx rfl (hb hby at_116) k) ?_
    show Good p e below _ (T235.setTop (mkF m 117 #[.val (.int p0), .val (.ref b1), .val (.int (9 : Int32)), .unset] [(.int (1 : Int32))]))
    refine Good.back (fun _ k => XS.istoreN X235.here hx rfl (hb hby at_117) rfl (l' := #[.val (.int p0), .val (.ref b1), .val (.int (9 : Int32)), .val (.int (1 : Int32))]) rfl k) ?_
    show Good p e below _ (T235.setTop (mkF m 118 #[.val (.int p0), .val (.ref b1), .val (.int (9 : Int32)), .val (.int (1 : Int32))] []))
    refine Good.back (fun _ k => XS.goto X235.here hx rfl (pc0 := 118) (pc' := 134) rfl (hb hby at_118) (by decide) (by decide) k) ?_
    show Good p e below _ (T235.setTop (mkF m 134 #[.val (.int p0), .val (.ref b1), .val (.int (9 : Int32)), .val (.int (1 : Int32))] []))
    refine Good.back (fun _ k => XS.aloadN X235.here hx rfl (hb hby at_134) rfl rfl k) ?_
    show Good p e below _ (T235.setTop (mkF m 135 #[.val (.int p0), .val (.ref b1), .val (.int (9 : Int32)), .val (.int (1 : Int32))] [(.ref b1)]))
    refine Good.back (fun _ k => XS.iloadN X235.here hx rfl (hb hby at_135) rfl k) ?_
    show Good p e below _ (T235.setTop (mkF m 136 #[.val (.int p0), .val (.ref b1), .val (.int (9 : Int32)), .val (.int (1 : Int32))] [(.int (9 : Int32)), (.ref b1)]))
    have fc374 := f_236
    obtain ⟨cl374, Ar374, qk374, S374, N374', H374, G374⟩ := fc374
    have hin374 : ¬ ((9 : Int32) < 0 ∨ cl374.slots.size ≤ ((9 : Int32)).toNatClampNeg) := inb_of S374 ⟨by decide, by decide⟩
    have hat374 : cl374.slots[((9 : Int32)).toNatClampNeg]? = some (.ref w_X) := Has.at H374 hin374 rfl
    refine Good.back (X235.aaload hx (j := (9 : Int32)) (v := (.ref w_X)) (by rw [e235]; exact Ar374.1) (State.isArrayOf_alike hZ.alike Ar374.2.1) rfl Ar374.2.2 hin374 hat374 (g := (mkF m 136 #[.val (.int p0), .val (.ref b1), .val (.int (9 : Int32)), .val (.int (1 : Int32))] [(.int (9 : Int32)), (.ref b1)])) rfl rfl (hb hby at_136)) ?_
    show Good p e below _ (T235.setTop (mkF m 137 #[.val (.int p0), .val (.ref b1), .val (.int (9 : Int32)), .val (.int (1 : Int32))] [(.ref w_X)]))
    have f_376 : Sta Z h205 "org/ludarium/games/sabotage/Card$Kind" "SAB" "Lorg/ludarium/games/sabotage/Card$Kind;" (.ref w_SAB) := Sta.wr W205 f_191
    have f_377 : Sta Z h235 "org/ludarium/games/sabotage/Card$Kind" "SAB" "Lorg/ludarium/games/sabotage/Card$Kind;" (.ref w_SAB) := Sta.wr W235 f_376
    have f_378 : Sta Z h235 "org/ludarium/games/sabotage/Card$Kind" "DIS" "Lorg/ludarium/games/sabotage/Card$Kind;" (.ref w_DIS) := Sta.wr W235 f_220
    have f_379 : Exa Z h151 w_X "org/ludarium/games/sabotage/Card$Kind" := Exa.wr W151 f_150
    have f_380 : Exa Z h177 w_X "org/ludarium/games/sabotage/Card$Kind" := Exa.wr W177 f_379
    have f_381 : Exa Z h205 w_X "org/ludarium/games/sabotage/Card$Kind" := Exa.wr W205 f_380
    have f_382 : Exa Z h235 w_X "org/ludarium/games/sabotage/Card$Kind" := Exa.wr W235 f_381
    obtain ⟨cq375, kq375, q375a, q375b, q375c⟩ := isOf hZ e235 f_382
    obtain ⟨_, _, ⟨T375, L375, k375, n375⟩, -, X375, ⟨Lc375, hQ375, l375, y375, z375⟩, st375⟩ := X235.virtualBack hx (y := (⟨"org/ludarium/games/sabotage/Card$Kind", "isPipe", "()Z"⟩ : MethodName)) (z := (⟨"org/ludarium/games/sabotage/Card$Kind", "isPipe", "()Z"⟩ : MethodName)) hown (mvT hZ (hw _ (List.mem_of_getElem? (i := 31) rfl))) (mvT hZ (hw _ (List.mem_of_getElem? (i := 32) rfl))) (notFace_of_selects (args := #[]) (mvT hZ (hw _ (List.mem_of_getElem? (i := 34) rfl)))) (mvT hZ (hw _ (List.mem_of_getElem? (i := 34) rfl))) (mvT hZ (hw _ (List.mem_of_getElem? (i := 33) rfl))) (by decide) (backOf (W := 0) (rm1y l Z a0 hw [] w_X w_SAB w_DIS h235 n0 Z237 f_377 f_378 (Ne.symm ne_w_SAB_w_X) (Ne.symm ne_w_DIS_w_X)) hZ (hw _ (List.mem_of_getElem? (i := 35) rfl)) (hw _ (List.mem_of_getElem? (i := 3) rfl)) (by decide) (by decide)) q375a q375c (g := (mkF m 137 #[.val (.int p0), .val (.ref b1), .val (.int (9 : Int32)), .val (.int (1 : Int32))] [(.ref w_X)])) rfl (by rw [hml]; rfl) (Steps.refl _) (argsL := []) (rest := []) (lenOf own_pd10 rfl) rfl (by show 2 * 0 + _ ≤ _; exact Nat.le_of_eq rfl) (hb hby at_137) (fun _ _ => ⟨rfl, e235, (by decide : 1 + 0 ≤ _), (by decide : 13 + 0 ≤ _)⟩)
    dsimp only [Pt.U, Pt.locs, Pt.cells, Pt.slots] at X375 l375 y375 z375 st375 hQ375
    subst l375 y375 z375
    obtain ⟨rfl, N375q, eh375⟩ := hQ375
    have N375 := Fr.app N235 N375q
    refine Good.back (fun _ k => st375.trans k) ?_
    show Good p e below _ (T375.setTop (mkF m 140 #[.val (.int p0), .val (.ref b1), .val (.int (9 : Int32)), .val (.int (1 : Int32))] [(.int (1 : Int32))]))
    refine Good.back (fun _ k => XS.iloadN X375.here hx rfl (hb hby at_140) rfl k) ?_
    show Good p e below _ (T375.setTop (mkF m 141 #[.val (.int p0), .val (.ref b1), .val (.int (9 : Int32)), .val (.int (1 : Int32))] [(.int (1 : Int32)), (.int (1 : Int32))]))
    refine Good.back (fun _ k => XS.icmpNo X375.here hx rfl (hb hby at_141) rfl (teq (by decide : ((1 : Int32) = (1 : Int32)))).2 k) ?_
    show Good p e below _ (T375.setTop (mkF m 144 #[.val (.int p0), .val (.ref b1), .val (.int (9 : Int32)), .val (.int (1 : Int32))] []))
    refine Good.back (fun _ k => XS.iconst X375.here hx rfl (hb hby at_144) k) ?_
    show Good p e below _ (T375.setTop (mkF m 145 #[.val (.int p0), .val (.ref b1), .val (.int (9 : Int32)), .val (.int (1 : Int32))] [(.int (1 : Int32))]))
    refine Good.back (fun _ k => XS.goto X375.here hx rfl (pc0 := 145) (pc' := 149) rfl (hb hby at_145) (by decide) (by decide) k) ?_
    show Good p e below _ (T375.setTop (mkF m 149 #[.val (.int p0), .val (.ref b1), .val (.int (9 : Int32)), .val (.int (1 : Int32))] [(.int (1 : Int32))]))
    obtain ⟨fs383, hr383, hrun383, hended383, hW383, hsame383⟩ := X375.leave (v := some (.int (1 : Int32))) (fun h => by rw [Bd.returns] at h; cases h)
    refine Good.done (retN X375 hx (t := .boolean) Bd.returns (by simp) (hb hby at_149) hr383) hrun383 hended383 ⟨_, _, rfl, ?_, ⟨_, rfl⟩, hW383, hsame383.mono (by decide) (by decide)⟩
    show Q0 Z p0 w_A w_B w_C w_D w_E w_F w_G w_H w_I w_X w_W w_SAB w_DIS h0 n0 _ T375.heap _
    rw [eh375]
    exact ⟨rfl, N375⟩
  · have he238' : ((p0 &&& (2147483647 : Int32)) % (13 : Int32)) = (10 : Int32) := he238
    rw [he238']
    show Good p e below _ (T235.setTop (mkF m 99 #[.val (.int p0), .val (.ref b1), .val (.int (10 : Int32)), .unset] []))
    refine Good.back (fun _ k => XS.iloadN X235.here hx rfl (hb hby at_99) rfl k) ?_
    show Good p e below _ (T235.setTop (mkF m 100 #[.val (.int p0), .val (.ref b1), .val (.int (10 : Int32)), .unset] [(.int (10 : Int32))]))
    refine Good.back (fun _ k => XS.bipush X235.here hx rfl (hb hby at_100) k) ?_
    show Good p e below _ (T235.setTop (mkF m 102 #[.val (.int p0), .val (.ref b1), .val (.int (10 : Int32)), .unset] [(.int (9 : Int32)), (.int (10 : Int32))]))
    refine Good.back (fun _ k => XS.icmpYes X235.here hx rfl (pc0 := 102) (pc' := 110) rfl (hb hby at_102) rfl (flt (by decide : ¬ ((10 : Int32) < (9 : Int32)))).2.1 (by decide) (by decide) k) ?_
    show Good p e below _ (T235.setTop (mkF m 110 #[.val (.int p0), .val (.ref b1), .val (.int (10 : Int32)), .unset] []))
    refine Good.back (fun _ k => XS.iloadN X235.here hx rfl (hb hby at_110) rfl k) ?_
    show Good p e below _ (T235.setTop (mkF m 111 #[.val (.int p0), .val (.ref b1), .val (.int (10 : Int32)), .unset] [(.int (10 : Int32))]))
    refine Good.back (fun _ k => XS.bipush X235.here hx rfl (hb hby at_111) k) ?_
    show Good p e below _ (T235.setTop (mkF m 113 #[.val (.int p0), .val (.ref b1), .val (.int (10 : Int32)), .unset] [(.int (9 : Int32)), (.int (10 : Int32))]))
    refine Good.back (fun _ k => XS.icmpYes X235.here hx rfl (pc0 := 113) (pc' := 121) rfl (hb hby at_113) rfl (feq (by decide : ¬ ((10 : Int32) = (9 : Int32)))).2 (by decide) (by decide) k) ?_
    show Good p e below _ (T235.setTop (mkF m 121 #[.val (.int p0), .val (.ref b1), .val (.int (10 : Int32)), .unset] []))
    refine Good.back (fun _ k => XS.iloadN X235.here hx rfl (hb hby at_121) rfl k) ?_
    show Good p e below _ (T235.setTop (mkF m 122 #[.val (.int p0), .val (.ref b1), .val (.int (10 : Int32)), .unset] [(.int (10 : Int32))]))
    refine Good.back (fun _ k => XS.bipush X235.here hx rfl (hb hby at_122) k) ?_
    show Good p e below _ (T235.setTop (mkF m 124 #[.val (.int p0), .val (.ref b1), .val (.int (10 : Int32)), .unset] [(.int (10 : Int32)), (.int (10 : Int32))]))
    refine Good.back (fun _ k => XS.icmpNo X235.here hx rfl (hb hby at_124) rfl (teq (by decide : ((10 : Int32) = (10 : Int32)))).2 k) ?_
    show Good p e below _ (T235.setTop (mkF m 127 #[.val (.int p0), .val (.ref b1), .val (.int (10 : Int32)), .unset] []))
    refine Good.back (fun _ k => XS.iconst X235.here hx rfl (hb hby at_127) k) ?_
    show Good p e below _ (T235.setTop (mkF m 128 #[.val (.int p0), .val (.ref b1), .val (.int (10 : Int32)), .unset] [(.int (1 : Int32))]))
    refine Good.back (fun _ k => XS.istoreN X235.here hx rfl (hb hby at_128) rfl (l' := #[.val (.int p0), .val (.ref b1), .val (.int (10 : Int32)), .val (.int (1 : Int32))]) rfl k) ?_
    show Good p e below _ (T235.setTop (mkF m 129 #[.val (.int p0), .val (.ref b1), .val (.int (10 : Int32)), .val (.int (1 : Int32))] []))
    refine Good.back (fun _ k => XS.goto X235.here hx rfl (pc0 := 129) (pc' := 134) rfl (hb hby at_129) (by decide) (by decide) k) ?_
    show Good p e below _ (T235.setTop (mkF m 134 #[.val (.int p0), .val (.ref b1), .val (.int (10 : Int32)), .val (.int (1 : Int32))] []))
    refine Good.back (fun _ k => XS.aloadN X235.here hx rfl (hb hby at_134) rfl rfl k) ?_
    show Good p e below _ (T235.setTop (mkF m 135 #[.val (.int p0), .val (.ref b1), .val (.int (10 : Int32)), .val (.int (1 : Int32))] [(.ref b1)]))
    refine Good.back (fun _ k => XS.iloadN X235.here hx rfl (hb hby at_135) rfl k) ?_
    show Good p e below _ (T235.setTop (mkF m 136 #[.val (.int p0), .val (.ref b1), .val (.int (10 : Int32)), .val (.int (1 : Int32))] [(.int (10 : Int32)), (.ref b1)]))
    have fc384 := f_236
    obtain ⟨cl384, Ar384, qk384, S384, N384', H384, G384⟩ := fc384
    have hin384 : ¬ ((10 : Int32) < 0 ∨ cl384.slots.size ≤ ((10 : Int32)).toNatClampNeg) := inb_of S384 ⟨by decide, by decide⟩
    have hat384 : cl384.slots[((10 : Int32)).toNatClampNeg]? = some (.ref w_W) := Has.at H384 hin384 rfl
    refine Good.back (X235.aaload hx (j := (10 : Int32)) (v := (.ref w_W)) (by rw [e235]; exact Ar384.1) (State.isArrayOf_alike hZ.alike Ar384.2.1) rfl Ar384.2.2 hin384 hat384 (g := (mkF m 136 #[.val (.int p0), .val (.ref b1), .val (.int (10 : Int32)), .val (.int (1 : Int32))] [(.int (10 : Int32)), (.ref b1)])) rfl rfl (hb hby at_136)) ?_
    show Good p e below _ (T235.setTop (mkF m 137 #[.val (.int p0), .val (.ref b1), .val (.int (10 : Int32)), .val (.int (1 : Int32))] [(.ref w_W)]))
    have f_386 : Sta Z h205 "org/ludarium/games/sabotage/Card$Kind" "SAB" "Lorg/ludarium/games/sabotage/Card$Kind;" (.ref w_SAB) := Sta.wr W205 f_191
    have f_387 : Sta Z h235 "org/ludarium/games/sabotage/Card$Kind" "SAB" "Lorg/ludarium/games/sabotage/Card$Kind;" (.ref w_SAB) := Sta.wr W235 f_386
    have f_388 : Sta Z h235 "org/ludarium/games/sabotage/Card$Kind" "DIS" "Lorg/ludarium/games/sabotage/Card$Kind;" (.ref w_DIS) := Sta.wr W235 f_220
    have f_389 : Exa Z h177 w_W "org/ludarium/games/sabotage/Card$Kind" := Exa.wr W177 f_176
    have f_390 : Exa Z h205 w_W "org/ludarium/games/sabotage/Card$Kind" := Exa.wr W205 f_389
    have f_391 : Exa Z h235 w_W "org/ludarium/games/sabotage/Card$Kind" := Exa.wr W235 f_390
    obtain ⟨cq385, kq385, q385a, q385b, q385c⟩ := isOf hZ e235 f_391
    obtain ⟨_, _, ⟨T385, L385, k385, n385⟩, -, X385, ⟨Lc385, hQ385, l385, y385, z385⟩, st385⟩ := X235.virtualBack hx (y := (⟨"org/ludarium/games/sabotage/Card$Kind", "isPipe", "()Z"⟩ : MethodName)) (z := (⟨"org/ludarium/games/sabotage/Card$Kind", "isPipe", "()Z"⟩ : MethodName)) hown (mvT hZ (hw _ (List.mem_of_getElem? (i := 31) rfl))) (mvT hZ (hw _ (List.mem_of_getElem? (i := 32) rfl))) (notFace_of_selects (args := #[]) (mvT hZ (hw _ (List.mem_of_getElem? (i := 34) rfl)))) (mvT hZ (hw _ (List.mem_of_getElem? (i := 34) rfl))) (mvT hZ (hw _ (List.mem_of_getElem? (i := 33) rfl))) (by decide) (backOf (W := 0) (rm1y l Z a0 hw [] w_W w_SAB w_DIS h235 n0 Z237 f_387 f_388 (Ne.symm ne_w_SAB_w_W) (Ne.symm ne_w_DIS_w_W)) hZ (hw _ (List.mem_of_getElem? (i := 35) rfl)) (hw _ (List.mem_of_getElem? (i := 3) rfl)) (by decide) (by decide)) q385a q385c (g := (mkF m 137 #[.val (.int p0), .val (.ref b1), .val (.int (10 : Int32)), .val (.int (1 : Int32))] [(.ref w_W)])) rfl (by rw [hml]; rfl) (Steps.refl _) (argsL := []) (rest := []) (lenOf own_pd10 rfl) rfl (by show 2 * 0 + _ ≤ _; exact Nat.le_of_eq rfl) (hb hby at_137) (fun _ _ => ⟨rfl, e235, (by decide : 1 + 0 ≤ _), (by decide : 13 + 0 ≤ _)⟩)
    dsimp only [Pt.U, Pt.locs, Pt.cells, Pt.slots] at X385 l385 y385 z385 st385 hQ385
    subst l385 y385 z385
    obtain ⟨rfl, N385q, eh385⟩ := hQ385
    have N385 := Fr.app N235 N385q
    refine Good.back (fun _ k => st385.trans k) ?_
    show Good p e below _ (T385.setTop (mkF m 140 #[.val (.int p0), .val (.ref b1), .val (.int (10 : Int32)), .val (.int (1 : Int32))] [(.int (1 : Int32))]))
    refine Good.back (fun _ k => XS.iloadN X385.here hx rfl (hb hby at_140) rfl k) ?_
    show Good p e below _ (T385.setTop (mkF m 141 #[.val (.int p0), .val (.ref b1), .val (.int (10 : Int32)), .val (.int (1 : Int32))] [(.int (1 : Int32)), (.int (1 : Int32))]))
    refine Good.back (fun _ k => XS.icmpNo X385.here hx rfl (hb hby at_141) rfl (teq (by decide : ((1 : Int32) = (1 : Int32)))).2 k) ?_
    show Good p e below _ (T385.setTop (mkF m 144 #[.val (.int p0), .val (.ref b1), .val (.int (10 : Int32)), .val (.int (1 : Int32))] []))
    refine Good.back (fun _ k => XS.iconst X385.here hx rfl (hb hby at_144) k) ?_
    show Good p e below _ (T385.setTop (mkF m 145 #[.val (.int p0), .val (.ref b1), .val (.int (10 : Int32)), .val (.int (1 : Int32))] [(.int (1 : Int32))]))
    refine Good.back (fun _ k => XS.goto X385.here hx rfl (pc0 := 145) (pc' := 149) rfl (hb hby at_145) (by decide) (by decide) k) ?_
    show Good p e below _ (T385.setTop (mkF m 149 #[.val (.int p0), .val (.ref b1), .val (.int (10 : Int32)), .val (.int (1 : Int32))] [(.int (1 : Int32))]))
    obtain ⟨fs392, hr392, hrun392, hended392, hW392, hsame392⟩ := X385.leave (v := some (.int (1 : Int32))) (fun h => by rw [Bd.returns] at h; cases h)
    refine Good.done (retN X385 hx (t := .boolean) Bd.returns (by simp) (hb hby at_149) hr392) hrun392 hended392 ⟨_, _, rfl, ?_, ⟨_, rfl⟩, hW392, hsame392.mono (by decide) (by decide)⟩
    show Q0 Z p0 w_A w_B w_C w_D w_E w_F w_G w_H w_I w_X w_W w_SAB w_DIS h0 n0 _ T385.heap _
    rw [eh385]
    exact ⟨rfl, N385⟩
  · have he238' : ((p0 &&& (2147483647 : Int32)) % (13 : Int32)) = (11 : Int32) := he238
    rw [he238']
    show Good p e below _ (T235.setTop (mkF m 99 #[.val (.int p0), .val (.ref b1), .val (.int (11 : Int32)), .unset] []))
    refine Good.back (fun _ k => XS.iloadN X235.here hx rfl (hb hby at_99) rfl k) ?_
    show Good p e below _ (T235.setTop (mkF m 100 #[.val (.int p0), .val (.ref b1), .val (.int (11 : Int32)), .unset] [(.int (11 : Int32))]))
    refine Good.back (fun _ k => XS.bipush X235.here hx rfl (hb hby at_100) k) ?_
    show Good p e below _ (T235.setTop (mkF m 102 #[.val (.int p0), .val (.ref b1), .val (.int (11 : Int32)), .unset] [(.int (9 : Int32)), (.int (11 : Int32))]))
    refine Good.back (fun _ k => XS.icmpYes X235.here hx rfl (pc0 := 102) (pc' := 110) rfl (hb hby at_102) rfl (flt (by decide : ¬ ((11 : Int32) < (9 : Int32)))).2.1 (by decide) (by decide) k) ?_
    show Good p e below _ (T235.setTop (mkF m 110 #[.val (.int p0), .val (.ref b1), .val (.int (11 : Int32)), .unset] []))
    refine Good.back (fun _ k => XS.iloadN X235.here hx rfl (hb hby at_110) rfl k) ?_
    show Good p e below _ (T235.setTop (mkF m 111 #[.val (.int p0), .val (.ref b1), .val (.int (11 : Int32)), .unset] [(.int (11 : Int32))]))
    refine Good.back (fun _ k => XS.bipush X235.here hx rfl (hb hby at_111) k) ?_
    show Good p e below _ (T235.setTop (mkF m 113 #[.val (.int p0), .val (.ref b1), .val (.int (11 : Int32)), .unset] [(.int (9 : Int32)), (.int (11 : Int32))]))
    refine Good.back (fun _ k => XS.icmpYes X235.here hx rfl (pc0 := 113) (pc' := 121) rfl (hb hby at_113) rfl (feq (by decide : ¬ ((11 : Int32) = (9 : Int32)))).2 (by decide) (by decide) k) ?_
    show Good p e below _ (T235.setTop (mkF m 121 #[.val (.int p0), .val (.ref b1), .val (.int (11 : Int32)), .unset] []))
    refine Good.back (fun _ k => XS.iloadN X235.here hx rfl (hb hby at_121) rfl k) ?_
    show Good p e below _ (T235.setTop (mkF m 122 #[.val (.int p0), .val (.ref b1), .val (.int (11 : Int32)), .unset] [(.int (11 : Int32))]))
    refine Good.back (fun _ k => XS.bipush X235.here hx rfl (hb hby at_122) k) ?_
    show Good p e below _ (T235.setTop (mkF m 124 #[.val (.int p0), .val (.ref b1), .val (.int (11 : Int32)), .unset] [(.int (10 : Int32)), (.int (11 : Int32))]))
    refine Good.back (fun _ k => XS.icmpYes X235.here hx rfl (pc0 := 124) (pc' := 132) rfl (hb hby at_124) rfl (feq (by decide : ¬ ((11 : Int32) = (10 : Int32)))).2 (by decide) (by decide) k) ?_
    show Good p e below _ (T235.setTop (mkF m 132 #[.val (.int p0), .val (.ref b1), .val (.int (11 : Int32)), .unset] []))
    refine Good.back (fun _ k => XS.iconst X235.here hx rfl (hb hby at_132) k) ?_
    show Good p e below _ (T235.setTop (mkF m 133 #[.val (.int p0), .val (.ref b1), .val (.int (11 : Int32)), .unset] [(.int (0 : Int32))]))
    refine Good.back (fun _ k => XS.istoreN X235.here hx rfl (hb hby at_133) rfl (l' := #[.val (.int p0), .val (.ref b1), .val (.int (11 : Int32)), .val (.int (0 : Int32))]) rfl k) ?_
    show Good p e below _ (T235.setTop (mkF m 134 #[.val (.int p0), .val (.ref b1), .val (.int (11 : Int32)), .val (.int (0 : Int32))] []))
    refine Good.back (fun _ k => XS.aloadN X235.here hx rfl (hb hby at_134) rfl rfl k) ?_
    show Good p e below _ (T235.setTop (mkF m 135 #[.val (.int p0), .val (.ref b1), .val (.int (11 : Int32)), .val (.int (0 : Int32))] [(.ref b1)]))
    refine Good.back (fun _ k => XS.iloadN X235.here hx rfl (hb hby at_135) rfl k) ?_
    show Good p e below _ (T235.setTop (mkF m 136 #[.val (.int p0), .val (.ref b1), .val (.int (11 : Int32)), .val (.int (0 : Int32))] [(.int (11 : Int32)), (.ref b1)]))
    have fc393 := f_236
    obtain ⟨cl393, Ar393, qk393, S393, N393', H393, G393⟩ := fc393
    have hin393 : ¬ ((11 : Int32) < 0 ∨ cl393.slots.size ≤ ((11 : Int32)).toNatClampNeg) := inb_of S393 ⟨by decide, by decide⟩
    have hat393 : cl393.slots[((11 : Int32)).toNatClampNeg]? = some (.ref w_SAB) := Has.at H393 hin393 rfl
    refine Good.back (X235.aaload hx (j := (11 : Int32)) (v := (.ref w_SAB)) (by rw [e235]; exact Ar393.1) (State.isArrayOf_alike hZ.alike Ar393.2.1) rfl Ar393.2.2 hin393 hat393 (g := (mkF m 136 #[.val (.int p0), .val (.ref b1), .val (.int (11 : Int32)), .val (.int (0 : Int32))] [(.int (11 : Int32)), (.ref b1)])) rfl rfl (hb hby at_136)) ?_
    show Good p e below _ (T235.setTop (mkF m 137 #[.val (.int p0), .val (.ref b1), .val (.int (11 : Int32)), .val (.int (0 : Int32))] [(.ref w_SAB)]))
    have f_395 : Sta Z h205 "org/ludarium/games/sabotage/Card$Kind" "SAB" "Lorg/ludarium/games/sabotage/Card$Kind;" (.ref w_SAB) := Sta.wr W205 f_191
    have f_396 : Sta Z h235 "org/ludarium/games/sabotage/Card$Kind" "SAB" "Lorg/ludarium/games/sabotage/Card$Kind;" (.ref w_SAB) := Sta.wr W235 f_395
    have f_397 : Sta Z h235 "org/ludarium/games/sabotage/Card$Kind" "DIS" "Lorg/ludarium/games/sabotage/Card$Kind;" (.ref w_DIS) := Sta.wr W235 f_220
    have f_398 : Exa Z h205 w_SAB "org/ludarium/games/sabotage/Card$Kind" := Exa.wr W205 f_204
    have f_399 : Exa Z h235 w_SAB "org/ludarium/games/sabotage/Card$Kind" := Exa.wr W235 f_398
    obtain ⟨cq394, kq394, q394a, q394b, q394c⟩ := isOf hZ e235 f_399
    obtain ⟨_, _, ⟨T394, L394, k394, n394⟩, -, X394, ⟨Lc394, hQ394, l394, y394, z394⟩, st394⟩ := X235.virtualBack hx (y := (⟨"org/ludarium/games/sabotage/Card$Kind", "isPipe", "()Z"⟩ : MethodName)) (z := (⟨"org/ludarium/games/sabotage/Card$Kind", "isPipe", "()Z"⟩ : MethodName)) hown (mvT hZ (hw _ (List.mem_of_getElem? (i := 31) rfl))) (mvT hZ (hw _ (List.mem_of_getElem? (i := 32) rfl))) (notFace_of_selects (args := #[]) (mvT hZ (hw _ (List.mem_of_getElem? (i := 34) rfl)))) (mvT hZ (hw _ (List.mem_of_getElem? (i := 34) rfl))) (mvT hZ (hw _ (List.mem_of_getElem? (i := 33) rfl))) (by decide) (backOf (W := 0) (rm1SAB l Z a0 hw []  w_SAB w_DIS h235 n0 Z237 f_396 f_397) hZ (hw _ (List.mem_of_getElem? (i := 35) rfl)) (hw _ (List.mem_of_getElem? (i := 3) rfl)) (by decide) (by decide)) q394a q394c (g := (mkF m 137 #[.val (.int p0), .val (.ref b1), .val (.int (11 : Int32)), .val (.int (0 : Int32))] [(.ref w_SAB)])) rfl (by rw [hml]; rfl) (Steps.refl _) (argsL := []) (rest := []) (lenOf own_pd10 rfl) rfl (by show 2 * 0 + _ ≤ _; exact Nat.le_of_eq rfl) (hb hby at_137) (fun _ _ => ⟨rfl, e235, (by decide : 1 + 0 ≤ _), (by decide : 13 + 0 ≤ _)⟩)
    dsimp only [Pt.U, Pt.locs, Pt.cells, Pt.slots] at X394 l394 y394 z394 st394 hQ394
    subst l394 y394 z394
    obtain ⟨rfl, N394q, eh394⟩ := hQ394
    have N394 := Fr.app N235 N394q
    refine Good.back (fun _ k => st394.trans k) ?_
    show Good p e below _ (T394.setTop (mkF m 140 #[.val (.int p0), .val (.ref b1), .val (.int (11 : Int32)), .val (.int (0 : Int32))] [(.int (0 : Int32))]))
    refine Good.back (fun _ k => XS.iloadN X394.here hx rfl (hb hby at_140) rfl k) ?_
    show Good p e below _ (T394.setTop (mkF m 141 #[.val (.int p0), .val (.ref b1), .val (.int (11 : Int32)), .val (.int (0 : Int32))] [(.int (0 : Int32)), (.int (0 : Int32))]))
    refine Good.back (fun _ k => XS.icmpNo X394.here hx rfl (hb hby at_141) rfl (teq (by decide : ((0 : Int32) = (0 : Int32)))).2 k) ?_
    show Good p e below _ (T394.setTop (mkF m 144 #[.val (.int p0), .val (.ref b1), .val (.int (11 : Int32)), .val (.int (0 : Int32))] []))
    refine Good.back (fun _ k => XS.iconst X394.here hx rfl (hb hby at_144) k) ?_
    show Good p e below _ (T394.setTop (mkF m 145 #[.val (.int p0), .val (.ref b1), .val (.int (11 : Int32)), .val (.int (0 : Int32))] [(.int (1 : Int32))]))
    refine Good.back (fun _ k => XS.goto X394.here hx rfl (pc0 := 145) (pc' := 149) rfl (hb hby at_145) (by decide) (by decide) k) ?_
    show Good p e below _ (T394.setTop (mkF m 149 #[.val (.int p0), .val (.ref b1), .val (.int (11 : Int32)), .val (.int (0 : Int32))] [(.int (1 : Int32))]))
    obtain ⟨fs400, hr400, hrun400, hended400, hW400, hsame400⟩ := X394.leave (v := some (.int (1 : Int32))) (fun h => by rw [Bd.returns] at h; cases h)
    refine Good.done (retN X394 hx (t := .boolean) Bd.returns (by simp) (hb hby at_149) hr400) hrun400 hended400 ⟨_, _, rfl, ?_, ⟨_, rfl⟩, hW400, hsame400.mono (by decide) (by decide)⟩
    show Q0 Z p0 w_A w_B w_C w_D w_E w_F w_G w_H w_I w_X w_W w_SAB w_DIS h0 n0 _ T394.heap _
    rw [eh394]
    exact ⟨rfl, N394⟩
  · have he238' : ((p0 &&& (2147483647 : Int32)) % (13 : Int32)) = (12 : Int32) := he238
    rw [he238']
    show Good p e below _ (T235.setTop (mkF m 99 #[.val (.int p0), .val (.ref b1), .val (.int (12 : Int32)), .unset] []))
    refine Good.back (fun _ k => XS.iloadN X235.here hx rfl (hb hby at_99) rfl k) ?_
    show Good p e below _ (T235.setTop (mkF m 100 #[.val (.int p0), .val (.ref b1), .val (.int (12 : Int32)), .unset] [(.int (12 : Int32))]))
    refine Good.back (fun _ k => XS.bipush X235.here hx rfl (hb hby at_100) k) ?_
    show Good p e below _ (T235.setTop (mkF m 102 #[.val (.int p0), .val (.ref b1), .val (.int (12 : Int32)), .unset] [(.int (9 : Int32)), (.int (12 : Int32))]))
    refine Good.back (fun _ k => XS.icmpYes X235.here hx rfl (pc0 := 102) (pc' := 110) rfl (hb hby at_102) rfl (flt (by decide : ¬ ((12 : Int32) < (9 : Int32)))).2.1 (by decide) (by decide) k) ?_
    show Good p e below _ (T235.setTop (mkF m 110 #[.val (.int p0), .val (.ref b1), .val (.int (12 : Int32)), .unset] []))
    refine Good.back (fun _ k => XS.iloadN X235.here hx rfl (hb hby at_110) rfl k) ?_
    show Good p e below _ (T235.setTop (mkF m 111 #[.val (.int p0), .val (.ref b1), .val (.int (12 : Int32)), .unset] [(.int (12 : Int32))]))
    refine Good.back (fun _ k => XS.bipush X235.here hx rfl (hb hby at_111) k) ?_
    show Good p e below _ (T235.setTop (mkF m 113 #[.val (.int p0), .val (.ref b1), .val (.int (12 : Int32)), .unset] [(.int (9 : Int32)), (.int (12 : Int32))]))
    refine Good.back (fun _ k => XS.icmpYes X235.here hx rfl (pc0 := 113) (pc' := 121) rfl (hb hby at_113) rfl (feq (by decide : ¬ ((12 : Int32) = (9 : Int32)))).2 (by decide) (by decide) k) ?_
    show Good p e below _ (T235.setTop (mkF m 121 #[.val (.int p0), .val (.ref b1), .val (.int (12 : Int32)), .unset] []))
    refine Good.back (fun _ k => XS.iloadN X235.here hx rfl (hb hby at_121) rfl k) ?_
    show Good p e below _ (T235.setTop (mkF m 122 #[.val (.int p0), .val (.ref b1), .val (.int (12 : Int32)), .unset] [(.int (12 : Int32))]))
    refine Good.back (fun _ k => XS.bipush X235.here hx rfl (hb hby at_122) k) ?_
    show Good p e below _ (T235.setTop (mkF m 124 #[.val (.int p0), .val (.ref b1), .val (.int (12 : Int32)), .unset] [(.int (10 : Int32)), (.int (12 : Int32))]))
    refine Good.back (fun _ k => XS.icmpYes X235.here hx rfl (pc0 := 124) (pc' := 132) rfl (hb hby at_124) rfl (feq (by decide : ¬ ((12 : Int32) = (10 : Int32)))).2 (by decide) (by decide) k) ?_
    show Good p e below _ (T235.setTop (mkF m 132 #[.val (.int p0), .val (.ref b1), .val (.int (12 : Int32)), .unset] []))
    refine Good.back (fun _ k => XS.iconst X235.here hx rfl (hb hby at_132) k) ?_
    show Good p e below _ (T235.setTop (mkF m 133 #[.val (.int p0), .val (.ref b1), .val (.int (12 : Int32)), .unset] [(.int (0 : Int32))]))
    refine Good.back (fun _ k => XS.istoreN X235.here hx rfl (hb hby at_133) rfl (l' := #[.val (.int p0), .val (.ref b1), .val (.int (12 : Int32)), .val (.int (0 : Int32))]) rfl k) ?_
    show Good p e below _ (T235.setTop (mkF m 134 #[.val (.int p0), .val (.ref b1), .val (.int (12 : Int32)), .val (.int (0 : Int32))] []))
    refine Good.back (fun _ k => XS.aloadN X235.here hx rfl (hb hby at_134) rfl rfl k) ?_
    show Good p e below _ (T235.setTop (mkF m 135 #[.val (.int p0), .val (.ref b1), .val (.int (12 : Int32)), .val (.int (0 : Int32))] [(.ref b1)]))
    refine Good.back (fun _ k => XS.iloadN X235.here hx rfl (hb hby at_135) rfl k) ?_
    show Good p e below _ (T235.setTop (mkF m 136 #[.val (.int p0), .val (.ref b1), .val (.int (12 : Int32)), .val (.int (0 : Int32))] [(.int (12 : Int32)), (.ref b1)]))
    have fc401 := f_236
    obtain ⟨cl401, Ar401, qk401, S401, N401', H401, G401⟩ := fc401
    have hin401 : ¬ ((12 : Int32) < 0 ∨ cl401.slots.size ≤ ((12 : Int32)).toNatClampNeg) := inb_of S401 ⟨by decide, by decide⟩
    have hat401 : cl401.slots[((12 : Int32)).toNatClampNeg]? = some (.ref w_DIS) := Has.at H401 hin401 rfl
    refine Good.back (X235.aaload hx (j := (12 : Int32)) (v := (.ref w_DIS)) (by rw [e235]; exact Ar401.1) (State.isArrayOf_alike hZ.alike Ar401.2.1) rfl Ar401.2.2 hin401 hat401 (g := (mkF m 136 #[.val (.int p0), .val (.ref b1), .val (.int (12 : Int32)), .val (.int (0 : Int32))] [(.int (12 : Int32)), (.ref b1)])) rfl rfl (hb hby at_136)) ?_
    show Good p e below _ (T235.setTop (mkF m 137 #[.val (.int p0), .val (.ref b1), .val (.int (12 : Int32)), .val (.int (0 : Int32))] [(.ref w_DIS)]))
    have f_403 : Sta Z h205 "org/ludarium/games/sabotage/Card$Kind" "SAB" "Lorg/ludarium/games/sabotage/Card$Kind;" (.ref w_SAB) := Sta.wr W205 f_191
    have f_404 : Sta Z h235 "org/ludarium/games/sabotage/Card$Kind" "SAB" "Lorg/ludarium/games/sabotage/Card$Kind;" (.ref w_SAB) := Sta.wr W235 f_403
    have f_405 : Sta Z h235 "org/ludarium/games/sabotage/Card$Kind" "DIS" "Lorg/ludarium/games/sabotage/Card$Kind;" (.ref w_DIS) := Sta.wr W235 f_220
    have f_406 : Exa Z h235 w_DIS "org/ludarium/games/sabotage/Card$Kind" := Exa.wr W235 f_234
    obtain ⟨cq402, kq402, q402a, q402b, q402c⟩ := isOf hZ e235 f_406
    obtain ⟨_, _, ⟨T402, L402, k402, n402⟩, -, X402, ⟨Lc402, hQ402, l402, y402, z402⟩, st402⟩ := X235.virtualBack hx (y := (⟨"org/ludarium/games/sabotage/Card$Kind", "isPipe", "()Z"⟩ : MethodName)) (z := (⟨"org/ludarium/games/sabotage/Card$Kind", "isPipe", "()Z"⟩ : MethodName)) hown (mvT hZ (hw _ (List.mem_of_getElem? (i := 31) rfl))) (mvT hZ (hw _ (List.mem_of_getElem? (i := 32) rfl))) (notFace_of_selects (args := #[]) (mvT hZ (hw _ (List.mem_of_getElem? (i := 34) rfl)))) (mvT hZ (hw _ (List.mem_of_getElem? (i := 34) rfl))) (mvT hZ (hw _ (List.mem_of_getElem? (i := 33) rfl))) (by decide) (backOf (W := 0) (rm1DIS l Z a0 hw []  w_SAB w_DIS h235 n0 Z237 f_404 f_405 (Ne.symm ne_w_SAB_w_DIS)) hZ (hw _ (List.mem_of_getElem? (i := 35) rfl)) (hw _ (List.mem_of_getElem? (i := 3) rfl)) (by decide) (by decide)) q402a q402c (g := (mkF m 137 #[.val (.int p0), .val (.ref b1), .val (.int (12 : Int32)), .val (.int (0 : Int32))] [(.ref w_DIS)])) rfl (by rw [hml]; rfl) (Steps.refl _) (argsL := []) (rest := []) (lenOf own_pd10 rfl) rfl (by show 2 * 0 + _ ≤ _; exact Nat.le_of_eq rfl) (hb hby at_137) (fun _ _ => ⟨rfl, e235, (by decide : 1 + 0 ≤ _), (by decide : 13 + 0 ≤ _)⟩)
    dsimp only [Pt.U, Pt.locs, Pt.cells, Pt.slots] at X402 l402 y402 z402 st402 hQ402
    subst l402 y402 z402
    obtain ⟨rfl, N402q, eh402⟩ := hQ402
    have N402 := Fr.app N235 N402q
    refine Good.back (fun _ k => st402.trans k) ?_
    show Good p e below _ (T402.setTop (mkF m 140 #[.val (.int p0), .val (.ref b1), .val (.int (12 : Int32)), .val (.int (0 : Int32))] [(.int (0 : Int32))]))
    refine Good.back (fun _ k => XS.iloadN X402.here hx rfl (hb hby at_140) rfl k) ?_
    show Good p e below _ (T402.setTop (mkF m 141 #[.val (.int p0), .val (.ref b1), .val (.int (12 : Int32)), .val (.int (0 : Int32))] [(.int (0 : Int32)), (.int (0 : Int32))]))
    refine Good.back (fun _ k => XS.icmpNo X402.here hx rfl (hb hby at_141) rfl (teq (by decide : ((0 : Int32) = (0 : Int32)))).2 k) ?_
    show Good p e below _ (T402.setTop (mkF m 144 #[.val (.int p0), .val (.ref b1), .val (.int (12 : Int32)), .val (.int (0 : Int32))] []))
    refine Good.back (fun _ k => XS.iconst X402.here hx rfl (hb hby at_144) k) ?_
    show Good p e below _ (T402.setTop (mkF m 145 #[.val (.int p0), .val (.ref b1), .val (.int (12 : Int32)), .val (.int (0 : Int32))] [(.int (1 : Int32))]))
    refine Good.back (fun _ k => XS.goto X402.here hx rfl (pc0 := 145) (pc' := 149) rfl (hb hby at_145) (by decide) (by decide) k) ?_
    show Good p e below _ (T402.setTop (mkF m 149 #[.val (.int p0), .val (.ref b1), .val (.int (12 : Int32)), .val (.int (0 : Int32))] [(.int (1 : Int32))]))
    obtain ⟨fs407, hr407, hrun407, hended407, hW407, hsame407⟩ := X402.leave (v := some (.int (1 : Int32))) (fun h => by rw [Bd.returns] at h; cases h)
    refine Good.done (retN X402 hx (t := .boolean) Bd.returns (by simp) (hb hby at_149) hr407) hrun407 hended407 ⟨_, _, rfl, ?_, ⟨_, rfl⟩, hW407, hsame407.mono (by decide) (by decide)⟩
    show Q0 Z p0 w_A w_B w_C w_D w_E w_F w_G w_H w_I w_X w_W w_SAB w_DIS h0 n0 _ T402.heap _
    rw [eh402]
    exact ⟨rfl, N402⟩
set_option maxRecDepth 65536 in
set_option maxHeartbeats 40000000 in
theorem comes_1 {Post : Tables → Env → Array Value → State → Outcome → State → Prop} (hpost : ∀ tb e args s v u, (limb_1_1.after args s (.returned v) u = true ∧ limb_1_2.after args s (.returned v) u = true ∧ True) → FrameEnd s (.returned v) u (Jvm.fieldLocs frame_1_writes args s ++ Jvm.arrayLocs frame_1_arrays args s ++ Jvm.staticLocs frame_1_statics s) 16 128 → Post tb e args s (.returned v) u) :
    ArmFor flags0 classFile x code maxLocals ret World_1 tables_1 room_1 Calls_1 rest_1 Pre_1 Post := by
  intro l hfl _ _ p e ha hc hk s m args below hf hA hF happ hP
  obtain ⟨hcalls, hrest, hpre⟩ := hP
  obtain ⟨-, -, -, hnamed, -, -, -, hat⟩ := (Spec.applies_iff hf).mp happ
  obtain ⟨hg, hn⟩ := and_e (Cond.before_iff.mp (show (Jvm.Cond.and given_1 narrow_1).before args s = true from hpre))
  obtain ⟨g1, g2⟩ := and_e hg
  obtain ⟨w0, rfl⟩ : ∃ w0 : Value, args = #[w0] := by
    have hs : args.size = 1 := by simpa [Cond.value, given_1] using g1
    obtain ⟨L⟩ := args
    match L, hs with
    | [w0], _ => exact ⟨w0, rfl⟩
  have hw := fun d (hd : d ∈ tables_1) => atoms_spec (ws := Jvm.Cond.code x code maxLocals ret :: tables_1) hat d (List.mem_cons_of_mem _ hd)
  have hfit : Fit s := fun {y c} hc i hi => by
    obtain ⟨ha, rfl⟩ := Array.getElem?_eq_some_iff.mp hc
    have q := List.all_eq_true.mp ((Array.all_eq_true_iff_forall_mem.mp hF) _ (Array.getElem_mem ha)) i (List.mem_range.mpr hi)
    simpa [Array.getElem?_eq_getElem hi] using q
  obtain ⟨i0, ei0⟩ := is_v g2
  obtain rfl : w0 = (.int i0) := Option.some.inj ei0
  obtain ⟨c1, c2⟩ := and_e hn
  obtain ⟨c3, c4⟩ := and_e c2
  obtain ⟨c5, c6⟩ := and_e c4
  obtain ⟨c7, c8⟩ := and_e c6
  obtain ⟨c9, c10⟩ := and_e c8
  obtain ⟨c11, c12⟩ := and_e c10
  obtain ⟨c13, c14⟩ := and_e c12
  obtain ⟨c15, c16⟩ := and_e c14
  obtain ⟨c17, c18⟩ := and_e c16
  obtain ⟨c19, c20⟩ := and_e c18
  obtain ⟨c21, c22⟩ := and_e c20
  obtain ⟨c23, c24⟩ := and_e c22
  obtain ⟨c25, c26⟩ := and_e c24
  obtain ⟨c27, c28⟩ := and_e c26
  obtain ⟨c29, c30⟩ := and_e c28
  obtain ⟨c31, c32⟩ := and_e c30
  obtain ⟨c33, c34⟩ := and_e c32
  obtain ⟨c35, c36⟩ := and_e c34
  obtain ⟨c37, c38⟩ := and_e c36
  obtain ⟨c39, c40⟩ := and_e c38
  obtain ⟨c41, c42⟩ := and_e c40
  obtain ⟨c43, c44⟩ := and_e c42
  obtain ⟨c45, c46⟩ := and_e c44
  obtain ⟨c47, c48⟩ := and_e c46
  obtain ⟨c49, c50⟩ := and_e c48
  obtain ⟨w_A, ev_w_A⟩ := exa_v c1
  have S_w_A : Sta s s.heap "org/ludarium/games/sabotage/Card$Kind" "A" "Lorg/ludarium/games/sabotage/Card$Kind;" (.ref w_A) := Sta.start ev_w_A (Or.inr ⟨(hw _ (List.mem_of_getElem? (i := 3) rfl)), (hw _ (List.mem_of_getElem? (i := 4) rfl))⟩)
  have E_w_A : Exa s s.heap w_A "org/ludarium/games/sabotage/Card$Kind" := Exa.start ev_w_A c1
  obtain ⟨w_B, ev_w_B⟩ := exa_v c3
  have S_w_B : Sta s s.heap "org/ludarium/games/sabotage/Card$Kind" "B" "Lorg/ludarium/games/sabotage/Card$Kind;" (.ref w_B) := Sta.start ev_w_B (Or.inr ⟨(hw _ (List.mem_of_getElem? (i := 3) rfl)), (hw _ (List.mem_of_getElem? (i := 7) rfl))⟩)
  have E_w_B : Exa s s.heap w_B "org/ludarium/games/sabotage/Card$Kind" := Exa.start ev_w_B c3
  obtain ⟨w_C, ev_w_C⟩ := exa_v c5
  have S_w_C : Sta s s.heap "org/ludarium/games/sabotage/Card$Kind" "C" "Lorg/ludarium/games/sabotage/Card$Kind;" (.ref w_C) := Sta.start ev_w_C (Or.inr ⟨(hw _ (List.mem_of_getElem? (i := 3) rfl)), (hw _ (List.mem_of_getElem? (i := 9) rfl))⟩)
  have E_w_C : Exa s s.heap w_C "org/ludarium/games/sabotage/Card$Kind" := Exa.start ev_w_C c5
  obtain ⟨w_D, ev_w_D⟩ := exa_v c7
  have S_w_D : Sta s s.heap "org/ludarium/games/sabotage/Card$Kind" "D" "Lorg/ludarium/games/sabotage/Card$Kind;" (.ref w_D) := Sta.start ev_w_D (Or.inr ⟨(hw _ (List.mem_of_getElem? (i := 3) rfl)), (hw _ (List.mem_of_getElem? (i := 11) rfl))⟩)
  have E_w_D : Exa s s.heap w_D "org/ludarium/games/sabotage/Card$Kind" := Exa.start ev_w_D c7
  obtain ⟨w_E, ev_w_E⟩ := exa_v c9
  have S_w_E : Sta s s.heap "org/ludarium/games/sabotage/Card$Kind" "E" "Lorg/ludarium/games/sabotage/Card$Kind;" (.ref w_E) := Sta.start ev_w_E (Or.inr ⟨(hw _ (List.mem_of_getElem? (i := 3) rfl)), (hw _ (List.mem_of_getElem? (i := 13) rfl))⟩)
  have E_w_E : Exa s s.heap w_E "org/ludarium/games/sabotage/Card$Kind" := Exa.start ev_w_E c9
  obtain ⟨w_F, ev_w_F⟩ := exa_v c11
  have S_w_F : Sta s s.heap "org/ludarium/games/sabotage/Card$Kind" "F" "Lorg/ludarium/games/sabotage/Card$Kind;" (.ref w_F) := Sta.start ev_w_F (Or.inr ⟨(hw _ (List.mem_of_getElem? (i := 3) rfl)), (hw _ (List.mem_of_getElem? (i := 15) rfl))⟩)
  have E_w_F : Exa s s.heap w_F "org/ludarium/games/sabotage/Card$Kind" := Exa.start ev_w_F c11
  obtain ⟨w_G, ev_w_G⟩ := exa_v c13
  have S_w_G : Sta s s.heap "org/ludarium/games/sabotage/Card$Kind" "G" "Lorg/ludarium/games/sabotage/Card$Kind;" (.ref w_G) := Sta.start ev_w_G (Or.inr ⟨(hw _ (List.mem_of_getElem? (i := 3) rfl)), (hw _ (List.mem_of_getElem? (i := 17) rfl))⟩)
  have E_w_G : Exa s s.heap w_G "org/ludarium/games/sabotage/Card$Kind" := Exa.start ev_w_G c13
  obtain ⟨w_H, ev_w_H⟩ := exa_v c15
  have S_w_H : Sta s s.heap "org/ludarium/games/sabotage/Card$Kind" "H" "Lorg/ludarium/games/sabotage/Card$Kind;" (.ref w_H) := Sta.start ev_w_H (Or.inr ⟨(hw _ (List.mem_of_getElem? (i := 3) rfl)), (hw _ (List.mem_of_getElem? (i := 19) rfl))⟩)
  have E_w_H : Exa s s.heap w_H "org/ludarium/games/sabotage/Card$Kind" := Exa.start ev_w_H c15
  obtain ⟨w_I, ev_w_I⟩ := exa_v c17
  have S_w_I : Sta s s.heap "org/ludarium/games/sabotage/Card$Kind" "I" "Lorg/ludarium/games/sabotage/Card$Kind;" (.ref w_I) := Sta.start ev_w_I (Or.inr ⟨(hw _ (List.mem_of_getElem? (i := 3) rfl)), (hw _ (List.mem_of_getElem? (i := 21) rfl))⟩)
  have E_w_I : Exa s s.heap w_I "org/ludarium/games/sabotage/Card$Kind" := Exa.start ev_w_I c17
  obtain ⟨w_X, ev_w_X⟩ := exa_v c19
  have S_w_X : Sta s s.heap "org/ludarium/games/sabotage/Card$Kind" "X" "Lorg/ludarium/games/sabotage/Card$Kind;" (.ref w_X) := Sta.start ev_w_X (Or.inr ⟨(hw _ (List.mem_of_getElem? (i := 3) rfl)), (hw _ (List.mem_of_getElem? (i := 23) rfl))⟩)
  have E_w_X : Exa s s.heap w_X "org/ludarium/games/sabotage/Card$Kind" := Exa.start ev_w_X c19
  obtain ⟨w_W, ev_w_W⟩ := exa_v c21
  have S_w_W : Sta s s.heap "org/ludarium/games/sabotage/Card$Kind" "W" "Lorg/ludarium/games/sabotage/Card$Kind;" (.ref w_W) := Sta.start ev_w_W (Or.inr ⟨(hw _ (List.mem_of_getElem? (i := 3) rfl)), (hw _ (List.mem_of_getElem? (i := 25) rfl))⟩)
  have E_w_W : Exa s s.heap w_W "org/ludarium/games/sabotage/Card$Kind" := Exa.start ev_w_W c21
  obtain ⟨w_SAB, ev_w_SAB⟩ := exa_v c23
  have S_w_SAB : Sta s s.heap "org/ludarium/games/sabotage/Card$Kind" "SAB" "Lorg/ludarium/games/sabotage/Card$Kind;" (.ref w_SAB) := Sta.start ev_w_SAB (Or.inr ⟨(hw _ (List.mem_of_getElem? (i := 3) rfl)), (hw _ (List.mem_of_getElem? (i := 27) rfl))⟩)
  have E_w_SAB : Exa s s.heap w_SAB "org/ludarium/games/sabotage/Card$Kind" := Exa.start ev_w_SAB c23
  obtain ⟨w_DIS, ev_w_DIS⟩ := exa_v c25
  have S_w_DIS : Sta s s.heap "org/ludarium/games/sabotage/Card$Kind" "DIS" "Lorg/ludarium/games/sabotage/Card$Kind;" (.ref w_DIS) := Sta.start ev_w_DIS (Or.inr ⟨(hw _ (List.mem_of_getElem? (i := 3) rfl)), (hw _ (List.mem_of_getElem? (i := 29) rfl))⟩)
  have E_w_DIS : Exa s s.heap w_DIS "org/ludarium/games/sabotage/Card$Kind" := Exa.start ev_w_DIS c25
  have F_ordinal_w_A : Fld s s.heap w_A "java/lang/Enum" "ordinal" "I" (.int (0 : Int32)) := Fld.start ((fld_at ev_w_A).symm.trans (own_eqV c27 rfl))
  have F_ordinal_w_SAB : Fld s s.heap w_SAB "java/lang/Enum" "ordinal" "I" (.int (11 : Int32)) := Fld.start ((fld_at ev_w_SAB).symm.trans (own_eqV c29 rfl))
  have F_ordinal_w_DIS : Fld s s.heap w_DIS "java/lang/Enum" "ordinal" "I" (.int (12 : Int32)) := Fld.start ((fld_at ev_w_DIS).symm.trans (own_eqV c31 rfl))
  have F_ordinal_w_D : Fld s s.heap w_D "java/lang/Enum" "ordinal" "I" (.int (3 : Int32)) := Fld.start ((fld_at ev_w_D).symm.trans (own_eqV c33 rfl))
  have F_ordinal_w_G : Fld s s.heap w_G "java/lang/Enum" "ordinal" "I" (.int (6 : Int32)) := Fld.start ((fld_at ev_w_G).symm.trans (own_eqV c35 rfl))
  have F_ordinal_w_F : Fld s s.heap w_F "java/lang/Enum" "ordinal" "I" (.int (5 : Int32)) := Fld.start ((fld_at ev_w_F).symm.trans (own_eqV c37 rfl))
  have F_ordinal_w_H : Fld s s.heap w_H "java/lang/Enum" "ordinal" "I" (.int (7 : Int32)) := Fld.start ((fld_at ev_w_H).symm.trans (own_eqV c39 rfl))
  have F_ordinal_w_X : Fld s s.heap w_X "java/lang/Enum" "ordinal" "I" (.int (9 : Int32)) := Fld.start ((fld_at ev_w_X).symm.trans (own_eqV c41 rfl))
  have F_ordinal_w_C : Fld s s.heap w_C "java/lang/Enum" "ordinal" "I" (.int (2 : Int32)) := Fld.start ((fld_at ev_w_C).symm.trans (own_eqV c43 rfl))
  have F_ordinal_w_B : Fld s s.heap w_B "java/lang/Enum" "ordinal" "I" (.int (1 : Int32)) := Fld.start ((fld_at ev_w_B).symm.trans (own_eqV c45 rfl))
  have F_ordinal_w_I : Fld s s.heap w_I "java/lang/Enum" "ordinal" "I" (.int (8 : Int32)) := Fld.start ((fld_at ev_w_I).symm.trans (own_eqV c47 rfl))
  have F_ordinal_w_W : Fld s s.heap w_W "java/lang/Enum" "ordinal" "I" (.int (10 : Int32)) := Fld.start ((fld_at ev_w_W).symm.trans (own_eqV c49 rfl))
  have F_ordinal_w_E : Fld s s.heap w_E "java/lang/Enum" "ordinal" "I" (.int (4 : Int32)) := Fld.start ((fld_at ev_w_E).symm.trans (own_eqV c50 rfl))
  obtain ⟨n, o, h1, h2, h3, _, L, rfl, ⟨rfl, N⟩, hq⟩ := rm0 l s _ hw tables_1 i0 w_A w_B w_C w_D w_E w_F w_G w_H w_I w_X w_W w_SAB w_DIS s.heap s.heap.size (Nat.le_refl _) S_w_A E_w_A S_w_B E_w_B S_w_C E_w_C S_w_D E_w_D S_w_E E_w_E S_w_F E_w_F S_w_G E_w_G S_w_H E_w_H S_w_I E_w_I S_w_X E_w_X S_w_W E_w_W S_w_SAB E_w_SAB S_w_DIS E_w_DIS F_ordinal_w_A F_ordinal_w_SAB F_ordinal_w_DIS F_ordinal_w_D F_ordinal_w_G F_ordinal_w_F F_ordinal_w_H F_ordinal_w_X F_ordinal_w_C F_ordinal_w_B F_ordinal_w_I F_ordinal_w_W F_ordinal_w_E (F_ordinal_w_A.ne F_ordinal_w_SAB (by simp)) (F_ordinal_w_A.ne F_ordinal_w_DIS (by simp)) (F_ordinal_w_SAB.ne F_ordinal_w_DIS (by simp)) (F_ordinal_w_SAB.ne F_ordinal_w_D (by simp)) (F_ordinal_w_SAB.ne F_ordinal_w_G (by simp)) (F_ordinal_w_SAB.ne F_ordinal_w_F (by simp)) (F_ordinal_w_SAB.ne F_ordinal_w_H (by simp)) (F_ordinal_w_SAB.ne F_ordinal_w_X (by simp)) (F_ordinal_w_SAB.ne F_ordinal_w_C (by simp)) (F_ordinal_w_SAB.ne F_ordinal_w_B (by simp)) (F_ordinal_w_SAB.ne F_ordinal_w_I (by simp)) (F_ordinal_w_SAB.ne F_ordinal_w_W (by simp)) (F_ordinal_w_SAB.ne F_ordinal_w_E (by simp)) (F_ordinal_w_DIS.ne F_ordinal_w_D (by simp)) (F_ordinal_w_DIS.ne F_ordinal_w_G (by simp)) (F_ordinal_w_DIS.ne F_ordinal_w_F (by simp)) (F_ordinal_w_DIS.ne F_ordinal_w_H (by simp)) (F_ordinal_w_DIS.ne F_ordinal_w_X (by simp)) (F_ordinal_w_DIS.ne F_ordinal_w_C (by simp)) (F_ordinal_w_DIS.ne F_ordinal_w_B (by simp)) (F_ordinal_w_DIS.ne F_ordinal_w_I (by simp)) (F_ordinal_w_DIS.ne F_ordinal_w_W (by simp)) (F_ordinal_w_DIS.ne F_ordinal_w_E (by simp)) p e ha hc hk s m _ below hf ((Spec.applies_iff_loose hf).mp happ).1 ⟨rfl, State.Warmed39.refl s, rfl⟩ trivial
  refine ⟨n, _, h1, h2, h3, hpost _ _ _ _ _ _ ⟨Cond.after_iff.mpr rfl, Cond.after_iff.mpr (eq_i res_at (Term.int_eval (1)) rfl), trivial⟩ ⟨hq.1, hq.2.1, (hq.2.2.sift fun y hy => Or.inr (N y hy)).mono (by decide) (by decide)⟩⟩
theorem main_1_1 : Claimed_1_1 := comes_1 fun _ _ _ _ _ _ h hF => ⟨h.1, hF⟩
theorem main_1_2 : Claimed_1_2 := comes_1 fun _ _ _ _ _ _ h hF => ⟨h.2.1, hF⟩
end Jvm.Pilot.@@N@@
namespace Jvm.Pilot.@@N@@
open Jvm Jvm.ClassFile Sem Op Lib Jvm.Free Jvm.Stand Jvm.Pilot.@@N@@.Jvm.D
/-! MADE BY PROGRAM (witnessworld.py) out of the Statement's table words and the real class files: 13 classes; the members and pool entries that the words name. The judged class is class 1, her method 1. -/
namespace start1
open Jvm.ClassFile
def u (s : String) : CpInfo := .utf8 (stringToUtf16 s)
/-- a pool by its gaps: so many unusable entries, then the entry; so many at the end -/
def gap : Nat → List CpInfo → List CpInfo
  | 0, r => r
  | n + 1, r => .unusable :: gap n r
def poolList (es : List (Nat × CpInfo)) (last : Nat) : List CpInfo := es.foldr (fun e r => gap e.1 (e.2 :: r)) (gap last [])
def pool (es : List (Nat × CpInfo)) (last : Nat) : Array CpInfo := ⟨poolList es last⟩
def fileOf (pool : Array CpInfo) (this : Nat) (attrs : Array Attribute := #[]) (ms : Array MethodInfo := #[]) (fl : Nat := 33) (sup : Nat := 0) (ifs : Array Nat := #[]) (fds : Array FieldInfo := #[]) : ClassFile where
  minorVersion := 0
  majorVersion := 65
  constantPool := pool
  accessFlags := fl
  thisClass := this
  superClass := sup
  interfaces := ifs
  fields := fds
  methods := ms
  attributes := attrs
def plain (name : String) (sup : Option ClassId) : Class where
  name := name
  kind := .ordinary
  loader := none
  accessFlags := 33
  super := sup
  interfaces := #[]
  cf := none
  fields := #[]
  methods := #[]
  instanceTypes := #[]
  staticTypes := #[]
  resolved := #[]
  callSites := []
  init := .initialized
  statics := none
  mirror := none

def pool0 : Array CpInfo := pool [(5, u "<init>"), (0, u "()V"), (1, .class_ 10), (1, u "java/lang/Object")] 113

def k0m0 : Method := { name := "<init>", desc := "()V", sig := { parameters := [], returnType := none }, accessFlags := 1, code := none }
/-- java/lang/Object -/
def k0 : Class := { plain "java/lang/Object" none with
  accessFlags := 33
  interfaces := #[]
  cf := some (fileOf pool0 8 #[] #[{ accessFlags := 1, nameIndex := 5, descriptorIndex := 6, attributes := #[] }] 33 0 #[] #[])
  fields := #[]
  methods := #[k0m0]
  instanceTypes := #[]
  staticTypes := #[]
  resolved := Array.replicate 124 none
  statics := none }

def pool1 : Array CpInfo := pool [(2, .class_ 4), (1, u "java/lang/Object"), (0, u "<init>"), (0, u "()V"), (0, .class_ 8), (0, u "org/ludarium/games/sabotage/Card$Kind"), (0, .fieldref 7 10), (0, .nameAndType 11 12), (0, u "A"), (0, u "Lorg/ludarium/games/sabotage/Card$Kind;"), (0, .fieldref 7 14), (0, .nameAndType 15 12), (0, u "B"), (0, .fieldref 7 17), (0, .nameAndType 18 12), (0, u "C"), (0, .fieldref 7 20), (0, .nameAndType 21 12), (0, u "D"), (0, .fieldref 7 23), (0, .nameAndType 24 12), (0, u "E"), (0, .fieldref 7 26), (0, .nameAndType 27 12), (0, u "F"), (0, .fieldref 7 29), (0, .nameAndType 30 12), (0, u "G"), (0, .fieldref 7 32), (0, .nameAndType 33 12), (0, u "H"), (0, .fieldref 7 35), (0, .nameAndType 36 12), (0, u "I"), (0, .fieldref 7 38), (0, .nameAndType 39 12), (0, u "X"), (0, .fieldref 7 41), (0, .nameAndType 42 12), (0, u "W"), (0, .fieldref 7 44), (0, .nameAndType 45 12), (0, u "SAB"), (0, .fieldref 7 47), (0, .nameAndType 48 12), (0, u "DIS"), (0, .integer 2147483647), (0, .methodref 7 51), (0, .nameAndType 52 53), (0, u "isPipe"), (0, u "()Z"), (0, .class_ 55), (0, u "org/ludarium/games/sabotage/KindIsPipePinLaw"), (2, u "law"), (0, u "(I)Z")] 9

def k1m0 : Method := { name := "<init>", desc := "()V", sig := { parameters := [], returnType := none }, accessFlags := 1, code := none }
def k1c1 : Code := { maxStack := 4, maxLocals := 4, code := code, exceptionTable := #[], attributes := #[] }
def k1m1 : Method := { name := "law", desc := "(I)Z", sig := { parameters := [.int], returnType := some .boolean }, accessFlags := 9, code := some k1c1 }
/-- org/ludarium/games/sabotage/KindIsPipePinLaw -/
def k1 : Class := { plain "org/ludarium/games/sabotage/KindIsPipePinLaw" (some 0) with
  accessFlags := 49
  interfaces := #[]
  cf := some (fileOf pool1 54 #[] #[{ accessFlags := 1, nameIndex := 5, descriptorIndex := 6, attributes := #[] }, { accessFlags := 9, nameIndex := 58, descriptorIndex := 59, attributes := #[] }] 49 2 #[] #[])
  fields := #[]
  methods := #[k1m0, k1m1]
  instanceTypes := #[]
  staticTypes := #[]
  resolved := Array.replicate 69 none
  statics := none }

def pool2 : Array CpInfo := pool [(1, .class_ 2), (0, u "java/lang/constant/Constable"), (0, .class_ 4), (0, u "java/lang/Object")] 6

/-- java/lang/constant/Constable -/
def k2 : Class := { plain "java/lang/constant/Constable" (some 0) with
  accessFlags := 1537
  interfaces := #[]
  cf := some (fileOf pool2 1 #[] #[] 1537 3 #[] #[])
  fields := #[]
  methods := #[]
  instanceTypes := #[]
  staticTypes := #[]
  resolved := Array.replicate 11 none
  statics := none }

def pool3 : Array CpInfo := pool [(1, .class_ 2), (0, u "java/lang/Comparable"), (0, .class_ 4), (0, u "java/lang/Object")] 7

/-- java/lang/Comparable -/
def k3 : Class := { plain "java/lang/Comparable" (some 0) with
  accessFlags := 1537
  interfaces := #[]
  cf := some (fileOf pool3 1 #[] #[] 1537 3 #[] #[])
  fields := #[]
  methods := #[]
  instanceTypes := #[]
  staticTypes := #[]
  resolved := Array.replicate 12 none
  statics := none }

def pool4 : Array CpInfo := pool [(1, .class_ 2), (0, u "java/io/Serializable"), (0, .class_ 4), (0, u "java/lang/Object")] 2

/-- java/io/Serializable -/
def k4 : Class := { plain "java/io/Serializable" (some 0) with
  accessFlags := 1537
  interfaces := #[]
  cf := some (fileOf pool4 1 #[] #[] 1537 3 #[] #[])
  fields := #[]
  methods := #[]
  instanceTypes := #[]
  staticTypes := #[]
  resolved := Array.replicate 7 none
  statics := none }

def pool5 : Array CpInfo := pool [(2, .class_ 4), (1, u "java/lang/Enum"), (0, u "name"), (0, u "Ljava/lang/String;"), (2, u "ordinal"), (0, u "I"), (1, .class_ 14), (1, u "java/lang/Object"), (4, u "hash"), (86, .class_ 108), (1, u "java/lang/Enum$EnumDesc"), (2, .class_ 112), (0, u "java/lang/constant/Constable"), (0, .class_ 114), (0, u "java/lang/Comparable"), (0, .class_ 116), (0, u "java/io/Serializable")] 87

/-- java/lang/Enum -/
def k5 : Class := { plain "java/lang/Enum" (some 0) with
  accessFlags := 1057
  interfaces := #[2, 3, 4]
  cf := some (fileOf pool5 2 #[.nestMembers #[106]] #[] 1057 12 #[111, 113, 115] #[{ accessFlags := 18, nameIndex := 5, descriptorIndex := 6, attributes := #[] }, { accessFlags := 18, nameIndex := 9, descriptorIndex := 10, attributes := #[] }, { accessFlags := 2, nameIndex := 19, descriptorIndex := 10, attributes := #[] }])
  fields := #[{ name := "name", type := (.object "java/lang/String"), accessFlags := 18, slot := 0, constantValue := 0 }, { name := "ordinal", type := .int, accessFlags := 18, slot := 1, constantValue := 0 }, { name := "hash", type := .int, accessFlags := 2, slot := 2, constantValue := 0 }]
  methods := #[]
  instanceTypes := #[(.object "java/lang/String"), .int, .int]
  staticTypes := #[]
  resolved := Array.replicate 204 none
  statics := none }

def pool6 : Array CpInfo := pool [(1, .class_ 2), (0, u "org/ludarium/games/sabotage/Card$Kind"), (2, u "A"), (0, u "Lorg/ludarium/games/sabotage/Card$Kind;"), (2, u "B"), (2, u "C"), (2, u "D"), (2, u "E"), (2, u "F"), (2, u "G"), (2, u "H"), (2, u "I"), (2, u "X"), (2, u "W"), (0, .fieldref 1 38), (0, .nameAndType 39 6), (0, u "SAB"), (0, .fieldref 1 41), (0, .nameAndType 42 6), (0, u "DIS"), (2, u "$VALUES"), (0, u "[Lorg/ludarium/games/sabotage/Card$Kind;"), (6, .class_ 55), (1, u "java/lang/Enum"), (35, u "isPipe"), (0, u "()Z"), (7, .class_ 101), (0, u "org/ludarium/games/sabotage/Card")] 2

def k6c0 : Code := { maxStack := 2, maxLocals := 1, code := prog_21_method_4_code, exceptionTable := #[], attributes := #[] }
def k6m0 : Method := { name := "isPipe", desc := "()Z", sig := { parameters := [], returnType := some .boolean }, accessFlags := 1, code := some k6c0 }
/-- org/ludarium/games/sabotage/Card$Kind -/
def k6 : Class := { plain "org/ludarium/games/sabotage/Card$Kind" (some 5) with
  accessFlags := 16433
  interfaces := #[]
  cf := some (fileOf pool6 1 #[.nestHost 100] #[{ accessFlags := 1, nameIndex := 91, descriptorIndex := 92, attributes := #[] }] 16433 53 #[] #[{ accessFlags := 16409, nameIndex := 5, descriptorIndex := 6, attributes := #[] }, { accessFlags := 16409, nameIndex := 9, descriptorIndex := 6, attributes := #[] }, { accessFlags := 16409, nameIndex := 12, descriptorIndex := 6, attributes := #[] }, { accessFlags := 16409, nameIndex := 15, descriptorIndex := 6, attributes := #[] }, { accessFlags := 16409, nameIndex := 18, descriptorIndex := 6, attributes := #[] }, { accessFlags := 16409, nameIndex := 21, descriptorIndex := 6, attributes := #[] }, { accessFlags := 16409, nameIndex := 24, descriptorIndex := 6, attributes := #[] }, { accessFlags := 16409, nameIndex := 27, descriptorIndex := 6, attributes := #[] }, { accessFlags := 16409, nameIndex := 30, descriptorIndex := 6, attributes := #[] }, { accessFlags := 16409, nameIndex := 33, descriptorIndex := 6, attributes := #[] }, { accessFlags := 16409, nameIndex := 36, descriptorIndex := 6, attributes := #[] }, { accessFlags := 16409, nameIndex := 39, descriptorIndex := 6, attributes := #[] }, { accessFlags := 16409, nameIndex := 42, descriptorIndex := 6, attributes := #[] }, { accessFlags := 4122, nameIndex := 45, descriptorIndex := 46, attributes := #[] }])
  fields := #[{ name := "A", type := (.object "org/ludarium/games/sabotage/Card$Kind"), accessFlags := 16409, slot := 0, constantValue := 0 }, { name := "B", type := (.object "org/ludarium/games/sabotage/Card$Kind"), accessFlags := 16409, slot := 1, constantValue := 0 }, { name := "C", type := (.object "org/ludarium/games/sabotage/Card$Kind"), accessFlags := 16409, slot := 2, constantValue := 0 }, { name := "D", type := (.object "org/ludarium/games/sabotage/Card$Kind"), accessFlags := 16409, slot := 3, constantValue := 0 }, { name := "E", type := (.object "org/ludarium/games/sabotage/Card$Kind"), accessFlags := 16409, slot := 4, constantValue := 0 }, { name := "F", type := (.object "org/ludarium/games/sabotage/Card$Kind"), accessFlags := 16409, slot := 5, constantValue := 0 }, { name := "G", type := (.object "org/ludarium/games/sabotage/Card$Kind"), accessFlags := 16409, slot := 6, constantValue := 0 }, { name := "H", type := (.object "org/ludarium/games/sabotage/Card$Kind"), accessFlags := 16409, slot := 7, constantValue := 0 }, { name := "I", type := (.object "org/ludarium/games/sabotage/Card$Kind"), accessFlags := 16409, slot := 8, constantValue := 0 }, { name := "X", type := (.object "org/ludarium/games/sabotage/Card$Kind"), accessFlags := 16409, slot := 9, constantValue := 0 }, { name := "W", type := (.object "org/ludarium/games/sabotage/Card$Kind"), accessFlags := 16409, slot := 10, constantValue := 0 }, { name := "SAB", type := (.object "org/ludarium/games/sabotage/Card$Kind"), accessFlags := 16409, slot := 11, constantValue := 0 }, { name := "DIS", type := (.object "org/ludarium/games/sabotage/Card$Kind"), accessFlags := 16409, slot := 12, constantValue := 0 }, { name := "$VALUES", type := (.array (.object "org/ludarium/games/sabotage/Card$Kind")), accessFlags := 4122, slot := 13, constantValue := 0 }]
  methods := #[k6m0]
  instanceTypes := #[(.object "java/lang/String"), .int, .int]
  staticTypes := #[(.object "org/ludarium/games/sabotage/Card$Kind"), (.object "org/ludarium/games/sabotage/Card$Kind"), (.object "org/ludarium/games/sabotage/Card$Kind"), (.object "org/ludarium/games/sabotage/Card$Kind"), (.object "org/ludarium/games/sabotage/Card$Kind"), (.object "org/ludarium/games/sabotage/Card$Kind"), (.object "org/ludarium/games/sabotage/Card$Kind"), (.object "org/ludarium/games/sabotage/Card$Kind"), (.object "org/ludarium/games/sabotage/Card$Kind"), (.object "org/ludarium/games/sabotage/Card$Kind"), (.object "org/ludarium/games/sabotage/Card$Kind"), (.object "org/ludarium/games/sabotage/Card$Kind"), (.object "org/ludarium/games/sabotage/Card$Kind"), (.array (.object "org/ludarium/games/sabotage/Card$Kind"))]
  resolved := Array.replicate 104 none
  statics := some 0 }

def pool7 : Array CpInfo := pool [(1, u "java/lang/Cloneable"), (0, .class_ 1), (0, u "java/lang/Object"), (0, .class_ 3)] 3

/-- java/lang/Cloneable -/
def k7 : Class := { plain "java/lang/Cloneable" (some 0) with
  accessFlags := 1537
  interfaces := #[]
  cf := some (fileOf pool7 2 #[] #[] 1537 4 #[] #[])
  fields := #[]
  methods := #[]
  instanceTypes := #[]
  staticTypes := #[]
  resolved := Array.replicate 8 none
  statics := none }

/-- the primitive byte -/
def k8 : Class := { plain "byte" none with kind := .primitive 'B', accessFlags := 0x411 }
/-- [B -/
def k9 : Class := { plain "[B" (some 0) with kind := .array 8 .byte, interfaces := #[7, 4], accessFlags := 1041 }

/-- the primitive int -/
def k10 : Class := { plain "int" none with kind := .primitive 'I', accessFlags := 0x411 }
/-- [I -/
def k11 : Class := { plain "[I" (some 0) with kind := .array 10 .int, interfaces := #[7, 4], accessFlags := 1041 }

/-- [Lorg/ludarium/games/sabotage/Card$Kind; -/
def k12 : Class := { plain "[Lorg/ludarium/games/sabotage/Card$Kind;" (some 0) with kind := .array 6 (.object "org/ludarium/games/sabotage/Card$Kind"), interfaces := #[7, 4], accessFlags := 1041 }

def heap : Heap := #[{ cls := 6, slots := #[.ref 1, .ref 2, .ref 3, .ref 4, .ref 5, .ref 6, .ref 7, .ref 8, .ref 9, .ref 10, .ref 11, .ref 12, .ref 13, .null], vm := .statics 6 },
  { cls := 6, slots := #[.null, .int 0, .int 0], vm := .none },
  { cls := 6, slots := #[.null, .int 1, .int 0], vm := .none },
  { cls := 6, slots := #[.null, .int 2, .int 0], vm := .none },
  { cls := 6, slots := #[.null, .int 3, .int 0], vm := .none },
  { cls := 6, slots := #[.null, .int 4, .int 0], vm := .none },
  { cls := 6, slots := #[.null, .int 5, .int 0], vm := .none },
  { cls := 6, slots := #[.null, .int 6, .int 0], vm := .none },
  { cls := 6, slots := #[.null, .int 7, .int 0], vm := .none },
  { cls := 6, slots := #[.null, .int 8, .int 0], vm := .none },
  { cls := 6, slots := #[.null, .int 9, .int 0], vm := .none },
  { cls := 6, slots := #[.null, .int 10, .int 0], vm := .none },
  { cls := 6, slots := #[.null, .int 11, .int 0], vm := .none },
  { cls := 6, slots := #[.null, .int 12, .int 0], vm := .none }]
def classes : Array Class := #[k0, k1, k2, k3, k4, k5, k6, k7, k8, k9, k10, k11, k12]
def interned : List (Array UInt16 × Addr) := []
def slotsUsed : Nat := 53
def theMethod : MethodId := ⟨1, 1⟩
def args0 : Array Value := #[.int 1]
def aboutOver (below : List Frame) : State where
  vm := { classes := classes, interned := interned.toArray }
  heap := heap
  slotsUsed := slotsUsed
  threads := #[{ frames := .invoking theMethod args0 :: below }]
def below0 : List Frame := [.native { method := ⟨0, 0⟩, args := #[] }]
def about1 : State := aboutOver below0
def p0 : Program := .bare "" "" ""
def e0 : Env := launch0.env 0 0 0
theorem w_frames : about1.frames = Frame.invoking theMethod args0 :: below0 := rfl
set_option maxRecDepth 65536 in
theorem w_args : argsFit about1.vm theMethod args0 = true := by decide +kernel
set_option maxRecDepth 65536 in
theorem w_heap : heapFits about1 = true := by decide +kernel
set_option maxRecDepth 65536 in
theorem w_runnable : about1.curStatus? = some .runnable := by decide +kernel
set_option maxRecDepth 65536 in
theorem w_alone : about1.alone = true := by decide +kernel
set_option maxRecDepth 65536 in
theorem w_named : about1.methodNamed? x = some theMethod := by decide +kernel
set_option maxRecDepth 65536 in
theorem w_hears : about1.hears theMethod below0 = true := by decide +kernel
set_option maxRecDepth 65536 in
theorem w_ripe : about1.ripe theMethod args0 below0 = true := by decide +kernel
theorem w_running : about1.status = .running := rfl
set_option maxRecDepth 65536 in
theorem w_room : about1.hasRoom e0.platform room_1 = true :=
  launch0.hasRoom_least _ room_1 (by decide +kernel) (by decide +kernel) (by decide +kernel) (by decide +kernel) (by decide +kernel) (by decide +kernel)
theorem allAtoms_all (ts : List Jvm.Cond) (a : Array Jvm.Value) (st : Jvm.State) : (allAtoms ts).before a st = ts.all (fun c => c.before a st) := by
  induction ts with
  | nil => rfl
  | cons c t ih =>
    show (Jvm.Cond.and c (allAtoms t)).before a st = _
    rw [Jvm.Cond.before_and, ih, List.all_cons]
def words1 : List Jvm.Cond := Jvm.Cond.code x code maxLocals ret :: tables_1
/-- a 'code' word, met by the world's own term for the bytes: nothing is compared byte by byte -/
theorem code_word {y : MethodName} {bytes : ByteArray} {mx : Nat} {rt : Option FieldType} {a : Array Value} {s : State} {m : MethodId} {meth : Method} {c : Code} (h1 : s.methodNamed? y = some m) (h2 : s.vm.method? m = some meth) (h3 : meth.code = some c) (h4 : c.code = bytes)
    (h5 : (c.maxLocals == mx && c.exceptionTable.isEmpty && decide (c.maxStack ≤ mostOperands) && decide (meth.sig.returnType = rt) && !meth.locks && decide (parseMethodDescriptor y.desc = some meth.sig)) = true) : (Jvm.Cond.code y bytes mx rt).before a s = true := by
  simp only [Bool.and_eq_true, beq_iff_eq, Bool.not_eq_true', decide_eq_true_eq] at h5
  obtain ⟨⟨⟨⟨⟨g1, g2⟩, g3⟩, g4⟩, g5⟩, g6⟩ := h5
  simp [Cond.before, Cond.holds, Cond.value, h1, h2, h3, h4, g1, g2, g3, g4, g5, g6]
def isCode : Jvm.Cond → Bool
  | .code _ _ _ _ => true
  | _ => false
theorem all_split {L : List Jvm.Cond} {P : Jvm.Cond → Bool} (h1 : L.all (fun c => isCode c || P c) = true) (h2 : ∀ c ∈ L.filter isCode, P c = true) : L.all P = true := by
  refine List.all_eq_true.mpr fun c hc => ?_
  have h := List.all_eq_true.mp h1 c hc
  rcases Bool.eq_false_or_eq_true (isCode c) with hi | hi
  · exact h2 c (List.mem_filter.mpr ⟨hc, hi⟩)
  · simpa [hi] using h
set_option maxRecDepth 65536 in
theorem w_c0 : (Jvm.Cond.code x code maxLocals ret).before args0 about1 = true := code_word (m := ⟨1, 1⟩) (meth := k1m1) (c := k1c1) (by decide +kernel) rfl rfl rfl (by decide +kernel)
set_option maxRecDepth 65536 in
theorem w_c1 : (Jvm.Cond.code ({ cls := "org/ludarium/games/sabotage/Card$Kind", name := "isPipe", desc := "()Z" } : Jvm.MethodName) prog_21_method_4_code (1 : Nat) (Option.some Jvm.ClassFile.FieldType.boolean)).before args0 about1 = true := code_word (m := ⟨6, 0⟩) (meth := k6m0) (c := k6c0) (by decide +kernel) rfl rfl rfl (by decide +kernel)
def codes1 : List Jvm.Cond := [Jvm.Cond.code x code maxLocals ret, Jvm.Cond.code ({ cls := "org/ludarium/games/sabotage/Card$Kind", name := "isPipe", desc := "()Z" } : Jvm.MethodName) prog_21_method_4_code (1 : Nat) (Option.some Jvm.ClassFile.FieldType.boolean)]
set_option maxRecDepth 65536 in
theorem codes_eq : words1.filter isCode = codes1 := rfl
theorem w_codes : ∀ c ∈ words1.filter isCode, c.before args0 about1 = true := by
  rw [codes_eq]
  intro c hc
  simp only [codes1, List.mem_cons, List.not_mem_nil, or_false] at hc
  rcases hc with rfl | rfl
  · exact w_c0
  · exact w_c1
set_option maxRecDepth 65536 in
theorem w_t1 : (words1.take 24).all (fun c => isCode c || c.before args0 about1) = true := by decide +kernel
set_option maxRecDepth 65536 in
theorem w_t2 : (words1.drop 24).all (fun c => isCode c || c.before args0 about1) = true := by decide +kernel
theorem w_tables : (allAtoms (Jvm.Cond.code x code maxLocals ret :: tables_1)).before args0 about1 = true := by
  rw [allAtoms_all]
  show words1.all (fun c => c.before args0 about1) = true
  refine all_split ?_ w_codes
  rw [← List.take_append_drop 24 words1, List.all_append, w_t1, w_t2]
  rfl
set_option maxRecDepth 65536 in
theorem w_case : (Jvm.Cond.and given_1 narrow_1).before args0 about1 = true := by decide +kernel
theorem w_applies : (headSpec (Jvm.Cond.code x code maxLocals ret :: tables_1) room_1).applies x e0.platform about1 = true :=
  (Spec.applies_iff w_frames).mpr ⟨w_running, w_runnable, w_alone, w_named, w_hears, w_ripe, w_room, w_tables⟩
theorem atStart : AtStart classFile x code maxLocals ret World_1 tables_1 room_1 Calls_1 rest_1 Pre_1 launch0 p0 e0 about1 theMethod args0 below0 :=
  ⟨lists_1, trivial, launch0.admits_env _ _ _, launch0.least_env, fairChoices_fair.cas, fairChoices_fair.clock, w_frames, w_args, w_heap, w_applies, trivial, trivial, w_case⟩
end start1
theorem witness_1 : WitnessClaimed_1 := ⟨start1.p0, start1.e0, start1.about1, start1.theMethod, start1.args0, start1.below0, start1.atStart⟩
end Jvm.Pilot.@@N@@
