import JvmDerived
import JvmDerived.Pilot.@@N@@Statement
import JvmDerived.Pilot.@@N@@Code
set_option linter.unusedVariables false
set_option linter.unusedSimpArgs false
namespace Jvm.RoadKit
open Sem ClassFile Op Lib Jvm.Stand Jvm.Free Jvm.LawKit
section New
variable {p : Program} {l : Launch} {e : Env} {R : Room} {s : State} {m : MethodId} {args : Array Value} {below : List Frame} {meth : Method} {c : Code} {T : State} {locs : List Loc} {cells slots : Nat}
theorem retI (X : Stand p l e R s m args below meth c T locs cells slots) (hx : p.tables.exec = Jvm.exec) {pc : Nat} {Ls : Array Slot} {z : Int32} {rest : List Value} (hret : meth.sig.returnType = some .int) (hd : decode c.code pc = .ok (.ireturn, 1)) {fs : List Frame}
    (hl : ∀ (f : JFrame) (acts : List Action), f.method = m → f.locked = none → f.entered = [] → (doReturn e (T.setTop f) acts (some (.int z))).1 = T.setFrames fs) : Steps p.tables e below (T.setTop (mkF m pc Ls (.int z :: rest))) (T.setFrames fs) := by
  have hm' : T.vm.method? m = some meth := X.method'
  have hn : narrow .int (.int z) = .int z := rfl
  show Steps p.tables e below (T.setTop { method := m, pc := pc, locals := Ls, stack := _ :: rest, locked := none }) _
  jvm_step X.here [X.here.top, hx, hd, hm', hret, hn]
  first | (intro acts; rw [hl _ acts rfl rfl rfl]) | rw [hl _ _ rfl rfl rfl]
  exact Steps.refl _
end New
/-- from this state a run goes on to an end that meets K -/
def Good (p : Program) (e : Env) (below : List Frame) (K : Outcome → State → Prop) (S : State) : Prop := ∃ s₂ o, Steps p.tables e below S s₂ ∧ s₂.status = .running ∧ Ended s₂ below o ∧ K o s₂
theorem Good.back {p : Program} {e : Env} {below : List Frame} {K : Outcome → State → Prop} {S S' : State} (h : ∀ t, Steps p.tables e below S' t → Steps p.tables e below S t) (g : Good p e below K S') : Good p e below K S := by
  obtain ⟨t, o, h1, h2⟩ := g
  exact ⟨t, o, h t h1, h2⟩
theorem Good.done {p : Program} {e : Env} {below : List Frame} {K : Outcome → State → Prop} {S t : State} {o : Outcome} (h1 : Steps p.tables e below S t) (h2 : t.status = .running) (h3 : Ended t below o) (h4 : K o t) : Good p e below K S := ⟨t, o, h1, h2, h3, h4⟩
end Jvm.RoadKit
namespace Jvm.Pilot.@@N@@
open Jvm Jvm.ClassFile Sem Op Lib Jvm.Free Jvm.Stand Jvm.LawKit Jvm.RoadKit Bundle Jvm.Pilot.@@N@@.Jvm.D
theorem own_eqV {args : Array Value} {first s : State} {o : Option Outcome} {idx : List Nat} {a b : Term} {y : Value} (h : (Jvm.Cond.eq a b).value args first o s idx = some true) (hb : b.eval args first o idx s = some y) : a.eval args first o idx s = some y := by
  cases ha : a.eval args first o idx s with
  | none => simp [Jvm.Cond.value, ha] at h
  | some x => cases x <;> cases y <;> simp_all [Jvm.Cond.value]
theorem own_len {args : Array Value} {s : State} {t : Term} {a : Addr} {cl : Cell} {ty : FieldType} {k : Int32} (A : Arr s s.heap a cl ty) (ev : t.eval args s none [] s = some (.ref a)) (h : (Term.length t).eval args s none [] s = some (.int k)) : cl.slots.size < 2 ^ 31 ∧ cl.slots.size.toInt32 = k := by
  have ha : s.arrayAt? a = some cl := IntBox.arrayAt_of A.1 A.2.1 A.2.2
  simp [Term.eval, ev, ha] at h
  exact h

theorem own_small {e : Int32} {n : Nat} (h0 : 0 ≤ e.toInt) (hn : e.toInt < n) : ∃ k : Nat, k < n ∧ e = Int32.ofNat k := by
  refine ⟨e.toInt.toNat, by omega, ?_⟩
  apply Int32.toInt_inj.mp
  have hb := e.toInt_lt
  rw [Int32.toInt_ofNat_of_lt (by omega)]
  omega
theorem own_mask {x m : Int32} {n : Nat} (hm : 0 ≤ m.toInt) (hn : m.toInt < n) : ∃ k : Nat, k < n ∧ (x &&& m) = Int32.ofNat k := by
  have h := c_and x m hm
  exact own_small h.1 (by omega)
theorem own_modm {x y : Int32} {d : Int} {n : Nat} (hy : y.toInt = d) (hd : 0 < d) (hn : d ≤ n) : ∃ k : Nat, k < n ∧ ((x &&& (2147483647 : Int32)) % y) = Int32.ofNat k := by
  have h := c_and x 2147483647 (by decide)
  have h2 := (c_irem (x &&& 2147483647) y d hy).1 h.1
  refine own_small ?_ ?_ <;> rw [h2]
  · exact Int.emod_nonneg _ (by omega)
  · have := Int.emod_lt_of_pos (x &&& 2147483647).toInt hd
    omega

theorem own_pn0 : plainName "com/example/poonji/poonji/BankFigures$Item" = true := by first | (simp [plainName, overriddenIn]; done) | decide +kernel
theorem own_d1_0 : decode prog_6_method_7_code 0 = .ok (.aload_n 0, 1) := by decide +kernel
theorem own_d1_1 : decode prog_6_method_7_code 1 = .ok (.getfield 66, 3) := by decide +kernel
theorem own_d1_4 : decode prog_6_method_7_code 4 = .ok (.getstatic 95, 3) := by decide +kernel
theorem own_d1_7 : decode prog_6_method_7_code 7 = .ok (.if_acmp .ne 7, 3) := by decide +kernel
theorem own_d1_10 : decode prog_6_method_7_code 10 = .ok (.iconst 1, 1) := by decide +kernel
theorem own_d1_11 : decode prog_6_method_7_code 11 = .ok (.goto 4, 3) := by decide +kernel
theorem own_d1_15 : decode prog_6_method_7_code 15 = .ok (.ireturn, 1) := by decide +kernel
theorem own_ef_1y (m : MethodId) (x0 : Addr) : entryFrame m #[(.ref x0)] 1 = mkF m 0 #[.val (.ref x0)] [] := by first | (simp [entryFrame, mkF, argsToLocals, Value.category]; done) | rfl
def Q1y (Z : State) (r0 : Addr) (w_ANY : Addr) (h0 : Heap) (n0 : Nat) (v : Option Value) (h : Heap) (L : List Loc) : Prop := v = some (.int 1) ∧ Fr n0 L ∧ h = h0
set_option maxRecDepth 65536 in
set_option maxHeartbeats 40000000 in
theorem rm1y (l : Launch) (Z : State) (a0 : Array Value) (hw : ∀ d ∈ tables_1, d.before a0 Z = true) (ws : List Jvm.Cond) (r0 : Addr) (w_ANY : Addr) (h0 : Heap) (n0 : Nat) (Z0 : n0 ≤ h0.size) (S_w_ANY : Sta Z h0 "com/example/poonji/poonji/BankFigures$Sign" "ANY" "Lcom/example/poonji/poonji/BankFigures$Sign;" (.ref w_ANY)) (F0 : Fld Z h0 r0 "com/example/poonji/poonji/BankFigures$Item" "sign" "Lcom/example/poonji/poonji/BankFigures$Sign;" (.ref w_ANY)) :
    MetFree l (⟨"com/example/poonji/poonji/BankFigures$Item", "signed", "()Z"⟩ : MethodName) (head1 (Jvm.Cond.code (⟨"com/example/poonji/poonji/BankFigures$Item", "signed", "()Z"⟩ : MethodName) prog_6_method_7_code 1 (some .boolean) :: ws) ({ frames := 0, cells := 0, slots := 0, locals := 0 } : Room)) (fun a U => a = #[(.ref r0)] ∧ Z.Warmed39 U.vm ∧ U.heap = h0) (fun _ _ _ _ _ => True) (fun _ U o U' => ∃ v L, o = .returned v ∧ Q1y Z r0 w_ANY h0 n0 v U'.heap L ∧ FrameEnd U o U' L ({ frames := 0, cells := 0, slots := 0, locals := 0 } : Room).cells ({ frames := 0, cells := 0, slots := 0, locals := 0 } : Room).slots) := by
  refine MetFree.of_bodySF (plainFor_of_name own_pn0) hisR ?_
  intro p e s m args below meth c s₁ Bd hml0 hP hK
  obtain ⟨rfl, hZ, hh⟩ := hP
  have hx := Bd.exec
  have hby := Bd.bytes
  have hml : c.maxLocals = 1 := hml0
  have hown : s.vm.findClass "com/example/poonji/poonji/BankFigures$Item" = some m.cls := findClass_of_methodNamed Bd.named
  have hnm := (name_of_methodNamed Bd.named Bd.method).1
  have X0 : Stand p l e ({ frames := 0, cells := 0, slots := 0, locals := 0 } : Room) s m #[(.ref r0)] below meth c s₁ [] 0 0 := Stand.of_body Bd
  have e0 : s₁.heap = h0 := by rw [← hh, Bd.state]; rfl
  have N0 := Fr.nil n0
  show Good p e below (fun o U' => ∃ v L, o = .returned v ∧ Q1y Z r0 w_ANY h0 n0 v U'.heap L ∧ FrameEnd s o U' L ({ frames := 0, cells := 0, slots := 0, locals := 0 } : Room).cells ({ frames := 0, cells := 0, slots := 0, locals := 0 } : Room).slots) _
  refine Good.back (S' := s₁.setTop (mkF m 0 #[.val (.ref r0)] [])) (fun t k => castTop (own_ef_1y m r0) k) ?_
  show Good p e below _ (s₁.setTop (mkF m 0 #[.val (.ref r0)] []))
  refine Good.back (fun _ k => XS.aloadN X0.here hx rfl (hb hby own_d1_0) rfl rfl k) ?_
  show Good p e below _ (s₁.setTop (mkF m 1 #[.val (.ref r0)] [(.ref r0)]))
  obtain ⟨T1, X1, e1, st1⟩ := getF X0 hx hZ hown (host := "") (Or.inl (hw _ (List.mem_of_getElem? (i := 30) rfl))) Via.refl e0 F0 (g := (mkF m 1 #[.val (.ref r0)] [(.ref r0)])) rfl rfl (hb hby own_d1_1)
  refine Good.back st1 ?_
  show Good p e below _ (T1.setTop (mkF m 4 #[.val (.ref r0)] [(.ref w_ANY)]))
  obtain ⟨T2, X2, e2, st2⟩ := getS2 X1 hx hZ hown (host := "") (Or.inl (hw _ (List.mem_of_getElem? (i := 34) rfl))) Via.refl e1 S_w_ANY (g := (mkF m 4 #[.val (.ref r0)] [(.ref w_ANY)])) rfl (hb hby own_d1_4)
  refine Good.back st2 ?_
  show Good p e below _ (T2.setTop (mkF m 7 #[.val (.ref r0)] [(.ref w_ANY), (.ref w_ANY)]))
  refine Good.back (fun _ k => Jvm.RoadKit.acmp (g := (mkF m 7 #[.val (.ref r0)] [(.ref w_ANY), (.ref w_ANY)])) X2 hx rfl rfl rfl (pc0 := 7) (pc' := 10) (same := true) rfl (hb hby own_d1_7) rfl (decide_eq_true rfl) (by decide) (by decide) k) ?_
  show Good p e below _ (T2.setTop (mkF m 10 #[.val (.ref r0)] []))
  refine Good.back (fun _ k => XS.iconst X2.here hx rfl (hb hby own_d1_10) k) ?_
  show Good p e below _ (T2.setTop (mkF m 11 #[.val (.ref r0)] [(.int (1 : Int32))]))
  refine Good.back (fun _ k => XS.goto X2.here hx rfl (pc0 := 11) (pc' := 15) rfl (hb hby own_d1_11) (by decide) (by decide) k) ?_
  show Good p e below _ (T2.setTop (mkF m 15 #[.val (.ref r0)] [(.int (1 : Int32))]))
  obtain ⟨fs3, hr3, hrun3, hended3, hW3, hsame3⟩ := X2.leave (v := some (.int (1 : Int32))) (fun h => by rw [Bd.returns] at h; cases h)
  refine Good.done (retN X2 hx (t := .boolean) Bd.returns (by simp) (hb hby own_d1_15) hr3) hrun3 hended3 ⟨_, _, rfl, ?_, ⟨_, rfl⟩, hW3, hsame3.mono (by decide) (by decide)⟩
  show Q1y Z r0 w_ANY h0 n0 _ T2.heap _
  rw [e2]
  exact ⟨rfl, N0, rfl⟩
theorem own_d1_14 : decode prog_6_method_7_code 14 = .ok (.iconst 0, 1) := by decide +kernel
theorem own_ef_1n (m : MethodId) (x0 : Addr) : entryFrame m #[(.ref x0)] 1 = mkF m 0 #[.val (.ref x0)] [] := by first | (simp [entryFrame, mkF, argsToLocals, Value.category]; done) | rfl
def Q1n (Z : State) (r0 : Addr) (w_ANY : Addr) (u : Addr) (h0 : Heap) (n0 : Nat) (v : Option Value) (h : Heap) (L : List Loc) : Prop := v = some (.int 0) ∧ Fr n0 L ∧ h = h0
set_option maxRecDepth 65536 in
set_option maxHeartbeats 40000000 in
theorem rm1n (l : Launch) (Z : State) (a0 : Array Value) (hw : ∀ d ∈ tables_1, d.before a0 Z = true) (ws : List Jvm.Cond) (r0 : Addr) (w_ANY : Addr) (u : Addr) (h0 : Heap) (n0 : Nat) (Z0 : n0 ≤ h0.size) (S_w_ANY : Sta Z h0 "com/example/poonji/poonji/BankFigures$Sign" "ANY" "Lcom/example/poonji/poonji/BankFigures$Sign;" (.ref w_ANY)) (F0 : Fld Z h0 r0 "com/example/poonji/poonji/BankFigures$Item" "sign" "Lcom/example/poonji/poonji/BankFigures$Sign;" (.ref u)) (hne : u ≠ w_ANY) :
    MetFree l (⟨"com/example/poonji/poonji/BankFigures$Item", "signed", "()Z"⟩ : MethodName) (head1 (Jvm.Cond.code (⟨"com/example/poonji/poonji/BankFigures$Item", "signed", "()Z"⟩ : MethodName) prog_6_method_7_code 1 (some .boolean) :: ws) ({ frames := 0, cells := 0, slots := 0, locals := 0 } : Room)) (fun a U => a = #[(.ref r0)] ∧ Z.Warmed39 U.vm ∧ U.heap = h0) (fun _ _ _ _ _ => True) (fun _ U o U' => ∃ v L, o = .returned v ∧ Q1n Z r0 w_ANY u h0 n0 v U'.heap L ∧ FrameEnd U o U' L ({ frames := 0, cells := 0, slots := 0, locals := 0 } : Room).cells ({ frames := 0, cells := 0, slots := 0, locals := 0 } : Room).slots) := by
  refine MetFree.of_bodySF (plainFor_of_name own_pn0) hisR ?_
  intro p e s m args below meth c s₁ Bd hml0 hP hK
  obtain ⟨rfl, hZ, hh⟩ := hP
  have hx := Bd.exec
  have hby := Bd.bytes
  have hml : c.maxLocals = 1 := hml0
  have hown : s.vm.findClass "com/example/poonji/poonji/BankFigures$Item" = some m.cls := findClass_of_methodNamed Bd.named
  have hnm := (name_of_methodNamed Bd.named Bd.method).1
  have X0 : Stand p l e ({ frames := 0, cells := 0, slots := 0, locals := 0 } : Room) s m #[(.ref r0)] below meth c s₁ [] 0 0 := Stand.of_body Bd
  have e0 : s₁.heap = h0 := by rw [← hh, Bd.state]; rfl
  have N0 := Fr.nil n0
  show Good p e below (fun o U' => ∃ v L, o = .returned v ∧ Q1n Z r0 w_ANY u h0 n0 v U'.heap L ∧ FrameEnd s o U' L ({ frames := 0, cells := 0, slots := 0, locals := 0 } : Room).cells ({ frames := 0, cells := 0, slots := 0, locals := 0 } : Room).slots) _
  refine Good.back (S' := s₁.setTop (mkF m 0 #[.val (.ref r0)] [])) (fun t k => castTop (own_ef_1n m r0) k) ?_
  show Good p e below _ (s₁.setTop (mkF m 0 #[.val (.ref r0)] []))
  refine Good.back (fun _ k => XS.aloadN X0.here hx rfl (hb hby own_d1_0) rfl rfl k) ?_
  show Good p e below _ (s₁.setTop (mkF m 1 #[.val (.ref r0)] [(.ref r0)]))
  obtain ⟨T1, X1, e1, st1⟩ := getF X0 hx hZ hown (host := "") (Or.inl (hw _ (List.mem_of_getElem? (i := 30) rfl))) Via.refl e0 F0 (g := (mkF m 1 #[.val (.ref r0)] [(.ref r0)])) rfl rfl (hb hby own_d1_1)
  refine Good.back st1 ?_
  show Good p e below _ (T1.setTop (mkF m 4 #[.val (.ref r0)] [(.ref u)]))
  obtain ⟨T2, X2, e2, st2⟩ := getS2 X1 hx hZ hown (host := "") (Or.inl (hw _ (List.mem_of_getElem? (i := 34) rfl))) Via.refl e1 S_w_ANY (g := (mkF m 4 #[.val (.ref r0)] [(.ref u)])) rfl (hb hby own_d1_4)
  refine Good.back st2 ?_
  show Good p e below _ (T2.setTop (mkF m 7 #[.val (.ref r0)] [(.ref w_ANY), (.ref u)]))
  refine Good.back (fun _ k => Jvm.RoadKit.acmp (g := (mkF m 7 #[.val (.ref r0)] [(.ref w_ANY), (.ref u)])) X2 hx rfl rfl rfl (pc0 := 7) (pc' := 14) (same := false) rfl (hb hby own_d1_7) rfl (decide_eq_false fun q => hne (Value.ref.inj q)) (by decide) (by decide) k) ?_
  show Good p e below _ (T2.setTop (mkF m 14 #[.val (.ref r0)] []))
  refine Good.back (fun _ k => XS.iconst X2.here hx rfl (hb hby own_d1_14) k) ?_
  show Good p e below _ (T2.setTop (mkF m 15 #[.val (.ref r0)] [(.int (0 : Int32))]))
  obtain ⟨fs3, hr3, hrun3, hended3, hW3, hsame3⟩ := X2.leave (v := some (.int (0 : Int32))) (fun h => by rw [Bd.returns] at h; cases h)
  refine Good.done (retN X2 hx (t := .boolean) Bd.returns (by simp) (hb hby own_d1_15) hr3) hrun3 hended3 ⟨_, _, rfl, ?_, ⟨_, rfl⟩, hW3, hsame3.mono (by decide) (by decide)⟩
  show Q1n Z r0 w_ANY u h0 n0 _ T2.heap _
  rw [e2]
  exact ⟨rfl, N0, rfl⟩
theorem own_pd8 : parseMethodDescriptor "()Z" = some ⟨[], some .boolean⟩ := by decide +kernel
theorem own_pn1 : plainName "com/example/poonji/poonji/ItemSignedPinLaw" = true := by first | (simp [plainName, overriddenIn]; done) | decide +kernel
theorem own_ef_0 (m : MethodId) (x0 : Int32) : entryFrame m #[(.int x0)] maxLocals = mkF m 0 #[.val (.int x0), .unset, .unset, .unset] [] := by first | (simp [entryFrame, mkF, argsToLocals, Value.category, maxLocals]; done) | rfl
def Q0 (Z : State) (p0 : Int32) (w_CURRENT_YEAR_PROFIT : Addr) (w_CURRENT_YEAR_LOSS : Addr) (w_RISK_WEIGHTED_ASSETS : Addr) (w_OTHER_TIER2_CAPITAL : Addr) (w_TIER1_PREVIOUS_MARCH : Addr) (w_EQUITY_INVESTMENT_IN_SUBSIDIARIES : Addr) (w_NABARD_ASSESSED_CRAR : Addr) (w_CAPITAL_ADDED_SINCE_BALANCE_SHEET : Addr) (w_CAPITAL_REDUCED_SINCE_BALANCE_SHEET : Addr) (w_LOSSES_SINCE_BALANCE_SHEET : Addr) (w_NOT_NEGATIVE : Addr) (w_ANY : Addr) (h0 : Heap) (n0 : Nat) (v : Option Value) (h : Heap) (L : List Loc) : Prop := v = some (.int 1) ∧ Fr n0 L
set_option maxRecDepth 65536 in
set_option maxHeartbeats 40000000 in
theorem rm0 (l : Launch) (Z : State) (a0 : Array Value) (hw : ∀ d ∈ tables_1, d.before a0 Z = true) (ws : List Jvm.Cond) (p0 : Int32) (w_CURRENT_YEAR_PROFIT : Addr) (w_CURRENT_YEAR_LOSS : Addr) (w_RISK_WEIGHTED_ASSETS : Addr) (w_OTHER_TIER2_CAPITAL : Addr) (w_TIER1_PREVIOUS_MARCH : Addr) (w_EQUITY_INVESTMENT_IN_SUBSIDIARIES : Addr) (w_NABARD_ASSESSED_CRAR : Addr) (w_CAPITAL_ADDED_SINCE_BALANCE_SHEET : Addr) (w_CAPITAL_REDUCED_SINCE_BALANCE_SHEET : Addr) (w_LOSSES_SINCE_BALANCE_SHEET : Addr) (w_NOT_NEGATIVE : Addr) (w_ANY : Addr) (h0 : Heap) (n0 : Nat) (Z0 : n0 ≤ h0.size) (S_w_CURRENT_YEAR_PROFIT : Sta Z h0 "com/example/poonji/poonji/BankFigures$Item" "CURRENT_YEAR_PROFIT" "Lcom/example/poonji/poonji/BankFigures$Item;" (.ref w_CURRENT_YEAR_PROFIT)) (E_w_CURRENT_YEAR_PROFIT : Exa Z h0 w_CURRENT_YEAR_PROFIT "com/example/poonji/poonji/BankFigures$Item") (S_w_CURRENT_YEAR_LOSS : Sta Z h0 "com/example/poonji/poonji/BankFigures$Item" "CURRENT_YEAR_LOSS" "Lcom/example/poonji/poonji/BankFigures$Item;" (.ref w_CURRENT_YEAR_LOSS)) (E_w_CURRENT_YEAR_LOSS : Exa Z h0 w_CURRENT_YEAR_LOSS "com/example/poonji/poonji/BankFigures$Item") (S_w_RISK_WEIGHTED_ASSETS : Sta Z h0 "com/example/poonji/poonji/BankFigures$Item" "RISK_WEIGHTED_ASSETS" "Lcom/example/poonji/poonji/BankFigures$Item;" (.ref w_RISK_WEIGHTED_ASSETS)) (E_w_RISK_WEIGHTED_ASSETS : Exa Z h0 w_RISK_WEIGHTED_ASSETS "com/example/poonji/poonji/BankFigures$Item") (S_w_OTHER_TIER2_CAPITAL : Sta Z h0 "com/example/poonji/poonji/BankFigures$Item" "OTHER_TIER2_CAPITAL" "Lcom/example/poonji/poonji/BankFigures$Item;" (.ref w_OTHER_TIER2_CAPITAL)) (E_w_OTHER_TIER2_CAPITAL : Exa Z h0 w_OTHER_TIER2_CAPITAL "com/example/poonji/poonji/BankFigures$Item") (S_w_TIER1_PREVIOUS_MARCH : Sta Z h0 "com/example/poonji/poonji/BankFigures$Item" "TIER1_PREVIOUS_MARCH" "Lcom/example/poonji/poonji/BankFigures$Item;" (.ref w_TIER1_PREVIOUS_MARCH)) (E_w_TIER1_PREVIOUS_MARCH : Exa Z h0 w_TIER1_PREVIOUS_MARCH "com/example/poonji/poonji/BankFigures$Item") (S_w_EQUITY_INVESTMENT_IN_SUBSIDIARIES : Sta Z h0 "com/example/poonji/poonji/BankFigures$Item" "EQUITY_INVESTMENT_IN_SUBSIDIARIES" "Lcom/example/poonji/poonji/BankFigures$Item;" (.ref w_EQUITY_INVESTMENT_IN_SUBSIDIARIES)) (E_w_EQUITY_INVESTMENT_IN_SUBSIDIARIES : Exa Z h0 w_EQUITY_INVESTMENT_IN_SUBSIDIARIES "com/example/poonji/poonji/BankFigures$Item") (S_w_NABARD_ASSESSED_CRAR : Sta Z h0 "com/example/poonji/poonji/BankFigures$Item" "NABARD_ASSESSED_CRAR" "Lcom/example/poonji/poonji/BankFigures$Item;" (.ref w_NABARD_ASSESSED_CRAR)) (E_w_NABARD_ASSESSED_CRAR : Exa Z h0 w_NABARD_ASSESSED_CRAR "com/example/poonji/poonji/BankFigures$Item") (S_w_CAPITAL_ADDED_SINCE_BALANCE_SHEET : Sta Z h0 "com/example/poonji/poonji/BankFigures$Item" "CAPITAL_ADDED_SINCE_BALANCE_SHEET" "Lcom/example/poonji/poonji/BankFigures$Item;" (.ref w_CAPITAL_ADDED_SINCE_BALANCE_SHEET)) (E_w_CAPITAL_ADDED_SINCE_BALANCE_SHEET : Exa Z h0 w_CAPITAL_ADDED_SINCE_BALANCE_SHEET "com/example/poonji/poonji/BankFigures$Item") (S_w_CAPITAL_REDUCED_SINCE_BALANCE_SHEET : Sta Z h0 "com/example/poonji/poonji/BankFigures$Item" "CAPITAL_REDUCED_SINCE_BALANCE_SHEET" "Lcom/example/poonji/poonji/BankFigures$Item;" (.ref w_CAPITAL_REDUCED_SINCE_BALANCE_SHEET)) (E_w_CAPITAL_REDUCED_SINCE_BALANCE_SHEET : Exa Z h0 w_CAPITAL_REDUCED_SINCE_BALANCE_SHEET "com/example/poonji/poonji/BankFigures$Item") (S_w_LOSSES_SINCE_BALANCE_SHEET : Sta Z h0 "com/example/poonji/poonji/BankFigures$Item" "LOSSES_SINCE_BALANCE_SHEET" "Lcom/example/poonji/poonji/BankFigures$Item;" (.ref w_LOSSES_SINCE_BALANCE_SHEET)) (E_w_LOSSES_SINCE_BALANCE_SHEET : Exa Z h0 w_LOSSES_SINCE_BALANCE_SHEET "com/example/poonji/poonji/BankFigures$Item") (S_w_NOT_NEGATIVE : Sta Z h0 "com/example/poonji/poonji/BankFigures$Sign" "NOT_NEGATIVE" "Lcom/example/poonji/poonji/BankFigures$Sign;" (.ref w_NOT_NEGATIVE)) (E_w_NOT_NEGATIVE : Exa Z h0 w_NOT_NEGATIVE "com/example/poonji/poonji/BankFigures$Sign") (S_w_ANY : Sta Z h0 "com/example/poonji/poonji/BankFigures$Sign" "ANY" "Lcom/example/poonji/poonji/BankFigures$Sign;" (.ref w_ANY)) (E_w_ANY : Exa Z h0 w_ANY "com/example/poonji/poonji/BankFigures$Sign") (F_sign_w_CURRENT_YEAR_PROFIT : Fld Z h0 w_CURRENT_YEAR_PROFIT "com/example/poonji/poonji/BankFigures$Item" "sign" "Lcom/example/poonji/poonji/BankFigures$Sign;" (.ref w_NOT_NEGATIVE)) (F_ordinal_w_NOT_NEGATIVE : Fld Z h0 w_NOT_NEGATIVE "java/lang/Enum" "ordinal" "I" (.int (0 : Int32))) (F_ordinal_w_ANY : Fld Z h0 w_ANY "java/lang/Enum" "ordinal" "I" (.int (1 : Int32))) (F_sign_w_OTHER_TIER2_CAPITAL : Fld Z h0 w_OTHER_TIER2_CAPITAL "com/example/poonji/poonji/BankFigures$Item" "sign" "Lcom/example/poonji/poonji/BankFigures$Sign;" (.ref w_NOT_NEGATIVE)) (F_sign_w_CURRENT_YEAR_LOSS : Fld Z h0 w_CURRENT_YEAR_LOSS "com/example/poonji/poonji/BankFigures$Item" "sign" "Lcom/example/poonji/poonji/BankFigures$Sign;" (.ref w_NOT_NEGATIVE)) (F_sign_w_TIER1_PREVIOUS_MARCH : Fld Z h0 w_TIER1_PREVIOUS_MARCH "com/example/poonji/poonji/BankFigures$Item" "sign" "Lcom/example/poonji/poonji/BankFigures$Sign;" (.ref w_NOT_NEGATIVE)) (F_sign_w_CAPITAL_ADDED_SINCE_BALANCE_SHEET : Fld Z h0 w_CAPITAL_ADDED_SINCE_BALANCE_SHEET "com/example/poonji/poonji/BankFigures$Item" "sign" "Lcom/example/poonji/poonji/BankFigures$Sign;" (.ref w_NOT_NEGATIVE)) (F_sign_w_RISK_WEIGHTED_ASSETS : Fld Z h0 w_RISK_WEIGHTED_ASSETS "com/example/poonji/poonji/BankFigures$Item" "sign" "Lcom/example/poonji/poonji/BankFigures$Sign;" (.ref w_NOT_NEGATIVE)) (F_sign_w_CAPITAL_REDUCED_SINCE_BALANCE_SHEET : Fld Z h0 w_CAPITAL_REDUCED_SINCE_BALANCE_SHEET "com/example/poonji/poonji/BankFigures$Item" "sign" "Lcom/example/poonji/poonji/BankFigures$Sign;" (.ref w_NOT_NEGATIVE)) (F_sign_w_LOSSES_SINCE_BALANCE_SHEET : Fld Z h0 w_LOSSES_SINCE_BALANCE_SHEET "com/example/poonji/poonji/BankFigures$Item" "sign" "Lcom/example/poonji/poonji/BankFigures$Sign;" (.ref w_NOT_NEGATIVE)) (F_sign_w_EQUITY_INVESTMENT_IN_SUBSIDIARIES : Fld Z h0 w_EQUITY_INVESTMENT_IN_SUBSIDIARIES "com/example/poonji/poonji/BankFigures$Item" "sign" "Lcom/example/poonji/poonji/BankFigures$Sign;" (.ref w_NOT_NEGATIVE)) (F_sign_w_NABARD_ASSESSED_CRAR : Fld Z h0 w_NABARD_ASSESSED_CRAR "com/example/poonji/poonji/BankFigures$Item" "sign" "Lcom/example/poonji/poonji/BankFigures$Sign;" (.ref w_ANY)) (ne_w_NOT_NEGATIVE_w_ANY : w_NOT_NEGATIVE ≠ w_ANY) :
    MetFree l x (head1 (Jvm.Cond.code x code maxLocals ret :: ws) room_1) (fun a U => a = #[(.int p0)] ∧ Z.Warmed39 U.vm ∧ U.heap = h0) (fun _ _ _ _ _ => True) (fun _ U o U' => ∃ v L, o = .returned v ∧ Q0 Z p0 w_CURRENT_YEAR_PROFIT w_CURRENT_YEAR_LOSS w_RISK_WEIGHTED_ASSETS w_OTHER_TIER2_CAPITAL w_TIER1_PREVIOUS_MARCH w_EQUITY_INVESTMENT_IN_SUBSIDIARIES w_NABARD_ASSESSED_CRAR w_CAPITAL_ADDED_SINCE_BALANCE_SHEET w_CAPITAL_REDUCED_SINCE_BALANCE_SHEET w_LOSSES_SINCE_BALANCE_SHEET w_NOT_NEGATIVE w_ANY h0 n0 v U'.heap L ∧ FrameEnd U o U' L 16 128) := by
  refine MetFree.of_bodySF (plainFor_of_name own_pn1) hisR ?_
  intro p e s m args below meth c s₁ Bd hml0 hP hK
  obtain ⟨rfl, hZ, hh⟩ := hP
  have hx := Bd.exec
  have hby := Bd.bytes
  have hml : c.maxLocals = 4 := hml0
  have hown : s.vm.findClass "com/example/poonji/poonji/ItemSignedPinLaw" = some m.cls := findClass_of_methodNamed Bd.named
  have hnm := (name_of_methodNamed Bd.named Bd.method).1
  have X0 : Stand p l e room_1 s m #[(.int p0)] below meth c s₁ [] 0 0 := Stand.of_body Bd
  have e0 : s₁.heap = h0 := by rw [← hh, Bd.state]; rfl
  have N0 := Fr.nil n0
  show Good p e below (fun o U' => ∃ v L, o = .returned v ∧ Q0 Z p0 w_CURRENT_YEAR_PROFIT w_CURRENT_YEAR_LOSS w_RISK_WEIGHTED_ASSETS w_OTHER_TIER2_CAPITAL w_TIER1_PREVIOUS_MARCH w_EQUITY_INVESTMENT_IN_SUBSIDIARIES w_NABARD_ASSESSED_CRAR w_CAPITAL_ADDED_SINCE_BALANCE_SHEET w_CAPITAL_REDUCED_SINCE_BALANCE_SHEET w_LOSSES_SINCE_BALANCE_SHEET w_NOT_NEGATIVE w_ANY h0 n0 v U'.heap L ∧ FrameEnd s o U' L 16 128) _
  refine Good.back (S' := s₁.setTop (mkF m 0 #[.val (.int p0), .unset, .unset, .unset] [])) (fun t k => castTop (own_ef_0 m p0) k) ?_
  show Good p e below _ (s₁.setTop (mkF m 0 #[.val (.int p0), .unset, .unset, .unset] []))
  refine Good.back (fun _ k => XS.bipush X0.here hx rfl (hb hby at_0) k) ?_
  show Good p e below _ (s₁.setTop (mkF m 2 #[.val (.int p0), .unset, .unset, .unset] [(.int (10 : Int32))]))
  obtain ⟨T1, h1, k1, X1, e1, E1, A1, O1, st1⟩ := newR X0 hx hZ hown (hw _ (List.mem_of_getElem? (i := 0) rfl)) (hw _ (List.mem_of_getElem? (i := 1) rfl)) e0 (g := (mkF m 2 #[.val (.int p0), .unset, .unset, .unset] [(.int (10 : Int32))])) rfl (hb hby at_2) rfl (by decide) (cap := 10) (by decide) (by decide) (by decide) (by decide)
  obtain ⟨b1, g1⟩ : ∃ z, z = h0.size := ⟨_, rfl⟩
  rw [← g1] at A1 st1
  refine Good.back st1 ?_
  have g_b1 : n0 ≤ b1 := Nat.le_trans Z0 (Nat.le_of_eq g1.symm)
  have Z2 : n0 ≤ h1.size := Nat.le_trans Z0 E1.1
  have f_3 : Arv Z h1 b1 k1 (.object "com/example/poonji/poonji/BankFigures$Item") (10 : Int32) [.null, .null, .null, .null, .null, .null, .null, .null, .null, .null] .null := (Arv.new A1 (by decide)).pad (pad_rep [] .null 10)
  show Good p e below _ (T1.setTop (mkF m 5 #[.val (.int p0), .unset, .unset, .unset] [(.ref b1)]))
  refine Good.back (fun _ k => XS.dup X1.here hx rfl (hb hby at_5) rfl rfl k) ?_
  show Good p e below _ (T1.setTop (mkF m 6 #[.val (.int p0), .unset, .unset, .unset] [(.ref b1), (.ref b1)]))
  refine Good.back (fun _ k => XS.iconst X1.here hx rfl (hb hby at_6) k) ?_
  show Good p e below _ (T1.setTop (mkF m 7 #[.val (.int p0), .unset, .unset, .unset] [(.int (0 : Int32)), (.ref b1), (.ref b1)]))
  have f_4 : Sta Z h1 "com/example/poonji/poonji/BankFigures$Item" "CURRENT_YEAR_PROFIT" "Lcom/example/poonji/poonji/BankFigures$Item;" (.ref w_CURRENT_YEAR_PROFIT) := Sta.ext E1 S_w_CURRENT_YEAR_PROFIT
  obtain ⟨T5, X5, e5, st5⟩ := getS2 X1 hx hZ hown (host := "") (Or.inl (hw _ (List.mem_of_getElem? (i := 2) rfl))) Via.refl e1 f_4 (g := (mkF m 7 #[.val (.int p0), .unset, .unset, .unset] [(.int (0 : Int32)), (.ref b1), (.ref b1)])) rfl (hb hby at_7)
  refine Good.back st5 ?_
  show Good p e below _ (T5.setTop (mkF m 10 #[.val (.int p0), .unset, .unset, .unset] [(.ref w_CURRENT_YEAR_PROFIT), (.int (0 : Int32)), (.ref b1), (.ref b1)]))
  have fc6 := f_3
  obtain ⟨cl6, Ar6, qk6, S6, N6', H6, G6⟩ := fc6
  have hin6 : ¬ ((0 : Int32) < 0 ∨ cl6.slots.size ≤ ((0 : Int32)).toNatClampNeg) := inb_of S6 ⟨by decide, by decide⟩
  have f_6 : Exa Z h1 w_CURRENT_YEAR_PROFIT "com/example/poonji/poonji/BankFigures$Item" := Exa.ext E1 E_w_CURRENT_YEAR_PROFIT
  obtain ⟨T7, h7, X7, e7, W7, st7⟩ := stR X5 hx hZ e5 Ar6 (j := (0 : Int32)) hin6 rfl (Sto.ofV Ar6 qk6 O1 (Ins.self f_6)) (g := (mkF m 10 #[.val (.int p0), .unset, .unset, .unset] [(.ref w_CURRENT_YEAR_PROFIT), (.int (0 : Int32)), (.ref b1), (.ref b1)])) rfl rfl (hb hby at_10)
  refine Good.back st7 ?_
  have f_8 : Arv Z h7 b1 k1 (.object "com/example/poonji/poonji/BankFigures$Item") (10 : Int32) [(.ref w_CURRENT_YEAR_PROFIT), .null, .null, .null, .null, .null, .null, .null, .null, .null] .null := Arv.set Ar6 qk6 S6 N6' H6 G6 rfl W7 0 rfl (Nat.le_of_ble_eq_true rfl)
  have N7 := Fr.snoc X7 N0 g_b1
  have Z9 : n0 ≤ h7.size := Nat.le_trans Z2 (Keep.of_wr W7).1
  show Good p e below _ (T7.setTop (mkF m 11 #[.val (.int p0), .unset, .unset, .unset] [(.ref b1)]))
  refine Good.back (fun _ k => XS.dup X7.here hx rfl (hb hby at_11) rfl rfl k) ?_
  show Good p e below _ (T7.setTop (mkF m 12 #[.val (.int p0), .unset, .unset, .unset] [(.ref b1), (.ref b1)]))
  refine Good.back (fun _ k => XS.iconst X7.here hx rfl (hb hby at_12) k) ?_
  show Good p e below _ (T7.setTop (mkF m 13 #[.val (.int p0), .unset, .unset, .unset] [(.int (1 : Int32)), (.ref b1), (.ref b1)]))
  have f_10 : Sta Z h1 "com/example/poonji/poonji/BankFigures$Item" "CURRENT_YEAR_LOSS" "Lcom/example/poonji/poonji/BankFigures$Item;" (.ref w_CURRENT_YEAR_LOSS) := Sta.ext E1 S_w_CURRENT_YEAR_LOSS
  have f_11 : Sta Z h7 "com/example/poonji/poonji/BankFigures$Item" "CURRENT_YEAR_LOSS" "Lcom/example/poonji/poonji/BankFigures$Item;" (.ref w_CURRENT_YEAR_LOSS) := Sta.wr W7 f_10
  obtain ⟨T12, X12, e12, st12⟩ := getS2 X7 hx hZ hown (host := "") (Or.inl (hw _ (List.mem_of_getElem? (i := 6) rfl))) Via.refl e7 f_11 (g := (mkF m 13 #[.val (.int p0), .unset, .unset, .unset] [(.int (1 : Int32)), (.ref b1), (.ref b1)])) rfl (hb hby at_13)
  refine Good.back st12 ?_
  show Good p e below _ (T12.setTop (mkF m 16 #[.val (.int p0), .unset, .unset, .unset] [(.ref w_CURRENT_YEAR_LOSS), (.int (1 : Int32)), (.ref b1), (.ref b1)]))
  have fc13 := f_8
  obtain ⟨cl13, Ar13, qk13, S13, N13', H13, G13⟩ := fc13
  have hin13 : ¬ ((1 : Int32) < 0 ∨ cl13.slots.size ≤ ((1 : Int32)).toNatClampNeg) := inb_of S13 ⟨by decide, by decide⟩
  have f_13 : Exa Z h1 w_CURRENT_YEAR_LOSS "com/example/poonji/poonji/BankFigures$Item" := Exa.ext E1 E_w_CURRENT_YEAR_LOSS
  have f_14 : Exa Z h7 w_CURRENT_YEAR_LOSS "com/example/poonji/poonji/BankFigures$Item" := Exa.wr W7 f_13
  obtain ⟨T15, h15, X15, e15, W15, st15⟩ := stR X12 hx hZ e12 Ar13 (j := (1 : Int32)) hin13 rfl (Sto.ofV Ar13 qk13 O1 (Ins.self f_14)) (g := (mkF m 16 #[.val (.int p0), .unset, .unset, .unset] [(.ref w_CURRENT_YEAR_LOSS), (.int (1 : Int32)), (.ref b1), (.ref b1)])) rfl rfl (hb hby at_16)
  refine Good.back st15 ?_
  have f_16 : Arv Z h15 b1 k1 (.object "com/example/poonji/poonji/BankFigures$Item") (10 : Int32) [(.ref w_CURRENT_YEAR_PROFIT), (.ref w_CURRENT_YEAR_LOSS), .null, .null, .null, .null, .null, .null, .null, .null] .null := Arv.set Ar13 qk13 S13 N13' H13 G13 rfl W15 1 rfl (Nat.le_of_ble_eq_true rfl)
  have N15 := Fr.snoc X15 N7 g_b1
  have Z17 : n0 ≤ h15.size := Nat.le_trans Z9 (Keep.of_wr W15).1
  show Good p e below _ (T15.setTop (mkF m 17 #[.val (.int p0), .unset, .unset, .unset] [(.ref b1)]))
  refine Good.back (fun _ k => XS.dup X15.here hx rfl (hb hby at_17) rfl rfl k) ?_
  show Good p e below _ (T15.setTop (mkF m 18 #[.val (.int p0), .unset, .unset, .unset] [(.ref b1), (.ref b1)]))
  refine Good.back (fun _ k => XS.iconst X15.here hx rfl (hb hby at_18) k) ?_
  show Good p e below _ (T15.setTop (mkF m 19 #[.val (.int p0), .unset, .unset, .unset] [(.int (2 : Int32)), (.ref b1), (.ref b1)]))
  have f_18 : Sta Z h1 "com/example/poonji/poonji/BankFigures$Item" "RISK_WEIGHTED_ASSETS" "Lcom/example/poonji/poonji/BankFigures$Item;" (.ref w_RISK_WEIGHTED_ASSETS) := Sta.ext E1 S_w_RISK_WEIGHTED_ASSETS
  have f_19 : Sta Z h7 "com/example/poonji/poonji/BankFigures$Item" "RISK_WEIGHTED_ASSETS" "Lcom/example/poonji/poonji/BankFigures$Item;" (.ref w_RISK_WEIGHTED_ASSETS) := Sta.wr W7 f_18
  have f_20 : Sta Z h15 "com/example/poonji/poonji/BankFigures$Item" "RISK_WEIGHTED_ASSETS" "Lcom/example/poonji/poonji/BankFigures$Item;" (.ref w_RISK_WEIGHTED_ASSETS) := Sta.wr W15 f_19
  obtain ⟨T21, X21, e21, st21⟩ := getS2 X15 hx hZ hown (host := "") (Or.inl (hw _ (List.mem_of_getElem? (i := 8) rfl))) Via.refl e15 f_20 (g := (mkF m 19 #[.val (.int p0), .unset, .unset, .unset] [(.int (2 : Int32)), (.ref b1), (.ref b1)])) rfl (hb hby at_19)
  refine Good.back st21 ?_
  show Good p e below _ (T21.setTop (mkF m 22 #[.val (.int p0), .unset, .unset, .unset] [(.ref w_RISK_WEIGHTED_ASSETS), (.int (2 : Int32)), (.ref b1), (.ref b1)]))
  have fc22 := f_16
  obtain ⟨cl22, Ar22, qk22, S22, N22', H22, G22⟩ := fc22
  have hin22 : ¬ ((2 : Int32) < 0 ∨ cl22.slots.size ≤ ((2 : Int32)).toNatClampNeg) := inb_of S22 ⟨by decide, by decide⟩
  have f_22 : Exa Z h1 w_RISK_WEIGHTED_ASSETS "com/example/poonji/poonji/BankFigures$Item" := Exa.ext E1 E_w_RISK_WEIGHTED_ASSETS
  have f_23 : Exa Z h7 w_RISK_WEIGHTED_ASSETS "com/example/poonji/poonji/BankFigures$Item" := Exa.wr W7 f_22
  have f_24 : Exa Z h15 w_RISK_WEIGHTED_ASSETS "com/example/poonji/poonji/BankFigures$Item" := Exa.wr W15 f_23
  obtain ⟨T25, h25, X25, e25, W25, st25⟩ := stR X21 hx hZ e21 Ar22 (j := (2 : Int32)) hin22 rfl (Sto.ofV Ar22 qk22 O1 (Ins.self f_24)) (g := (mkF m 22 #[.val (.int p0), .unset, .unset, .unset] [(.ref w_RISK_WEIGHTED_ASSETS), (.int (2 : Int32)), (.ref b1), (.ref b1)])) rfl rfl (hb hby at_22)
  refine Good.back st25 ?_
  have f_26 : Arv Z h25 b1 k1 (.object "com/example/poonji/poonji/BankFigures$Item") (10 : Int32) [(.ref w_CURRENT_YEAR_PROFIT), (.ref w_CURRENT_YEAR_LOSS), (.ref w_RISK_WEIGHTED_ASSETS), .null, .null, .null, .null, .null, .null, .null] .null := Arv.set Ar22 qk22 S22 N22' H22 G22 rfl W25 2 rfl (Nat.le_of_ble_eq_true rfl)
  have N25 := Fr.snoc X25 N15 g_b1
  have Z27 : n0 ≤ h25.size := Nat.le_trans Z17 (Keep.of_wr W25).1
  show Good p e below _ (T25.setTop (mkF m 23 #[.val (.int p0), .unset, .unset, .unset] [(.ref b1)]))
  refine Good.back (fun _ k => XS.dup X25.here hx rfl (hb hby at_23) rfl rfl k) ?_
  show Good p e below _ (T25.setTop (mkF m 24 #[.val (.int p0), .unset, .unset, .unset] [(.ref b1), (.ref b1)]))
  refine Good.back (fun _ k => XS.iconst X25.here hx rfl (hb hby at_24) k) ?_
  show Good p e below _ (T25.setTop (mkF m 25 #[.val (.int p0), .unset, .unset, .unset] [(.int (3 : Int32)), (.ref b1), (.ref b1)]))
  have f_28 : Sta Z h1 "com/example/poonji/poonji/BankFigures$Item" "OTHER_TIER2_CAPITAL" "Lcom/example/poonji/poonji/BankFigures$Item;" (.ref w_OTHER_TIER2_CAPITAL) := Sta.ext E1 S_w_OTHER_TIER2_CAPITAL
  have f_29 : Sta Z h7 "com/example/poonji/poonji/BankFigures$Item" "OTHER_TIER2_CAPITAL" "Lcom/example/poonji/poonji/BankFigures$Item;" (.ref w_OTHER_TIER2_CAPITAL) := Sta.wr W7 f_28
  have f_30 : Sta Z h15 "com/example/poonji/poonji/BankFigures$Item" "OTHER_TIER2_CAPITAL" "Lcom/example/poonji/poonji/BankFigures$Item;" (.ref w_OTHER_TIER2_CAPITAL) := Sta.wr W15 f_29
  have f_31 : Sta Z h25 "com/example/poonji/poonji/BankFigures$Item" "OTHER_TIER2_CAPITAL" "Lcom/example/poonji/poonji/BankFigures$Item;" (.ref w_OTHER_TIER2_CAPITAL) := Sta.wr W25 f_30
  obtain ⟨T32, X32, e32, st32⟩ := getS2 X25 hx hZ hown (host := "") (Or.inl (hw _ (List.mem_of_getElem? (i := 10) rfl))) Via.refl e25 f_31 (g := (mkF m 25 #[.val (.int p0), .unset, .unset, .unset] [(.int (3 : Int32)), (.ref b1), (.ref b1)])) rfl (hb hby at_25)
  refine Good.back st32 ?_
  show Good p e below _ (T32.setTop (mkF m 28 #[.val (.int p0), .unset, .unset, .unset] [(.ref w_OTHER_TIER2_CAPITAL), (.int (3 : Int32)), (.ref b1), (.ref b1)]))
  have fc33 := f_26
  obtain ⟨cl33, Ar33, qk33, S33, N33', H33, G33⟩ := fc33
  have hin33 : ¬ ((3 : Int32) < 0 ∨ cl33.slots.size ≤ ((3 : Int32)).toNatClampNeg) := inb_of S33 ⟨by decide, by decide⟩
  have f_33 : Exa Z h1 w_OTHER_TIER2_CAPITAL "com/example/poonji/poonji/BankFigures$Item" := Exa.ext E1 E_w_OTHER_TIER2_CAPITAL
  have f_34 : Exa Z h7 w_OTHER_TIER2_CAPITAL "com/example/poonji/poonji/BankFigures$Item" := Exa.wr W7 f_33
  have f_35 : Exa Z h15 w_OTHER_TIER2_CAPITAL "com/example/poonji/poonji/BankFigures$Item" := Exa.wr W15 f_34
  have f_36 : Exa Z h25 w_OTHER_TIER2_CAPITAL "com/example/poonji/poonji/BankFigures$Item" := Exa.wr W25 f_35
  obtain ⟨T37, h37, X37, e37, W37, st37⟩ := stR X32 hx hZ e32 Ar33 (j := (3 : Int32)) hin33 rfl (Sto.ofV Ar33 qk33 O1 (Ins.self f_36)) (g := (mkF m 28 #[.val (.int p0), .unset, .unset, .unset] [(.ref w_OTHER_TIER2_CAPITAL), (.int (3 : Int32)), (.ref b1), (.ref b1)])) rfl rfl (hb hby at_28)
  refine Good.back st37 ?_
  have f_38 : Arv Z h37 b1 k1 (.object "com/example/poonji/poonji/BankFigures$Item") (10 : Int32) [(.ref w_CURRENT_YEAR_PROFIT), (.ref w_CURRENT_YEAR_LOSS), (.ref w_RISK_WEIGHTED_ASSETS), (.ref w_OTHER_TIER2_CAPITAL), .null, .null, .null, .null, .null, .null] .null := Arv.set Ar33 qk33 S33 N33' H33 G33 rfl W37 3 rfl (Nat.le_of_ble_eq_true rfl)
  have N37 := Fr.snoc X37 N25 g_b1
  have Z39 : n0 ≤ h37.size := Nat.le_trans Z27 (Keep.of_wr W37).1
  show Good p e below _ (T37.setTop (mkF m 29 #[.val (.int p0), .unset, .unset, .unset] [(.ref b1)]))
  refine Good.back (fun _ k => XS.dup X37.here hx rfl (hb hby at_29) rfl rfl k) ?_
  show Good p e below _ (T37.setTop (mkF m 30 #[.val (.int p0), .unset, .unset, .unset] [(.ref b1), (.ref b1)]))
  refine Good.back (fun _ k => XS.iconst X37.here hx rfl (hb hby at_30) k) ?_
  show Good p e below _ (T37.setTop (mkF m 31 #[.val (.int p0), .unset, .unset, .unset] [(.int (4 : Int32)), (.ref b1), (.ref b1)]))
  have f_40 : Sta Z h1 "com/example/poonji/poonji/BankFigures$Item" "TIER1_PREVIOUS_MARCH" "Lcom/example/poonji/poonji/BankFigures$Item;" (.ref w_TIER1_PREVIOUS_MARCH) := Sta.ext E1 S_w_TIER1_PREVIOUS_MARCH
  have f_41 : Sta Z h7 "com/example/poonji/poonji/BankFigures$Item" "TIER1_PREVIOUS_MARCH" "Lcom/example/poonji/poonji/BankFigures$Item;" (.ref w_TIER1_PREVIOUS_MARCH) := Sta.wr W7 f_40
  have f_42 : Sta Z h15 "com/example/poonji/poonji/BankFigures$Item" "TIER1_PREVIOUS_MARCH" "Lcom/example/poonji/poonji/BankFigures$Item;" (.ref w_TIER1_PREVIOUS_MARCH) := Sta.wr W15 f_41
  have f_43 : Sta Z h25 "com/example/poonji/poonji/BankFigures$Item" "TIER1_PREVIOUS_MARCH" "Lcom/example/poonji/poonji/BankFigures$Item;" (.ref w_TIER1_PREVIOUS_MARCH) := Sta.wr W25 f_42
  have f_44 : Sta Z h37 "com/example/poonji/poonji/BankFigures$Item" "TIER1_PREVIOUS_MARCH" "Lcom/example/poonji/poonji/BankFigures$Item;" (.ref w_TIER1_PREVIOUS_MARCH) := Sta.wr W37 f_43
  obtain ⟨T45, X45, e45, st45⟩ := getS2 X37 hx hZ hown (host := "") (Or.inl (hw _ (List.mem_of_getElem? (i := 12) rfl))) Via.refl e37 f_44 (g := (mkF m 31 #[.val (.int p0), .unset, .unset, .unset] [(.int (4 : Int32)), (.ref b1), (.ref b1)])) rfl (hb hby at_31)
  refine Good.back st45 ?_
  show Good p e below _ (T45.setTop (mkF m 34 #[.val (.int p0), .unset, .unset, .unset] [(.ref w_TIER1_PREVIOUS_MARCH), (.int (4 : Int32)), (.ref b1), (.ref b1)]))
  have fc46 := f_38
  obtain ⟨cl46, Ar46, qk46, S46, N46', H46, G46⟩ := fc46
  have hin46 : ¬ ((4 : Int32) < 0 ∨ cl46.slots.size ≤ ((4 : Int32)).toNatClampNeg) := inb_of S46 ⟨by decide, by decide⟩
  have f_46 : Exa Z h1 w_TIER1_PREVIOUS_MARCH "com/example/poonji/poonji/BankFigures$Item" := Exa.ext E1 E_w_TIER1_PREVIOUS_MARCH
  have f_47 : Exa Z h7 w_TIER1_PREVIOUS_MARCH "com/example/poonji/poonji/BankFigures$Item" := Exa.wr W7 f_46
  have f_48 : Exa Z h15 w_TIER1_PREVIOUS_MARCH "com/example/poonji/poonji/BankFigures$Item" := Exa.wr W15 f_47
  have f_49 : Exa Z h25 w_TIER1_PREVIOUS_MARCH "com/example/poonji/poonji/BankFigures$Item" := Exa.wr W25 f_48
  have f_50 : Exa Z h37 w_TIER1_PREVIOUS_MARCH "com/example/poonji/poonji/BankFigures$Item" := Exa.wr W37 f_49
  obtain ⟨T51, h51, X51, e51, W51, st51⟩ := stR X45 hx hZ e45 Ar46 (j := (4 : Int32)) hin46 rfl (Sto.ofV Ar46 qk46 O1 (Ins.self f_50)) (g := (mkF m 34 #[.val (.int p0), .unset, .unset, .unset] [(.ref w_TIER1_PREVIOUS_MARCH), (.int (4 : Int32)), (.ref b1), (.ref b1)])) rfl rfl (hb hby at_34)
  refine Good.back st51 ?_
  have f_52 : Arv Z h51 b1 k1 (.object "com/example/poonji/poonji/BankFigures$Item") (10 : Int32) [(.ref w_CURRENT_YEAR_PROFIT), (.ref w_CURRENT_YEAR_LOSS), (.ref w_RISK_WEIGHTED_ASSETS), (.ref w_OTHER_TIER2_CAPITAL), (.ref w_TIER1_PREVIOUS_MARCH), .null, .null, .null, .null, .null] .null := Arv.set Ar46 qk46 S46 N46' H46 G46 rfl W51 4 rfl (Nat.le_of_ble_eq_true rfl)
  have N51 := Fr.snoc X51 N37 g_b1
  have Z53 : n0 ≤ h51.size := Nat.le_trans Z39 (Keep.of_wr W51).1
  show Good p e below _ (T51.setTop (mkF m 35 #[.val (.int p0), .unset, .unset, .unset] [(.ref b1)]))
  refine Good.back (fun _ k => XS.dup X51.here hx rfl (hb hby at_35) rfl rfl k) ?_
  show Good p e below _ (T51.setTop (mkF m 36 #[.val (.int p0), .unset, .unset, .unset] [(.ref b1), (.ref b1)]))
  refine Good.back (fun _ k => XS.iconst X51.here hx rfl (hb hby at_36) k) ?_
  show Good p e below _ (T51.setTop (mkF m 37 #[.val (.int p0), .unset, .unset, .unset] [(.int (5 : Int32)), (.ref b1), (.ref b1)]))
  have f_54 : Sta Z h1 "com/example/poonji/poonji/BankFigures$Item" "EQUITY_INVESTMENT_IN_SUBSIDIARIES" "Lcom/example/poonji/poonji/BankFigures$Item;" (.ref w_EQUITY_INVESTMENT_IN_SUBSIDIARIES) := Sta.ext E1 S_w_EQUITY_INVESTMENT_IN_SUBSIDIARIES
  have f_55 : Sta Z h7 "com/example/poonji/poonji/BankFigures$Item" "EQUITY_INVESTMENT_IN_SUBSIDIARIES" "Lcom/example/poonji/poonji/BankFigures$Item;" (.ref w_EQUITY_INVESTMENT_IN_SUBSIDIARIES) := Sta.wr W7 f_54
  have f_56 : Sta Z h15 "com/example/poonji/poonji/BankFigures$Item" "EQUITY_INVESTMENT_IN_SUBSIDIARIES" "Lcom/example/poonji/poonji/BankFigures$Item;" (.ref w_EQUITY_INVESTMENT_IN_SUBSIDIARIES) := Sta.wr W15 f_55
  have f_57 : Sta Z h25 "com/example/poonji/poonji/BankFigures$Item" "EQUITY_INVESTMENT_IN_SUBSIDIARIES" "Lcom/example/poonji/poonji/BankFigures$Item;" (.ref w_EQUITY_INVESTMENT_IN_SUBSIDIARIES) := Sta.wr W25 f_56
  have f_58 : Sta Z h37 "com/example/poonji/poonji/BankFigures$Item" "EQUITY_INVESTMENT_IN_SUBSIDIARIES" "Lcom/example/poonji/poonji/BankFigures$Item;" (.ref w_EQUITY_INVESTMENT_IN_SUBSIDIARIES) := Sta.wr W37 f_57
  have f_59 : Sta Z h51 "com/example/poonji/poonji/BankFigures$Item" "EQUITY_INVESTMENT_IN_SUBSIDIARIES" "Lcom/example/poonji/poonji/BankFigures$Item;" (.ref w_EQUITY_INVESTMENT_IN_SUBSIDIARIES) := Sta.wr W51 f_58
  obtain ⟨T60, X60, e60, st60⟩ := getS2 X51 hx hZ hown (host := "") (Or.inl (hw _ (List.mem_of_getElem? (i := 14) rfl))) Via.refl e51 f_59 (g := (mkF m 37 #[.val (.int p0), .unset, .unset, .unset] [(.int (5 : Int32)), (.ref b1), (.ref b1)])) rfl (hb hby at_37)
  refine Good.back st60 ?_
  show Good p e below _ (T60.setTop (mkF m 40 #[.val (.int p0), .unset, .unset, .unset] [(.ref w_EQUITY_INVESTMENT_IN_SUBSIDIARIES), (.int (5 : Int32)), (.ref b1), (.ref b1)]))
  have fc61 := f_52
  obtain ⟨cl61, Ar61, qk61, S61, N61', H61, G61⟩ := fc61
  have hin61 : ¬ ((5 : Int32) < 0 ∨ cl61.slots.size ≤ ((5 : Int32)).toNatClampNeg) := inb_of S61 ⟨by decide, by decide⟩
  have f_61 : Exa Z h1 w_EQUITY_INVESTMENT_IN_SUBSIDIARIES "com/example/poonji/poonji/BankFigures$Item" := Exa.ext E1 E_w_EQUITY_INVESTMENT_IN_SUBSIDIARIES
  have f_62 : Exa Z h7 w_EQUITY_INVESTMENT_IN_SUBSIDIARIES "com/example/poonji/poonji/BankFigures$Item" := Exa.wr W7 f_61
  have f_63 : Exa Z h15 w_EQUITY_INVESTMENT_IN_SUBSIDIARIES "com/example/poonji/poonji/BankFigures$Item" := Exa.wr W15 f_62
  have f_64 : Exa Z h25 w_EQUITY_INVESTMENT_IN_SUBSIDIARIES "com/example/poonji/poonji/BankFigures$Item" := Exa.wr W25 f_63
  have f_65 : Exa Z h37 w_EQUITY_INVESTMENT_IN_SUBSIDIARIES "com/example/poonji/poonji/BankFigures$Item" := Exa.wr W37 f_64
  have f_66 : Exa Z h51 w_EQUITY_INVESTMENT_IN_SUBSIDIARIES "com/example/poonji/poonji/BankFigures$Item" := Exa.wr W51 f_65
  obtain ⟨T67, h67, X67, e67, W67, st67⟩ := stR X60 hx hZ e60 Ar61 (j := (5 : Int32)) hin61 rfl (Sto.ofV Ar61 qk61 O1 (Ins.self f_66)) (g := (mkF m 40 #[.val (.int p0), .unset, .unset, .unset] [(.ref w_EQUITY_INVESTMENT_IN_SUBSIDIARIES), (.int (5 : Int32)), (.ref b1), (.ref b1)])) rfl rfl (hb hby at_40)
  refine Good.back st67 ?_
  have f_68 : Arv Z h67 b1 k1 (.object "com/example/poonji/poonji/BankFigures$Item") (10 : Int32) [(.ref w_CURRENT_YEAR_PROFIT), (.ref w_CURRENT_YEAR_LOSS), (.ref w_RISK_WEIGHTED_ASSETS), (.ref w_OTHER_TIER2_CAPITAL), (.ref w_TIER1_PREVIOUS_MARCH), (.ref w_EQUITY_INVESTMENT_IN_SUBSIDIARIES), .null, .null, .null, .null] .null := Arv.set Ar61 qk61 S61 N61' H61 G61 rfl W67 5 rfl (Nat.le_of_ble_eq_true rfl)
  have N67 := Fr.snoc X67 N51 g_b1
  have Z69 : n0 ≤ h67.size := Nat.le_trans Z53 (Keep.of_wr W67).1
  show Good p e below _ (T67.setTop (mkF m 41 #[.val (.int p0), .unset, .unset, .unset] [(.ref b1)]))
  refine Good.back (fun _ k => XS.dup X67.here hx rfl (hb hby at_41) rfl rfl k) ?_
  show Good p e below _ (T67.setTop (mkF m 42 #[.val (.int p0), .unset, .unset, .unset] [(.ref b1), (.ref b1)]))
  refine Good.back (fun _ k => XS.bipush X67.here hx rfl (hb hby at_42) k) ?_
  show Good p e below _ (T67.setTop (mkF m 44 #[.val (.int p0), .unset, .unset, .unset] [(.int (6 : Int32)), (.ref b1), (.ref b1)]))
  have f_70 : Sta Z h1 "com/example/poonji/poonji/BankFigures$Item" "NABARD_ASSESSED_CRAR" "Lcom/example/poonji/poonji/BankFigures$Item;" (.ref w_NABARD_ASSESSED_CRAR) := Sta.ext E1 S_w_NABARD_ASSESSED_CRAR
  have f_71 : Sta Z h7 "com/example/poonji/poonji/BankFigures$Item" "NABARD_ASSESSED_CRAR" "Lcom/example/poonji/poonji/BankFigures$Item;" (.ref w_NABARD_ASSESSED_CRAR) := Sta.wr W7 f_70
  have f_72 : Sta Z h15 "com/example/poonji/poonji/BankFigures$Item" "NABARD_ASSESSED_CRAR" "Lcom/example/poonji/poonji/BankFigures$Item;" (.ref w_NABARD_ASSESSED_CRAR) := Sta.wr W15 f_71
  have f_73 : Sta Z h25 "com/example/poonji/poonji/BankFigures$Item" "NABARD_ASSESSED_CRAR" "Lcom/example/poonji/poonji/BankFigures$Item;" (.ref w_NABARD_ASSESSED_CRAR) := Sta.wr W25 f_72
  have f_74 : Sta Z h37 "com/example/poonji/poonji/BankFigures$Item" "NABARD_ASSESSED_CRAR" "Lcom/example/poonji/poonji/BankFigures$Item;" (.ref w_NABARD_ASSESSED_CRAR) := Sta.wr W37 f_73
  have f_75 : Sta Z h51 "com/example/poonji/poonji/BankFigures$Item" "NABARD_ASSESSED_CRAR" "Lcom/example/poonji/poonji/BankFigures$Item;" (.ref w_NABARD_ASSESSED_CRAR) := Sta.wr W51 f_74
  have f_76 : Sta Z h67 "com/example/poonji/poonji/BankFigures$Item" "NABARD_ASSESSED_CRAR" "Lcom/example/poonji/poonji/BankFigures$Item;" (.ref w_NABARD_ASSESSED_CRAR) := Sta.wr W67 f_75
  obtain ⟨T77, X77, e77, st77⟩ := getS2 X67 hx hZ hown (host := "") (Or.inl (hw _ (List.mem_of_getElem? (i := 16) rfl))) Via.refl e67 f_76 (g := (mkF m 44 #[.val (.int p0), .unset, .unset, .unset] [(.int (6 : Int32)), (.ref b1), (.ref b1)])) rfl (hb hby at_44)
  refine Good.back st77 ?_
  show Good p e below _ (T77.setTop (mkF m 47 #[.val (.int p0), .unset, .unset, .unset] [(.ref w_NABARD_ASSESSED_CRAR), (.int (6 : Int32)), (.ref b1), (.ref b1)]))
  have fc78 := f_68
  obtain ⟨cl78, Ar78, qk78, S78, N78', H78, G78⟩ := fc78
  have hin78 : ¬ ((6 : Int32) < 0 ∨ cl78.slots.size ≤ ((6 : Int32)).toNatClampNeg) := inb_of S78 ⟨by decide, by decide⟩
  have f_78 : Exa Z h1 w_NABARD_ASSESSED_CRAR "com/example/poonji/poonji/BankFigures$Item" := Exa.ext E1 E_w_NABARD_ASSESSED_CRAR
  have f_79 : Exa Z h7 w_NABARD_ASSESSED_CRAR "com/example/poonji/poonji/BankFigures$Item" := Exa.wr W7 f_78
  have f_80 : Exa Z h15 w_NABARD_ASSESSED_CRAR "com/example/poonji/poonji/BankFigures$Item" := Exa.wr W15 f_79
  have f_81 : Exa Z h25 w_NABARD_ASSESSED_CRAR "com/example/poonji/poonji/BankFigures$Item" := Exa.wr W25 f_80
  have f_82 : Exa Z h37 w_NABARD_ASSESSED_CRAR "com/example/poonji/poonji/BankFigures$Item" := Exa.wr W37 f_81
  have f_83 : Exa Z h51 w_NABARD_ASSESSED_CRAR "com/example/poonji/poonji/BankFigures$Item" := Exa.wr W51 f_82
  have f_84 : Exa Z h67 w_NABARD_ASSESSED_CRAR "com/example/poonji/poonji/BankFigures$Item" := Exa.wr W67 f_83
  obtain ⟨T85, h85, X85, e85, W85, st85⟩ := stR X77 hx hZ e77 Ar78 (j := (6 : Int32)) hin78 rfl (Sto.ofV Ar78 qk78 O1 (Ins.self f_84)) (g := (mkF m 47 #[.val (.int p0), .unset, .unset, .unset] [(.ref w_NABARD_ASSESSED_CRAR), (.int (6 : Int32)), (.ref b1), (.ref b1)])) rfl rfl (hb hby at_47)
  refine Good.back st85 ?_
  have f_86 : Arv Z h85 b1 k1 (.object "com/example/poonji/poonji/BankFigures$Item") (10 : Int32) [(.ref w_CURRENT_YEAR_PROFIT), (.ref w_CURRENT_YEAR_LOSS), (.ref w_RISK_WEIGHTED_ASSETS), (.ref w_OTHER_TIER2_CAPITAL), (.ref w_TIER1_PREVIOUS_MARCH), (.ref w_EQUITY_INVESTMENT_IN_SUBSIDIARIES), (.ref w_NABARD_ASSESSED_CRAR), .null, .null, .null] .null := Arv.set Ar78 qk78 S78 N78' H78 G78 rfl W85 6 rfl (Nat.le_of_ble_eq_true rfl)
  have N85 := Fr.snoc X85 N67 g_b1
  have Z87 : n0 ≤ h85.size := Nat.le_trans Z69 (Keep.of_wr W85).1
  show Good p e below _ (T85.setTop (mkF m 48 #[.val (.int p0), .unset, .unset, .unset] [(.ref b1)]))
  refine Good.back (fun _ k => XS.dup X85.here hx rfl (hb hby at_48) rfl rfl k) ?_
  show Good p e below _ (T85.setTop (mkF m 49 #[.val (.int p0), .unset, .unset, .unset] [(.ref b1), (.ref b1)]))
  refine Good.back (fun _ k => XS.bipush X85.here hx rfl (hb hby at_49) k) ?_
  show Good p e below _ (T85.setTop (mkF m 51 #[.val (.int p0), .unset, .unset, .unset] [(.int (7 : Int32)), (.ref b1), (.ref b1)]))
  have f_88 : Sta Z h1 "com/example/poonji/poonji/BankFigures$Item" "CAPITAL_ADDED_SINCE_BALANCE_SHEET" "Lcom/example/poonji/poonji/BankFigures$Item;" (.ref w_CAPITAL_ADDED_SINCE_BALANCE_SHEET) := Sta.ext E1 S_w_CAPITAL_ADDED_SINCE_BALANCE_SHEET
  have f_89 : Sta Z h7 "com/example/poonji/poonji/BankFigures$Item" "CAPITAL_ADDED_SINCE_BALANCE_SHEET" "Lcom/example/poonji/poonji/BankFigures$Item;" (.ref w_CAPITAL_ADDED_SINCE_BALANCE_SHEET) := Sta.wr W7 f_88
  have f_90 : Sta Z h15 "com/example/poonji/poonji/BankFigures$Item" "CAPITAL_ADDED_SINCE_BALANCE_SHEET" "Lcom/example/poonji/poonji/BankFigures$Item;" (.ref w_CAPITAL_ADDED_SINCE_BALANCE_SHEET) := Sta.wr W15 f_89
  have f_91 : Sta Z h25 "com/example/poonji/poonji/BankFigures$Item" "CAPITAL_ADDED_SINCE_BALANCE_SHEET" "Lcom/example/poonji/poonji/BankFigures$Item;" (.ref w_CAPITAL_ADDED_SINCE_BALANCE_SHEET) := Sta.wr W25 f_90
  have f_92 : Sta Z h37 "com/example/poonji/poonji/BankFigures$Item" "CAPITAL_ADDED_SINCE_BALANCE_SHEET" "Lcom/example/poonji/poonji/BankFigures$Item;" (.ref w_CAPITAL_ADDED_SINCE_BALANCE_SHEET) := Sta.wr W37 f_91
  have f_93 : Sta Z h51 "com/example/poonji/poonji/BankFigures$Item" "CAPITAL_ADDED_SINCE_BALANCE_SHEET" "Lcom/example/poonji/poonji/BankFigures$Item;" (.ref w_CAPITAL_ADDED_SINCE_BALANCE_SHEET) := Sta.wr W51 f_92
  have f_94 : Sta Z h67 "com/example/poonji/poonji/BankFigures$Item" "CAPITAL_ADDED_SINCE_BALANCE_SHEET" "Lcom/example/poonji/poonji/BankFigures$Item;" (.ref w_CAPITAL_ADDED_SINCE_BALANCE_SHEET) := Sta.wr W67 f_93
  have f_95 : Sta Z h85 "com/example/poonji/poonji/BankFigures$Item" "CAPITAL_ADDED_SINCE_BALANCE_SHEET" "Lcom/example/poonji/poonji/BankFigures$Item;" (.ref w_CAPITAL_ADDED_SINCE_BALANCE_SHEET) := Sta.wr W85 f_94
  obtain ⟨T96, X96, e96, st96⟩ := getS2 X85 hx hZ hown (host := "") (Or.inl (hw _ (List.mem_of_getElem? (i := 18) rfl))) Via.refl e85 f_95 (g := (mkF m 51 #[.val (.int p0), .unset, .unset, .unset] [(.int (7 : Int32)), (.ref b1), (.ref b1)])) rfl (hb hby at_51)
  refine Good.back st96 ?_
  show Good p e below _ (T96.setTop (mkF m 54 #[.val (.int p0), .unset, .unset, .unset] [(.ref w_CAPITAL_ADDED_SINCE_BALANCE_SHEET), (.int (7 : Int32)), (.ref b1), (.ref b1)]))
  have fc97 := f_86
  obtain ⟨cl97, Ar97, qk97, S97, N97', H97, G97⟩ := fc97
  have hin97 : ¬ ((7 : Int32) < 0 ∨ cl97.slots.size ≤ ((7 : Int32)).toNatClampNeg) := inb_of S97 ⟨by decide, by decide⟩
  have f_97 : Exa Z h1 w_CAPITAL_ADDED_SINCE_BALANCE_SHEET "com/example/poonji/poonji/BankFigures$Item" := Exa.ext E1 E_w_CAPITAL_ADDED_SINCE_BALANCE_SHEET
  have f_98 : Exa Z h7 w_CAPITAL_ADDED_SINCE_BALANCE_SHEET "com/example/poonji/poonji/BankFigures$Item" := Exa.wr W7 f_97
  have f_99 : Exa Z h15 w_CAPITAL_ADDED_SINCE_BALANCE_SHEET "com/example/poonji/poonji/BankFigures$Item" := Exa.wr W15 f_98
  have f_100 : Exa Z h25 w_CAPITAL_ADDED_SINCE_BALANCE_SHEET "com/example/poonji/poonji/BankFigures$Item" := Exa.wr W25 f_99
  have f_101 : Exa Z h37 w_CAPITAL_ADDED_SINCE_BALANCE_SHEET "com/example/poonji/poonji/BankFigures$Item" := Exa.wr W37 f_100
  have f_102 : Exa Z h51 w_CAPITAL_ADDED_SINCE_BALANCE_SHEET "com/example/poonji/poonji/BankFigures$Item" := Exa.wr W51 f_101
  have f_103 : Exa Z h67 w_CAPITAL_ADDED_SINCE_BALANCE_SHEET "com/example/poonji/poonji/BankFigures$Item" := Exa.wr W67 f_102
  have f_104 : Exa Z h85 w_CAPITAL_ADDED_SINCE_BALANCE_SHEET "com/example/poonji/poonji/BankFigures$Item" := Exa.wr W85 f_103
  obtain ⟨T105, h105, X105, e105, W105, st105⟩ := stR X96 hx hZ e96 Ar97 (j := (7 : Int32)) hin97 rfl (Sto.ofV Ar97 qk97 O1 (Ins.self f_104)) (g := (mkF m 54 #[.val (.int p0), .unset, .unset, .unset] [(.ref w_CAPITAL_ADDED_SINCE_BALANCE_SHEET), (.int (7 : Int32)), (.ref b1), (.ref b1)])) rfl rfl (hb hby at_54)
  refine Good.back st105 ?_
  have f_106 : Arv Z h105 b1 k1 (.object "com/example/poonji/poonji/BankFigures$Item") (10 : Int32) [(.ref w_CURRENT_YEAR_PROFIT), (.ref w_CURRENT_YEAR_LOSS), (.ref w_RISK_WEIGHTED_ASSETS), (.ref w_OTHER_TIER2_CAPITAL), (.ref w_TIER1_PREVIOUS_MARCH), (.ref w_EQUITY_INVESTMENT_IN_SUBSIDIARIES), (.ref w_NABARD_ASSESSED_CRAR), (.ref w_CAPITAL_ADDED_SINCE_BALANCE_SHEET), .null, .null] .null := Arv.set Ar97 qk97 S97 N97' H97 G97 rfl W105 7 rfl (Nat.le_of_ble_eq_true rfl)
  have N105 := Fr.snoc X105 N85 g_b1
  have Z107 : n0 ≤ h105.size := Nat.le_trans Z87 (Keep.of_wr W105).1
  show Good p e below _ (T105.setTop (mkF m 55 #[.val (.int p0), .unset, .unset, .unset] [(.ref b1)]))
  refine Good.back (fun _ k => XS.dup X105.here hx rfl (hb hby at_55) rfl rfl k) ?_
  show Good p e below _ (T105.setTop (mkF m 56 #[.val (.int p0), .unset, .unset, .unset] [(.ref b1), (.ref b1)]))
  refine Good.back (fun _ k => XS.bipush X105.here hx rfl (hb hby at_56) k) ?_
  show Good p e below _ (T105.setTop (mkF m 58 #[.val (.int p0), .unset, .unset, .unset] [(.int (8 : Int32)), (.ref b1), (.ref b1)]))
  have f_108 : Sta Z h1 "com/example/poonji/poonji/BankFigures$Item" "CAPITAL_REDUCED_SINCE_BALANCE_SHEET" "Lcom/example/poonji/poonji/BankFigures$Item;" (.ref w_CAPITAL_REDUCED_SINCE_BALANCE_SHEET) := Sta.ext E1 S_w_CAPITAL_REDUCED_SINCE_BALANCE_SHEET
  have f_109 : Sta Z h7 "com/example/poonji/poonji/BankFigures$Item" "CAPITAL_REDUCED_SINCE_BALANCE_SHEET" "Lcom/example/poonji/poonji/BankFigures$Item;" (.ref w_CAPITAL_REDUCED_SINCE_BALANCE_SHEET) := Sta.wr W7 f_108
  have f_110 : Sta Z h15 "com/example/poonji/poonji/BankFigures$Item" "CAPITAL_REDUCED_SINCE_BALANCE_SHEET" "Lcom/example/poonji/poonji/BankFigures$Item;" (.ref w_CAPITAL_REDUCED_SINCE_BALANCE_SHEET) := Sta.wr W15 f_109
  have f_111 : Sta Z h25 "com/example/poonji/poonji/BankFigures$Item" "CAPITAL_REDUCED_SINCE_BALANCE_SHEET" "Lcom/example/poonji/poonji/BankFigures$Item;" (.ref w_CAPITAL_REDUCED_SINCE_BALANCE_SHEET) := Sta.wr W25 f_110
  have f_112 : Sta Z h37 "com/example/poonji/poonji/BankFigures$Item" "CAPITAL_REDUCED_SINCE_BALANCE_SHEET" "Lcom/example/poonji/poonji/BankFigures$Item;" (.ref w_CAPITAL_REDUCED_SINCE_BALANCE_SHEET) := Sta.wr W37 f_111
  have f_113 : Sta Z h51 "com/example/poonji/poonji/BankFigures$Item" "CAPITAL_REDUCED_SINCE_BALANCE_SHEET" "Lcom/example/poonji/poonji/BankFigures$Item;" (.ref w_CAPITAL_REDUCED_SINCE_BALANCE_SHEET) := Sta.wr W51 f_112
  have f_114 : Sta Z h67 "com/example/poonji/poonji/BankFigures$Item" "CAPITAL_REDUCED_SINCE_BALANCE_SHEET" "Lcom/example/poonji/poonji/BankFigures$Item;" (.ref w_CAPITAL_REDUCED_SINCE_BALANCE_SHEET) := Sta.wr W67 f_113
  have f_115 : Sta Z h85 "com/example/poonji/poonji/BankFigures$Item" "CAPITAL_REDUCED_SINCE_BALANCE_SHEET" "Lcom/example/poonji/poonji/BankFigures$Item;" (.ref w_CAPITAL_REDUCED_SINCE_BALANCE_SHEET) := Sta.wr W85 f_114
  have f_116 : Sta Z h105 "com/example/poonji/poonji/BankFigures$Item" "CAPITAL_REDUCED_SINCE_BALANCE_SHEET" "Lcom/example/poonji/poonji/BankFigures$Item;" (.ref w_CAPITAL_REDUCED_SINCE_BALANCE_SHEET) := Sta.wr W105 f_115
  obtain ⟨T117, X117, e117, st117⟩ := getS2 X105 hx hZ hown (host := "") (Or.inl (hw _ (List.mem_of_getElem? (i := 20) rfl))) Via.refl e105 f_116 (g := (mkF m 58 #[.val (.int p0), .unset, .unset, .unset] [(.int (8 : Int32)), (.ref b1), (.ref b1)])) rfl (hb hby at_58)
  refine Good.back st117 ?_
  show Good p e below _ (T117.setTop (mkF m 61 #[.val (.int p0), .unset, .unset, .unset] [(.ref w_CAPITAL_REDUCED_SINCE_BALANCE_SHEET), (.int (8 : Int32)), (.ref b1), (.ref b1)]))
  have fc118 := f_106
  obtain ⟨cl118, Ar118, qk118, S118, N118', H118, G118⟩ := fc118
  have hin118 : ¬ ((8 : Int32) < 0 ∨ cl118.slots.size ≤ ((8 : Int32)).toNatClampNeg) := inb_of S118 ⟨by decide, by decide⟩
  have f_118 : Exa Z h1 w_CAPITAL_REDUCED_SINCE_BALANCE_SHEET "com/example/poonji/poonji/BankFigures$Item" := Exa.ext E1 E_w_CAPITAL_REDUCED_SINCE_BALANCE_SHEET
  have f_119 : Exa Z h7 w_CAPITAL_REDUCED_SINCE_BALANCE_SHEET "com/example/poonji/poonji/BankFigures$Item" := Exa.wr W7 f_118
  have f_120 : Exa Z h15 w_CAPITAL_REDUCED_SINCE_BALANCE_SHEET "com/example/poonji/poonji/BankFigures$Item" := Exa.wr W15 f_119
  have f_121 : Exa Z h25 w_CAPITAL_REDUCED_SINCE_BALANCE_SHEET "com/example/poonji/poonji/BankFigures$Item" := Exa.wr W25 f_120
  have f_122 : Exa Z h37 w_CAPITAL_REDUCED_SINCE_BALANCE_SHEET "com/example/poonji/poonji/BankFigures$Item" := Exa.wr W37 f_121
  have f_123 : Exa Z h51 w_CAPITAL_REDUCED_SINCE_BALANCE_SHEET "com/example/poonji/poonji/BankFigures$Item" := Exa.wr W51 f_122
  have f_124 : Exa Z h67 w_CAPITAL_REDUCED_SINCE_BALANCE_SHEET "com/example/poonji/poonji/BankFigures$Item" := Exa.wr W67 f_123
  have f_125 : Exa Z h85 w_CAPITAL_REDUCED_SINCE_BALANCE_SHEET "com/example/poonji/poonji/BankFigures$Item" := Exa.wr W85 f_124
  have f_126 : Exa Z h105 w_CAPITAL_REDUCED_SINCE_BALANCE_SHEET "com/example/poonji/poonji/BankFigures$Item" := Exa.wr W105 f_125
  obtain ⟨T127, h127, X127, e127, W127, st127⟩ := stR X117 hx hZ e117 Ar118 (j := (8 : Int32)) hin118 rfl (Sto.ofV Ar118 qk118 O1 (Ins.self f_126)) (g := (mkF m 61 #[.val (.int p0), .unset, .unset, .unset] [(.ref w_CAPITAL_REDUCED_SINCE_BALANCE_SHEET), (.int (8 : Int32)), (.ref b1), (.ref b1)])) rfl rfl (hb hby at_61)
  refine Good.back st127 ?_
  have f_128 : Arv Z h127 b1 k1 (.object "com/example/poonji/poonji/BankFigures$Item") (10 : Int32) [(.ref w_CURRENT_YEAR_PROFIT), (.ref w_CURRENT_YEAR_LOSS), (.ref w_RISK_WEIGHTED_ASSETS), (.ref w_OTHER_TIER2_CAPITAL), (.ref w_TIER1_PREVIOUS_MARCH), (.ref w_EQUITY_INVESTMENT_IN_SUBSIDIARIES), (.ref w_NABARD_ASSESSED_CRAR), (.ref w_CAPITAL_ADDED_SINCE_BALANCE_SHEET), (.ref w_CAPITAL_REDUCED_SINCE_BALANCE_SHEET), .null] .null := Arv.set Ar118 qk118 S118 N118' H118 G118 rfl W127 8 rfl (Nat.le_of_ble_eq_true rfl)
  have N127 := Fr.snoc X127 N105 g_b1
  have Z129 : n0 ≤ h127.size := Nat.le_trans Z107 (Keep.of_wr W127).1
  show Good p e below _ (T127.setTop (mkF m 62 #[.val (.int p0), .unset, .unset, .unset] [(.ref b1)]))
  refine Good.back (fun _ k => XS.dup X127.here hx rfl (hb hby at_62) rfl rfl k) ?_
  show Good p e below _ (T127.setTop (mkF m 63 #[.val (.int p0), .unset, .unset, .unset] [(.ref b1), (.ref b1)]))
  refine Good.back (fun _ k => XS.bipush X127.here hx rfl (hb hby at_63) k) ?_
  show Good p e below _ (T127.setTop (mkF m 65 #[.val (.int p0), .unset, .unset, .unset] [(.int (9 : Int32)), (.ref b1), (.ref b1)]))
  have f_130 : Sta Z h1 "com/example/poonji/poonji/BankFigures$Item" "LOSSES_SINCE_BALANCE_SHEET" "Lcom/example/poonji/poonji/BankFigures$Item;" (.ref w_LOSSES_SINCE_BALANCE_SHEET) := Sta.ext E1 S_w_LOSSES_SINCE_BALANCE_SHEET
  have f_131 : Sta Z h7 "com/example/poonji/poonji/BankFigures$Item" "LOSSES_SINCE_BALANCE_SHEET" "Lcom/example/poonji/poonji/BankFigures$Item;" (.ref w_LOSSES_SINCE_BALANCE_SHEET) := Sta.wr W7 f_130
  have f_132 : Sta Z h15 "com/example/poonji/poonji/BankFigures$Item" "LOSSES_SINCE_BALANCE_SHEET" "Lcom/example/poonji/poonji/BankFigures$Item;" (.ref w_LOSSES_SINCE_BALANCE_SHEET) := Sta.wr W15 f_131
  have f_133 : Sta Z h25 "com/example/poonji/poonji/BankFigures$Item" "LOSSES_SINCE_BALANCE_SHEET" "Lcom/example/poonji/poonji/BankFigures$Item;" (.ref w_LOSSES_SINCE_BALANCE_SHEET) := Sta.wr W25 f_132
  have f_134 : Sta Z h37 "com/example/poonji/poonji/BankFigures$Item" "LOSSES_SINCE_BALANCE_SHEET" "Lcom/example/poonji/poonji/BankFigures$Item;" (.ref w_LOSSES_SINCE_BALANCE_SHEET) := Sta.wr W37 f_133
  have f_135 : Sta Z h51 "com/example/poonji/poonji/BankFigures$Item" "LOSSES_SINCE_BALANCE_SHEET" "Lcom/example/poonji/poonji/BankFigures$Item;" (.ref w_LOSSES_SINCE_BALANCE_SHEET) := Sta.wr W51 f_134
  have f_136 : Sta Z h67 "com/example/poonji/poonji/BankFigures$Item" "LOSSES_SINCE_BALANCE_SHEET" "Lcom/example/poonji/poonji/BankFigures$Item;" (.ref w_LOSSES_SINCE_BALANCE_SHEET) := Sta.wr W67 f_135
  have f_137 : Sta Z h85 "com/example/poonji/poonji/BankFigures$Item" "LOSSES_SINCE_BALANCE_SHEET" "Lcom/example/poonji/poonji/BankFigures$Item;" (.ref w_LOSSES_SINCE_BALANCE_SHEET) := Sta.wr W85 f_136
  have f_138 : Sta Z h105 "com/example/poonji/poonji/BankFigures$Item" "LOSSES_SINCE_BALANCE_SHEET" "Lcom/example/poonji/poonji/BankFigures$Item;" (.ref w_LOSSES_SINCE_BALANCE_SHEET) := Sta.wr W105 f_137
  have f_139 : Sta Z h127 "com/example/poonji/poonji/BankFigures$Item" "LOSSES_SINCE_BALANCE_SHEET" "Lcom/example/poonji/poonji/BankFigures$Item;" (.ref w_LOSSES_SINCE_BALANCE_SHEET) := Sta.wr W127 f_138
  obtain ⟨T140, X140, e140, st140⟩ := getS2 X127 hx hZ hown (host := "") (Or.inl (hw _ (List.mem_of_getElem? (i := 22) rfl))) Via.refl e127 f_139 (g := (mkF m 65 #[.val (.int p0), .unset, .unset, .unset] [(.int (9 : Int32)), (.ref b1), (.ref b1)])) rfl (hb hby at_65)
  refine Good.back st140 ?_
  show Good p e below _ (T140.setTop (mkF m 68 #[.val (.int p0), .unset, .unset, .unset] [(.ref w_LOSSES_SINCE_BALANCE_SHEET), (.int (9 : Int32)), (.ref b1), (.ref b1)]))
  have fc141 := f_128
  obtain ⟨cl141, Ar141, qk141, S141, N141', H141, G141⟩ := fc141
  have hin141 : ¬ ((9 : Int32) < 0 ∨ cl141.slots.size ≤ ((9 : Int32)).toNatClampNeg) := inb_of S141 ⟨by decide, by decide⟩
  have f_141 : Exa Z h1 w_LOSSES_SINCE_BALANCE_SHEET "com/example/poonji/poonji/BankFigures$Item" := Exa.ext E1 E_w_LOSSES_SINCE_BALANCE_SHEET
  have f_142 : Exa Z h7 w_LOSSES_SINCE_BALANCE_SHEET "com/example/poonji/poonji/BankFigures$Item" := Exa.wr W7 f_141
  have f_143 : Exa Z h15 w_LOSSES_SINCE_BALANCE_SHEET "com/example/poonji/poonji/BankFigures$Item" := Exa.wr W15 f_142
  have f_144 : Exa Z h25 w_LOSSES_SINCE_BALANCE_SHEET "com/example/poonji/poonji/BankFigures$Item" := Exa.wr W25 f_143
  have f_145 : Exa Z h37 w_LOSSES_SINCE_BALANCE_SHEET "com/example/poonji/poonji/BankFigures$Item" := Exa.wr W37 f_144
  have f_146 : Exa Z h51 w_LOSSES_SINCE_BALANCE_SHEET "com/example/poonji/poonji/BankFigures$Item" := Exa.wr W51 f_145
  have f_147 : Exa Z h67 w_LOSSES_SINCE_BALANCE_SHEET "com/example/poonji/poonji/BankFigures$Item" := Exa.wr W67 f_146
  have f_148 : Exa Z h85 w_LOSSES_SINCE_BALANCE_SHEET "com/example/poonji/poonji/BankFigures$Item" := Exa.wr W85 f_147
  have f_149 : Exa Z h105 w_LOSSES_SINCE_BALANCE_SHEET "com/example/poonji/poonji/BankFigures$Item" := Exa.wr W105 f_148
  have f_150 : Exa Z h127 w_LOSSES_SINCE_BALANCE_SHEET "com/example/poonji/poonji/BankFigures$Item" := Exa.wr W127 f_149
  obtain ⟨T151, h151, X151, e151, W151, st151⟩ := stR X140 hx hZ e140 Ar141 (j := (9 : Int32)) hin141 rfl (Sto.ofV Ar141 qk141 O1 (Ins.self f_150)) (g := (mkF m 68 #[.val (.int p0), .unset, .unset, .unset] [(.ref w_LOSSES_SINCE_BALANCE_SHEET), (.int (9 : Int32)), (.ref b1), (.ref b1)])) rfl rfl (hb hby at_68)
  refine Good.back st151 ?_
  have f_152 : Arv Z h151 b1 k1 (.object "com/example/poonji/poonji/BankFigures$Item") (10 : Int32) [(.ref w_CURRENT_YEAR_PROFIT), (.ref w_CURRENT_YEAR_LOSS), (.ref w_RISK_WEIGHTED_ASSETS), (.ref w_OTHER_TIER2_CAPITAL), (.ref w_TIER1_PREVIOUS_MARCH), (.ref w_EQUITY_INVESTMENT_IN_SUBSIDIARIES), (.ref w_NABARD_ASSESSED_CRAR), (.ref w_CAPITAL_ADDED_SINCE_BALANCE_SHEET), (.ref w_CAPITAL_REDUCED_SINCE_BALANCE_SHEET), (.ref w_LOSSES_SINCE_BALANCE_SHEET)] .null := Arv.set Ar141 qk141 S141 N141' H141 G141 rfl W151 9 rfl (Nat.le_of_ble_eq_true rfl)
  have N151 := Fr.snoc X151 N127 g_b1
  have Z153 : n0 ≤ h151.size := Nat.le_trans Z129 (Keep.of_wr W151).1
  show Good p e below _ (T151.setTop (mkF m 69 #[.val (.int p0), .unset, .unset, .unset] [(.ref b1)]))
  refine Good.back (fun _ k => XS.astoreN X151.here hx rfl (hb hby at_69) rfl rfl (l' := #[.val (.int p0), .val (.ref b1), .unset, .unset]) rfl k) ?_
  show Good p e below _ (T151.setTop (mkF m 70 #[.val (.int p0), .val (.ref b1), .unset, .unset] []))
  refine Good.back (fun _ k => XS.iloadN X151.here hx rfl (hb hby at_70) rfl k) ?_
  show Good p e below _ (T151.setTop (mkF m 71 #[.val (.int p0), .val (.ref b1), .unset, .unset] [(.int p0)]))
  refine Good.back (X151.ldcInt hx hown (mvT hZ (hw _ (List.mem_of_getElem? (i := 24) rfl))) (g := (mkF m 71 #[.val (.int p0), .val (.ref b1), .unset, .unset] [(.int p0)])) rfl (hb hby at_71)) ?_
  show Good p e below _ (T151.setTop (mkF m 73 #[.val (.int p0), .val (.ref b1), .unset, .unset] [(.int (2147483647 : Int32)), (.int p0)]))
  refine Good.back (fun _ k => XS.iand X151.here hx rfl (hb hby at_73) rfl k) ?_
  show Good p e below _ (T151.setTop (mkF m 74 #[.val (.int p0), .val (.ref b1), .unset, .unset] [(.int (p0 &&& (2147483647 : Int32)))]))
  refine Good.back (fun _ k => XS.bipush X151.here hx rfl (hb hby at_74) k) ?_
  show Good p e below _ (T151.setTop (mkF m 76 #[.val (.int p0), .val (.ref b1), .unset, .unset] [(.int (10 : Int32)), (.int (p0 &&& (2147483647 : Int32)))]))
  refine Good.back (fun _ k => iremM (g := (mkF m 76 #[.val (.int p0), .val (.ref b1), .unset, .unset] [(.int (10 : Int32)), (.int (p0 &&& (2147483647 : Int32)))])) X151 hx rfl (hb hby at_76) rfl (by decide) k) ?_
  show Good p e below _ (T151.setTop (mkF m 77 #[.val (.int p0), .val (.ref b1), .unset, .unset] [(.int ((p0 &&& (2147483647 : Int32)) % (10 : Int32)))]))
  refine Good.back (fun _ k => XS.istoreN X151.here hx rfl (hb hby at_77) rfl (l' := #[.val (.int p0), .val (.ref b1), .val (.int ((p0 &&& (2147483647 : Int32)) % (10 : Int32))), .unset]) rfl k) ?_
  show Good p e below _ (T151.setTop (mkF m 78 #[.val (.int p0), .val (.ref b1), .val (.int ((p0 &&& (2147483647 : Int32)) % (10 : Int32))), .unset] []))
  obtain ⟨k154, hk154, he154⟩ := own_modm (x := p0) (y := 10) (d := 10) (n := 10) (by decide) (by decide) (by decide)
  rcases (by omega : k154 = 0 ∨ k154 = 1 ∨ k154 = 2 ∨ k154 = 3 ∨ k154 = 4 ∨ k154 = 5 ∨ k154 = 6 ∨ k154 = 7 ∨ k154 = 8 ∨ k154 = 9) with rfl | rfl | rfl | rfl | rfl | rfl | rfl | rfl | rfl | rfl
  · have he154' : ((p0 &&& (2147483647 : Int32)) % (10 : Int32)) = (0 : Int32) := he154
    rw [he154']
    show Good p e below _ (T151.setTop (mkF m 78 #[.val (.int p0), .val (.ref b1), .val (.int (0 : Int32)), .unset] []))
    refine Good.back (fun _ k => XS.iloadN X151.here hx rfl (hb hby at_78) rfl k) ?_
    show Good p e below _ (T151.setTop (mkF m 79 #[.val (.int p0), .val (.ref b1), .val (.int (0 : Int32)), .unset] [(.int (0 : Int32))]))
    refine Good.back (fun _ k => XS.bipush X151.here hx rfl (hb hby at_79) k) ?_
    show Good p e below _ (T151.setTop (mkF m 81 #[.val (.int p0), .val (.ref b1), .val (.int (0 : Int32)), .unset] [(.int (6 : Int32)), (.int (0 : Int32))]))
    refine Good.back (fun _ k => XS.icmpYes X151.here hx rfl (pc0 := 81) (pc' := 88) rfl (hb hby at_81) rfl (feq (by decide : ¬ ((0 : Int32) = (6 : Int32)))).2 (by decide) (by decide) k) ?_
    show Good p e below _ (T151.setTop (mkF m 88 #[.val (.int p0), .val (.ref b1), .val (.int (0 : Int32)), .unset] []))
    refine Good.back (fun _ k => XS.iconst X151.here hx rfl (hb hby at_88) k) ?_
    show Good p e below _ (T151.setTop (mkF m 89 #[.val (.int p0), .val (.ref b1), .val (.int (0 : Int32)), .unset] [(.int (0 : Int32))]))
    refine Good.back (fun _ k => XS.istoreN X151.here hx rfl (hb hby at_89) rfl (l' := #[.val (.int p0), .val (.ref b1), .val (.int (0 : Int32)), .val (.int (0 : Int32))]) rfl k) ?_
    show Good p e below _ (T151.setTop (mkF m 90 #[.val (.int p0), .val (.ref b1), .val (.int (0 : Int32)), .val (.int (0 : Int32))] []))
    refine Good.back (fun _ k => XS.aloadN X151.here hx rfl (hb hby at_90) rfl rfl k) ?_
    show Good p e below _ (T151.setTop (mkF m 91 #[.val (.int p0), .val (.ref b1), .val (.int (0 : Int32)), .val (.int (0 : Int32))] [(.ref b1)]))
    refine Good.back (fun _ k => XS.iloadN X151.here hx rfl (hb hby at_91) rfl k) ?_
    show Good p e below _ (T151.setTop (mkF m 92 #[.val (.int p0), .val (.ref b1), .val (.int (0 : Int32)), .val (.int (0 : Int32))] [(.int (0 : Int32)), (.ref b1)]))
    have fc155 := f_152
    obtain ⟨cl155, Ar155, qk155, S155, N155', H155, G155⟩ := fc155
    have hin155 : ¬ ((0 : Int32) < 0 ∨ cl155.slots.size ≤ ((0 : Int32)).toNatClampNeg) := inb_of S155 ⟨by decide, by decide⟩
    have hat155 : cl155.slots[((0 : Int32)).toNatClampNeg]? = some (.ref w_CURRENT_YEAR_PROFIT) := Has.at H155 hin155 rfl
    refine Good.back (X151.aaload hx (j := (0 : Int32)) (v := (.ref w_CURRENT_YEAR_PROFIT)) (by rw [e151]; exact Ar155.1) (State.isArrayOf_alike hZ.alike Ar155.2.1) rfl Ar155.2.2 hin155 hat155 (g := (mkF m 92 #[.val (.int p0), .val (.ref b1), .val (.int (0 : Int32)), .val (.int (0 : Int32))] [(.int (0 : Int32)), (.ref b1)])) rfl rfl (hb hby at_92)) ?_
    show Good p e below _ (T151.setTop (mkF m 93 #[.val (.int p0), .val (.ref b1), .val (.int (0 : Int32)), .val (.int (0 : Int32))] [(.ref w_CURRENT_YEAR_PROFIT)]))
    have f_157 : Sta Z h1 "com/example/poonji/poonji/BankFigures$Sign" "ANY" "Lcom/example/poonji/poonji/BankFigures$Sign;" (.ref w_ANY) := Sta.ext E1 S_w_ANY
    have f_158 : Sta Z h7 "com/example/poonji/poonji/BankFigures$Sign" "ANY" "Lcom/example/poonji/poonji/BankFigures$Sign;" (.ref w_ANY) := Sta.wr W7 f_157
    have f_159 : Sta Z h15 "com/example/poonji/poonji/BankFigures$Sign" "ANY" "Lcom/example/poonji/poonji/BankFigures$Sign;" (.ref w_ANY) := Sta.wr W15 f_158
    have f_160 : Sta Z h25 "com/example/poonji/poonji/BankFigures$Sign" "ANY" "Lcom/example/poonji/poonji/BankFigures$Sign;" (.ref w_ANY) := Sta.wr W25 f_159
    have f_161 : Sta Z h37 "com/example/poonji/poonji/BankFigures$Sign" "ANY" "Lcom/example/poonji/poonji/BankFigures$Sign;" (.ref w_ANY) := Sta.wr W37 f_160
    have f_162 : Sta Z h51 "com/example/poonji/poonji/BankFigures$Sign" "ANY" "Lcom/example/poonji/poonji/BankFigures$Sign;" (.ref w_ANY) := Sta.wr W51 f_161
    have f_163 : Sta Z h67 "com/example/poonji/poonji/BankFigures$Sign" "ANY" "Lcom/example/poonji/poonji/BankFigures$Sign;" (.ref w_ANY) := Sta.wr W67 f_162
    have f_164 : Sta Z h85 "com/example/poonji/poonji/BankFigures$Sign" "ANY" "Lcom/example/poonji/poonji/BankFigures$Sign;" (.ref w_ANY) := Sta.wr W85 f_163
    have f_165 : Sta Z h105 "com/example/poonji/poonji/BankFigures$Sign" "ANY" "Lcom/example/poonji/poonji/BankFigures$Sign;" (.ref w_ANY) := Sta.wr W105 f_164
    have f_166 : Sta Z h127 "com/example/poonji/poonji/BankFigures$Sign" "ANY" "Lcom/example/poonji/poonji/BankFigures$Sign;" (.ref w_ANY) := Sta.wr W127 f_165
    have f_167 : Sta Z h151 "com/example/poonji/poonji/BankFigures$Sign" "ANY" "Lcom/example/poonji/poonji/BankFigures$Sign;" (.ref w_ANY) := Sta.wr W151 f_166
    have f_168 : Fld Z h1 w_CURRENT_YEAR_PROFIT "com/example/poonji/poonji/BankFigures$Item" "sign" "Lcom/example/poonji/poonji/BankFigures$Sign;" (.ref w_NOT_NEGATIVE) := Fld.ext E1 F_sign_w_CURRENT_YEAR_PROFIT
    have ne_w_CURRENT_YEAR_PROFIT_b1_170 : w_CURRENT_YEAR_PROFIT ≠ b1 := Nat.ne_of_lt (Nat.lt_of_lt_of_le F_sign_w_CURRENT_YEAR_PROFIT.lt (Nat.le_of_eq g1.symm))
    have f_169 : Fld Z h7 w_CURRENT_YEAR_PROFIT "com/example/poonji/poonji/BankFigures$Item" "sign" "Lcom/example/poonji/poonji/BankFigures$Sign;" (.ref w_NOT_NEGATIVE) := Fld.other W7 f_168 (Or.inl ne_w_CURRENT_YEAR_PROFIT_b1_170)
    have f_171 : Fld Z h15 w_CURRENT_YEAR_PROFIT "com/example/poonji/poonji/BankFigures$Item" "sign" "Lcom/example/poonji/poonji/BankFigures$Sign;" (.ref w_NOT_NEGATIVE) := Fld.other W15 f_169 (Or.inl ne_w_CURRENT_YEAR_PROFIT_b1_170)
    have f_172 : Fld Z h25 w_CURRENT_YEAR_PROFIT "com/example/poonji/poonji/BankFigures$Item" "sign" "Lcom/example/poonji/poonji/BankFigures$Sign;" (.ref w_NOT_NEGATIVE) := Fld.other W25 f_171 (Or.inl ne_w_CURRENT_YEAR_PROFIT_b1_170)
    have f_173 : Fld Z h37 w_CURRENT_YEAR_PROFIT "com/example/poonji/poonji/BankFigures$Item" "sign" "Lcom/example/poonji/poonji/BankFigures$Sign;" (.ref w_NOT_NEGATIVE) := Fld.other W37 f_172 (Or.inl ne_w_CURRENT_YEAR_PROFIT_b1_170)
    have f_174 : Fld Z h51 w_CURRENT_YEAR_PROFIT "com/example/poonji/poonji/BankFigures$Item" "sign" "Lcom/example/poonji/poonji/BankFigures$Sign;" (.ref w_NOT_NEGATIVE) := Fld.other W51 f_173 (Or.inl ne_w_CURRENT_YEAR_PROFIT_b1_170)
    have f_175 : Fld Z h67 w_CURRENT_YEAR_PROFIT "com/example/poonji/poonji/BankFigures$Item" "sign" "Lcom/example/poonji/poonji/BankFigures$Sign;" (.ref w_NOT_NEGATIVE) := Fld.other W67 f_174 (Or.inl ne_w_CURRENT_YEAR_PROFIT_b1_170)
    have f_176 : Fld Z h85 w_CURRENT_YEAR_PROFIT "com/example/poonji/poonji/BankFigures$Item" "sign" "Lcom/example/poonji/poonji/BankFigures$Sign;" (.ref w_NOT_NEGATIVE) := Fld.other W85 f_175 (Or.inl ne_w_CURRENT_YEAR_PROFIT_b1_170)
    have f_177 : Fld Z h105 w_CURRENT_YEAR_PROFIT "com/example/poonji/poonji/BankFigures$Item" "sign" "Lcom/example/poonji/poonji/BankFigures$Sign;" (.ref w_NOT_NEGATIVE) := Fld.other W105 f_176 (Or.inl ne_w_CURRENT_YEAR_PROFIT_b1_170)
    have f_178 : Fld Z h127 w_CURRENT_YEAR_PROFIT "com/example/poonji/poonji/BankFigures$Item" "sign" "Lcom/example/poonji/poonji/BankFigures$Sign;" (.ref w_NOT_NEGATIVE) := Fld.other W127 f_177 (Or.inl ne_w_CURRENT_YEAR_PROFIT_b1_170)
    have f_179 : Fld Z h151 w_CURRENT_YEAR_PROFIT "com/example/poonji/poonji/BankFigures$Item" "sign" "Lcom/example/poonji/poonji/BankFigures$Sign;" (.ref w_NOT_NEGATIVE) := Fld.other W151 f_178 (Or.inl ne_w_CURRENT_YEAR_PROFIT_b1_170)
    have f_180 : Exa Z h7 w_CURRENT_YEAR_PROFIT "com/example/poonji/poonji/BankFigures$Item" := Exa.wr W7 f_6
    have f_181 : Exa Z h15 w_CURRENT_YEAR_PROFIT "com/example/poonji/poonji/BankFigures$Item" := Exa.wr W15 f_180
    have f_182 : Exa Z h25 w_CURRENT_YEAR_PROFIT "com/example/poonji/poonji/BankFigures$Item" := Exa.wr W25 f_181
    have f_183 : Exa Z h37 w_CURRENT_YEAR_PROFIT "com/example/poonji/poonji/BankFigures$Item" := Exa.wr W37 f_182
    have f_184 : Exa Z h51 w_CURRENT_YEAR_PROFIT "com/example/poonji/poonji/BankFigures$Item" := Exa.wr W51 f_183
    have f_185 : Exa Z h67 w_CURRENT_YEAR_PROFIT "com/example/poonji/poonji/BankFigures$Item" := Exa.wr W67 f_184
    have f_186 : Exa Z h85 w_CURRENT_YEAR_PROFIT "com/example/poonji/poonji/BankFigures$Item" := Exa.wr W85 f_185
    have f_187 : Exa Z h105 w_CURRENT_YEAR_PROFIT "com/example/poonji/poonji/BankFigures$Item" := Exa.wr W105 f_186
    have f_188 : Exa Z h127 w_CURRENT_YEAR_PROFIT "com/example/poonji/poonji/BankFigures$Item" := Exa.wr W127 f_187
    have f_189 : Exa Z h151 w_CURRENT_YEAR_PROFIT "com/example/poonji/poonji/BankFigures$Item" := Exa.wr W151 f_188
    obtain ⟨cq156, kq156, q156a, q156b, q156c⟩ := isOf hZ e151 f_189
    obtain ⟨_, _, ⟨T156, L156, k156, n156⟩, -, X156, ⟨Lc156, hQ156, l156, y156, z156⟩, st156⟩ := X151.virtualBack hx (y := (⟨"com/example/poonji/poonji/BankFigures$Item", "signed", "()Z"⟩ : MethodName)) (z := (⟨"com/example/poonji/poonji/BankFigures$Item", "signed", "()Z"⟩ : MethodName)) hown (mvT hZ (hw _ (List.mem_of_getElem? (i := 25) rfl))) (mvT hZ (hw _ (List.mem_of_getElem? (i := 26) rfl))) (notFace_of_selects (args := #[]) (mvT hZ (hw _ (List.mem_of_getElem? (i := 28) rfl)))) (mvT hZ (hw _ (List.mem_of_getElem? (i := 28) rfl))) (mvT hZ (hw _ (List.mem_of_getElem? (i := 27) rfl))) (by decide) (backOf (W := 0) (rm1n l Z a0 hw [] w_CURRENT_YEAR_PROFIT w_ANY w_NOT_NEGATIVE h151 n0 Z153 f_167 f_179 ne_w_NOT_NEGATIVE_w_ANY) hZ (hw _ (List.mem_of_getElem? (i := 29) rfl)) (hw _ (List.mem_of_getElem? (i := 3) rfl)) (by decide) (by decide)) q156a q156c (g := (mkF m 93 #[.val (.int p0), .val (.ref b1), .val (.int (0 : Int32)), .val (.int (0 : Int32))] [(.ref w_CURRENT_YEAR_PROFIT)])) rfl (by rw [hml]; rfl) (Steps.refl _) (argsL := []) (rest := []) (lenOf own_pd8 rfl) rfl (by show 2 * 0 + _ ≤ _; exact Nat.le_of_eq rfl) (hb hby at_93) (fun _ _ => ⟨rfl, e151, (by decide : 1 + 0 ≤ _), (by decide : 10 + 0 ≤ _)⟩)
    dsimp only [Pt.U, Pt.locs, Pt.cells, Pt.slots] at X156 l156 y156 z156 st156 hQ156
    subst l156 y156 z156
    obtain ⟨rfl, N156q, eh156⟩ := hQ156
    have N156 := Fr.app N151 N156q
    refine Good.back (fun _ k => st156.trans k) ?_
    show Good p e below _ (T156.setTop (mkF m 96 #[.val (.int p0), .val (.ref b1), .val (.int (0 : Int32)), .val (.int (0 : Int32))] [(.int (0 : Int32))]))
    refine Good.back (fun _ k => XS.iloadN X156.here hx rfl (hb hby at_96) rfl k) ?_
    show Good p e below _ (T156.setTop (mkF m 97 #[.val (.int p0), .val (.ref b1), .val (.int (0 : Int32)), .val (.int (0 : Int32))] [(.int (0 : Int32)), (.int (0 : Int32))]))
    refine Good.back (fun _ k => XS.icmpNo X156.here hx rfl (hb hby at_97) rfl (teq (by decide : ((0 : Int32) = (0 : Int32)))).2 k) ?_
    show Good p e below _ (T156.setTop (mkF m 100 #[.val (.int p0), .val (.ref b1), .val (.int (0 : Int32)), .val (.int (0 : Int32))] []))
    refine Good.back (fun _ k => XS.iconst X156.here hx rfl (hb hby at_100) k) ?_
    show Good p e below _ (T156.setTop (mkF m 101 #[.val (.int p0), .val (.ref b1), .val (.int (0 : Int32)), .val (.int (0 : Int32))] [(.int (1 : Int32))]))
    refine Good.back (fun _ k => XS.goto X156.here hx rfl (pc0 := 101) (pc' := 105) rfl (hb hby at_101) (by decide) (by decide) k) ?_
    show Good p e below _ (T156.setTop (mkF m 105 #[.val (.int p0), .val (.ref b1), .val (.int (0 : Int32)), .val (.int (0 : Int32))] [(.int (1 : Int32))]))
    obtain ⟨fs190, hr190, hrun190, hended190, hW190, hsame190⟩ := X156.leave (v := some (.int (1 : Int32))) (fun h => by rw [Bd.returns] at h; cases h)
    refine Good.done (retN X156 hx (t := .boolean) Bd.returns (by simp) (hb hby at_105) hr190) hrun190 hended190 ⟨_, _, rfl, ?_, ⟨_, rfl⟩, hW190, hsame190.mono (by decide) (by decide)⟩
    show Q0 Z p0 w_CURRENT_YEAR_PROFIT w_CURRENT_YEAR_LOSS w_RISK_WEIGHTED_ASSETS w_OTHER_TIER2_CAPITAL w_TIER1_PREVIOUS_MARCH w_EQUITY_INVESTMENT_IN_SUBSIDIARIES w_NABARD_ASSESSED_CRAR w_CAPITAL_ADDED_SINCE_BALANCE_SHEET w_CAPITAL_REDUCED_SINCE_BALANCE_SHEET w_LOSSES_SINCE_BALANCE_SHEET w_NOT_NEGATIVE w_ANY h0 n0 _ T156.heap _
    rw [eh156]
    exact ⟨rfl, N156⟩
  · have he154' : ((p0 &&& (2147483647 : Int32)) % (10 : Int32)) = (1 : Int32) := he154
    rw [he154']
    show Good p e below _ (T151.setTop (mkF m 78 #[.val (.int p0), .val (.ref b1), .val (.int (1 : Int32)), .unset] []))
    refine Good.back (fun _ k => XS.iloadN X151.here hx rfl (hb hby at_78) rfl k) ?_
    show Good p e below _ (T151.setTop (mkF m 79 #[.val (.int p0), .val (.ref b1), .val (.int (1 : Int32)), .unset] [(.int (1 : Int32))]))
    refine Good.back (fun _ k => XS.bipush X151.here hx rfl (hb hby at_79) k) ?_
    show Good p e below _ (T151.setTop (mkF m 81 #[.val (.int p0), .val (.ref b1), .val (.int (1 : Int32)), .unset] [(.int (6 : Int32)), (.int (1 : Int32))]))
    refine Good.back (fun _ k => XS.icmpYes X151.here hx rfl (pc0 := 81) (pc' := 88) rfl (hb hby at_81) rfl (feq (by decide : ¬ ((1 : Int32) = (6 : Int32)))).2 (by decide) (by decide) k) ?_
    show Good p e below _ (T151.setTop (mkF m 88 #[.val (.int p0), .val (.ref b1), .val (.int (1 : Int32)), .unset] []))
    refine Good.back (fun _ k => XS.iconst X151.here hx rfl (hb hby at_88) k) ?_
    show Good p e below _ (T151.setTop (mkF m 89 #[.val (.int p0), .val (.ref b1), .val (.int (1 : Int32)), .unset] [(.int (0 : Int32))]))
    refine Good.back (fun _ k => XS.istoreN X151.here hx rfl (hb hby at_89) rfl (l' := #[.val (.int p0), .val (.ref b1), .val (.int (1 : Int32)), .val (.int (0 : Int32))]) rfl k) ?_
    show Good p e below _ (T151.setTop (mkF m 90 #[.val (.int p0), .val (.ref b1), .val (.int (1 : Int32)), .val (.int (0 : Int32))] []))
    refine Good.back (fun _ k => XS.aloadN X151.here hx rfl (hb hby at_90) rfl rfl k) ?_
    show Good p e below _ (T151.setTop (mkF m 91 #[.val (.int p0), .val (.ref b1), .val (.int (1 : Int32)), .val (.int (0 : Int32))] [(.ref b1)]))
    refine Good.back (fun _ k => XS.iloadN X151.here hx rfl (hb hby at_91) rfl k) ?_
    show Good p e below _ (T151.setTop (mkF m 92 #[.val (.int p0), .val (.ref b1), .val (.int (1 : Int32)), .val (.int (0 : Int32))] [(.int (1 : Int32)), (.ref b1)]))
    have fc191 := f_152
    obtain ⟨cl191, Ar191, qk191, S191, N191', H191, G191⟩ := fc191
    have hin191 : ¬ ((1 : Int32) < 0 ∨ cl191.slots.size ≤ ((1 : Int32)).toNatClampNeg) := inb_of S191 ⟨by decide, by decide⟩
    have hat191 : cl191.slots[((1 : Int32)).toNatClampNeg]? = some (.ref w_CURRENT_YEAR_LOSS) := Has.at H191 hin191 rfl
    refine Good.back (X151.aaload hx (j := (1 : Int32)) (v := (.ref w_CURRENT_YEAR_LOSS)) (by rw [e151]; exact Ar191.1) (State.isArrayOf_alike hZ.alike Ar191.2.1) rfl Ar191.2.2 hin191 hat191 (g := (mkF m 92 #[.val (.int p0), .val (.ref b1), .val (.int (1 : Int32)), .val (.int (0 : Int32))] [(.int (1 : Int32)), (.ref b1)])) rfl rfl (hb hby at_92)) ?_
    show Good p e below _ (T151.setTop (mkF m 93 #[.val (.int p0), .val (.ref b1), .val (.int (1 : Int32)), .val (.int (0 : Int32))] [(.ref w_CURRENT_YEAR_LOSS)]))
    have f_193 : Sta Z h1 "com/example/poonji/poonji/BankFigures$Sign" "ANY" "Lcom/example/poonji/poonji/BankFigures$Sign;" (.ref w_ANY) := Sta.ext E1 S_w_ANY
    have f_194 : Sta Z h7 "com/example/poonji/poonji/BankFigures$Sign" "ANY" "Lcom/example/poonji/poonji/BankFigures$Sign;" (.ref w_ANY) := Sta.wr W7 f_193
    have f_195 : Sta Z h15 "com/example/poonji/poonji/BankFigures$Sign" "ANY" "Lcom/example/poonji/poonji/BankFigures$Sign;" (.ref w_ANY) := Sta.wr W15 f_194
    have f_196 : Sta Z h25 "com/example/poonji/poonji/BankFigures$Sign" "ANY" "Lcom/example/poonji/poonji/BankFigures$Sign;" (.ref w_ANY) := Sta.wr W25 f_195
    have f_197 : Sta Z h37 "com/example/poonji/poonji/BankFigures$Sign" "ANY" "Lcom/example/poonji/poonji/BankFigures$Sign;" (.ref w_ANY) := Sta.wr W37 f_196
    have f_198 : Sta Z h51 "com/example/poonji/poonji/BankFigures$Sign" "ANY" "Lcom/example/poonji/poonji/BankFigures$Sign;" (.ref w_ANY) := Sta.wr W51 f_197
    have f_199 : Sta Z h67 "com/example/poonji/poonji/BankFigures$Sign" "ANY" "Lcom/example/poonji/poonji/BankFigures$Sign;" (.ref w_ANY) := Sta.wr W67 f_198
    have f_200 : Sta Z h85 "com/example/poonji/poonji/BankFigures$Sign" "ANY" "Lcom/example/poonji/poonji/BankFigures$Sign;" (.ref w_ANY) := Sta.wr W85 f_199
    have f_201 : Sta Z h105 "com/example/poonji/poonji/BankFigures$Sign" "ANY" "Lcom/example/poonji/poonji/BankFigures$Sign;" (.ref w_ANY) := Sta.wr W105 f_200
    have f_202 : Sta Z h127 "com/example/poonji/poonji/BankFigures$Sign" "ANY" "Lcom/example/poonji/poonji/BankFigures$Sign;" (.ref w_ANY) := Sta.wr W127 f_201
    have f_203 : Sta Z h151 "com/example/poonji/poonji/BankFigures$Sign" "ANY" "Lcom/example/poonji/poonji/BankFigures$Sign;" (.ref w_ANY) := Sta.wr W151 f_202
    have f_204 : Fld Z h1 w_CURRENT_YEAR_LOSS "com/example/poonji/poonji/BankFigures$Item" "sign" "Lcom/example/poonji/poonji/BankFigures$Sign;" (.ref w_NOT_NEGATIVE) := Fld.ext E1 F_sign_w_CURRENT_YEAR_LOSS
    have ne_w_CURRENT_YEAR_LOSS_b1_206 : w_CURRENT_YEAR_LOSS ≠ b1 := Nat.ne_of_lt (Nat.lt_of_lt_of_le F_sign_w_CURRENT_YEAR_LOSS.lt (Nat.le_of_eq g1.symm))
    have f_205 : Fld Z h7 w_CURRENT_YEAR_LOSS "com/example/poonji/poonji/BankFigures$Item" "sign" "Lcom/example/poonji/poonji/BankFigures$Sign;" (.ref w_NOT_NEGATIVE) := Fld.other W7 f_204 (Or.inl ne_w_CURRENT_YEAR_LOSS_b1_206)
    have f_207 : Fld Z h15 w_CURRENT_YEAR_LOSS "com/example/poonji/poonji/BankFigures$Item" "sign" "Lcom/example/poonji/poonji/BankFigures$Sign;" (.ref w_NOT_NEGATIVE) := Fld.other W15 f_205 (Or.inl ne_w_CURRENT_YEAR_LOSS_b1_206)
    have f_208 : Fld Z h25 w_CURRENT_YEAR_LOSS "com/example/poonji/poonji/BankFigures$Item" "sign" "Lcom/example/poonji/poonji/BankFigures$Sign;" (.ref w_NOT_NEGATIVE) := Fld.other W25 f_207 (Or.inl ne_w_CURRENT_YEAR_LOSS_b1_206)
    have f_209 : Fld Z h37 w_CURRENT_YEAR_LOSS "com/example/poonji/poonji/BankFigures$Item" "sign" "Lcom/example/poonji/poonji/BankFigures$Sign;" (.ref w_NOT_NEGATIVE) := Fld.other W37 f_208 (Or.inl ne_w_CURRENT_YEAR_LOSS_b1_206)
    have f_210 : Fld Z h51 w_CURRENT_YEAR_LOSS "com/example/poonji/poonji/BankFigures$Item" "sign" "Lcom/example/poonji/poonji/BankFigures$Sign;" (.ref w_NOT_NEGATIVE) := Fld.other W51 f_209 (Or.inl ne_w_CURRENT_YEAR_LOSS_b1_206)
    have f_211 : Fld Z h67 w_CURRENT_YEAR_LOSS "com/example/poonji/poonji/BankFigures$Item" "sign" "Lcom/example/poonji/poonji/BankFigures$Sign;" (.ref w_NOT_NEGATIVE) := Fld.other W67 f_210 (Or.inl ne_w_CURRENT_YEAR_LOSS_b1_206)
    have f_212 : Fld Z h85 w_CURRENT_YEAR_LOSS "com/example/poonji/poonji/BankFigures$Item" "sign" "Lcom/example/poonji/poonji/BankFigures$Sign;" (.ref w_NOT_NEGATIVE) := Fld.other W85 f_211 (Or.inl ne_w_CURRENT_YEAR_LOSS_b1_206)
    have f_213 : Fld Z h105 w_CURRENT_YEAR_LOSS "com/example/poonji/poonji/BankFigures$Item" "sign" "Lcom/example/poonji/poonji/BankFigures$Sign;" (.ref w_NOT_NEGATIVE) := Fld.other W105 f_212 (Or.inl ne_w_CURRENT_YEAR_LOSS_b1_206)
    have f_214 : Fld Z h127 w_CURRENT_YEAR_LOSS "com/example/poonji/poonji/BankFigures$Item" "sign" "Lcom/example/poonji/poonji/BankFigures$Sign;" (.ref w_NOT_NEGATIVE) := Fld.other W127 f_213 (Or.inl ne_w_CURRENT_YEAR_LOSS_b1_206)
    have f_215 : Fld Z h151 w_CURRENT_YEAR_LOSS "com/example/poonji/poonji/BankFigures$Item" "sign" "Lcom/example/poonji/poonji/BankFigures$Sign;" (.ref w_NOT_NEGATIVE) := Fld.other W151 f_214 (Or.inl ne_w_CURRENT_YEAR_LOSS_b1_206)
    have f_216 : Exa Z h15 w_CURRENT_YEAR_LOSS "com/example/poonji/poonji/BankFigures$Item" := Exa.wr W15 f_14
    have f_217 : Exa Z h25 w_CURRENT_YEAR_LOSS "com/example/poonji/poonji/BankFigures$Item" := Exa.wr W25 f_216
    have f_218 : Exa Z h37 w_CURRENT_YEAR_LOSS "com/example/poonji/poonji/BankFigures$Item" := Exa.wr W37 f_217
    have f_219 : Exa Z h51 w_CURRENT_YEAR_LOSS "com/example/poonji/poonji/BankFigures$Item" := Exa.wr W51 f_218
    have f_220 : Exa Z h67 w_CURRENT_YEAR_LOSS "com/example/poonji/poonji/BankFigures$Item" := Exa.wr W67 f_219
    have f_221 : Exa Z h85 w_CURRENT_YEAR_LOSS "com/example/poonji/poonji/BankFigures$Item" := Exa.wr W85 f_220
    have f_222 : Exa Z h105 w_CURRENT_YEAR_LOSS "com/example/poonji/poonji/BankFigures$Item" := Exa.wr W105 f_221
    have f_223 : Exa Z h127 w_CURRENT_YEAR_LOSS "com/example/poonji/poonji/BankFigures$Item" := Exa.wr W127 f_222
    have f_224 : Exa Z h151 w_CURRENT_YEAR_LOSS "com/example/poonji/poonji/BankFigures$Item" := Exa.wr W151 f_223
    obtain ⟨cq192, kq192, q192a, q192b, q192c⟩ := isOf hZ e151 f_224
    obtain ⟨_, _, ⟨T192, L192, k192, n192⟩, -, X192, ⟨Lc192, hQ192, l192, y192, z192⟩, st192⟩ := X151.virtualBack hx (y := (⟨"com/example/poonji/poonji/BankFigures$Item", "signed", "()Z"⟩ : MethodName)) (z := (⟨"com/example/poonji/poonji/BankFigures$Item", "signed", "()Z"⟩ : MethodName)) hown (mvT hZ (hw _ (List.mem_of_getElem? (i := 25) rfl))) (mvT hZ (hw _ (List.mem_of_getElem? (i := 26) rfl))) (notFace_of_selects (args := #[]) (mvT hZ (hw _ (List.mem_of_getElem? (i := 28) rfl)))) (mvT hZ (hw _ (List.mem_of_getElem? (i := 28) rfl))) (mvT hZ (hw _ (List.mem_of_getElem? (i := 27) rfl))) (by decide) (backOf (W := 0) (rm1n l Z a0 hw [] w_CURRENT_YEAR_LOSS w_ANY w_NOT_NEGATIVE h151 n0 Z153 f_203 f_215 ne_w_NOT_NEGATIVE_w_ANY) hZ (hw _ (List.mem_of_getElem? (i := 29) rfl)) (hw _ (List.mem_of_getElem? (i := 3) rfl)) (by decide) (by decide)) q192a q192c (g := (mkF m 93 #[.val (.int p0), .val (.ref b1), .val (.int (1 : Int32)), .val (.int (0 : Int32))] [(.ref w_CURRENT_YEAR_LOSS)])) rfl (by rw [hml]; rfl) (Steps.refl _) (argsL := []) (rest := []) (lenOf own_pd8 rfl) rfl (by show 2 * 0 + _ ≤ _; exact Nat.le_of_eq rfl) (hb hby at_93) (fun _ _ => ⟨rfl, e151, (by decide : 1 + 0 ≤ _), (by decide : 10 + 0 ≤ _)⟩)
    dsimp only [Pt.U, Pt.locs, Pt.cells, Pt.slots] at X192 l192 y192 z192 st192 hQ192
    subst l192 y192 z192
    obtain ⟨rfl, N192q, eh192⟩ := hQ192
    have N192 := Fr.app N151 N192q
    refine Good.back (fun _ k => st192.trans k) ?_
    show Good p e below _ (T192.setTop (mkF m 96 #[.val (.int p0), .val (.ref b1), .val (.int (1 : Int32)), .val (.int (0 : Int32))] [(.int (0 : Int32))]))
    refine Good.back (fun _ k => XS.iloadN X192.here hx rfl (hb hby at_96) rfl k) ?_
    show Good p e below _ (T192.setTop (mkF m 97 #[.val (.int p0), .val (.ref b1), .val (.int (1 : Int32)), .val (.int (0 : Int32))] [(.int (0 : Int32)), (.int (0 : Int32))]))
    refine Good.back (fun _ k => XS.icmpNo X192.here hx rfl (hb hby at_97) rfl (teq (by decide : ((0 : Int32) = (0 : Int32)))).2 k) ?_
    show Good p e below _ (T192.setTop (mkF m 100 #[.val (.int p0), .val (.ref b1), .val (.int (1 : Int32)), .val (.int (0 : Int32))] []))
    refine Good.back (fun _ k => XS.iconst X192.here hx rfl (hb hby at_100) k) ?_
    show Good p e below _ (T192.setTop (mkF m 101 #[.val (.int p0), .val (.ref b1), .val (.int (1 : Int32)), .val (.int (0 : Int32))] [(.int (1 : Int32))]))
    refine Good.back (fun _ k => XS.goto X192.here hx rfl (pc0 := 101) (pc' := 105) rfl (hb hby at_101) (by decide) (by decide) k) ?_
    show Good p e below _ (T192.setTop (mkF m 105 #[.val (.int p0), .val (.ref b1), .val (.int (1 : Int32)), .val (.int (0 : Int32))] [(.int (1 : Int32))]))
    obtain ⟨fs225, hr225, hrun225, hended225, hW225, hsame225⟩ := X192.leave (v := some (.int (1 : Int32))) (fun h => by rw [Bd.returns] at h; cases h)
    refine Good.done (retN X192 hx (t := .boolean) Bd.returns (by simp) (hb hby at_105) hr225) hrun225 hended225 ⟨_, _, rfl, ?_, ⟨_, rfl⟩, hW225, hsame225.mono (by decide) (by decide)⟩
    show Q0 Z p0 w_CURRENT_YEAR_PROFIT w_CURRENT_YEAR_LOSS w_RISK_WEIGHTED_ASSETS w_OTHER_TIER2_CAPITAL w_TIER1_PREVIOUS_MARCH w_EQUITY_INVESTMENT_IN_SUBSIDIARIES w_NABARD_ASSESSED_CRAR w_CAPITAL_ADDED_SINCE_BALANCE_SHEET w_CAPITAL_REDUCED_SINCE_BALANCE_SHEET w_LOSSES_SINCE_BALANCE_SHEET w_NOT_NEGATIVE w_ANY h0 n0 _ T192.heap _
    rw [eh192]
    exact ⟨rfl, N192⟩
  · have he154' : ((p0 &&& (2147483647 : Int32)) % (10 : Int32)) = (2 : Int32) := he154
    rw [he154']
    show Good p e below _ (T151.setTop (mkF m 78 #[.val (.int p0), .val (.ref b1), .val (.int (2 : Int32)), .unset] []))
    refine Good.back (fun _ k => XS.iloadN X151.here hx rfl (hb hby at_78) rfl k) ?_
    show Good p e below _ (T151.setTop (mkF m 79 #[.val (.int p0), .val (.ref b1), .val (.int (2 : Int32)), .unset] [(.int (2 : Int32))]))
    refine Good.back (fun _ k => XS.bipush X151.here hx rfl (hb hby at_79) k) ?_
    show Good p e below _ (T151.setTop (mkF m 81 #[.val (.int p0), .val (.ref b1), .val (.int (2 : Int32)), .unset] [(.int (6 : Int32)), (.int (2 : Int32))]))
    refine Good.back (fun _ k => XS.icmpYes X151.here hx rfl (pc0 := 81) (pc' := 88) rfl (hb hby at_81) rfl (feq (by decide : ¬ ((2 : Int32) = (6 : Int32)))).2 (by decide) (by decide) k) ?_
    show Good p e below _ (T151.setTop (mkF m 88 #[.val (.int p0), .val (.ref b1), .val (.int (2 : Int32)), .unset] []))
    refine Good.back (fun _ k => XS.iconst X151.here hx rfl (hb hby at_88) k) ?_
    show Good p e below _ (T151.setTop (mkF m 89 #[.val (.int p0), .val (.ref b1), .val (.int (2 : Int32)), .unset] [(.int (0 : Int32))]))
    refine Good.back (fun _ k => XS.istoreN X151.here hx rfl (hb hby at_89) rfl (l' := #[.val (.int p0), .val (.ref b1), .val (.int (2 : Int32)), .val (.int (0 : Int32))]) rfl k) ?_
    show Good p e below _ (T151.setTop (mkF m 90 #[.val (.int p0), .val (.ref b1), .val (.int (2 : Int32)), .val (.int (0 : Int32))] []))
    refine Good.back (fun _ k => XS.aloadN X151.here hx rfl (hb hby at_90) rfl rfl k) ?_
    show Good p e below _ (T151.setTop (mkF m 91 #[.val (.int p0), .val (.ref b1), .val (.int (2 : Int32)), .val (.int (0 : Int32))] [(.ref b1)]))
    refine Good.back (fun _ k => XS.iloadN X151.here hx rfl (hb hby at_91) rfl k) ?_
    show Good p e below _ (T151.setTop (mkF m 92 #[.val (.int p0), .val (.ref b1), .val (.int (2 : Int32)), .val (.int (0 : Int32))] [(.int (2 : Int32)), (.ref b1)]))
    have fc226 := f_152
    obtain ⟨cl226, Ar226, qk226, S226, N226', H226, G226⟩ := fc226
    have hin226 : ¬ ((2 : Int32) < 0 ∨ cl226.slots.size ≤ ((2 : Int32)).toNatClampNeg) := inb_of S226 ⟨by decide, by decide⟩
    have hat226 : cl226.slots[((2 : Int32)).toNatClampNeg]? = some (.ref w_RISK_WEIGHTED_ASSETS) := Has.at H226 hin226 rfl
    refine Good.back (X151.aaload hx (j := (2 : Int32)) (v := (.ref w_RISK_WEIGHTED_ASSETS)) (by rw [e151]; exact Ar226.1) (State.isArrayOf_alike hZ.alike Ar226.2.1) rfl Ar226.2.2 hin226 hat226 (g := (mkF m 92 #[.val (.int p0), .val (.ref b1), .val (.int (2 : Int32)), .val (.int (0 : Int32))] [(.int (2 : Int32)), (.ref b1)])) rfl rfl (hb hby at_92)) ?_
    show Good p e below _ (T151.setTop (mkF m 93 #[.val (.int p0), .val (.ref b1), .val (.int (2 : Int32)), .val (.int (0 : Int32))] [(.ref w_RISK_WEIGHTED_ASSETS)]))
    have f_228 : Sta Z h1 "com/example/poonji/poonji/BankFigures$Sign" "ANY" "Lcom/example/poonji/poonji/BankFigures$Sign;" (.ref w_ANY) := Sta.ext E1 S_w_ANY
    have f_229 : Sta Z h7 "com/example/poonji/poonji/BankFigures$Sign" "ANY" "Lcom/example/poonji/poonji/BankFigures$Sign;" (.ref w_ANY) := Sta.wr W7 f_228
    have f_230 : Sta Z h15 "com/example/poonji/poonji/BankFigures$Sign" "ANY" "Lcom/example/poonji/poonji/BankFigures$Sign;" (.ref w_ANY) := Sta.wr W15 f_229
    have f_231 : Sta Z h25 "com/example/poonji/poonji/BankFigures$Sign" "ANY" "Lcom/example/poonji/poonji/BankFigures$Sign;" (.ref w_ANY) := Sta.wr W25 f_230
    have f_232 : Sta Z h37 "com/example/poonji/poonji/BankFigures$Sign" "ANY" "Lcom/example/poonji/poonji/BankFigures$Sign;" (.ref w_ANY) := Sta.wr W37 f_231
    have f_233 : Sta Z h51 "com/example/poonji/poonji/BankFigures$Sign" "ANY" "Lcom/example/poonji/poonji/BankFigures$Sign;" (.ref w_ANY) := Sta.wr W51 f_232
    have f_234 : Sta Z h67 "com/example/poonji/poonji/BankFigures$Sign" "ANY" "Lcom/example/poonji/poonji/BankFigures$Sign;" (.ref w_ANY) := Sta.wr W67 f_233
    have f_235 : Sta Z h85 "com/example/poonji/poonji/BankFigures$Sign" "ANY" "Lcom/example/poonji/poonji/BankFigures$Sign;" (.ref w_ANY) := Sta.wr W85 f_234
    have f_236 : Sta Z h105 "com/example/poonji/poonji/BankFigures$Sign" "ANY" "Lcom/example/poonji/poonji/BankFigures$Sign;" (.ref w_ANY) := Sta.wr W105 f_235
    have f_237 : Sta Z h127 "com/example/poonji/poonji/BankFigures$Sign" "ANY" "Lcom/example/poonji/poonji/BankFigures$Sign;" (.ref w_ANY) := Sta.wr W127 f_236
    have f_238 : Sta Z h151 "com/example/poonji/poonji/BankFigures$Sign" "ANY" "Lcom/example/poonji/poonji/BankFigures$Sign;" (.ref w_ANY) := Sta.wr W151 f_237
    have f_239 : Fld Z h1 w_RISK_WEIGHTED_ASSETS "com/example/poonji/poonji/BankFigures$Item" "sign" "Lcom/example/poonji/poonji/BankFigures$Sign;" (.ref w_NOT_NEGATIVE) := Fld.ext E1 F_sign_w_RISK_WEIGHTED_ASSETS
    have ne_w_RISK_WEIGHTED_ASSETS_b1_241 : w_RISK_WEIGHTED_ASSETS ≠ b1 := Nat.ne_of_lt (Nat.lt_of_lt_of_le F_sign_w_RISK_WEIGHTED_ASSETS.lt (Nat.le_of_eq g1.symm))
    have f_240 : Fld Z h7 w_RISK_WEIGHTED_ASSETS "com/example/poonji/poonji/BankFigures$Item" "sign" "Lcom/example/poonji/poonji/BankFigures$Sign;" (.ref w_NOT_NEGATIVE) := Fld.other W7 f_239 (Or.inl ne_w_RISK_WEIGHTED_ASSETS_b1_241)
    have f_242 : Fld Z h15 w_RISK_WEIGHTED_ASSETS "com/example/poonji/poonji/BankFigures$Item" "sign" "Lcom/example/poonji/poonji/BankFigures$Sign;" (.ref w_NOT_NEGATIVE) := Fld.other W15 f_240 (Or.inl ne_w_RISK_WEIGHTED_ASSETS_b1_241)
    have f_243 : Fld Z h25 w_RISK_WEIGHTED_ASSETS "com/example/poonji/poonji/BankFigures$Item" "sign" "Lcom/example/poonji/poonji/BankFigures$Sign;" (.ref w_NOT_NEGATIVE) := Fld.other W25 f_242 (Or.inl ne_w_RISK_WEIGHTED_ASSETS_b1_241)
    have f_244 : Fld Z h37 w_RISK_WEIGHTED_ASSETS "com/example/poonji/poonji/BankFigures$Item" "sign" "Lcom/example/poonji/poonji/BankFigures$Sign;" (.ref w_NOT_NEGATIVE) := Fld.other W37 f_243 (Or.inl ne_w_RISK_WEIGHTED_ASSETS_b1_241)
    have f_245 : Fld Z h51 w_RISK_WEIGHTED_ASSETS "com/example/poonji/poonji/BankFigures$Item" "sign" "Lcom/example/poonji/poonji/BankFigures$Sign;" (.ref w_NOT_NEGATIVE) := Fld.other W51 f_244 (Or.inl ne_w_RISK_WEIGHTED_ASSETS_b1_241)
    have f_246 : Fld Z h67 w_RISK_WEIGHTED_ASSETS "com/example/poonji/poonji/BankFigures$Item" "sign" "Lcom/example/poonji/poonji/BankFigures$Sign;" (.ref w_NOT_NEGATIVE) := Fld.other W67 f_245 (Or.inl ne_w_RISK_WEIGHTED_ASSETS_b1_241)
    have f_247 : Fld Z h85 w_RISK_WEIGHTED_ASSETS "com/example/poonji/poonji/BankFigures$Item" "sign" "Lcom/example/poonji/poonji/BankFigures$Sign;" (.ref w_NOT_NEGATIVE) := Fld.other W85 f_246 (Or.inl ne_w_RISK_WEIGHTED_ASSETS_b1_241)
    have f_248 : Fld Z h105 w_RISK_WEIGHTED_ASSETS "com/example/poonji/poonji/BankFigures$Item" "sign" "Lcom/example/poonji/poonji/BankFigures$Sign;" (.ref w_NOT_NEGATIVE) := Fld.other W105 f_247 (Or.inl ne_w_RISK_WEIGHTED_ASSETS_b1_241)
    have f_249 : Fld Z h127 w_RISK_WEIGHTED_ASSETS "com/example/poonji/poonji/BankFigures$Item" "sign" "Lcom/example/poonji/poonji/BankFigures$Sign;" (.ref w_NOT_NEGATIVE) := Fld.other W127 f_248 (Or.inl ne_w_RISK_WEIGHTED_ASSETS_b1_241)
    have f_250 : Fld Z h151 w_RISK_WEIGHTED_ASSETS "com/example/poonji/poonji/BankFigures$Item" "sign" "Lcom/example/poonji/poonji/BankFigures$Sign;" (.ref w_NOT_NEGATIVE) := Fld.other W151 f_249 (Or.inl ne_w_RISK_WEIGHTED_ASSETS_b1_241)
    have f_251 : Exa Z h25 w_RISK_WEIGHTED_ASSETS "com/example/poonji/poonji/BankFigures$Item" := Exa.wr W25 f_24
    have f_252 : Exa Z h37 w_RISK_WEIGHTED_ASSETS "com/example/poonji/poonji/BankFigures$Item" := Exa.wr W37 f_251
    have f_253 : Exa Z h51 w_RISK_WEIGHTED_ASSETS "com/example/poonji/poonji/BankFigures$Item" := Exa.wr W51 f_252
    have f_254 : Exa Z h67 w_RISK_WEIGHTED_ASSETS "com/example/poonji/poonji/BankFigures$Item" := Exa.wr W67 f_253
    have f_255 : Exa Z h85 w_RISK_WEIGHTED_ASSETS "com/example/poonji/poonji/BankFigures$Item" := Exa.wr W85 f_254
    have f_256 : Exa Z h105 w_RISK_WEIGHTED_ASSETS "com/example/poonji/poonji/BankFigures$Item" := Exa.wr W105 f_255
    have f_257 : Exa Z h127 w_RISK_WEIGHTED_ASSETS "com/example/poonji/poonji/BankFigures$Item" := Exa.wr W127 f_256
    have f_258 : Exa Z h151 w_RISK_WEIGHTED_ASSETS "com/example/poonji/poonji/BankFigures$Item" := Exa.wr W151 f_257
    obtain ⟨cq227, kq227, q227a, q227b, q227c⟩ := isOf hZ e151 f_258
    obtain ⟨_, _, ⟨T227, L227, k227, n227⟩, -, X227, ⟨Lc227, hQ227, l227, y227, z227⟩, st227⟩ := X151.virtualBack hx (y := (⟨"com/example/poonji/poonji/BankFigures$Item", "signed", "()Z"⟩ : MethodName)) (z := (⟨"com/example/poonji/poonji/BankFigures$Item", "signed", "()Z"⟩ : MethodName)) hown (mvT hZ (hw _ (List.mem_of_getElem? (i := 25) rfl))) (mvT hZ (hw _ (List.mem_of_getElem? (i := 26) rfl))) (notFace_of_selects (args := #[]) (mvT hZ (hw _ (List.mem_of_getElem? (i := 28) rfl)))) (mvT hZ (hw _ (List.mem_of_getElem? (i := 28) rfl))) (mvT hZ (hw _ (List.mem_of_getElem? (i := 27) rfl))) (by decide) (backOf (W := 0) (rm1n l Z a0 hw [] w_RISK_WEIGHTED_ASSETS w_ANY w_NOT_NEGATIVE h151 n0 Z153 f_238 f_250 ne_w_NOT_NEGATIVE_w_ANY) hZ (hw _ (List.mem_of_getElem? (i := 29) rfl)) (hw _ (List.mem_of_getElem? (i := 3) rfl)) (by decide) (by decide)) q227a q227c (g := (mkF m 93 #[.val (.int p0), .val (.ref b1), .val (.int (2 : Int32)), .val (.int (0 : Int32))] [(.ref w_RISK_WEIGHTED_ASSETS)])) rfl (by rw [hml]; rfl) (Steps.refl _) (argsL := []) (rest := []) (lenOf own_pd8 rfl) rfl (by show 2 * 0 + _ ≤ _; exact Nat.le_of_eq rfl) (hb hby at_93) (fun _ _ => ⟨rfl, e151, (by decide : 1 + 0 ≤ _), (by decide : 10 + 0 ≤ _)⟩)
    dsimp only [Pt.U, Pt.locs, Pt.cells, Pt.slots] at X227 l227 y227 z227 st227 hQ227
    subst l227 y227 z227
    obtain ⟨rfl, N227q, eh227⟩ := hQ227
    have N227 := Fr.app N151 N227q
    refine Good.back (fun _ k => st227.trans k) ?_
    show Good p e below _ (T227.setTop (mkF m 96 #[.val (.int p0), .val (.ref b1), .val (.int (2 : Int32)), .val (.int (0 : Int32))] [(.int (0 : Int32))]))
    refine Good.back (fun _ k => XS.iloadN X227.here hx rfl (hb hby at_96) rfl k) ?_
    show Good p e below _ (T227.setTop (mkF m 97 #[.val (.int p0), .val (.ref b1), .val (.int (2 : Int32)), .val (.int (0 : Int32))] [(.int (0 : Int32)), (.int (0 : Int32))]))
    refine Good.back (fun _ k => XS.icmpNo X227.here hx rfl (hb hby at_97) rfl (teq (by decide : ((0 : Int32) = (0 : Int32)))).2 k) ?_
    show Good p e below _ (T227.setTop (mkF m 100 #[.val (.int p0), .val (.ref b1), .val (.int (2 : Int32)), .val (.int (0 : Int32))] []))
    refine Good.back (fun _ k => XS.iconst X227.here hx rfl (hb hby at_100) k) ?_
    show Good p e below _ (T227.setTop (mkF m 101 #[.val (.int p0), .val (.ref b1), .val (.int (2 : Int32)), .val (.int (0 : Int32))] [(.int (1 : Int32))]))
    refine Good.back (fun _ k => XS.goto X227.here hx rfl (pc0 := 101) (pc' := 105) rfl (hb hby at_101) (by decide) (by decide) k) ?_
    show Good p e below _ (T227.setTop (mkF m 105 #[.val (.int p0), .val (.ref b1), .val (.int (2 : Int32)), .val (.int (0 : Int32))] [(.int (1 : Int32))]))
    obtain ⟨fs259, hr259, hrun259, hended259, hW259, hsame259⟩ := X227.leave (v := some (.int (1 : Int32))) (fun h => by rw [Bd.returns] at h; cases h)
    refine Good.done (retN X227 hx (t := .boolean) Bd.returns (by simp) (hb hby at_105) hr259) hrun259 hended259 ⟨_, _, rfl, ?_, ⟨_, rfl⟩, hW259, hsame259.mono (by decide) (by decide)⟩
    show Q0 Z p0 w_CURRENT_YEAR_PROFIT w_CURRENT_YEAR_LOSS w_RISK_WEIGHTED_ASSETS w_OTHER_TIER2_CAPITAL w_TIER1_PREVIOUS_MARCH w_EQUITY_INVESTMENT_IN_SUBSIDIARIES w_NABARD_ASSESSED_CRAR w_CAPITAL_ADDED_SINCE_BALANCE_SHEET w_CAPITAL_REDUCED_SINCE_BALANCE_SHEET w_LOSSES_SINCE_BALANCE_SHEET w_NOT_NEGATIVE w_ANY h0 n0 _ T227.heap _
    rw [eh227]
    exact ⟨rfl, N227⟩
  · have he154' : ((p0 &&& (2147483647 : Int32)) % (10 : Int32)) = (3 : Int32) := he154
    rw [he154']
    show Good p e below _ (T151.setTop (mkF m 78 #[.val (.int p0), .val (.ref b1), .val (.int (3 : Int32)), .unset] []))
    refine Good.back (fun _ k => XS.iloadN X151.here hx rfl (hb hby at_78) rfl k) ?_
    show Good p e below _ (T151.setTop (mkF m 79 #[.val (.int p0), .val (.ref b1), .val (.int (3 : Int32)), .unset] [(.int (3 : Int32))]))
    refine Good.back (fun _ k => XS.bipush X151.here hx rfl (hb hby at_79) k) ?_
    show Good p e below _ (T151.setTop (mkF m 81 #[.val (.int p0), .val (.ref b1), .val (.int (3 : Int32)), .unset] [(.int (6 : Int32)), (.int (3 : Int32))]))
    refine Good.back (fun _ k => XS.icmpYes X151.here hx rfl (pc0 := 81) (pc' := 88) rfl (hb hby at_81) rfl (feq (by decide : ¬ ((3 : Int32) = (6 : Int32)))).2 (by decide) (by decide) k) ?_
    show Good p e below _ (T151.setTop (mkF m 88 #[.val (.int p0), .val (.ref b1), .val (.int (3 : Int32)), .unset] []))
    refine Good.back (fun _ k => XS.iconst X151.here hx rfl (hb hby at_88) k) ?_
    show Good p e below _ (T151.setTop (mkF m 89 #[.val (.int p0), .val (.ref b1), .val (.int (3 : Int32)), .unset] [(.int (0 : Int32))]))
    refine Good.back (fun _ k => XS.istoreN X151.here hx rfl (hb hby at_89) rfl (l' := #[.val (.int p0), .val (.ref b1), .val (.int (3 : Int32)), .val (.int (0 : Int32))]) rfl k) ?_
    show Good p e below _ (T151.setTop (mkF m 90 #[.val (.int p0), .val (.ref b1), .val (.int (3 : Int32)), .val (.int (0 : Int32))] []))
    refine Good.back (fun _ k => XS.aloadN X151.here hx rfl (hb hby at_90) rfl rfl k) ?_
    show Good p e below _ (T151.setTop (mkF m 91 #[.val (.int p0), .val (.ref b1), .val (.int (3 : Int32)), .val (.int (0 : Int32))] [(.ref b1)]))
    refine Good.back (fun _ k => XS.iloadN X151.here hx rfl (hb hby at_91) rfl k) ?_
    show Good p e below _ (T151.setTop (mkF m 92 #[.val (.int p0), .val (.ref b1), .val (.int (3 : Int32)), .val (.int (0 : Int32))] [(.int (3 : Int32)), (.ref b1)]))
    have fc260 := f_152
    obtain ⟨cl260, Ar260, qk260, S260, N260', H260, G260⟩ := fc260
    have hin260 : ¬ ((3 : Int32) < 0 ∨ cl260.slots.size ≤ ((3 : Int32)).toNatClampNeg) := inb_of S260 ⟨by decide, by decide⟩
    have hat260 : cl260.slots[((3 : Int32)).toNatClampNeg]? = some (.ref w_OTHER_TIER2_CAPITAL) := Has.at H260 hin260 rfl
    refine Good.back (X151.aaload hx (j := (3 : Int32)) (v := (.ref w_OTHER_TIER2_CAPITAL)) (by rw [e151]; exact Ar260.1) (State.isArrayOf_alike hZ.alike Ar260.2.1) rfl Ar260.2.2 hin260 hat260 (g := (mkF m 92 #[.val (.int p0), .val (.ref b1), .val (.int (3 : Int32)), .val (.int (0 : Int32))] [(.int (3 : Int32)), (.ref b1)])) rfl rfl (hb hby at_92)) ?_
    show Good p e below _ (T151.setTop (mkF m 93 #[.val (.int p0), .val (.ref b1), .val (.int (3 : Int32)), .val (.int (0 : Int32))] [(.ref w_OTHER_TIER2_CAPITAL)]))
    have f_262 : Sta Z h1 "com/example/poonji/poonji/BankFigures$Sign" "ANY" "Lcom/example/poonji/poonji/BankFigures$Sign;" (.ref w_ANY) := Sta.ext E1 S_w_ANY
    have f_263 : Sta Z h7 "com/example/poonji/poonji/BankFigures$Sign" "ANY" "Lcom/example/poonji/poonji/BankFigures$Sign;" (.ref w_ANY) := Sta.wr W7 f_262
    have f_264 : Sta Z h15 "com/example/poonji/poonji/BankFigures$Sign" "ANY" "Lcom/example/poonji/poonji/BankFigures$Sign;" (.ref w_ANY) := Sta.wr W15 f_263
    have f_265 : Sta Z h25 "com/example/poonji/poonji/BankFigures$Sign" "ANY" "Lcom/example/poonji/poonji/BankFigures$Sign;" (.ref w_ANY) := Sta.wr W25 f_264
    have f_266 : Sta Z h37 "com/example/poonji/poonji/BankFigures$Sign" "ANY" "Lcom/example/poonji/poonji/BankFigures$Sign;" (.ref w_ANY) := Sta.wr W37 f_265
    have f_267 : Sta Z h51 "com/example/poonji/poonji/BankFigures$Sign" "ANY" "Lcom/example/poonji/poonji/BankFigures$Sign;" (.ref w_ANY) := Sta.wr W51 f_266
    have f_268 : Sta Z h67 "com/example/poonji/poonji/BankFigures$Sign" "ANY" "Lcom/example/poonji/poonji/BankFigures$Sign;" (.ref w_ANY) := Sta.wr W67 f_267
    have f_269 : Sta Z h85 "com/example/poonji/poonji/BankFigures$Sign" "ANY" "Lcom/example/poonji/poonji/BankFigures$Sign;" (.ref w_ANY) := Sta.wr W85 f_268
    have f_270 : Sta Z h105 "com/example/poonji/poonji/BankFigures$Sign" "ANY" "Lcom/example/poonji/poonji/BankFigures$Sign;" (.ref w_ANY) := Sta.wr W105 f_269
    have f_271 : Sta Z h127 "com/example/poonji/poonji/BankFigures$Sign" "ANY" "Lcom/example/poonji/poonji/BankFigures$Sign;" (.ref w_ANY) := Sta.wr W127 f_270
    have f_272 : Sta Z h151 "com/example/poonji/poonji/BankFigures$Sign" "ANY" "Lcom/example/poonji/poonji/BankFigures$Sign;" (.ref w_ANY) := Sta.wr W151 f_271
    have f_273 : Fld Z h1 w_OTHER_TIER2_CAPITAL "com/example/poonji/poonji/BankFigures$Item" "sign" "Lcom/example/poonji/poonji/BankFigures$Sign;" (.ref w_NOT_NEGATIVE) := Fld.ext E1 F_sign_w_OTHER_TIER2_CAPITAL
    have ne_w_OTHER_TIER2_CAPITAL_b1_275 : w_OTHER_TIER2_CAPITAL ≠ b1 := Nat.ne_of_lt (Nat.lt_of_lt_of_le F_sign_w_OTHER_TIER2_CAPITAL.lt (Nat.le_of_eq g1.symm))
    have f_274 : Fld Z h7 w_OTHER_TIER2_CAPITAL "com/example/poonji/poonji/BankFigures$Item" "sign" "Lcom/example/poonji/poonji/BankFigures$Sign;" (.ref w_NOT_NEGATIVE) := Fld.other W7 f_273 (Or.inl ne_w_OTHER_TIER2_CAPITAL_b1_275)
    have f_276 : Fld Z h15 w_OTHER_TIER2_CAPITAL "com/example/poonji/poonji/BankFigures$Item" "sign" "Lcom/example/poonji/poonji/BankFigures$Sign;" (.ref w_NOT_NEGATIVE) := Fld.other W15 f_274 (Or.inl ne_w_OTHER_TIER2_CAPITAL_b1_275)
    have f_277 : Fld Z h25 w_OTHER_TIER2_CAPITAL "com/example/poonji/poonji/BankFigures$Item" "sign" "Lcom/example/poonji/poonji/BankFigures$Sign;" (.ref w_NOT_NEGATIVE) := Fld.other W25 f_276 (Or.inl ne_w_OTHER_TIER2_CAPITAL_b1_275)
    have f_278 : Fld Z h37 w_OTHER_TIER2_CAPITAL "com/example/poonji/poonji/BankFigures$Item" "sign" "Lcom/example/poonji/poonji/BankFigures$Sign;" (.ref w_NOT_NEGATIVE) := Fld.other W37 f_277 (Or.inl ne_w_OTHER_TIER2_CAPITAL_b1_275)
    have f_279 : Fld Z h51 w_OTHER_TIER2_CAPITAL "com/example/poonji/poonji/BankFigures$Item" "sign" "Lcom/example/poonji/poonji/BankFigures$Sign;" (.ref w_NOT_NEGATIVE) := Fld.other W51 f_278 (Or.inl ne_w_OTHER_TIER2_CAPITAL_b1_275)
    have f_280 : Fld Z h67 w_OTHER_TIER2_CAPITAL "com/example/poonji/poonji/BankFigures$Item" "sign" "Lcom/example/poonji/poonji/BankFigures$Sign;" (.ref w_NOT_NEGATIVE) := Fld.other W67 f_279 (Or.inl ne_w_OTHER_TIER2_CAPITAL_b1_275)
    have f_281 : Fld Z h85 w_OTHER_TIER2_CAPITAL "com/example/poonji/poonji/BankFigures$Item" "sign" "Lcom/example/poonji/poonji/BankFigures$Sign;" (.ref w_NOT_NEGATIVE) := Fld.other W85 f_280 (Or.inl ne_w_OTHER_TIER2_CAPITAL_b1_275)
    have f_282 : Fld Z h105 w_OTHER_TIER2_CAPITAL "com/example/poonji/poonji/BankFigures$Item" "sign" "Lcom/example/poonji/poonji/BankFigures$Sign;" (.ref w_NOT_NEGATIVE) := Fld.other W105 f_281 (Or.inl ne_w_OTHER_TIER2_CAPITAL_b1_275)
    have f_283 : Fld Z h127 w_OTHER_TIER2_CAPITAL "com/example/poonji/poonji/BankFigures$Item" "sign" "Lcom/example/poonji/poonji/BankFigures$Sign;" (.ref w_NOT_NEGATIVE) := Fld.other W127 f_282 (Or.inl ne_w_OTHER_TIER2_CAPITAL_b1_275)
    have f_284 : Fld Z h151 w_OTHER_TIER2_CAPITAL "com/example/poonji/poonji/BankFigures$Item" "sign" "Lcom/example/poonji/poonji/BankFigures$Sign;" (.ref w_NOT_NEGATIVE) := Fld.other W151 f_283 (Or.inl ne_w_OTHER_TIER2_CAPITAL_b1_275)
    have f_285 : Exa Z h37 w_OTHER_TIER2_CAPITAL "com/example/poonji/poonji/BankFigures$Item" := Exa.wr W37 f_36
    have f_286 : Exa Z h51 w_OTHER_TIER2_CAPITAL "com/example/poonji/poonji/BankFigures$Item" := Exa.wr W51 f_285
    have f_287 : Exa Z h67 w_OTHER_TIER2_CAPITAL "com/example/poonji/poonji/BankFigures$Item" := Exa.wr W67 f_286
    have f_288 : Exa Z h85 w_OTHER_TIER2_CAPITAL "com/example/poonji/poonji/BankFigures$Item" := Exa.wr W85 f_287
    have f_289 : Exa Z h105 w_OTHER_TIER2_CAPITAL "com/example/poonji/poonji/BankFigures$Item" := Exa.wr W105 f_288
    have f_290 : Exa Z h127 w_OTHER_TIER2_CAPITAL "com/example/poonji/poonji/BankFigures$Item" := Exa.wr W127 f_289
    have f_291 : Exa Z h151 w_OTHER_TIER2_CAPITAL "com/example/poonji/poonji/BankFigures$Item" := Exa.wr W151 f_290
    obtain ⟨cq261, kq261, q261a, q261b, q261c⟩ := isOf hZ e151 f_291
    obtain ⟨_, _, ⟨T261, L261, k261, n261⟩, -, X261, ⟨Lc261, hQ261, l261, y261, z261⟩, st261⟩ := X151.virtualBack hx (y := (⟨"com/example/poonji/poonji/BankFigures$Item", "signed", "()Z"⟩ : MethodName)) (z := (⟨"com/example/poonji/poonji/BankFigures$Item", "signed", "()Z"⟩ : MethodName)) hown (mvT hZ (hw _ (List.mem_of_getElem? (i := 25) rfl))) (mvT hZ (hw _ (List.mem_of_getElem? (i := 26) rfl))) (notFace_of_selects (args := #[]) (mvT hZ (hw _ (List.mem_of_getElem? (i := 28) rfl)))) (mvT hZ (hw _ (List.mem_of_getElem? (i := 28) rfl))) (mvT hZ (hw _ (List.mem_of_getElem? (i := 27) rfl))) (by decide) (backOf (W := 0) (rm1n l Z a0 hw [] w_OTHER_TIER2_CAPITAL w_ANY w_NOT_NEGATIVE h151 n0 Z153 f_272 f_284 ne_w_NOT_NEGATIVE_w_ANY) hZ (hw _ (List.mem_of_getElem? (i := 29) rfl)) (hw _ (List.mem_of_getElem? (i := 3) rfl)) (by decide) (by decide)) q261a q261c (g := (mkF m 93 #[.val (.int p0), .val (.ref b1), .val (.int (3 : Int32)), .val (.int (0 : Int32))] [(.ref w_OTHER_TIER2_CAPITAL)])) rfl (by rw [hml]; rfl) (Steps.refl _) (argsL := []) (rest := []) (lenOf own_pd8 rfl) rfl (by show 2 * 0 + _ ≤ _; exact Nat.le_of_eq rfl) (hb hby at_93) (fun _ _ => ⟨rfl, e151, (by decide : 1 + 0 ≤ _), (by decide : 10 + 0 ≤ _)⟩)
    dsimp only [Pt.U, Pt.locs, Pt.cells, Pt.slots] at X261 l261 y261 z261 st261 hQ261
    subst l261 y261 z261
    obtain ⟨rfl, N261q, eh261⟩ := hQ261
    have N261 := Fr.app N151 N261q
    refine Good.back (fun _ k => st261.trans k) ?_
    show Good p e below _ (T261.setTop (mkF m 96 #[.val (.int p0), .val (.ref b1), .val (.int (3 : Int32)), .val (.int (0 : Int32))] [(.int (0 : Int32))]))
    refine Good.back (fun _ k => XS.iloadN X261.here hx rfl (hb hby at_96) rfl k) ?_
    show Good p e below _ (T261.setTop (mkF m 97 #[.val (.int p0), .val (.ref b1), .val (.int (3 : Int32)), .val (.int (0 : Int32))] [(.int (0 : Int32)), (.int (0 : Int32))]))
    refine Good.back (fun _ k => XS.icmpNo X261.here hx rfl (hb hby at_97) rfl (teq (by decide : ((0 : Int32) = (0 : Int32)))).2 k) ?_
    show Good p e below _ (T261.setTop (mkF m 100 #[.val (.int p0), .val (.ref b1), .val (.int (3 : Int32)), .val (.int (0 : Int32))] []))
    refine Good.back (fun _ k => XS.iconst X261.here hx rfl (hb hby at_100) k) ?_
    show Good p e below _ (T261.setTop (mkF m 101 #[.val (.int p0), .val (.ref b1), .val (.int (3 : Int32)), .val (.int (0 : Int32))] [(.int (1 : Int32))]))
    refine Good.back (fun _ k => XS.goto X261.here hx rfl (pc0 := 101) (pc' := 105) rfl (hb hby at_101) (by decide) (by decide) k) ?_
    show Good p e below _ (T261.setTop (mkF m 105 #[.val (.int p0), .val (.ref b1), .val (.int (3 : Int32)), .val (.int (0 : Int32))] [(.int (1 : Int32))]))
    obtain ⟨fs292, hr292, hrun292, hended292, hW292, hsame292⟩ := X261.leave (v := some (.int (1 : Int32))) (fun h => by rw [Bd.returns] at h; cases h)
    refine Good.done (retN X261 hx (t := .boolean) Bd.returns (by simp) (hb hby at_105) hr292) hrun292 hended292 ⟨_, _, rfl, ?_, ⟨_, rfl⟩, hW292, hsame292.mono (by decide) (by decide)⟩
    show Q0 Z p0 w_CURRENT_YEAR_PROFIT w_CURRENT_YEAR_LOSS w_RISK_WEIGHTED_ASSETS w_OTHER_TIER2_CAPITAL w_TIER1_PREVIOUS_MARCH w_EQUITY_INVESTMENT_IN_SUBSIDIARIES w_NABARD_ASSESSED_CRAR w_CAPITAL_ADDED_SINCE_BALANCE_SHEET w_CAPITAL_REDUCED_SINCE_BALANCE_SHEET w_LOSSES_SINCE_BALANCE_SHEET w_NOT_NEGATIVE w_ANY h0 n0 _ T261.heap _
    rw [eh261]
    exact ⟨rfl, N261⟩
  · have he154' : ((p0 &&& (2147483647 : Int32)) % (10 : Int32)) = (4 : Int32) := he154
    rw [he154']
    show Good p e below _ (T151.setTop (mkF m 78 #[.val (.int p0), .val (.ref b1), .val (.int (4 : Int32)), .unset] []))
    refine Good.back (fun _ k => XS.iloadN X151.here hx rfl (hb hby at_78) rfl k) ?_
    show Good p e below _ (T151.setTop (mkF m 79 #[.val (.int p0), .val (.ref b1), .val (.int (4 : Int32)), .unset] [(.int (4 : Int32))]))
    refine Good.back (fun _ k => XS.bipush X151.here hx rfl (hb hby at_79) k) ?_
    show Good p e below _ (T151.setTop (mkF m 81 #[.val (.int p0), .val (.ref b1), .val (.int (4 : Int32)), .unset] [(.int (6 : Int32)), (.int (4 : Int32))]))
    refine Good.back (fun _ k => XS.icmpYes X151.here hx rfl (pc0 := 81) (pc' := 88) rfl (hb hby at_81) rfl (feq (by decide : ¬ ((4 : Int32) = (6 : Int32)))).2 (by decide) (by decide) k) ?_
    show Good p e below _ (T151.setTop (mkF m 88 #[.val (.int p0), .val (.ref b1), .val (.int (4 : Int32)), .unset] []))
    refine Good.back (fun _ k => XS.iconst X151.here hx rfl (hb hby at_88) k) ?_
    show Good p e below _ (T151.setTop (mkF m 89 #[.val (.int p0), .val (.ref b1), .val (.int (4 : Int32)), .unset] [(.int (0 : Int32))]))
    refine Good.back (fun _ k => XS.istoreN X151.here hx rfl (hb hby at_89) rfl (l' := #[.val (.int p0), .val (.ref b1), .val (.int (4 : Int32)), .val (.int (0 : Int32))]) rfl k) ?_
    show Good p e below _ (T151.setTop (mkF m 90 #[.val (.int p0), .val (.ref b1), .val (.int (4 : Int32)), .val (.int (0 : Int32))] []))
    refine Good.back (fun _ k => XS.aloadN X151.here hx rfl (hb hby at_90) rfl rfl k) ?_
    show Good p e below _ (T151.setTop (mkF m 91 #[.val (.int p0), .val (.ref b1), .val (.int (4 : Int32)), .val (.int (0 : Int32))] [(.ref b1)]))
    refine Good.back (fun _ k => XS.iloadN X151.here hx rfl (hb hby at_91) rfl k) ?_
    show Good p e below _ (T151.setTop (mkF m 92 #[.val (.int p0), .val (.ref b1), .val (.int (4 : Int32)), .val (.int (0 : Int32))] [(.int (4 : Int32)), (.ref b1)]))
    have fc293 := f_152
    obtain ⟨cl293, Ar293, qk293, S293, N293', H293, G293⟩ := fc293
    have hin293 : ¬ ((4 : Int32) < 0 ∨ cl293.slots.size ≤ ((4 : Int32)).toNatClampNeg) := inb_of S293 ⟨by decide, by decide⟩
    have hat293 : cl293.slots[((4 : Int32)).toNatClampNeg]? = some (.ref w_TIER1_PREVIOUS_MARCH) := Has.at H293 hin293 rfl
    refine Good.back (X151.aaload hx (j := (4 : Int32)) (v := (.ref w_TIER1_PREVIOUS_MARCH)) (by rw [e151]; exact Ar293.1) (State.isArrayOf_alike hZ.alike Ar293.2.1) rfl Ar293.2.2 hin293 hat293 (g := (mkF m 92 #[.val (.int p0), .val (.ref b1), .val (.int (4 : Int32)), .val (.int (0 : Int32))] [(.int (4 : Int32)), (.ref b1)])) rfl rfl (hb hby at_92)) ?_
    show Good p e below _ (T151.setTop (mkF m 93 #[.val (.int p0), .val (.ref b1), .val (.int (4 : Int32)), .val (.int (0 : Int32))] [(.ref w_TIER1_PREVIOUS_MARCH)]))
    have f_295 : Sta Z h1 "com/example/poonji/poonji/BankFigures$Sign" "ANY" "Lcom/example/poonji/poonji/BankFigures$Sign;" (.ref w_ANY) := Sta.ext E1 S_w_ANY
    have f_296 : Sta Z h7 "com/example/poonji/poonji/BankFigures$Sign" "ANY" "Lcom/example/poonji/poonji/BankFigures$Sign;" (.ref w_ANY) := Sta.wr W7 f_295
    have f_297 : Sta Z h15 "com/example/poonji/poonji/BankFigures$Sign" "ANY" "Lcom/example/poonji/poonji/BankFigures$Sign;" (.ref w_ANY) := Sta.wr W15 f_296
    have f_298 : Sta Z h25 "com/example/poonji/poonji/BankFigures$Sign" "ANY" "Lcom/example/poonji/poonji/BankFigures$Sign;" (.ref w_ANY) := Sta.wr W25 f_297
    have f_299 : Sta Z h37 "com/example/poonji/poonji/BankFigures$Sign" "ANY" "Lcom/example/poonji/poonji/BankFigures$Sign;" (.ref w_ANY) := Sta.wr W37 f_298
    have f_300 : Sta Z h51 "com/example/poonji/poonji/BankFigures$Sign" "ANY" "Lcom/example/poonji/poonji/BankFigures$Sign;" (.ref w_ANY) := Sta.wr W51 f_299
    have f_301 : Sta Z h67 "com/example/poonji/poonji/BankFigures$Sign" "ANY" "Lcom/example/poonji/poonji/BankFigures$Sign;" (.ref w_ANY) := Sta.wr W67 f_300
    have f_302 : Sta Z h85 "com/example/poonji/poonji/BankFigures$Sign" "ANY" "Lcom/example/poonji/poonji/BankFigures$Sign;" (.ref w_ANY) := Sta.wr W85 f_301
    have f_303 : Sta Z h105 "com/example/poonji/poonji/BankFigures$Sign" "ANY" "Lcom/example/poonji/poonji/BankFigures$Sign;" (.ref w_ANY) := Sta.wr W105 f_302
    have f_304 : Sta Z h127 "com/example/poonji/poonji/BankFigures$Sign" "ANY" "Lcom/example/poonji/poonji/BankFigures$Sign;" (.ref w_ANY) := Sta.wr W127 f_303
    have f_305 : Sta Z h151 "com/example/poonji/poonji/BankFigures$Sign" "ANY" "Lcom/example/poonji/poonji/BankFigures$Sign;" (.ref w_ANY) := Sta.wr W151 f_304
    have f_306 : Fld Z h1 w_TIER1_PREVIOUS_MARCH "com/example/poonji/poonji/BankFigures$Item" "sign" "Lcom/example/poonji/poonji/BankFigures$Sign;" (.ref w_NOT_NEGATIVE) := Fld.ext E1 F_sign_w_TIER1_PREVIOUS_MARCH
    have ne_w_TIER1_PREVIOUS_MARCH_b1_308 : w_TIER1_PREVIOUS_MARCH ≠ b1 := Nat.ne_of_lt (Nat.lt_of_lt_of_le F_sign_w_TIER1_PREVIOUS_MARCH.lt (Nat.le_of_eq g1.symm))
    have f_307 : Fld Z h7 w_TIER1_PREVIOUS_MARCH "com/example/poonji/poonji/BankFigures$Item" "sign" "Lcom/example/poonji/poonji/BankFigures$Sign;" (.ref w_NOT_NEGATIVE) := Fld.other W7 f_306 (Or.inl ne_w_TIER1_PREVIOUS_MARCH_b1_308)
    have f_309 : Fld Z h15 w_TIER1_PREVIOUS_MARCH "com/example/poonji/poonji/BankFigures$Item" "sign" "Lcom/example/poonji/poonji/BankFigures$Sign;" (.ref w_NOT_NEGATIVE) := Fld.other W15 f_307 (Or.inl ne_w_TIER1_PREVIOUS_MARCH_b1_308)
    have f_310 : Fld Z h25 w_TIER1_PREVIOUS_MARCH "com/example/poonji/poonji/BankFigures$Item" "sign" "Lcom/example/poonji/poonji/BankFigures$Sign;" (.ref w_NOT_NEGATIVE) := Fld.other W25 f_309 (Or.inl ne_w_TIER1_PREVIOUS_MARCH_b1_308)
    have f_311 : Fld Z h37 w_TIER1_PREVIOUS_MARCH "com/example/poonji/poonji/BankFigures$Item" "sign" "Lcom/example/poonji/poonji/BankFigures$Sign;" (.ref w_NOT_NEGATIVE) := Fld.other W37 f_310 (Or.inl ne_w_TIER1_PREVIOUS_MARCH_b1_308)
    have f_312 : Fld Z h51 w_TIER1_PREVIOUS_MARCH "com/example/poonji/poonji/BankFigures$Item" "sign" "Lcom/example/poonji/poonji/BankFigures$Sign;" (.ref w_NOT_NEGATIVE) := Fld.other W51 f_311 (Or.inl ne_w_TIER1_PREVIOUS_MARCH_b1_308)
    have f_313 : Fld Z h67 w_TIER1_PREVIOUS_MARCH "com/example/poonji/poonji/BankFigures$Item" "sign" "Lcom/example/poonji/poonji/BankFigures$Sign;" (.ref w_NOT_NEGATIVE) := Fld.other W67 f_312 (Or.inl ne_w_TIER1_PREVIOUS_MARCH_b1_308)
    have f_314 : Fld Z h85 w_TIER1_PREVIOUS_MARCH "com/example/poonji/poonji/BankFigures$Item" "sign" "Lcom/example/poonji/poonji/BankFigures$Sign;" (.ref w_NOT_NEGATIVE) := Fld.other W85 f_313 (Or.inl ne_w_TIER1_PREVIOUS_MARCH_b1_308)
    have f_315 : Fld Z h105 w_TIER1_PREVIOUS_MARCH "com/example/poonji/poonji/BankFigures$Item" "sign" "Lcom/example/poonji/poonji/BankFigures$Sign;" (.ref w_NOT_NEGATIVE) := Fld.other W105 f_314 (Or.inl ne_w_TIER1_PREVIOUS_MARCH_b1_308)
    have f_316 : Fld Z h127 w_TIER1_PREVIOUS_MARCH "com/example/poonji/poonji/BankFigures$Item" "sign" "Lcom/example/poonji/poonji/BankFigures$Sign;" (.ref w_NOT_NEGATIVE) := Fld.other W127 f_315 (Or.inl ne_w_TIER1_PREVIOUS_MARCH_b1_308)
    have f_317 : Fld Z h151 w_TIER1_PREVIOUS_MARCH "com/example/poonji/poonji/BankFigures$Item" "sign" "Lcom/example/poonji/poonji/BankFigures$Sign;" (.ref w_NOT_NEGATIVE) := Fld.other W151 f_316 (Or.inl ne_w_TIER1_PREVIOUS_MARCH_b1_308)
    have f_318 : Exa Z h51 w_TIER1_PREVIOUS_MARCH "com/example/poonji/poonji/BankFigures$Item" := Exa.wr W51 f_50
    have f_319 : Exa Z h67 w_TIER1_PREVIOUS_MARCH "com/example/poonji/poonji/BankFigures$Item" := Exa.wr W67 f_318
    have f_320 : Exa Z h85 w_TIER1_PREVIOUS_MARCH "com/example/poonji/poonji/BankFigures$Item" := Exa.wr W85 f_319
    have f_321 : Exa Z h105 w_TIER1_PREVIOUS_MARCH "com/example/poonji/poonji/BankFigures$Item" := Exa.wr W105 f_320
    have f_322 : Exa Z h127 w_TIER1_PREVIOUS_MARCH "com/example/poonji/poonji/BankFigures$Item" := Exa.wr W127 f_321
    have f_323 : Exa Z h151 w_TIER1_PREVIOUS_MARCH "com/example/poonji/poonji/BankFigures$Item" := Exa.wr W151 f_322
    obtain ⟨cq294, kq294, q294a, q294b, q294c⟩ := isOf hZ e151 f_323
    obtain ⟨_, _, ⟨T294, L294, k294, n294⟩, -, X294, ⟨Lc294, hQ294, l294, y294, z294⟩, st294⟩ := X151.virtualBack hx (y := (⟨"com/example/poonji/poonji/BankFigures$Item", "signed", "()Z"⟩ : MethodName)) (z := (⟨"com/example/poonji/poonji/BankFigures$Item", "signed", "()Z"⟩ : MethodName)) hown (mvT hZ (hw _ (List.mem_of_getElem? (i := 25) rfl))) (mvT hZ (hw _ (List.mem_of_getElem? (i := 26) rfl))) (notFace_of_selects (args := #[]) (mvT hZ (hw _ (List.mem_of_getElem? (i := 28) rfl)))) (mvT hZ (hw _ (List.mem_of_getElem? (i := 28) rfl))) (mvT hZ (hw _ (List.mem_of_getElem? (i := 27) rfl))) (by decide) (backOf (W := 0) (rm1n l Z a0 hw [] w_TIER1_PREVIOUS_MARCH w_ANY w_NOT_NEGATIVE h151 n0 Z153 f_305 f_317 ne_w_NOT_NEGATIVE_w_ANY) hZ (hw _ (List.mem_of_getElem? (i := 29) rfl)) (hw _ (List.mem_of_getElem? (i := 3) rfl)) (by decide) (by decide)) q294a q294c (g := (mkF m 93 #[.val (.int p0), .val (.ref b1), .val (.int (4 : Int32)), .val (.int (0 : Int32))] [(.ref w_TIER1_PREVIOUS_MARCH)])) rfl (by rw [hml]; rfl) (Steps.refl _) (argsL := []) (rest := []) (lenOf own_pd8 rfl) rfl (by show 2 * 0 + _ ≤ _; exact Nat.le_of_eq rfl) (hb hby at_93) (fun _ _ => ⟨rfl, e151, (by decide : 1 + 0 ≤ _), (by decide : 10 + 0 ≤ _)⟩)
    dsimp only [Pt.U, Pt.locs, Pt.cells, Pt.slots] at X294 l294 y294 z294 st294 hQ294
    subst l294 y294 z294
    obtain ⟨rfl, N294q, eh294⟩ := hQ294
    have N294 := Fr.app N151 N294q
    refine Good.back (fun _ k => st294.trans k) ?_
    show Good p e below _ (T294.setTop (mkF m 96 #[.val (.int p0), .val (.ref b1), .val (.int (4 : Int32)), .val (.int (0 : Int32))] [(.int (0 : Int32))]))
    refine Good.back (fun _ k => XS.iloadN X294.here hx rfl (hb hby at_96) rfl k) ?_
    show Good p e below _ (T294.setTop (mkF m 97 #[.val (.int p0), .val (.ref b1), .val (.int (4 : Int32)), .val (.int (0 : Int32))] [(.int (0 : Int32)), (.int (0 : Int32))]))
    refine Good.back (fun _ k => XS.icmpNo X294.here hx rfl (hb hby at_97) rfl (teq (by decide : ((0 : Int32) = (0 : Int32)))).2 k) ?_
    show Good p e below _ (T294.setTop (mkF m 100 #[.val (.int p0), .val (.ref b1), .val (.int (4 : Int32)), .val (.int (0 : Int32))] []))
    refine Good.back (fun _ k => XS.iconst X294.here hx rfl (hb hby at_100) k) ?_
    show Good p e below _ (T294.setTop (mkF m 101 #[.val (.int p0), .val (.ref b1), .val (.int (4 : Int32)), .val (.int (0 : Int32))] [(.int (1 : Int32))]))
    refine Good.back (fun _ k => XS.goto X294.here hx rfl (pc0 := 101) (pc' := 105) rfl (hb hby at_101) (by decide) (by decide) k) ?_
    show Good p e below _ (T294.setTop (mkF m 105 #[.val (.int p0), .val (.ref b1), .val (.int (4 : Int32)), .val (.int (0 : Int32))] [(.int (1 : Int32))]))
    obtain ⟨fs324, hr324, hrun324, hended324, hW324, hsame324⟩ := X294.leave (v := some (.int (1 : Int32))) (fun h => by rw [Bd.returns] at h; cases h)
    refine Good.done (retN X294 hx (t := .boolean) Bd.returns (by simp) (hb hby at_105) hr324) hrun324 hended324 ⟨_, _, rfl, ?_, ⟨_, rfl⟩, hW324, hsame324.mono (by decide) (by decide)⟩
    show Q0 Z p0 w_CURRENT_YEAR_PROFIT w_CURRENT_YEAR_LOSS w_RISK_WEIGHTED_ASSETS w_OTHER_TIER2_CAPITAL w_TIER1_PREVIOUS_MARCH w_EQUITY_INVESTMENT_IN_SUBSIDIARIES w_NABARD_ASSESSED_CRAR w_CAPITAL_ADDED_SINCE_BALANCE_SHEET w_CAPITAL_REDUCED_SINCE_BALANCE_SHEET w_LOSSES_SINCE_BALANCE_SHEET w_NOT_NEGATIVE w_ANY h0 n0 _ T294.heap _
    rw [eh294]
    exact ⟨rfl, N294⟩
  · have he154' : ((p0 &&& (2147483647 : Int32)) % (10 : Int32)) = (5 : Int32) := he154
    rw [he154']
    show Good p e below _ (T151.setTop (mkF m 78 #[.val (.int p0), .val (.ref b1), .val (.int (5 : Int32)), .unset] []))
    refine Good.back (fun _ k => XS.iloadN X151.here hx rfl (hb hby at_78) rfl k) ?_
    show Good p e below _ (T151.setTop (mkF m 79 #[.val (.int p0), .val (.ref b1), .val (.int (5 : Int32)), .unset] [(.int (5 : Int32))]))
    refine Good.back (fun _ k => XS.bipush X151.here hx rfl (hb hby at_79) k) ?_
    show Good p e below _ (T151.setTop (mkF m 81 #[.val (.int p0), .val (.ref b1), .val (.int (5 : Int32)), .unset] [(.int (6 : Int32)), (.int (5 : Int32))]))
    refine Good.back (fun _ k => XS.icmpYes X151.here hx rfl (pc0 := 81) (pc' := 88) rfl (hb hby at_81) rfl (feq (by decide : ¬ ((5 : Int32) = (6 : Int32)))).2 (by decide) (by decide) k) ?_
    show Good p e below _ (T151.setTop (mkF m 88 #[.val (.int p0), .val (.ref b1), .val (.int (5 : Int32)), .unset] []))
    refine Good.back (fun _ k => XS.iconst X151.here hx rfl (hb hby at_88) k) ?_
    show Good p e below _ (T151.setTop (mkF m 89 #[.val (.int p0), .val (.ref b1), .val (.int (5 : Int32)), .unset] [(.int (0 : Int32))]))
    refine Good.back (fun _ k => XS.istoreN X151.here hx rfl (hb hby at_89) rfl (l' := #[.val (.int p0), .val (.ref b1), .val (.int (5 : Int32)), .val (.int (0 : Int32))]) rfl k) ?_
    show Good p e below _ (T151.setTop (mkF m 90 #[.val (.int p0), .val (.ref b1), .val (.int (5 : Int32)), .val (.int (0 : Int32))] []))
    refine Good.back (fun _ k => XS.aloadN X151.here hx rfl (hb hby at_90) rfl rfl k) ?_
    show Good p e below _ (T151.setTop (mkF m 91 #[.val (.int p0), .val (.ref b1), .val (.int (5 : Int32)), .val (.int (0 : Int32))] [(.ref b1)]))
    refine Good.back (fun _ k => XS.iloadN X151.here hx rfl (hb hby at_91) rfl k) ?_
    show Good p e below _ (T151.setTop (mkF m 92 #[.val (.int p0), .val (.ref b1), .val (.int (5 : Int32)), .val (.int (0 : Int32))] [(.int (5 : Int32)), (.ref b1)]))
    have fc325 := f_152
    obtain ⟨cl325, Ar325, qk325, S325, N325', H325, G325⟩ := fc325
    have hin325 : ¬ ((5 : Int32) < 0 ∨ cl325.slots.size ≤ ((5 : Int32)).toNatClampNeg) := inb_of S325 ⟨by decide, by decide⟩
    have hat325 : cl325.slots[((5 : Int32)).toNatClampNeg]? = some (.ref w_EQUITY_INVESTMENT_IN_SUBSIDIARIES) := Has.at H325 hin325 rfl
    refine Good.back (X151.aaload hx (j := (5 : Int32)) (v := (.ref w_EQUITY_INVESTMENT_IN_SUBSIDIARIES)) (by rw [e151]; exact Ar325.1) (State.isArrayOf_alike hZ.alike Ar325.2.1) rfl Ar325.2.2 hin325 hat325 (g := (mkF m 92 #[.val (.int p0), .val (.ref b1), .val (.int (5 : Int32)), .val (.int (0 : Int32))] [(.int (5 : Int32)), (.ref b1)])) rfl rfl (hb hby at_92)) ?_
    show Good p e below _ (T151.setTop (mkF m 93 #[.val (.int p0), .val (.ref b1), .val (.int (5 : Int32)), .val (.int (0 : Int32))] [(.ref w_EQUITY_INVESTMENT_IN_SUBSIDIARIES)]))
    have f_327 : Sta Z h1 "com/example/poonji/poonji/BankFigures$Sign" "ANY" "Lcom/example/poonji/poonji/BankFigures$Sign;" (.ref w_ANY) := Sta.ext E1 S_w_ANY
    have f_328 : Sta Z h7 "com/example/poonji/poonji/BankFigures$Sign" "ANY" "Lcom/example/poonji/poonji/BankFigures$Sign;" (.ref w_ANY) := Sta.wr W7 f_327
    have f_329 : Sta Z h15 "com/example/poonji/poonji/BankFigures$Sign" "ANY" "Lcom/example/poonji/poonji/BankFigures$Sign;" (.ref w_ANY) := Sta.wr W15 f_328
    have f_330 : Sta Z h25 "com/example/poonji/poonji/BankFigures$Sign" "ANY" "Lcom/example/poonji/poonji/BankFigures$Sign;" (.ref w_ANY) := Sta.wr W25 f_329
    have f_331 : Sta Z h37 "com/example/poonji/poonji/BankFigures$Sign" "ANY" "Lcom/example/poonji/poonji/BankFigures$Sign;" (.ref w_ANY) := Sta.wr W37 f_330
    have f_332 : Sta Z h51 "com/example/poonji/poonji/BankFigures$Sign" "ANY" "Lcom/example/poonji/poonji/BankFigures$Sign;" (.ref w_ANY) := Sta.wr W51 f_331
    have f_333 : Sta Z h67 "com/example/poonji/poonji/BankFigures$Sign" "ANY" "Lcom/example/poonji/poonji/BankFigures$Sign;" (.ref w_ANY) := Sta.wr W67 f_332
    have f_334 : Sta Z h85 "com/example/poonji/poonji/BankFigures$Sign" "ANY" "Lcom/example/poonji/poonji/BankFigures$Sign;" (.ref w_ANY) := Sta.wr W85 f_333
    have f_335 : Sta Z h105 "com/example/poonji/poonji/BankFigures$Sign" "ANY" "Lcom/example/poonji/poonji/BankFigures$Sign;" (.ref w_ANY) := Sta.wr W105 f_334
    have f_336 : Sta Z h127 "com/example/poonji/poonji/BankFigures$Sign" "ANY" "Lcom/example/poonji/poonji/BankFigures$Sign;" (.ref w_ANY) := Sta.wr W127 f_335
    have f_337 : Sta Z h151 "com/example/poonji/poonji/BankFigures$Sign" "ANY" "Lcom/example/poonji/poonji/BankFigures$Sign;" (.ref w_ANY) := Sta.wr W151 f_336
    have f_338 : Fld Z h1 w_EQUITY_INVESTMENT_IN_SUBSIDIARIES "com/example/poonji/poonji/BankFigures$Item" "sign" "Lcom/example/poonji/poonji/BankFigures$Sign;" (.ref w_NOT_NEGATIVE) := Fld.ext E1 F_sign_w_EQUITY_INVESTMENT_IN_SUBSIDIARIES
    have ne_w_EQUITY_INVESTMENT_IN_SUBSIDIARIES_b1_340 : w_EQUITY_INVESTMENT_IN_SUBSIDIARIES ≠ b1 := Nat.ne_of_lt (Nat.lt_of_lt_of_le F_sign_w_EQUITY_INVESTMENT_IN_SUBSIDIARIES.lt (Nat.le_of_eq g1.symm))
    have f_339 : Fld Z h7 w_EQUITY_INVESTMENT_IN_SUBSIDIARIES "com/example/poonji/poonji/BankFigures$Item" "sign" "Lcom/example/poonji/poonji/BankFigures$Sign;" (.ref w_NOT_NEGATIVE) := Fld.other W7 f_338 (Or.inl ne_w_EQUITY_INVESTMENT_IN_SUBSIDIARIES_b1_340)
    have f_341 : Fld Z h15 w_EQUITY_INVESTMENT_IN_SUBSIDIARIES "com/example/poonji/poonji/BankFigures$Item" "sign" "Lcom/example/poonji/poonji/BankFigures$Sign;" (.ref w_NOT_NEGATIVE) := Fld.other W15 f_339 (Or.inl ne_w_EQUITY_INVESTMENT_IN_SUBSIDIARIES_b1_340)
    have f_342 : Fld Z h25 w_EQUITY_INVESTMENT_IN_SUBSIDIARIES "com/example/poonji/poonji/BankFigures$Item" "sign" "Lcom/example/poonji/poonji/BankFigures$Sign;" (.ref w_NOT_NEGATIVE) := Fld.other W25 f_341 (Or.inl ne_w_EQUITY_INVESTMENT_IN_SUBSIDIARIES_b1_340)
    have f_343 : Fld Z h37 w_EQUITY_INVESTMENT_IN_SUBSIDIARIES "com/example/poonji/poonji/BankFigures$Item" "sign" "Lcom/example/poonji/poonji/BankFigures$Sign;" (.ref w_NOT_NEGATIVE) := Fld.other W37 f_342 (Or.inl ne_w_EQUITY_INVESTMENT_IN_SUBSIDIARIES_b1_340)
    have f_344 : Fld Z h51 w_EQUITY_INVESTMENT_IN_SUBSIDIARIES "com/example/poonji/poonji/BankFigures$Item" "sign" "Lcom/example/poonji/poonji/BankFigures$Sign;" (.ref w_NOT_NEGATIVE) := Fld.other W51 f_343 (Or.inl ne_w_EQUITY_INVESTMENT_IN_SUBSIDIARIES_b1_340)
    have f_345 : Fld Z h67 w_EQUITY_INVESTMENT_IN_SUBSIDIARIES "com/example/poonji/poonji/BankFigures$Item" "sign" "Lcom/example/poonji/poonji/BankFigures$Sign;" (.ref w_NOT_NEGATIVE) := Fld.other W67 f_344 (Or.inl ne_w_EQUITY_INVESTMENT_IN_SUBSIDIARIES_b1_340)
    have f_346 : Fld Z h85 w_EQUITY_INVESTMENT_IN_SUBSIDIARIES "com/example/poonji/poonji/BankFigures$Item" "sign" "Lcom/example/poonji/poonji/BankFigures$Sign;" (.ref w_NOT_NEGATIVE) := Fld.other W85 f_345 (Or.inl ne_w_EQUITY_INVESTMENT_IN_SUBSIDIARIES_b1_340)
    have f_347 : Fld Z h105 w_EQUITY_INVESTMENT_IN_SUBSIDIARIES "com/example/poonji/poonji/BankFigures$Item" "sign" "Lcom/example/poonji/poonji/BankFigures$Sign;" (.ref w_NOT_NEGATIVE) := Fld.other W105 f_346 (Or.inl ne_w_EQUITY_INVESTMENT_IN_SUBSIDIARIES_b1_340)
    have f_348 : Fld Z h127 w_EQUITY_INVESTMENT_IN_SUBSIDIARIES "com/example/poonji/poonji/BankFigures$Item" "sign" "Lcom/example/poonji/poonji/BankFigures$Sign;" (.ref w_NOT_NEGATIVE) := Fld.other W127 f_347 (Or.inl ne_w_EQUITY_INVESTMENT_IN_SUBSIDIARIES_b1_340)
    have f_349 : Fld Z h151 w_EQUITY_INVESTMENT_IN_SUBSIDIARIES "com/example/poonji/poonji/BankFigures$Item" "sign" "Lcom/example/poonji/poonji/BankFigures$Sign;" (.ref w_NOT_NEGATIVE) := Fld.other W151 f_348 (Or.inl ne_w_EQUITY_INVESTMENT_IN_SUBSIDIARIES_b1_340)
    have f_350 : Exa Z h67 w_EQUITY_INVESTMENT_IN_SUBSIDIARIES "com/example/poonji/poonji/BankFigures$Item" := Exa.wr W67 f_66
    have f_351 : Exa Z h85 w_EQUITY_INVESTMENT_IN_SUBSIDIARIES "com/example/poonji/poonji/BankFigures$Item" := Exa.wr W85 f_350
    have f_352 : Exa Z h105 w_EQUITY_INVESTMENT_IN_SUBSIDIARIES "com/example/poonji/poonji/BankFigures$Item" := Exa.wr W105 f_351
    have f_353 : Exa Z h127 w_EQUITY_INVESTMENT_IN_SUBSIDIARIES "com/example/poonji/poonji/BankFigures$Item" := Exa.wr W127 f_352
    have f_354 : Exa Z h151 w_EQUITY_INVESTMENT_IN_SUBSIDIARIES "com/example/poonji/poonji/BankFigures$Item" := Exa.wr W151 f_353
    obtain ⟨cq326, kq326, q326a, q326b, q326c⟩ := isOf hZ e151 f_354
    obtain ⟨_, _, ⟨T326, L326, k326, n326⟩, -, X326, ⟨Lc326, hQ326, l326, y326, z326⟩, st326⟩ := X151.virtualBack hx (y := (⟨"com/example/poonji/poonji/BankFigures$Item", "signed", "()Z"⟩ : MethodName)) (z := (⟨"com/example/poonji/poonji/BankFigures$Item", "signed", "()Z"⟩ : MethodName)) hown (mvT hZ (hw _ (List.mem_of_getElem? (i := 25) rfl))) (mvT hZ (hw _ (List.mem_of_getElem? (i := 26) rfl))) (notFace_of_selects (args := #[]) (mvT hZ (hw _ (List.mem_of_getElem? (i := 28) rfl)))) (mvT hZ (hw _ (List.mem_of_getElem? (i := 28) rfl))) (mvT hZ (hw _ (List.mem_of_getElem? (i := 27) rfl))) (by decide) (backOf (W := 0) (rm1n l Z a0 hw [] w_EQUITY_INVESTMENT_IN_SUBSIDIARIES w_ANY w_NOT_NEGATIVE h151 n0 Z153 f_337 f_349 ne_w_NOT_NEGATIVE_w_ANY) hZ (hw _ (List.mem_of_getElem? (i := 29) rfl)) (hw _ (List.mem_of_getElem? (i := 3) rfl)) (by decide) (by decide)) q326a q326c (g := (mkF m 93 #[.val (.int p0), .val (.ref b1), .val (.int (5 : Int32)), .val (.int (0 : Int32))] [(.ref w_EQUITY_INVESTMENT_IN_SUBSIDIARIES)])) rfl (by rw [hml]; rfl) (Steps.refl _) (argsL := []) (rest := []) (lenOf own_pd8 rfl) rfl (by show 2 * 0 + _ ≤ _; exact Nat.le_of_eq rfl) (hb hby at_93) (fun _ _ => ⟨rfl, e151, (by decide : 1 + 0 ≤ _), (by decide : 10 + 0 ≤ _)⟩)
    dsimp only [Pt.U, Pt.locs, Pt.cells, Pt.slots] at X326 l326 y326 z326 st326 hQ326
    subst l326 y326 z326
    obtain ⟨rfl, N326q, eh326⟩ := hQ326
    have N326 := Fr.app N151 N326q
    refine Good.back (fun _ k => st326.trans k) ?_
    show Good p e below _ (T326.setTop (mkF m 96 #[.val (.int p0), .val (.ref b1), .val (.int (5 : Int32)), .val (.int (0 : Int32))] [(.int (0 : Int32))]))
    refine Good.back (fun _ k => XS.iloadN X326.here hx rfl (hb hby at_96) rfl k) ?_
    show Good p e below _ (T326.setTop (mkF m 97 #[.val (.int p0), .val (.ref b1), .val (.int (5 : Int32)), .val (.int (0 : Int32))] [(.int (0 : Int32)), (.int (0 : Int32))]))
    refine Good.back (fun _ k => XS.icmpNo X326.here hx rfl (hb hby at_97) rfl (teq (by decide : ((0 : Int32) = (0 : Int32)))).2 k) ?_
    show Good p e below _ (T326.setTop (mkF m 100 #[.val (.int p0), .val (.ref b1), .val (.int (5 : Int32)), .val (.int (0 : Int32))] []))
    refine Good.back (fun _ k => XS.iconst X326.here hx rfl (hb hby at_100) k) ?_
    show Good p e below _ (T326.setTop (mkF m 101 #[.val (.int p0), .val (.ref b1), .val (.int (5 : Int32)), .val (.int (0 : Int32))] [(.int (1 : Int32))]))
    refine Good.back (fun _ k => XS.goto X326.here hx rfl (pc0 := 101) (pc' := 105) rfl (hb hby at_101) (by decide) (by decide) k) ?_
    show Good p e below _ (T326.setTop (mkF m 105 #[.val (.int p0), .val (.ref b1), .val (.int (5 : Int32)), .val (.int (0 : Int32))] [(.int (1 : Int32))]))
    obtain ⟨fs355, hr355, hrun355, hended355, hW355, hsame355⟩ := X326.leave (v := some (.int (1 : Int32))) (fun h => by rw [Bd.returns] at h; cases h)
    refine Good.done (retN X326 hx (t := .boolean) Bd.returns (by simp) (hb hby at_105) hr355) hrun355 hended355 ⟨_, _, rfl, ?_, ⟨_, rfl⟩, hW355, hsame355.mono (by decide) (by decide)⟩
    show Q0 Z p0 w_CURRENT_YEAR_PROFIT w_CURRENT_YEAR_LOSS w_RISK_WEIGHTED_ASSETS w_OTHER_TIER2_CAPITAL w_TIER1_PREVIOUS_MARCH w_EQUITY_INVESTMENT_IN_SUBSIDIARIES w_NABARD_ASSESSED_CRAR w_CAPITAL_ADDED_SINCE_BALANCE_SHEET w_CAPITAL_REDUCED_SINCE_BALANCE_SHEET w_LOSSES_SINCE_BALANCE_SHEET w_NOT_NEGATIVE w_ANY h0 n0 _ T326.heap _
    rw [eh326]
    exact ⟨rfl, N326⟩
  · have he154' : ((p0 &&& (2147483647 : Int32)) % (10 : Int32)) = (6 : Int32) := he154
    rw [he154']
    show Good p e below _ (T151.setTop (mkF m 78 #[.val (.int p0), .val (.ref b1), .val (.int (6 : Int32)), .unset] []))
    refine Good.back (fun _ k => XS.iloadN X151.here hx rfl (hb hby at_78) rfl k) ?_
    show Good p e below _ (T151.setTop (mkF m 79 #[.val (.int p0), .val (.ref b1), .val (.int (6 : Int32)), .unset] [(.int (6 : Int32))]))
    refine Good.back (fun _ k => XS.bipush X151.here hx rfl (hb hby at_79) k) ?_
    show Good p e below _ (T151.setTop (mkF m 81 #[.val (.int p0), .val (.ref b1), .val (.int (6 : Int32)), .unset] [(.int (6 : Int32)), (.int (6 : Int32))]))
    refine Good.back (fun _ k => XS.icmpNo X151.here hx rfl (hb hby at_81) rfl (teq (by decide : ((6 : Int32) = (6 : Int32)))).2 k) ?_
    show Good p e below _ (T151.setTop (mkF m 84 #[.val (.int p0), .val (.ref b1), .val (.int (6 : Int32)), .unset] []))
    refine Good.back (fun _ k => XS.iconst X151.here hx rfl (hb hby at_84) k) ?_
    show Good p e below _ (T151.setTop (mkF m 85 #[.val (.int p0), .val (.ref b1), .val (.int (6 : Int32)), .unset] [(.int (1 : Int32))]))
    refine Good.back (fun _ k => XS.goto X151.here hx rfl (pc0 := 85) (pc' := 89) rfl (hb hby at_85) (by decide) (by decide) k) ?_
    show Good p e below _ (T151.setTop (mkF m 89 #[.val (.int p0), .val (.ref b1), .val (.int (6 : Int32)), .unset] [(.int (1 : Int32))]))
    refine Good.back (fun _ k => XS.istoreN X151.here hx rfl (hb hby at_89) rfl (l' := #[.val (.int p0), .val (.ref b1), .val (.int (6 : Int32)), .val (.int (1 : Int32))]) rfl k) ?_
    show Good p e below _ (T151.setTop (mkF m 90 #[.val (.int p0), .val (.ref b1), .val (.int (6 : Int32)), .val (.int (1 : Int32))] []))
    refine Good.back (fun _ k => XS.aloadN X151.here hx rfl (hb hby at_90) rfl rfl k) ?_
    show Good p e below _ (T151.setTop (mkF m 91 #[.val (.int p0), .val (.ref b1), .val (.int (6 : Int32)), .val (.int (1 : Int32))] [(.ref b1)]))
    refine Good.back (fun _ k => XS.iloadN X151.here hx rfl (hb hby at_91) rfl k) ?_
    show Good p e below _ (T151.setTop (mkF m 92 #[.val (.int p0), .val (.ref b1), .val (.int (6 : Int32)), .val (.int (1 : Int32))] [(.int (6 : Int32)), (.ref b1)]))
    have fc356 := f_152
    obtain ⟨cl356, Ar356, qk356, S356, N356', H356, G356⟩ := fc356
    have hin356 : ¬ ((6 : Int32) < 0 ∨ cl356.slots.size ≤ ((6 : Int32)).toNatClampNeg) := inb_of S356 ⟨by decide, by decide⟩
    have hat356 : cl356.slots[((6 : Int32)).toNatClampNeg]? = some (.ref w_NABARD_ASSESSED_CRAR) := Has.at H356 hin356 rfl
    refine Good.back (X151.aaload hx (j := (6 : Int32)) (v := (.ref w_NABARD_ASSESSED_CRAR)) (by rw [e151]; exact Ar356.1) (State.isArrayOf_alike hZ.alike Ar356.2.1) rfl Ar356.2.2 hin356 hat356 (g := (mkF m 92 #[.val (.int p0), .val (.ref b1), .val (.int (6 : Int32)), .val (.int (1 : Int32))] [(.int (6 : Int32)), (.ref b1)])) rfl rfl (hb hby at_92)) ?_
    show Good p e below _ (T151.setTop (mkF m 93 #[.val (.int p0), .val (.ref b1), .val (.int (6 : Int32)), .val (.int (1 : Int32))] [(.ref w_NABARD_ASSESSED_CRAR)]))
    have f_358 : Sta Z h1 "com/example/poonji/poonji/BankFigures$Sign" "ANY" "Lcom/example/poonji/poonji/BankFigures$Sign;" (.ref w_ANY) := Sta.ext E1 S_w_ANY
    have f_359 : Sta Z h7 "com/example/poonji/poonji/BankFigures$Sign" "ANY" "Lcom/example/poonji/poonji/BankFigures$Sign;" (.ref w_ANY) := Sta.wr W7 f_358
    have f_360 : Sta Z h15 "com/example/poonji/poonji/BankFigures$Sign" "ANY" "Lcom/example/poonji/poonji/BankFigures$Sign;" (.ref w_ANY) := Sta.wr W15 f_359
    have f_361 : Sta Z h25 "com/example/poonji/poonji/BankFigures$Sign" "ANY" "Lcom/example/poonji/poonji/BankFigures$Sign;" (.ref w_ANY) := Sta.wr W25 f_360
    have f_362 : Sta Z h37 "com/example/poonji/poonji/BankFigures$Sign" "ANY" "Lcom/example/poonji/poonji/BankFigures$Sign;" (.ref w_ANY) := Sta.wr W37 f_361
    have f_363 : Sta Z h51 "com/example/poonji/poonji/BankFigures$Sign" "ANY" "Lcom/example/poonji/poonji/BankFigures$Sign;" (.ref w_ANY) := Sta.wr W51 f_362
    have f_364 : Sta Z h67 "com/example/poonji/poonji/BankFigures$Sign" "ANY" "Lcom/example/poonji/poonji/BankFigures$Sign;" (.ref w_ANY) := Sta.wr W67 f_363
    have f_365 : Sta Z h85 "com/example/poonji/poonji/BankFigures$Sign" "ANY" "Lcom/example/poonji/poonji/BankFigures$Sign;" (.ref w_ANY) := Sta.wr W85 f_364
    have f_366 : Sta Z h105 "com/example/poonji/poonji/BankFigures$Sign" "ANY" "Lcom/example/poonji/poonji/BankFigures$Sign;" (.ref w_ANY) := Sta.wr W105 f_365
    have f_367 : Sta Z h127 "com/example/poonji/poonji/BankFigures$Sign" "ANY" "Lcom/example/poonji/poonji/BankFigures$Sign;" (.ref w_ANY) := Sta.wr W127 f_366
    have f_368 : Sta Z h151 "com/example/poonji/poonji/BankFigures$Sign" "ANY" "Lcom/example/poonji/poonji/BankFigures$Sign;" (.ref w_ANY) := Sta.wr W151 f_367
    have f_369 : Fld Z h1 w_NABARD_ASSESSED_CRAR "com/example/poonji/poonji/BankFigures$Item" "sign" "Lcom/example/poonji/poonji/BankFigures$Sign;" (.ref w_ANY) := Fld.ext E1 F_sign_w_NABARD_ASSESSED_CRAR
    have ne_w_NABARD_ASSESSED_CRAR_b1_371 : w_NABARD_ASSESSED_CRAR ≠ b1 := Nat.ne_of_lt (Nat.lt_of_lt_of_le F_sign_w_NABARD_ASSESSED_CRAR.lt (Nat.le_of_eq g1.symm))
    have f_370 : Fld Z h7 w_NABARD_ASSESSED_CRAR "com/example/poonji/poonji/BankFigures$Item" "sign" "Lcom/example/poonji/poonji/BankFigures$Sign;" (.ref w_ANY) := Fld.other W7 f_369 (Or.inl ne_w_NABARD_ASSESSED_CRAR_b1_371)
    have f_372 : Fld Z h15 w_NABARD_ASSESSED_CRAR "com/example/poonji/poonji/BankFigures$Item" "sign" "Lcom/example/poonji/poonji/BankFigures$Sign;" (.ref w_ANY) := Fld.other W15 f_370 (Or.inl ne_w_NABARD_ASSESSED_CRAR_b1_371)
    have f_373 : Fld Z h25 w_NABARD_ASSESSED_CRAR "com/example/poonji/poonji/BankFigures$Item" "sign" "Lcom/example/poonji/poonji/BankFigures$Sign;" (.ref w_ANY) := Fld.other W25 f_372 (Or.inl ne_w_NABARD_ASSESSED_CRAR_b1_371)
    have f_374 : Fld Z h37 w_NABARD_ASSESSED_CRAR "com/example/poonji/poonji/BankFigures$Item" "sign" "Lcom/example/poonji/poonji/BankFigures$Sign;" (.ref w_ANY) := Fld.other W37 f_373 (Or.inl ne_w_NABARD_ASSESSED_CRAR_b1_371)
    have f_375 : Fld Z h51 w_NABARD_ASSESSED_CRAR "com/example/poonji/poonji/BankFigures$Item" "sign" "Lcom/example/poonji/poonji/BankFigures$Sign;" (.ref w_ANY) := Fld.other W51 f_374 (Or.inl ne_w_NABARD_ASSESSED_CRAR_b1_371)
    have f_376 : Fld Z h67 w_NABARD_ASSESSED_CRAR "com/example/poonji/poonji/BankFigures$Item" "sign" "Lcom/example/poonji/poonji/BankFigures$Sign;" (.ref w_ANY) := Fld.other W67 f_375 (Or.inl ne_w_NABARD_ASSESSED_CRAR_b1_371)
    have f_377 : Fld Z h85 w_NABARD_ASSESSED_CRAR "com/example/poonji/poonji/BankFigures$Item" "sign" "Lcom/example/poonji/poonji/BankFigures$Sign;" (.ref w_ANY) := Fld.other W85 f_376 (Or.inl ne_w_NABARD_ASSESSED_CRAR_b1_371)
    have f_378 : Fld Z h105 w_NABARD_ASSESSED_CRAR "com/example/poonji/poonji/BankFigures$Item" "sign" "Lcom/example/poonji/poonji/BankFigures$Sign;" (.ref w_ANY) := Fld.other W105 f_377 (Or.inl ne_w_NABARD_ASSESSED_CRAR_b1_371)
    have f_379 : Fld Z h127 w_NABARD_ASSESSED_CRAR "com/example/poonji/poonji/BankFigures$Item" "sign" "Lcom/example/poonji/poonji/BankFigures$Sign;" (.ref w_ANY) := Fld.other W127 f_378 (Or.inl ne_w_NABARD_ASSESSED_CRAR_b1_371)
    have f_380 : Fld Z h151 w_NABARD_ASSESSED_CRAR "com/example/poonji/poonji/BankFigures$Item" "sign" "Lcom/example/poonji/poonji/BankFigures$Sign;" (.ref w_ANY) := Fld.other W151 f_379 (Or.inl ne_w_NABARD_ASSESSED_CRAR_b1_371)
    have f_381 : Exa Z h85 w_NABARD_ASSESSED_CRAR "com/example/poonji/poonji/BankFigures$Item" := Exa.wr W85 f_84
    have f_382 : Exa Z h105 w_NABARD_ASSESSED_CRAR "com/example/poonji/poonji/BankFigures$Item" := Exa.wr W105 f_381
    have f_383 : Exa Z h127 w_NABARD_ASSESSED_CRAR "com/example/poonji/poonji/BankFigures$Item" := Exa.wr W127 f_382
    have f_384 : Exa Z h151 w_NABARD_ASSESSED_CRAR "com/example/poonji/poonji/BankFigures$Item" := Exa.wr W151 f_383
    obtain ⟨cq357, kq357, q357a, q357b, q357c⟩ := isOf hZ e151 f_384
    obtain ⟨_, _, ⟨T357, L357, k357, n357⟩, -, X357, ⟨Lc357, hQ357, l357, y357, z357⟩, st357⟩ := X151.virtualBack hx (y := (⟨"com/example/poonji/poonji/BankFigures$Item", "signed", "()Z"⟩ : MethodName)) (z := (⟨"com/example/poonji/poonji/BankFigures$Item", "signed", "()Z"⟩ : MethodName)) hown (mvT hZ (hw _ (List.mem_of_getElem? (i := 25) rfl))) (mvT hZ (hw _ (List.mem_of_getElem? (i := 26) rfl))) (notFace_of_selects (args := #[]) (mvT hZ (hw _ (List.mem_of_getElem? (i := 28) rfl)))) (mvT hZ (hw _ (List.mem_of_getElem? (i := 28) rfl))) (mvT hZ (hw _ (List.mem_of_getElem? (i := 27) rfl))) (by decide) (backOf (W := 0) (rm1y l Z a0 hw [] w_NABARD_ASSESSED_CRAR w_ANY h151 n0 Z153 f_368 f_380) hZ (hw _ (List.mem_of_getElem? (i := 29) rfl)) (hw _ (List.mem_of_getElem? (i := 3) rfl)) (by decide) (by decide)) q357a q357c (g := (mkF m 93 #[.val (.int p0), .val (.ref b1), .val (.int (6 : Int32)), .val (.int (1 : Int32))] [(.ref w_NABARD_ASSESSED_CRAR)])) rfl (by rw [hml]; rfl) (Steps.refl _) (argsL := []) (rest := []) (lenOf own_pd8 rfl) rfl (by show 2 * 0 + _ ≤ _; exact Nat.le_of_eq rfl) (hb hby at_93) (fun _ _ => ⟨rfl, e151, (by decide : 1 + 0 ≤ _), (by decide : 10 + 0 ≤ _)⟩)
    dsimp only [Pt.U, Pt.locs, Pt.cells, Pt.slots] at X357 l357 y357 z357 st357 hQ357
    subst l357 y357 z357
    obtain ⟨rfl, N357q, eh357⟩ := hQ357
    have N357 := Fr.app N151 N357q
    refine Good.back (fun _ k => st357.trans k) ?_
    show Good p e below _ (T357.setTop (mkF m 96 #[.val (.int p0), .val (.ref b1), .val (.int (6 : Int32)), .val (.int (1 : Int32))] [(.int (1 : Int32))]))
    refine Good.back (fun _ k => XS.iloadN X357.here hx rfl (hb hby at_96) rfl k) ?_
    show Good p e below _ (T357.setTop (mkF m 97 #[.val (.int p0), .val (.ref b1), .val (.int (6 : Int32)), .val (.int (1 : Int32))] [(.int (1 : Int32)), (.int (1 : Int32))]))
    refine Good.back (fun _ k => XS.icmpNo X357.here hx rfl (hb hby at_97) rfl (teq (by decide : ((1 : Int32) = (1 : Int32)))).2 k) ?_
    show Good p e below _ (T357.setTop (mkF m 100 #[.val (.int p0), .val (.ref b1), .val (.int (6 : Int32)), .val (.int (1 : Int32))] []))
    refine Good.back (fun _ k => XS.iconst X357.here hx rfl (hb hby at_100) k) ?_
    show Good p e below _ (T357.setTop (mkF m 101 #[.val (.int p0), .val (.ref b1), .val (.int (6 : Int32)), .val (.int (1 : Int32))] [(.int (1 : Int32))]))
    refine Good.back (fun _ k => XS.goto X357.here hx rfl (pc0 := 101) (pc' := 105) rfl (hb hby at_101) (by decide) (by decide) k) ?_
    show Good p e below _ (T357.setTop (mkF m 105 #[.val (.int p0), .val (.ref b1), .val (.int (6 : Int32)), .val (.int (1 : Int32))] [(.int (1 : Int32))]))
    obtain ⟨fs385, hr385, hrun385, hended385, hW385, hsame385⟩ := X357.leave (v := some (.int (1 : Int32))) (fun h => by rw [Bd.returns] at h; cases h)
    refine Good.done (retN X357 hx (t := .boolean) Bd.returns (by simp) (hb hby at_105) hr385) hrun385 hended385 ⟨_, _, rfl, ?_, ⟨_, rfl⟩, hW385, hsame385.mono (by decide) (by decide)⟩
    show Q0 Z p0 w_CURRENT_YEAR_PROFIT w_CURRENT_YEAR_LOSS w_RISK_WEIGHTED_ASSETS w_OTHER_TIER2_CAPITAL w_TIER1_PREVIOUS_MARCH w_EQUITY_INVESTMENT_IN_SUBSIDIARIES w_NABARD_ASSESSED_CRAR w_CAPITAL_ADDED_SINCE_BALANCE_SHEET w_CAPITAL_REDUCED_SINCE_BALANCE_SHEET w_LOSSES_SINCE_BALANCE_SHEET w_NOT_NEGATIVE w_ANY h0 n0 _ T357.heap _
    rw [eh357]
    exact ⟨rfl, N357⟩
  · have he154' : ((p0 &&& (2147483647 : Int32)) % (10 : Int32)) = (7 : Int32) := he154
    rw [he154']
    show Good p e below _ (T151.setTop (mkF m 78 #[.val (.int p0), .val (.ref b1), .val (.int (7 : Int32)), .unset] []))
    refine Good.back (fun _ k => XS.iloadN X151.here hx rfl (hb hby at_78) rfl k) ?_
    show Good p e below _ (T151.setTop (mkF m 79 #[.val (.int p0), .val (.ref b1), .val (.int (7 : Int32)), .unset] [(.int (7 : Int32))]))
    refine Good.back (fun _ k => XS.bipush X151.here hx rfl (hb hby at_79) k) ?_
    show Good p e below _ (T151.setTop (mkF m 81 #[.val (.int p0), .val (.ref b1), .val (.int (7 : Int32)), .unset] [(.int (6 : Int32)), (.int (7 : Int32))]))
    refine Good.back (fun _ k => XS.icmpYes X151.here hx rfl (pc0 := 81) (pc' := 88) rfl (hb hby at_81) rfl (feq (by decide : ¬ ((7 : Int32) = (6 : Int32)))).2 (by decide) (by decide) k) ?_
    show Good p e below _ (T151.setTop (mkF m 88 #[.val (.int p0), .val (.ref b1), .val (.int (7 : Int32)), .unset] []))
    refine Good.back (fun _ k => XS.iconst X151.here hx rfl (hb hby at_88) k) ?_
    show Good p e below _ (T151.setTop (mkF m 89 #[.val (.int p0), .val (.ref b1), .val (.int (7 : Int32)), .unset] [(.int (0 : Int32))]))
    refine Good.back (fun _ k => XS.istoreN X151.here hx rfl (hb hby at_89) rfl (l' := #[.val (.int p0), .val (.ref b1), .val (.int (7 : Int32)), .val (.int (0 : Int32))]) rfl k) ?_
    show Good p e below _ (T151.setTop (mkF m 90 #[.val (.int p0), .val (.ref b1), .val (.int (7 : Int32)), .val (.int (0 : Int32))] []))
    refine Good.back (fun _ k => XS.aloadN X151.here hx rfl (hb hby at_90) rfl rfl k) ?_
    show Good p e below _ (T151.setTop (mkF m 91 #[.val (.int p0), .val (.ref b1), .val (.int (7 : Int32)), .val (.int (0 : Int32))] [(.ref b1)]))
    refine Good.back (fun _ k => XS.iloadN X151.here hx rfl (hb hby at_91) rfl k) ?_
    show Good p e below _ (T151.setTop (mkF m 92 #[.val (.int p0), .val (.ref b1), .val (.int (7 : Int32)), .val (.int (0 : Int32))] [(.int (7 : Int32)), (.ref b1)]))
    have fc386 := f_152
    obtain ⟨cl386, Ar386, qk386, S386, N386', H386, G386⟩ := fc386
    have hin386 : ¬ ((7 : Int32) < 0 ∨ cl386.slots.size ≤ ((7 : Int32)).toNatClampNeg) := inb_of S386 ⟨by decide, by decide⟩
    have hat386 : cl386.slots[((7 : Int32)).toNatClampNeg]? = some (.ref w_CAPITAL_ADDED_SINCE_BALANCE_SHEET) := Has.at H386 hin386 rfl
    refine Good.back (X151.aaload hx (j := (7 : Int32)) (v := (.ref w_CAPITAL_ADDED_SINCE_BALANCE_SHEET)) (by rw [e151]; exact Ar386.1) (State.isArrayOf_alike hZ.alike Ar386.2.1) rfl Ar386.2.2 hin386 hat386 (g := (mkF m 92 #[.val (.int p0), .val (.ref b1), .val (.int (7 : Int32)), .val (.int (0 : Int32))] [(.int (7 : Int32)), (.ref b1)])) rfl rfl (hb hby at_92)) ?_
    show Good p e below _ (T151.setTop (mkF m 93 #[.val (.int p0), .val (.ref b1), .val (.int (7 : Int32)), .val (.int (0 : Int32))] [(.ref w_CAPITAL_ADDED_SINCE_BALANCE_SHEET)]))
    have f_388 : Sta Z h1 "com/example/poonji/poonji/BankFigures$Sign" "ANY" "Lcom/example/poonji/poonji/BankFigures$Sign;" (.ref w_ANY) := Sta.ext E1 S_w_ANY
    have f_389 : Sta Z h7 "com/example/poonji/poonji/BankFigures$Sign" "ANY" "Lcom/example/poonji/poonji/BankFigures$Sign;" (.ref w_ANY) := Sta.wr W7 f_388
    have f_390 : Sta Z h15 "com/example/poonji/poonji/BankFigures$Sign" "ANY" "Lcom/example/poonji/poonji/BankFigures$Sign;" (.ref w_ANY) := Sta.wr W15 f_389
    have f_391 : Sta Z h25 "com/example/poonji/poonji/BankFigures$Sign" "ANY" "Lcom/example/poonji/poonji/BankFigures$Sign;" (.ref w_ANY) := Sta.wr W25 f_390
    have f_392 : Sta Z h37 "com/example/poonji/poonji/BankFigures$Sign" "ANY" "Lcom/example/poonji/poonji/BankFigures$Sign;" (.ref w_ANY) := Sta.wr W37 f_391
    have f_393 : Sta Z h51 "com/example/poonji/poonji/BankFigures$Sign" "ANY" "Lcom/example/poonji/poonji/BankFigures$Sign;" (.ref w_ANY) := Sta.wr W51 f_392
    have f_394 : Sta Z h67 "com/example/poonji/poonji/BankFigures$Sign" "ANY" "Lcom/example/poonji/poonji/BankFigures$Sign;" (.ref w_ANY) := Sta.wr W67 f_393
    have f_395 : Sta Z h85 "com/example/poonji/poonji/BankFigures$Sign" "ANY" "Lcom/example/poonji/poonji/BankFigures$Sign;" (.ref w_ANY) := Sta.wr W85 f_394
    have f_396 : Sta Z h105 "com/example/poonji/poonji/BankFigures$Sign" "ANY" "Lcom/example/poonji/poonji/BankFigures$Sign;" (.ref w_ANY) := Sta.wr W105 f_395
    have f_397 : Sta Z h127 "com/example/poonji/poonji/BankFigures$Sign" "ANY" "Lcom/example/poonji/poonji/BankFigures$Sign;" (.ref w_ANY) := Sta.wr W127 f_396
    have f_398 : Sta Z h151 "com/example/poonji/poonji/BankFigures$Sign" "ANY" "Lcom/example/poonji/poonji/BankFigures$Sign;" (.ref w_ANY) := Sta.wr W151 f_397
    have f_399 : Fld Z h1 w_CAPITAL_ADDED_SINCE_BALANCE_SHEET "com/example/poonji/poonji/BankFigures$Item" "sign" "Lcom/example/poonji/poonji/BankFigures$Sign;" (.ref w_NOT_NEGATIVE) := Fld.ext E1 F_sign_w_CAPITAL_ADDED_SINCE_BALANCE_SHEET
    have ne_w_CAPITAL_ADDED_SINCE_BALANCE_SHEET_b1_401 : w_CAPITAL_ADDED_SINCE_BALANCE_SHEET ≠ b1 := Nat.ne_of_lt (Nat.lt_of_lt_of_le F_sign_w_CAPITAL_ADDED_SINCE_BALANCE_SHEET.lt (Nat.le_of_eq g1.symm))
    have f_400 : Fld Z h7 w_CAPITAL_ADDED_SINCE_BALANCE_SHEET "com/example/poonji/poonji/BankFigures$Item" "sign" "Lcom/example/poonji/poonji/BankFigures$Sign;" (.ref w_NOT_NEGATIVE) := Fld.other W7 f_399 (Or.inl ne_w_CAPITAL_ADDED_SINCE_BALANCE_SHEET_b1_401)
    have f_402 : Fld Z h15 w_CAPITAL_ADDED_SINCE_BALANCE_SHEET "com/example/poonji/poonji/BankFigures$Item" "sign" "Lcom/example/poonji/poonji/BankFigures$Sign;" (.ref w_NOT_NEGATIVE) := Fld.other W15 f_400 (Or.inl ne_w_CAPITAL_ADDED_SINCE_BALANCE_SHEET_b1_401)
    have f_403 : Fld Z h25 w_CAPITAL_ADDED_SINCE_BALANCE_SHEET "com/example/poonji/poonji/BankFigures$Item" "sign" "Lcom/example/poonji/poonji/BankFigures$Sign;" (.ref w_NOT_NEGATIVE) := Fld.other W25 f_402 (Or.inl ne_w_CAPITAL_ADDED_SINCE_BALANCE_SHEET_b1_401)
    have f_404 : Fld Z h37 w_CAPITAL_ADDED_SINCE_BALANCE_SHEET "com/example/poonji/poonji/BankFigures$Item" "sign" "Lcom/example/poonji/poonji/BankFigures$Sign;" (.ref w_NOT_NEGATIVE) := Fld.other W37 f_403 (Or.inl ne_w_CAPITAL_ADDED_SINCE_BALANCE_SHEET_b1_401)
    have f_405 : Fld Z h51 w_CAPITAL_ADDED_SINCE_BALANCE_SHEET "com/example/poonji/poonji/BankFigures$Item" "sign" "Lcom/example/poonji/poonji/BankFigures$Sign;" (.ref w_NOT_NEGATIVE) := Fld.other W51 f_404 (Or.inl ne_w_CAPITAL_ADDED_SINCE_BALANCE_SHEET_b1_401)
    have f_406 : Fld Z h67 w_CAPITAL_ADDED_SINCE_BALANCE_SHEET "com/example/poonji/poonji/BankFigures$Item" "sign" "Lcom/example/poonji/poonji/BankFigures$Sign;" (.ref w_NOT_NEGATIVE) := Fld.other W67 f_405 (Or.inl ne_w_CAPITAL_ADDED_SINCE_BALANCE_SHEET_b1_401)
    have f_407 : Fld Z h85 w_CAPITAL_ADDED_SINCE_BALANCE_SHEET "com/example/poonji/poonji/BankFigures$Item" "sign" "Lcom/example/poonji/poonji/BankFigures$Sign;" (.ref w_NOT_NEGATIVE) := Fld.other W85 f_406 (Or.inl ne_w_CAPITAL_ADDED_SINCE_BALANCE_SHEET_b1_401)
    have f_408 : Fld Z h105 w_CAPITAL_ADDED_SINCE_BALANCE_SHEET "com/example/poonji/poonji/BankFigures$Item" "sign" "Lcom/example/poonji/poonji/BankFigures$Sign;" (.ref w_NOT_NEGATIVE) := Fld.other W105 f_407 (Or.inl ne_w_CAPITAL_ADDED_SINCE_BALANCE_SHEET_b1_401)
    have f_409 : Fld Z h127 w_CAPITAL_ADDED_SINCE_BALANCE_SHEET "com/example/poonji/poonji/BankFigures$Item" "sign" "Lcom/example/poonji/poonji/BankFigures$Sign;" (.ref w_NOT_NEGATIVE) := Fld.other W127 f_408 (Or.inl ne_w_CAPITAL_ADDED_SINCE_BALANCE_SHEET_b1_401)
    have f_410 : Fld Z h151 w_CAPITAL_ADDED_SINCE_BALANCE_SHEET "com/example/poonji/poonji/BankFigures$Item" "sign" "Lcom/example/poonji/poonji/BankFigures$Sign;" (.ref w_NOT_NEGATIVE) := Fld.other W151 f_409 (Or.inl ne_w_CAPITAL_ADDED_SINCE_BALANCE_SHEET_b1_401)
    have f_411 : Exa Z h105 w_CAPITAL_ADDED_SINCE_BALANCE_SHEET "com/example/poonji/poonji/BankFigures$Item" := Exa.wr W105 f_104
    have f_412 : Exa Z h127 w_CAPITAL_ADDED_SINCE_BALANCE_SHEET "com/example/poonji/poonji/BankFigures$Item" := Exa.wr W127 f_411
    have f_413 : Exa Z h151 w_CAPITAL_ADDED_SINCE_BALANCE_SHEET "com/example/poonji/poonji/BankFigures$Item" := Exa.wr W151 f_412
    obtain ⟨cq387, kq387, q387a, q387b, q387c⟩ := isOf hZ e151 f_413
    obtain ⟨_, _, ⟨T387, L387, k387, n387⟩, -, X387, ⟨Lc387, hQ387, l387, y387, z387⟩, st387⟩ := X151.virtualBack hx (y := (⟨"com/example/poonji/poonji/BankFigures$Item", "signed", "()Z"⟩ : MethodName)) (z := (⟨"com/example/poonji/poonji/BankFigures$Item", "signed", "()Z"⟩ : MethodName)) hown (mvT hZ (hw _ (List.mem_of_getElem? (i := 25) rfl))) (mvT hZ (hw _ (List.mem_of_getElem? (i := 26) rfl))) (notFace_of_selects (args := #[]) (mvT hZ (hw _ (List.mem_of_getElem? (i := 28) rfl)))) (mvT hZ (hw _ (List.mem_of_getElem? (i := 28) rfl))) (mvT hZ (hw _ (List.mem_of_getElem? (i := 27) rfl))) (by decide) (backOf (W := 0) (rm1n l Z a0 hw [] w_CAPITAL_ADDED_SINCE_BALANCE_SHEET w_ANY w_NOT_NEGATIVE h151 n0 Z153 f_398 f_410 ne_w_NOT_NEGATIVE_w_ANY) hZ (hw _ (List.mem_of_getElem? (i := 29) rfl)) (hw _ (List.mem_of_getElem? (i := 3) rfl)) (by decide) (by decide)) q387a q387c (g := (mkF m 93 #[.val (.int p0), .val (.ref b1), .val (.int (7 : Int32)), .val (.int (0 : Int32))] [(.ref w_CAPITAL_ADDED_SINCE_BALANCE_SHEET)])) rfl (by rw [hml]; rfl) (Steps.refl _) (argsL := []) (rest := []) (lenOf own_pd8 rfl) rfl (by show 2 * 0 + _ ≤ _; exact Nat.le_of_eq rfl) (hb hby at_93) (fun _ _ => ⟨rfl, e151, (by decide : 1 + 0 ≤ _), (by decide : 10 + 0 ≤ _)⟩)
    dsimp only [Pt.U, Pt.locs, Pt.cells, Pt.slots] at X387 l387 y387 z387 st387 hQ387
    subst l387 y387 z387
    obtain ⟨rfl, N387q, eh387⟩ := hQ387
    have N387 := Fr.app N151 N387q
    refine Good.back (fun _ k => st387.trans k) ?_
    show Good p e below _ (T387.setTop (mkF m 96 #[.val (.int p0), .val (.ref b1), .val (.int (7 : Int32)), .val (.int (0 : Int32))] [(.int (0 : Int32))]))
    refine Good.back (fun _ k => XS.iloadN X387.here hx rfl (hb hby at_96) rfl k) ?_
    show Good p e below _ (T387.setTop (mkF m 97 #[.val (.int p0), .val (.ref b1), .val (.int (7 : Int32)), .val (.int (0 : Int32))] [(.int (0 : Int32)), (.int (0 : Int32))]))
    refine Good.back (fun _ k => XS.icmpNo X387.here hx rfl (hb hby at_97) rfl (teq (by decide : ((0 : Int32) = (0 : Int32)))).2 k) ?_
    show Good p e below _ (T387.setTop (mkF m 100 #[.val (.int p0), .val (.ref b1), .val (.int (7 : Int32)), .val (.int (0 : Int32))] []))
    refine Good.back (fun _ k => XS.iconst X387.here hx rfl (hb hby at_100) k) ?_
    show Good p e below _ (T387.setTop (mkF m 101 #[.val (.int p0), .val (.ref b1), .val (.int (7 : Int32)), .val (.int (0 : Int32))] [(.int (1 : Int32))]))
    refine Good.back (fun _ k => XS.goto X387.here hx rfl (pc0 := 101) (pc' := 105) rfl (hb hby at_101) (by decide) (by decide) k) ?_
    show Good p e below _ (T387.setTop (mkF m 105 #[.val (.int p0), .val (.ref b1), .val (.int (7 : Int32)), .val (.int (0 : Int32))] [(.int (1 : Int32))]))
    obtain ⟨fs414, hr414, hrun414, hended414, hW414, hsame414⟩ := X387.leave (v := some (.int (1 : Int32))) (fun h => by rw [Bd.returns] at h; cases h)
    refine Good.done (retN X387 hx (t := .boolean) Bd.returns (by simp) (hb hby at_105) hr414) hrun414 hended414 ⟨_, _, rfl, ?_, ⟨_, rfl⟩, hW414, hsame414.mono (by decide) (by decide)⟩
    show Q0 Z p0 w_CURRENT_YEAR_PROFIT w_CURRENT_YEAR_LOSS w_RISK_WEIGHTED_ASSETS w_OTHER_TIER2_CAPITAL w_TIER1_PREVIOUS_MARCH w_EQUITY_INVESTMENT_IN_SUBSIDIARIES w_NABARD_ASSESSED_CRAR w_CAPITAL_ADDED_SINCE_BALANCE_SHEET w_CAPITAL_REDUCED_SINCE_BALANCE_SHEET w_LOSSES_SINCE_BALANCE_SHEET w_NOT_NEGATIVE w_ANY h0 n0 _ T387.heap _
    rw [eh387]
    exact ⟨rfl, N387⟩
  · have he154' : ((p0 &&& (2147483647 : Int32)) % (10 : Int32)) = (8 : Int32) := he154
    rw [he154']
    show Good p e below _ (T151.setTop (mkF m 78 #[.val (.int p0), .val (.ref b1), .val (.int (8 : Int32)), .unset] []))
    refine Good.back (fun _ k => XS.iloadN X151.here hx rfl (hb hby at_78) rfl k) ?_
    show Good p e below _ (T151.setTop (mkF m 79 #[.val (.int p0), .val (.ref b1), .val (.int (8 : Int32)), .unset] [(.int (8 : Int32))]))
    refine Good.back (fun _ k => XS.bipush X151.here hx rfl (hb hby at_79) k) ?_
    show Good p e below _ (T151.setTop (mkF m 81 #[.val (.int p0), .val (.ref b1), .val (.int (8 : Int32)), .unset] [(.int (6 : Int32)), (.int (8 : Int32))]))
    refine Good.back (fun _ k => XS.icmpYes X151.here hx rfl (pc0 := 81) (pc' := 88) rfl (hb hby at_81) rfl (feq (by decide : ¬ ((8 : Int32) = (6 : Int32)))).2 (by decide) (by decide) k) ?_
    show Good p e below _ (T151.setTop (mkF m 88 #[.val (.int p0), .val (.ref b1), .val (.int (8 : Int32)), .unset] []))
    refine Good.back (fun _ k => XS.iconst X151.here hx rfl (hb hby at_88) k) ?_
    show Good p e below _ (T151.setTop (mkF m 89 #[.val (.int p0), .val (.ref b1), .val (.int (8 : Int32)), .unset] [(.int (0 : Int32))]))
    refine Good.back (fun _ k => XS.istoreN X151.here hx rfl (hb hby at_89) rfl (l' := #[.val (.int p0), .val (.ref b1), .val (.int (8 : Int32)), .val (.int (0 : Int32))]) rfl k) ?_
    show Good p e below _ (T151.setTop (mkF m 90 #[.val (.int p0), .val (.ref b1), .val (.int (8 : Int32)), .val (.int (0 : Int32))] []))
    refine Good.back (fun _ k => XS.aloadN X151.here hx rfl (hb hby at_90) rfl rfl k) ?_
    show Good p e below _ (T151.setTop (mkF m 91 #[.val (.int p0), .val (.ref b1), .val (.int (8 : Int32)), .val (.int (0 : Int32))] [(.ref b1)]))
    refine Good.back (fun _ k => XS.iloadN X151.here hx rfl (hb hby at_91) rfl k) ?_
    show Good p e below _ (T151.setTop (mkF m 92 #[.val (.int p0), .val (.ref b1), .val (.int (8 : Int32)), .val (.int (0 : Int32))] [(.int (8 : Int32)), (.ref b1)]))
    have fc415 := f_152
    obtain ⟨cl415, Ar415, qk415, S415, N415', H415, G415⟩ := fc415
    have hin415 : ¬ ((8 : Int32) < 0 ∨ cl415.slots.size ≤ ((8 : Int32)).toNatClampNeg) := inb_of S415 ⟨by decide, by decide⟩
    have hat415 : cl415.slots[((8 : Int32)).toNatClampNeg]? = some (.ref w_CAPITAL_REDUCED_SINCE_BALANCE_SHEET) := Has.at H415 hin415 rfl
    refine Good.back (X151.aaload hx (j := (8 : Int32)) (v := (.ref w_CAPITAL_REDUCED_SINCE_BALANCE_SHEET)) (by rw [e151]; exact Ar415.1) (State.isArrayOf_alike hZ.alike Ar415.2.1) rfl Ar415.2.2 hin415 hat415 (g := (mkF m 92 #[.val (.int p0), .val (.ref b1), .val (.int (8 : Int32)), .val (.int (0 : Int32))] [(.int (8 : Int32)), (.ref b1)])) rfl rfl (hb hby at_92)) ?_
    show Good p e below _ (T151.setTop (mkF m 93 #[.val (.int p0), .val (.ref b1), .val (.int (8 : Int32)), .val (.int (0 : Int32))] [(.ref w_CAPITAL_REDUCED_SINCE_BALANCE_SHEET)]))
    have f_417 : Sta Z h1 "com/example/poonji/poonji/BankFigures$Sign" "ANY" "Lcom/example/poonji/poonji/BankFigures$Sign;" (.ref w_ANY) := Sta.ext E1 S_w_ANY
    have f_418 : Sta Z h7 "com/example/poonji/poonji/BankFigures$Sign" "ANY" "Lcom/example/poonji/poonji/BankFigures$Sign;" (.ref w_ANY) := Sta.wr W7 f_417
    have f_419 : Sta Z h15 "com/example/poonji/poonji/BankFigures$Sign" "ANY" "Lcom/example/poonji/poonji/BankFigures$Sign;" (.ref w_ANY) := Sta.wr W15 f_418
    have f_420 : Sta Z h25 "com/example/poonji/poonji/BankFigures$Sign" "ANY" "Lcom/example/poonji/poonji/BankFigures$Sign;" (.ref w_ANY) := Sta.wr W25 f_419
    have f_421 : Sta Z h37 "com/example/poonji/poonji/BankFigures$Sign" "ANY" "Lcom/example/poonji/poonji/BankFigures$Sign;" (.ref w_ANY) := Sta.wr W37 f_420
    have f_422 : Sta Z h51 "com/example/poonji/poonji/BankFigures$Sign" "ANY" "Lcom/example/poonji/poonji/BankFigures$Sign;" (.ref w_ANY) := Sta.wr W51 f_421
    have f_423 : Sta Z h67 "com/example/poonji/poonji/BankFigures$Sign" "ANY" "Lcom/example/poonji/poonji/BankFigures$Sign;" (.ref w_ANY) := Sta.wr W67 f_422
    have f_424 : Sta Z h85 "com/example/poonji/poonji/BankFigures$Sign" "ANY" "Lcom/example/poonji/poonji/BankFigures$Sign;" (.ref w_ANY) := Sta.wr W85 f_423
    have f_425 : Sta Z h105 "com/example/poonji/poonji/BankFigures$Sign" "ANY" "Lcom/example/poonji/poonji/BankFigures$Sign;" (.ref w_ANY) := Sta.wr W105 f_424
    have f_426 : Sta Z h127 "com/example/poonji/poonji/BankFigures$Sign" "ANY" "Lcom/example/poonji/poonji/BankFigures$Sign;" (.ref w_ANY) := Sta.wr W127 f_425
    have f_427 : Sta Z h151 "com/example/poonji/poonji/BankFigures$Sign" "ANY" "Lcom/example/poonji/poonji/BankFigures$Sign;" (.ref w_ANY) := Sta.wr W151 f_426
    have f_428 : Fld Z h1 w_CAPITAL_REDUCED_SINCE_BALANCE_SHEET "com/example/poonji/poonji/BankFigures$Item" "sign" "Lcom/example/poonji/poonji/BankFigures$Sign;" (.ref w_NOT_NEGATIVE) := Fld.ext E1 F_sign_w_CAPITAL_REDUCED_SINCE_BALANCE_SHEET
    have ne_w_CAPITAL_REDUCED_SINCE_BALANCE_SHEET_b1_430 : w_CAPITAL_REDUCED_SINCE_BALANCE_SHEET ≠ b1 := Nat.ne_of_lt (Nat.lt_of_lt_of_le F_sign_w_CAPITAL_REDUCED_SINCE_BALANCE_SHEET.lt (Nat.le_of_eq g1.symm))
    have f_429 : Fld Z h7 w_CAPITAL_REDUCED_SINCE_BALANCE_SHEET "com/example/poonji/poonji/BankFigures$Item" "sign" "Lcom/example/poonji/poonji/BankFigures$Sign;" (.ref w_NOT_NEGATIVE) := Fld.other W7 f_428 (Or.inl ne_w_CAPITAL_REDUCED_SINCE_BALANCE_SHEET_b1_430)
    have f_431 : Fld Z h15 w_CAPITAL_REDUCED_SINCE_BALANCE_SHEET "com/example/poonji/poonji/BankFigures$Item" "sign" "Lcom/example/poonji/poonji/BankFigures$Sign;" (.ref w_NOT_NEGATIVE) := Fld.other W15 f_429 (Or.inl ne_w_CAPITAL_REDUCED_SINCE_BALANCE_SHEET_b1_430)
    have f_432 : Fld Z h25 w_CAPITAL_REDUCED_SINCE_BALANCE_SHEET "com/example/poonji/poonji/BankFigures$Item" "sign" "Lcom/example/poonji/poonji/BankFigures$Sign;" (.ref w_NOT_NEGATIVE) := Fld.other W25 f_431 (Or.inl ne_w_CAPITAL_REDUCED_SINCE_BALANCE_SHEET_b1_430)
    have f_433 : Fld Z h37 w_CAPITAL_REDUCED_SINCE_BALANCE_SHEET "com/example/poonji/poonji/BankFigures$Item" "sign" "Lcom/example/poonji/poonji/BankFigures$Sign;" (.ref w_NOT_NEGATIVE) := Fld.other W37 f_432 (Or.inl ne_w_CAPITAL_REDUCED_SINCE_BALANCE_SHEET_b1_430)
    have f_434 : Fld Z h51 w_CAPITAL_REDUCED_SINCE_BALANCE_SHEET "com/example/poonji/poonji/BankFigures$Item" "sign" "Lcom/example/poonji/poonji/BankFigures$Sign;" (.ref w_NOT_NEGATIVE) := Fld.other W51 f_433 (Or.inl ne_w_CAPITAL_REDUCED_SINCE_BALANCE_SHEET_b1_430)
    have f_435 : Fld Z h67 w_CAPITAL_REDUCED_SINCE_BALANCE_SHEET "com/example/poonji/poonji/BankFigures$Item" "sign" "Lcom/example/poonji/poonji/BankFigures$Sign;" (.ref w_NOT_NEGATIVE) := Fld.other W67 f_434 (Or.inl ne_w_CAPITAL_REDUCED_SINCE_BALANCE_SHEET_b1_430)
    have f_436 : Fld Z h85 w_CAPITAL_REDUCED_SINCE_BALANCE_SHEET "com/example/poonji/poonji/BankFigures$Item" "sign" "Lcom/example/poonji/poonji/BankFigures$Sign;" (.ref w_NOT_NEGATIVE) := Fld.other W85 f_435 (Or.inl ne_w_CAPITAL_REDUCED_SINCE_BALANCE_SHEET_b1_430)
    have f_437 : Fld Z h105 w_CAPITAL_REDUCED_SINCE_BALANCE_SHEET "com/example/poonji/poonji/BankFigures$Item" "sign" "Lcom/example/poonji/poonji/BankFigures$Sign;" (.ref w_NOT_NEGATIVE) := Fld.other W105 f_436 (Or.inl ne_w_CAPITAL_REDUCED_SINCE_BALANCE_SHEET_b1_430)
    have f_438 : Fld Z h127 w_CAPITAL_REDUCED_SINCE_BALANCE_SHEET "com/example/poonji/poonji/BankFigures$Item" "sign" "Lcom/example/poonji/poonji/BankFigures$Sign;" (.ref w_NOT_NEGATIVE) := Fld.other W127 f_437 (Or.inl ne_w_CAPITAL_REDUCED_SINCE_BALANCE_SHEET_b1_430)
    have f_439 : Fld Z h151 w_CAPITAL_REDUCED_SINCE_BALANCE_SHEET "com/example/poonji/poonji/BankFigures$Item" "sign" "Lcom/example/poonji/poonji/BankFigures$Sign;" (.ref w_NOT_NEGATIVE) := Fld.other W151 f_438 (Or.inl ne_w_CAPITAL_REDUCED_SINCE_BALANCE_SHEET_b1_430)
    have f_440 : Exa Z h127 w_CAPITAL_REDUCED_SINCE_BALANCE_SHEET "com/example/poonji/poonji/BankFigures$Item" := Exa.wr W127 f_126
    have f_441 : Exa Z h151 w_CAPITAL_REDUCED_SINCE_BALANCE_SHEET "com/example/poonji/poonji/BankFigures$Item" := Exa.wr W151 f_440
    obtain ⟨cq416, kq416, q416a, q416b, q416c⟩ := isOf hZ e151 f_441
    obtain ⟨_, _, ⟨T416, L416, k416, n416⟩, -, X416, ⟨Lc416, hQ416, l416, y416, z416⟩, st416⟩ := X151.virtualBack hx (y := (⟨"com/example/poonji/poonji/BankFigures$Item", "signed", "()Z"⟩ : MethodName)) (z := (⟨"com/example/poonji/poonji/BankFigures$Item", "signed", "()Z"⟩ : MethodName)) hown (mvT hZ (hw _ (List.mem_of_getElem? (i := 25) rfl))) (mvT hZ (hw _ (List.mem_of_getElem? (i := 26) rfl))) (notFace_of_selects (args := #[]) (mvT hZ (hw _ (List.mem_of_getElem? (i := 28) rfl)))) (mvT hZ (hw _ (List.mem_of_getElem? (i := 28) rfl))) (mvT hZ (hw _ (List.mem_of_getElem? (i := 27) rfl))) (by decide) (backOf (W := 0) (rm1n l Z a0 hw [] w_CAPITAL_REDUCED_SINCE_BALANCE_SHEET w_ANY w_NOT_NEGATIVE h151 n0 Z153 f_427 f_439 ne_w_NOT_NEGATIVE_w_ANY) hZ (hw _ (List.mem_of_getElem? (i := 29) rfl)) (hw _ (List.mem_of_getElem? (i := 3) rfl)) (by decide) (by decide)) q416a q416c (g := (mkF m 93 #[.val (.int p0), .val (.ref b1), .val (.int (8 : Int32)), .val (.int (0 : Int32))] [(.ref w_CAPITAL_REDUCED_SINCE_BALANCE_SHEET)])) rfl (by rw [hml]; rfl) (Steps.refl _) (argsL := []) (rest := []) (lenOf own_pd8 rfl) rfl (by show 2 * 0 + _ ≤ _; exact Nat.le_of_eq rfl) (hb hby at_93) (fun _ _ => ⟨rfl, e151, (by decide : 1 + 0 ≤ _), (by decide : 10 + 0 ≤ _)⟩)
    dsimp only [Pt.U, Pt.locs, Pt.cells, Pt.slots] at X416 l416 y416 z416 st416 hQ416
    subst l416 y416 z416
    obtain ⟨rfl, N416q, eh416⟩ := hQ416
    have N416 := Fr.app N151 N416q
    refine Good.back (fun _ k => st416.trans k) ?_
    show Good p e below _ (T416.setTop (mkF m 96 #[.val (.int p0), .val (.ref b1), .val (.int (8 : Int32)), .val (.int (0 : Int32))] [(.int (0 : Int32))]))
    refine Good.back (fun _ k => XS.iloadN X416.here hx rfl (hb hby at_96) rfl k) ?_
    show Good p e below _ (T416.setTop (mkF m 97 #[.val (.int p0), .val (.ref b1), .val (.int (8 : Int32)), .val (.int (0 : Int32))] [(.int (0 : Int32)), (.int (0 : Int32))]))
    refine Good.back (fun _ k => XS.icmpNo X416.here hx rfl (hb hby at_97) rfl (teq (by decide : ((0 : Int32) = (0 : Int32)))).2 k) ?_
    show Good p e below _ (T416.setTop (mkF m 100 #[.val (.int p0), .val (.ref b1), .val (.int (8 : Int32)), .val (.int (0 : Int32))] []))
    refine Good.back (fun _ k => XS.iconst X416.here hx rfl (hb hby at_100) k) ?_
    show Good p e below _ (T416.setTop (mkF m 101 #[.val (.int p0), .val (.ref b1), .val (.int (8 : Int32)), .val (.int (0 : Int32))] [(.int (1 : Int32))]))
    refine Good.back (fun _ k => XS.goto X416.here hx rfl (pc0 := 101) (pc' := 105) rfl (hb hby at_101) (by decide) (by decide) k) ?_
    show Good p e below _ (T416.setTop (mkF m 105 #[.val (.int p0), .val (.ref b1), .val (.int (8 : Int32)), .val (.int (0 : Int32))] [(.int (1 : Int32))]))
    obtain ⟨fs442, hr442, hrun442, hended442, hW442, hsame442⟩ := X416.leave (v := some (.int (1 : Int32))) (fun h => by rw [Bd.returns] at h; cases h)
    refine Good.done (retN X416 hx (t := .boolean) Bd.returns (by simp) (hb hby at_105) hr442) hrun442 hended442 ⟨_, _, rfl, ?_, ⟨_, rfl⟩, hW442, hsame442.mono (by decide) (by decide)⟩
    show Q0 Z p0 w_CURRENT_YEAR_PROFIT w_CURRENT_YEAR_LOSS w_RISK_WEIGHTED_ASSETS w_OTHER_TIER2_CAPITAL w_TIER1_PREVIOUS_MARCH w_EQUITY_INVESTMENT_IN_SUBSIDIARIES w_NABARD_ASSESSED_CRAR w_CAPITAL_ADDED_SINCE_BALANCE_SHEET w_CAPITAL_REDUCED_SINCE_BALANCE_SHEET w_LOSSES_SINCE_BALANCE_SHEET w_NOT_NEGATIVE w_ANY h0 n0 _ T416.heap _
    rw [eh416]
    exact ⟨rfl, N416⟩
  · have he154' : ((p0 &&& (2147483647 : Int32)) % (10 : Int32)) = (9 : Int32) := he154
    rw [he154']
    show Good p e below _ (T151.setTop (mkF m 78 #[.val (.int p0), .val (.ref b1), .val (.int (9 : Int32)), .unset] []))
    refine Good.back (fun _ k => XS.iloadN X151.here hx rfl (hb hby at_78) rfl k) ?_
    show Good p e below _ (T151.setTop (mkF m 79 #[.val (.int p0), .val (.ref b1), .val (.int (9 : Int32)), .unset] [(.int (9 : Int32))]))
    refine Good.back (fun _ k => XS.bipush X151.here hx rfl (hb hby at_79) k) ?_
    show Good p e below _ (T151.setTop (mkF m 81 #[.val (.int p0), .val (.ref b1), .val (.int (9 : Int32)), .unset] [(.int (6 : Int32)), (.int (9 : Int32))]))
    refine Good.back (fun _ k => XS.icmpYes X151.here hx rfl (pc0 := 81) (pc' := 88) rfl (hb hby at_81) rfl (feq (by decide : ¬ ((9 : Int32) = (6 : Int32)))).2 (by decide) (by decide) k) ?_
    show Good p e below _ (T151.setTop (mkF m 88 #[.val (.int p0), .val (.ref b1), .val (.int (9 : Int32)), .unset] []))
    refine Good.back (fun _ k => XS.iconst X151.here hx rfl (hb hby at_88) k) ?_
    show Good p e below _ (T151.setTop (mkF m 89 #[.val (.int p0), .val (.ref b1), .val (.int (9 : Int32)), .unset] [(.int (0 : Int32))]))
    refine Good.back (fun _ k => XS.istoreN X151.here hx rfl (hb hby at_89) rfl (l' := #[.val (.int p0), .val (.ref b1), .val (.int (9 : Int32)), .val (.int (0 : Int32))]) rfl k) ?_
    show Good p e below _ (T151.setTop (mkF m 90 #[.val (.int p0), .val (.ref b1), .val (.int (9 : Int32)), .val (.int (0 : Int32))] []))
    refine Good.back (fun _ k => XS.aloadN X151.here hx rfl (hb hby at_90) rfl rfl k) ?_
    show Good p e below _ (T151.setTop (mkF m 91 #[.val (.int p0), .val (.ref b1), .val (.int (9 : Int32)), .val (.int (0 : Int32))] [(.ref b1)]))
    refine Good.back (fun _ k => XS.iloadN X151.here hx rfl (hb hby at_91) rfl k) ?_
    show Good p e below _ (T151.setTop (mkF m 92 #[.val (.int p0), .val (.ref b1), .val (.int (9 : Int32)), .val (.int (0 : Int32))] [(.int (9 : Int32)), (.ref b1)]))
    have fc443 := f_152
    obtain ⟨cl443, Ar443, qk443, S443, N443', H443, G443⟩ := fc443
    have hin443 : ¬ ((9 : Int32) < 0 ∨ cl443.slots.size ≤ ((9 : Int32)).toNatClampNeg) := inb_of S443 ⟨by decide, by decide⟩
    have hat443 : cl443.slots[((9 : Int32)).toNatClampNeg]? = some (.ref w_LOSSES_SINCE_BALANCE_SHEET) := Has.at H443 hin443 rfl
    refine Good.back (X151.aaload hx (j := (9 : Int32)) (v := (.ref w_LOSSES_SINCE_BALANCE_SHEET)) (by rw [e151]; exact Ar443.1) (State.isArrayOf_alike hZ.alike Ar443.2.1) rfl Ar443.2.2 hin443 hat443 (g := (mkF m 92 #[.val (.int p0), .val (.ref b1), .val (.int (9 : Int32)), .val (.int (0 : Int32))] [(.int (9 : Int32)), (.ref b1)])) rfl rfl (hb hby at_92)) ?_
    show Good p e below _ (T151.setTop (mkF m 93 #[.val (.int p0), .val (.ref b1), .val (.int (9 : Int32)), .val (.int (0 : Int32))] [(.ref w_LOSSES_SINCE_BALANCE_SHEET)]))
    have f_445 : Sta Z h1 "com/example/poonji/poonji/BankFigures$Sign" "ANY" "Lcom/example/poonji/poonji/BankFigures$Sign;" (.ref w_ANY) := Sta.ext E1 S_w_ANY
    have f_446 : Sta Z h7 "com/example/poonji/poonji/BankFigures$Sign" "ANY" "Lcom/example/poonji/poonji/BankFigures$Sign;" (.ref w_ANY) := Sta.wr W7 f_445
    have f_447 : Sta Z h15 "com/example/poonji/poonji/BankFigures$Sign" "ANY" "Lcom/example/poonji/poonji/BankFigures$Sign;" (.ref w_ANY) := Sta.wr W15 f_446
    have f_448 : Sta Z h25 "com/example/poonji/poonji/BankFigures$Sign" "ANY" "Lcom/example/poonji/poonji/BankFigures$Sign;" (.ref w_ANY) := Sta.wr W25 f_447
    have f_449 : Sta Z h37 "com/example/poonji/poonji/BankFigures$Sign" "ANY" "Lcom/example/poonji/poonji/BankFigures$Sign;" (.ref w_ANY) := Sta.wr W37 f_448
    have f_450 : Sta Z h51 "com/example/poonji/poonji/BankFigures$Sign" "ANY" "Lcom/example/poonji/poonji/BankFigures$Sign;" (.ref w_ANY) := Sta.wr W51 f_449
    have f_451 : Sta Z h67 "com/example/poonji/poonji/BankFigures$Sign" "ANY" "Lcom/example/poonji/poonji/BankFigures$Sign;" (.ref w_ANY) := Sta.wr W67 f_450
    have f_452 : Sta Z h85 "com/example/poonji/poonji/BankFigures$Sign" "ANY" "Lcom/example/poonji/poonji/BankFigures$Sign;" (.ref w_ANY) := Sta.wr W85 f_451
    have f_453 : Sta Z h105 "com/example/poonji/poonji/BankFigures$Sign" "ANY" "Lcom/example/poonji/poonji/BankFigures$Sign;" (.ref w_ANY) := Sta.wr W105 f_452
    have f_454 : Sta Z h127 "com/example/poonji/poonji/BankFigures$Sign" "ANY" "Lcom/example/poonji/poonji/BankFigures$Sign;" (.ref w_ANY) := Sta.wr W127 f_453
    have f_455 : Sta Z h151 "com/example/poonji/poonji/BankFigures$Sign" "ANY" "Lcom/example/poonji/poonji/BankFigures$Sign;" (.ref w_ANY) := Sta.wr W151 f_454
    have f_456 : Fld Z h1 w_LOSSES_SINCE_BALANCE_SHEET "com/example/poonji/poonji/BankFigures$Item" "sign" "Lcom/example/poonji/poonji/BankFigures$Sign;" (.ref w_NOT_NEGATIVE) := Fld.ext E1 F_sign_w_LOSSES_SINCE_BALANCE_SHEET
    have ne_w_LOSSES_SINCE_BALANCE_SHEET_b1_458 : w_LOSSES_SINCE_BALANCE_SHEET ≠ b1 := Nat.ne_of_lt (Nat.lt_of_lt_of_le F_sign_w_LOSSES_SINCE_BALANCE_SHEET.lt (Nat.le_of_eq g1.symm))
    have f_457 : Fld Z h7 w_LOSSES_SINCE_BALANCE_SHEET "com/example/poonji/poonji/BankFigures$Item" "sign" "Lcom/example/poonji/poonji/BankFigures$Sign;" (.ref w_NOT_NEGATIVE) := Fld.other W7 f_456 (Or.inl ne_w_LOSSES_SINCE_BALANCE_SHEET_b1_458)
    have f_459 : Fld Z h15 w_LOSSES_SINCE_BALANCE_SHEET "com/example/poonji/poonji/BankFigures$Item" "sign" "Lcom/example/poonji/poonji/BankFigures$Sign;" (.ref w_NOT_NEGATIVE) := Fld.other W15 f_457 (Or.inl ne_w_LOSSES_SINCE_BALANCE_SHEET_b1_458)
    have f_460 : Fld Z h25 w_LOSSES_SINCE_BALANCE_SHEET "com/example/poonji/poonji/BankFigures$Item" "sign" "Lcom/example/poonji/poonji/BankFigures$Sign;" (.ref w_NOT_NEGATIVE) := Fld.other W25 f_459 (Or.inl ne_w_LOSSES_SINCE_BALANCE_SHEET_b1_458)
    have f_461 : Fld Z h37 w_LOSSES_SINCE_BALANCE_SHEET "com/example/poonji/poonji/BankFigures$Item" "sign" "Lcom/example/poonji/poonji/BankFigures$Sign;" (.ref w_NOT_NEGATIVE) := Fld.other W37 f_460 (Or.inl ne_w_LOSSES_SINCE_BALANCE_SHEET_b1_458)
    have f_462 : Fld Z h51 w_LOSSES_SINCE_BALANCE_SHEET "com/example/poonji/poonji/BankFigures$Item" "sign" "Lcom/example/poonji/poonji/BankFigures$Sign;" (.ref w_NOT_NEGATIVE) := Fld.other W51 f_461 (Or.inl ne_w_LOSSES_SINCE_BALANCE_SHEET_b1_458)
    have f_463 : Fld Z h67 w_LOSSES_SINCE_BALANCE_SHEET "com/example/poonji/poonji/BankFigures$Item" "sign" "Lcom/example/poonji/poonji/BankFigures$Sign;" (.ref w_NOT_NEGATIVE) := Fld.other W67 f_462 (Or.inl ne_w_LOSSES_SINCE_BALANCE_SHEET_b1_458)
    have f_464 : Fld Z h85 w_LOSSES_SINCE_BALANCE_SHEET "com/example/poonji/poonji/BankFigures$Item" "sign" "Lcom/example/poonji/poonji/BankFigures$Sign;" (.ref w_NOT_NEGATIVE) := Fld.other W85 f_463 (Or.inl ne_w_LOSSES_SINCE_BALANCE_SHEET_b1_458)
    have f_465 : Fld Z h105 w_LOSSES_SINCE_BALANCE_SHEET "com/example/poonji/poonji/BankFigures$Item" "sign" "Lcom/example/poonji/poonji/BankFigures$Sign;" (.ref w_NOT_NEGATIVE) := Fld.other W105 f_464 (Or.inl ne_w_LOSSES_SINCE_BALANCE_SHEET_b1_458)
    have f_466 : Fld Z h127 w_LOSSES_SINCE_BALANCE_SHEET "com/example/poonji/poonji/BankFigures$Item" "sign" "Lcom/example/poonji/poonji/BankFigures$Sign;" (.ref w_NOT_NEGATIVE) := Fld.other W127 f_465 (Or.inl ne_w_LOSSES_SINCE_BALANCE_SHEET_b1_458)
    have f_467 : Fld Z h151 w_LOSSES_SINCE_BALANCE_SHEET "com/example/poonji/poonji/BankFigures$Item" "sign" "Lcom/example/poonji/poonji/BankFigures$Sign;" (.ref w_NOT_NEGATIVE) := Fld.other W151 f_466 (Or.inl ne_w_LOSSES_SINCE_BALANCE_SHEET_b1_458)
    have f_468 : Exa Z h151 w_LOSSES_SINCE_BALANCE_SHEET "com/example/poonji/poonji/BankFigures$Item" := Exa.wr W151 f_150
    obtain ⟨cq444, kq444, q444a, q444b, q444c⟩ := isOf hZ e151 f_468
    obtain ⟨_, _, ⟨T444, L444, k444, n444⟩, -, X444, ⟨Lc444, hQ444, l444, y444, z444⟩, st444⟩ := X151.virtualBack hx (y := (⟨"com/example/poonji/poonji/BankFigures$Item", "signed", "()Z"⟩ : MethodName)) (z := (⟨"com/example/poonji/poonji/BankFigures$Item", "signed", "()Z"⟩ : MethodName)) hown (mvT hZ (hw _ (List.mem_of_getElem? (i := 25) rfl))) (mvT hZ (hw _ (List.mem_of_getElem? (i := 26) rfl))) (notFace_of_selects (args := #[]) (mvT hZ (hw _ (List.mem_of_getElem? (i := 28) rfl)))) (mvT hZ (hw _ (List.mem_of_getElem? (i := 28) rfl))) (mvT hZ (hw _ (List.mem_of_getElem? (i := 27) rfl))) (by decide) (backOf (W := 0) (rm1n l Z a0 hw [] w_LOSSES_SINCE_BALANCE_SHEET w_ANY w_NOT_NEGATIVE h151 n0 Z153 f_455 f_467 ne_w_NOT_NEGATIVE_w_ANY) hZ (hw _ (List.mem_of_getElem? (i := 29) rfl)) (hw _ (List.mem_of_getElem? (i := 3) rfl)) (by decide) (by decide)) q444a q444c (g := (mkF m 93 #[.val (.int p0), .val (.ref b1), .val (.int (9 : Int32)), .val (.int (0 : Int32))] [(.ref w_LOSSES_SINCE_BALANCE_SHEET)])) rfl (by rw [hml]; rfl) (Steps.refl _) (argsL := []) (rest := []) (lenOf own_pd8 rfl) rfl (by show 2 * 0 + _ ≤ _; exact Nat.le_of_eq rfl) (hb hby at_93) (fun _ _ => ⟨rfl, e151, (by decide : 1 + 0 ≤ _), (by decide : 10 + 0 ≤ _)⟩)
    dsimp only [Pt.U, Pt.locs, Pt.cells, Pt.slots] at X444 l444 y444 z444 st444 hQ444
    subst l444 y444 z444
    obtain ⟨rfl, N444q, eh444⟩ := hQ444
    have N444 := Fr.app N151 N444q
    refine Good.back (fun _ k => st444.trans k) ?_
    show Good p e below _ (T444.setTop (mkF m 96 #[.val (.int p0), .val (.ref b1), .val (.int (9 : Int32)), .val (.int (0 : Int32))] [(.int (0 : Int32))]))
    refine Good.back (fun _ k => XS.iloadN X444.here hx rfl (hb hby at_96) rfl k) ?_
    show Good p e below _ (T444.setTop (mkF m 97 #[.val (.int p0), .val (.ref b1), .val (.int (9 : Int32)), .val (.int (0 : Int32))] [(.int (0 : Int32)), (.int (0 : Int32))]))
    refine Good.back (fun _ k => XS.icmpNo X444.here hx rfl (hb hby at_97) rfl (teq (by decide : ((0 : Int32) = (0 : Int32)))).2 k) ?_
    show Good p e below _ (T444.setTop (mkF m 100 #[.val (.int p0), .val (.ref b1), .val (.int (9 : Int32)), .val (.int (0 : Int32))] []))
    refine Good.back (fun _ k => XS.iconst X444.here hx rfl (hb hby at_100) k) ?_
    show Good p e below _ (T444.setTop (mkF m 101 #[.val (.int p0), .val (.ref b1), .val (.int (9 : Int32)), .val (.int (0 : Int32))] [(.int (1 : Int32))]))
    refine Good.back (fun _ k => XS.goto X444.here hx rfl (pc0 := 101) (pc' := 105) rfl (hb hby at_101) (by decide) (by decide) k) ?_
    show Good p e below _ (T444.setTop (mkF m 105 #[.val (.int p0), .val (.ref b1), .val (.int (9 : Int32)), .val (.int (0 : Int32))] [(.int (1 : Int32))]))
    obtain ⟨fs469, hr469, hrun469, hended469, hW469, hsame469⟩ := X444.leave (v := some (.int (1 : Int32))) (fun h => by rw [Bd.returns] at h; cases h)
    refine Good.done (retN X444 hx (t := .boolean) Bd.returns (by simp) (hb hby at_105) hr469) hrun469 hended469 ⟨_, _, rfl, ?_, ⟨_, rfl⟩, hW469, hsame469.mono (by decide) (by decide)⟩
    show Q0 Z p0 w_CURRENT_YEAR_PROFIT w_CURRENT_YEAR_LOSS w_RISK_WEIGHTED_ASSETS w_OTHER_TIER2_CAPITAL w_TIER1_PREVIOUS_MARCH w_EQUITY_INVESTMENT_IN_SUBSIDIARIES w_NABARD_ASSESSED_CRAR w_CAPITAL_ADDED_SINCE_BALANCE_SHEET w_CAPITAL_REDUCED_SINCE_BALANCE_SHEET w_LOSSES_SINCE_BALANCE_SHEET w_NOT_NEGATIVE w_ANY h0 n0 _ T444.heap _
    rw [eh444]
    exact ⟨rfl, N444⟩
set_option maxRecDepth 65536 in
set_option maxHeartbeats 40000000 in
theorem comes_1 {Post : Tables → Env → Array Value → State → Outcome → State → Prop} (hpost : ∀ tb e args s v u, (limb_1_1.after args s (.returned v) u = true ∧ limb_1_2.after args s (.returned v) u = true ∧ True) → FrameEnd s (.returned v) u (Jvm.fieldLocs frame_1_writes args s ++ Jvm.arrayLocs frame_1_arrays args s ++ Jvm.staticLocs frame_1_statics s) 16 128 → Post tb e args s (.returned v) u) :
    ArmFor flags0 classFile x code maxLocals ret World_1 tables_1 room_1 Calls_1 rest_1 Pre_1 Post := by
  intro l hfl _ _ p e ha hc hk s m args below hf hA hF happ hP
  obtain ⟨hcalls, hrest, hpre⟩ := hP
  obtain ⟨-, -, -, hnamed, -, -, -, hat⟩ := (Spec.applies_iff hf).mp happ
  obtain ⟨hg, hn⟩ := and_e (Cond.before_iff.mp (show (Jvm.Cond.and given_1 narrow_1).before args s = true from hpre))
  obtain ⟨g1, g2⟩ := and_e hg
  obtain ⟨w0, rfl⟩ : ∃ w0 : Value, args = #[w0] := by
    have hs : args.size = 1 := by simpa [Cond.value, given_1] using g1
    obtain ⟨L⟩ := args
    match L, hs with
    | [w0], _ => exact ⟨w0, rfl⟩
  have hw := fun d (hd : d ∈ tables_1) => atoms_spec (ws := Jvm.Cond.code x code maxLocals ret :: tables_1) hat d (List.mem_cons_of_mem _ hd)
  have hfit : Fit s := fun {y c} hc i hi => by
    obtain ⟨ha, rfl⟩ := Array.getElem?_eq_some_iff.mp hc
    have q := List.all_eq_true.mp ((Array.all_eq_true_iff_forall_mem.mp hF) _ (Array.getElem_mem ha)) i (List.mem_range.mpr hi)
    simpa [Array.getElem?_eq_getElem hi] using q
  obtain ⟨i0, ei0⟩ := is_v g2
  obtain rfl : w0 = (.int i0) := Option.some.inj ei0
  obtain ⟨c1, c2⟩ := and_e hn
  obtain ⟨c3, c4⟩ := and_e c2
  obtain ⟨c5, c6⟩ := and_e c4
  obtain ⟨c7, c8⟩ := and_e c6
  obtain ⟨c9, c10⟩ := and_e c8
  obtain ⟨c11, c12⟩ := and_e c10
  obtain ⟨c13, c14⟩ := and_e c12
  obtain ⟨c15, c16⟩ := and_e c14
  obtain ⟨c17, c18⟩ := and_e c16
  obtain ⟨c19, c20⟩ := and_e c18
  obtain ⟨c21, c22⟩ := and_e c20
  obtain ⟨c23, c24⟩ := and_e c22
  obtain ⟨c25, c26⟩ := and_e c24
  obtain ⟨c27, c28⟩ := and_e c26
  obtain ⟨c29, c30⟩ := and_e c28
  obtain ⟨c31, c32⟩ := and_e c30
  obtain ⟨c33, c34⟩ := and_e c32
  obtain ⟨c35, c36⟩ := and_e c34
  obtain ⟨c37, c38⟩ := and_e c36
  obtain ⟨c39, c40⟩ := and_e c38
  obtain ⟨c41, c42⟩ := and_e c40
  obtain ⟨c43, c44⟩ := and_e c42
  obtain ⟨c45, c46⟩ := and_e c44
  obtain ⟨w_CURRENT_YEAR_PROFIT, ev_w_CURRENT_YEAR_PROFIT⟩ := exa_v c1
  have S_w_CURRENT_YEAR_PROFIT : Sta s s.heap "com/example/poonji/poonji/BankFigures$Item" "CURRENT_YEAR_PROFIT" "Lcom/example/poonji/poonji/BankFigures$Item;" (.ref w_CURRENT_YEAR_PROFIT) := Sta.start ev_w_CURRENT_YEAR_PROFIT (Or.inr ⟨(hw _ (List.mem_of_getElem? (i := 3) rfl)), (hw _ (List.mem_of_getElem? (i := 4) rfl))⟩)
  have E_w_CURRENT_YEAR_PROFIT : Exa s s.heap w_CURRENT_YEAR_PROFIT "com/example/poonji/poonji/BankFigures$Item" := Exa.start ev_w_CURRENT_YEAR_PROFIT c1
  obtain ⟨w_CURRENT_YEAR_LOSS, ev_w_CURRENT_YEAR_LOSS⟩ := exa_v c3
  have S_w_CURRENT_YEAR_LOSS : Sta s s.heap "com/example/poonji/poonji/BankFigures$Item" "CURRENT_YEAR_LOSS" "Lcom/example/poonji/poonji/BankFigures$Item;" (.ref w_CURRENT_YEAR_LOSS) := Sta.start ev_w_CURRENT_YEAR_LOSS (Or.inr ⟨(hw _ (List.mem_of_getElem? (i := 3) rfl)), (hw _ (List.mem_of_getElem? (i := 7) rfl))⟩)
  have E_w_CURRENT_YEAR_LOSS : Exa s s.heap w_CURRENT_YEAR_LOSS "com/example/poonji/poonji/BankFigures$Item" := Exa.start ev_w_CURRENT_YEAR_LOSS c3
  obtain ⟨w_RISK_WEIGHTED_ASSETS, ev_w_RISK_WEIGHTED_ASSETS⟩ := exa_v c5
  have S_w_RISK_WEIGHTED_ASSETS : Sta s s.heap "com/example/poonji/poonji/BankFigures$Item" "RISK_WEIGHTED_ASSETS" "Lcom/example/poonji/poonji/BankFigures$Item;" (.ref w_RISK_WEIGHTED_ASSETS) := Sta.start ev_w_RISK_WEIGHTED_ASSETS (Or.inr ⟨(hw _ (List.mem_of_getElem? (i := 3) rfl)), (hw _ (List.mem_of_getElem? (i := 9) rfl))⟩)
  have E_w_RISK_WEIGHTED_ASSETS : Exa s s.heap w_RISK_WEIGHTED_ASSETS "com/example/poonji/poonji/BankFigures$Item" := Exa.start ev_w_RISK_WEIGHTED_ASSETS c5
  obtain ⟨w_OTHER_TIER2_CAPITAL, ev_w_OTHER_TIER2_CAPITAL⟩ := exa_v c7
  have S_w_OTHER_TIER2_CAPITAL : Sta s s.heap "com/example/poonji/poonji/BankFigures$Item" "OTHER_TIER2_CAPITAL" "Lcom/example/poonji/poonji/BankFigures$Item;" (.ref w_OTHER_TIER2_CAPITAL) := Sta.start ev_w_OTHER_TIER2_CAPITAL (Or.inr ⟨(hw _ (List.mem_of_getElem? (i := 3) rfl)), (hw _ (List.mem_of_getElem? (i := 11) rfl))⟩)
  have E_w_OTHER_TIER2_CAPITAL : Exa s s.heap w_OTHER_TIER2_CAPITAL "com/example/poonji/poonji/BankFigures$Item" := Exa.start ev_w_OTHER_TIER2_CAPITAL c7
  obtain ⟨w_TIER1_PREVIOUS_MARCH, ev_w_TIER1_PREVIOUS_MARCH⟩ := exa_v c9
  have S_w_TIER1_PREVIOUS_MARCH : Sta s s.heap "com/example/poonji/poonji/BankFigures$Item" "TIER1_PREVIOUS_MARCH" "Lcom/example/poonji/poonji/BankFigures$Item;" (.ref w_TIER1_PREVIOUS_MARCH) := Sta.start ev_w_TIER1_PREVIOUS_MARCH (Or.inr ⟨(hw _ (List.mem_of_getElem? (i := 3) rfl)), (hw _ (List.mem_of_getElem? (i := 13) rfl))⟩)
  have E_w_TIER1_PREVIOUS_MARCH : Exa s s.heap w_TIER1_PREVIOUS_MARCH "com/example/poonji/poonji/BankFigures$Item" := Exa.start ev_w_TIER1_PREVIOUS_MARCH c9
  obtain ⟨w_EQUITY_INVESTMENT_IN_SUBSIDIARIES, ev_w_EQUITY_INVESTMENT_IN_SUBSIDIARIES⟩ := exa_v c11
  have S_w_EQUITY_INVESTMENT_IN_SUBSIDIARIES : Sta s s.heap "com/example/poonji/poonji/BankFigures$Item" "EQUITY_INVESTMENT_IN_SUBSIDIARIES" "Lcom/example/poonji/poonji/BankFigures$Item;" (.ref w_EQUITY_INVESTMENT_IN_SUBSIDIARIES) := Sta.start ev_w_EQUITY_INVESTMENT_IN_SUBSIDIARIES (Or.inr ⟨(hw _ (List.mem_of_getElem? (i := 3) rfl)), (hw _ (List.mem_of_getElem? (i := 15) rfl))⟩)
  have E_w_EQUITY_INVESTMENT_IN_SUBSIDIARIES : Exa s s.heap w_EQUITY_INVESTMENT_IN_SUBSIDIARIES "com/example/poonji/poonji/BankFigures$Item" := Exa.start ev_w_EQUITY_INVESTMENT_IN_SUBSIDIARIES c11
  obtain ⟨w_NABARD_ASSESSED_CRAR, ev_w_NABARD_ASSESSED_CRAR⟩ := exa_v c13
  have S_w_NABARD_ASSESSED_CRAR : Sta s s.heap "com/example/poonji/poonji/BankFigures$Item" "NABARD_ASSESSED_CRAR" "Lcom/example/poonji/poonji/BankFigures$Item;" (.ref w_NABARD_ASSESSED_CRAR) := Sta.start ev_w_NABARD_ASSESSED_CRAR (Or.inr ⟨(hw _ (List.mem_of_getElem? (i := 3) rfl)), (hw _ (List.mem_of_getElem? (i := 17) rfl))⟩)
  have E_w_NABARD_ASSESSED_CRAR : Exa s s.heap w_NABARD_ASSESSED_CRAR "com/example/poonji/poonji/BankFigures$Item" := Exa.start ev_w_NABARD_ASSESSED_CRAR c13
  obtain ⟨w_CAPITAL_ADDED_SINCE_BALANCE_SHEET, ev_w_CAPITAL_ADDED_SINCE_BALANCE_SHEET⟩ := exa_v c15
  have S_w_CAPITAL_ADDED_SINCE_BALANCE_SHEET : Sta s s.heap "com/example/poonji/poonji/BankFigures$Item" "CAPITAL_ADDED_SINCE_BALANCE_SHEET" "Lcom/example/poonji/poonji/BankFigures$Item;" (.ref w_CAPITAL_ADDED_SINCE_BALANCE_SHEET) := Sta.start ev_w_CAPITAL_ADDED_SINCE_BALANCE_SHEET (Or.inr ⟨(hw _ (List.mem_of_getElem? (i := 3) rfl)), (hw _ (List.mem_of_getElem? (i := 19) rfl))⟩)
  have E_w_CAPITAL_ADDED_SINCE_BALANCE_SHEET : Exa s s.heap w_CAPITAL_ADDED_SINCE_BALANCE_SHEET "com/example/poonji/poonji/BankFigures$Item" := Exa.start ev_w_CAPITAL_ADDED_SINCE_BALANCE_SHEET c15
  obtain ⟨w_CAPITAL_REDUCED_SINCE_BALANCE_SHEET, ev_w_CAPITAL_REDUCED_SINCE_BALANCE_SHEET⟩ := exa_v c17
  have S_w_CAPITAL_REDUCED_SINCE_BALANCE_SHEET : Sta s s.heap "com/example/poonji/poonji/BankFigures$Item" "CAPITAL_REDUCED_SINCE_BALANCE_SHEET" "Lcom/example/poonji/poonji/BankFigures$Item;" (.ref w_CAPITAL_REDUCED_SINCE_BALANCE_SHEET) := Sta.start ev_w_CAPITAL_REDUCED_SINCE_BALANCE_SHEET (Or.inr ⟨(hw _ (List.mem_of_getElem? (i := 3) rfl)), (hw _ (List.mem_of_getElem? (i := 21) rfl))⟩)
  have E_w_CAPITAL_REDUCED_SINCE_BALANCE_SHEET : Exa s s.heap w_CAPITAL_REDUCED_SINCE_BALANCE_SHEET "com/example/poonji/poonji/BankFigures$Item" := Exa.start ev_w_CAPITAL_REDUCED_SINCE_BALANCE_SHEET c17
  obtain ⟨w_LOSSES_SINCE_BALANCE_SHEET, ev_w_LOSSES_SINCE_BALANCE_SHEET⟩ := exa_v c19
  have S_w_LOSSES_SINCE_BALANCE_SHEET : Sta s s.heap "com/example/poonji/poonji/BankFigures$Item" "LOSSES_SINCE_BALANCE_SHEET" "Lcom/example/poonji/poonji/BankFigures$Item;" (.ref w_LOSSES_SINCE_BALANCE_SHEET) := Sta.start ev_w_LOSSES_SINCE_BALANCE_SHEET (Or.inr ⟨(hw _ (List.mem_of_getElem? (i := 3) rfl)), (hw _ (List.mem_of_getElem? (i := 23) rfl))⟩)
  have E_w_LOSSES_SINCE_BALANCE_SHEET : Exa s s.heap w_LOSSES_SINCE_BALANCE_SHEET "com/example/poonji/poonji/BankFigures$Item" := Exa.start ev_w_LOSSES_SINCE_BALANCE_SHEET c19
  obtain ⟨w_NOT_NEGATIVE, ev_w_NOT_NEGATIVE⟩ := exa_v c21
  have S_w_NOT_NEGATIVE : Sta s s.heap "com/example/poonji/poonji/BankFigures$Sign" "NOT_NEGATIVE" "Lcom/example/poonji/poonji/BankFigures$Sign;" (.ref w_NOT_NEGATIVE) := Sta.start ev_w_NOT_NEGATIVE (Or.inr ⟨(hw _ (List.mem_of_getElem? (i := 32) rfl)), (hw _ (List.mem_of_getElem? (i := 33) rfl))⟩)
  have E_w_NOT_NEGATIVE : Exa s s.heap w_NOT_NEGATIVE "com/example/poonji/poonji/BankFigures$Sign" := Exa.start ev_w_NOT_NEGATIVE c21
  obtain ⟨w_ANY, ev_w_ANY⟩ := exa_v c25
  have S_w_ANY : Sta s s.heap "com/example/poonji/poonji/BankFigures$Sign" "ANY" "Lcom/example/poonji/poonji/BankFigures$Sign;" (.ref w_ANY) := Sta.start ev_w_ANY (Or.inr ⟨(hw _ (List.mem_of_getElem? (i := 32) rfl)), (hw _ (List.mem_of_getElem? (i := 35) rfl))⟩)
  have E_w_ANY : Exa s s.heap w_ANY "com/example/poonji/poonji/BankFigures$Sign" := Exa.start ev_w_ANY c25
  have F_sign_w_CURRENT_YEAR_PROFIT : Fld s s.heap w_CURRENT_YEAR_PROFIT "com/example/poonji/poonji/BankFigures$Item" "sign" "Lcom/example/poonji/poonji/BankFigures$Sign;" (.ref w_NOT_NEGATIVE) := Fld.start ((fld_at ev_w_CURRENT_YEAR_PROFIT).symm.trans (own_eqV c23 ev_w_NOT_NEGATIVE))
  have F_ordinal_w_NOT_NEGATIVE : Fld s s.heap w_NOT_NEGATIVE "java/lang/Enum" "ordinal" "I" (.int (0 : Int32)) := Fld.start ((fld_at ev_w_NOT_NEGATIVE).symm.trans (own_eqV c27 rfl))
  have F_ordinal_w_ANY : Fld s s.heap w_ANY "java/lang/Enum" "ordinal" "I" (.int (1 : Int32)) := Fld.start ((fld_at ev_w_ANY).symm.trans (own_eqV c29 rfl))
  have F_sign_w_OTHER_TIER2_CAPITAL : Fld s s.heap w_OTHER_TIER2_CAPITAL "com/example/poonji/poonji/BankFigures$Item" "sign" "Lcom/example/poonji/poonji/BankFigures$Sign;" (.ref w_NOT_NEGATIVE) := Fld.start ((fld_at ev_w_OTHER_TIER2_CAPITAL).symm.trans (own_eqV c31 ev_w_NOT_NEGATIVE))
  have F_sign_w_CURRENT_YEAR_LOSS : Fld s s.heap w_CURRENT_YEAR_LOSS "com/example/poonji/poonji/BankFigures$Item" "sign" "Lcom/example/poonji/poonji/BankFigures$Sign;" (.ref w_NOT_NEGATIVE) := Fld.start ((fld_at ev_w_CURRENT_YEAR_LOSS).symm.trans (own_eqV c33 ev_w_NOT_NEGATIVE))
  have F_sign_w_TIER1_PREVIOUS_MARCH : Fld s s.heap w_TIER1_PREVIOUS_MARCH "com/example/poonji/poonji/BankFigures$Item" "sign" "Lcom/example/poonji/poonji/BankFigures$Sign;" (.ref w_NOT_NEGATIVE) := Fld.start ((fld_at ev_w_TIER1_PREVIOUS_MARCH).symm.trans (own_eqV c35 ev_w_NOT_NEGATIVE))
  have F_sign_w_CAPITAL_ADDED_SINCE_BALANCE_SHEET : Fld s s.heap w_CAPITAL_ADDED_SINCE_BALANCE_SHEET "com/example/poonji/poonji/BankFigures$Item" "sign" "Lcom/example/poonji/poonji/BankFigures$Sign;" (.ref w_NOT_NEGATIVE) := Fld.start ((fld_at ev_w_CAPITAL_ADDED_SINCE_BALANCE_SHEET).symm.trans (own_eqV c37 ev_w_NOT_NEGATIVE))
  have F_sign_w_RISK_WEIGHTED_ASSETS : Fld s s.heap w_RISK_WEIGHTED_ASSETS "com/example/poonji/poonji/BankFigures$Item" "sign" "Lcom/example/poonji/poonji/BankFigures$Sign;" (.ref w_NOT_NEGATIVE) := Fld.start ((fld_at ev_w_RISK_WEIGHTED_ASSETS).symm.trans (own_eqV c39 ev_w_NOT_NEGATIVE))
  have F_sign_w_CAPITAL_REDUCED_SINCE_BALANCE_SHEET : Fld s s.heap w_CAPITAL_REDUCED_SINCE_BALANCE_SHEET "com/example/poonji/poonji/BankFigures$Item" "sign" "Lcom/example/poonji/poonji/BankFigures$Sign;" (.ref w_NOT_NEGATIVE) := Fld.start ((fld_at ev_w_CAPITAL_REDUCED_SINCE_BALANCE_SHEET).symm.trans (own_eqV c41 ev_w_NOT_NEGATIVE))
  have F_sign_w_LOSSES_SINCE_BALANCE_SHEET : Fld s s.heap w_LOSSES_SINCE_BALANCE_SHEET "com/example/poonji/poonji/BankFigures$Item" "sign" "Lcom/example/poonji/poonji/BankFigures$Sign;" (.ref w_NOT_NEGATIVE) := Fld.start ((fld_at ev_w_LOSSES_SINCE_BALANCE_SHEET).symm.trans (own_eqV c43 ev_w_NOT_NEGATIVE))
  have F_sign_w_EQUITY_INVESTMENT_IN_SUBSIDIARIES : Fld s s.heap w_EQUITY_INVESTMENT_IN_SUBSIDIARIES "com/example/poonji/poonji/BankFigures$Item" "sign" "Lcom/example/poonji/poonji/BankFigures$Sign;" (.ref w_NOT_NEGATIVE) := Fld.start ((fld_at ev_w_EQUITY_INVESTMENT_IN_SUBSIDIARIES).symm.trans (own_eqV c45 ev_w_NOT_NEGATIVE))
  have F_sign_w_NABARD_ASSESSED_CRAR : Fld s s.heap w_NABARD_ASSESSED_CRAR "com/example/poonji/poonji/BankFigures$Item" "sign" "Lcom/example/poonji/poonji/BankFigures$Sign;" (.ref w_ANY) := Fld.start ((fld_at ev_w_NABARD_ASSESSED_CRAR).symm.trans (own_eqV c46 ev_w_ANY))
  obtain ⟨n, o, h1, h2, h3, _, L, rfl, ⟨rfl, N⟩, hq⟩ := rm0 l s _ hw tables_1 i0 w_CURRENT_YEAR_PROFIT w_CURRENT_YEAR_LOSS w_RISK_WEIGHTED_ASSETS w_OTHER_TIER2_CAPITAL w_TIER1_PREVIOUS_MARCH w_EQUITY_INVESTMENT_IN_SUBSIDIARIES w_NABARD_ASSESSED_CRAR w_CAPITAL_ADDED_SINCE_BALANCE_SHEET w_CAPITAL_REDUCED_SINCE_BALANCE_SHEET w_LOSSES_SINCE_BALANCE_SHEET w_NOT_NEGATIVE w_ANY s.heap s.heap.size (Nat.le_refl _) S_w_CURRENT_YEAR_PROFIT E_w_CURRENT_YEAR_PROFIT S_w_CURRENT_YEAR_LOSS E_w_CURRENT_YEAR_LOSS S_w_RISK_WEIGHTED_ASSETS E_w_RISK_WEIGHTED_ASSETS S_w_OTHER_TIER2_CAPITAL E_w_OTHER_TIER2_CAPITAL S_w_TIER1_PREVIOUS_MARCH E_w_TIER1_PREVIOUS_MARCH S_w_EQUITY_INVESTMENT_IN_SUBSIDIARIES E_w_EQUITY_INVESTMENT_IN_SUBSIDIARIES S_w_NABARD_ASSESSED_CRAR E_w_NABARD_ASSESSED_CRAR S_w_CAPITAL_ADDED_SINCE_BALANCE_SHEET E_w_CAPITAL_ADDED_SINCE_BALANCE_SHEET S_w_CAPITAL_REDUCED_SINCE_BALANCE_SHEET E_w_CAPITAL_REDUCED_SINCE_BALANCE_SHEET S_w_LOSSES_SINCE_BALANCE_SHEET E_w_LOSSES_SINCE_BALANCE_SHEET S_w_NOT_NEGATIVE E_w_NOT_NEGATIVE S_w_ANY E_w_ANY F_sign_w_CURRENT_YEAR_PROFIT F_ordinal_w_NOT_NEGATIVE F_ordinal_w_ANY F_sign_w_OTHER_TIER2_CAPITAL F_sign_w_CURRENT_YEAR_LOSS F_sign_w_TIER1_PREVIOUS_MARCH F_sign_w_CAPITAL_ADDED_SINCE_BALANCE_SHEET F_sign_w_RISK_WEIGHTED_ASSETS F_sign_w_CAPITAL_REDUCED_SINCE_BALANCE_SHEET F_sign_w_LOSSES_SINCE_BALANCE_SHEET F_sign_w_EQUITY_INVESTMENT_IN_SUBSIDIARIES F_sign_w_NABARD_ASSESSED_CRAR (F_ordinal_w_NOT_NEGATIVE.ne F_ordinal_w_ANY (by simp)) p e ha hc hk s m _ below hf ((Spec.applies_iff_loose hf).mp happ).1 ⟨rfl, State.Warmed39.refl s, rfl⟩ trivial
  refine ⟨n, _, h1, h2, h3, hpost _ _ _ _ _ _ ⟨Cond.after_iff.mpr rfl, Cond.after_iff.mpr (eq_i res_at (Term.int_eval (1)) rfl), trivial⟩ ⟨hq.1, hq.2.1, (hq.2.2.sift fun y hy => Or.inr (N y hy)).mono (by decide) (by decide)⟩⟩
theorem main_1_1 : Claimed_1_1 := comes_1 fun _ _ _ _ _ _ h hF => ⟨h.1, hF⟩
theorem main_1_2 : Claimed_1_2 := comes_1 fun _ _ _ _ _ _ h hF => ⟨h.2.1, hF⟩
end Jvm.Pilot.@@N@@
namespace Jvm.Pilot.@@N@@
open Jvm Jvm.ClassFile Sem Op Lib Jvm.Free Jvm.Stand Jvm.Pilot.@@N@@.Jvm.D
/-! MADE BY PROGRAM (witnessworld.py) out of the Statement's table words and the real class files: 14 classes; the members and pool entries that the words name. The judged class is class 1, her method 1. -/
namespace start1
open Jvm.ClassFile
def u (s : String) : CpInfo := .utf8 (stringToUtf16 s)
/-- a pool by its gaps: so many unusable entries, then the entry; so many at the end -/
def gap : Nat → List CpInfo → List CpInfo
  | 0, r => r
  | n + 1, r => .unusable :: gap n r
def poolList (es : List (Nat × CpInfo)) (last : Nat) : List CpInfo := es.foldr (fun e r => gap e.1 (e.2 :: r)) (gap last [])
def pool (es : List (Nat × CpInfo)) (last : Nat) : Array CpInfo := ⟨poolList es last⟩
def fileOf (pool : Array CpInfo) (this : Nat) (attrs : Array Attribute := #[]) (ms : Array MethodInfo := #[]) (fl : Nat := 33) (sup : Nat := 0) (ifs : Array Nat := #[]) (fds : Array FieldInfo := #[]) : ClassFile where
  minorVersion := 0
  majorVersion := 65
  constantPool := pool
  accessFlags := fl
  thisClass := this
  superClass := sup
  interfaces := ifs
  fields := fds
  methods := ms
  attributes := attrs
def plain (name : String) (sup : Option ClassId) : Class where
  name := name
  kind := .ordinary
  loader := none
  accessFlags := 33
  super := sup
  interfaces := #[]
  cf := none
  fields := #[]
  methods := #[]
  instanceTypes := #[]
  staticTypes := #[]
  resolved := #[]
  callSites := []
  init := .initialized
  statics := none
  mirror := none

def pool0 : Array CpInfo := pool [(5, u "<init>"), (0, u "()V"), (1, .class_ 10), (1, u "java/lang/Object")] 113

def k0m0 : Method := { name := "<init>", desc := "()V", sig := { parameters := [], returnType := none }, accessFlags := 1, code := none }
/-- java/lang/Object -/
def k0 : Class := { plain "java/lang/Object" none with
  accessFlags := 33
  interfaces := #[]
  cf := some (fileOf pool0 8 #[] #[{ accessFlags := 1, nameIndex := 5, descriptorIndex := 6, attributes := #[] }] 33 0 #[] #[])
  fields := #[]
  methods := #[k0m0]
  instanceTypes := #[]
  staticTypes := #[]
  resolved := Array.replicate 124 none
  statics := none }

def pool1 : Array CpInfo := pool [(2, .class_ 4), (1, u "java/lang/Object"), (0, u "<init>"), (0, u "()V"), (0, .class_ 8), (0, u "com/example/poonji/poonji/BankFigures$Item"), (0, .fieldref 7 10), (0, .nameAndType 11 12), (0, u "CURRENT_YEAR_PROFIT"), (0, u "Lcom/example/poonji/poonji/BankFigures$Item;"), (0, .fieldref 7 14), (0, .nameAndType 15 12), (0, u "CURRENT_YEAR_LOSS"), (0, .fieldref 7 17), (0, .nameAndType 18 12), (0, u "RISK_WEIGHTED_ASSETS"), (0, .fieldref 7 20), (0, .nameAndType 21 12), (0, u "OTHER_TIER2_CAPITAL"), (0, .fieldref 7 23), (0, .nameAndType 24 12), (0, u "TIER1_PREVIOUS_MARCH"), (0, .fieldref 7 26), (0, .nameAndType 27 12), (0, u "EQUITY_INVESTMENT_IN_SUBSIDIARIES"), (0, .fieldref 7 29), (0, .nameAndType 30 12), (0, u "NABARD_ASSESSED_CRAR"), (0, .fieldref 7 32), (0, .nameAndType 33 12), (0, u "CAPITAL_ADDED_SINCE_BALANCE_SHEET"), (0, .fieldref 7 35), (0, .nameAndType 36 12), (0, u "CAPITAL_REDUCED_SINCE_BALANCE_SHEET"), (0, .fieldref 7 38), (0, .nameAndType 39 12), (0, u "LOSSES_SINCE_BALANCE_SHEET"), (0, .integer 2147483647), (0, .methodref 7 42), (0, .nameAndType 43 44), (0, u "signed"), (0, u "()Z"), (0, .class_ 46), (0, u "com/example/poonji/poonji/ItemSignedPinLaw"), (2, u "law"), (0, u "(I)Z")] 9

def k1m0 : Method := { name := "<init>", desc := "()V", sig := { parameters := [], returnType := none }, accessFlags := 2, code := none }
def k1c1 : Code := { maxStack := 4, maxLocals := 4, code := code, exceptionTable := #[], attributes := #[] }
def k1m1 : Method := { name := "law", desc := "(I)Z", sig := { parameters := [.int], returnType := some .boolean }, accessFlags := 9, code := some k1c1 }
/-- com/example/poonji/poonji/ItemSignedPinLaw -/
def k1 : Class := { plain "com/example/poonji/poonji/ItemSignedPinLaw" (some 0) with
  accessFlags := 49
  interfaces := #[]
  cf := some (fileOf pool1 45 #[] #[{ accessFlags := 2, nameIndex := 5, descriptorIndex := 6, attributes := #[] }, { accessFlags := 9, nameIndex := 49, descriptorIndex := 50, attributes := #[] }] 49 2 #[] #[])
  fields := #[]
  methods := #[k1m0, k1m1]
  instanceTypes := #[]
  staticTypes := #[]
  resolved := Array.replicate 60 none
  statics := none }

def pool2 : Array CpInfo := pool [(1, .class_ 2), (0, u "java/lang/constant/Constable"), (0, .class_ 4), (0, u "java/lang/Object")] 6

/-- java/lang/constant/Constable -/
def k2 : Class := { plain "java/lang/constant/Constable" (some 0) with
  accessFlags := 1537
  interfaces := #[]
  cf := some (fileOf pool2 1 #[] #[] 1537 3 #[] #[])
  fields := #[]
  methods := #[]
  instanceTypes := #[]
  staticTypes := #[]
  resolved := Array.replicate 11 none
  statics := none }

def pool3 : Array CpInfo := pool [(1, .class_ 2), (0, u "java/lang/Comparable"), (0, .class_ 4), (0, u "java/lang/Object")] 7

/-- java/lang/Comparable -/
def k3 : Class := { plain "java/lang/Comparable" (some 0) with
  accessFlags := 1537
  interfaces := #[]
  cf := some (fileOf pool3 1 #[] #[] 1537 3 #[] #[])
  fields := #[]
  methods := #[]
  instanceTypes := #[]
  staticTypes := #[]
  resolved := Array.replicate 12 none
  statics := none }

def pool4 : Array CpInfo := pool [(1, .class_ 2), (0, u "java/io/Serializable"), (0, .class_ 4), (0, u "java/lang/Object")] 2

/-- java/io/Serializable -/
def k4 : Class := { plain "java/io/Serializable" (some 0) with
  accessFlags := 1537
  interfaces := #[]
  cf := some (fileOf pool4 1 #[] #[] 1537 3 #[] #[])
  fields := #[]
  methods := #[]
  instanceTypes := #[]
  staticTypes := #[]
  resolved := Array.replicate 7 none
  statics := none }

def pool5 : Array CpInfo := pool [(2, .class_ 4), (1, u "java/lang/Enum"), (0, u "name"), (0, u "Ljava/lang/String;"), (2, u "ordinal"), (0, u "I"), (1, .class_ 14), (1, u "java/lang/Object"), (4, u "hash"), (86, .class_ 108), (1, u "java/lang/Enum$EnumDesc"), (2, .class_ 112), (0, u "java/lang/constant/Constable"), (0, .class_ 114), (0, u "java/lang/Comparable"), (0, .class_ 116), (0, u "java/io/Serializable")] 87

/-- java/lang/Enum -/
def k5 : Class := { plain "java/lang/Enum" (some 0) with
  accessFlags := 1057
  interfaces := #[2, 3, 4]
  cf := some (fileOf pool5 2 #[.nestMembers #[106]] #[] 1057 12 #[111, 113, 115] #[{ accessFlags := 18, nameIndex := 5, descriptorIndex := 6, attributes := #[] }, { accessFlags := 18, nameIndex := 9, descriptorIndex := 10, attributes := #[] }, { accessFlags := 2, nameIndex := 19, descriptorIndex := 10, attributes := #[] }])
  fields := #[{ name := "name", type := (.object "java/lang/String"), accessFlags := 18, slot := 0, constantValue := 0 }, { name := "ordinal", type := .int, accessFlags := 18, slot := 1, constantValue := 0 }, { name := "hash", type := .int, accessFlags := 2, slot := 2, constantValue := 0 }]
  methods := #[]
  instanceTypes := #[(.object "java/lang/String"), .int, .int]
  staticTypes := #[]
  resolved := Array.replicate 204 none
  statics := none }

def pool6 : Array CpInfo := pool [(1, .class_ 2), (0, u "com/example/poonji/poonji/BankFigures$Item"), (2, u "CURRENT_YEAR_PROFIT"), (0, u "Lcom/example/poonji/poonji/BankFigures$Item;"), (2, u "CURRENT_YEAR_LOSS"), (2, u "RISK_WEIGHTED_ASSETS"), (2, u "OTHER_TIER2_CAPITAL"), (2, u "TIER1_PREVIOUS_MARCH"), (2, u "EQUITY_INVESTMENT_IN_SUBSIDIARIES"), (2, u "NABARD_ASSESSED_CRAR"), (2, u "CAPITAL_ADDED_SINCE_BALANCE_SHEET"), (2, u "CAPITAL_REDUCED_SINCE_BALANCE_SHEET"), (2, u "LOSSES_SINCE_BALANCE_SHEET"), (2, u "$VALUES"), (0, u "[Lcom/example/poonji/poonji/BankFigures$Item;"), (6, .class_ 46), (1, u "java/lang/Enum"), (3, .class_ 52), (1, u "com/example/poonji/poonji/BankFigures$Sign"), (1, u "Lcom/example/poonji/poonji/BankFigures$Sign;"), (9, u "code"), (0, u "Ljava/lang/String;"), (0, .fieldref 1 67), (0, .nameAndType 68 54), (0, u "sign"), (8, u "readers"), (0, u "Ljava/util/List;"), (2, u "BY_CODE"), (0, u "Ljava/util/Map;"), (12, .fieldref 50 96), (0, .nameAndType 97 54), (0, u "ANY"), (18, u "()Z"), (89, u "signed"), (9, .class_ 217), (0, u "com/example/poonji/poonji/BankFigures")] 23

def k6c0 : Code := { maxStack := 2, maxLocals := 1, code := prog_6_method_7_code, exceptionTable := #[], attributes := #[] }
def k6m0 : Method := { name := "signed", desc := "()Z", sig := { parameters := [], returnType := some .boolean }, accessFlags := 1, code := some k6c0 }
/-- com/example/poonji/poonji/BankFigures$Item -/
def k6 : Class := { plain "com/example/poonji/poonji/BankFigures$Item" (some 5) with
  accessFlags := 16433
  interfaces := #[]
  cf := some (fileOf pool6 1 #[.nestHost 216] #[{ accessFlags := 1, nameIndex := 206, descriptorIndex := 116, attributes := #[] }] 16433 44 #[] #[{ accessFlags := 16409, nameIndex := 5, descriptorIndex := 6, attributes := #[] }, { accessFlags := 16409, nameIndex := 9, descriptorIndex := 6, attributes := #[] }, { accessFlags := 16409, nameIndex := 12, descriptorIndex := 6, attributes := #[] }, { accessFlags := 16409, nameIndex := 15, descriptorIndex := 6, attributes := #[] }, { accessFlags := 16409, nameIndex := 18, descriptorIndex := 6, attributes := #[] }, { accessFlags := 16409, nameIndex := 21, descriptorIndex := 6, attributes := #[] }, { accessFlags := 16409, nameIndex := 24, descriptorIndex := 6, attributes := #[] }, { accessFlags := 16409, nameIndex := 27, descriptorIndex := 6, attributes := #[] }, { accessFlags := 16409, nameIndex := 30, descriptorIndex := 6, attributes := #[] }, { accessFlags := 16409, nameIndex := 33, descriptorIndex := 6, attributes := #[] }, { accessFlags := 26, nameIndex := 81, descriptorIndex := 82, attributes := #[] }, { accessFlags := 18, nameIndex := 64, descriptorIndex := 65, attributes := #[] }, { accessFlags := 18, nameIndex := 68, descriptorIndex := 54, attributes := #[] }, { accessFlags := 18, nameIndex := 77, descriptorIndex := 78, attributes := #[] }, { accessFlags := 4122, nameIndex := 36, descriptorIndex := 37, attributes := #[] }])
  fields := #[{ name := "CURRENT_YEAR_PROFIT", type := (.object "com/example/poonji/poonji/BankFigures$Item"), accessFlags := 16409, slot := 0, constantValue := 0 }, { name := "CURRENT_YEAR_LOSS", type := (.object "com/example/poonji/poonji/BankFigures$Item"), accessFlags := 16409, slot := 1, constantValue := 0 }, { name := "RISK_WEIGHTED_ASSETS", type := (.object "com/example/poonji/poonji/BankFigures$Item"), accessFlags := 16409, slot := 2, constantValue := 0 }, { name := "OTHER_TIER2_CAPITAL", type := (.object "com/example/poonji/poonji/BankFigures$Item"), accessFlags := 16409, slot := 3, constantValue := 0 }, { name := "TIER1_PREVIOUS_MARCH", type := (.object "com/example/poonji/poonji/BankFigures$Item"), accessFlags := 16409, slot := 4, constantValue := 0 }, { name := "EQUITY_INVESTMENT_IN_SUBSIDIARIES", type := (.object "com/example/poonji/poonji/BankFigures$Item"), accessFlags := 16409, slot := 5, constantValue := 0 }, { name := "NABARD_ASSESSED_CRAR", type := (.object "com/example/poonji/poonji/BankFigures$Item"), accessFlags := 16409, slot := 6, constantValue := 0 }, { name := "CAPITAL_ADDED_SINCE_BALANCE_SHEET", type := (.object "com/example/poonji/poonji/BankFigures$Item"), accessFlags := 16409, slot := 7, constantValue := 0 }, { name := "CAPITAL_REDUCED_SINCE_BALANCE_SHEET", type := (.object "com/example/poonji/poonji/BankFigures$Item"), accessFlags := 16409, slot := 8, constantValue := 0 }, { name := "LOSSES_SINCE_BALANCE_SHEET", type := (.object "com/example/poonji/poonji/BankFigures$Item"), accessFlags := 16409, slot := 9, constantValue := 0 }, { name := "BY_CODE", type := (.object "java/util/Map"), accessFlags := 26, slot := 10, constantValue := 0 }, { name := "code", type := (.object "java/lang/String"), accessFlags := 18, slot := 3, constantValue := 0 }, { name := "sign", type := (.object "com/example/poonji/poonji/BankFigures$Sign"), accessFlags := 18, slot := 4, constantValue := 0 }, { name := "readers", type := (.object "java/util/List"), accessFlags := 18, slot := 5, constantValue := 0 }, { name := "$VALUES", type := (.array (.object "com/example/poonji/poonji/BankFigures$Item")), accessFlags := 4122, slot := 11, constantValue := 0 }]
  methods := #[k6m0]
  instanceTypes := #[(.object "java/lang/String"), .int, .int, (.object "java/lang/String"), (.object "com/example/poonji/poonji/BankFigures$Sign"), (.object "java/util/List")]
  staticTypes := #[(.object "com/example/poonji/poonji/BankFigures$Item"), (.object "com/example/poonji/poonji/BankFigures$Item"), (.object "com/example/poonji/poonji/BankFigures$Item"), (.object "com/example/poonji/poonji/BankFigures$Item"), (.object "com/example/poonji/poonji/BankFigures$Item"), (.object "com/example/poonji/poonji/BankFigures$Item"), (.object "com/example/poonji/poonji/BankFigures$Item"), (.object "com/example/poonji/poonji/BankFigures$Item"), (.object "com/example/poonji/poonji/BankFigures$Item"), (.object "com/example/poonji/poonji/BankFigures$Item"), (.object "java/util/Map"), (.array (.object "com/example/poonji/poonji/BankFigures$Item"))]
  resolved := Array.replicate 241 none
  statics := some 0 }

def pool7 : Array CpInfo := pool [(1, .class_ 2), (0, u "com/example/poonji/poonji/BankFigures$Sign"), (2, u "NOT_NEGATIVE"), (0, u "Lcom/example/poonji/poonji/BankFigures$Sign;"), (2, u "ANY"), (2, u "$VALUES"), (0, u "[Lcom/example/poonji/poonji/BankFigures$Sign;"), (6, .class_ 22), (1, u "java/lang/Enum"), (25, .class_ 49), (0, u "com/example/poonji/poonji/BankFigures")] 2

/-- com/example/poonji/poonji/BankFigures$Sign -/
def k7 : Class := { plain "com/example/poonji/poonji/BankFigures$Sign" (some 5) with
  accessFlags := 16432
  interfaces := #[]
  cf := some (fileOf pool7 1 #[.nestHost 48] #[] 16432 20 #[] #[{ accessFlags := 16409, nameIndex := 5, descriptorIndex := 6, attributes := #[] }, { accessFlags := 16409, nameIndex := 9, descriptorIndex := 6, attributes := #[] }, { accessFlags := 4122, nameIndex := 12, descriptorIndex := 13, attributes := #[] }])
  fields := #[{ name := "NOT_NEGATIVE", type := (.object "com/example/poonji/poonji/BankFigures$Sign"), accessFlags := 16409, slot := 0, constantValue := 0 }, { name := "ANY", type := (.object "com/example/poonji/poonji/BankFigures$Sign"), accessFlags := 16409, slot := 1, constantValue := 0 }, { name := "$VALUES", type := (.array (.object "com/example/poonji/poonji/BankFigures$Sign")), accessFlags := 4122, slot := 2, constantValue := 0 }]
  methods := #[]
  instanceTypes := #[(.object "java/lang/String"), .int, .int]
  staticTypes := #[(.object "com/example/poonji/poonji/BankFigures$Sign"), (.object "com/example/poonji/poonji/BankFigures$Sign"), (.array (.object "com/example/poonji/poonji/BankFigures$Sign"))]
  resolved := Array.replicate 52 none
  statics := some 1 }

def pool8 : Array CpInfo := pool [(1, u "java/lang/Cloneable"), (0, .class_ 1), (0, u "java/lang/Object"), (0, .class_ 3)] 3

/-- java/lang/Cloneable -/
def k8 : Class := { plain "java/lang/Cloneable" (some 0) with
  accessFlags := 1537
  interfaces := #[]
  cf := some (fileOf pool8 2 #[] #[] 1537 4 #[] #[])
  fields := #[]
  methods := #[]
  instanceTypes := #[]
  staticTypes := #[]
  resolved := Array.replicate 8 none
  statics := none }

/-- the primitive byte -/
def k9 : Class := { plain "byte" none with kind := .primitive 'B', accessFlags := 0x411 }
/-- [B -/
def k10 : Class := { plain "[B" (some 0) with kind := .array 9 .byte, interfaces := #[8, 4], accessFlags := 1041 }

/-- the primitive int -/
def k11 : Class := { plain "int" none with kind := .primitive 'I', accessFlags := 0x411 }
/-- [I -/
def k12 : Class := { plain "[I" (some 0) with kind := .array 11 .int, interfaces := #[8, 4], accessFlags := 1041 }

/-- [Lcom/example/poonji/poonji/BankFigures$Item; -/
def k13 : Class := { plain "[Lcom/example/poonji/poonji/BankFigures$Item;" (some 0) with kind := .array 6 (.object "com/example/poonji/poonji/BankFigures$Item"), interfaces := #[8, 4], accessFlags := 1041 }

def heap : Heap := #[{ cls := 6, slots := #[.ref 2, .ref 3, .ref 4, .ref 5, .ref 6, .ref 7, .ref 8, .ref 9, .ref 10, .ref 11, .null, .null], vm := .statics 6 },
  { cls := 7, slots := #[.ref 12, .ref 13, .null], vm := .statics 7 },
  { cls := 6, slots := #[.null, .int 0, .int 0, .null, .ref 12, .null], vm := .none },
  { cls := 6, slots := #[.null, .int 0, .int 0, .null, .ref 12, .null], vm := .none },
  { cls := 6, slots := #[.null, .int 0, .int 0, .null, .ref 12, .null], vm := .none },
  { cls := 6, slots := #[.null, .int 0, .int 0, .null, .ref 12, .null], vm := .none },
  { cls := 6, slots := #[.null, .int 0, .int 0, .null, .ref 12, .null], vm := .none },
  { cls := 6, slots := #[.null, .int 0, .int 0, .null, .ref 12, .null], vm := .none },
  { cls := 6, slots := #[.null, .int 0, .int 0, .null, .ref 13, .null], vm := .none },
  { cls := 6, slots := #[.null, .int 0, .int 0, .null, .ref 12, .null], vm := .none },
  { cls := 6, slots := #[.null, .int 0, .int 0, .null, .ref 12, .null], vm := .none },
  { cls := 6, slots := #[.null, .int 0, .int 0, .null, .ref 12, .null], vm := .none },
  { cls := 7, slots := #[.null, .int 0, .int 0], vm := .none },
  { cls := 7, slots := #[.null, .int 1, .int 0], vm := .none }]
def classes : Array Class := #[k0, k1, k2, k3, k4, k5, k6, k7, k8, k9, k10, k11, k12, k13]
def interned : List (Array UInt16 × Addr) := []
def slotsUsed : Nat := 81
def theMethod : MethodId := ⟨1, 1⟩
def args0 : Array Value := #[.int 1]
def aboutOver (below : List Frame) : State where
  vm := { classes := classes, interned := interned.toArray }
  heap := heap
  slotsUsed := slotsUsed
  threads := #[{ frames := .invoking theMethod args0 :: below }]
def below0 : List Frame := [.native { method := ⟨0, 0⟩, args := #[] }]
def about1 : State := aboutOver below0
def p0 : Program := .bare "" "" ""
def e0 : Env := launch0.env 0 0 0
theorem w_frames : about1.frames = Frame.invoking theMethod args0 :: below0 := rfl
set_option maxRecDepth 65536 in
theorem w_args : argsFit about1.vm theMethod args0 = true := by decide +kernel
set_option maxRecDepth 65536 in
theorem w_heap : heapFits about1 = true := by decide +kernel
set_option maxRecDepth 65536 in
theorem w_runnable : about1.curStatus? = some .runnable := by decide +kernel
set_option maxRecDepth 65536 in
theorem w_alone : about1.alone = true := by decide +kernel
set_option maxRecDepth 65536 in
theorem w_named : about1.methodNamed? x = some theMethod := by decide +kernel
set_option maxRecDepth 65536 in
theorem w_hears : about1.hears theMethod below0 = true := by decide +kernel
set_option maxRecDepth 65536 in
theorem w_ripe : about1.ripe theMethod args0 below0 = true := by decide +kernel
theorem w_running : about1.status = .running := rfl
set_option maxRecDepth 65536 in
theorem w_room : about1.hasRoom e0.platform room_1 = true :=
  launch0.hasRoom_least _ room_1 (by decide +kernel) (by decide +kernel) (by decide +kernel) (by decide +kernel) (by decide +kernel) (by decide +kernel)
theorem allAtoms_all (ts : List Jvm.Cond) (a : Array Jvm.Value) (st : Jvm.State) : (allAtoms ts).before a st = ts.all (fun c => c.before a st) := by
  induction ts with
  | nil => rfl
  | cons c t ih =>
    show (Jvm.Cond.and c (allAtoms t)).before a st = _
    rw [Jvm.Cond.before_and, ih, List.all_cons]
def words1 : List Jvm.Cond := Jvm.Cond.code x code maxLocals ret :: tables_1
/-- a 'code' word, met by the world's own term for the bytes: nothing is compared byte by byte -/
theorem code_word {y : MethodName} {bytes : ByteArray} {mx : Nat} {rt : Option FieldType} {a : Array Value} {s : State} {m : MethodId} {meth : Method} {c : Code} (h1 : s.methodNamed? y = some m) (h2 : s.vm.method? m = some meth) (h3 : meth.code = some c) (h4 : c.code = bytes)
    (h5 : (c.maxLocals == mx && c.exceptionTable.isEmpty && decide (c.maxStack ≤ mostOperands) && decide (meth.sig.returnType = rt) && !meth.locks && decide (parseMethodDescriptor y.desc = some meth.sig)) = true) : (Jvm.Cond.code y bytes mx rt).before a s = true := by
  simp only [Bool.and_eq_true, beq_iff_eq, Bool.not_eq_true', decide_eq_true_eq] at h5
  obtain ⟨⟨⟨⟨⟨g1, g2⟩, g3⟩, g4⟩, g5⟩, g6⟩ := h5
  simp [Cond.before, Cond.holds, Cond.value, h1, h2, h3, h4, g1, g2, g3, g4, g5, g6]
def isCode : Jvm.Cond → Bool
  | .code _ _ _ _ => true
  | _ => false
theorem all_split {L : List Jvm.Cond} {P : Jvm.Cond → Bool} (h1 : L.all (fun c => isCode c || P c) = true) (h2 : ∀ c ∈ L.filter isCode, P c = true) : L.all P = true := by
  refine List.all_eq_true.mpr fun c hc => ?_
  have h := List.all_eq_true.mp h1 c hc
  rcases Bool.eq_false_or_eq_true (isCode c) with hi | hi
  · exact h2 c (List.mem_filter.mpr ⟨hc, hi⟩)
  · simpa [hi] using h
set_option maxRecDepth 65536 in
theorem w_c0 : (Jvm.Cond.code x code maxLocals ret).before args0 about1 = true := code_word (m := ⟨1, 1⟩) (meth := k1m1) (c := k1c1) (by decide +kernel) rfl rfl rfl (by decide +kernel)
set_option maxRecDepth 65536 in
theorem w_c1 : (Jvm.Cond.code ({ cls := "com/example/poonji/poonji/BankFigures$Item", name := "signed", desc := "()Z" } : Jvm.MethodName) prog_6_method_7_code (1 : Nat) (Option.some Jvm.ClassFile.FieldType.boolean)).before args0 about1 = true := code_word (m := ⟨6, 0⟩) (meth := k6m0) (c := k6c0) (by decide +kernel) rfl rfl rfl (by decide +kernel)
def codes1 : List Jvm.Cond := [Jvm.Cond.code x code maxLocals ret, Jvm.Cond.code ({ cls := "com/example/poonji/poonji/BankFigures$Item", name := "signed", desc := "()Z" } : Jvm.MethodName) prog_6_method_7_code (1 : Nat) (Option.some Jvm.ClassFile.FieldType.boolean)]
set_option maxRecDepth 65536 in
theorem codes_eq : words1.filter isCode = codes1 := rfl
theorem w_codes : ∀ c ∈ words1.filter isCode, c.before args0 about1 = true := by
  rw [codes_eq]
  intro c hc
  simp only [codes1, List.mem_cons, List.not_mem_nil, or_false] at hc
  rcases hc with rfl | rfl
  · exact w_c0
  · exact w_c1
set_option maxRecDepth 65536 in
theorem w_t1 : (words1.take 24).all (fun c => isCode c || c.before args0 about1) = true := by decide +kernel
set_option maxRecDepth 65536 in
theorem w_t2 : (words1.drop 24).all (fun c => isCode c || c.before args0 about1) = true := by decide +kernel
theorem w_tables : (allAtoms (Jvm.Cond.code x code maxLocals ret :: tables_1)).before args0 about1 = true := by
  rw [allAtoms_all]
  show words1.all (fun c => c.before args0 about1) = true
  refine all_split ?_ w_codes
  rw [← List.take_append_drop 24 words1, List.all_append, w_t1, w_t2]
  rfl
set_option maxRecDepth 65536 in
theorem w_case : (Jvm.Cond.and given_1 narrow_1).before args0 about1 = true := by decide +kernel
theorem w_applies : (headSpec (Jvm.Cond.code x code maxLocals ret :: tables_1) room_1).applies x e0.platform about1 = true :=
  (Spec.applies_iff w_frames).mpr ⟨w_running, w_runnable, w_alone, w_named, w_hears, w_ripe, w_room, w_tables⟩
theorem atStart : AtStart classFile x code maxLocals ret World_1 tables_1 room_1 Calls_1 rest_1 Pre_1 launch0 p0 e0 about1 theMethod args0 below0 :=
  ⟨lists_1, trivial, launch0.admits_env _ _ _, launch0.least_env, fairChoices_fair.cas, fairChoices_fair.clock, w_frames, w_args, w_heap, w_applies, trivial, trivial, w_case⟩
end start1
theorem witness_1 : WitnessClaimed_1 := ⟨start1.p0, start1.e0, start1.about1, start1.theMethod, start1.args0, start1.below0, start1.atStart⟩
end Jvm.Pilot.@@N@@
