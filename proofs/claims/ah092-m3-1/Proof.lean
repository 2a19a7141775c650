import JvmDerived
import JvmDerived.Pilot.@@N@@Statement
import JvmDerived.Pilot.@@N@@Code
set_option linter.unusedVariables false
set_option linter.unusedSimpArgs false
namespace Jvm.RoadKit
open Sem ClassFile Op Lib Jvm.Stand Jvm.Free Jvm.LawKit
section New
variable {p : Program} {l : Launch} {e : Env} {R : Room} {s : State} {m : MethodId} {args : Array Value} {below : List Frame} {meth : Method} {c : Code} {T : State} {locs : List Loc} {cells slots : Nat}
theorem retI (X : Stand p l e R s m args below meth c T locs cells slots) (hx : p.tables.exec = Jvm.exec) {pc : Nat} {Ls : Array Slot} {z : Int32} {rest : List Value} (hret : meth.sig.returnType = some .int) (hd : decode c.code pc = .ok (.ireturn, 1)) {fs : List Frame}
    (hl : ∀ (f : JFrame) (acts : List Action), f.method = m → f.locked = none → f.entered = [] → (doReturn e (T.setTop f) acts (some (.int z))).1 = T.setFrames fs) : Steps p.tables e below (T.setTop (mkF m pc Ls (.int z :: rest))) (T.setFrames fs) := by
  have hm' : T.vm.method? m = some meth := X.method'
  have hn : narrow .int (.int z) = .int z := rfl
  show Steps p.tables e below (T.setTop { method := m, pc := pc, locals := Ls, stack := _ :: rest, locked := none }) _
  jvm_step X.here [X.here.top, hx, hd, hm', hret, hn]
  first | (intro acts; rw [hl _ acts rfl rfl rfl]) | rw [hl _ _ rfl rfl rfl]
  exact Steps.refl _
end New
/-- from this state a run goes on to an end that meets K -/
def Good (p : Program) (e : Env) (below : List Frame) (K : Outcome → State → Prop) (S : State) : Prop := ∃ s₂ o, Steps p.tables e below S s₂ ∧ s₂.status = .running ∧ Ended s₂ below o ∧ K o s₂
theorem Good.back {p : Program} {e : Env} {below : List Frame} {K : Outcome → State → Prop} {S S' : State} (h : ∀ t, Steps p.tables e below S' t → Steps p.tables e below S t) (g : Good p e below K S') : Good p e below K S := by
  obtain ⟨t, o, h1, h2⟩ := g
  exact ⟨t, o, h t h1, h2⟩
theorem Good.done {p : Program} {e : Env} {below : List Frame} {K : Outcome → State → Prop} {S t : State} {o : Outcome} (h1 : Steps p.tables e below S t) (h2 : t.status = .running) (h3 : Ended t below o) (h4 : K o t) : Good p e below K S := ⟨t, o, h1, h2, h3, h4⟩
end Jvm.RoadKit
namespace Jvm.Pilot.@@N@@
open Jvm Jvm.ClassFile Sem Op Lib Jvm.Free Jvm.Stand Jvm.LawKit Jvm.RoadKit Bundle Jvm.Pilot.@@N@@.Jvm.D
theorem own_eqV {args : Array Value} {first s : State} {o : Option Outcome} {idx : List Nat} {a b : Term} {y : Value} (h : (Jvm.Cond.eq a b).value args first o s idx = some true) (hb : b.eval args first o idx s = some y) : a.eval args first o idx s = some y := by
  cases ha : a.eval args first o idx s with
  | none => simp [Jvm.Cond.value, ha] at h
  | some x => cases x <;> cases y <;> simp_all [Jvm.Cond.value]
theorem own_len {args : Array Value} {s : State} {t : Term} {a : Addr} {cl : Cell} {ty : FieldType} {k : Int32} (A : Arr s s.heap a cl ty) (ev : t.eval args s none [] s = some (.ref a)) (h : (Term.length t).eval args s none [] s = some (.int k)) : cl.slots.size < 2 ^ 31 ∧ cl.slots.size.toInt32 = k := by
  have ha : s.arrayAt? a = some cl := IntBox.arrayAt_of A.1 A.2.1 A.2.2
  simp [Term.eval, ev, ha] at h
  exact h

theorem own_pn0 : plainName "com/example/trinode/trinode/game/Side" = true := by first | (simp [plainName, overriddenIn]; done) | decide +kernel
theorem own_d1_0 : decode prog_18_method_6_code 0 = .ok (.aload_n 0, 1) := by decide +kernel
theorem own_d1_1 : decode prog_18_method_6_code 1 = .ok (.getstatic 3, 3) := by decide +kernel
theorem own_d1_4 : decode prog_18_method_6_code 4 = .ok (.if_acmp .ne 9, 3) := by decide +kernel
theorem own_d1_7 : decode prog_18_method_6_code 7 = .ok (.getstatic 7, 3) := by decide +kernel
theorem own_d1_10 : decode prog_18_method_6_code 10 = .ok (.goto 6, 3) := by decide +kernel
theorem own_d1_16 : decode prog_18_method_6_code 16 = .ok (.areturn, 1) := by decide +kernel
theorem own_ef_1w (m : MethodId) (x0 : Addr) : entryFrame m #[(.ref x0)] 1 = mkF m 0 #[.val (.ref x0)] [] := by first | (simp [entryFrame, mkF, argsToLocals, Value.category]; done) | rfl
def Q1w (Z : State) (w_WHITE : Addr) (w_BLACK : Addr) (h0 : Heap) (n0 : Nat) (v : Option Value) (h : Heap) (L : List Loc) : Prop := v = some (.ref w_BLACK) ∧ Fr n0 L ∧ h = h0
set_option maxRecDepth 65536 in
set_option maxHeartbeats 40000000 in
theorem rm1w (l : Launch) (Z : State) (a0 : Array Value) (hw : ∀ d ∈ tables_1, d.before a0 Z = true) (ws : List Jvm.Cond) (w_WHITE : Addr) (w_BLACK : Addr) (h0 : Heap) (n0 : Nat) (Z0 : n0 ≤ h0.size) (S_w_WHITE : Sta Z h0 "com/example/trinode/trinode/game/Side" "WHITE" "Lcom/example/trinode/trinode/game/Side;" (.ref w_WHITE)) (S_w_BLACK : Sta Z h0 "com/example/trinode/trinode/game/Side" "BLACK" "Lcom/example/trinode/trinode/game/Side;" (.ref w_BLACK)) (hne : w_BLACK ≠ w_WHITE) :
    MetFree l (⟨"com/example/trinode/trinode/game/Side", "opponent", "()Lcom/example/trinode/trinode/game/Side;"⟩ : MethodName) (head1 (Jvm.Cond.code (⟨"com/example/trinode/trinode/game/Side", "opponent", "()Lcom/example/trinode/trinode/game/Side;"⟩ : MethodName) prog_18_method_6_code 1 (some (.object "com/example/trinode/trinode/game/Side")) :: ws) ({ frames := 0, cells := 0, slots := 0, locals := 0 } : Room)) (fun a U => a = #[(.ref w_WHITE)] ∧ Z.Warmed39 U.vm ∧ U.heap = h0) (fun _ _ _ _ _ => True) (fun _ U o U' => ∃ v L, o = .returned v ∧ Q1w Z w_WHITE w_BLACK h0 n0 v U'.heap L ∧ FrameEnd U o U' L ({ frames := 0, cells := 0, slots := 0, locals := 0 } : Room).cells ({ frames := 0, cells := 0, slots := 0, locals := 0 } : Room).slots) := by
  refine MetFree.of_bodySF (plainFor_of_name own_pn0) hisR ?_
  intro p e s m args below meth c s₁ Bd hml0 hP hK
  obtain ⟨rfl, hZ, hh⟩ := hP
  have hx := Bd.exec
  have hby := Bd.bytes
  have hml : c.maxLocals = 1 := hml0
  have hown : s.vm.findClass "com/example/trinode/trinode/game/Side" = some m.cls := findClass_of_methodNamed Bd.named
  have hnm := (name_of_methodNamed Bd.named Bd.method).1
  have X0 : Stand p l e ({ frames := 0, cells := 0, slots := 0, locals := 0 } : Room) s m #[(.ref w_WHITE)] below meth c s₁ [] 0 0 := Stand.of_body Bd
  have e0 : s₁.heap = h0 := by rw [← hh, Bd.state]; rfl
  have N0 := Fr.nil n0
  show Good p e below (fun o U' => ∃ v L, o = .returned v ∧ Q1w Z w_WHITE w_BLACK h0 n0 v U'.heap L ∧ FrameEnd s o U' L ({ frames := 0, cells := 0, slots := 0, locals := 0 } : Room).cells ({ frames := 0, cells := 0, slots := 0, locals := 0 } : Room).slots) _
  refine Good.back (S' := s₁.setTop (mkF m 0 #[.val (.ref w_WHITE)] [])) (fun t k => castTop (own_ef_1w m w_WHITE) k) ?_
  show Good p e below _ (s₁.setTop (mkF m 0 #[.val (.ref w_WHITE)] []))
  refine Good.back (fun _ k => XS.aloadN X0.here hx rfl (hb hby own_d1_0) rfl rfl k) ?_
  show Good p e below _ (s₁.setTop (mkF m 1 #[.val (.ref w_WHITE)] [(.ref w_WHITE)]))
  obtain ⟨T1, X1, e1, st1⟩ := getS2 X0 hx hZ hown (host := "") (Or.inl (hw _ (List.mem_of_getElem? (i := 8) rfl))) Via.refl e0 S_w_WHITE (g := (mkF m 1 #[.val (.ref w_WHITE)] [(.ref w_WHITE)])) rfl (hb hby own_d1_1)
  refine Good.back st1 ?_
  show Good p e below _ (T1.setTop (mkF m 4 #[.val (.ref w_WHITE)] [(.ref w_WHITE), (.ref w_WHITE)]))
  refine Good.back (fun _ k => Jvm.RoadKit.acmp (g := (mkF m 4 #[.val (.ref w_WHITE)] [(.ref w_WHITE), (.ref w_WHITE)])) X1 hx rfl rfl rfl (pc0 := 4) (pc' := 7) (same := true) rfl (hb hby own_d1_4) rfl (decide_eq_true rfl) (by decide) (by decide) k) ?_
  show Good p e below _ (T1.setTop (mkF m 7 #[.val (.ref w_WHITE)] []))
  obtain ⟨T2, X2, e2, st2⟩ := getS2 X1 hx hZ hown (host := "") (Or.inl (hw _ (List.mem_of_getElem? (i := 9) rfl))) Via.refl e1 S_w_BLACK (g := (mkF m 7 #[.val (.ref w_WHITE)] [])) rfl (hb hby own_d1_7)
  refine Good.back st2 ?_
  show Good p e below _ (T2.setTop (mkF m 10 #[.val (.ref w_WHITE)] [(.ref w_BLACK)]))
  refine Good.back (fun _ k => XS.goto X2.here hx rfl (pc0 := 10) (pc' := 16) rfl (hb hby own_d1_10) (by decide) (by decide) k) ?_
  show Good p e below _ (T2.setTop (mkF m 16 #[.val (.ref w_WHITE)] [(.ref w_BLACK)]))
  obtain ⟨fs3, hr3, hrun3, hended3, hW3, hsame3⟩ := X2.leave (v := some (.ref w_BLACK)) (fun h => by rw [Bd.returns] at h; cases h)
  refine Good.done (retOut X2 hx Bd.returns rfl (Or.inr (Or.inr (Or.inr (Or.inr ⟨rfl, rfl, rfl⟩)))) (hb hby own_d1_16) hr3) hrun3 hended3 ⟨_, _, rfl, ?_, ⟨_, rfl⟩, hW3, hsame3.mono (by decide) (by decide)⟩
  show Q1w Z w_WHITE w_BLACK h0 n0 _ T2.heap _
  rw [e2]
  exact ⟨rfl, N0, rfl⟩
theorem own_d1_13 : decode prog_18_method_6_code 13 = .ok (.getstatic 3, 3) := by decide +kernel
theorem own_ef_1b (m : MethodId) (x0 : Addr) : entryFrame m #[(.ref x0)] 1 = mkF m 0 #[.val (.ref x0)] [] := by first | (simp [entryFrame, mkF, argsToLocals, Value.category]; done) | rfl
def Q1b (Z : State) (w_WHITE : Addr) (w_BLACK : Addr) (h0 : Heap) (n0 : Nat) (v : Option Value) (h : Heap) (L : List Loc) : Prop := v = some (.ref w_WHITE) ∧ Fr n0 L ∧ h = h0
set_option maxRecDepth 65536 in
set_option maxHeartbeats 40000000 in
theorem rm1b (l : Launch) (Z : State) (a0 : Array Value) (hw : ∀ d ∈ tables_1, d.before a0 Z = true) (ws : List Jvm.Cond) (w_WHITE : Addr) (w_BLACK : Addr) (h0 : Heap) (n0 : Nat) (Z0 : n0 ≤ h0.size) (S_w_WHITE : Sta Z h0 "com/example/trinode/trinode/game/Side" "WHITE" "Lcom/example/trinode/trinode/game/Side;" (.ref w_WHITE)) (S_w_BLACK : Sta Z h0 "com/example/trinode/trinode/game/Side" "BLACK" "Lcom/example/trinode/trinode/game/Side;" (.ref w_BLACK)) (hne : w_BLACK ≠ w_WHITE) :
    MetFree l (⟨"com/example/trinode/trinode/game/Side", "opponent", "()Lcom/example/trinode/trinode/game/Side;"⟩ : MethodName) (head1 (Jvm.Cond.code (⟨"com/example/trinode/trinode/game/Side", "opponent", "()Lcom/example/trinode/trinode/game/Side;"⟩ : MethodName) prog_18_method_6_code 1 (some (.object "com/example/trinode/trinode/game/Side")) :: ws) ({ frames := 0, cells := 0, slots := 0, locals := 0 } : Room)) (fun a U => a = #[(.ref w_BLACK)] ∧ Z.Warmed39 U.vm ∧ U.heap = h0) (fun _ _ _ _ _ => True) (fun _ U o U' => ∃ v L, o = .returned v ∧ Q1b Z w_WHITE w_BLACK h0 n0 v U'.heap L ∧ FrameEnd U o U' L ({ frames := 0, cells := 0, slots := 0, locals := 0 } : Room).cells ({ frames := 0, cells := 0, slots := 0, locals := 0 } : Room).slots) := by
  refine MetFree.of_bodySF (plainFor_of_name own_pn0) hisR ?_
  intro p e s m args below meth c s₁ Bd hml0 hP hK
  obtain ⟨rfl, hZ, hh⟩ := hP
  have hx := Bd.exec
  have hby := Bd.bytes
  have hml : c.maxLocals = 1 := hml0
  have hown : s.vm.findClass "com/example/trinode/trinode/game/Side" = some m.cls := findClass_of_methodNamed Bd.named
  have hnm := (name_of_methodNamed Bd.named Bd.method).1
  have X0 : Stand p l e ({ frames := 0, cells := 0, slots := 0, locals := 0 } : Room) s m #[(.ref w_BLACK)] below meth c s₁ [] 0 0 := Stand.of_body Bd
  have e0 : s₁.heap = h0 := by rw [← hh, Bd.state]; rfl
  have N0 := Fr.nil n0
  show Good p e below (fun o U' => ∃ v L, o = .returned v ∧ Q1b Z w_WHITE w_BLACK h0 n0 v U'.heap L ∧ FrameEnd s o U' L ({ frames := 0, cells := 0, slots := 0, locals := 0 } : Room).cells ({ frames := 0, cells := 0, slots := 0, locals := 0 } : Room).slots) _
  refine Good.back (S' := s₁.setTop (mkF m 0 #[.val (.ref w_BLACK)] [])) (fun t k => castTop (own_ef_1b m w_BLACK) k) ?_
  show Good p e below _ (s₁.setTop (mkF m 0 #[.val (.ref w_BLACK)] []))
  refine Good.back (fun _ k => XS.aloadN X0.here hx rfl (hb hby own_d1_0) rfl rfl k) ?_
  show Good p e below _ (s₁.setTop (mkF m 1 #[.val (.ref w_BLACK)] [(.ref w_BLACK)]))
  obtain ⟨T1, X1, e1, st1⟩ := getS2 X0 hx hZ hown (host := "") (Or.inl (hw _ (List.mem_of_getElem? (i := 8) rfl))) Via.refl e0 S_w_WHITE (g := (mkF m 1 #[.val (.ref w_BLACK)] [(.ref w_BLACK)])) rfl (hb hby own_d1_1)
  refine Good.back st1 ?_
  show Good p e below _ (T1.setTop (mkF m 4 #[.val (.ref w_BLACK)] [(.ref w_WHITE), (.ref w_BLACK)]))
  refine Good.back (fun _ k => Jvm.RoadKit.acmp (g := (mkF m 4 #[.val (.ref w_BLACK)] [(.ref w_WHITE), (.ref w_BLACK)])) X1 hx rfl rfl rfl (pc0 := 4) (pc' := 13) (same := false) rfl (hb hby own_d1_4) rfl (decide_eq_false fun q => hne (Value.ref.inj q)) (by decide) (by decide) k) ?_
  show Good p e below _ (T1.setTop (mkF m 13 #[.val (.ref w_BLACK)] []))
  obtain ⟨T2, X2, e2, st2⟩ := getS2 X1 hx hZ hown (host := "") (Or.inl (hw _ (List.mem_of_getElem? (i := 8) rfl))) Via.refl e1 S_w_WHITE (g := (mkF m 13 #[.val (.ref w_BLACK)] [])) rfl (hb hby own_d1_13)
  refine Good.back st2 ?_
  show Good p e below _ (T2.setTop (mkF m 16 #[.val (.ref w_BLACK)] [(.ref w_WHITE)]))
  obtain ⟨fs3, hr3, hrun3, hended3, hW3, hsame3⟩ := X2.leave (v := some (.ref w_WHITE)) (fun h => by rw [Bd.returns] at h; cases h)
  refine Good.done (retOut X2 hx Bd.returns rfl (Or.inr (Or.inr (Or.inr (Or.inr ⟨rfl, rfl, rfl⟩)))) (hb hby own_d1_16) hr3) hrun3 hended3 ⟨_, _, rfl, ?_, ⟨_, rfl⟩, hW3, hsame3.mono (by decide) (by decide)⟩
  show Q1b Z w_WHITE w_BLACK h0 n0 _ T2.heap _
  rw [e2]
  exact ⟨rfl, N0, rfl⟩
theorem own_pd7 : parseMethodDescriptor "()Lcom/example/trinode/trinode/game/Side;" = some ⟨[], some (.object "com/example/trinode/trinode/game/Side")⟩ := by decide +kernel
theorem own_pn1 : plainName "com/example/trinode/trinode/game/SideOpponentPinLaw" = true := by first | (simp [plainName, overriddenIn]; done) | decide +kernel
theorem own_ef_0 (m : MethodId) (x0 : Int32) : entryFrame m #[(.int x0)] maxLocals = mkF m 0 #[.val (.int x0), .unset, .unset, .unset, .unset] [] := by first | (simp [entryFrame, mkF, argsToLocals, Value.category, maxLocals]; done) | rfl
def Q0 (Z : State) (p0 : Int32) (w_WHITE : Addr) (w_BLACK : Addr) (h0 : Heap) (n0 : Nat) (v : Option Value) (h : Heap) (L : List Loc) : Prop := v = some (.int 1) ∧ Fr n0 L
set_option maxRecDepth 65536 in
set_option maxHeartbeats 40000000 in
theorem rm0 (l : Launch) (Z : State) (a0 : Array Value) (hw : ∀ d ∈ tables_1, d.before a0 Z = true) (ws : List Jvm.Cond) (p0 : Int32) (w_WHITE : Addr) (w_BLACK : Addr) (h0 : Heap) (n0 : Nat) (Z0 : n0 ≤ h0.size) (S_w_WHITE : Sta Z h0 "com/example/trinode/trinode/game/Side" "WHITE" "Lcom/example/trinode/trinode/game/Side;" (.ref w_WHITE)) (E_w_WHITE : Exa Z h0 w_WHITE "com/example/trinode/trinode/game/Side") (S_w_BLACK : Sta Z h0 "com/example/trinode/trinode/game/Side" "BLACK" "Lcom/example/trinode/trinode/game/Side;" (.ref w_BLACK)) (E_w_BLACK : Exa Z h0 w_BLACK "com/example/trinode/trinode/game/Side") (F_ordinal_w_BLACK : Fld Z h0 w_BLACK "java/lang/Enum" "ordinal" "I" (.int (1 : Int32))) (F_ordinal_w_WHITE : Fld Z h0 w_WHITE "java/lang/Enum" "ordinal" "I" (.int (0 : Int32))) (hne : w_BLACK ≠ w_WHITE) :
    MetFree l x (head1 (Jvm.Cond.code x code maxLocals ret :: ws) room_1) (fun a U => a = #[(.int p0)] ∧ Z.Warmed39 U.vm ∧ U.heap = h0) (fun _ _ _ _ _ => True) (fun _ U o U' => ∃ v L, o = .returned v ∧ Q0 Z p0 w_WHITE w_BLACK h0 n0 v U'.heap L ∧ FrameEnd U o U' L 0 0) := by
  refine MetFree.of_bodySF (plainFor_of_name own_pn1) hisR ?_
  intro p e s m args below meth c s₁ Bd hml0 hP hK
  obtain ⟨rfl, hZ, hh⟩ := hP
  have hx := Bd.exec
  have hby := Bd.bytes
  have hml : c.maxLocals = 5 := hml0
  have hown : s.vm.findClass "com/example/trinode/trinode/game/SideOpponentPinLaw" = some m.cls := findClass_of_methodNamed Bd.named
  have hnm := (name_of_methodNamed Bd.named Bd.method).1
  have X0 : Stand p l e room_1 s m #[(.int p0)] below meth c s₁ [] 0 0 := Stand.of_body Bd
  have e0 : s₁.heap = h0 := by rw [← hh, Bd.state]; rfl
  have N0 := Fr.nil n0
  show Good p e below (fun o U' => ∃ v L, o = .returned v ∧ Q0 Z p0 w_WHITE w_BLACK h0 n0 v U'.heap L ∧ FrameEnd s o U' L 0 0) _
  refine Good.back (S' := s₁.setTop (mkF m 0 #[.val (.int p0), .unset, .unset, .unset, .unset] [])) (fun t k => castTop (own_ef_0 m p0) k) ?_
  show Good p e below _ (s₁.setTop (mkF m 0 #[.val (.int p0), .unset, .unset, .unset, .unset] []))
  refine Good.back (fun _ k => XS.iloadN X0.here hx rfl (hb hby at_0) rfl k) ?_
  show Good p e below _ (s₁.setTop (mkF m 1 #[.val (.int p0), .unset, .unset, .unset, .unset] [(.int p0)]))
  refine Good.back (fun _ k => XS.iconst X0.here hx rfl (hb hby at_1) k) ?_
  show Good p e below _ (s₁.setTop (mkF m 2 #[.val (.int p0), .unset, .unset, .unset, .unset] [(.int (1 : Int32)), (.int p0)]))
  refine Good.back (fun _ k => XS.iand X0.here hx rfl (hb hby at_2) rfl k) ?_
  show Good p e below _ (s₁.setTop (mkF m 3 #[.val (.int p0), .unset, .unset, .unset, .unset] [(.int (p0 &&& (1 : Int32)))]))
  by_cases hc3_1 : (p0 &&& (1 : Int32)) = (0 : Int32)
  · refine Good.back (fun _ k => XS.ifNo X0.here hx rfl (hb hby at_3) rfl ((if0 _ _).trans (teq hc3_1).2) k) ?_
    show Good p e below _ (s₁.setTop (mkF m 6 #[.val (.int p0), .unset, .unset, .unset, .unset] []))
    refine Good.back (fun _ k => XS.iconst X0.here hx rfl (hb hby at_6) k) ?_
    show Good p e below _ (s₁.setTop (mkF m 7 #[.val (.int p0), .unset, .unset, .unset, .unset] [(.int (1 : Int32))]))
    refine Good.back (fun _ k => XS.goto X0.here hx rfl (pc0 := 7) (pc' := 11) rfl (hb hby at_7) (by decide) (by decide) k) ?_
    show Good p e below _ (s₁.setTop (mkF m 11 #[.val (.int p0), .unset, .unset, .unset, .unset] [(.int (1 : Int32))]))
    refine Good.back (fun _ k => XS.istoreN X0.here hx rfl (hb hby at_11) rfl (l' := #[.val (.int p0), .val (.int (1 : Int32)), .unset, .unset, .unset]) rfl k) ?_
    show Good p e below _ (s₁.setTop (mkF m 12 #[.val (.int p0), .val (.int (1 : Int32)), .unset, .unset, .unset] []))
    refine Good.back (fun _ k => XS.iloadN X0.here hx rfl (hb hby at_12) rfl k) ?_
    show Good p e below _ (s₁.setTop (mkF m 13 #[.val (.int p0), .val (.int (1 : Int32)), .unset, .unset, .unset] [(.int (1 : Int32))]))
    refine Good.back (fun _ k => XS.ifNo X0.here hx rfl (hb hby at_13) rfl ((if0 _ _).trans (feq (by decide : ¬ ((1 : Int32) = (0 : Int32)))).1) k) ?_
    show Good p e below _ (s₁.setTop (mkF m 16 #[.val (.int p0), .val (.int (1 : Int32)), .unset, .unset, .unset] []))
    obtain ⟨T2, X2, e2, st2⟩ := getS2 X0 hx hZ hown (host := "") (Or.inl (hw _ (List.mem_of_getElem? (i := 0) rfl))) Via.refl e0 S_w_WHITE (g := (mkF m 16 #[.val (.int p0), .val (.int (1 : Int32)), .unset, .unset, .unset] [])) rfl (hb hby at_16)
    refine Good.back st2 ?_
    show Good p e below _ (T2.setTop (mkF m 19 #[.val (.int p0), .val (.int (1 : Int32)), .unset, .unset, .unset] [(.ref w_WHITE)]))
    refine Good.back (fun _ k => XS.goto X2.here hx rfl (pc0 := 19) (pc' := 25) rfl (hb hby at_19) (by decide) (by decide) k) ?_
    show Good p e below _ (T2.setTop (mkF m 25 #[.val (.int p0), .val (.int (1 : Int32)), .unset, .unset, .unset] [(.ref w_WHITE)]))
    refine Good.back (fun _ k => XS.astoreN X2.here hx rfl (hb hby at_25) rfl rfl (l' := #[.val (.int p0), .val (.int (1 : Int32)), .val (.ref w_WHITE), .unset, .unset]) rfl k) ?_
    show Good p e below _ (T2.setTop (mkF m 26 #[.val (.int p0), .val (.int (1 : Int32)), .val (.ref w_WHITE), .unset, .unset] []))
    refine Good.back (fun _ k => XS.aloadN X2.here hx rfl (hb hby at_26) rfl rfl k) ?_
    show Good p e below _ (T2.setTop (mkF m 27 #[.val (.int p0), .val (.int (1 : Int32)), .val (.ref w_WHITE), .unset, .unset] [(.ref w_WHITE)]))
    obtain ⟨cq3, kq3, q3a, q3b, q3c⟩ := isOf hZ e2 E_w_WHITE
    obtain ⟨_, _, ⟨T3, L3, k3, n3⟩, -, X3, ⟨Lc3, hQ3, l3, y3, z3⟩, st3⟩ := X2.virtualBack hx (y := (⟨"com/example/trinode/trinode/game/Side", "opponent", "()Lcom/example/trinode/trinode/game/Side;"⟩ : MethodName)) (z := (⟨"com/example/trinode/trinode/game/Side", "opponent", "()Lcom/example/trinode/trinode/game/Side;"⟩ : MethodName)) hown (mvT hZ (hw _ (List.mem_of_getElem? (i := 3) rfl))) (mvT hZ (hw _ (List.mem_of_getElem? (i := 4) rfl))) (notFace_of_selects (args := #[]) (mvT hZ (hw _ (List.mem_of_getElem? (i := 6) rfl)))) (mvT hZ (hw _ (List.mem_of_getElem? (i := 6) rfl))) (mvT hZ (hw _ (List.mem_of_getElem? (i := 5) rfl))) (by decide) (backOf (W := 0) (rm1w l Z a0 hw []  w_WHITE w_BLACK h0 n0 Z0 S_w_WHITE S_w_BLACK hne) hZ (hw _ (List.mem_of_getElem? (i := 7) rfl)) (hw _ (List.mem_of_getElem? (i := 1) rfl)) (by decide) (by decide)) q3a q3c (g := (mkF m 27 #[.val (.int p0), .val (.int (1 : Int32)), .val (.ref w_WHITE), .unset, .unset] [(.ref w_WHITE)])) rfl (by rw [hml]; rfl) (Steps.refl _) (argsL := []) (rest := []) (lenOf own_pd7 rfl) rfl (by show 2 * 0 + _ ≤ _; exact Nat.le_of_eq rfl) (hb hby at_27) (fun _ _ => ⟨rfl, e2, (by decide : 0 + 0 ≤ _), (by decide : 0 + 0 ≤ _)⟩)
    dsimp only [Pt.U, Pt.locs, Pt.cells, Pt.slots] at X3 l3 y3 z3 st3 hQ3
    subst l3 y3 z3
    obtain ⟨rfl, N3q, eh3⟩ := hQ3
    have N3 := Fr.app N0 N3q
    refine Good.back (fun _ k => st3.trans k) ?_
    show Good p e below _ (T3.setTop (mkF m 30 #[.val (.int p0), .val (.int (1 : Int32)), .val (.ref w_WHITE), .unset, .unset] [(.ref w_BLACK)]))
    refine Good.back (fun _ k => XS.astoreN X3.here hx rfl (hb hby at_30) rfl rfl (l' := #[.val (.int p0), .val (.int (1 : Int32)), .val (.ref w_WHITE), .val (.ref w_BLACK), .unset]) rfl k) ?_
    show Good p e below _ (T3.setTop (mkF m 31 #[.val (.int p0), .val (.int (1 : Int32)), .val (.ref w_WHITE), .val (.ref w_BLACK), .unset] []))
    refine Good.back (fun _ k => XS.aloadN X3.here hx rfl (hb hby at_31) rfl rfl k) ?_
    show Good p e below _ (T3.setTop (mkF m 32 #[.val (.int p0), .val (.int (1 : Int32)), .val (.ref w_WHITE), .val (.ref w_BLACK), .unset] [(.ref w_BLACK)]))
    refine Good.back (fun _ k => XS.ifnonnullYes X3.here hx rfl (pc0 := 32) (pc' := 37) rfl (hb hby at_32) rfl (by decide) (by decide) k) ?_
    show Good p e below _ (T3.setTop (mkF m 37 #[.val (.int p0), .val (.int (1 : Int32)), .val (.ref w_WHITE), .val (.ref w_BLACK), .unset] []))
    refine Good.back (fun _ k => XS.iloadN X3.here hx rfl (hb hby at_37) rfl k) ?_
    show Good p e below _ (T3.setTop (mkF m 38 #[.val (.int p0), .val (.int (1 : Int32)), .val (.ref w_WHITE), .val (.ref w_BLACK), .unset] [(.int (1 : Int32))]))
    refine Good.back (fun _ k => XS.ifNo X3.here hx rfl (hb hby at_38) rfl ((if0 _ _).trans (feq (by decide : ¬ ((1 : Int32) = (0 : Int32)))).1) k) ?_
    show Good p e below _ (T3.setTop (mkF m 41 #[.val (.int p0), .val (.int (1 : Int32)), .val (.ref w_WHITE), .val (.ref w_BLACK), .unset] []))
    refine Good.back (fun _ k => XS.aloadN X3.here hx rfl (hb hby at_41) rfl rfl k) ?_
    show Good p e below _ (T3.setTop (mkF m 42 #[.val (.int p0), .val (.int (1 : Int32)), .val (.ref w_WHITE), .val (.ref w_BLACK), .unset] [(.ref w_BLACK)]))
    obtain ⟨T4, X4, e4, st4⟩ := getS2 X3 hx hZ hown (host := "") (Or.inl (hw _ (List.mem_of_getElem? (i := 11) rfl))) Via.refl eh3 S_w_BLACK (g := (mkF m 42 #[.val (.int p0), .val (.int (1 : Int32)), .val (.ref w_WHITE), .val (.ref w_BLACK), .unset] [(.ref w_BLACK)])) rfl (hb hby at_42)
    refine Good.back st4 ?_
    show Good p e below _ (T4.setTop (mkF m 45 #[.val (.int p0), .val (.int (1 : Int32)), .val (.ref w_WHITE), .val (.ref w_BLACK), .unset] [(.ref w_BLACK), (.ref w_BLACK)]))
    refine Good.back (fun _ k => Jvm.RoadKit.acmp (g := (mkF m 45 #[.val (.int p0), .val (.int (1 : Int32)), .val (.ref w_WHITE), .val (.ref w_BLACK), .unset] [(.ref w_BLACK), (.ref w_BLACK)])) X4 hx rfl rfl rfl (pc0 := 45) (pc' := 48) (same := true) rfl (hb hby at_45) rfl (decide_eq_true rfl) (by decide) (by decide) k) ?_
    show Good p e below _ (T4.setTop (mkF m 48 #[.val (.int p0), .val (.int (1 : Int32)), .val (.ref w_WHITE), .val (.ref w_BLACK), .unset] []))
    refine Good.back (fun _ k => XS.iconst X4.here hx rfl (hb hby at_48) k) ?_
    show Good p e below _ (T4.setTop (mkF m 49 #[.val (.int p0), .val (.int (1 : Int32)), .val (.ref w_WHITE), .val (.ref w_BLACK), .unset] [(.int (1 : Int32))]))
    refine Good.back (fun _ k => XS.goto X4.here hx rfl (pc0 := 49) (pc' := 68) rfl (hb hby at_49) (by decide) (by decide) k) ?_
    show Good p e below _ (T4.setTop (mkF m 68 #[.val (.int p0), .val (.int (1 : Int32)), .val (.ref w_WHITE), .val (.ref w_BLACK), .unset] [(.int (1 : Int32))]))
    refine Good.back (fun _ k => XS.istore X4.here hx rfl (hb hby at_68) rfl (l' := #[.val (.int p0), .val (.int (1 : Int32)), .val (.ref w_WHITE), .val (.ref w_BLACK), .val (.int (1 : Int32))]) rfl k) ?_
    show Good p e below _ (T4.setTop (mkF m 70 #[.val (.int p0), .val (.int (1 : Int32)), .val (.ref w_WHITE), .val (.ref w_BLACK), .val (.int (1 : Int32))] []))
    refine Good.back (fun _ k => XS.iload X4.here hx rfl (hb hby at_70) rfl k) ?_
    show Good p e below _ (T4.setTop (mkF m 72 #[.val (.int p0), .val (.int (1 : Int32)), .val (.ref w_WHITE), .val (.ref w_BLACK), .val (.int (1 : Int32))] [(.int (1 : Int32))]))
    refine Good.back (fun _ k => XS.ifNo X4.here hx rfl (hb hby at_72) rfl ((if0 _ _).trans (feq (by decide : ¬ ((1 : Int32) = (0 : Int32)))).1) k) ?_
    show Good p e below _ (T4.setTop (mkF m 75 #[.val (.int p0), .val (.int (1 : Int32)), .val (.ref w_WHITE), .val (.ref w_BLACK), .val (.int (1 : Int32))] []))
    refine Good.back (fun _ k => XS.aloadN X4.here hx rfl (hb hby at_75) rfl rfl k) ?_
    show Good p e below _ (T4.setTop (mkF m 76 #[.val (.int p0), .val (.int (1 : Int32)), .val (.ref w_WHITE), .val (.ref w_BLACK), .val (.int (1 : Int32))] [(.ref w_BLACK)]))
    refine Good.back (fun _ k => XS.aloadN X4.here hx rfl (hb hby at_76) rfl rfl k) ?_
    show Good p e below _ (T4.setTop (mkF m 77 #[.val (.int p0), .val (.int (1 : Int32)), .val (.ref w_WHITE), .val (.ref w_BLACK), .val (.int (1 : Int32))] [(.ref w_WHITE), (.ref w_BLACK)]))
    refine Good.back (fun _ k => Jvm.RoadKit.acmp (g := (mkF m 77 #[.val (.int p0), .val (.int (1 : Int32)), .val (.ref w_WHITE), .val (.ref w_BLACK), .val (.int (1 : Int32))] [(.ref w_WHITE), (.ref w_BLACK)])) X4 hx rfl rfl rfl (pc0 := 77) (pc' := 80) (same := false) rfl (hb hby at_77) rfl (decide_eq_false fun q => hne (Value.ref.inj q)) (by decide) (by decide) k) ?_
    show Good p e below _ (T4.setTop (mkF m 80 #[.val (.int p0), .val (.int (1 : Int32)), .val (.ref w_WHITE), .val (.ref w_BLACK), .val (.int (1 : Int32))] []))
    refine Good.back (fun _ k => XS.aloadN X4.here hx rfl (hb hby at_80) rfl rfl k) ?_
    show Good p e below _ (T4.setTop (mkF m 81 #[.val (.int p0), .val (.int (1 : Int32)), .val (.ref w_WHITE), .val (.ref w_BLACK), .val (.int (1 : Int32))] [(.ref w_BLACK)]))
    obtain ⟨cq5, kq5, q5a, q5b, q5c⟩ := isOf hZ e4 E_w_BLACK
    obtain ⟨_, _, ⟨T5, L5, k5, n5⟩, -, X5, ⟨Lc5, hQ5, l5, y5, z5⟩, st5⟩ := X4.virtualBack hx (y := (⟨"com/example/trinode/trinode/game/Side", "opponent", "()Lcom/example/trinode/trinode/game/Side;"⟩ : MethodName)) (z := (⟨"com/example/trinode/trinode/game/Side", "opponent", "()Lcom/example/trinode/trinode/game/Side;"⟩ : MethodName)) hown (mvT hZ (hw _ (List.mem_of_getElem? (i := 3) rfl))) (mvT hZ (hw _ (List.mem_of_getElem? (i := 4) rfl))) (notFace_of_selects (args := #[]) (mvT hZ (hw _ (List.mem_of_getElem? (i := 6) rfl)))) (mvT hZ (hw _ (List.mem_of_getElem? (i := 6) rfl))) (mvT hZ (hw _ (List.mem_of_getElem? (i := 5) rfl))) (by decide) (backOf (W := 0) (rm1b l Z a0 hw []  w_WHITE w_BLACK h0 n0 Z0 S_w_WHITE S_w_BLACK hne) hZ (hw _ (List.mem_of_getElem? (i := 7) rfl)) (hw _ (List.mem_of_getElem? (i := 1) rfl)) (by decide) (by decide)) q5a q5c (g := (mkF m 81 #[.val (.int p0), .val (.int (1 : Int32)), .val (.ref w_WHITE), .val (.ref w_BLACK), .val (.int (1 : Int32))] [(.ref w_BLACK)])) rfl (by rw [hml]; rfl) (Steps.refl _) (argsL := []) (rest := []) (lenOf own_pd7 rfl) rfl (by show 2 * 0 + _ ≤ _; exact Nat.le_of_eq rfl) (hb hby at_81) (fun _ _ => ⟨rfl, e4, (by decide : 0 + 0 ≤ _), (by decide : 0 + 0 ≤ _)⟩)
    dsimp only [Pt.U, Pt.locs, Pt.cells, Pt.slots] at X5 l5 y5 z5 st5 hQ5
    subst l5 y5 z5
    obtain ⟨rfl, N5q, eh5⟩ := hQ5
    have N5 := Fr.app N3 N5q
    refine Good.back (fun _ k => st5.trans k) ?_
    show Good p e below _ (T5.setTop (mkF m 84 #[.val (.int p0), .val (.int (1 : Int32)), .val (.ref w_WHITE), .val (.ref w_BLACK), .val (.int (1 : Int32))] [(.ref w_WHITE)]))
    refine Good.back (fun _ k => XS.aloadN X5.here hx rfl (hb hby at_84) rfl rfl k) ?_
    show Good p e below _ (T5.setTop (mkF m 85 #[.val (.int p0), .val (.int (1 : Int32)), .val (.ref w_WHITE), .val (.ref w_BLACK), .val (.int (1 : Int32))] [(.ref w_WHITE), (.ref w_WHITE)]))
    refine Good.back (fun _ k => Jvm.RoadKit.acmp (g := (mkF m 85 #[.val (.int p0), .val (.int (1 : Int32)), .val (.ref w_WHITE), .val (.ref w_BLACK), .val (.int (1 : Int32))] [(.ref w_WHITE), (.ref w_WHITE)])) X5 hx rfl rfl rfl (pc0 := 85) (pc' := 88) (same := true) rfl (hb hby at_85) rfl (decide_eq_true rfl) (by decide) (by decide) k) ?_
    show Good p e below _ (T5.setTop (mkF m 88 #[.val (.int p0), .val (.int (1 : Int32)), .val (.ref w_WHITE), .val (.ref w_BLACK), .val (.int (1 : Int32))] []))
    refine Good.back (fun _ k => XS.iconst X5.here hx rfl (hb hby at_88) k) ?_
    show Good p e below _ (T5.setTop (mkF m 89 #[.val (.int p0), .val (.int (1 : Int32)), .val (.ref w_WHITE), .val (.ref w_BLACK), .val (.int (1 : Int32))] [(.int (1 : Int32))]))
    refine Good.back (fun _ k => XS.goto X5.here hx rfl (pc0 := 89) (pc' := 93) rfl (hb hby at_89) (by decide) (by decide) k) ?_
    show Good p e below _ (T5.setTop (mkF m 93 #[.val (.int p0), .val (.int (1 : Int32)), .val (.ref w_WHITE), .val (.ref w_BLACK), .val (.int (1 : Int32))] [(.int (1 : Int32))]))
    obtain ⟨fs6, hr6, hrun6, hended6, hW6, hsame6⟩ := X5.leave (v := some (.int (1 : Int32))) (fun h => by rw [Bd.returns] at h; cases h)
    refine Good.done (retN X5 hx (t := .boolean) Bd.returns (by simp) (hb hby at_93) hr6) hrun6 hended6 ⟨_, _, rfl, ?_, ⟨_, rfl⟩, hW6, hsame6.mono (by decide) (by decide)⟩
    show Q0 Z p0 w_WHITE w_BLACK h0 n0 _ T5.heap _
    rw [eh5]
    exact ⟨rfl, N5⟩
  · refine Good.back (fun _ k => XS.ifYes X0.here hx rfl (pc0 := 3) (pc' := 10) rfl (hb hby at_3) rfl ((if0 _ _).trans (feq hc3_1).2) (by decide) (by decide) k) ?_
    show Good p e below _ (s₁.setTop (mkF m 10 #[.val (.int p0), .unset, .unset, .unset, .unset] []))
    refine Good.back (fun _ k => XS.iconst X0.here hx rfl (hb hby at_10) k) ?_
    show Good p e below _ (s₁.setTop (mkF m 11 #[.val (.int p0), .unset, .unset, .unset, .unset] [(.int (0 : Int32))]))
    refine Good.back (fun _ k => XS.istoreN X0.here hx rfl (hb hby at_11) rfl (l' := #[.val (.int p0), .val (.int (0 : Int32)), .unset, .unset, .unset]) rfl k) ?_
    show Good p e below _ (s₁.setTop (mkF m 12 #[.val (.int p0), .val (.int (0 : Int32)), .unset, .unset, .unset] []))
    refine Good.back (fun _ k => XS.iloadN X0.here hx rfl (hb hby at_12) rfl k) ?_
    show Good p e below _ (s₁.setTop (mkF m 13 #[.val (.int p0), .val (.int (0 : Int32)), .unset, .unset, .unset] [(.int (0 : Int32))]))
    refine Good.back (fun _ k => XS.ifYes X0.here hx rfl (pc0 := 13) (pc' := 22) rfl (hb hby at_13) rfl ((if0 _ _).trans (teq (by decide : ((0 : Int32) = (0 : Int32)))).1) (by decide) (by decide) k) ?_
    show Good p e below _ (s₁.setTop (mkF m 22 #[.val (.int p0), .val (.int (0 : Int32)), .unset, .unset, .unset] []))
    obtain ⟨T7, X7, e7, st7⟩ := getS2 X0 hx hZ hown (host := "") (Or.inl (hw _ (List.mem_of_getElem? (i := 11) rfl))) Via.refl e0 S_w_BLACK (g := (mkF m 22 #[.val (.int p0), .val (.int (0 : Int32)), .unset, .unset, .unset] [])) rfl (hb hby at_22)
    refine Good.back st7 ?_
    show Good p e below _ (T7.setTop (mkF m 25 #[.val (.int p0), .val (.int (0 : Int32)), .unset, .unset, .unset] [(.ref w_BLACK)]))
    refine Good.back (fun _ k => XS.astoreN X7.here hx rfl (hb hby at_25) rfl rfl (l' := #[.val (.int p0), .val (.int (0 : Int32)), .val (.ref w_BLACK), .unset, .unset]) rfl k) ?_
    show Good p e below _ (T7.setTop (mkF m 26 #[.val (.int p0), .val (.int (0 : Int32)), .val (.ref w_BLACK), .unset, .unset] []))
    refine Good.back (fun _ k => XS.aloadN X7.here hx rfl (hb hby at_26) rfl rfl k) ?_
    show Good p e below _ (T7.setTop (mkF m 27 #[.val (.int p0), .val (.int (0 : Int32)), .val (.ref w_BLACK), .unset, .unset] [(.ref w_BLACK)]))
    obtain ⟨cq8, kq8, q8a, q8b, q8c⟩ := isOf hZ e7 E_w_BLACK
    obtain ⟨_, _, ⟨T8, L8, k8, n8⟩, -, X8, ⟨Lc8, hQ8, l8, y8, z8⟩, st8⟩ := X7.virtualBack hx (y := (⟨"com/example/trinode/trinode/game/Side", "opponent", "()Lcom/example/trinode/trinode/game/Side;"⟩ : MethodName)) (z := (⟨"com/example/trinode/trinode/game/Side", "opponent", "()Lcom/example/trinode/trinode/game/Side;"⟩ : MethodName)) hown (mvT hZ (hw _ (List.mem_of_getElem? (i := 3) rfl))) (mvT hZ (hw _ (List.mem_of_getElem? (i := 4) rfl))) (notFace_of_selects (args := #[]) (mvT hZ (hw _ (List.mem_of_getElem? (i := 6) rfl)))) (mvT hZ (hw _ (List.mem_of_getElem? (i := 6) rfl))) (mvT hZ (hw _ (List.mem_of_getElem? (i := 5) rfl))) (by decide) (backOf (W := 0) (rm1b l Z a0 hw []  w_WHITE w_BLACK h0 n0 Z0 S_w_WHITE S_w_BLACK hne) hZ (hw _ (List.mem_of_getElem? (i := 7) rfl)) (hw _ (List.mem_of_getElem? (i := 1) rfl)) (by decide) (by decide)) q8a q8c (g := (mkF m 27 #[.val (.int p0), .val (.int (0 : Int32)), .val (.ref w_BLACK), .unset, .unset] [(.ref w_BLACK)])) rfl (by rw [hml]; rfl) (Steps.refl _) (argsL := []) (rest := []) (lenOf own_pd7 rfl) rfl (by show 2 * 0 + _ ≤ _; exact Nat.le_of_eq rfl) (hb hby at_27) (fun _ _ => ⟨rfl, e7, (by decide : 0 + 0 ≤ _), (by decide : 0 + 0 ≤ _)⟩)
    dsimp only [Pt.U, Pt.locs, Pt.cells, Pt.slots] at X8 l8 y8 z8 st8 hQ8
    subst l8 y8 z8
    obtain ⟨rfl, N8q, eh8⟩ := hQ8
    have N8 := Fr.app N0 N8q
    refine Good.back (fun _ k => st8.trans k) ?_
    show Good p e below _ (T8.setTop (mkF m 30 #[.val (.int p0), .val (.int (0 : Int32)), .val (.ref w_BLACK), .unset, .unset] [(.ref w_WHITE)]))
    refine Good.back (fun _ k => XS.astoreN X8.here hx rfl (hb hby at_30) rfl rfl (l' := #[.val (.int p0), .val (.int (0 : Int32)), .val (.ref w_BLACK), .val (.ref w_WHITE), .unset]) rfl k) ?_
    show Good p e below _ (T8.setTop (mkF m 31 #[.val (.int p0), .val (.int (0 : Int32)), .val (.ref w_BLACK), .val (.ref w_WHITE), .unset] []))
    refine Good.back (fun _ k => XS.aloadN X8.here hx rfl (hb hby at_31) rfl rfl k) ?_
    show Good p e below _ (T8.setTop (mkF m 32 #[.val (.int p0), .val (.int (0 : Int32)), .val (.ref w_BLACK), .val (.ref w_WHITE), .unset] [(.ref w_WHITE)]))
    refine Good.back (fun _ k => XS.ifnonnullYes X8.here hx rfl (pc0 := 32) (pc' := 37) rfl (hb hby at_32) rfl (by decide) (by decide) k) ?_
    show Good p e below _ (T8.setTop (mkF m 37 #[.val (.int p0), .val (.int (0 : Int32)), .val (.ref w_BLACK), .val (.ref w_WHITE), .unset] []))
    refine Good.back (fun _ k => XS.iloadN X8.here hx rfl (hb hby at_37) rfl k) ?_
    show Good p e below _ (T8.setTop (mkF m 38 #[.val (.int p0), .val (.int (0 : Int32)), .val (.ref w_BLACK), .val (.ref w_WHITE), .unset] [(.int (0 : Int32))]))
    refine Good.back (fun _ k => XS.ifYes X8.here hx rfl (pc0 := 38) (pc' := 56) rfl (hb hby at_38) rfl ((if0 _ _).trans (teq (by decide : ((0 : Int32) = (0 : Int32)))).1) (by decide) (by decide) k) ?_
    show Good p e below _ (T8.setTop (mkF m 56 #[.val (.int p0), .val (.int (0 : Int32)), .val (.ref w_BLACK), .val (.ref w_WHITE), .unset] []))
    refine Good.back (fun _ k => XS.aloadN X8.here hx rfl (hb hby at_56) rfl rfl k) ?_
    show Good p e below _ (T8.setTop (mkF m 57 #[.val (.int p0), .val (.int (0 : Int32)), .val (.ref w_BLACK), .val (.ref w_WHITE), .unset] [(.ref w_WHITE)]))
    obtain ⟨T9, X9, e9, st9⟩ := getS2 X8 hx hZ hown (host := "") (Or.inl (hw _ (List.mem_of_getElem? (i := 0) rfl))) Via.refl eh8 S_w_WHITE (g := (mkF m 57 #[.val (.int p0), .val (.int (0 : Int32)), .val (.ref w_BLACK), .val (.ref w_WHITE), .unset] [(.ref w_WHITE)])) rfl (hb hby at_57)
    refine Good.back st9 ?_
    show Good p e below _ (T9.setTop (mkF m 60 #[.val (.int p0), .val (.int (0 : Int32)), .val (.ref w_BLACK), .val (.ref w_WHITE), .unset] [(.ref w_WHITE), (.ref w_WHITE)]))
    refine Good.back (fun _ k => Jvm.RoadKit.acmp (g := (mkF m 60 #[.val (.int p0), .val (.int (0 : Int32)), .val (.ref w_BLACK), .val (.ref w_WHITE), .unset] [(.ref w_WHITE), (.ref w_WHITE)])) X9 hx rfl rfl rfl (pc0 := 60) (pc' := 63) (same := true) rfl (hb hby at_60) rfl (decide_eq_true rfl) (by decide) (by decide) k) ?_
    show Good p e below _ (T9.setTop (mkF m 63 #[.val (.int p0), .val (.int (0 : Int32)), .val (.ref w_BLACK), .val (.ref w_WHITE), .unset] []))
    refine Good.back (fun _ k => XS.iconst X9.here hx rfl (hb hby at_63) k) ?_
    show Good p e below _ (T9.setTop (mkF m 64 #[.val (.int p0), .val (.int (0 : Int32)), .val (.ref w_BLACK), .val (.ref w_WHITE), .unset] [(.int (1 : Int32))]))
    refine Good.back (fun _ k => XS.goto X9.here hx rfl (pc0 := 64) (pc' := 68) rfl (hb hby at_64) (by decide) (by decide) k) ?_
    show Good p e below _ (T9.setTop (mkF m 68 #[.val (.int p0), .val (.int (0 : Int32)), .val (.ref w_BLACK), .val (.ref w_WHITE), .unset] [(.int (1 : Int32))]))
    refine Good.back (fun _ k => XS.istore X9.here hx rfl (hb hby at_68) rfl (l' := #[.val (.int p0), .val (.int (0 : Int32)), .val (.ref w_BLACK), .val (.ref w_WHITE), .val (.int (1 : Int32))]) rfl k) ?_
    show Good p e below _ (T9.setTop (mkF m 70 #[.val (.int p0), .val (.int (0 : Int32)), .val (.ref w_BLACK), .val (.ref w_WHITE), .val (.int (1 : Int32))] []))
    refine Good.back (fun _ k => XS.iload X9.here hx rfl (hb hby at_70) rfl k) ?_
    show Good p e below _ (T9.setTop (mkF m 72 #[.val (.int p0), .val (.int (0 : Int32)), .val (.ref w_BLACK), .val (.ref w_WHITE), .val (.int (1 : Int32))] [(.int (1 : Int32))]))
    refine Good.back (fun _ k => XS.ifNo X9.here hx rfl (hb hby at_72) rfl ((if0 _ _).trans (feq (by decide : ¬ ((1 : Int32) = (0 : Int32)))).1) k) ?_
    show Good p e below _ (T9.setTop (mkF m 75 #[.val (.int p0), .val (.int (0 : Int32)), .val (.ref w_BLACK), .val (.ref w_WHITE), .val (.int (1 : Int32))] []))
    refine Good.back (fun _ k => XS.aloadN X9.here hx rfl (hb hby at_75) rfl rfl k) ?_
    show Good p e below _ (T9.setTop (mkF m 76 #[.val (.int p0), .val (.int (0 : Int32)), .val (.ref w_BLACK), .val (.ref w_WHITE), .val (.int (1 : Int32))] [(.ref w_WHITE)]))
    refine Good.back (fun _ k => XS.aloadN X9.here hx rfl (hb hby at_76) rfl rfl k) ?_
    show Good p e below _ (T9.setTop (mkF m 77 #[.val (.int p0), .val (.int (0 : Int32)), .val (.ref w_BLACK), .val (.ref w_WHITE), .val (.int (1 : Int32))] [(.ref w_BLACK), (.ref w_WHITE)]))
    refine Good.back (fun _ k => Jvm.RoadKit.acmp (g := (mkF m 77 #[.val (.int p0), .val (.int (0 : Int32)), .val (.ref w_BLACK), .val (.ref w_WHITE), .val (.int (1 : Int32))] [(.ref w_BLACK), (.ref w_WHITE)])) X9 hx rfl rfl rfl (pc0 := 77) (pc' := 80) (same := false) rfl (hb hby at_77) rfl (decide_eq_false fun q => (Ne.symm hne) (Value.ref.inj q)) (by decide) (by decide) k) ?_
    show Good p e below _ (T9.setTop (mkF m 80 #[.val (.int p0), .val (.int (0 : Int32)), .val (.ref w_BLACK), .val (.ref w_WHITE), .val (.int (1 : Int32))] []))
    refine Good.back (fun _ k => XS.aloadN X9.here hx rfl (hb hby at_80) rfl rfl k) ?_
    show Good p e below _ (T9.setTop (mkF m 81 #[.val (.int p0), .val (.int (0 : Int32)), .val (.ref w_BLACK), .val (.ref w_WHITE), .val (.int (1 : Int32))] [(.ref w_WHITE)]))
    obtain ⟨cq10, kq10, q10a, q10b, q10c⟩ := isOf hZ e9 E_w_WHITE
    obtain ⟨_, _, ⟨T10, L10, k10, n10⟩, -, X10, ⟨Lc10, hQ10, l10, y10, z10⟩, st10⟩ := X9.virtualBack hx (y := (⟨"com/example/trinode/trinode/game/Side", "opponent", "()Lcom/example/trinode/trinode/game/Side;"⟩ : MethodName)) (z := (⟨"com/example/trinode/trinode/game/Side", "opponent", "()Lcom/example/trinode/trinode/game/Side;"⟩ : MethodName)) hown (mvT hZ (hw _ (List.mem_of_getElem? (i := 3) rfl))) (mvT hZ (hw _ (List.mem_of_getElem? (i := 4) rfl))) (notFace_of_selects (args := #[]) (mvT hZ (hw _ (List.mem_of_getElem? (i := 6) rfl)))) (mvT hZ (hw _ (List.mem_of_getElem? (i := 6) rfl))) (mvT hZ (hw _ (List.mem_of_getElem? (i := 5) rfl))) (by decide) (backOf (W := 0) (rm1w l Z a0 hw []  w_WHITE w_BLACK h0 n0 Z0 S_w_WHITE S_w_BLACK hne) hZ (hw _ (List.mem_of_getElem? (i := 7) rfl)) (hw _ (List.mem_of_getElem? (i := 1) rfl)) (by decide) (by decide)) q10a q10c (g := (mkF m 81 #[.val (.int p0), .val (.int (0 : Int32)), .val (.ref w_BLACK), .val (.ref w_WHITE), .val (.int (1 : Int32))] [(.ref w_WHITE)])) rfl (by rw [hml]; rfl) (Steps.refl _) (argsL := []) (rest := []) (lenOf own_pd7 rfl) rfl (by show 2 * 0 + _ ≤ _; exact Nat.le_of_eq rfl) (hb hby at_81) (fun _ _ => ⟨rfl, e9, (by decide : 0 + 0 ≤ _), (by decide : 0 + 0 ≤ _)⟩)
    dsimp only [Pt.U, Pt.locs, Pt.cells, Pt.slots] at X10 l10 y10 z10 st10 hQ10
    subst l10 y10 z10
    obtain ⟨rfl, N10q, eh10⟩ := hQ10
    have N10 := Fr.app N8 N10q
    refine Good.back (fun _ k => st10.trans k) ?_
    show Good p e below _ (T10.setTop (mkF m 84 #[.val (.int p0), .val (.int (0 : Int32)), .val (.ref w_BLACK), .val (.ref w_WHITE), .val (.int (1 : Int32))] [(.ref w_BLACK)]))
    refine Good.back (fun _ k => XS.aloadN X10.here hx rfl (hb hby at_84) rfl rfl k) ?_
    show Good p e below _ (T10.setTop (mkF m 85 #[.val (.int p0), .val (.int (0 : Int32)), .val (.ref w_BLACK), .val (.ref w_WHITE), .val (.int (1 : Int32))] [(.ref w_BLACK), (.ref w_BLACK)]))
    refine Good.back (fun _ k => Jvm.RoadKit.acmp (g := (mkF m 85 #[.val (.int p0), .val (.int (0 : Int32)), .val (.ref w_BLACK), .val (.ref w_WHITE), .val (.int (1 : Int32))] [(.ref w_BLACK), (.ref w_BLACK)])) X10 hx rfl rfl rfl (pc0 := 85) (pc' := 88) (same := true) rfl (hb hby at_85) rfl (decide_eq_true rfl) (by decide) (by decide) k) ?_
    show Good p e below _ (T10.setTop (mkF m 88 #[.val (.int p0), .val (.int (0 : Int32)), .val (.ref w_BLACK), .val (.ref w_WHITE), .val (.int (1 : Int32))] []))
    refine Good.back (fun _ k => XS.iconst X10.here hx rfl (hb hby at_88) k) ?_
    show Good p e below _ (T10.setTop (mkF m 89 #[.val (.int p0), .val (.int (0 : Int32)), .val (.ref w_BLACK), .val (.ref w_WHITE), .val (.int (1 : Int32))] [(.int (1 : Int32))]))
    refine Good.back (fun _ k => XS.goto X10.here hx rfl (pc0 := 89) (pc' := 93) rfl (hb hby at_89) (by decide) (by decide) k) ?_
    show Good p e below _ (T10.setTop (mkF m 93 #[.val (.int p0), .val (.int (0 : Int32)), .val (.ref w_BLACK), .val (.ref w_WHITE), .val (.int (1 : Int32))] [(.int (1 : Int32))]))
    obtain ⟨fs11, hr11, hrun11, hended11, hW11, hsame11⟩ := X10.leave (v := some (.int (1 : Int32))) (fun h => by rw [Bd.returns] at h; cases h)
    refine Good.done (retN X10 hx (t := .boolean) Bd.returns (by simp) (hb hby at_93) hr11) hrun11 hended11 ⟨_, _, rfl, ?_, ⟨_, rfl⟩, hW11, hsame11.mono (by decide) (by decide)⟩
    show Q0 Z p0 w_WHITE w_BLACK h0 n0 _ T10.heap _
    rw [eh10]
    exact ⟨rfl, N10⟩
set_option maxRecDepth 65536 in
set_option maxHeartbeats 40000000 in
theorem comes_1 {Post : Tables → Env → Array Value → State → Outcome → State → Prop} (hpost : ∀ tb e args s v u, (limb_1_1.after args s (.returned v) u = true ∧ limb_1_2.after args s (.returned v) u = true ∧ True) → FrameEnd s (.returned v) u (Jvm.fieldLocs frame_1_writes args s ++ Jvm.arrayLocs frame_1_arrays args s ++ Jvm.staticLocs frame_1_statics s) 0 0 → Post tb e args s (.returned v) u) :
    ArmFor flags0 classFile x code maxLocals ret World_1 tables_1 room_1 Calls_1 rest_1 Pre_1 Post := by
  intro l hfl _ _ p e ha hc hk s m args below hf hA hF happ hP
  obtain ⟨hcalls, hrest, hpre⟩ := hP
  obtain ⟨-, -, -, hnamed, -, -, -, hat⟩ := (Spec.applies_iff hf).mp happ
  obtain ⟨hg, hn⟩ := and_e (Cond.before_iff.mp (show (Jvm.Cond.and given_1 narrow_1).before args s = true from hpre))
  obtain ⟨g1, g2⟩ := and_e hg
  obtain ⟨w0, rfl⟩ : ∃ w0 : Value, args = #[w0] := by
    have hs : args.size = 1 := by simpa [Cond.value, given_1] using g1
    obtain ⟨L⟩ := args
    match L, hs with
    | [w0], _ => exact ⟨w0, rfl⟩
  have hw := fun d (hd : d ∈ tables_1) => atoms_spec (ws := Jvm.Cond.code x code maxLocals ret :: tables_1) hat d (List.mem_cons_of_mem _ hd)
  have hfit : Fit s := fun {y c} hc i hi => by
    obtain ⟨ha, rfl⟩ := Array.getElem?_eq_some_iff.mp hc
    have q := List.all_eq_true.mp ((Array.all_eq_true_iff_forall_mem.mp hF) _ (Array.getElem_mem ha)) i (List.mem_range.mpr hi)
    simpa [Array.getElem?_eq_getElem hi] using q
  obtain ⟨i0, ei0⟩ := is_v g2
  obtain rfl : w0 = (.int i0) := Option.some.inj ei0
  obtain ⟨c1, c2⟩ := and_e hn
  obtain ⟨c3, c4⟩ := and_e c2
  obtain ⟨c5, c6⟩ := and_e c4
  obtain ⟨w_WHITE, ev_w_WHITE⟩ := exa_v c1
  have S_w_WHITE : Sta s s.heap "com/example/trinode/trinode/game/Side" "WHITE" "Lcom/example/trinode/trinode/game/Side;" (.ref w_WHITE) := Sta.start ev_w_WHITE (Or.inr ⟨(hw _ (List.mem_of_getElem? (i := 1) rfl)), (hw _ (List.mem_of_getElem? (i := 2) rfl))⟩)
  have E_w_WHITE : Exa s s.heap w_WHITE "com/example/trinode/trinode/game/Side" := Exa.start ev_w_WHITE c1
  obtain ⟨w_BLACK, ev_w_BLACK⟩ := exa_v c3
  have S_w_BLACK : Sta s s.heap "com/example/trinode/trinode/game/Side" "BLACK" "Lcom/example/trinode/trinode/game/Side;" (.ref w_BLACK) := Sta.start ev_w_BLACK (Or.inr ⟨(hw _ (List.mem_of_getElem? (i := 1) rfl)), (hw _ (List.mem_of_getElem? (i := 10) rfl))⟩)
  have E_w_BLACK : Exa s s.heap w_BLACK "com/example/trinode/trinode/game/Side" := Exa.start ev_w_BLACK c3
  have F_ordinal_w_BLACK : Fld s s.heap w_BLACK "java/lang/Enum" "ordinal" "I" (.int (1 : Int32)) := Fld.start ((fld_at ev_w_BLACK).symm.trans (own_eqV c5 rfl))
  have F_ordinal_w_WHITE : Fld s s.heap w_WHITE "java/lang/Enum" "ordinal" "I" (.int (0 : Int32)) := Fld.start ((fld_at ev_w_WHITE).symm.trans (own_eqV c6 rfl))
  obtain ⟨n, o, h1, h2, h3, _, L, rfl, ⟨rfl, N⟩, hq⟩ := rm0 l s _ hw tables_1 i0 w_WHITE w_BLACK s.heap s.heap.size (Nat.le_refl _) S_w_WHITE E_w_WHITE S_w_BLACK E_w_BLACK F_ordinal_w_BLACK F_ordinal_w_WHITE (F_ordinal_w_BLACK.ne F_ordinal_w_WHITE (by simp)) p e ha hc hk s m _ below hf ((Spec.applies_iff_loose hf).mp happ).1 ⟨rfl, State.Warmed39.refl s, rfl⟩ trivial
  refine ⟨n, _, h1, h2, h3, hpost _ _ _ _ _ _ ⟨Cond.after_iff.mpr rfl, Cond.after_iff.mpr (eq_i res_at (Term.int_eval (1)) rfl), trivial⟩ ⟨hq.1, hq.2.1, (hq.2.2.sift fun y hy => Or.inr (N y hy)).mono (by decide) (by decide)⟩⟩
theorem main_1_1 : Claimed_1_1 := comes_1 fun _ _ _ _ _ _ h hF => ⟨h.1, hF⟩
theorem main_1_2 : Claimed_1_2 := comes_1 fun _ _ _ _ _ _ h hF => ⟨h.2.1, hF⟩
end Jvm.Pilot.@@N@@
namespace Jvm.Pilot.@@N@@
open Jvm Jvm.ClassFile Sem Op Lib Jvm.Free Jvm.Stand Jvm.Pilot.@@N@@.Jvm.D
/-! MADE BY PROGRAM (witnessworld.py) out of the Statement's table words and the real class files: 12 classes; the members and pool entries that the words name. The judged class is class 1, her method 1. -/
namespace start1
open Jvm.ClassFile
def u (s : String) : CpInfo := .utf8 (stringToUtf16 s)
/-- a pool by its gaps: so many unusable entries, then the entry; so many at the end -/
def gap : Nat → List CpInfo → List CpInfo
  | 0, r => r
  | n + 1, r => .unusable :: gap n r
def poolList (es : List (Nat × CpInfo)) (last : Nat) : List CpInfo := es.foldr (fun e r => gap e.1 (e.2 :: r)) (gap last [])
def pool (es : List (Nat × CpInfo)) (last : Nat) : Array CpInfo := ⟨poolList es last⟩
def fileOf (pool : Array CpInfo) (this : Nat) (attrs : Array Attribute := #[]) (ms : Array MethodInfo := #[]) (fl : Nat := 33) (sup : Nat := 0) (ifs : Array Nat := #[]) (fds : Array FieldInfo := #[]) : ClassFile where
  minorVersion := 0
  majorVersion := 65
  constantPool := pool
  accessFlags := fl
  thisClass := this
  superClass := sup
  interfaces := ifs
  fields := fds
  methods := ms
  attributes := attrs
def plain (name : String) (sup : Option ClassId) : Class where
  name := name
  kind := .ordinary
  loader := none
  accessFlags := 33
  super := sup
  interfaces := #[]
  cf := none
  fields := #[]
  methods := #[]
  instanceTypes := #[]
  staticTypes := #[]
  resolved := #[]
  callSites := []
  init := .initialized
  statics := none
  mirror := none

def pool0 : Array CpInfo := pool [(5, u "<init>"), (0, u "()V"), (1, .class_ 10), (1, u "java/lang/Object")] 113

def k0m0 : Method := { name := "<init>", desc := "()V", sig := { parameters := [], returnType := none }, accessFlags := 1, code := none }
/-- java/lang/Object -/
def k0 : Class := { plain "java/lang/Object" none with
  accessFlags := 33
  interfaces := #[]
  cf := some (fileOf pool0 8 #[] #[{ accessFlags := 1, nameIndex := 5, descriptorIndex := 6, attributes := #[] }] 33 0 #[] #[])
  fields := #[]
  methods := #[k0m0]
  instanceTypes := #[]
  staticTypes := #[]
  resolved := Array.replicate 124 none
  statics := none }

def pool1 : Array CpInfo := pool [(2, .class_ 4), (1, u "java/lang/Object"), (0, u "<init>"), (0, u "()V"), (0, .fieldref 8 9), (0, .class_ 10), (0, .nameAndType 11 12), (0, u "com/example/trinode/trinode/game/Side"), (0, u "WHITE"), (0, u "Lcom/example/trinode/trinode/game/Side;"), (0, .fieldref 8 14), (0, .nameAndType 15 12), (0, u "BLACK"), (0, .methodref 8 17), (0, .nameAndType 18 19), (0, u "opponent"), (0, u "()Lcom/example/trinode/trinode/game/Side;"), (0, .class_ 21), (0, u "com/example/trinode/trinode/game/SideOpponentPinLaw"), (2, u "law"), (0, u "(I)Z")] 3

def k1m0 : Method := { name := "<init>", desc := "()V", sig := { parameters := [], returnType := none }, accessFlags := 1, code := none }
def k1c1 : Code := { maxStack := 2, maxLocals := 5, code := code, exceptionTable := #[], attributes := #[] }
def k1m1 : Method := { name := "law", desc := "(I)Z", sig := { parameters := [.int], returnType := some .boolean }, accessFlags := 9, code := some k1c1 }
/-- com/example/trinode/trinode/game/SideOpponentPinLaw -/
def k1 : Class := { plain "com/example/trinode/trinode/game/SideOpponentPinLaw" (some 0) with
  accessFlags := 49
  interfaces := #[]
  cf := some (fileOf pool1 20 #[] #[{ accessFlags := 1, nameIndex := 5, descriptorIndex := 6, attributes := #[] }, { accessFlags := 9, nameIndex := 24, descriptorIndex := 25, attributes := #[] }] 49 2 #[] #[])
  fields := #[]
  methods := #[k1m0, k1m1]
  instanceTypes := #[]
  staticTypes := #[]
  resolved := Array.replicate 29 none
  statics := none }

def pool2 : Array CpInfo := pool [(1, .class_ 2), (0, u "java/lang/constant/Constable"), (0, .class_ 4), (0, u "java/lang/Object")] 6

/-- java/lang/constant/Constable -/
def k2 : Class := { plain "java/lang/constant/Constable" (some 0) with
  accessFlags := 1537
  interfaces := #[]
  cf := some (fileOf pool2 1 #[] #[] 1537 3 #[] #[])
  fields := #[]
  methods := #[]
  instanceTypes := #[]
  staticTypes := #[]
  resolved := Array.replicate 11 none
  statics := none }

def pool3 : Array CpInfo := pool [(1, .class_ 2), (0, u "java/lang/Comparable"), (0, .class_ 4), (0, u "java/lang/Object")] 7

/-- java/lang/Comparable -/
def k3 : Class := { plain "java/lang/Comparable" (some 0) with
  accessFlags := 1537
  interfaces := #[]
  cf := some (fileOf pool3 1 #[] #[] 1537 3 #[] #[])
  fields := #[]
  methods := #[]
  instanceTypes := #[]
  staticTypes := #[]
  resolved := Array.replicate 12 none
  statics := none }

def pool4 : Array CpInfo := pool [(1, .class_ 2), (0, u "java/io/Serializable"), (0, .class_ 4), (0, u "java/lang/Object")] 2

/-- java/io/Serializable -/
def k4 : Class := { plain "java/io/Serializable" (some 0) with
  accessFlags := 1537
  interfaces := #[]
  cf := some (fileOf pool4 1 #[] #[] 1537 3 #[] #[])
  fields := #[]
  methods := #[]
  instanceTypes := #[]
  staticTypes := #[]
  resolved := Array.replicate 7 none
  statics := none }

def pool5 : Array CpInfo := pool [(2, .class_ 4), (1, u "java/lang/Enum"), (0, u "name"), (0, u "Ljava/lang/String;"), (2, u "ordinal"), (0, u "I"), (1, .class_ 14), (1, u "java/lang/Object"), (4, u "hash"), (86, .class_ 108), (1, u "java/lang/Enum$EnumDesc"), (2, .class_ 112), (0, u "java/lang/constant/Constable"), (0, .class_ 114), (0, u "java/lang/Comparable"), (0, .class_ 116), (0, u "java/io/Serializable")] 87

/-- java/lang/Enum -/
def k5 : Class := { plain "java/lang/Enum" (some 0) with
  accessFlags := 1057
  interfaces := #[2, 3, 4]
  cf := some (fileOf pool5 2 #[.nestMembers #[106]] #[] 1057 12 #[111, 113, 115] #[{ accessFlags := 18, nameIndex := 5, descriptorIndex := 6, attributes := #[] }, { accessFlags := 18, nameIndex := 9, descriptorIndex := 10, attributes := #[] }, { accessFlags := 2, nameIndex := 19, descriptorIndex := 10, attributes := #[] }])
  fields := #[{ name := "name", type := (.object "java/lang/String"), accessFlags := 18, slot := 0, constantValue := 0 }, { name := "ordinal", type := .int, accessFlags := 18, slot := 1, constantValue := 0 }, { name := "hash", type := .int, accessFlags := 2, slot := 2, constantValue := 0 }]
  methods := #[]
  instanceTypes := #[(.object "java/lang/String"), .int, .int]
  staticTypes := #[]
  resolved := Array.replicate 204 none
  statics := none }

def pool6 : Array CpInfo := pool [(1, .class_ 2), (0, u "com/example/trinode/trinode/game/Side"), (0, .fieldref 1 4), (0, .nameAndType 5 6), (0, u "WHITE"), (0, u "Lcom/example/trinode/trinode/game/Side;"), (0, .fieldref 1 8), (0, .nameAndType 9 6), (0, u "BLACK"), (2, u "$VALUES"), (0, u "[Lcom/example/trinode/trinode/game/Side;"), (6, .class_ 22), (1, u "java/lang/Enum"), (8, u "title"), (0, u "Ljava/lang/String;"), (34, u "opponent"), (0, u "()Lcom/example/trinode/trinode/game/Side;")] 6

def k6c0 : Code := { maxStack := 2, maxLocals := 1, code := prog_18_method_6_code, exceptionTable := #[], attributes := #[] }
def k6m0 : Method := { name := "opponent", desc := "()Lcom/example/trinode/trinode/game/Side;", sig := { parameters := [], returnType := some (.object "com/example/trinode/trinode/game/Side") }, accessFlags := 1, code := some k6c0 }
/-- com/example/trinode/trinode/game/Side -/
def k6 : Class := { plain "com/example/trinode/trinode/game/Side" (some 5) with
  accessFlags := 16433
  interfaces := #[]
  cf := some (fileOf pool6 1 #[] #[{ accessFlags := 1, nameIndex := 67, descriptorIndex := 68, attributes := #[] }] 16433 20 #[] #[{ accessFlags := 16409, nameIndex := 5, descriptorIndex := 6, attributes := #[] }, { accessFlags := 16409, nameIndex := 9, descriptorIndex := 6, attributes := #[] }, { accessFlags := 18, nameIndex := 31, descriptorIndex := 32, attributes := #[] }, { accessFlags := 4122, nameIndex := 12, descriptorIndex := 13, attributes := #[] }])
  fields := #[{ name := "WHITE", type := (.object "com/example/trinode/trinode/game/Side"), accessFlags := 16409, slot := 0, constantValue := 0 }, { name := "BLACK", type := (.object "com/example/trinode/trinode/game/Side"), accessFlags := 16409, slot := 1, constantValue := 0 }, { name := "title", type := (.object "java/lang/String"), accessFlags := 18, slot := 3, constantValue := 0 }, { name := "$VALUES", type := (.array (.object "com/example/trinode/trinode/game/Side")), accessFlags := 4122, slot := 2, constantValue := 0 }]
  methods := #[k6m0]
  instanceTypes := #[(.object "java/lang/String"), .int, .int, (.object "java/lang/String")]
  staticTypes := #[(.object "com/example/trinode/trinode/game/Side"), (.object "com/example/trinode/trinode/game/Side"), (.array (.object "com/example/trinode/trinode/game/Side"))]
  resolved := Array.replicate 75 none
  statics := some 0 }

def pool7 : Array CpInfo := pool [(1, u "java/lang/Cloneable"), (0, .class_ 1), (0, u "java/lang/Object"), (0, .class_ 3)] 3

/-- java/lang/Cloneable -/
def k7 : Class := { plain "java/lang/Cloneable" (some 0) with
  accessFlags := 1537
  interfaces := #[]
  cf := some (fileOf pool7 2 #[] #[] 1537 4 #[] #[])
  fields := #[]
  methods := #[]
  instanceTypes := #[]
  staticTypes := #[]
  resolved := Array.replicate 8 none
  statics := none }

/-- the primitive byte -/
def k8 : Class := { plain "byte" none with kind := .primitive 'B', accessFlags := 0x411 }
/-- [B -/
def k9 : Class := { plain "[B" (some 0) with kind := .array 8 .byte, interfaces := #[7, 4], accessFlags := 1041 }

/-- the primitive int -/
def k10 : Class := { plain "int" none with kind := .primitive 'I', accessFlags := 0x411 }
/-- [I -/
def k11 : Class := { plain "[I" (some 0) with kind := .array 10 .int, interfaces := #[7, 4], accessFlags := 1041 }

def heap : Heap := #[{ cls := 6, slots := #[.ref 1, .ref 2, .null], vm := .statics 6 },
  { cls := 6, slots := #[.null, .int 0, .int 0, .null], vm := .none },
  { cls := 6, slots := #[.null, .int 1, .int 0, .null], vm := .none }]
def classes : Array Class := #[k0, k1, k2, k3, k4, k5, k6, k7, k8, k9, k10, k11]
def interned : List (Array UInt16 × Addr) := []
def slotsUsed : Nat := 11
def theMethod : MethodId := ⟨1, 1⟩
def args0 : Array Value := #[.int 5]
def aboutOver (below : List Frame) : State where
  vm := { classes := classes, interned := interned.toArray }
  heap := heap
  slotsUsed := slotsUsed
  threads := #[{ frames := .invoking theMethod args0 :: below }]
def below0 : List Frame := [.native { method := ⟨0, 0⟩, args := #[] }]
def about1 : State := aboutOver below0
def p0 : Program := .bare "" "" ""
def e0 : Env := launch0.env 0 0 0
theorem w_frames : about1.frames = Frame.invoking theMethod args0 :: below0 := rfl
set_option maxRecDepth 65536 in
theorem w_args : argsFit about1.vm theMethod args0 = true := by decide +kernel
set_option maxRecDepth 65536 in
theorem w_heap : heapFits about1 = true := by decide +kernel
set_option maxRecDepth 65536 in
theorem w_runnable : about1.curStatus? = some .runnable := by decide +kernel
set_option maxRecDepth 65536 in
theorem w_alone : about1.alone = true := by decide +kernel
set_option maxRecDepth 65536 in
theorem w_named : about1.methodNamed? x = some theMethod := by decide +kernel
set_option maxRecDepth 65536 in
theorem w_hears : about1.hears theMethod below0 = true := by decide +kernel
set_option maxRecDepth 65536 in
theorem w_ripe : about1.ripe theMethod args0 below0 = true := by decide +kernel
theorem w_running : about1.status = .running := rfl
set_option maxRecDepth 65536 in
theorem w_room : about1.hasRoom e0.platform room_1 = true :=
  launch0.hasRoom_least _ room_1 (by decide +kernel) (by decide +kernel) (by decide +kernel) (by decide +kernel) (by decide +kernel) (by decide +kernel)
theorem allAtoms_all (ts : List Jvm.Cond) (a : Array Jvm.Value) (st : Jvm.State) : (allAtoms ts).before a st = ts.all (fun c => c.before a st) := by
  induction ts with
  | nil => rfl
  | cons c t ih =>
    show (Jvm.Cond.and c (allAtoms t)).before a st = _
    rw [Jvm.Cond.before_and, ih, List.all_cons]
def words1 : List Jvm.Cond := Jvm.Cond.code x code maxLocals ret :: tables_1
/-- a 'code' word, met by the world's own term for the bytes: nothing is compared byte by byte -/
theorem code_word {y : MethodName} {bytes : ByteArray} {mx : Nat} {rt : Option FieldType} {a : Array Value} {s : State} {m : MethodId} {meth : Method} {c : Code} (h1 : s.methodNamed? y = some m) (h2 : s.vm.method? m = some meth) (h3 : meth.code = some c) (h4 : c.code = bytes)
    (h5 : (c.maxLocals == mx && c.exceptionTable.isEmpty && decide (c.maxStack ≤ mostOperands) && decide (meth.sig.returnType = rt) && !meth.locks && decide (parseMethodDescriptor y.desc = some meth.sig)) = true) : (Jvm.Cond.code y bytes mx rt).before a s = true := by
  simp only [Bool.and_eq_true, beq_iff_eq, Bool.not_eq_true', decide_eq_true_eq] at h5
  obtain ⟨⟨⟨⟨⟨g1, g2⟩, g3⟩, g4⟩, g5⟩, g6⟩ := h5
  simp [Cond.before, Cond.holds, Cond.value, h1, h2, h3, h4, g1, g2, g3, g4, g5, g6]
def isCode : Jvm.Cond → Bool
  | .code _ _ _ _ => true
  | _ => false
theorem all_split {L : List Jvm.Cond} {P : Jvm.Cond → Bool} (h1 : L.all (fun c => isCode c || P c) = true) (h2 : ∀ c ∈ L.filter isCode, P c = true) : L.all P = true := by
  refine List.all_eq_true.mpr fun c hc => ?_
  have h := List.all_eq_true.mp h1 c hc
  rcases Bool.eq_false_or_eq_true (isCode c) with hi | hi
  · exact h2 c (List.mem_filter.mpr ⟨hc, hi⟩)
  · simpa [hi] using h
set_option maxRecDepth 65536 in
theorem w_c0 : (Jvm.Cond.code x code maxLocals ret).before args0 about1 = true := code_word (m := ⟨1, 1⟩) (meth := k1m1) (c := k1c1) (by decide +kernel) rfl rfl rfl (by decide +kernel)
set_option maxRecDepth 65536 in
theorem w_c1 : (Jvm.Cond.code ({ cls := "com/example/trinode/trinode/game/Side", name := "opponent", desc := "()Lcom/example/trinode/trinode/game/Side;" } : Jvm.MethodName) prog_18_method_6_code (1 : Nat) (Option.some (Jvm.ClassFile.FieldType.object "com/example/trinode/trinode/game/Side"))).before args0 about1 = true := code_word (m := ⟨6, 0⟩) (meth := k6m0) (c := k6c0) (by decide +kernel) rfl rfl rfl (by decide +kernel)
def codes1 : List Jvm.Cond := [Jvm.Cond.code x code maxLocals ret, Jvm.Cond.code ({ cls := "com/example/trinode/trinode/game/Side", name := "opponent", desc := "()Lcom/example/trinode/trinode/game/Side;" } : Jvm.MethodName) prog_18_method_6_code (1 : Nat) (Option.some (Jvm.ClassFile.FieldType.object "com/example/trinode/trinode/game/Side"))]
set_option maxRecDepth 65536 in
theorem codes_eq : words1.filter isCode = codes1 := rfl
theorem w_codes : ∀ c ∈ words1.filter isCode, c.before args0 about1 = true := by
  rw [codes_eq]
  intro c hc
  simp only [codes1, List.mem_cons, List.not_mem_nil, or_false] at hc
  rcases hc with rfl | rfl
  · exact w_c0
  · exact w_c1
set_option maxRecDepth 65536 in
theorem w_t1 : words1.all (fun c => isCode c || c.before args0 about1) = true := by decide +kernel
theorem w_tables : (allAtoms (Jvm.Cond.code x code maxLocals ret :: tables_1)).before args0 about1 = true := by
  rw [allAtoms_all]
  show words1.all (fun c => c.before args0 about1) = true
  refine all_split ?_ w_codes
  rw [w_t1]
set_option maxRecDepth 65536 in
theorem w_case : (Jvm.Cond.and given_1 narrow_1).before args0 about1 = true := by decide +kernel
theorem w_applies : (headSpec (Jvm.Cond.code x code maxLocals ret :: tables_1) room_1).applies x e0.platform about1 = true :=
  (Spec.applies_iff w_frames).mpr ⟨w_running, w_runnable, w_alone, w_named, w_hears, w_ripe, w_room, w_tables⟩
theorem atStart : AtStart classFile x code maxLocals ret World_1 tables_1 room_1 Calls_1 rest_1 Pre_1 launch0 p0 e0 about1 theMethod args0 below0 :=
  ⟨lists_1, trivial, launch0.admits_env _ _ _, launch0.least_env, fairChoices_fair.cas, fairChoices_fair.clock, w_frames, w_args, w_heap, w_applies, trivial, trivial, w_case⟩
end start1
theorem witness_1 : WitnessClaimed_1 := ⟨start1.p0, start1.e0, start1.about1, start1.theMethod, start1.args0, start1.below0, start1.atStart⟩
end Jvm.Pilot.@@N@@
