import JvmDerived
import JvmDerived.Pilot.@@N@@Statement
import JvmDerived.Pilot.@@N@@Code
set_option linter.unusedVariables false
set_option linter.unusedSimpArgs false
namespace Jvm.RoadKit
open Sem ClassFile Op Lib Jvm.Stand Jvm.Free Jvm.LawKit
section New
variable {p : Program} {l : Launch} {e : Env} {R : Room} {s : State} {m : MethodId} {args : Array Value} {below : List Frame} {meth : Method} {c : Code} {T : State} {locs : List Loc} {cells slots : Nat}
theorem retI (X : Stand p l e R s m args below meth c T locs cells slots) (hx : p.tables.exec = Jvm.exec) {pc : Nat} {Ls : Array Slot} {z : Int32} {rest : List Value} (hret : meth.sig.returnType = some .int) (hd : decode c.code pc = .ok (.ireturn, 1)) {fs : List Frame}
    (hl : ∀ (f : JFrame) (acts : List Action), f.method = m → f.locked = none → f.entered = [] → (doReturn e (T.setTop f) acts (some (.int z))).1 = T.setFrames fs) : Steps p.tables e below (T.setTop (mkF m pc Ls (.int z :: rest))) (T.setFrames fs) := by
  have hm' : T.vm.method? m = some meth := X.method'
  have hn : narrow .int (.int z) = .int z := rfl
  show Steps p.tables e below (T.setTop { method := m, pc := pc, locals := Ls, stack := _ :: rest, locked := none }) _
  jvm_step X.here [X.here.top, hx, hd, hm', hret, hn]
  first | (intro acts; rw [hl _ acts rfl rfl rfl]) | rw [hl _ _ rfl rfl rfl]
  exact Steps.refl _
end New
/-- from this state a run goes on to an end that meets K -/
def Good (p : Program) (e : Env) (below : List Frame) (K : Outcome → State → Prop) (S : State) : Prop := ∃ s₂ o, Steps p.tables e below S s₂ ∧ s₂.status = .running ∧ Ended s₂ below o ∧ K o s₂
theorem Good.back {p : Program} {e : Env} {below : List Frame} {K : Outcome → State → Prop} {S S' : State} (h : ∀ t, Steps p.tables e below S' t → Steps p.tables e below S t) (g : Good p e below K S') : Good p e below K S := by
  obtain ⟨t, o, h1, h2⟩ := g
  exact ⟨t, o, h t h1, h2⟩
theorem Good.done {p : Program} {e : Env} {below : List Frame} {K : Outcome → State → Prop} {S t : State} {o : Outcome} (h1 : Steps p.tables e below S t) (h2 : t.status = .running) (h3 : Ended t below o) (h4 : K o t) : Good p e below K S := ⟨t, o, h1, h2, h3, h4⟩
end Jvm.RoadKit
namespace Jvm.Pilot.@@N@@
open Jvm Jvm.ClassFile Sem Op Lib Jvm.Free Jvm.Stand Jvm.LawKit Jvm.RoadKit Bundle Jvm.Pilot.@@N@@.Jvm.D
theorem own_eqV {args : Array Value} {first s : State} {o : Option Outcome} {idx : List Nat} {a b : Term} {y : Value} (h : (Jvm.Cond.eq a b).value args first o s idx = some true) (hb : b.eval args first o idx s = some y) : a.eval args first o idx s = some y := by
  cases ha : a.eval args first o idx s with
  | none => simp [Jvm.Cond.value, ha] at h
  | some x => cases x <;> cases y <;> simp_all [Jvm.Cond.value]
theorem own_len {args : Array Value} {s : State} {t : Term} {a : Addr} {cl : Cell} {ty : FieldType} {k : Int32} (A : Arr s s.heap a cl ty) (ev : t.eval args s none [] s = some (.ref a)) (h : (Term.length t).eval args s none [] s = some (.int k)) : cl.slots.size < 2 ^ 31 ∧ cl.slots.size.toInt32 = k := by
  have ha : s.arrayAt? a = some cl := IntBox.arrayAt_of A.1 A.2.1 A.2.2
  simp [Term.eval, ev, ha] at h
  exact h

theorem own_small {e : Int32} {n : Nat} (h0 : 0 ≤ e.toInt) (hn : e.toInt < n) : ∃ k : Nat, k < n ∧ e = Int32.ofNat k := by
  refine ⟨e.toInt.toNat, by omega, ?_⟩
  apply Int32.toInt_inj.mp
  have hb := e.toInt_lt
  rw [Int32.toInt_ofNat_of_lt (by omega)]
  omega
theorem own_mask {x m : Int32} {n : Nat} (hm : 0 ≤ m.toInt) (hn : m.toInt < n) : ∃ k : Nat, k < n ∧ (x &&& m) = Int32.ofNat k := by
  have h := c_and x m hm
  exact own_small h.1 (by omega)
theorem own_modm {x y : Int32} {d : Int} {n : Nat} (hy : y.toInt = d) (hd : 0 < d) (hn : d ≤ n) : ∃ k : Nat, k < n ∧ ((x &&& (2147483647 : Int32)) % y) = Int32.ofNat k := by
  have h := c_and x 2147483647 (by decide)
  have h2 := (c_irem (x &&& 2147483647) y d hy).1 h.1
  refine own_small ?_ ?_ <;> rw [h2]
  · exact Int.emod_nonneg _ (by omega)
  · have := Int.emod_lt_of_pos (x &&& 2147483647).toInt hd
    omega

theorem own_pn0 : plainName "com/example/poonji/poonji/RcbInstrumentTypeHeldInTier1ByPinLaw" = true := by first | (simp [plainName, overriddenIn]; done) | decide +kernel
theorem own_d1_0 : decode method_3_code 0 = .ok (.iload_n 0, 1) := by decide +kernel
theorem own_d1_1 : decode method_3_code 1 = .ok (.ifCond .ne 7, 3) := by decide +kernel
theorem own_d1_4 : decode method_3_code 4 = .ok (.getstatic 29, 3) := by decide +kernel
theorem own_d1_7 : decode method_3_code 7 = .ok (.areturn, 1) := by decide +kernel
theorem own_ef_1_0 (m : MethodId) (x0 : Int32) : entryFrame m #[(.int x0)] 1 = mkF m 0 #[.val (.int x0)] [] := by first | (simp [entryFrame, mkF, argsToLocals, Value.category]; done) | rfl
def Q1_0 (Z : State) (w_PNCPS : Addr) (h0 : Heap) (n0 : Nat) (v : Option Value) (h : Heap) (L : List Loc) : Prop := v = some (.ref w_PNCPS) ∧ Fr n0 L ∧ h = h0
set_option maxRecDepth 65536 in
set_option maxHeartbeats 40000000 in
theorem rm1_0 (l : Launch) (Z : State) (a0 : Array Value) (hw : ∀ d ∈ tables_1, d.before a0 Z = true) (ws : List Jvm.Cond) (w_PNCPS : Addr) (h0 : Heap) (n0 : Nat) (Z0 : n0 ≤ h0.size) (S_w_PNCPS : Sta Z h0 "com/example/poonji/poonji/RcbInstrumentType" "PNCPS" "Lcom/example/poonji/poonji/RcbInstrumentType;" (.ref w_PNCPS)) :
    MetFree l (⟨"com/example/poonji/poonji/RcbInstrumentTypeHeldInTier1ByPinLaw", "pick", "(I)Lcom/example/poonji/poonji/RcbInstrumentType;"⟩ : MethodName) (head1 (Jvm.Cond.code (⟨"com/example/poonji/poonji/RcbInstrumentTypeHeldInTier1ByPinLaw", "pick", "(I)Lcom/example/poonji/poonji/RcbInstrumentType;"⟩ : MethodName) method_3_code 1 (some (.object "com/example/poonji/poonji/RcbInstrumentType")) :: ws) ({ frames := 0, cells := 0, slots := 0, locals := 0 } : Room)) (fun a U => a = #[(.int (0 : Int32))] ∧ Z.Warmed39 U.vm ∧ U.heap = h0) (fun _ _ _ _ _ => True) (fun _ U o U' => ∃ v L, o = .returned v ∧ Q1_0 Z w_PNCPS h0 n0 v U'.heap L ∧ FrameEnd U o U' L ({ frames := 0, cells := 0, slots := 0, locals := 0 } : Room).cells ({ frames := 0, cells := 0, slots := 0, locals := 0 } : Room).slots) := by
  refine MetFree.of_bodySF (plainFor_of_name own_pn0) hisR ?_
  intro p e s m args below meth c s₁ Bd hml0 hP hK
  obtain ⟨rfl, hZ, hh⟩ := hP
  have hx := Bd.exec
  have hby := Bd.bytes
  have hml : c.maxLocals = 1 := hml0
  have hown : s.vm.findClass "com/example/poonji/poonji/RcbInstrumentTypeHeldInTier1ByPinLaw" = some m.cls := findClass_of_methodNamed Bd.named
  have hnm := (name_of_methodNamed Bd.named Bd.method).1
  have X0 : Stand p l e ({ frames := 0, cells := 0, slots := 0, locals := 0 } : Room) s m #[(.int (0 : Int32))] below meth c s₁ [] 0 0 := Stand.of_body Bd
  have e0 : s₁.heap = h0 := by rw [← hh, Bd.state]; rfl
  have N0 := Fr.nil n0
  show Good p e below (fun o U' => ∃ v L, o = .returned v ∧ Q1_0 Z w_PNCPS h0 n0 v U'.heap L ∧ FrameEnd s o U' L ({ frames := 0, cells := 0, slots := 0, locals := 0 } : Room).cells ({ frames := 0, cells := 0, slots := 0, locals := 0 } : Room).slots) _
  refine Good.back (S' := s₁.setTop (mkF m 0 #[.val (.int (0 : Int32))] [])) (fun t k => castTop (own_ef_1_0 m (0 : Int32)) k) ?_
  show Good p e below _ (s₁.setTop (mkF m 0 #[.val (.int (0 : Int32))] []))
  refine Good.back (fun _ k => XS.iloadN X0.here hx rfl (hb hby own_d1_0) rfl k) ?_
  show Good p e below _ (s₁.setTop (mkF m 1 #[.val (.int (0 : Int32))] [(.int (0 : Int32))]))
  refine Good.back (fun _ k => XS.ifNo X0.here hx rfl (hb hby own_d1_1) rfl ((if0 _ _).trans (teq (by decide : ((0 : Int32) = (0 : Int32)))).2) k) ?_
  show Good p e below _ (s₁.setTop (mkF m 4 #[.val (.int (0 : Int32))] []))
  obtain ⟨T1, X1, e1, st1⟩ := getS2 X0 hx hZ hown (host := "") (Or.inl (hw _ (List.mem_of_getElem? (i := 5) rfl))) Via.refl e0 S_w_PNCPS (g := (mkF m 4 #[.val (.int (0 : Int32))] [])) rfl (hb hby own_d1_4)
  refine Good.back st1 ?_
  show Good p e below _ (T1.setTop (mkF m 7 #[.val (.int (0 : Int32))] [(.ref w_PNCPS)]))
  obtain ⟨fs2, hr2, hrun2, hended2, hW2, hsame2⟩ := X1.leave (v := some (.ref w_PNCPS)) (fun h => by rw [Bd.returns] at h; cases h)
  refine Good.done (retOut X1 hx Bd.returns rfl (Or.inr (Or.inr (Or.inr (Or.inr ⟨rfl, rfl, rfl⟩)))) (hb hby own_d1_7) hr2) hrun2 hended2 ⟨_, _, rfl, ?_, ⟨_, rfl⟩, hW2, hsame2.mono (by decide) (by decide)⟩
  show Q1_0 Z w_PNCPS h0 n0 _ T1.heap _
  rw [e1]
  exact ⟨rfl, N0, rfl⟩
theorem own_d1_8 : decode method_3_code 8 = .ok (.iload_n 0, 1) := by decide +kernel
theorem own_d1_9 : decode method_3_code 9 = .ok (.iconst 1, 1) := by decide +kernel
theorem own_d1_10 : decode method_3_code 10 = .ok (.if_icmp .ne 7, 3) := by decide +kernel
theorem own_d1_13 : decode method_3_code 13 = .ok (.getstatic 33, 3) := by decide +kernel
theorem own_d1_16 : decode method_3_code 16 = .ok (.areturn, 1) := by decide +kernel
theorem own_ef_1_1 (m : MethodId) (x0 : Int32) : entryFrame m #[(.int x0)] 1 = mkF m 0 #[.val (.int x0)] [] := by first | (simp [entryFrame, mkF, argsToLocals, Value.category]; done) | rfl
def Q1_1 (Z : State) (w_PDI : Addr) (h0 : Heap) (n0 : Nat) (v : Option Value) (h : Heap) (L : List Loc) : Prop := v = some (.ref w_PDI) ∧ Fr n0 L ∧ h = h0
set_option maxRecDepth 65536 in
set_option maxHeartbeats 40000000 in
theorem rm1_1 (l : Launch) (Z : State) (a0 : Array Value) (hw : ∀ d ∈ tables_1, d.before a0 Z = true) (ws : List Jvm.Cond) (w_PDI : Addr) (h0 : Heap) (n0 : Nat) (Z0 : n0 ≤ h0.size) (S_w_PDI : Sta Z h0 "com/example/poonji/poonji/RcbInstrumentType" "PDI" "Lcom/example/poonji/poonji/RcbInstrumentType;" (.ref w_PDI)) :
    MetFree l (⟨"com/example/poonji/poonji/RcbInstrumentTypeHeldInTier1ByPinLaw", "pick", "(I)Lcom/example/poonji/poonji/RcbInstrumentType;"⟩ : MethodName) (head1 (Jvm.Cond.code (⟨"com/example/poonji/poonji/RcbInstrumentTypeHeldInTier1ByPinLaw", "pick", "(I)Lcom/example/poonji/poonji/RcbInstrumentType;"⟩ : MethodName) method_3_code 1 (some (.object "com/example/poonji/poonji/RcbInstrumentType")) :: ws) ({ frames := 0, cells := 0, slots := 0, locals := 0 } : Room)) (fun a U => a = #[(.int (1 : Int32))] ∧ Z.Warmed39 U.vm ∧ U.heap = h0) (fun _ _ _ _ _ => True) (fun _ U o U' => ∃ v L, o = .returned v ∧ Q1_1 Z w_PDI h0 n0 v U'.heap L ∧ FrameEnd U o U' L ({ frames := 0, cells := 0, slots := 0, locals := 0 } : Room).cells ({ frames := 0, cells := 0, slots := 0, locals := 0 } : Room).slots) := by
  refine MetFree.of_bodySF (plainFor_of_name own_pn0) hisR ?_
  intro p e s m args below meth c s₁ Bd hml0 hP hK
  obtain ⟨rfl, hZ, hh⟩ := hP
  have hx := Bd.exec
  have hby := Bd.bytes
  have hml : c.maxLocals = 1 := hml0
  have hown : s.vm.findClass "com/example/poonji/poonji/RcbInstrumentTypeHeldInTier1ByPinLaw" = some m.cls := findClass_of_methodNamed Bd.named
  have hnm := (name_of_methodNamed Bd.named Bd.method).1
  have X0 : Stand p l e ({ frames := 0, cells := 0, slots := 0, locals := 0 } : Room) s m #[(.int (1 : Int32))] below meth c s₁ [] 0 0 := Stand.of_body Bd
  have e0 : s₁.heap = h0 := by rw [← hh, Bd.state]; rfl
  have N0 := Fr.nil n0
  show Good p e below (fun o U' => ∃ v L, o = .returned v ∧ Q1_1 Z w_PDI h0 n0 v U'.heap L ∧ FrameEnd s o U' L ({ frames := 0, cells := 0, slots := 0, locals := 0 } : Room).cells ({ frames := 0, cells := 0, slots := 0, locals := 0 } : Room).slots) _
  refine Good.back (S' := s₁.setTop (mkF m 0 #[.val (.int (1 : Int32))] [])) (fun t k => castTop (own_ef_1_1 m (1 : Int32)) k) ?_
  show Good p e below _ (s₁.setTop (mkF m 0 #[.val (.int (1 : Int32))] []))
  refine Good.back (fun _ k => XS.iloadN X0.here hx rfl (hb hby own_d1_0) rfl k) ?_
  show Good p e below _ (s₁.setTop (mkF m 1 #[.val (.int (1 : Int32))] [(.int (1 : Int32))]))
  refine Good.back (fun _ k => XS.ifYes X0.here hx rfl (pc0 := 1) (pc' := 8) rfl (hb hby own_d1_1) rfl ((if0 _ _).trans (feq (by decide : ¬ ((1 : Int32) = (0 : Int32)))).2) (by decide) (by decide) k) ?_
  show Good p e below _ (s₁.setTop (mkF m 8 #[.val (.int (1 : Int32))] []))
  refine Good.back (fun _ k => XS.iloadN X0.here hx rfl (hb hby own_d1_8) rfl k) ?_
  show Good p e below _ (s₁.setTop (mkF m 9 #[.val (.int (1 : Int32))] [(.int (1 : Int32))]))
  refine Good.back (fun _ k => XS.iconst X0.here hx rfl (hb hby own_d1_9) k) ?_
  show Good p e below _ (s₁.setTop (mkF m 10 #[.val (.int (1 : Int32))] [(.int (1 : Int32)), (.int (1 : Int32))]))
  refine Good.back (fun _ k => XS.icmpNo X0.here hx rfl (hb hby own_d1_10) rfl (teq (by decide : ((1 : Int32) = (1 : Int32)))).2 k) ?_
  show Good p e below _ (s₁.setTop (mkF m 13 #[.val (.int (1 : Int32))] []))
  obtain ⟨T1, X1, e1, st1⟩ := getS2 X0 hx hZ hown (host := "") (Or.inl (hw _ (List.mem_of_getElem? (i := 28) rfl))) Via.refl e0 S_w_PDI (g := (mkF m 13 #[.val (.int (1 : Int32))] [])) rfl (hb hby own_d1_13)
  refine Good.back st1 ?_
  show Good p e below _ (T1.setTop (mkF m 16 #[.val (.int (1 : Int32))] [(.ref w_PDI)]))
  obtain ⟨fs2, hr2, hrun2, hended2, hW2, hsame2⟩ := X1.leave (v := some (.ref w_PDI)) (fun h => by rw [Bd.returns] at h; cases h)
  refine Good.done (retOut X1 hx Bd.returns rfl (Or.inr (Or.inr (Or.inr (Or.inr ⟨rfl, rfl, rfl⟩)))) (hb hby own_d1_16) hr2) hrun2 hended2 ⟨_, _, rfl, ?_, ⟨_, rfl⟩, hW2, hsame2.mono (by decide) (by decide)⟩
  show Q1_1 Z w_PDI h0 n0 _ T1.heap _
  rw [e1]
  exact ⟨rfl, N0, rfl⟩
theorem own_d1_17 : decode method_3_code 17 = .ok (.iload_n 0, 1) := by decide +kernel
theorem own_d1_18 : decode method_3_code 18 = .ok (.iconst 2, 1) := by decide +kernel
theorem own_d1_19 : decode method_3_code 19 = .ok (.if_icmp .ne 7, 3) := by decide +kernel
theorem own_d1_22 : decode method_3_code 22 = .ok (.getstatic 36, 3) := by decide +kernel
theorem own_d1_25 : decode method_3_code 25 = .ok (.areturn, 1) := by decide +kernel
theorem own_ef_1_2 (m : MethodId) (x0 : Int32) : entryFrame m #[(.int x0)] 1 = mkF m 0 #[.val (.int x0)] [] := by first | (simp [entryFrame, mkF, argsToLocals, Value.category]; done) | rfl
def Q1_2 (Z : State) (w_IPDI : Addr) (h0 : Heap) (n0 : Nat) (v : Option Value) (h : Heap) (L : List Loc) : Prop := v = some (.ref w_IPDI) ∧ Fr n0 L ∧ h = h0
set_option maxRecDepth 65536 in
set_option maxHeartbeats 40000000 in
theorem rm1_2 (l : Launch) (Z : State) (a0 : Array Value) (hw : ∀ d ∈ tables_1, d.before a0 Z = true) (ws : List Jvm.Cond) (w_IPDI : Addr) (h0 : Heap) (n0 : Nat) (Z0 : n0 ≤ h0.size) (S_w_IPDI : Sta Z h0 "com/example/poonji/poonji/RcbInstrumentType" "IPDI" "Lcom/example/poonji/poonji/RcbInstrumentType;" (.ref w_IPDI)) :
    MetFree l (⟨"com/example/poonji/poonji/RcbInstrumentTypeHeldInTier1ByPinLaw", "pick", "(I)Lcom/example/poonji/poonji/RcbInstrumentType;"⟩ : MethodName) (head1 (Jvm.Cond.code (⟨"com/example/poonji/poonji/RcbInstrumentTypeHeldInTier1ByPinLaw", "pick", "(I)Lcom/example/poonji/poonji/RcbInstrumentType;"⟩ : MethodName) method_3_code 1 (some (.object "com/example/poonji/poonji/RcbInstrumentType")) :: ws) ({ frames := 0, cells := 0, slots := 0, locals := 0 } : Room)) (fun a U => a = #[(.int (2 : Int32))] ∧ Z.Warmed39 U.vm ∧ U.heap = h0) (fun _ _ _ _ _ => True) (fun _ U o U' => ∃ v L, o = .returned v ∧ Q1_2 Z w_IPDI h0 n0 v U'.heap L ∧ FrameEnd U o U' L ({ frames := 0, cells := 0, slots := 0, locals := 0 } : Room).cells ({ frames := 0, cells := 0, slots := 0, locals := 0 } : Room).slots) := by
  refine MetFree.of_bodySF (plainFor_of_name own_pn0) hisR ?_
  intro p e s m args below meth c s₁ Bd hml0 hP hK
  obtain ⟨rfl, hZ, hh⟩ := hP
  have hx := Bd.exec
  have hby := Bd.bytes
  have hml : c.maxLocals = 1 := hml0
  have hown : s.vm.findClass "com/example/poonji/poonji/RcbInstrumentTypeHeldInTier1ByPinLaw" = some m.cls := findClass_of_methodNamed Bd.named
  have hnm := (name_of_methodNamed Bd.named Bd.method).1
  have X0 : Stand p l e ({ frames := 0, cells := 0, slots := 0, locals := 0 } : Room) s m #[(.int (2 : Int32))] below meth c s₁ [] 0 0 := Stand.of_body Bd
  have e0 : s₁.heap = h0 := by rw [← hh, Bd.state]; rfl
  have N0 := Fr.nil n0
  show Good p e below (fun o U' => ∃ v L, o = .returned v ∧ Q1_2 Z w_IPDI h0 n0 v U'.heap L ∧ FrameEnd s o U' L ({ frames := 0, cells := 0, slots := 0, locals := 0 } : Room).cells ({ frames := 0, cells := 0, slots := 0, locals := 0 } : Room).slots) _
  refine Good.back (S' := s₁.setTop (mkF m 0 #[.val (.int (2 : Int32))] [])) (fun t k => castTop (own_ef_1_2 m (2 : Int32)) k) ?_
  show Good p e below _ (s₁.setTop (mkF m 0 #[.val (.int (2 : Int32))] []))
  refine Good.back (fun _ k => XS.iloadN X0.here hx rfl (hb hby own_d1_0) rfl k) ?_
  show Good p e below _ (s₁.setTop (mkF m 1 #[.val (.int (2 : Int32))] [(.int (2 : Int32))]))
  refine Good.back (fun _ k => XS.ifYes X0.here hx rfl (pc0 := 1) (pc' := 8) rfl (hb hby own_d1_1) rfl ((if0 _ _).trans (feq (by decide : ¬ ((2 : Int32) = (0 : Int32)))).2) (by decide) (by decide) k) ?_
  show Good p e below _ (s₁.setTop (mkF m 8 #[.val (.int (2 : Int32))] []))
  refine Good.back (fun _ k => XS.iloadN X0.here hx rfl (hb hby own_d1_8) rfl k) ?_
  show Good p e below _ (s₁.setTop (mkF m 9 #[.val (.int (2 : Int32))] [(.int (2 : Int32))]))
  refine Good.back (fun _ k => XS.iconst X0.here hx rfl (hb hby own_d1_9) k) ?_
  show Good p e below _ (s₁.setTop (mkF m 10 #[.val (.int (2 : Int32))] [(.int (1 : Int32)), (.int (2 : Int32))]))
  refine Good.back (fun _ k => XS.icmpYes X0.here hx rfl (pc0 := 10) (pc' := 17) rfl (hb hby own_d1_10) rfl (feq (by decide : ¬ ((2 : Int32) = (1 : Int32)))).2 (by decide) (by decide) k) ?_
  show Good p e below _ (s₁.setTop (mkF m 17 #[.val (.int (2 : Int32))] []))
  refine Good.back (fun _ k => XS.iloadN X0.here hx rfl (hb hby own_d1_17) rfl k) ?_
  show Good p e below _ (s₁.setTop (mkF m 18 #[.val (.int (2 : Int32))] [(.int (2 : Int32))]))
  refine Good.back (fun _ k => XS.iconst X0.here hx rfl (hb hby own_d1_18) k) ?_
  show Good p e below _ (s₁.setTop (mkF m 19 #[.val (.int (2 : Int32))] [(.int (2 : Int32)), (.int (2 : Int32))]))
  refine Good.back (fun _ k => XS.icmpNo X0.here hx rfl (hb hby own_d1_19) rfl (teq (by decide : ((2 : Int32) = (2 : Int32)))).2 k) ?_
  show Good p e below _ (s₁.setTop (mkF m 22 #[.val (.int (2 : Int32))] []))
  obtain ⟨T1, X1, e1, st1⟩ := getS2 X0 hx hZ hown (host := "") (Or.inl (hw _ (List.mem_of_getElem? (i := 26) rfl))) Via.refl e0 S_w_IPDI (g := (mkF m 22 #[.val (.int (2 : Int32))] [])) rfl (hb hby own_d1_22)
  refine Good.back st1 ?_
  show Good p e below _ (T1.setTop (mkF m 25 #[.val (.int (2 : Int32))] [(.ref w_IPDI)]))
  obtain ⟨fs2, hr2, hrun2, hended2, hW2, hsame2⟩ := X1.leave (v := some (.ref w_IPDI)) (fun h => by rw [Bd.returns] at h; cases h)
  refine Good.done (retOut X1 hx Bd.returns rfl (Or.inr (Or.inr (Or.inr (Or.inr ⟨rfl, rfl, rfl⟩)))) (hb hby own_d1_25) hr2) hrun2 hended2 ⟨_, _, rfl, ?_, ⟨_, rfl⟩, hW2, hsame2.mono (by decide) (by decide)⟩
  show Q1_2 Z w_IPDI h0 n0 _ T1.heap _
  rw [e1]
  exact ⟨rfl, N0, rfl⟩
theorem own_d1_26 : decode method_3_code 26 = .ok (.iload_n 0, 1) := by decide +kernel
theorem own_d1_27 : decode method_3_code 27 = .ok (.iconst 3, 1) := by decide +kernel
theorem own_d1_28 : decode method_3_code 28 = .ok (.if_icmp .ne 7, 3) := by decide +kernel
theorem own_d1_31 : decode method_3_code 31 = .ok (.getstatic 39, 3) := by decide +kernel
theorem own_d1_34 : decode method_3_code 34 = .ok (.areturn, 1) := by decide +kernel
theorem own_ef_1_3 (m : MethodId) (x0 : Int32) : entryFrame m #[(.int x0)] 1 = mkF m 0 #[.val (.int x0)] [] := by first | (simp [entryFrame, mkF, argsToLocals, Value.category]; done) | rfl
def Q1_3 (Z : State) (w_PCPS : Addr) (h0 : Heap) (n0 : Nat) (v : Option Value) (h : Heap) (L : List Loc) : Prop := v = some (.ref w_PCPS) ∧ Fr n0 L ∧ h = h0
set_option maxRecDepth 65536 in
set_option maxHeartbeats 40000000 in
theorem rm1_3 (l : Launch) (Z : State) (a0 : Array Value) (hw : ∀ d ∈ tables_1, d.before a0 Z = true) (ws : List Jvm.Cond) (w_PCPS : Addr) (h0 : Heap) (n0 : Nat) (Z0 : n0 ≤ h0.size) (S_w_PCPS : Sta Z h0 "com/example/poonji/poonji/RcbInstrumentType" "PCPS" "Lcom/example/poonji/poonji/RcbInstrumentType;" (.ref w_PCPS)) :
    MetFree l (⟨"com/example/poonji/poonji/RcbInstrumentTypeHeldInTier1ByPinLaw", "pick", "(I)Lcom/example/poonji/poonji/RcbInstrumentType;"⟩ : MethodName) (head1 (Jvm.Cond.code (⟨"com/example/poonji/poonji/RcbInstrumentTypeHeldInTier1ByPinLaw", "pick", "(I)Lcom/example/poonji/poonji/RcbInstrumentType;"⟩ : MethodName) method_3_code 1 (some (.object "com/example/poonji/poonji/RcbInstrumentType")) :: ws) ({ frames := 0, cells := 0, slots := 0, locals := 0 } : Room)) (fun a U => a = #[(.int (3 : Int32))] ∧ Z.Warmed39 U.vm ∧ U.heap = h0) (fun _ _ _ _ _ => True) (fun _ U o U' => ∃ v L, o = .returned v ∧ Q1_3 Z w_PCPS h0 n0 v U'.heap L ∧ FrameEnd U o U' L ({ frames := 0, cells := 0, slots := 0, locals := 0 } : Room).cells ({ frames := 0, cells := 0, slots := 0, locals := 0 } : Room).slots) := by
  refine MetFree.of_bodySF (plainFor_of_name own_pn0) hisR ?_
  intro p e s m args below meth c s₁ Bd hml0 hP hK
  obtain ⟨rfl, hZ, hh⟩ := hP
  have hx := Bd.exec
  have hby := Bd.bytes
  have hml : c.maxLocals = 1 := hml0
  have hown : s.vm.findClass "com/example/poonji/poonji/RcbInstrumentTypeHeldInTier1ByPinLaw" = some m.cls := findClass_of_methodNamed Bd.named
  have hnm := (name_of_methodNamed Bd.named Bd.method).1
  have X0 : Stand p l e ({ frames := 0, cells := 0, slots := 0, locals := 0 } : Room) s m #[(.int (3 : Int32))] below meth c s₁ [] 0 0 := Stand.of_body Bd
  have e0 : s₁.heap = h0 := by rw [← hh, Bd.state]; rfl
  have N0 := Fr.nil n0
  show Good p e below (fun o U' => ∃ v L, o = .returned v ∧ Q1_3 Z w_PCPS h0 n0 v U'.heap L ∧ FrameEnd s o U' L ({ frames := 0, cells := 0, slots := 0, locals := 0 } : Room).cells ({ frames := 0, cells := 0, slots := 0, locals := 0 } : Room).slots) _
  refine Good.back (S' := s₁.setTop (mkF m 0 #[.val (.int (3 : Int32))] [])) (fun t k => castTop (own_ef_1_3 m (3 : Int32)) k) ?_
  show Good p e below _ (s₁.setTop (mkF m 0 #[.val (.int (3 : Int32))] []))
  refine Good.back (fun _ k => XS.iloadN X0.here hx rfl (hb hby own_d1_0) rfl k) ?_
  show Good p e below _ (s₁.setTop (mkF m 1 #[.val (.int (3 : Int32))] [(.int (3 : Int32))]))
  refine Good.back (fun _ k => XS.ifYes X0.here hx rfl (pc0 := 1) (pc' := 8) rfl (hb hby own_d1_1) rfl ((if0 _ _).trans (feq (by decide : ¬ ((3 : Int32) = (0 : Int32)))).2) (by decide) (by decide) k) ?_
  show Good p e below _ (s₁.setTop (mkF m 8 #[.val (.int (3 : Int32))] []))
  refine Good.back (fun _ k => XS.iloadN X0.here hx rfl (hb hby own_d1_8) rfl k) ?_
  show Good p e below _ (s₁.setTop (mkF m 9 #[.val (.int (3 : Int32))] [(.int (3 : Int32))]))
  refine Good.back (fun _ k => XS.iconst X0.here hx rfl (hb hby own_d1_9) k) ?_
  show Good p e below _ (s₁.setTop (mkF m 10 #[.val (.int (3 : Int32))] [(.int (1 : Int32)), (.int (3 : Int32))]))
  refine Good.back (fun _ k => XS.icmpYes X0.here hx rfl (pc0 := 10) (pc' := 17) rfl (hb hby own_d1_10) rfl (feq (by decide : ¬ ((3 : Int32) = (1 : Int32)))).2 (by decide) (by decide) k) ?_
  show Good p e below _ (s₁.setTop (mkF m 17 #[.val (.int (3 : Int32))] []))
  refine Good.back (fun _ k => XS.iloadN X0.here hx rfl (hb hby own_d1_17) rfl k) ?_
  show Good p e below _ (s₁.setTop (mkF m 18 #[.val (.int (3 : Int32))] [(.int (3 : Int32))]))
  refine Good.back (fun _ k => XS.iconst X0.here hx rfl (hb hby own_d1_18) k) ?_
  show Good p e below _ (s₁.setTop (mkF m 19 #[.val (.int (3 : Int32))] [(.int (2 : Int32)), (.int (3 : Int32))]))
  refine Good.back (fun _ k => XS.icmpYes X0.here hx rfl (pc0 := 19) (pc' := 26) rfl (hb hby own_d1_19) rfl (feq (by decide : ¬ ((3 : Int32) = (2 : Int32)))).2 (by decide) (by decide) k) ?_
  show Good p e below _ (s₁.setTop (mkF m 26 #[.val (.int (3 : Int32))] []))
  refine Good.back (fun _ k => XS.iloadN X0.here hx rfl (hb hby own_d1_26) rfl k) ?_
  show Good p e below _ (s₁.setTop (mkF m 27 #[.val (.int (3 : Int32))] [(.int (3 : Int32))]))
  refine Good.back (fun _ k => XS.iconst X0.here hx rfl (hb hby own_d1_27) k) ?_
  show Good p e below _ (s₁.setTop (mkF m 28 #[.val (.int (3 : Int32))] [(.int (3 : Int32)), (.int (3 : Int32))]))
  refine Good.back (fun _ k => XS.icmpNo X0.here hx rfl (hb hby own_d1_28) rfl (teq (by decide : ((3 : Int32) = (3 : Int32)))).2 k) ?_
  show Good p e below _ (s₁.setTop (mkF m 31 #[.val (.int (3 : Int32))] []))
  obtain ⟨T1, X1, e1, st1⟩ := getS2 X0 hx hZ hown (host := "") (Or.inl (hw _ (List.mem_of_getElem? (i := 20) rfl))) Via.refl e0 S_w_PCPS (g := (mkF m 31 #[.val (.int (3 : Int32))] [])) rfl (hb hby own_d1_31)
  refine Good.back st1 ?_
  show Good p e below _ (T1.setTop (mkF m 34 #[.val (.int (3 : Int32))] [(.ref w_PCPS)]))
  obtain ⟨fs2, hr2, hrun2, hended2, hW2, hsame2⟩ := X1.leave (v := some (.ref w_PCPS)) (fun h => by rw [Bd.returns] at h; cases h)
  refine Good.done (retOut X1 hx Bd.returns rfl (Or.inr (Or.inr (Or.inr (Or.inr ⟨rfl, rfl, rfl⟩)))) (hb hby own_d1_34) hr2) hrun2 hended2 ⟨_, _, rfl, ?_, ⟨_, rfl⟩, hW2, hsame2.mono (by decide) (by decide)⟩
  show Q1_3 Z w_PCPS h0 n0 _ T1.heap _
  rw [e1]
  exact ⟨rfl, N0, rfl⟩
theorem own_d1_35 : decode method_3_code 35 = .ok (.iload_n 0, 1) := by decide +kernel
theorem own_d1_36 : decode method_3_code 36 = .ok (.iconst 4, 1) := by decide +kernel
theorem own_d1_37 : decode method_3_code 37 = .ok (.if_icmp .ne 7, 3) := by decide +kernel
theorem own_d1_40 : decode method_3_code 40 = .ok (.getstatic 42, 3) := by decide +kernel
theorem own_d1_43 : decode method_3_code 43 = .ok (.areturn, 1) := by decide +kernel
theorem own_ef_1_4 (m : MethodId) (x0 : Int32) : entryFrame m #[(.int x0)] 1 = mkF m 0 #[.val (.int x0)] [] := by first | (simp [entryFrame, mkF, argsToLocals, Value.category]; done) | rfl
def Q1_4 (Z : State) (w_RNCPS : Addr) (h0 : Heap) (n0 : Nat) (v : Option Value) (h : Heap) (L : List Loc) : Prop := v = some (.ref w_RNCPS) ∧ Fr n0 L ∧ h = h0
set_option maxRecDepth 65536 in
set_option maxHeartbeats 40000000 in
theorem rm1_4 (l : Launch) (Z : State) (a0 : Array Value) (hw : ∀ d ∈ tables_1, d.before a0 Z = true) (ws : List Jvm.Cond) (w_RNCPS : Addr) (h0 : Heap) (n0 : Nat) (Z0 : n0 ≤ h0.size) (S_w_RNCPS : Sta Z h0 "com/example/poonji/poonji/RcbInstrumentType" "RNCPS" "Lcom/example/poonji/poonji/RcbInstrumentType;" (.ref w_RNCPS)) :
    MetFree l (⟨"com/example/poonji/poonji/RcbInstrumentTypeHeldInTier1ByPinLaw", "pick", "(I)Lcom/example/poonji/poonji/RcbInstrumentType;"⟩ : MethodName) (head1 (Jvm.Cond.code (⟨"com/example/poonji/poonji/RcbInstrumentTypeHeldInTier1ByPinLaw", "pick", "(I)Lcom/example/poonji/poonji/RcbInstrumentType;"⟩ : MethodName) method_3_code 1 (some (.object "com/example/poonji/poonji/RcbInstrumentType")) :: ws) ({ frames := 0, cells := 0, slots := 0, locals := 0 } : Room)) (fun a U => a = #[(.int (4 : Int32))] ∧ Z.Warmed39 U.vm ∧ U.heap = h0) (fun _ _ _ _ _ => True) (fun _ U o U' => ∃ v L, o = .returned v ∧ Q1_4 Z w_RNCPS h0 n0 v U'.heap L ∧ FrameEnd U o U' L ({ frames := 0, cells := 0, slots := 0, locals := 0 } : Room).cells ({ frames := 0, cells := 0, slots := 0, locals := 0 } : Room).slots) := by
  refine MetFree.of_bodySF (plainFor_of_name own_pn0) hisR ?_
  intro p e s m args below meth c s₁ Bd hml0 hP hK
  obtain ⟨rfl, hZ, hh⟩ := hP
  have hx := Bd.exec
  have hby := Bd.bytes
  have hml : c.maxLocals = 1 := hml0
  have hown : s.vm.findClass "com/example/poonji/poonji/RcbInstrumentTypeHeldInTier1ByPinLaw" = some m.cls := findClass_of_methodNamed Bd.named
  have hnm := (name_of_methodNamed Bd.named Bd.method).1
  have X0 : Stand p l e ({ frames := 0, cells := 0, slots := 0, locals := 0 } : Room) s m #[(.int (4 : Int32))] below meth c s₁ [] 0 0 := Stand.of_body Bd
  have e0 : s₁.heap = h0 := by rw [← hh, Bd.state]; rfl
  have N0 := Fr.nil n0
  show Good p e below (fun o U' => ∃ v L, o = .returned v ∧ Q1_4 Z w_RNCPS h0 n0 v U'.heap L ∧ FrameEnd s o U' L ({ frames := 0, cells := 0, slots := 0, locals := 0 } : Room).cells ({ frames := 0, cells := 0, slots := 0, locals := 0 } : Room).slots) _
  refine Good.back (S' := s₁.setTop (mkF m 0 #[.val (.int (4 : Int32))] [])) (fun t k => castTop (own_ef_1_4 m (4 : Int32)) k) ?_
  show Good p e below _ (s₁.setTop (mkF m 0 #[.val (.int (4 : Int32))] []))
  refine Good.back (fun _ k => XS.iloadN X0.here hx rfl (hb hby own_d1_0) rfl k) ?_
  show Good p e below _ (s₁.setTop (mkF m 1 #[.val (.int (4 : Int32))] [(.int (4 : Int32))]))
  refine Good.back (fun _ k => XS.ifYes X0.here hx rfl (pc0 := 1) (pc' := 8) rfl (hb hby own_d1_1) rfl ((if0 _ _).trans (feq (by decide : ¬ ((4 : Int32) = (0 : Int32)))).2) (by decide) (by decide) k) ?_
  show Good p e below _ (s₁.setTop (mkF m 8 #[.val (.int (4 : Int32))] []))
  refine Good.back (fun _ k => XS.iloadN X0.here hx rfl (hb hby own_d1_8) rfl k) ?_
  show Good p e below _ (s₁.setTop (mkF m 9 #[.val (.int (4 : Int32))] [(.int (4 : Int32))]))
  refine Good.back (fun _ k => XS.iconst X0.here hx rfl (hb hby own_d1_9) k) ?_
  show Good p e below _ (s₁.setTop (mkF m 10 #[.val (.int (4 : Int32))] [(.int (1 : Int32)), (.int (4 : Int32))]))
  refine Good.back (fun _ k => XS.icmpYes X0.here hx rfl (pc0 := 10) (pc' := 17) rfl (hb hby own_d1_10) rfl (feq (by decide : ¬ ((4 : Int32) = (1 : Int32)))).2 (by decide) (by decide) k) ?_
  show Good p e below _ (s₁.setTop (mkF m 17 #[.val (.int (4 : Int32))] []))
  refine Good.back (fun _ k => XS.iloadN X0.here hx rfl (hb hby own_d1_17) rfl k) ?_
  show Good p e below _ (s₁.setTop (mkF m 18 #[.val (.int (4 : Int32))] [(.int (4 : Int32))]))
  refine Good.back (fun _ k => XS.iconst X0.here hx rfl (hb hby own_d1_18) k) ?_
  show Good p e below _ (s₁.setTop (mkF m 19 #[.val (.int (4 : Int32))] [(.int (2 : Int32)), (.int (4 : Int32))]))
  refine Good.back (fun _ k => XS.icmpYes X0.here hx rfl (pc0 := 19) (pc' := 26) rfl (hb hby own_d1_19) rfl (feq (by decide : ¬ ((4 : Int32) = (2 : Int32)))).2 (by decide) (by decide) k) ?_
  show Good p e below _ (s₁.setTop (mkF m 26 #[.val (.int (4 : Int32))] []))
  refine Good.back (fun _ k => XS.iloadN X0.here hx rfl (hb hby own_d1_26) rfl k) ?_
  show Good p e below _ (s₁.setTop (mkF m 27 #[.val (.int (4 : Int32))] [(.int (4 : Int32))]))
  refine Good.back (fun _ k => XS.iconst X0.here hx rfl (hb hby own_d1_27) k) ?_
  show Good p e below _ (s₁.setTop (mkF m 28 #[.val (.int (4 : Int32))] [(.int (3 : Int32)), (.int (4 : Int32))]))
  refine Good.back (fun _ k => XS.icmpYes X0.here hx rfl (pc0 := 28) (pc' := 35) rfl (hb hby own_d1_28) rfl (feq (by decide : ¬ ((4 : Int32) = (3 : Int32)))).2 (by decide) (by decide) k) ?_
  show Good p e below _ (s₁.setTop (mkF m 35 #[.val (.int (4 : Int32))] []))
  refine Good.back (fun _ k => XS.iloadN X0.here hx rfl (hb hby own_d1_35) rfl k) ?_
  show Good p e below _ (s₁.setTop (mkF m 36 #[.val (.int (4 : Int32))] [(.int (4 : Int32))]))
  refine Good.back (fun _ k => XS.iconst X0.here hx rfl (hb hby own_d1_36) k) ?_
  show Good p e below _ (s₁.setTop (mkF m 37 #[.val (.int (4 : Int32))] [(.int (4 : Int32)), (.int (4 : Int32))]))
  refine Good.back (fun _ k => XS.icmpNo X0.here hx rfl (hb hby own_d1_37) rfl (teq (by decide : ((4 : Int32) = (4 : Int32)))).2 k) ?_
  show Good p e below _ (s₁.setTop (mkF m 40 #[.val (.int (4 : Int32))] []))
  obtain ⟨T1, X1, e1, st1⟩ := getS2 X0 hx hZ hown (host := "") (Or.inl (hw _ (List.mem_of_getElem? (i := 30) rfl))) Via.refl e0 S_w_RNCPS (g := (mkF m 40 #[.val (.int (4 : Int32))] [])) rfl (hb hby own_d1_40)
  refine Good.back st1 ?_
  show Good p e below _ (T1.setTop (mkF m 43 #[.val (.int (4 : Int32))] [(.ref w_RNCPS)]))
  obtain ⟨fs2, hr2, hrun2, hended2, hW2, hsame2⟩ := X1.leave (v := some (.ref w_RNCPS)) (fun h => by rw [Bd.returns] at h; cases h)
  refine Good.done (retOut X1 hx Bd.returns rfl (Or.inr (Or.inr (Or.inr (Or.inr ⟨rfl, rfl, rfl⟩)))) (hb hby own_d1_43) hr2) hrun2 hended2 ⟨_, _, rfl, ?_, ⟨_, rfl⟩, hW2, hsame2.mono (by decide) (by decide)⟩
  show Q1_4 Z w_RNCPS h0 n0 _ T1.heap _
  rw [e1]
  exact ⟨rfl, N0, rfl⟩
theorem own_d1_44 : decode method_3_code 44 = .ok (.iload_n 0, 1) := by decide +kernel
theorem own_d1_45 : decode method_3_code 45 = .ok (.iconst 5, 1) := by decide +kernel
theorem own_d1_46 : decode method_3_code 46 = .ok (.if_icmp .ne 7, 3) := by decide +kernel
theorem own_d1_49 : decode method_3_code 49 = .ok (.getstatic 45, 3) := by decide +kernel
theorem own_d1_52 : decode method_3_code 52 = .ok (.areturn, 1) := by decide +kernel
theorem own_ef_1_5 (m : MethodId) (x0 : Int32) : entryFrame m #[(.int x0)] 1 = mkF m 0 #[.val (.int x0)] [] := by first | (simp [entryFrame, mkF, argsToLocals, Value.category]; done) | rfl
def Q1_5 (Z : State) (w_RCPS : Addr) (h0 : Heap) (n0 : Nat) (v : Option Value) (h : Heap) (L : List Loc) : Prop := v = some (.ref w_RCPS) ∧ Fr n0 L ∧ h = h0
set_option maxRecDepth 65536 in
set_option maxHeartbeats 40000000 in
theorem rm1_5 (l : Launch) (Z : State) (a0 : Array Value) (hw : ∀ d ∈ tables_1, d.before a0 Z = true) (ws : List Jvm.Cond) (w_RCPS : Addr) (h0 : Heap) (n0 : Nat) (Z0 : n0 ≤ h0.size) (S_w_RCPS : Sta Z h0 "com/example/poonji/poonji/RcbInstrumentType" "RCPS" "Lcom/example/poonji/poonji/RcbInstrumentType;" (.ref w_RCPS)) :
    MetFree l (⟨"com/example/poonji/poonji/RcbInstrumentTypeHeldInTier1ByPinLaw", "pick", "(I)Lcom/example/poonji/poonji/RcbInstrumentType;"⟩ : MethodName) (head1 (Jvm.Cond.code (⟨"com/example/poonji/poonji/RcbInstrumentTypeHeldInTier1ByPinLaw", "pick", "(I)Lcom/example/poonji/poonji/RcbInstrumentType;"⟩ : MethodName) method_3_code 1 (some (.object "com/example/poonji/poonji/RcbInstrumentType")) :: ws) ({ frames := 0, cells := 0, slots := 0, locals := 0 } : Room)) (fun a U => a = #[(.int (5 : Int32))] ∧ Z.Warmed39 U.vm ∧ U.heap = h0) (fun _ _ _ _ _ => True) (fun _ U o U' => ∃ v L, o = .returned v ∧ Q1_5 Z w_RCPS h0 n0 v U'.heap L ∧ FrameEnd U o U' L ({ frames := 0, cells := 0, slots := 0, locals := 0 } : Room).cells ({ frames := 0, cells := 0, slots := 0, locals := 0 } : Room).slots) := by
  refine MetFree.of_bodySF (plainFor_of_name own_pn0) hisR ?_
  intro p e s m args below meth c s₁ Bd hml0 hP hK
  obtain ⟨rfl, hZ, hh⟩ := hP
  have hx := Bd.exec
  have hby := Bd.bytes
  have hml : c.maxLocals = 1 := hml0
  have hown : s.vm.findClass "com/example/poonji/poonji/RcbInstrumentTypeHeldInTier1ByPinLaw" = some m.cls := findClass_of_methodNamed Bd.named
  have hnm := (name_of_methodNamed Bd.named Bd.method).1
  have X0 : Stand p l e ({ frames := 0, cells := 0, slots := 0, locals := 0 } : Room) s m #[(.int (5 : Int32))] below meth c s₁ [] 0 0 := Stand.of_body Bd
  have e0 : s₁.heap = h0 := by rw [← hh, Bd.state]; rfl
  have N0 := Fr.nil n0
  show Good p e below (fun o U' => ∃ v L, o = .returned v ∧ Q1_5 Z w_RCPS h0 n0 v U'.heap L ∧ FrameEnd s o U' L ({ frames := 0, cells := 0, slots := 0, locals := 0 } : Room).cells ({ frames := 0, cells := 0, slots := 0, locals := 0 } : Room).slots) _
  refine Good.back (S' := s₁.setTop (mkF m 0 #[.val (.int (5 : Int32))] [])) (fun t k => castTop (own_ef_1_5 m (5 : Int32)) k) ?_
  show Good p e below _ (s₁.setTop (mkF m 0 #[.val (.int (5 : Int32))] []))
  refine Good.back (fun _ k => XS.iloadN X0.here hx rfl (hb hby own_d1_0) rfl k) ?_
  show Good p e below _ (s₁.setTop (mkF m 1 #[.val (.int (5 : Int32))] [(.int (5 : Int32))]))
  refine Good.back (fun _ k => XS.ifYes X0.here hx rfl (pc0 := 1) (pc' := 8) rfl (hb hby own_d1_1) rfl ((if0 _ _).trans (feq (by decide : ¬ ((5 : Int32) = (0 : Int32)))).2) (by decide) (by decide) k) ?_
  show Good p e below _ (s₁.setTop (mkF m 8 #[.val (.int (5 : Int32))] []))
  refine Good.back (fun _ k => XS.iloadN X0.here hx rfl (hb hby own_d1_8) rfl k) ?_
  show Good p e below _ (s₁.setTop (mkF m 9 #[.val (.int (5 : Int32))] [(.int (5 : Int32))]))
  refine Good.back (fun _ k => XS.iconst X0.here hx rfl (hb hby own_d1_9) k) ?_
  show Good p e below _ (s₁.setTop (mkF m 10 #[.val (.int (5 : Int32))] [(.int (1 : Int32)), (.int (5 : Int32))]))
  refine Good.back (fun _ k => XS.icmpYes X0.here hx rfl (pc0 := 10) (pc' := 17) rfl (hb hby own_d1_10) rfl (feq (by decide : ¬ ((5 : Int32) = (1 : Int32)))).2 (by decide) (by decide) k) ?_
  show Good p e below _ (s₁.setTop (mkF m 17 #[.val (.int (5 : Int32))] []))
  refine Good.back (fun _ k => XS.iloadN X0.here hx rfl (hb hby own_d1_17) rfl k) ?_
  show Good p e below _ (s₁.setTop (mkF m 18 #[.val (.int (5 : Int32))] [(.int (5 : Int32))]))
  refine Good.back (fun _ k => XS.iconst X0.here hx rfl (hb hby own_d1_18) k) ?_
  show Good p e below _ (s₁.setTop (mkF m 19 #[.val (.int (5 : Int32))] [(.int (2 : Int32)), (.int (5 : Int32))]))
  refine Good.back (fun _ k => XS.icmpYes X0.here hx rfl (pc0 := 19) (pc' := 26) rfl (hb hby own_d1_19) rfl (feq (by decide : ¬ ((5 : Int32) = (2 : Int32)))).2 (by decide) (by decide) k) ?_
  show Good p e below _ (s₁.setTop (mkF m 26 #[.val (.int (5 : Int32))] []))
  refine Good.back (fun _ k => XS.iloadN X0.here hx rfl (hb hby own_d1_26) rfl k) ?_
  show Good p e below _ (s₁.setTop (mkF m 27 #[.val (.int (5 : Int32))] [(.int (5 : Int32))]))
  refine Good.back (fun _ k => XS.iconst X0.here hx rfl (hb hby own_d1_27) k) ?_
  show Good p e below _ (s₁.setTop (mkF m 28 #[.val (.int (5 : Int32))] [(.int (3 : Int32)), (.int (5 : Int32))]))
  refine Good.back (fun _ k => XS.icmpYes X0.here hx rfl (pc0 := 28) (pc' := 35) rfl (hb hby own_d1_28) rfl (feq (by decide : ¬ ((5 : Int32) = (3 : Int32)))).2 (by decide) (by decide) k) ?_
  show Good p e below _ (s₁.setTop (mkF m 35 #[.val (.int (5 : Int32))] []))
  refine Good.back (fun _ k => XS.iloadN X0.here hx rfl (hb hby own_d1_35) rfl k) ?_
  show Good p e below _ (s₁.setTop (mkF m 36 #[.val (.int (5 : Int32))] [(.int (5 : Int32))]))
  refine Good.back (fun _ k => XS.iconst X0.here hx rfl (hb hby own_d1_36) k) ?_
  show Good p e below _ (s₁.setTop (mkF m 37 #[.val (.int (5 : Int32))] [(.int (4 : Int32)), (.int (5 : Int32))]))
  refine Good.back (fun _ k => XS.icmpYes X0.here hx rfl (pc0 := 37) (pc' := 44) rfl (hb hby own_d1_37) rfl (feq (by decide : ¬ ((5 : Int32) = (4 : Int32)))).2 (by decide) (by decide) k) ?_
  show Good p e below _ (s₁.setTop (mkF m 44 #[.val (.int (5 : Int32))] []))
  refine Good.back (fun _ k => XS.iloadN X0.here hx rfl (hb hby own_d1_44) rfl k) ?_
  show Good p e below _ (s₁.setTop (mkF m 45 #[.val (.int (5 : Int32))] [(.int (5 : Int32))]))
  refine Good.back (fun _ k => XS.iconst X0.here hx rfl (hb hby own_d1_45) k) ?_
  show Good p e below _ (s₁.setTop (mkF m 46 #[.val (.int (5 : Int32))] [(.int (5 : Int32)), (.int (5 : Int32))]))
  refine Good.back (fun _ k => XS.icmpNo X0.here hx rfl (hb hby own_d1_46) rfl (teq (by decide : ((5 : Int32) = (5 : Int32)))).2 k) ?_
  show Good p e below _ (s₁.setTop (mkF m 49 #[.val (.int (5 : Int32))] []))
  obtain ⟨T1, X1, e1, st1⟩ := getS2 X0 hx hZ hown (host := "") (Or.inl (hw _ (List.mem_of_getElem? (i := 32) rfl))) Via.refl e0 S_w_RCPS (g := (mkF m 49 #[.val (.int (5 : Int32))] [])) rfl (hb hby own_d1_49)
  refine Good.back st1 ?_
  show Good p e below _ (T1.setTop (mkF m 52 #[.val (.int (5 : Int32))] [(.ref w_RCPS)]))
  obtain ⟨fs2, hr2, hrun2, hended2, hW2, hsame2⟩ := X1.leave (v := some (.ref w_RCPS)) (fun h => by rw [Bd.returns] at h; cases h)
  refine Good.done (retOut X1 hx Bd.returns rfl (Or.inr (Or.inr (Or.inr (Or.inr ⟨rfl, rfl, rfl⟩)))) (hb hby own_d1_52) hr2) hrun2 hended2 ⟨_, _, rfl, ?_, ⟨_, rfl⟩, hW2, hsame2.mono (by decide) (by decide)⟩
  show Q1_5 Z w_RCPS h0 n0 _ T1.heap _
  rw [e1]
  exact ⟨rfl, N0, rfl⟩
theorem own_d1_53 : decode method_3_code 53 = .ok (.iload_n 0, 1) := by decide +kernel
theorem own_d1_54 : decode method_3_code 54 = .ok (.bipush 6, 2) := by decide +kernel
theorem own_d1_56 : decode method_3_code 56 = .ok (.if_icmp .ne 7, 3) := by decide +kernel
theorem own_d1_59 : decode method_3_code 59 = .ok (.getstatic 48, 3) := by decide +kernel
theorem own_d1_62 : decode method_3_code 62 = .ok (.areturn, 1) := by decide +kernel
theorem own_ef_1_6 (m : MethodId) (x0 : Int32) : entryFrame m #[(.int x0)] 1 = mkF m 0 #[.val (.int x0)] [] := by first | (simp [entryFrame, mkF, argsToLocals, Value.category]; done) | rfl
def Q1_6 (Z : State) (w_LTSB : Addr) (h0 : Heap) (n0 : Nat) (v : Option Value) (h : Heap) (L : List Loc) : Prop := v = some (.ref w_LTSB) ∧ Fr n0 L ∧ h = h0
set_option maxRecDepth 65536 in
set_option maxHeartbeats 40000000 in
theorem rm1_6 (l : Launch) (Z : State) (a0 : Array Value) (hw : ∀ d ∈ tables_1, d.before a0 Z = true) (ws : List Jvm.Cond) (w_LTSB : Addr) (h0 : Heap) (n0 : Nat) (Z0 : n0 ≤ h0.size) (S_w_LTSB : Sta Z h0 "com/example/poonji/poonji/RcbInstrumentType" "LTSB" "Lcom/example/poonji/poonji/RcbInstrumentType;" (.ref w_LTSB)) :
    MetFree l (⟨"com/example/poonji/poonji/RcbInstrumentTypeHeldInTier1ByPinLaw", "pick", "(I)Lcom/example/poonji/poonji/RcbInstrumentType;"⟩ : MethodName) (head1 (Jvm.Cond.code (⟨"com/example/poonji/poonji/RcbInstrumentTypeHeldInTier1ByPinLaw", "pick", "(I)Lcom/example/poonji/poonji/RcbInstrumentType;"⟩ : MethodName) method_3_code 1 (some (.object "com/example/poonji/poonji/RcbInstrumentType")) :: ws) ({ frames := 0, cells := 0, slots := 0, locals := 0 } : Room)) (fun a U => a = #[(.int (6 : Int32))] ∧ Z.Warmed39 U.vm ∧ U.heap = h0) (fun _ _ _ _ _ => True) (fun _ U o U' => ∃ v L, o = .returned v ∧ Q1_6 Z w_LTSB h0 n0 v U'.heap L ∧ FrameEnd U o U' L ({ frames := 0, cells := 0, slots := 0, locals := 0 } : Room).cells ({ frames := 0, cells := 0, slots := 0, locals := 0 } : Room).slots) := by
  refine MetFree.of_bodySF (plainFor_of_name own_pn0) hisR ?_
  intro p e s m args below meth c s₁ Bd hml0 hP hK
  obtain ⟨rfl, hZ, hh⟩ := hP
  have hx := Bd.exec
  have hby := Bd.bytes
  have hml : c.maxLocals = 1 := hml0
  have hown : s.vm.findClass "com/example/poonji/poonji/RcbInstrumentTypeHeldInTier1ByPinLaw" = some m.cls := findClass_of_methodNamed Bd.named
  have hnm := (name_of_methodNamed Bd.named Bd.method).1
  have X0 : Stand p l e ({ frames := 0, cells := 0, slots := 0, locals := 0 } : Room) s m #[(.int (6 : Int32))] below meth c s₁ [] 0 0 := Stand.of_body Bd
  have e0 : s₁.heap = h0 := by rw [← hh, Bd.state]; rfl
  have N0 := Fr.nil n0
  show Good p e below (fun o U' => ∃ v L, o = .returned v ∧ Q1_6 Z w_LTSB h0 n0 v U'.heap L ∧ FrameEnd s o U' L ({ frames := 0, cells := 0, slots := 0, locals := 0 } : Room).cells ({ frames := 0, cells := 0, slots := 0, locals := 0 } : Room).slots) _
  refine Good.back (S' := s₁.setTop (mkF m 0 #[.val (.int (6 : Int32))] [])) (fun t k => castTop (own_ef_1_6 m (6 : Int32)) k) ?_
  show Good p e below _ (s₁.setTop (mkF m 0 #[.val (.int (6 : Int32))] []))
  refine Good.back (fun _ k => XS.iloadN X0.here hx rfl (hb hby own_d1_0) rfl k) ?_
  show Good p e below _ (s₁.setTop (mkF m 1 #[.val (.int (6 : Int32))] [(.int (6 : Int32))]))
  refine Good.back (fun _ k => XS.ifYes X0.here hx rfl (pc0 := 1) (pc' := 8) rfl (hb hby own_d1_1) rfl ((if0 _ _).trans (feq (by decide : ¬ ((6 : Int32) = (0 : Int32)))).2) (by decide) (by decide) k) ?_
  show Good p e below _ (s₁.setTop (mkF m 8 #[.val (.int (6 : Int32))] []))
  refine Good.back (fun _ k => XS.iloadN X0.here hx rfl (hb hby own_d1_8) rfl k) ?_
  show Good p e below _ (s₁.setTop (mkF m 9 #[.val (.int (6 : Int32))] [(.int (6 : Int32))]))
  refine Good.back (fun _ k => XS.iconst X0.here hx rfl (hb hby own_d1_9) k) ?_
  show Good p e below _ (s₁.setTop (mkF m 10 #[.val (.int (6 : Int32))] [(.int (1 : Int32)), (.int (6 : Int32))]))
  refine Good.back (fun _ k => XS.icmpYes X0.here hx rfl (pc0 := 10) (pc' := 17) rfl (hb hby own_d1_10) rfl (feq (by decide : ¬ ((6 : Int32) = (1 : Int32)))).2 (by decide) (by decide) k) ?_
  show Good p e below _ (s₁.setTop (mkF m 17 #[.val (.int (6 : Int32))] []))
  refine Good.back (fun _ k => XS.iloadN X0.here hx rfl (hb hby own_d1_17) rfl k) ?_
  show Good p e below _ (s₁.setTop (mkF m 18 #[.val (.int (6 : Int32))] [(.int (6 : Int32))]))
  refine Good.back (fun _ k => XS.iconst X0.here hx rfl (hb hby own_d1_18) k) ?_
  show Good p e below _ (s₁.setTop (mkF m 19 #[.val (.int (6 : Int32))] [(.int (2 : Int32)), (.int (6 : Int32))]))
  refine Good.back (fun _ k => XS.icmpYes X0.here hx rfl (pc0 := 19) (pc' := 26) rfl (hb hby own_d1_19) rfl (feq (by decide : ¬ ((6 : Int32) = (2 : Int32)))).2 (by decide) (by decide) k) ?_
  show Good p e below _ (s₁.setTop (mkF m 26 #[.val (.int (6 : Int32))] []))
  refine Good.back (fun _ k => XS.iloadN X0.here hx rfl (hb hby own_d1_26) rfl k) ?_
  show Good p e below _ (s₁.setTop (mkF m 27 #[.val (.int (6 : Int32))] [(.int (6 : Int32))]))
  refine Good.back (fun _ k => XS.iconst X0.here hx rfl (hb hby own_d1_27) k) ?_
  show Good p e below _ (s₁.setTop (mkF m 28 #[.val (.int (6 : Int32))] [(.int (3 : Int32)), (.int (6 : Int32))]))
  refine Good.back (fun _ k => XS.icmpYes X0.here hx rfl (pc0 := 28) (pc' := 35) rfl (hb hby own_d1_28) rfl (feq (by decide : ¬ ((6 : Int32) = (3 : Int32)))).2 (by decide) (by decide) k) ?_
  show Good p e below _ (s₁.setTop (mkF m 35 #[.val (.int (6 : Int32))] []))
  refine Good.back (fun _ k => XS.iloadN X0.here hx rfl (hb hby own_d1_35) rfl k) ?_
  show Good p e below _ (s₁.setTop (mkF m 36 #[.val (.int (6 : Int32))] [(.int (6 : Int32))]))
  refine Good.back (fun _ k => XS.iconst X0.here hx rfl (hb hby own_d1_36) k) ?_
  show Good p e below _ (s₁.setTop (mkF m 37 #[.val (.int (6 : Int32))] [(.int (4 : Int32)), (.int (6 : Int32))]))
  refine Good.back (fun _ k => XS.icmpYes X0.here hx rfl (pc0 := 37) (pc' := 44) rfl (hb hby own_d1_37) rfl (feq (by decide : ¬ ((6 : Int32) = (4 : Int32)))).2 (by decide) (by decide) k) ?_
  show Good p e below _ (s₁.setTop (mkF m 44 #[.val (.int (6 : Int32))] []))
  refine Good.back (fun _ k => XS.iloadN X0.here hx rfl (hb hby own_d1_44) rfl k) ?_
  show Good p e below _ (s₁.setTop (mkF m 45 #[.val (.int (6 : Int32))] [(.int (6 : Int32))]))
  refine Good.back (fun _ k => XS.iconst X0.here hx rfl (hb hby own_d1_45) k) ?_
  show Good p e below _ (s₁.setTop (mkF m 46 #[.val (.int (6 : Int32))] [(.int (5 : Int32)), (.int (6 : Int32))]))
  refine Good.back (fun _ k => XS.icmpYes X0.here hx rfl (pc0 := 46) (pc' := 53) rfl (hb hby own_d1_46) rfl (feq (by decide : ¬ ((6 : Int32) = (5 : Int32)))).2 (by decide) (by decide) k) ?_
  show Good p e below _ (s₁.setTop (mkF m 53 #[.val (.int (6 : Int32))] []))
  refine Good.back (fun _ k => XS.iloadN X0.here hx rfl (hb hby own_d1_53) rfl k) ?_
  show Good p e below _ (s₁.setTop (mkF m 54 #[.val (.int (6 : Int32))] [(.int (6 : Int32))]))
  refine Good.back (fun _ k => XS.bipush X0.here hx rfl (hb hby own_d1_54) k) ?_
  show Good p e below _ (s₁.setTop (mkF m 56 #[.val (.int (6 : Int32))] [(.int (6 : Int32)), (.int (6 : Int32))]))
  refine Good.back (fun _ k => XS.icmpNo X0.here hx rfl (hb hby own_d1_56) rfl (teq (by decide : ((6 : Int32) = (6 : Int32)))).2 k) ?_
  show Good p e below _ (s₁.setTop (mkF m 59 #[.val (.int (6 : Int32))] []))
  obtain ⟨T1, X1, e1, st1⟩ := getS2 X0 hx hZ hown (host := "") (Or.inl (hw _ (List.mem_of_getElem? (i := 22) rfl))) Via.refl e0 S_w_LTSB (g := (mkF m 59 #[.val (.int (6 : Int32))] [])) rfl (hb hby own_d1_59)
  refine Good.back st1 ?_
  show Good p e below _ (T1.setTop (mkF m 62 #[.val (.int (6 : Int32))] [(.ref w_LTSB)]))
  obtain ⟨fs2, hr2, hrun2, hended2, hW2, hsame2⟩ := X1.leave (v := some (.ref w_LTSB)) (fun h => by rw [Bd.returns] at h; cases h)
  refine Good.done (retOut X1 hx Bd.returns rfl (Or.inr (Or.inr (Or.inr (Or.inr ⟨rfl, rfl, rfl⟩)))) (hb hby own_d1_62) hr2) hrun2 hended2 ⟨_, _, rfl, ?_, ⟨_, rfl⟩, hW2, hsame2.mono (by decide) (by decide)⟩
  show Q1_6 Z w_LTSB h0 n0 _ T1.heap _
  rw [e1]
  exact ⟨rfl, N0, rfl⟩
theorem own_d1_63 : decode method_3_code 63 = .ok (.getstatic 51, 3) := by decide +kernel
theorem own_d1_66 : decode method_3_code 66 = .ok (.areturn, 1) := by decide +kernel
theorem own_ef_1_7 (m : MethodId) (x0 : Int32) : entryFrame m #[(.int x0)] 1 = mkF m 0 #[.val (.int x0)] [] := by first | (simp [entryFrame, mkF, argsToLocals, Value.category]; done) | rfl
def Q1_7 (Z : State) (w_LTD : Addr) (h0 : Heap) (n0 : Nat) (v : Option Value) (h : Heap) (L : List Loc) : Prop := v = some (.ref w_LTD) ∧ Fr n0 L ∧ h = h0
set_option maxRecDepth 65536 in
set_option maxHeartbeats 40000000 in
theorem rm1_7 (l : Launch) (Z : State) (a0 : Array Value) (hw : ∀ d ∈ tables_1, d.before a0 Z = true) (ws : List Jvm.Cond) (w_LTD : Addr) (h0 : Heap) (n0 : Nat) (Z0 : n0 ≤ h0.size) (S_w_LTD : Sta Z h0 "com/example/poonji/poonji/RcbInstrumentType" "LTD" "Lcom/example/poonji/poonji/RcbInstrumentType;" (.ref w_LTD)) :
    MetFree l (⟨"com/example/poonji/poonji/RcbInstrumentTypeHeldInTier1ByPinLaw", "pick", "(I)Lcom/example/poonji/poonji/RcbInstrumentType;"⟩ : MethodName) (head1 (Jvm.Cond.code (⟨"com/example/poonji/poonji/RcbInstrumentTypeHeldInTier1ByPinLaw", "pick", "(I)Lcom/example/poonji/poonji/RcbInstrumentType;"⟩ : MethodName) method_3_code 1 (some (.object "com/example/poonji/poonji/RcbInstrumentType")) :: ws) ({ frames := 0, cells := 0, slots := 0, locals := 0 } : Room)) (fun a U => a = #[(.int (7 : Int32))] ∧ Z.Warmed39 U.vm ∧ U.heap = h0) (fun _ _ _ _ _ => True) (fun _ U o U' => ∃ v L, o = .returned v ∧ Q1_7 Z w_LTD h0 n0 v U'.heap L ∧ FrameEnd U o U' L ({ frames := 0, cells := 0, slots := 0, locals := 0 } : Room).cells ({ frames := 0, cells := 0, slots := 0, locals := 0 } : Room).slots) := by
  refine MetFree.of_bodySF (plainFor_of_name own_pn0) hisR ?_
  intro p e s m args below meth c s₁ Bd hml0 hP hK
  obtain ⟨rfl, hZ, hh⟩ := hP
  have hx := Bd.exec
  have hby := Bd.bytes
  have hml : c.maxLocals = 1 := hml0
  have hown : s.vm.findClass "com/example/poonji/poonji/RcbInstrumentTypeHeldInTier1ByPinLaw" = some m.cls := findClass_of_methodNamed Bd.named
  have hnm := (name_of_methodNamed Bd.named Bd.method).1
  have X0 : Stand p l e ({ frames := 0, cells := 0, slots := 0, locals := 0 } : Room) s m #[(.int (7 : Int32))] below meth c s₁ [] 0 0 := Stand.of_body Bd
  have e0 : s₁.heap = h0 := by rw [← hh, Bd.state]; rfl
  have N0 := Fr.nil n0
  show Good p e below (fun o U' => ∃ v L, o = .returned v ∧ Q1_7 Z w_LTD h0 n0 v U'.heap L ∧ FrameEnd s o U' L ({ frames := 0, cells := 0, slots := 0, locals := 0 } : Room).cells ({ frames := 0, cells := 0, slots := 0, locals := 0 } : Room).slots) _
  refine Good.back (S' := s₁.setTop (mkF m 0 #[.val (.int (7 : Int32))] [])) (fun t k => castTop (own_ef_1_7 m (7 : Int32)) k) ?_
  show Good p e below _ (s₁.setTop (mkF m 0 #[.val (.int (7 : Int32))] []))
  refine Good.back (fun _ k => XS.iloadN X0.here hx rfl (hb hby own_d1_0) rfl k) ?_
  show Good p e below _ (s₁.setTop (mkF m 1 #[.val (.int (7 : Int32))] [(.int (7 : Int32))]))
  refine Good.back (fun _ k => XS.ifYes X0.here hx rfl (pc0 := 1) (pc' := 8) rfl (hb hby own_d1_1) rfl ((if0 _ _).trans (feq (by decide : ¬ ((7 : Int32) = (0 : Int32)))).2) (by decide) (by decide) k) ?_
  show Good p e below _ (s₁.setTop (mkF m 8 #[.val (.int (7 : Int32))] []))
  refine Good.back (fun _ k => XS.iloadN X0.here hx rfl (hb hby own_d1_8) rfl k) ?_
  show Good p e below _ (s₁.setTop (mkF m 9 #[.val (.int (7 : Int32))] [(.int (7 : Int32))]))
  refine Good.back (fun _ k => XS.iconst X0.here hx rfl (hb hby own_d1_9) k) ?_
  show Good p e below _ (s₁.setTop (mkF m 10 #[.val (.int (7 : Int32))] [(.int (1 : Int32)), (.int (7 : Int32))]))
  refine Good.back (fun _ k => XS.icmpYes X0.here hx rfl (pc0 := 10) (pc' := 17) rfl (hb hby own_d1_10) rfl (feq (by decide : ¬ ((7 : Int32) = (1 : Int32)))).2 (by decide) (by decide) k) ?_
  show Good p e below _ (s₁.setTop (mkF m 17 #[.val (.int (7 : Int32))] []))
  refine Good.back (fun _ k => XS.iloadN X0.here hx rfl (hb hby own_d1_17) rfl k) ?_
  show Good p e below _ (s₁.setTop (mkF m 18 #[.val (.int (7 : Int32))] [(.int (7 : Int32))]))
  refine Good.back (fun _ k => XS.iconst X0.here hx rfl (hb hby own_d1_18) k) ?_
  show Good p e below _ (s₁.setTop (mkF m 19 #[.val (.int (7 : Int32))] [(.int (2 : Int32)), (.int (7 : Int32))]))
  refine Good.back (fun _ k => XS.icmpYes X0.here hx rfl (pc0 := 19) (pc' := 26) rfl (hb hby own_d1_19) rfl (feq (by decide : ¬ ((7 : Int32) = (2 : Int32)))).2 (by decide) (by decide) k) ?_
  show Good p e below _ (s₁.setTop (mkF m 26 #[.val (.int (7 : Int32))] []))
  refine Good.back (fun _ k => XS.iloadN X0.here hx rfl (hb hby own_d1_26) rfl k) ?_
  show Good p e below _ (s₁.setTop (mkF m 27 #[.val (.int (7 : Int32))] [(.int (7 : Int32))]))
  refine Good.back (fun _ k => XS.iconst X0.here hx rfl (hb hby own_d1_27) k) ?_
  show Good p e below _ (s₁.setTop (mkF m 28 #[.val (.int (7 : Int32))] [(.int (3 : Int32)), (.int (7 : Int32))]))
  refine Good.back (fun _ k => XS.icmpYes X0.here hx rfl (pc0 := 28) (pc' := 35) rfl (hb hby own_d1_28) rfl (feq (by decide : ¬ ((7 : Int32) = (3 : Int32)))).2 (by decide) (by decide) k) ?_
  show Good p e below _ (s₁.setTop (mkF m 35 #[.val (.int (7 : Int32))] []))
  refine Good.back (fun _ k => XS.iloadN X0.here hx rfl (hb hby own_d1_35) rfl k) ?_
  show Good p e below _ (s₁.setTop (mkF m 36 #[.val (.int (7 : Int32))] [(.int (7 : Int32))]))
  refine Good.back (fun _ k => XS.iconst X0.here hx rfl (hb hby own_d1_36) k) ?_
  show Good p e below _ (s₁.setTop (mkF m 37 #[.val (.int (7 : Int32))] [(.int (4 : Int32)), (.int (7 : Int32))]))
  refine Good.back (fun _ k => XS.icmpYes X0.here hx rfl (pc0 := 37) (pc' := 44) rfl (hb hby own_d1_37) rfl (feq (by decide : ¬ ((7 : Int32) = (4 : Int32)))).2 (by decide) (by decide) k) ?_
  show Good p e below _ (s₁.setTop (mkF m 44 #[.val (.int (7 : Int32))] []))
  refine Good.back (fun _ k => XS.iloadN X0.here hx rfl (hb hby own_d1_44) rfl k) ?_
  show Good p e below _ (s₁.setTop (mkF m 45 #[.val (.int (7 : Int32))] [(.int (7 : Int32))]))
  refine Good.back (fun _ k => XS.iconst X0.here hx rfl (hb hby own_d1_45) k) ?_
  show Good p e below _ (s₁.setTop (mkF m 46 #[.val (.int (7 : Int32))] [(.int (5 : Int32)), (.int (7 : Int32))]))
  refine Good.back (fun _ k => XS.icmpYes X0.here hx rfl (pc0 := 46) (pc' := 53) rfl (hb hby own_d1_46) rfl (feq (by decide : ¬ ((7 : Int32) = (5 : Int32)))).2 (by decide) (by decide) k) ?_
  show Good p e below _ (s₁.setTop (mkF m 53 #[.val (.int (7 : Int32))] []))
  refine Good.back (fun _ k => XS.iloadN X0.here hx rfl (hb hby own_d1_53) rfl k) ?_
  show Good p e below _ (s₁.setTop (mkF m 54 #[.val (.int (7 : Int32))] [(.int (7 : Int32))]))
  refine Good.back (fun _ k => XS.bipush X0.here hx rfl (hb hby own_d1_54) k) ?_
  show Good p e below _ (s₁.setTop (mkF m 56 #[.val (.int (7 : Int32))] [(.int (6 : Int32)), (.int (7 : Int32))]))
  refine Good.back (fun _ k => XS.icmpYes X0.here hx rfl (pc0 := 56) (pc' := 63) rfl (hb hby own_d1_56) rfl (feq (by decide : ¬ ((7 : Int32) = (6 : Int32)))).2 (by decide) (by decide) k) ?_
  show Good p e below _ (s₁.setTop (mkF m 63 #[.val (.int (7 : Int32))] []))
  obtain ⟨T1, X1, e1, st1⟩ := getS2 X0 hx hZ hown (host := "") (Or.inl (hw _ (List.mem_of_getElem? (i := 24) rfl))) Via.refl e0 S_w_LTD (g := (mkF m 63 #[.val (.int (7 : Int32))] [])) rfl (hb hby own_d1_63)
  refine Good.back st1 ?_
  show Good p e below _ (T1.setTop (mkF m 66 #[.val (.int (7 : Int32))] [(.ref w_LTD)]))
  obtain ⟨fs2, hr2, hrun2, hended2, hW2, hsame2⟩ := X1.leave (v := some (.ref w_LTD)) (fun h => by rw [Bd.returns] at h; cases h)
  refine Good.done (retOut X1 hx Bd.returns rfl (Or.inr (Or.inr (Or.inr (Or.inr ⟨rfl, rfl, rfl⟩)))) (hb hby own_d1_66) hr2) hrun2 hended2 ⟨_, _, rfl, ?_, ⟨_, rfl⟩, hW2, hsame2.mono (by decide) (by decide)⟩
  show Q1_7 Z w_LTD h0 n0 _ T1.heap _
  rw [e1]
  exact ⟨rfl, N0, rfl⟩
theorem own_pn1 : plainName "com/example/poonji/poonji/RcbInstrumentType" = true := by first | (simp [plainName, overriddenIn]; done) | decide +kernel
theorem own_d2_0 : decode prog_52_method_12_code 0 = .ok (.aload_n 0, 1) := by decide +kernel
theorem own_d2_1 : decode prog_52_method_12_code 1 = .ok (.getfield 96, 3) := by decide +kernel
theorem own_d2_4 : decode prog_52_method_12_code 4 = .ok (.aload_n 1, 1) := by decide +kernel
theorem own_d2_5 : decode prog_52_method_12_code 5 = .ok (.if_acmp .ne 7, 3) := by decide +kernel
theorem own_d2_8 : decode prog_52_method_12_code 8 = .ok (.iconst 1, 1) := by decide +kernel
theorem own_d2_9 : decode prog_52_method_12_code 9 = .ok (.goto 4, 3) := by decide +kernel
theorem own_d2_13 : decode prog_52_method_12_code 13 = .ok (.ireturn, 1) := by decide +kernel
theorem own_ef_2y (m : MethodId) (x0 : Addr) (x1 : Addr) : entryFrame m #[(.ref x0), (.ref x1)] 2 = mkF m 0 #[.val (.ref x0), .val (.ref x1)] [] := by first | (simp [entryFrame, mkF, argsToLocals, Value.category]; done) | rfl
def Q2y (Z : State) (r0 : Addr) (r1 : Addr) (h0 : Heap) (n0 : Nat) (v : Option Value) (h : Heap) (L : List Loc) : Prop := v = some (.int 1) ∧ Fr n0 L ∧ h = h0
set_option maxRecDepth 65536 in
set_option maxHeartbeats 40000000 in
theorem rm2y (l : Launch) (Z : State) (a0 : Array Value) (hw : ∀ d ∈ tables_1, d.before a0 Z = true) (ws : List Jvm.Cond) (r0 : Addr) (r1 : Addr) (h0 : Heap) (n0 : Nat) (Z0 : n0 ≤ h0.size) (F0 : Fld Z h0 r0 "com/example/poonji/poonji/RcbInstrumentType" "tier1Cap" "Lcom/example/poonji/poonji/RcbInstrumentType$Tier1Cap;" (.ref r1)) :
    MetFree l (⟨"com/example/poonji/poonji/RcbInstrumentType", "heldInTier1By", "(Lcom/example/poonji/poonji/RcbInstrumentType$Tier1Cap;)Z"⟩ : MethodName) (head1 (Jvm.Cond.code (⟨"com/example/poonji/poonji/RcbInstrumentType", "heldInTier1By", "(Lcom/example/poonji/poonji/RcbInstrumentType$Tier1Cap;)Z"⟩ : MethodName) prog_52_method_12_code 2 (some .boolean) :: ws) ({ frames := 0, cells := 0, slots := 0, locals := 0 } : Room)) (fun a U => a = #[(.ref r0), (.ref r1)] ∧ Z.Warmed39 U.vm ∧ U.heap = h0) (fun _ _ _ _ _ => True) (fun _ U o U' => ∃ v L, o = .returned v ∧ Q2y Z r0 r1 h0 n0 v U'.heap L ∧ FrameEnd U o U' L ({ frames := 0, cells := 0, slots := 0, locals := 0 } : Room).cells ({ frames := 0, cells := 0, slots := 0, locals := 0 } : Room).slots) := by
  refine MetFree.of_bodySF (plainFor_of_name own_pn1) hisR ?_
  intro p e s m args below meth c s₁ Bd hml0 hP hK
  obtain ⟨rfl, hZ, hh⟩ := hP
  have hx := Bd.exec
  have hby := Bd.bytes
  have hml : c.maxLocals = 2 := hml0
  have hown : s.vm.findClass "com/example/poonji/poonji/RcbInstrumentType" = some m.cls := findClass_of_methodNamed Bd.named
  have hnm := (name_of_methodNamed Bd.named Bd.method).1
  have X0 : Stand p l e ({ frames := 0, cells := 0, slots := 0, locals := 0 } : Room) s m #[(.ref r0), (.ref r1)] below meth c s₁ [] 0 0 := Stand.of_body Bd
  have e0 : s₁.heap = h0 := by rw [← hh, Bd.state]; rfl
  have N0 := Fr.nil n0
  show Good p e below (fun o U' => ∃ v L, o = .returned v ∧ Q2y Z r0 r1 h0 n0 v U'.heap L ∧ FrameEnd s o U' L ({ frames := 0, cells := 0, slots := 0, locals := 0 } : Room).cells ({ frames := 0, cells := 0, slots := 0, locals := 0 } : Room).slots) _
  refine Good.back (S' := s₁.setTop (mkF m 0 #[.val (.ref r0), .val (.ref r1)] [])) (fun t k => castTop (own_ef_2y m r0 r1) k) ?_
  show Good p e below _ (s₁.setTop (mkF m 0 #[.val (.ref r0), .val (.ref r1)] []))
  refine Good.back (fun _ k => XS.aloadN X0.here hx rfl (hb hby own_d2_0) rfl rfl k) ?_
  show Good p e below _ (s₁.setTop (mkF m 1 #[.val (.ref r0), .val (.ref r1)] [(.ref r0)]))
  obtain ⟨T1, X1, e1, st1⟩ := getF X0 hx hZ hown (host := "") (Or.inl (hw _ (List.mem_of_getElem? (i := 16) rfl))) Via.refl e0 F0 (g := (mkF m 1 #[.val (.ref r0), .val (.ref r1)] [(.ref r0)])) rfl rfl (hb hby own_d2_1)
  refine Good.back st1 ?_
  show Good p e below _ (T1.setTop (mkF m 4 #[.val (.ref r0), .val (.ref r1)] [(.ref r1)]))
  refine Good.back (fun _ k => XS.aloadN X1.here hx rfl (hb hby own_d2_4) rfl rfl k) ?_
  show Good p e below _ (T1.setTop (mkF m 5 #[.val (.ref r0), .val (.ref r1)] [(.ref r1), (.ref r1)]))
  refine Good.back (fun _ k => Jvm.RoadKit.acmp (g := (mkF m 5 #[.val (.ref r0), .val (.ref r1)] [(.ref r1), (.ref r1)])) X1 hx rfl rfl rfl (pc0 := 5) (pc' := 8) (same := true) rfl (hb hby own_d2_5) rfl (decide_eq_true rfl) (by decide) (by decide) k) ?_
  show Good p e below _ (T1.setTop (mkF m 8 #[.val (.ref r0), .val (.ref r1)] []))
  refine Good.back (fun _ k => XS.iconst X1.here hx rfl (hb hby own_d2_8) k) ?_
  show Good p e below _ (T1.setTop (mkF m 9 #[.val (.ref r0), .val (.ref r1)] [(.int (1 : Int32))]))
  refine Good.back (fun _ k => XS.goto X1.here hx rfl (pc0 := 9) (pc' := 13) rfl (hb hby own_d2_9) (by decide) (by decide) k) ?_
  show Good p e below _ (T1.setTop (mkF m 13 #[.val (.ref r0), .val (.ref r1)] [(.int (1 : Int32))]))
  obtain ⟨fs2, hr2, hrun2, hended2, hW2, hsame2⟩ := X1.leave (v := some (.int (1 : Int32))) (fun h => by rw [Bd.returns] at h; cases h)
  refine Good.done (retN X1 hx (t := .boolean) Bd.returns (by simp) (hb hby own_d2_13) hr2) hrun2 hended2 ⟨_, _, rfl, ?_, ⟨_, rfl⟩, hW2, hsame2.mono (by decide) (by decide)⟩
  show Q2y Z r0 r1 h0 n0 _ T1.heap _
  rw [e1]
  exact ⟨rfl, N0, rfl⟩
theorem own_d2_12 : decode prog_52_method_12_code 12 = .ok (.iconst 0, 1) := by decide +kernel
theorem own_ef_2n (m : MethodId) (x0 : Addr) (x1 : Addr) : entryFrame m #[(.ref x0), (.ref x1)] 2 = mkF m 0 #[.val (.ref x0), .val (.ref x1)] [] := by first | (simp [entryFrame, mkF, argsToLocals, Value.category]; done) | rfl
def Q2n (Z : State) (r0 : Addr) (r1 : Addr) (u : Addr) (h0 : Heap) (n0 : Nat) (v : Option Value) (h : Heap) (L : List Loc) : Prop := v = some (.int 0) ∧ Fr n0 L ∧ h = h0
set_option maxRecDepth 65536 in
set_option maxHeartbeats 40000000 in
theorem rm2n (l : Launch) (Z : State) (a0 : Array Value) (hw : ∀ d ∈ tables_1, d.before a0 Z = true) (ws : List Jvm.Cond) (r0 : Addr) (r1 : Addr) (u : Addr) (h0 : Heap) (n0 : Nat) (Z0 : n0 ≤ h0.size) (F0 : Fld Z h0 r0 "com/example/poonji/poonji/RcbInstrumentType" "tier1Cap" "Lcom/example/poonji/poonji/RcbInstrumentType$Tier1Cap;" (.ref u)) (hne : u ≠ r1) :
    MetFree l (⟨"com/example/poonji/poonji/RcbInstrumentType", "heldInTier1By", "(Lcom/example/poonji/poonji/RcbInstrumentType$Tier1Cap;)Z"⟩ : MethodName) (head1 (Jvm.Cond.code (⟨"com/example/poonji/poonji/RcbInstrumentType", "heldInTier1By", "(Lcom/example/poonji/poonji/RcbInstrumentType$Tier1Cap;)Z"⟩ : MethodName) prog_52_method_12_code 2 (some .boolean) :: ws) ({ frames := 0, cells := 0, slots := 0, locals := 0 } : Room)) (fun a U => a = #[(.ref r0), (.ref r1)] ∧ Z.Warmed39 U.vm ∧ U.heap = h0) (fun _ _ _ _ _ => True) (fun _ U o U' => ∃ v L, o = .returned v ∧ Q2n Z r0 r1 u h0 n0 v U'.heap L ∧ FrameEnd U o U' L ({ frames := 0, cells := 0, slots := 0, locals := 0 } : Room).cells ({ frames := 0, cells := 0, slots := 0, locals := 0 } : Room).slots) := by
  refine MetFree.of_bodySF (plainFor_of_name own_pn1) hisR ?_
  intro p e s m args below meth c s₁ Bd hml0 hP hK
  obtain ⟨rfl, hZ, hh⟩ := hP
  have hx := Bd.exec
  have hby := Bd.bytes
  have hml : c.maxLocals = 2 := hml0
  have hown : s.vm.findClass "com/example/poonji/poonji/RcbInstrumentType" = some m.cls := findClass_of_methodNamed Bd.named
  have hnm := (name_of_methodNamed Bd.named Bd.method).1
  have X0 : Stand p l e ({ frames := 0, cells := 0, slots := 0, locals := 0 } : Room) s m #[(.ref r0), (.ref r1)] below meth c s₁ [] 0 0 := Stand.of_body Bd
  have e0 : s₁.heap = h0 := by rw [← hh, Bd.state]; rfl
  have N0 := Fr.nil n0
  show Good p e below (fun o U' => ∃ v L, o = .returned v ∧ Q2n Z r0 r1 u h0 n0 v U'.heap L ∧ FrameEnd s o U' L ({ frames := 0, cells := 0, slots := 0, locals := 0 } : Room).cells ({ frames := 0, cells := 0, slots := 0, locals := 0 } : Room).slots) _
  refine Good.back (S' := s₁.setTop (mkF m 0 #[.val (.ref r0), .val (.ref r1)] [])) (fun t k => castTop (own_ef_2n m r0 r1) k) ?_
  show Good p e below _ (s₁.setTop (mkF m 0 #[.val (.ref r0), .val (.ref r1)] []))
  refine Good.back (fun _ k => XS.aloadN X0.here hx rfl (hb hby own_d2_0) rfl rfl k) ?_
  show Good p e below _ (s₁.setTop (mkF m 1 #[.val (.ref r0), .val (.ref r1)] [(.ref r0)]))
  obtain ⟨T1, X1, e1, st1⟩ := getF X0 hx hZ hown (host := "") (Or.inl (hw _ (List.mem_of_getElem? (i := 16) rfl))) Via.refl e0 F0 (g := (mkF m 1 #[.val (.ref r0), .val (.ref r1)] [(.ref r0)])) rfl rfl (hb hby own_d2_1)
  refine Good.back st1 ?_
  show Good p e below _ (T1.setTop (mkF m 4 #[.val (.ref r0), .val (.ref r1)] [(.ref u)]))
  refine Good.back (fun _ k => XS.aloadN X1.here hx rfl (hb hby own_d2_4) rfl rfl k) ?_
  show Good p e below _ (T1.setTop (mkF m 5 #[.val (.ref r0), .val (.ref r1)] [(.ref r1), (.ref u)]))
  refine Good.back (fun _ k => Jvm.RoadKit.acmp (g := (mkF m 5 #[.val (.ref r0), .val (.ref r1)] [(.ref r1), (.ref u)])) X1 hx rfl rfl rfl (pc0 := 5) (pc' := 12) (same := false) rfl (hb hby own_d2_5) rfl (decide_eq_false fun q => hne (Value.ref.inj q)) (by decide) (by decide) k) ?_
  show Good p e below _ (T1.setTop (mkF m 12 #[.val (.ref r0), .val (.ref r1)] []))
  refine Good.back (fun _ k => XS.iconst X1.here hx rfl (hb hby own_d2_12) k) ?_
  show Good p e below _ (T1.setTop (mkF m 13 #[.val (.ref r0), .val (.ref r1)] [(.int (0 : Int32))]))
  obtain ⟨fs2, hr2, hrun2, hended2, hW2, hsame2⟩ := X1.leave (v := some (.int (0 : Int32))) (fun h => by rw [Bd.returns] at h; cases h)
  refine Good.done (retN X1 hx (t := .boolean) Bd.returns (by simp) (hb hby own_d2_13) hr2) hrun2 hended2 ⟨_, _, rfl, ?_, ⟨_, rfl⟩, hW2, hsame2.mono (by decide) (by decide)⟩
  show Q2n Z r0 r1 u h0 n0 _ T1.heap _
  rw [e1]
  exact ⟨rfl, N0, rfl⟩
theorem own_ef_2z (m : MethodId) (x0 : Addr) (x1 : Addr) : entryFrame m #[(.ref x0), (.ref x1)] 2 = mkF m 0 #[.val (.ref x0), .val (.ref x1)] [] := by first | (simp [entryFrame, mkF, argsToLocals, Value.category]; done) | rfl
def Q2z (Z : State) (r0 : Addr) (r1 : Addr) (h0 : Heap) (n0 : Nat) (v : Option Value) (h : Heap) (L : List Loc) : Prop := v = some (.int 0) ∧ Fr n0 L ∧ h = h0
set_option maxRecDepth 65536 in
set_option maxHeartbeats 40000000 in
theorem rm2z (l : Launch) (Z : State) (a0 : Array Value) (hw : ∀ d ∈ tables_1, d.before a0 Z = true) (ws : List Jvm.Cond) (r0 : Addr) (r1 : Addr) (h0 : Heap) (n0 : Nat) (Z0 : n0 ≤ h0.size) (F0 : Fld Z h0 r0 "com/example/poonji/poonji/RcbInstrumentType" "tier1Cap" "Lcom/example/poonji/poonji/RcbInstrumentType$Tier1Cap;" .null) :
    MetFree l (⟨"com/example/poonji/poonji/RcbInstrumentType", "heldInTier1By", "(Lcom/example/poonji/poonji/RcbInstrumentType$Tier1Cap;)Z"⟩ : MethodName) (head1 (Jvm.Cond.code (⟨"com/example/poonji/poonji/RcbInstrumentType", "heldInTier1By", "(Lcom/example/poonji/poonji/RcbInstrumentType$Tier1Cap;)Z"⟩ : MethodName) prog_52_method_12_code 2 (some .boolean) :: ws) ({ frames := 0, cells := 0, slots := 0, locals := 0 } : Room)) (fun a U => a = #[(.ref r0), (.ref r1)] ∧ Z.Warmed39 U.vm ∧ U.heap = h0) (fun _ _ _ _ _ => True) (fun _ U o U' => ∃ v L, o = .returned v ∧ Q2z Z r0 r1 h0 n0 v U'.heap L ∧ FrameEnd U o U' L ({ frames := 0, cells := 0, slots := 0, locals := 0 } : Room).cells ({ frames := 0, cells := 0, slots := 0, locals := 0 } : Room).slots) := by
  refine MetFree.of_bodySF (plainFor_of_name own_pn1) hisR ?_
  intro p e s m args below meth c s₁ Bd hml0 hP hK
  obtain ⟨rfl, hZ, hh⟩ := hP
  have hx := Bd.exec
  have hby := Bd.bytes
  have hml : c.maxLocals = 2 := hml0
  have hown : s.vm.findClass "com/example/poonji/poonji/RcbInstrumentType" = some m.cls := findClass_of_methodNamed Bd.named
  have hnm := (name_of_methodNamed Bd.named Bd.method).1
  have X0 : Stand p l e ({ frames := 0, cells := 0, slots := 0, locals := 0 } : Room) s m #[(.ref r0), (.ref r1)] below meth c s₁ [] 0 0 := Stand.of_body Bd
  have e0 : s₁.heap = h0 := by rw [← hh, Bd.state]; rfl
  have N0 := Fr.nil n0
  show Good p e below (fun o U' => ∃ v L, o = .returned v ∧ Q2z Z r0 r1 h0 n0 v U'.heap L ∧ FrameEnd s o U' L ({ frames := 0, cells := 0, slots := 0, locals := 0 } : Room).cells ({ frames := 0, cells := 0, slots := 0, locals := 0 } : Room).slots) _
  refine Good.back (S' := s₁.setTop (mkF m 0 #[.val (.ref r0), .val (.ref r1)] [])) (fun t k => castTop (own_ef_2z m r0 r1) k) ?_
  show Good p e below _ (s₁.setTop (mkF m 0 #[.val (.ref r0), .val (.ref r1)] []))
  refine Good.back (fun _ k => XS.aloadN X0.here hx rfl (hb hby own_d2_0) rfl rfl k) ?_
  show Good p e below _ (s₁.setTop (mkF m 1 #[.val (.ref r0), .val (.ref r1)] [(.ref r0)]))
  obtain ⟨T1, X1, e1, st1⟩ := getF X0 hx hZ hown (host := "") (Or.inl (hw _ (List.mem_of_getElem? (i := 16) rfl))) Via.refl e0 F0 (g := (mkF m 1 #[.val (.ref r0), .val (.ref r1)] [(.ref r0)])) rfl rfl (hb hby own_d2_1)
  refine Good.back st1 ?_
  show Good p e below _ (T1.setTop (mkF m 4 #[.val (.ref r0), .val (.ref r1)] [.null]))
  refine Good.back (fun _ k => XS.aloadN X1.here hx rfl (hb hby own_d2_4) rfl rfl k) ?_
  show Good p e below _ (T1.setTop (mkF m 5 #[.val (.ref r0), .val (.ref r1)] [(.ref r1), .null]))
  refine Good.back (fun _ k => Jvm.RoadKit.acmp (g := (mkF m 5 #[.val (.ref r0), .val (.ref r1)] [(.ref r1), .null])) X1 hx rfl rfl rfl (pc0 := 5) (pc' := 12) (same := false) rfl (hb hby own_d2_5) rfl (decide_eq_false nofun) (by decide) (by decide) k) ?_
  show Good p e below _ (T1.setTop (mkF m 12 #[.val (.ref r0), .val (.ref r1)] []))
  refine Good.back (fun _ k => XS.iconst X1.here hx rfl (hb hby own_d2_12) k) ?_
  show Good p e below _ (T1.setTop (mkF m 13 #[.val (.ref r0), .val (.ref r1)] [(.int (0 : Int32))]))
  obtain ⟨fs2, hr2, hrun2, hended2, hW2, hsame2⟩ := X1.leave (v := some (.int (0 : Int32))) (fun h => by rw [Bd.returns] at h; cases h)
  refine Good.done (retN X1 hx (t := .boolean) Bd.returns (by simp) (hb hby own_d2_13) hr2) hrun2 hended2 ⟨_, _, rfl, ?_, ⟨_, rfl⟩, hW2, hsame2.mono (by decide) (by decide)⟩
  show Q2z Z r0 r1 h0 n0 _ T1.heap _
  rw [e1]
  exact ⟨rfl, N0, rfl⟩
theorem own_pd44 : parseMethodDescriptor "(I)Lcom/example/poonji/poonji/RcbInstrumentType;" = some ⟨[.int], some (.object "com/example/poonji/poonji/RcbInstrumentType")⟩ := by decide +kernel
theorem own_pd45 : parseMethodDescriptor "(Lcom/example/poonji/poonji/RcbInstrumentType$Tier1Cap;)Z" = some ⟨[(.object "com/example/poonji/poonji/RcbInstrumentType$Tier1Cap")], some .boolean⟩ := by decide +kernel
theorem own_ef_0 (m : MethodId) (x0 : Int32) : entryFrame m #[(.int x0)] maxLocals = mkF m 0 #[.val (.int x0), .unset, .unset, .unset, .unset, .unset, .unset] [] := by first | (simp [entryFrame, mkF, argsToLocals, Value.category, maxLocals]; done) | rfl
def Q0 (Z : State) (p0 : Int32) (w_PNCPS : Addr) (w_PERPETUAL_DEBT : Addr) (w_TIER1_INSTRUMENTS : Addr) (w_PCPS : Addr) (w_LTSB : Addr) (w_LTD : Addr) (w_IPDI : Addr) (w_PDI : Addr) (w_RNCPS : Addr) (w_RCPS : Addr) (h0 : Heap) (n0 : Nat) (v : Option Value) (h : Heap) (L : List Loc) : Prop := v = some (.int 1) ∧ Fr n0 L
set_option maxRecDepth 65536 in
set_option maxHeartbeats 40000000 in
theorem rm0 (l : Launch) (Z : State) (a0 : Array Value) (hw : ∀ d ∈ tables_1, d.before a0 Z = true) (ws : List Jvm.Cond) (p0 : Int32) (w_PNCPS : Addr) (w_PERPETUAL_DEBT : Addr) (w_TIER1_INSTRUMENTS : Addr) (w_PCPS : Addr) (w_LTSB : Addr) (w_LTD : Addr) (w_IPDI : Addr) (w_PDI : Addr) (w_RNCPS : Addr) (w_RCPS : Addr) (h0 : Heap) (n0 : Nat) (Z0 : n0 ≤ h0.size) (S_w_PNCPS : Sta Z h0 "com/example/poonji/poonji/RcbInstrumentType" "PNCPS" "Lcom/example/poonji/poonji/RcbInstrumentType;" (.ref w_PNCPS)) (E_w_PNCPS : Exa Z h0 w_PNCPS "com/example/poonji/poonji/RcbInstrumentType") (S_w_PERPETUAL_DEBT : Sta Z h0 "com/example/poonji/poonji/RcbInstrumentType$Tier1Cap" "PERPETUAL_DEBT" "Lcom/example/poonji/poonji/RcbInstrumentType$Tier1Cap;" (.ref w_PERPETUAL_DEBT)) (E_w_PERPETUAL_DEBT : Exa Z h0 w_PERPETUAL_DEBT "com/example/poonji/poonji/RcbInstrumentType$Tier1Cap") (S_w_TIER1_INSTRUMENTS : Sta Z h0 "com/example/poonji/poonji/RcbInstrumentType$Tier1Cap" "TIER1_INSTRUMENTS" "Lcom/example/poonji/poonji/RcbInstrumentType$Tier1Cap;" (.ref w_TIER1_INSTRUMENTS)) (E_w_TIER1_INSTRUMENTS : Exa Z h0 w_TIER1_INSTRUMENTS "com/example/poonji/poonji/RcbInstrumentType$Tier1Cap") (S_w_PCPS : Sta Z h0 "com/example/poonji/poonji/RcbInstrumentType" "PCPS" "Lcom/example/poonji/poonji/RcbInstrumentType;" (.ref w_PCPS)) (E_w_PCPS : Exa Z h0 w_PCPS "com/example/poonji/poonji/RcbInstrumentType") (S_w_LTSB : Sta Z h0 "com/example/poonji/poonji/RcbInstrumentType" "LTSB" "Lcom/example/poonji/poonji/RcbInstrumentType;" (.ref w_LTSB)) (E_w_LTSB : Exa Z h0 w_LTSB "com/example/poonji/poonji/RcbInstrumentType") (S_w_LTD : Sta Z h0 "com/example/poonji/poonji/RcbInstrumentType" "LTD" "Lcom/example/poonji/poonji/RcbInstrumentType;" (.ref w_LTD)) (E_w_LTD : Exa Z h0 w_LTD "com/example/poonji/poonji/RcbInstrumentType") (S_w_IPDI : Sta Z h0 "com/example/poonji/poonji/RcbInstrumentType" "IPDI" "Lcom/example/poonji/poonji/RcbInstrumentType;" (.ref w_IPDI)) (E_w_IPDI : Exa Z h0 w_IPDI "com/example/poonji/poonji/RcbInstrumentType") (S_w_PDI : Sta Z h0 "com/example/poonji/poonji/RcbInstrumentType" "PDI" "Lcom/example/poonji/poonji/RcbInstrumentType;" (.ref w_PDI)) (E_w_PDI : Exa Z h0 w_PDI "com/example/poonji/poonji/RcbInstrumentType") (S_w_RNCPS : Sta Z h0 "com/example/poonji/poonji/RcbInstrumentType" "RNCPS" "Lcom/example/poonji/poonji/RcbInstrumentType;" (.ref w_RNCPS)) (E_w_RNCPS : Exa Z h0 w_RNCPS "com/example/poonji/poonji/RcbInstrumentType") (S_w_RCPS : Sta Z h0 "com/example/poonji/poonji/RcbInstrumentType" "RCPS" "Lcom/example/poonji/poonji/RcbInstrumentType;" (.ref w_RCPS)) (E_w_RCPS : Exa Z h0 w_RCPS "com/example/poonji/poonji/RcbInstrumentType") (F_tier1Cap_w_PNCPS : Fld Z h0 w_PNCPS "com/example/poonji/poonji/RcbInstrumentType" "tier1Cap" "Lcom/example/poonji/poonji/RcbInstrumentType$Tier1Cap;" (.ref w_TIER1_INSTRUMENTS)) (F_ordinal_w_TIER1_INSTRUMENTS : Fld Z h0 w_TIER1_INSTRUMENTS "java/lang/Enum" "ordinal" "I" (.int (1 : Int32))) (F_ordinal_w_PERPETUAL_DEBT : Fld Z h0 w_PERPETUAL_DEBT "java/lang/Enum" "ordinal" "I" (.int (0 : Int32))) (F_tier1Cap_w_PCPS : Fld Z h0 w_PCPS "com/example/poonji/poonji/RcbInstrumentType" "tier1Cap" "Lcom/example/poonji/poonji/RcbInstrumentType$Tier1Cap;" .null) (F_tier1Cap_w_LTSB : Fld Z h0 w_LTSB "com/example/poonji/poonji/RcbInstrumentType" "tier1Cap" "Lcom/example/poonji/poonji/RcbInstrumentType$Tier1Cap;" .null) (F_tier1Cap_w_LTD : Fld Z h0 w_LTD "com/example/poonji/poonji/RcbInstrumentType" "tier1Cap" "Lcom/example/poonji/poonji/RcbInstrumentType$Tier1Cap;" .null) (F_tier1Cap_w_IPDI : Fld Z h0 w_IPDI "com/example/poonji/poonji/RcbInstrumentType" "tier1Cap" "Lcom/example/poonji/poonji/RcbInstrumentType$Tier1Cap;" (.ref w_PERPETUAL_DEBT)) (F_tier1Cap_w_PDI : Fld Z h0 w_PDI "com/example/poonji/poonji/RcbInstrumentType" "tier1Cap" "Lcom/example/poonji/poonji/RcbInstrumentType$Tier1Cap;" (.ref w_PERPETUAL_DEBT)) (F_tier1Cap_w_RNCPS : Fld Z h0 w_RNCPS "com/example/poonji/poonji/RcbInstrumentType" "tier1Cap" "Lcom/example/poonji/poonji/RcbInstrumentType$Tier1Cap;" .null) (F_tier1Cap_w_RCPS : Fld Z h0 w_RCPS "com/example/poonji/poonji/RcbInstrumentType" "tier1Cap" "Lcom/example/poonji/poonji/RcbInstrumentType$Tier1Cap;" .null) (ne_w_TIER1_INSTRUMENTS_w_PERPETUAL_DEBT : w_TIER1_INSTRUMENTS ≠ w_PERPETUAL_DEBT) :
    MetFree l x (head1 (Jvm.Cond.code x code maxLocals ret :: ws) room_1) (fun a U => a = #[(.int p0)] ∧ Z.Warmed39 U.vm ∧ U.heap = h0) (fun _ _ _ _ _ => True) (fun _ U o U' => ∃ v L, o = .returned v ∧ Q0 Z p0 w_PNCPS w_PERPETUAL_DEBT w_TIER1_INSTRUMENTS w_PCPS w_LTSB w_LTD w_IPDI w_PDI w_RNCPS w_RCPS h0 n0 v U'.heap L ∧ FrameEnd U o U' L 0 0) := by
  refine MetFree.of_bodySF (plainFor_of_name own_pn0) hisR ?_
  intro p e s m args below meth c s₁ Bd hml0 hP hK
  obtain ⟨rfl, hZ, hh⟩ := hP
  have hx := Bd.exec
  have hby := Bd.bytes
  have hml : c.maxLocals = 7 := hml0
  have hown : s.vm.findClass "com/example/poonji/poonji/RcbInstrumentTypeHeldInTier1ByPinLaw" = some m.cls := findClass_of_methodNamed Bd.named
  have hnm := (name_of_methodNamed Bd.named Bd.method).1
  have X0 : Stand p l e room_1 s m #[(.int p0)] below meth c s₁ [] 0 0 := Stand.of_body Bd
  have e0 : s₁.heap = h0 := by rw [← hh, Bd.state]; rfl
  have N0 := Fr.nil n0
  show Good p e below (fun o U' => ∃ v L, o = .returned v ∧ Q0 Z p0 w_PNCPS w_PERPETUAL_DEBT w_TIER1_INSTRUMENTS w_PCPS w_LTSB w_LTD w_IPDI w_PDI w_RNCPS w_RCPS h0 n0 v U'.heap L ∧ FrameEnd s o U' L 0 0) _
  refine Good.back (S' := s₁.setTop (mkF m 0 #[.val (.int p0), .unset, .unset, .unset, .unset, .unset, .unset] [])) (fun t k => castTop (own_ef_0 m p0) k) ?_
  show Good p e below _ (s₁.setTop (mkF m 0 #[.val (.int p0), .unset, .unset, .unset, .unset, .unset, .unset] []))
  refine Good.back (fun _ k => XS.iloadN X0.here hx rfl (hb hby at_0) rfl k) ?_
  show Good p e below _ (s₁.setTop (mkF m 1 #[.val (.int p0), .unset, .unset, .unset, .unset, .unset, .unset] [(.int p0)]))
  refine Good.back (X0.ldcInt hx hown (mvT hZ (hw _ (List.mem_of_getElem? (i := 0) rfl))) (g := (mkF m 1 #[.val (.int p0), .unset, .unset, .unset, .unset, .unset, .unset] [(.int p0)])) rfl (hb hby at_1)) ?_
  show Good p e below _ (s₁.setTop (mkF m 3 #[.val (.int p0), .unset, .unset, .unset, .unset, .unset, .unset] [(.int (2147483647 : Int32)), (.int p0)]))
  refine Good.back (fun _ k => XS.iand X0.here hx rfl (hb hby at_3) rfl k) ?_
  show Good p e below _ (s₁.setTop (mkF m 4 #[.val (.int p0), .unset, .unset, .unset, .unset, .unset, .unset] [(.int (p0 &&& (2147483647 : Int32)))]))
  refine Good.back (fun _ k => XS.bipush X0.here hx rfl (hb hby at_4) k) ?_
  show Good p e below _ (s₁.setTop (mkF m 6 #[.val (.int p0), .unset, .unset, .unset, .unset, .unset, .unset] [(.int (8 : Int32)), (.int (p0 &&& (2147483647 : Int32)))]))
  refine Good.back (fun _ k => iremM (g := (mkF m 6 #[.val (.int p0), .unset, .unset, .unset, .unset, .unset, .unset] [(.int (8 : Int32)), (.int (p0 &&& (2147483647 : Int32)))])) X0 hx rfl (hb hby at_6) rfl (by decide) k) ?_
  show Good p e below _ (s₁.setTop (mkF m 7 #[.val (.int p0), .unset, .unset, .unset, .unset, .unset, .unset] [(.int ((p0 &&& (2147483647 : Int32)) % (8 : Int32)))]))
  refine Good.back (fun _ k => XS.istoreN X0.here hx rfl (hb hby at_7) rfl (l' := #[.val (.int p0), .val (.int ((p0 &&& (2147483647 : Int32)) % (8 : Int32))), .unset, .unset, .unset, .unset, .unset]) rfl k) ?_
  show Good p e below _ (s₁.setTop (mkF m 8 #[.val (.int p0), .val (.int ((p0 &&& (2147483647 : Int32)) % (8 : Int32))), .unset, .unset, .unset, .unset, .unset] []))
  obtain ⟨k1, hk1, he1⟩ := own_modm (x := p0) (y := 8) (d := 8) (n := 8) (by decide) (by decide) (by decide)
  rcases (by omega : k1 = 0 ∨ k1 = 1 ∨ k1 = 2 ∨ k1 = 3 ∨ k1 = 4 ∨ k1 = 5 ∨ k1 = 6 ∨ k1 = 7) with rfl | rfl | rfl | rfl | rfl | rfl | rfl | rfl
  · have he1' : ((p0 &&& (2147483647 : Int32)) % (8 : Int32)) = (0 : Int32) := he1
    rw [he1']
    show Good p e below _ (s₁.setTop (mkF m 8 #[.val (.int p0), .val (.int (0 : Int32)), .unset, .unset, .unset, .unset, .unset] []))
    refine Good.back (fun _ k => XS.iloadN X0.here hx rfl (hb hby at_8) rfl k) ?_
    show Good p e below _ (s₁.setTop (mkF m 9 #[.val (.int p0), .val (.int (0 : Int32)), .unset, .unset, .unset, .unset, .unset] [(.int (0 : Int32))]))
    obtain ⟨_, _, ⟨T2, L2, k2, n2⟩, -, X2, ⟨Lc2, hQ2, l2, y2, z2⟩, st2⟩ := Jvm.LawKit.callS X0 hx (y := (⟨"com/example/poonji/poonji/RcbInstrumentTypeHeldInTier1ByPinLaw", "pick", "(I)Lcom/example/poonji/poonji/RcbInstrumentType;"⟩ : MethodName)) hown (mvT hZ (hw _ (List.mem_of_getElem? (i := 1) rfl))) (mvT hZ (hw _ (List.mem_of_getElem? (i := 2) rfl))) (mvT hZ (hw _ (List.mem_of_getElem? (i := 3) rfl))) (mvT hZ (hw _ (List.mem_of_getElem? (i := 4) rfl))) (by decide) (backOf (W := 0) (rm1_0 l Z a0 hw []  w_PNCPS h0 n0 Z0 S_w_PNCPS) hZ (hw _ (List.mem_of_getElem? (i := 4) rfl)) (hw _ (List.mem_of_getElem? (i := 3) rfl)) (by decide) (by decide)) (g := (mkF m 9 #[.val (.int p0), .val (.int (0 : Int32)), .unset, .unset, .unset, .unset, .unset] [(.int (0 : Int32))])) rfl (by rw [hml]; rfl) (argsL := [(.int (0 : Int32))]) (rest := []) (lenOf own_pd44 rfl) rfl (by show 2 * 0 + _ ≤ _; exact Nat.le_of_eq rfl) (hb hby at_9) (fun _ _ => ⟨rfl, e0, (by decide : 0 + 0 ≤ _), (by decide : 0 + 0 ≤ _)⟩)
    dsimp only [Pt.U, Pt.locs, Pt.cells, Pt.slots] at X2 l2 y2 z2 st2 hQ2
    subst l2 y2 z2
    obtain ⟨rfl, N2q, eh2⟩ := hQ2
    have N2 := Fr.app N0 N2q
    refine Good.back st2 ?_
    show Good p e below _ (T2.setTop (mkF m 12 #[.val (.int p0), .val (.int (0 : Int32)), .unset, .unset, .unset, .unset, .unset] [(.ref w_PNCPS)]))
    refine Good.back (fun _ k => XS.astoreN X2.here hx rfl (hb hby at_12) rfl rfl (l' := #[.val (.int p0), .val (.int (0 : Int32)), .val (.ref w_PNCPS), .unset, .unset, .unset, .unset]) rfl k) ?_
    show Good p e below _ (T2.setTop (mkF m 13 #[.val (.int p0), .val (.int (0 : Int32)), .val (.ref w_PNCPS), .unset, .unset, .unset, .unset] []))
    refine Good.back (fun _ k => XS.aloadN X2.here hx rfl (hb hby at_13) rfl rfl k) ?_
    show Good p e below _ (T2.setTop (mkF m 14 #[.val (.int p0), .val (.int (0 : Int32)), .val (.ref w_PNCPS), .unset, .unset, .unset, .unset] [(.ref w_PNCPS)]))
    obtain ⟨T3, X3, e3, st3⟩ := getS2 X2 hx hZ hown (host := "") (Or.inl (hw _ (List.mem_of_getElem? (i := 8) rfl))) Via.refl eh2 S_w_PERPETUAL_DEBT (g := (mkF m 14 #[.val (.int p0), .val (.int (0 : Int32)), .val (.ref w_PNCPS), .unset, .unset, .unset, .unset] [(.ref w_PNCPS)])) rfl (hb hby at_14)
    refine Good.back st3 ?_
    show Good p e below _ (T3.setTop (mkF m 17 #[.val (.int p0), .val (.int (0 : Int32)), .val (.ref w_PNCPS), .unset, .unset, .unset, .unset] [(.ref w_PERPETUAL_DEBT), (.ref w_PNCPS)]))
    obtain ⟨cq4, kq4, q4a, q4b, q4c⟩ := isOf hZ e3 E_w_PNCPS
    obtain ⟨_, _, ⟨T4, L4, k4, n4⟩, -, X4, ⟨Lc4, hQ4, l4, y4, z4⟩, st4⟩ := X3.virtualBack hx (y := (⟨"com/example/poonji/poonji/RcbInstrumentType", "heldInTier1By", "(Lcom/example/poonji/poonji/RcbInstrumentType$Tier1Cap;)Z"⟩ : MethodName)) (z := (⟨"com/example/poonji/poonji/RcbInstrumentType", "heldInTier1By", "(Lcom/example/poonji/poonji/RcbInstrumentType$Tier1Cap;)Z"⟩ : MethodName)) hown (mvT hZ (hw _ (List.mem_of_getElem? (i := 11) rfl))) (mvT hZ (hw _ (List.mem_of_getElem? (i := 12) rfl))) (notFace_of_selects (args := #[]) (mvT hZ (hw _ (List.mem_of_getElem? (i := 14) rfl)))) (mvT hZ (hw _ (List.mem_of_getElem? (i := 14) rfl))) (mvT hZ (hw _ (List.mem_of_getElem? (i := 13) rfl))) (by decide) (backOf (W := 0) (rm2n l Z a0 hw [] w_PNCPS w_PERPETUAL_DEBT w_TIER1_INSTRUMENTS h0 n0 Z0 F_tier1Cap_w_PNCPS ne_w_TIER1_INSTRUMENTS_w_PERPETUAL_DEBT) hZ (hw _ (List.mem_of_getElem? (i := 15) rfl)) (hw _ (List.mem_of_getElem? (i := 6) rfl)) (by decide) (by decide)) q4a q4c (g := (mkF m 17 #[.val (.int p0), .val (.int (0 : Int32)), .val (.ref w_PNCPS), .unset, .unset, .unset, .unset] [(.ref w_PERPETUAL_DEBT), (.ref w_PNCPS)])) rfl (by rw [hml]; rfl) (Steps.refl _) (argsL := [(.ref w_PERPETUAL_DEBT)]) (rest := []) (lenOf own_pd45 rfl) rfl (by show 2 * 0 + _ ≤ _; exact Nat.le_of_eq rfl) (hb hby at_17) (fun _ _ => ⟨rfl, e3, (by decide : 0 + 0 ≤ _), (by decide : 0 + 0 ≤ _)⟩)
    dsimp only [Pt.U, Pt.locs, Pt.cells, Pt.slots] at X4 l4 y4 z4 st4 hQ4
    subst l4 y4 z4
    obtain ⟨rfl, N4q, eh4⟩ := hQ4
    have N4 := Fr.app N2 N4q
    refine Good.back (fun _ k => st4.trans k) ?_
    show Good p e below _ (T4.setTop (mkF m 20 #[.val (.int p0), .val (.int (0 : Int32)), .val (.ref w_PNCPS), .unset, .unset, .unset, .unset] [(.int (0 : Int32))]))
    refine Good.back (fun _ k => XS.istoreN X4.here hx rfl (hb hby at_20) rfl (l' := #[.val (.int p0), .val (.int (0 : Int32)), .val (.ref w_PNCPS), .val (.int (0 : Int32)), .unset, .unset, .unset]) rfl k) ?_
    show Good p e below _ (T4.setTop (mkF m 21 #[.val (.int p0), .val (.int (0 : Int32)), .val (.ref w_PNCPS), .val (.int (0 : Int32)), .unset, .unset, .unset] []))
    refine Good.back (fun _ k => XS.aloadN X4.here hx rfl (hb hby at_21) rfl rfl k) ?_
    show Good p e below _ (T4.setTop (mkF m 22 #[.val (.int p0), .val (.int (0 : Int32)), .val (.ref w_PNCPS), .val (.int (0 : Int32)), .unset, .unset, .unset] [(.ref w_PNCPS)]))
    obtain ⟨T5, X5, e5, st5⟩ := getS2 X4 hx hZ hown (host := "") (Or.inl (hw _ (List.mem_of_getElem? (i := 19) rfl))) Via.refl eh4 S_w_TIER1_INSTRUMENTS (g := (mkF m 22 #[.val (.int p0), .val (.int (0 : Int32)), .val (.ref w_PNCPS), .val (.int (0 : Int32)), .unset, .unset, .unset] [(.ref w_PNCPS)])) rfl (hb hby at_22)
    refine Good.back st5 ?_
    show Good p e below _ (T5.setTop (mkF m 25 #[.val (.int p0), .val (.int (0 : Int32)), .val (.ref w_PNCPS), .val (.int (0 : Int32)), .unset, .unset, .unset] [(.ref w_TIER1_INSTRUMENTS), (.ref w_PNCPS)]))
    obtain ⟨cq6, kq6, q6a, q6b, q6c⟩ := isOf hZ e5 E_w_PNCPS
    obtain ⟨_, _, ⟨T6, L6, k6, n6⟩, -, X6, ⟨Lc6, hQ6, l6, y6, z6⟩, st6⟩ := X5.virtualBack hx (y := (⟨"com/example/poonji/poonji/RcbInstrumentType", "heldInTier1By", "(Lcom/example/poonji/poonji/RcbInstrumentType$Tier1Cap;)Z"⟩ : MethodName)) (z := (⟨"com/example/poonji/poonji/RcbInstrumentType", "heldInTier1By", "(Lcom/example/poonji/poonji/RcbInstrumentType$Tier1Cap;)Z"⟩ : MethodName)) hown (mvT hZ (hw _ (List.mem_of_getElem? (i := 11) rfl))) (mvT hZ (hw _ (List.mem_of_getElem? (i := 12) rfl))) (notFace_of_selects (args := #[]) (mvT hZ (hw _ (List.mem_of_getElem? (i := 14) rfl)))) (mvT hZ (hw _ (List.mem_of_getElem? (i := 14) rfl))) (mvT hZ (hw _ (List.mem_of_getElem? (i := 13) rfl))) (by decide) (backOf (W := 0) (rm2y l Z a0 hw [] w_PNCPS w_TIER1_INSTRUMENTS  h0 n0 Z0 F_tier1Cap_w_PNCPS) hZ (hw _ (List.mem_of_getElem? (i := 15) rfl)) (hw _ (List.mem_of_getElem? (i := 6) rfl)) (by decide) (by decide)) q6a q6c (g := (mkF m 25 #[.val (.int p0), .val (.int (0 : Int32)), .val (.ref w_PNCPS), .val (.int (0 : Int32)), .unset, .unset, .unset] [(.ref w_TIER1_INSTRUMENTS), (.ref w_PNCPS)])) rfl (by rw [hml]; rfl) (Steps.refl _) (argsL := [(.ref w_TIER1_INSTRUMENTS)]) (rest := []) (lenOf own_pd45 rfl) rfl (by show 2 * 0 + _ ≤ _; exact Nat.le_of_eq rfl) (hb hby at_25) (fun _ _ => ⟨rfl, e5, (by decide : 0 + 0 ≤ _), (by decide : 0 + 0 ≤ _)⟩)
    dsimp only [Pt.U, Pt.locs, Pt.cells, Pt.slots] at X6 l6 y6 z6 st6 hQ6
    subst l6 y6 z6
    obtain ⟨rfl, N6q, eh6⟩ := hQ6
    have N6 := Fr.app N4 N6q
    refine Good.back (fun _ k => st6.trans k) ?_
    show Good p e below _ (T6.setTop (mkF m 28 #[.val (.int p0), .val (.int (0 : Int32)), .val (.ref w_PNCPS), .val (.int (0 : Int32)), .unset, .unset, .unset] [(.int (1 : Int32))]))
    refine Good.back (fun _ k => XS.istore X6.here hx rfl (hb hby at_28) rfl (l' := #[.val (.int p0), .val (.int (0 : Int32)), .val (.ref w_PNCPS), .val (.int (0 : Int32)), .val (.int (1 : Int32)), .unset, .unset]) rfl k) ?_
    show Good p e below _ (T6.setTop (mkF m 30 #[.val (.int p0), .val (.int (0 : Int32)), .val (.ref w_PNCPS), .val (.int (0 : Int32)), .val (.int (1 : Int32)), .unset, .unset] []))
    refine Good.back (fun _ k => XS.iloadN X6.here hx rfl (hb hby at_30) rfl k) ?_
    show Good p e below _ (T6.setTop (mkF m 31 #[.val (.int p0), .val (.int (0 : Int32)), .val (.ref w_PNCPS), .val (.int (0 : Int32)), .val (.int (1 : Int32)), .unset, .unset] [(.int (0 : Int32))]))
    refine Good.back (fun _ k => XS.iconst X6.here hx rfl (hb hby at_31) k) ?_
    show Good p e below _ (T6.setTop (mkF m 32 #[.val (.int p0), .val (.int (0 : Int32)), .val (.ref w_PNCPS), .val (.int (0 : Int32)), .val (.int (1 : Int32)), .unset, .unset] [(.int (1 : Int32)), (.int (0 : Int32))]))
    refine Good.back (fun _ k => XS.icmpNo X6.here hx rfl (hb hby at_32) rfl (feq (by decide : ¬ ((0 : Int32) = (1 : Int32)))).1 k) ?_
    show Good p e below _ (T6.setTop (mkF m 35 #[.val (.int p0), .val (.int (0 : Int32)), .val (.ref w_PNCPS), .val (.int (0 : Int32)), .val (.int (1 : Int32)), .unset, .unset] []))
    refine Good.back (fun _ k => XS.iloadN X6.here hx rfl (hb hby at_35) rfl k) ?_
    show Good p e below _ (T6.setTop (mkF m 36 #[.val (.int p0), .val (.int (0 : Int32)), .val (.ref w_PNCPS), .val (.int (0 : Int32)), .val (.int (1 : Int32)), .unset, .unset] [(.int (0 : Int32))]))
    refine Good.back (fun _ k => XS.iconst X6.here hx rfl (hb hby at_36) k) ?_
    show Good p e below _ (T6.setTop (mkF m 37 #[.val (.int p0), .val (.int (0 : Int32)), .val (.ref w_PNCPS), .val (.int (0 : Int32)), .val (.int (1 : Int32)), .unset, .unset] [(.int (2 : Int32)), (.int (0 : Int32))]))
    refine Good.back (fun _ k => XS.icmpYes X6.here hx rfl (pc0 := 37) (pc' := 44) rfl (hb hby at_37) rfl (feq (by decide : ¬ ((0 : Int32) = (2 : Int32)))).2 (by decide) (by decide) k) ?_
    show Good p e below _ (T6.setTop (mkF m 44 #[.val (.int p0), .val (.int (0 : Int32)), .val (.ref w_PNCPS), .val (.int (0 : Int32)), .val (.int (1 : Int32)), .unset, .unset] []))
    refine Good.back (fun _ k => XS.iconst X6.here hx rfl (hb hby at_44) k) ?_
    show Good p e below _ (T6.setTop (mkF m 45 #[.val (.int p0), .val (.int (0 : Int32)), .val (.ref w_PNCPS), .val (.int (0 : Int32)), .val (.int (1 : Int32)), .unset, .unset] [(.int (0 : Int32))]))
    refine Good.back (fun _ k => XS.istore X6.here hx rfl (hb hby at_45) rfl (l' := #[.val (.int p0), .val (.int (0 : Int32)), .val (.ref w_PNCPS), .val (.int (0 : Int32)), .val (.int (1 : Int32)), .val (.int (0 : Int32)), .unset]) rfl k) ?_
    show Good p e below _ (T6.setTop (mkF m 47 #[.val (.int p0), .val (.int (0 : Int32)), .val (.ref w_PNCPS), .val (.int (0 : Int32)), .val (.int (1 : Int32)), .val (.int (0 : Int32)), .unset] []))
    refine Good.back (fun _ k => XS.iloadN X6.here hx rfl (hb hby at_47) rfl k) ?_
    show Good p e below _ (T6.setTop (mkF m 48 #[.val (.int p0), .val (.int (0 : Int32)), .val (.ref w_PNCPS), .val (.int (0 : Int32)), .val (.int (1 : Int32)), .val (.int (0 : Int32)), .unset] [(.int (0 : Int32))]))
    refine Good.back (fun _ k => XS.ifNo X6.here hx rfl (hb hby at_48) rfl ((if0 _ _).trans (teq (by decide : ((0 : Int32) = (0 : Int32)))).2) k) ?_
    show Good p e below _ (T6.setTop (mkF m 51 #[.val (.int p0), .val (.int (0 : Int32)), .val (.ref w_PNCPS), .val (.int (0 : Int32)), .val (.int (1 : Int32)), .val (.int (0 : Int32)), .unset] []))
    refine Good.back (fun _ k => XS.iconst X6.here hx rfl (hb hby at_51) k) ?_
    show Good p e below _ (T6.setTop (mkF m 52 #[.val (.int p0), .val (.int (0 : Int32)), .val (.ref w_PNCPS), .val (.int (0 : Int32)), .val (.int (1 : Int32)), .val (.int (0 : Int32)), .unset] [(.int (1 : Int32))]))
    refine Good.back (fun _ k => XS.goto X6.here hx rfl (pc0 := 52) (pc' := 56) rfl (hb hby at_52) (by decide) (by decide) k) ?_
    show Good p e below _ (T6.setTop (mkF m 56 #[.val (.int p0), .val (.int (0 : Int32)), .val (.ref w_PNCPS), .val (.int (0 : Int32)), .val (.int (1 : Int32)), .val (.int (0 : Int32)), .unset] [(.int (1 : Int32))]))
    refine Good.back (fun _ k => XS.istore X6.here hx rfl (hb hby at_56) rfl (l' := #[.val (.int p0), .val (.int (0 : Int32)), .val (.ref w_PNCPS), .val (.int (0 : Int32)), .val (.int (1 : Int32)), .val (.int (0 : Int32)), .val (.int (1 : Int32))]) rfl k) ?_
    show Good p e below _ (T6.setTop (mkF m 58 #[.val (.int p0), .val (.int (0 : Int32)), .val (.ref w_PNCPS), .val (.int (0 : Int32)), .val (.int (1 : Int32)), .val (.int (0 : Int32)), .val (.int (1 : Int32))] []))
    refine Good.back (fun _ k => XS.iloadN X6.here hx rfl (hb hby at_58) rfl k) ?_
    show Good p e below _ (T6.setTop (mkF m 59 #[.val (.int p0), .val (.int (0 : Int32)), .val (.ref w_PNCPS), .val (.int (0 : Int32)), .val (.int (1 : Int32)), .val (.int (0 : Int32)), .val (.int (1 : Int32))] [(.int (0 : Int32))]))
    refine Good.back (fun _ k => XS.iload X6.here hx rfl (hb hby at_59) rfl k) ?_
    show Good p e below _ (T6.setTop (mkF m 61 #[.val (.int p0), .val (.int (0 : Int32)), .val (.ref w_PNCPS), .val (.int (0 : Int32)), .val (.int (1 : Int32)), .val (.int (0 : Int32)), .val (.int (1 : Int32))] [(.int (0 : Int32)), (.int (0 : Int32))]))
    refine Good.back (fun _ k => XS.icmpNo X6.here hx rfl (hb hby at_61) rfl (teq (by decide : ((0 : Int32) = (0 : Int32)))).2 k) ?_
    show Good p e below _ (T6.setTop (mkF m 64 #[.val (.int p0), .val (.int (0 : Int32)), .val (.ref w_PNCPS), .val (.int (0 : Int32)), .val (.int (1 : Int32)), .val (.int (0 : Int32)), .val (.int (1 : Int32))] []))
    refine Good.back (fun _ k => XS.iload X6.here hx rfl (hb hby at_64) rfl k) ?_
    show Good p e below _ (T6.setTop (mkF m 66 #[.val (.int p0), .val (.int (0 : Int32)), .val (.ref w_PNCPS), .val (.int (0 : Int32)), .val (.int (1 : Int32)), .val (.int (0 : Int32)), .val (.int (1 : Int32))] [(.int (1 : Int32))]))
    refine Good.back (fun _ k => XS.iload X6.here hx rfl (hb hby at_66) rfl k) ?_
    show Good p e below _ (T6.setTop (mkF m 68 #[.val (.int p0), .val (.int (0 : Int32)), .val (.ref w_PNCPS), .val (.int (0 : Int32)), .val (.int (1 : Int32)), .val (.int (0 : Int32)), .val (.int (1 : Int32))] [(.int (1 : Int32)), (.int (1 : Int32))]))
    refine Good.back (fun _ k => XS.icmpNo X6.here hx rfl (hb hby at_68) rfl (teq (by decide : ((1 : Int32) = (1 : Int32)))).2 k) ?_
    show Good p e below _ (T6.setTop (mkF m 71 #[.val (.int p0), .val (.int (0 : Int32)), .val (.ref w_PNCPS), .val (.int (0 : Int32)), .val (.int (1 : Int32)), .val (.int (0 : Int32)), .val (.int (1 : Int32))] []))
    refine Good.back (fun _ k => XS.iconst X6.here hx rfl (hb hby at_71) k) ?_
    show Good p e below _ (T6.setTop (mkF m 72 #[.val (.int p0), .val (.int (0 : Int32)), .val (.ref w_PNCPS), .val (.int (0 : Int32)), .val (.int (1 : Int32)), .val (.int (0 : Int32)), .val (.int (1 : Int32))] [(.int (1 : Int32))]))
    refine Good.back (fun _ k => XS.goto X6.here hx rfl (pc0 := 72) (pc' := 76) rfl (hb hby at_72) (by decide) (by decide) k) ?_
    show Good p e below _ (T6.setTop (mkF m 76 #[.val (.int p0), .val (.int (0 : Int32)), .val (.ref w_PNCPS), .val (.int (0 : Int32)), .val (.int (1 : Int32)), .val (.int (0 : Int32)), .val (.int (1 : Int32))] [(.int (1 : Int32))]))
    obtain ⟨fs7, hr7, hrun7, hended7, hW7, hsame7⟩ := X6.leave (v := some (.int (1 : Int32))) (fun h => by rw [Bd.returns] at h; cases h)
    refine Good.done (retN X6 hx (t := .boolean) Bd.returns (by simp) (hb hby at_76) hr7) hrun7 hended7 ⟨_, _, rfl, ?_, ⟨_, rfl⟩, hW7, hsame7.mono (by decide) (by decide)⟩
    show Q0 Z p0 w_PNCPS w_PERPETUAL_DEBT w_TIER1_INSTRUMENTS w_PCPS w_LTSB w_LTD w_IPDI w_PDI w_RNCPS w_RCPS h0 n0 _ T6.heap _
    rw [eh6]
    exact ⟨rfl, N6⟩
  · have he1' : ((p0 &&& (2147483647 : Int32)) % (8 : Int32)) = (1 : Int32) := he1
    rw [he1']
    show Good p e below _ (s₁.setTop (mkF m 8 #[.val (.int p0), .val (.int (1 : Int32)), .unset, .unset, .unset, .unset, .unset] []))
    refine Good.back (fun _ k => XS.iloadN X0.here hx rfl (hb hby at_8) rfl k) ?_
    show Good p e below _ (s₁.setTop (mkF m 9 #[.val (.int p0), .val (.int (1 : Int32)), .unset, .unset, .unset, .unset, .unset] [(.int (1 : Int32))]))
    obtain ⟨_, _, ⟨T8, L8, k8, n8⟩, -, X8, ⟨Lc8, hQ8, l8, y8, z8⟩, st8⟩ := Jvm.LawKit.callS X0 hx (y := (⟨"com/example/poonji/poonji/RcbInstrumentTypeHeldInTier1ByPinLaw", "pick", "(I)Lcom/example/poonji/poonji/RcbInstrumentType;"⟩ : MethodName)) hown (mvT hZ (hw _ (List.mem_of_getElem? (i := 1) rfl))) (mvT hZ (hw _ (List.mem_of_getElem? (i := 2) rfl))) (mvT hZ (hw _ (List.mem_of_getElem? (i := 3) rfl))) (mvT hZ (hw _ (List.mem_of_getElem? (i := 4) rfl))) (by decide) (backOf (W := 0) (rm1_1 l Z a0 hw []  w_PDI h0 n0 Z0 S_w_PDI) hZ (hw _ (List.mem_of_getElem? (i := 4) rfl)) (hw _ (List.mem_of_getElem? (i := 3) rfl)) (by decide) (by decide)) (g := (mkF m 9 #[.val (.int p0), .val (.int (1 : Int32)), .unset, .unset, .unset, .unset, .unset] [(.int (1 : Int32))])) rfl (by rw [hml]; rfl) (argsL := [(.int (1 : Int32))]) (rest := []) (lenOf own_pd44 rfl) rfl (by show 2 * 0 + _ ≤ _; exact Nat.le_of_eq rfl) (hb hby at_9) (fun _ _ => ⟨rfl, e0, (by decide : 0 + 0 ≤ _), (by decide : 0 + 0 ≤ _)⟩)
    dsimp only [Pt.U, Pt.locs, Pt.cells, Pt.slots] at X8 l8 y8 z8 st8 hQ8
    subst l8 y8 z8
    obtain ⟨rfl, N8q, eh8⟩ := hQ8
    have N8 := Fr.app N0 N8q
    refine Good.back st8 ?_
    show Good p e below _ (T8.setTop (mkF m 12 #[.val (.int p0), .val (.int (1 : Int32)), .unset, .unset, .unset, .unset, .unset] [(.ref w_PDI)]))
    refine Good.back (fun _ k => XS.astoreN X8.here hx rfl (hb hby at_12) rfl rfl (l' := #[.val (.int p0), .val (.int (1 : Int32)), .val (.ref w_PDI), .unset, .unset, .unset, .unset]) rfl k) ?_
    show Good p e below _ (T8.setTop (mkF m 13 #[.val (.int p0), .val (.int (1 : Int32)), .val (.ref w_PDI), .unset, .unset, .unset, .unset] []))
    refine Good.back (fun _ k => XS.aloadN X8.here hx rfl (hb hby at_13) rfl rfl k) ?_
    show Good p e below _ (T8.setTop (mkF m 14 #[.val (.int p0), .val (.int (1 : Int32)), .val (.ref w_PDI), .unset, .unset, .unset, .unset] [(.ref w_PDI)]))
    obtain ⟨T9, X9, e9, st9⟩ := getS2 X8 hx hZ hown (host := "") (Or.inl (hw _ (List.mem_of_getElem? (i := 8) rfl))) Via.refl eh8 S_w_PERPETUAL_DEBT (g := (mkF m 14 #[.val (.int p0), .val (.int (1 : Int32)), .val (.ref w_PDI), .unset, .unset, .unset, .unset] [(.ref w_PDI)])) rfl (hb hby at_14)
    refine Good.back st9 ?_
    show Good p e below _ (T9.setTop (mkF m 17 #[.val (.int p0), .val (.int (1 : Int32)), .val (.ref w_PDI), .unset, .unset, .unset, .unset] [(.ref w_PERPETUAL_DEBT), (.ref w_PDI)]))
    obtain ⟨cq10, kq10, q10a, q10b, q10c⟩ := isOf hZ e9 E_w_PDI
    obtain ⟨_, _, ⟨T10, L10, k10, n10⟩, -, X10, ⟨Lc10, hQ10, l10, y10, z10⟩, st10⟩ := X9.virtualBack hx (y := (⟨"com/example/poonji/poonji/RcbInstrumentType", "heldInTier1By", "(Lcom/example/poonji/poonji/RcbInstrumentType$Tier1Cap;)Z"⟩ : MethodName)) (z := (⟨"com/example/poonji/poonji/RcbInstrumentType", "heldInTier1By", "(Lcom/example/poonji/poonji/RcbInstrumentType$Tier1Cap;)Z"⟩ : MethodName)) hown (mvT hZ (hw _ (List.mem_of_getElem? (i := 11) rfl))) (mvT hZ (hw _ (List.mem_of_getElem? (i := 12) rfl))) (notFace_of_selects (args := #[]) (mvT hZ (hw _ (List.mem_of_getElem? (i := 14) rfl)))) (mvT hZ (hw _ (List.mem_of_getElem? (i := 14) rfl))) (mvT hZ (hw _ (List.mem_of_getElem? (i := 13) rfl))) (by decide) (backOf (W := 0) (rm2y l Z a0 hw [] w_PDI w_PERPETUAL_DEBT  h0 n0 Z0 F_tier1Cap_w_PDI) hZ (hw _ (List.mem_of_getElem? (i := 15) rfl)) (hw _ (List.mem_of_getElem? (i := 6) rfl)) (by decide) (by decide)) q10a q10c (g := (mkF m 17 #[.val (.int p0), .val (.int (1 : Int32)), .val (.ref w_PDI), .unset, .unset, .unset, .unset] [(.ref w_PERPETUAL_DEBT), (.ref w_PDI)])) rfl (by rw [hml]; rfl) (Steps.refl _) (argsL := [(.ref w_PERPETUAL_DEBT)]) (rest := []) (lenOf own_pd45 rfl) rfl (by show 2 * 0 + _ ≤ _; exact Nat.le_of_eq rfl) (hb hby at_17) (fun _ _ => ⟨rfl, e9, (by decide : 0 + 0 ≤ _), (by decide : 0 + 0 ≤ _)⟩)
    dsimp only [Pt.U, Pt.locs, Pt.cells, Pt.slots] at X10 l10 y10 z10 st10 hQ10
    subst l10 y10 z10
    obtain ⟨rfl, N10q, eh10⟩ := hQ10
    have N10 := Fr.app N8 N10q
    refine Good.back (fun _ k => st10.trans k) ?_
    show Good p e below _ (T10.setTop (mkF m 20 #[.val (.int p0), .val (.int (1 : Int32)), .val (.ref w_PDI), .unset, .unset, .unset, .unset] [(.int (1 : Int32))]))
    refine Good.back (fun _ k => XS.istoreN X10.here hx rfl (hb hby at_20) rfl (l' := #[.val (.int p0), .val (.int (1 : Int32)), .val (.ref w_PDI), .val (.int (1 : Int32)), .unset, .unset, .unset]) rfl k) ?_
    show Good p e below _ (T10.setTop (mkF m 21 #[.val (.int p0), .val (.int (1 : Int32)), .val (.ref w_PDI), .val (.int (1 : Int32)), .unset, .unset, .unset] []))
    refine Good.back (fun _ k => XS.aloadN X10.here hx rfl (hb hby at_21) rfl rfl k) ?_
    show Good p e below _ (T10.setTop (mkF m 22 #[.val (.int p0), .val (.int (1 : Int32)), .val (.ref w_PDI), .val (.int (1 : Int32)), .unset, .unset, .unset] [(.ref w_PDI)]))
    obtain ⟨T11, X11, e11, st11⟩ := getS2 X10 hx hZ hown (host := "") (Or.inl (hw _ (List.mem_of_getElem? (i := 19) rfl))) Via.refl eh10 S_w_TIER1_INSTRUMENTS (g := (mkF m 22 #[.val (.int p0), .val (.int (1 : Int32)), .val (.ref w_PDI), .val (.int (1 : Int32)), .unset, .unset, .unset] [(.ref w_PDI)])) rfl (hb hby at_22)
    refine Good.back st11 ?_
    show Good p e below _ (T11.setTop (mkF m 25 #[.val (.int p0), .val (.int (1 : Int32)), .val (.ref w_PDI), .val (.int (1 : Int32)), .unset, .unset, .unset] [(.ref w_TIER1_INSTRUMENTS), (.ref w_PDI)]))
    obtain ⟨cq12, kq12, q12a, q12b, q12c⟩ := isOf hZ e11 E_w_PDI
    obtain ⟨_, _, ⟨T12, L12, k12, n12⟩, -, X12, ⟨Lc12, hQ12, l12, y12, z12⟩, st12⟩ := X11.virtualBack hx (y := (⟨"com/example/poonji/poonji/RcbInstrumentType", "heldInTier1By", "(Lcom/example/poonji/poonji/RcbInstrumentType$Tier1Cap;)Z"⟩ : MethodName)) (z := (⟨"com/example/poonji/poonji/RcbInstrumentType", "heldInTier1By", "(Lcom/example/poonji/poonji/RcbInstrumentType$Tier1Cap;)Z"⟩ : MethodName)) hown (mvT hZ (hw _ (List.mem_of_getElem? (i := 11) rfl))) (mvT hZ (hw _ (List.mem_of_getElem? (i := 12) rfl))) (notFace_of_selects (args := #[]) (mvT hZ (hw _ (List.mem_of_getElem? (i := 14) rfl)))) (mvT hZ (hw _ (List.mem_of_getElem? (i := 14) rfl))) (mvT hZ (hw _ (List.mem_of_getElem? (i := 13) rfl))) (by decide) (backOf (W := 0) (rm2n l Z a0 hw [] w_PDI w_TIER1_INSTRUMENTS w_PERPETUAL_DEBT h0 n0 Z0 F_tier1Cap_w_PDI (Ne.symm ne_w_TIER1_INSTRUMENTS_w_PERPETUAL_DEBT)) hZ (hw _ (List.mem_of_getElem? (i := 15) rfl)) (hw _ (List.mem_of_getElem? (i := 6) rfl)) (by decide) (by decide)) q12a q12c (g := (mkF m 25 #[.val (.int p0), .val (.int (1 : Int32)), .val (.ref w_PDI), .val (.int (1 : Int32)), .unset, .unset, .unset] [(.ref w_TIER1_INSTRUMENTS), (.ref w_PDI)])) rfl (by rw [hml]; rfl) (Steps.refl _) (argsL := [(.ref w_TIER1_INSTRUMENTS)]) (rest := []) (lenOf own_pd45 rfl) rfl (by show 2 * 0 + _ ≤ _; exact Nat.le_of_eq rfl) (hb hby at_25) (fun _ _ => ⟨rfl, e11, (by decide : 0 + 0 ≤ _), (by decide : 0 + 0 ≤ _)⟩)
    dsimp only [Pt.U, Pt.locs, Pt.cells, Pt.slots] at X12 l12 y12 z12 st12 hQ12
    subst l12 y12 z12
    obtain ⟨rfl, N12q, eh12⟩ := hQ12
    have N12 := Fr.app N10 N12q
    refine Good.back (fun _ k => st12.trans k) ?_
    show Good p e below _ (T12.setTop (mkF m 28 #[.val (.int p0), .val (.int (1 : Int32)), .val (.ref w_PDI), .val (.int (1 : Int32)), .unset, .unset, .unset] [(.int (0 : Int32))]))
    refine Good.back (fun _ k => XS.istore X12.here hx rfl (hb hby at_28) rfl (l' := #[.val (.int p0), .val (.int (1 : Int32)), .val (.ref w_PDI), .val (.int (1 : Int32)), .val (.int (0 : Int32)), .unset, .unset]) rfl k) ?_
    show Good p e below _ (T12.setTop (mkF m 30 #[.val (.int p0), .val (.int (1 : Int32)), .val (.ref w_PDI), .val (.int (1 : Int32)), .val (.int (0 : Int32)), .unset, .unset] []))
    refine Good.back (fun _ k => XS.iloadN X12.here hx rfl (hb hby at_30) rfl k) ?_
    show Good p e below _ (T12.setTop (mkF m 31 #[.val (.int p0), .val (.int (1 : Int32)), .val (.ref w_PDI), .val (.int (1 : Int32)), .val (.int (0 : Int32)), .unset, .unset] [(.int (1 : Int32))]))
    refine Good.back (fun _ k => XS.iconst X12.here hx rfl (hb hby at_31) k) ?_
    show Good p e below _ (T12.setTop (mkF m 32 #[.val (.int p0), .val (.int (1 : Int32)), .val (.ref w_PDI), .val (.int (1 : Int32)), .val (.int (0 : Int32)), .unset, .unset] [(.int (1 : Int32)), (.int (1 : Int32))]))
    refine Good.back (fun _ k => XS.icmpYes X12.here hx rfl (pc0 := 32) (pc' := 40) rfl (hb hby at_32) rfl (teq (by decide : ((1 : Int32) = (1 : Int32)))).1 (by decide) (by decide) k) ?_
    show Good p e below _ (T12.setTop (mkF m 40 #[.val (.int p0), .val (.int (1 : Int32)), .val (.ref w_PDI), .val (.int (1 : Int32)), .val (.int (0 : Int32)), .unset, .unset] []))
    refine Good.back (fun _ k => XS.iconst X12.here hx rfl (hb hby at_40) k) ?_
    show Good p e below _ (T12.setTop (mkF m 41 #[.val (.int p0), .val (.int (1 : Int32)), .val (.ref w_PDI), .val (.int (1 : Int32)), .val (.int (0 : Int32)), .unset, .unset] [(.int (1 : Int32))]))
    refine Good.back (fun _ k => XS.goto X12.here hx rfl (pc0 := 41) (pc' := 45) rfl (hb hby at_41) (by decide) (by decide) k) ?_
    show Good p e below _ (T12.setTop (mkF m 45 #[.val (.int p0), .val (.int (1 : Int32)), .val (.ref w_PDI), .val (.int (1 : Int32)), .val (.int (0 : Int32)), .unset, .unset] [(.int (1 : Int32))]))
    refine Good.back (fun _ k => XS.istore X12.here hx rfl (hb hby at_45) rfl (l' := #[.val (.int p0), .val (.int (1 : Int32)), .val (.ref w_PDI), .val (.int (1 : Int32)), .val (.int (0 : Int32)), .val (.int (1 : Int32)), .unset]) rfl k) ?_
    show Good p e below _ (T12.setTop (mkF m 47 #[.val (.int p0), .val (.int (1 : Int32)), .val (.ref w_PDI), .val (.int (1 : Int32)), .val (.int (0 : Int32)), .val (.int (1 : Int32)), .unset] []))
    refine Good.back (fun _ k => XS.iloadN X12.here hx rfl (hb hby at_47) rfl k) ?_
    show Good p e below _ (T12.setTop (mkF m 48 #[.val (.int p0), .val (.int (1 : Int32)), .val (.ref w_PDI), .val (.int (1 : Int32)), .val (.int (0 : Int32)), .val (.int (1 : Int32)), .unset] [(.int (1 : Int32))]))
    refine Good.back (fun _ k => XS.ifYes X12.here hx rfl (pc0 := 48) (pc' := 55) rfl (hb hby at_48) rfl ((if0 _ _).trans (feq (by decide : ¬ ((1 : Int32) = (0 : Int32)))).2) (by decide) (by decide) k) ?_
    show Good p e below _ (T12.setTop (mkF m 55 #[.val (.int p0), .val (.int (1 : Int32)), .val (.ref w_PDI), .val (.int (1 : Int32)), .val (.int (0 : Int32)), .val (.int (1 : Int32)), .unset] []))
    refine Good.back (fun _ k => XS.iconst X12.here hx rfl (hb hby at_55) k) ?_
    show Good p e below _ (T12.setTop (mkF m 56 #[.val (.int p0), .val (.int (1 : Int32)), .val (.ref w_PDI), .val (.int (1 : Int32)), .val (.int (0 : Int32)), .val (.int (1 : Int32)), .unset] [(.int (0 : Int32))]))
    refine Good.back (fun _ k => XS.istore X12.here hx rfl (hb hby at_56) rfl (l' := #[.val (.int p0), .val (.int (1 : Int32)), .val (.ref w_PDI), .val (.int (1 : Int32)), .val (.int (0 : Int32)), .val (.int (1 : Int32)), .val (.int (0 : Int32))]) rfl k) ?_
    show Good p e below _ (T12.setTop (mkF m 58 #[.val (.int p0), .val (.int (1 : Int32)), .val (.ref w_PDI), .val (.int (1 : Int32)), .val (.int (0 : Int32)), .val (.int (1 : Int32)), .val (.int (0 : Int32))] []))
    refine Good.back (fun _ k => XS.iloadN X12.here hx rfl (hb hby at_58) rfl k) ?_
    show Good p e below _ (T12.setTop (mkF m 59 #[.val (.int p0), .val (.int (1 : Int32)), .val (.ref w_PDI), .val (.int (1 : Int32)), .val (.int (0 : Int32)), .val (.int (1 : Int32)), .val (.int (0 : Int32))] [(.int (1 : Int32))]))
    refine Good.back (fun _ k => XS.iload X12.here hx rfl (hb hby at_59) rfl k) ?_
    show Good p e below _ (T12.setTop (mkF m 61 #[.val (.int p0), .val (.int (1 : Int32)), .val (.ref w_PDI), .val (.int (1 : Int32)), .val (.int (0 : Int32)), .val (.int (1 : Int32)), .val (.int (0 : Int32))] [(.int (1 : Int32)), (.int (1 : Int32))]))
    refine Good.back (fun _ k => XS.icmpNo X12.here hx rfl (hb hby at_61) rfl (teq (by decide : ((1 : Int32) = (1 : Int32)))).2 k) ?_
    show Good p e below _ (T12.setTop (mkF m 64 #[.val (.int p0), .val (.int (1 : Int32)), .val (.ref w_PDI), .val (.int (1 : Int32)), .val (.int (0 : Int32)), .val (.int (1 : Int32)), .val (.int (0 : Int32))] []))
    refine Good.back (fun _ k => XS.iload X12.here hx rfl (hb hby at_64) rfl k) ?_
    show Good p e below _ (T12.setTop (mkF m 66 #[.val (.int p0), .val (.int (1 : Int32)), .val (.ref w_PDI), .val (.int (1 : Int32)), .val (.int (0 : Int32)), .val (.int (1 : Int32)), .val (.int (0 : Int32))] [(.int (0 : Int32))]))
    refine Good.back (fun _ k => XS.iload X12.here hx rfl (hb hby at_66) rfl k) ?_
    show Good p e below _ (T12.setTop (mkF m 68 #[.val (.int p0), .val (.int (1 : Int32)), .val (.ref w_PDI), .val (.int (1 : Int32)), .val (.int (0 : Int32)), .val (.int (1 : Int32)), .val (.int (0 : Int32))] [(.int (0 : Int32)), (.int (0 : Int32))]))
    refine Good.back (fun _ k => XS.icmpNo X12.here hx rfl (hb hby at_68) rfl (teq (by decide : ((0 : Int32) = (0 : Int32)))).2 k) ?_
    show Good p e below _ (T12.setTop (mkF m 71 #[.val (.int p0), .val (.int (1 : Int32)), .val (.ref w_PDI), .val (.int (1 : Int32)), .val (.int (0 : Int32)), .val (.int (1 : Int32)), .val (.int (0 : Int32))] []))
    refine Good.back (fun _ k => XS.iconst X12.here hx rfl (hb hby at_71) k) ?_
    show Good p e below _ (T12.setTop (mkF m 72 #[.val (.int p0), .val (.int (1 : Int32)), .val (.ref w_PDI), .val (.int (1 : Int32)), .val (.int (0 : Int32)), .val (.int (1 : Int32)), .val (.int (0 : Int32))] [(.int (1 : Int32))]))
    refine Good.back (fun _ k => XS.goto X12.here hx rfl (pc0 := 72) (pc' := 76) rfl (hb hby at_72) (by decide) (by decide) k) ?_
    show Good p e below _ (T12.setTop (mkF m 76 #[.val (.int p0), .val (.int (1 : Int32)), .val (.ref w_PDI), .val (.int (1 : Int32)), .val (.int (0 : Int32)), .val (.int (1 : Int32)), .val (.int (0 : Int32))] [(.int (1 : Int32))]))
    obtain ⟨fs13, hr13, hrun13, hended13, hW13, hsame13⟩ := X12.leave (v := some (.int (1 : Int32))) (fun h => by rw [Bd.returns] at h; cases h)
    refine Good.done (retN X12 hx (t := .boolean) Bd.returns (by simp) (hb hby at_76) hr13) hrun13 hended13 ⟨_, _, rfl, ?_, ⟨_, rfl⟩, hW13, hsame13.mono (by decide) (by decide)⟩
    show Q0 Z p0 w_PNCPS w_PERPETUAL_DEBT w_TIER1_INSTRUMENTS w_PCPS w_LTSB w_LTD w_IPDI w_PDI w_RNCPS w_RCPS h0 n0 _ T12.heap _
    rw [eh12]
    exact ⟨rfl, N12⟩
  · have he1' : ((p0 &&& (2147483647 : Int32)) % (8 : Int32)) = (2 : Int32) := he1
    rw [he1']
    show Good p e below _ (s₁.setTop (mkF m 8 #[.val (.int p0), .val (.int (2 : Int32)), .unset, .unset, .unset, .unset, .unset] []))
    refine Good.back (fun _ k => XS.iloadN X0.here hx rfl (hb hby at_8) rfl k) ?_
    show Good p e below _ (s₁.setTop (mkF m 9 #[.val (.int p0), .val (.int (2 : Int32)), .unset, .unset, .unset, .unset, .unset] [(.int (2 : Int32))]))
    obtain ⟨_, _, ⟨T14, L14, k14, n14⟩, -, X14, ⟨Lc14, hQ14, l14, y14, z14⟩, st14⟩ := Jvm.LawKit.callS X0 hx (y := (⟨"com/example/poonji/poonji/RcbInstrumentTypeHeldInTier1ByPinLaw", "pick", "(I)Lcom/example/poonji/poonji/RcbInstrumentType;"⟩ : MethodName)) hown (mvT hZ (hw _ (List.mem_of_getElem? (i := 1) rfl))) (mvT hZ (hw _ (List.mem_of_getElem? (i := 2) rfl))) (mvT hZ (hw _ (List.mem_of_getElem? (i := 3) rfl))) (mvT hZ (hw _ (List.mem_of_getElem? (i := 4) rfl))) (by decide) (backOf (W := 0) (rm1_2 l Z a0 hw []  w_IPDI h0 n0 Z0 S_w_IPDI) hZ (hw _ (List.mem_of_getElem? (i := 4) rfl)) (hw _ (List.mem_of_getElem? (i := 3) rfl)) (by decide) (by decide)) (g := (mkF m 9 #[.val (.int p0), .val (.int (2 : Int32)), .unset, .unset, .unset, .unset, .unset] [(.int (2 : Int32))])) rfl (by rw [hml]; rfl) (argsL := [(.int (2 : Int32))]) (rest := []) (lenOf own_pd44 rfl) rfl (by show 2 * 0 + _ ≤ _; exact Nat.le_of_eq rfl) (hb hby at_9) (fun _ _ => ⟨rfl, e0, (by decide : 0 + 0 ≤ _), (by decide : 0 + 0 ≤ _)⟩)
    dsimp only [Pt.U, Pt.locs, Pt.cells, Pt.slots] at X14 l14 y14 z14 st14 hQ14
    subst l14 y14 z14
    obtain ⟨rfl, N14q, eh14⟩ := hQ14
    have N14 := Fr.app N0 N14q
    refine Good.back st14 ?_
    show Good p e below _ (T14.setTop (mkF m 12 #[.val (.int p0), .val (.int (2 : Int32)), .unset, .unset, .unset, .unset, .unset] [(.ref w_IPDI)]))
    refine Good.back (fun _ k => XS.astoreN X14.here hx rfl (hb hby at_12) rfl rfl (l' := #[.val (.int p0), .val (.int (2 : Int32)), .val (.ref w_IPDI), .unset, .unset, .unset, .unset]) rfl k) ?_
    show Good p e below _ (T14.setTop (mkF m 13 #[.val (.int p0), .val (.int (2 : Int32)), .val (.ref w_IPDI), .unset, .unset, .unset, .unset] []))
    refine Good.back (fun _ k => XS.aloadN X14.here hx rfl (hb hby at_13) rfl rfl k) ?_
    show Good p e below _ (T14.setTop (mkF m 14 #[.val (.int p0), .val (.int (2 : Int32)), .val (.ref w_IPDI), .unset, .unset, .unset, .unset] [(.ref w_IPDI)]))
    obtain ⟨T15, X15, e15, st15⟩ := getS2 X14 hx hZ hown (host := "") (Or.inl (hw _ (List.mem_of_getElem? (i := 8) rfl))) Via.refl eh14 S_w_PERPETUAL_DEBT (g := (mkF m 14 #[.val (.int p0), .val (.int (2 : Int32)), .val (.ref w_IPDI), .unset, .unset, .unset, .unset] [(.ref w_IPDI)])) rfl (hb hby at_14)
    refine Good.back st15 ?_
    show Good p e below _ (T15.setTop (mkF m 17 #[.val (.int p0), .val (.int (2 : Int32)), .val (.ref w_IPDI), .unset, .unset, .unset, .unset] [(.ref w_PERPETUAL_DEBT), (.ref w_IPDI)]))
    obtain ⟨cq16, kq16, q16a, q16b, q16c⟩ := isOf hZ e15 E_w_IPDI
    obtain ⟨_, _, ⟨T16, L16, k16, n16⟩, -, X16, ⟨Lc16, hQ16, l16, y16, z16⟩, st16⟩ := X15.virtualBack hx (y := (⟨"com/example/poonji/poonji/RcbInstrumentType", "heldInTier1By", "(Lcom/example/poonji/poonji/RcbInstrumentType$Tier1Cap;)Z"⟩ : MethodName)) (z := (⟨"com/example/poonji/poonji/RcbInstrumentType", "heldInTier1By", "(Lcom/example/poonji/poonji/RcbInstrumentType$Tier1Cap;)Z"⟩ : MethodName)) hown (mvT hZ (hw _ (List.mem_of_getElem? (i := 11) rfl))) (mvT hZ (hw _ (List.mem_of_getElem? (i := 12) rfl))) (notFace_of_selects (args := #[]) (mvT hZ (hw _ (List.mem_of_getElem? (i := 14) rfl)))) (mvT hZ (hw _ (List.mem_of_getElem? (i := 14) rfl))) (mvT hZ (hw _ (List.mem_of_getElem? (i := 13) rfl))) (by decide) (backOf (W := 0) (rm2y l Z a0 hw [] w_IPDI w_PERPETUAL_DEBT  h0 n0 Z0 F_tier1Cap_w_IPDI) hZ (hw _ (List.mem_of_getElem? (i := 15) rfl)) (hw _ (List.mem_of_getElem? (i := 6) rfl)) (by decide) (by decide)) q16a q16c (g := (mkF m 17 #[.val (.int p0), .val (.int (2 : Int32)), .val (.ref w_IPDI), .unset, .unset, .unset, .unset] [(.ref w_PERPETUAL_DEBT), (.ref w_IPDI)])) rfl (by rw [hml]; rfl) (Steps.refl _) (argsL := [(.ref w_PERPETUAL_DEBT)]) (rest := []) (lenOf own_pd45 rfl) rfl (by show 2 * 0 + _ ≤ _; exact Nat.le_of_eq rfl) (hb hby at_17) (fun _ _ => ⟨rfl, e15, (by decide : 0 + 0 ≤ _), (by decide : 0 + 0 ≤ _)⟩)
    dsimp only [Pt.U, Pt.locs, Pt.cells, Pt.slots] at X16 l16 y16 z16 st16 hQ16
    subst l16 y16 z16
    obtain ⟨rfl, N16q, eh16⟩ := hQ16
    have N16 := Fr.app N14 N16q
    refine Good.back (fun _ k => st16.trans k) ?_
    show Good p e below _ (T16.setTop (mkF m 20 #[.val (.int p0), .val (.int (2 : Int32)), .val (.ref w_IPDI), .unset, .unset, .unset, .unset] [(.int (1 : Int32))]))
    refine Good.back (fun _ k => XS.istoreN X16.here hx rfl (hb hby at_20) rfl (l' := #[.val (.int p0), .val (.int (2 : Int32)), .val (.ref w_IPDI), .val (.int (1 : Int32)), .unset, .unset, .unset]) rfl k) ?_
    show Good p e below _ (T16.setTop (mkF m 21 #[.val (.int p0), .val (.int (2 : Int32)), .val (.ref w_IPDI), .val (.int (1 : Int32)), .unset, .unset, .unset] []))
    refine Good.back (fun _ k => XS.aloadN X16.here hx rfl (hb hby at_21) rfl rfl k) ?_
    show Good p e below _ (T16.setTop (mkF m 22 #[.val (.int p0), .val (.int (2 : Int32)), .val (.ref w_IPDI), .val (.int (1 : Int32)), .unset, .unset, .unset] [(.ref w_IPDI)]))
    obtain ⟨T17, X17, e17, st17⟩ := getS2 X16 hx hZ hown (host := "") (Or.inl (hw _ (List.mem_of_getElem? (i := 19) rfl))) Via.refl eh16 S_w_TIER1_INSTRUMENTS (g := (mkF m 22 #[.val (.int p0), .val (.int (2 : Int32)), .val (.ref w_IPDI), .val (.int (1 : Int32)), .unset, .unset, .unset] [(.ref w_IPDI)])) rfl (hb hby at_22)
    refine Good.back st17 ?_
    show Good p e below _ (T17.setTop (mkF m 25 #[.val (.int p0), .val (.int (2 : Int32)), .val (.ref w_IPDI), .val (.int (1 : Int32)), .unset, .unset, .unset] [(.ref w_TIER1_INSTRUMENTS), (.ref w_IPDI)]))
    obtain ⟨cq18, kq18, q18a, q18b, q18c⟩ := isOf hZ e17 E_w_IPDI
    obtain ⟨_, _, ⟨T18, L18, k18, n18⟩, -, X18, ⟨Lc18, hQ18, l18, y18, z18⟩, st18⟩ := X17.virtualBack hx (y := (⟨"com/example/poonji/poonji/RcbInstrumentType", "heldInTier1By", "(Lcom/example/poonji/poonji/RcbInstrumentType$Tier1Cap;)Z"⟩ : MethodName)) (z := (⟨"com/example/poonji/poonji/RcbInstrumentType", "heldInTier1By", "(Lcom/example/poonji/poonji/RcbInstrumentType$Tier1Cap;)Z"⟩ : MethodName)) hown (mvT hZ (hw _ (List.mem_of_getElem? (i := 11) rfl))) (mvT hZ (hw _ (List.mem_of_getElem? (i := 12) rfl))) (notFace_of_selects (args := #[]) (mvT hZ (hw _ (List.mem_of_getElem? (i := 14) rfl)))) (mvT hZ (hw _ (List.mem_of_getElem? (i := 14) rfl))) (mvT hZ (hw _ (List.mem_of_getElem? (i := 13) rfl))) (by decide) (backOf (W := 0) (rm2n l Z a0 hw [] w_IPDI w_TIER1_INSTRUMENTS w_PERPETUAL_DEBT h0 n0 Z0 F_tier1Cap_w_IPDI (Ne.symm ne_w_TIER1_INSTRUMENTS_w_PERPETUAL_DEBT)) hZ (hw _ (List.mem_of_getElem? (i := 15) rfl)) (hw _ (List.mem_of_getElem? (i := 6) rfl)) (by decide) (by decide)) q18a q18c (g := (mkF m 25 #[.val (.int p0), .val (.int (2 : Int32)), .val (.ref w_IPDI), .val (.int (1 : Int32)), .unset, .unset, .unset] [(.ref w_TIER1_INSTRUMENTS), (.ref w_IPDI)])) rfl (by rw [hml]; rfl) (Steps.refl _) (argsL := [(.ref w_TIER1_INSTRUMENTS)]) (rest := []) (lenOf own_pd45 rfl) rfl (by show 2 * 0 + _ ≤ _; exact Nat.le_of_eq rfl) (hb hby at_25) (fun _ _ => ⟨rfl, e17, (by decide : 0 + 0 ≤ _), (by decide : 0 + 0 ≤ _)⟩)
    dsimp only [Pt.U, Pt.locs, Pt.cells, Pt.slots] at X18 l18 y18 z18 st18 hQ18
    subst l18 y18 z18
    obtain ⟨rfl, N18q, eh18⟩ := hQ18
    have N18 := Fr.app N16 N18q
    refine Good.back (fun _ k => st18.trans k) ?_
    show Good p e below _ (T18.setTop (mkF m 28 #[.val (.int p0), .val (.int (2 : Int32)), .val (.ref w_IPDI), .val (.int (1 : Int32)), .unset, .unset, .unset] [(.int (0 : Int32))]))
    refine Good.back (fun _ k => XS.istore X18.here hx rfl (hb hby at_28) rfl (l' := #[.val (.int p0), .val (.int (2 : Int32)), .val (.ref w_IPDI), .val (.int (1 : Int32)), .val (.int (0 : Int32)), .unset, .unset]) rfl k) ?_
    show Good p e below _ (T18.setTop (mkF m 30 #[.val (.int p0), .val (.int (2 : Int32)), .val (.ref w_IPDI), .val (.int (1 : Int32)), .val (.int (0 : Int32)), .unset, .unset] []))
    refine Good.back (fun _ k => XS.iloadN X18.here hx rfl (hb hby at_30) rfl k) ?_
    show Good p e below _ (T18.setTop (mkF m 31 #[.val (.int p0), .val (.int (2 : Int32)), .val (.ref w_IPDI), .val (.int (1 : Int32)), .val (.int (0 : Int32)), .unset, .unset] [(.int (2 : Int32))]))
    refine Good.back (fun _ k => XS.iconst X18.here hx rfl (hb hby at_31) k) ?_
    show Good p e below _ (T18.setTop (mkF m 32 #[.val (.int p0), .val (.int (2 : Int32)), .val (.ref w_IPDI), .val (.int (1 : Int32)), .val (.int (0 : Int32)), .unset, .unset] [(.int (1 : Int32)), (.int (2 : Int32))]))
    refine Good.back (fun _ k => XS.icmpNo X18.here hx rfl (hb hby at_32) rfl (feq (by decide : ¬ ((2 : Int32) = (1 : Int32)))).1 k) ?_
    show Good p e below _ (T18.setTop (mkF m 35 #[.val (.int p0), .val (.int (2 : Int32)), .val (.ref w_IPDI), .val (.int (1 : Int32)), .val (.int (0 : Int32)), .unset, .unset] []))
    refine Good.back (fun _ k => XS.iloadN X18.here hx rfl (hb hby at_35) rfl k) ?_
    show Good p e below _ (T18.setTop (mkF m 36 #[.val (.int p0), .val (.int (2 : Int32)), .val (.ref w_IPDI), .val (.int (1 : Int32)), .val (.int (0 : Int32)), .unset, .unset] [(.int (2 : Int32))]))
    refine Good.back (fun _ k => XS.iconst X18.here hx rfl (hb hby at_36) k) ?_
    show Good p e below _ (T18.setTop (mkF m 37 #[.val (.int p0), .val (.int (2 : Int32)), .val (.ref w_IPDI), .val (.int (1 : Int32)), .val (.int (0 : Int32)), .unset, .unset] [(.int (2 : Int32)), (.int (2 : Int32))]))
    refine Good.back (fun _ k => XS.icmpNo X18.here hx rfl (hb hby at_37) rfl (teq (by decide : ((2 : Int32) = (2 : Int32)))).2 k) ?_
    show Good p e below _ (T18.setTop (mkF m 40 #[.val (.int p0), .val (.int (2 : Int32)), .val (.ref w_IPDI), .val (.int (1 : Int32)), .val (.int (0 : Int32)), .unset, .unset] []))
    refine Good.back (fun _ k => XS.iconst X18.here hx rfl (hb hby at_40) k) ?_
    show Good p e below _ (T18.setTop (mkF m 41 #[.val (.int p0), .val (.int (2 : Int32)), .val (.ref w_IPDI), .val (.int (1 : Int32)), .val (.int (0 : Int32)), .unset, .unset] [(.int (1 : Int32))]))
    refine Good.back (fun _ k => XS.goto X18.here hx rfl (pc0 := 41) (pc' := 45) rfl (hb hby at_41) (by decide) (by decide) k) ?_
    show Good p e below _ (T18.setTop (mkF m 45 #[.val (.int p0), .val (.int (2 : Int32)), .val (.ref w_IPDI), .val (.int (1 : Int32)), .val (.int (0 : Int32)), .unset, .unset] [(.int (1 : Int32))]))
    refine Good.back (fun _ k => XS.istore X18.here hx rfl (hb hby at_45) rfl (l' := #[.val (.int p0), .val (.int (2 : Int32)), .val (.ref w_IPDI), .val (.int (1 : Int32)), .val (.int (0 : Int32)), .val (.int (1 : Int32)), .unset]) rfl k) ?_
    show Good p e below _ (T18.setTop (mkF m 47 #[.val (.int p0), .val (.int (2 : Int32)), .val (.ref w_IPDI), .val (.int (1 : Int32)), .val (.int (0 : Int32)), .val (.int (1 : Int32)), .unset] []))
    refine Good.back (fun _ k => XS.iloadN X18.here hx rfl (hb hby at_47) rfl k) ?_
    show Good p e below _ (T18.setTop (mkF m 48 #[.val (.int p0), .val (.int (2 : Int32)), .val (.ref w_IPDI), .val (.int (1 : Int32)), .val (.int (0 : Int32)), .val (.int (1 : Int32)), .unset] [(.int (2 : Int32))]))
    refine Good.back (fun _ k => XS.ifYes X18.here hx rfl (pc0 := 48) (pc' := 55) rfl (hb hby at_48) rfl ((if0 _ _).trans (feq (by decide : ¬ ((2 : Int32) = (0 : Int32)))).2) (by decide) (by decide) k) ?_
    show Good p e below _ (T18.setTop (mkF m 55 #[.val (.int p0), .val (.int (2 : Int32)), .val (.ref w_IPDI), .val (.int (1 : Int32)), .val (.int (0 : Int32)), .val (.int (1 : Int32)), .unset] []))
    refine Good.back (fun _ k => XS.iconst X18.here hx rfl (hb hby at_55) k) ?_
    show Good p e below _ (T18.setTop (mkF m 56 #[.val (.int p0), .val (.int (2 : Int32)), .val (.ref w_IPDI), .val (.int (1 : Int32)), .val (.int (0 : Int32)), .val (.int (1 : Int32)), .unset] [(.int (0 : Int32))]))
    refine Good.back (fun _ k => XS.istore X18.here hx rfl (hb hby at_56) rfl (l' := #[.val (.int p0), .val (.int (2 : Int32)), .val (.ref w_IPDI), .val (.int (1 : Int32)), .val (.int (0 : Int32)), .val (.int (1 : Int32)), .val (.int (0 : Int32))]) rfl k) ?_
    show Good p e below _ (T18.setTop (mkF m 58 #[.val (.int p0), .val (.int (2 : Int32)), .val (.ref w_IPDI), .val (.int (1 : Int32)), .val (.int (0 : Int32)), .val (.int (1 : Int32)), .val (.int (0 : Int32))] []))
    refine Good.back (fun _ k => XS.iloadN X18.here hx rfl (hb hby at_58) rfl k) ?_
    show Good p e below _ (T18.setTop (mkF m 59 #[.val (.int p0), .val (.int (2 : Int32)), .val (.ref w_IPDI), .val (.int (1 : Int32)), .val (.int (0 : Int32)), .val (.int (1 : Int32)), .val (.int (0 : Int32))] [(.int (1 : Int32))]))
    refine Good.back (fun _ k => XS.iload X18.here hx rfl (hb hby at_59) rfl k) ?_
    show Good p e below _ (T18.setTop (mkF m 61 #[.val (.int p0), .val (.int (2 : Int32)), .val (.ref w_IPDI), .val (.int (1 : Int32)), .val (.int (0 : Int32)), .val (.int (1 : Int32)), .val (.int (0 : Int32))] [(.int (1 : Int32)), (.int (1 : Int32))]))
    refine Good.back (fun _ k => XS.icmpNo X18.here hx rfl (hb hby at_61) rfl (teq (by decide : ((1 : Int32) = (1 : Int32)))).2 k) ?_
    show Good p e below _ (T18.setTop (mkF m 64 #[.val (.int p0), .val (.int (2 : Int32)), .val (.ref w_IPDI), .val (.int (1 : Int32)), .val (.int (0 : Int32)), .val (.int (1 : Int32)), .val (.int (0 : Int32))] []))
    refine Good.back (fun _ k => XS.iload X18.here hx rfl (hb hby at_64) rfl k) ?_
    show Good p e below _ (T18.setTop (mkF m 66 #[.val (.int p0), .val (.int (2 : Int32)), .val (.ref w_IPDI), .val (.int (1 : Int32)), .val (.int (0 : Int32)), .val (.int (1 : Int32)), .val (.int (0 : Int32))] [(.int (0 : Int32))]))
    refine Good.back (fun _ k => XS.iload X18.here hx rfl (hb hby at_66) rfl k) ?_
    show Good p e below _ (T18.setTop (mkF m 68 #[.val (.int p0), .val (.int (2 : Int32)), .val (.ref w_IPDI), .val (.int (1 : Int32)), .val (.int (0 : Int32)), .val (.int (1 : Int32)), .val (.int (0 : Int32))] [(.int (0 : Int32)), (.int (0 : Int32))]))
    refine Good.back (fun _ k => XS.icmpNo X18.here hx rfl (hb hby at_68) rfl (teq (by decide : ((0 : Int32) = (0 : Int32)))).2 k) ?_
    show Good p e below _ (T18.setTop (mkF m 71 #[.val (.int p0), .val (.int (2 : Int32)), .val (.ref w_IPDI), .val (.int (1 : Int32)), .val (.int (0 : Int32)), .val (.int (1 : Int32)), .val (.int (0 : Int32))] []))
    refine Good.back (fun _ k => XS.iconst X18.here hx rfl (hb hby at_71) k) ?_
    show Good p e below _ (T18.setTop (mkF m 72 #[.val (.int p0), .val (.int (2 : Int32)), .val (.ref w_IPDI), .val (.int (1 : Int32)), .val (.int (0 : Int32)), .val (.int (1 : Int32)), .val (.int (0 : Int32))] [(.int (1 : Int32))]))
    refine Good.back (fun _ k => XS.goto X18.here hx rfl (pc0 := 72) (pc' := 76) rfl (hb hby at_72) (by decide) (by decide) k) ?_
    show Good p e below _ (T18.setTop (mkF m 76 #[.val (.int p0), .val (.int (2 : Int32)), .val (.ref w_IPDI), .val (.int (1 : Int32)), .val (.int (0 : Int32)), .val (.int (1 : Int32)), .val (.int (0 : Int32))] [(.int (1 : Int32))]))
    obtain ⟨fs19, hr19, hrun19, hended19, hW19, hsame19⟩ := X18.leave (v := some (.int (1 : Int32))) (fun h => by rw [Bd.returns] at h; cases h)
    refine Good.done (retN X18 hx (t := .boolean) Bd.returns (by simp) (hb hby at_76) hr19) hrun19 hended19 ⟨_, _, rfl, ?_, ⟨_, rfl⟩, hW19, hsame19.mono (by decide) (by decide)⟩
    show Q0 Z p0 w_PNCPS w_PERPETUAL_DEBT w_TIER1_INSTRUMENTS w_PCPS w_LTSB w_LTD w_IPDI w_PDI w_RNCPS w_RCPS h0 n0 _ T18.heap _
    rw [eh18]
    exact ⟨rfl, N18⟩
  · have he1' : ((p0 &&& (2147483647 : Int32)) % (8 : Int32)) = (3 : Int32) := he1
    rw [he1']
    show Good p e below _ (s₁.setTop (mkF m 8 #[.val (.int p0), .val (.int (3 : Int32)), .unset, .unset, .unset, .unset, .unset] []))
    refine Good.back (fun _ k => XS.iloadN X0.here hx rfl (hb hby at_8) rfl k) ?_
    show Good p e below _ (s₁.setTop (mkF m 9 #[.val (.int p0), .val (.int (3 : Int32)), .unset, .unset, .unset, .unset, .unset] [(.int (3 : Int32))]))
    obtain ⟨_, _, ⟨T20, L20, k20, n20⟩, -, X20, ⟨Lc20, hQ20, l20, y20, z20⟩, st20⟩ := Jvm.LawKit.callS X0 hx (y := (⟨"com/example/poonji/poonji/RcbInstrumentTypeHeldInTier1ByPinLaw", "pick", "(I)Lcom/example/poonji/poonji/RcbInstrumentType;"⟩ : MethodName)) hown (mvT hZ (hw _ (List.mem_of_getElem? (i := 1) rfl))) (mvT hZ (hw _ (List.mem_of_getElem? (i := 2) rfl))) (mvT hZ (hw _ (List.mem_of_getElem? (i := 3) rfl))) (mvT hZ (hw _ (List.mem_of_getElem? (i := 4) rfl))) (by decide) (backOf (W := 0) (rm1_3 l Z a0 hw []  w_PCPS h0 n0 Z0 S_w_PCPS) hZ (hw _ (List.mem_of_getElem? (i := 4) rfl)) (hw _ (List.mem_of_getElem? (i := 3) rfl)) (by decide) (by decide)) (g := (mkF m 9 #[.val (.int p0), .val (.int (3 : Int32)), .unset, .unset, .unset, .unset, .unset] [(.int (3 : Int32))])) rfl (by rw [hml]; rfl) (argsL := [(.int (3 : Int32))]) (rest := []) (lenOf own_pd44 rfl) rfl (by show 2 * 0 + _ ≤ _; exact Nat.le_of_eq rfl) (hb hby at_9) (fun _ _ => ⟨rfl, e0, (by decide : 0 + 0 ≤ _), (by decide : 0 + 0 ≤ _)⟩)
    dsimp only [Pt.U, Pt.locs, Pt.cells, Pt.slots] at X20 l20 y20 z20 st20 hQ20
    subst l20 y20 z20
    obtain ⟨rfl, N20q, eh20⟩ := hQ20
    have N20 := Fr.app N0 N20q
    refine Good.back st20 ?_
    show Good p e below _ (T20.setTop (mkF m 12 #[.val (.int p0), .val (.int (3 : Int32)), .unset, .unset, .unset, .unset, .unset] [(.ref w_PCPS)]))
    refine Good.back (fun _ k => XS.astoreN X20.here hx rfl (hb hby at_12) rfl rfl (l' := #[.val (.int p0), .val (.int (3 : Int32)), .val (.ref w_PCPS), .unset, .unset, .unset, .unset]) rfl k) ?_
    show Good p e below _ (T20.setTop (mkF m 13 #[.val (.int p0), .val (.int (3 : Int32)), .val (.ref w_PCPS), .unset, .unset, .unset, .unset] []))
    refine Good.back (fun _ k => XS.aloadN X20.here hx rfl (hb hby at_13) rfl rfl k) ?_
    show Good p e below _ (T20.setTop (mkF m 14 #[.val (.int p0), .val (.int (3 : Int32)), .val (.ref w_PCPS), .unset, .unset, .unset, .unset] [(.ref w_PCPS)]))
    obtain ⟨T21, X21, e21, st21⟩ := getS2 X20 hx hZ hown (host := "") (Or.inl (hw _ (List.mem_of_getElem? (i := 8) rfl))) Via.refl eh20 S_w_PERPETUAL_DEBT (g := (mkF m 14 #[.val (.int p0), .val (.int (3 : Int32)), .val (.ref w_PCPS), .unset, .unset, .unset, .unset] [(.ref w_PCPS)])) rfl (hb hby at_14)
    refine Good.back st21 ?_
    show Good p e below _ (T21.setTop (mkF m 17 #[.val (.int p0), .val (.int (3 : Int32)), .val (.ref w_PCPS), .unset, .unset, .unset, .unset] [(.ref w_PERPETUAL_DEBT), (.ref w_PCPS)]))
    obtain ⟨cq22, kq22, q22a, q22b, q22c⟩ := isOf hZ e21 E_w_PCPS
    obtain ⟨_, _, ⟨T22, L22, k22, n22⟩, -, X22, ⟨Lc22, hQ22, l22, y22, z22⟩, st22⟩ := X21.virtualBack hx (y := (⟨"com/example/poonji/poonji/RcbInstrumentType", "heldInTier1By", "(Lcom/example/poonji/poonji/RcbInstrumentType$Tier1Cap;)Z"⟩ : MethodName)) (z := (⟨"com/example/poonji/poonji/RcbInstrumentType", "heldInTier1By", "(Lcom/example/poonji/poonji/RcbInstrumentType$Tier1Cap;)Z"⟩ : MethodName)) hown (mvT hZ (hw _ (List.mem_of_getElem? (i := 11) rfl))) (mvT hZ (hw _ (List.mem_of_getElem? (i := 12) rfl))) (notFace_of_selects (args := #[]) (mvT hZ (hw _ (List.mem_of_getElem? (i := 14) rfl)))) (mvT hZ (hw _ (List.mem_of_getElem? (i := 14) rfl))) (mvT hZ (hw _ (List.mem_of_getElem? (i := 13) rfl))) (by decide) (backOf (W := 0) (rm2z l Z a0 hw [] w_PCPS w_PERPETUAL_DEBT  h0 n0 Z0 F_tier1Cap_w_PCPS) hZ (hw _ (List.mem_of_getElem? (i := 15) rfl)) (hw _ (List.mem_of_getElem? (i := 6) rfl)) (by decide) (by decide)) q22a q22c (g := (mkF m 17 #[.val (.int p0), .val (.int (3 : Int32)), .val (.ref w_PCPS), .unset, .unset, .unset, .unset] [(.ref w_PERPETUAL_DEBT), (.ref w_PCPS)])) rfl (by rw [hml]; rfl) (Steps.refl _) (argsL := [(.ref w_PERPETUAL_DEBT)]) (rest := []) (lenOf own_pd45 rfl) rfl (by show 2 * 0 + _ ≤ _; exact Nat.le_of_eq rfl) (hb hby at_17) (fun _ _ => ⟨rfl, e21, (by decide : 0 + 0 ≤ _), (by decide : 0 + 0 ≤ _)⟩)
    dsimp only [Pt.U, Pt.locs, Pt.cells, Pt.slots] at X22 l22 y22 z22 st22 hQ22
    subst l22 y22 z22
    obtain ⟨rfl, N22q, eh22⟩ := hQ22
    have N22 := Fr.app N20 N22q
    refine Good.back (fun _ k => st22.trans k) ?_
    show Good p e below _ (T22.setTop (mkF m 20 #[.val (.int p0), .val (.int (3 : Int32)), .val (.ref w_PCPS), .unset, .unset, .unset, .unset] [(.int (0 : Int32))]))
    refine Good.back (fun _ k => XS.istoreN X22.here hx rfl (hb hby at_20) rfl (l' := #[.val (.int p0), .val (.int (3 : Int32)), .val (.ref w_PCPS), .val (.int (0 : Int32)), .unset, .unset, .unset]) rfl k) ?_
    show Good p e below _ (T22.setTop (mkF m 21 #[.val (.int p0), .val (.int (3 : Int32)), .val (.ref w_PCPS), .val (.int (0 : Int32)), .unset, .unset, .unset] []))
    refine Good.back (fun _ k => XS.aloadN X22.here hx rfl (hb hby at_21) rfl rfl k) ?_
    show Good p e below _ (T22.setTop (mkF m 22 #[.val (.int p0), .val (.int (3 : Int32)), .val (.ref w_PCPS), .val (.int (0 : Int32)), .unset, .unset, .unset] [(.ref w_PCPS)]))
    obtain ⟨T23, X23, e23, st23⟩ := getS2 X22 hx hZ hown (host := "") (Or.inl (hw _ (List.mem_of_getElem? (i := 19) rfl))) Via.refl eh22 S_w_TIER1_INSTRUMENTS (g := (mkF m 22 #[.val (.int p0), .val (.int (3 : Int32)), .val (.ref w_PCPS), .val (.int (0 : Int32)), .unset, .unset, .unset] [(.ref w_PCPS)])) rfl (hb hby at_22)
    refine Good.back st23 ?_
    show Good p e below _ (T23.setTop (mkF m 25 #[.val (.int p0), .val (.int (3 : Int32)), .val (.ref w_PCPS), .val (.int (0 : Int32)), .unset, .unset, .unset] [(.ref w_TIER1_INSTRUMENTS), (.ref w_PCPS)]))
    obtain ⟨cq24, kq24, q24a, q24b, q24c⟩ := isOf hZ e23 E_w_PCPS
    obtain ⟨_, _, ⟨T24, L24, k24, n24⟩, -, X24, ⟨Lc24, hQ24, l24, y24, z24⟩, st24⟩ := X23.virtualBack hx (y := (⟨"com/example/poonji/poonji/RcbInstrumentType", "heldInTier1By", "(Lcom/example/poonji/poonji/RcbInstrumentType$Tier1Cap;)Z"⟩ : MethodName)) (z := (⟨"com/example/poonji/poonji/RcbInstrumentType", "heldInTier1By", "(Lcom/example/poonji/poonji/RcbInstrumentType$Tier1Cap;)Z"⟩ : MethodName)) hown (mvT hZ (hw _ (List.mem_of_getElem? (i := 11) rfl))) (mvT hZ (hw _ (List.mem_of_getElem? (i := 12) rfl))) (notFace_of_selects (args := #[]) (mvT hZ (hw _ (List.mem_of_getElem? (i := 14) rfl)))) (mvT hZ (hw _ (List.mem_of_getElem? (i := 14) rfl))) (mvT hZ (hw _ (List.mem_of_getElem? (i := 13) rfl))) (by decide) (backOf (W := 0) (rm2z l Z a0 hw [] w_PCPS w_TIER1_INSTRUMENTS  h0 n0 Z0 F_tier1Cap_w_PCPS) hZ (hw _ (List.mem_of_getElem? (i := 15) rfl)) (hw _ (List.mem_of_getElem? (i := 6) rfl)) (by decide) (by decide)) q24a q24c (g := (mkF m 25 #[.val (.int p0), .val (.int (3 : Int32)), .val (.ref w_PCPS), .val (.int (0 : Int32)), .unset, .unset, .unset] [(.ref w_TIER1_INSTRUMENTS), (.ref w_PCPS)])) rfl (by rw [hml]; rfl) (Steps.refl _) (argsL := [(.ref w_TIER1_INSTRUMENTS)]) (rest := []) (lenOf own_pd45 rfl) rfl (by show 2 * 0 + _ ≤ _; exact Nat.le_of_eq rfl) (hb hby at_25) (fun _ _ => ⟨rfl, e23, (by decide : 0 + 0 ≤ _), (by decide : 0 + 0 ≤ _)⟩)
    dsimp only [Pt.U, Pt.locs, Pt.cells, Pt.slots] at X24 l24 y24 z24 st24 hQ24
    subst l24 y24 z24
    obtain ⟨rfl, N24q, eh24⟩ := hQ24
    have N24 := Fr.app N22 N24q
    refine Good.back (fun _ k => st24.trans k) ?_
    show Good p e below _ (T24.setTop (mkF m 28 #[.val (.int p0), .val (.int (3 : Int32)), .val (.ref w_PCPS), .val (.int (0 : Int32)), .unset, .unset, .unset] [(.int (0 : Int32))]))
    refine Good.back (fun _ k => XS.istore X24.here hx rfl (hb hby at_28) rfl (l' := #[.val (.int p0), .val (.int (3 : Int32)), .val (.ref w_PCPS), .val (.int (0 : Int32)), .val (.int (0 : Int32)), .unset, .unset]) rfl k) ?_
    show Good p e below _ (T24.setTop (mkF m 30 #[.val (.int p0), .val (.int (3 : Int32)), .val (.ref w_PCPS), .val (.int (0 : Int32)), .val (.int (0 : Int32)), .unset, .unset] []))
    refine Good.back (fun _ k => XS.iloadN X24.here hx rfl (hb hby at_30) rfl k) ?_
    show Good p e below _ (T24.setTop (mkF m 31 #[.val (.int p0), .val (.int (3 : Int32)), .val (.ref w_PCPS), .val (.int (0 : Int32)), .val (.int (0 : Int32)), .unset, .unset] [(.int (3 : Int32))]))
    refine Good.back (fun _ k => XS.iconst X24.here hx rfl (hb hby at_31) k) ?_
    show Good p e below _ (T24.setTop (mkF m 32 #[.val (.int p0), .val (.int (3 : Int32)), .val (.ref w_PCPS), .val (.int (0 : Int32)), .val (.int (0 : Int32)), .unset, .unset] [(.int (1 : Int32)), (.int (3 : Int32))]))
    refine Good.back (fun _ k => XS.icmpNo X24.here hx rfl (hb hby at_32) rfl (feq (by decide : ¬ ((3 : Int32) = (1 : Int32)))).1 k) ?_
    show Good p e below _ (T24.setTop (mkF m 35 #[.val (.int p0), .val (.int (3 : Int32)), .val (.ref w_PCPS), .val (.int (0 : Int32)), .val (.int (0 : Int32)), .unset, .unset] []))
    refine Good.back (fun _ k => XS.iloadN X24.here hx rfl (hb hby at_35) rfl k) ?_
    show Good p e below _ (T24.setTop (mkF m 36 #[.val (.int p0), .val (.int (3 : Int32)), .val (.ref w_PCPS), .val (.int (0 : Int32)), .val (.int (0 : Int32)), .unset, .unset] [(.int (3 : Int32))]))
    refine Good.back (fun _ k => XS.iconst X24.here hx rfl (hb hby at_36) k) ?_
    show Good p e below _ (T24.setTop (mkF m 37 #[.val (.int p0), .val (.int (3 : Int32)), .val (.ref w_PCPS), .val (.int (0 : Int32)), .val (.int (0 : Int32)), .unset, .unset] [(.int (2 : Int32)), (.int (3 : Int32))]))
    refine Good.back (fun _ k => XS.icmpYes X24.here hx rfl (pc0 := 37) (pc' := 44) rfl (hb hby at_37) rfl (feq (by decide : ¬ ((3 : Int32) = (2 : Int32)))).2 (by decide) (by decide) k) ?_
    show Good p e below _ (T24.setTop (mkF m 44 #[.val (.int p0), .val (.int (3 : Int32)), .val (.ref w_PCPS), .val (.int (0 : Int32)), .val (.int (0 : Int32)), .unset, .unset] []))
    refine Good.back (fun _ k => XS.iconst X24.here hx rfl (hb hby at_44) k) ?_
    show Good p e below _ (T24.setTop (mkF m 45 #[.val (.int p0), .val (.int (3 : Int32)), .val (.ref w_PCPS), .val (.int (0 : Int32)), .val (.int (0 : Int32)), .unset, .unset] [(.int (0 : Int32))]))
    refine Good.back (fun _ k => XS.istore X24.here hx rfl (hb hby at_45) rfl (l' := #[.val (.int p0), .val (.int (3 : Int32)), .val (.ref w_PCPS), .val (.int (0 : Int32)), .val (.int (0 : Int32)), .val (.int (0 : Int32)), .unset]) rfl k) ?_
    show Good p e below _ (T24.setTop (mkF m 47 #[.val (.int p0), .val (.int (3 : Int32)), .val (.ref w_PCPS), .val (.int (0 : Int32)), .val (.int (0 : Int32)), .val (.int (0 : Int32)), .unset] []))
    refine Good.back (fun _ k => XS.iloadN X24.here hx rfl (hb hby at_47) rfl k) ?_
    show Good p e below _ (T24.setTop (mkF m 48 #[.val (.int p0), .val (.int (3 : Int32)), .val (.ref w_PCPS), .val (.int (0 : Int32)), .val (.int (0 : Int32)), .val (.int (0 : Int32)), .unset] [(.int (3 : Int32))]))
    refine Good.back (fun _ k => XS.ifYes X24.here hx rfl (pc0 := 48) (pc' := 55) rfl (hb hby at_48) rfl ((if0 _ _).trans (feq (by decide : ¬ ((3 : Int32) = (0 : Int32)))).2) (by decide) (by decide) k) ?_
    show Good p e below _ (T24.setTop (mkF m 55 #[.val (.int p0), .val (.int (3 : Int32)), .val (.ref w_PCPS), .val (.int (0 : Int32)), .val (.int (0 : Int32)), .val (.int (0 : Int32)), .unset] []))
    refine Good.back (fun _ k => XS.iconst X24.here hx rfl (hb hby at_55) k) ?_
    show Good p e below _ (T24.setTop (mkF m 56 #[.val (.int p0), .val (.int (3 : Int32)), .val (.ref w_PCPS), .val (.int (0 : Int32)), .val (.int (0 : Int32)), .val (.int (0 : Int32)), .unset] [(.int (0 : Int32))]))
    refine Good.back (fun _ k => XS.istore X24.here hx rfl (hb hby at_56) rfl (l' := #[.val (.int p0), .val (.int (3 : Int32)), .val (.ref w_PCPS), .val (.int (0 : Int32)), .val (.int (0 : Int32)), .val (.int (0 : Int32)), .val (.int (0 : Int32))]) rfl k) ?_
    show Good p e below _ (T24.setTop (mkF m 58 #[.val (.int p0), .val (.int (3 : Int32)), .val (.ref w_PCPS), .val (.int (0 : Int32)), .val (.int (0 : Int32)), .val (.int (0 : Int32)), .val (.int (0 : Int32))] []))
    refine Good.back (fun _ k => XS.iloadN X24.here hx rfl (hb hby at_58) rfl k) ?_
    show Good p e below _ (T24.setTop (mkF m 59 #[.val (.int p0), .val (.int (3 : Int32)), .val (.ref w_PCPS), .val (.int (0 : Int32)), .val (.int (0 : Int32)), .val (.int (0 : Int32)), .val (.int (0 : Int32))] [(.int (0 : Int32))]))
    refine Good.back (fun _ k => XS.iload X24.here hx rfl (hb hby at_59) rfl k) ?_
    show Good p e below _ (T24.setTop (mkF m 61 #[.val (.int p0), .val (.int (3 : Int32)), .val (.ref w_PCPS), .val (.int (0 : Int32)), .val (.int (0 : Int32)), .val (.int (0 : Int32)), .val (.int (0 : Int32))] [(.int (0 : Int32)), (.int (0 : Int32))]))
    refine Good.back (fun _ k => XS.icmpNo X24.here hx rfl (hb hby at_61) rfl (teq (by decide : ((0 : Int32) = (0 : Int32)))).2 k) ?_
    show Good p e below _ (T24.setTop (mkF m 64 #[.val (.int p0), .val (.int (3 : Int32)), .val (.ref w_PCPS), .val (.int (0 : Int32)), .val (.int (0 : Int32)), .val (.int (0 : Int32)), .val (.int (0 : Int32))] []))
    refine Good.back (fun _ k => XS.iload X24.here hx rfl (hb hby at_64) rfl k) ?_
    show Good p e below _ (T24.setTop (mkF m 66 #[.val (.int p0), .val (.int (3 : Int32)), .val (.ref w_PCPS), .val (.int (0 : Int32)), .val (.int (0 : Int32)), .val (.int (0 : Int32)), .val (.int (0 : Int32))] [(.int (0 : Int32))]))
    refine Good.back (fun _ k => XS.iload X24.here hx rfl (hb hby at_66) rfl k) ?_
    show Good p e below _ (T24.setTop (mkF m 68 #[.val (.int p0), .val (.int (3 : Int32)), .val (.ref w_PCPS), .val (.int (0 : Int32)), .val (.int (0 : Int32)), .val (.int (0 : Int32)), .val (.int (0 : Int32))] [(.int (0 : Int32)), (.int (0 : Int32))]))
    refine Good.back (fun _ k => XS.icmpNo X24.here hx rfl (hb hby at_68) rfl (teq (by decide : ((0 : Int32) = (0 : Int32)))).2 k) ?_
    show Good p e below _ (T24.setTop (mkF m 71 #[.val (.int p0), .val (.int (3 : Int32)), .val (.ref w_PCPS), .val (.int (0 : Int32)), .val (.int (0 : Int32)), .val (.int (0 : Int32)), .val (.int (0 : Int32))] []))
    refine Good.back (fun _ k => XS.iconst X24.here hx rfl (hb hby at_71) k) ?_
    show Good p e below _ (T24.setTop (mkF m 72 #[.val (.int p0), .val (.int (3 : Int32)), .val (.ref w_PCPS), .val (.int (0 : Int32)), .val (.int (0 : Int32)), .val (.int (0 : Int32)), .val (.int (0 : Int32))] [(.int (1 : Int32))]))
    refine Good.back (fun _ k => XS.goto X24.here hx rfl (pc0 := 72) (pc' := 76) rfl (hb hby at_72) (by decide) (by decide) k) ?_
    show Good p e below _ (T24.setTop (mkF m 76 #[.val (.int p0), .val (.int (3 : Int32)), .val (.ref w_PCPS), .val (.int (0 : Int32)), .val (.int (0 : Int32)), .val (.int (0 : Int32)), .val (.int (0 : Int32))] [(.int (1 : Int32))]))
    obtain ⟨fs25, hr25, hrun25, hended25, hW25, hsame25⟩ := X24.leave (v := some (.int (1 : Int32))) (fun h => by rw [Bd.returns] at h; cases h)
    refine Good.done (retN X24 hx (t := .boolean) Bd.returns (by simp) (hb hby at_76) hr25) hrun25 hended25 ⟨_, _, rfl, ?_, ⟨_, rfl⟩, hW25, hsame25.mono (by decide) (by decide)⟩
    show Q0 Z p0 w_PNCPS w_PERPETUAL_DEBT w_TIER1_INSTRUMENTS w_PCPS w_LTSB w_LTD w_IPDI w_PDI w_RNCPS w_RCPS h0 n0 _ T24.heap _
    rw [eh24]
    exact ⟨rfl, N24⟩
  · have he1' : ((p0 &&& (2147483647 : Int32)) % (8 : Int32)) = (4 : Int32) := he1
    rw [he1']
    show Good p e below _ (s₁.setTop (mkF m 8 #[.val (.int p0), .val (.int (4 : Int32)), .unset, .unset, .unset, .unset, .unset] []))
    refine Good.back (fun _ k => XS.iloadN X0.here hx rfl (hb hby at_8) rfl k) ?_
    show Good p e below _ (s₁.setTop (mkF m 9 #[.val (.int p0), .val (.int (4 : Int32)), .unset, .unset, .unset, .unset, .unset] [(.int (4 : Int32))]))
    obtain ⟨_, _, ⟨T26, L26, k26, n26⟩, -, X26, ⟨Lc26, hQ26, l26, y26, z26⟩, st26⟩ := Jvm.LawKit.callS X0 hx (y := (⟨"com/example/poonji/poonji/RcbInstrumentTypeHeldInTier1ByPinLaw", "pick", "(I)Lcom/example/poonji/poonji/RcbInstrumentType;"⟩ : MethodName)) hown (mvT hZ (hw _ (List.mem_of_getElem? (i := 1) rfl))) (mvT hZ (hw _ (List.mem_of_getElem? (i := 2) rfl))) (mvT hZ (hw _ (List.mem_of_getElem? (i := 3) rfl))) (mvT hZ (hw _ (List.mem_of_getElem? (i := 4) rfl))) (by decide) (backOf (W := 0) (rm1_4 l Z a0 hw []  w_RNCPS h0 n0 Z0 S_w_RNCPS) hZ (hw _ (List.mem_of_getElem? (i := 4) rfl)) (hw _ (List.mem_of_getElem? (i := 3) rfl)) (by decide) (by decide)) (g := (mkF m 9 #[.val (.int p0), .val (.int (4 : Int32)), .unset, .unset, .unset, .unset, .unset] [(.int (4 : Int32))])) rfl (by rw [hml]; rfl) (argsL := [(.int (4 : Int32))]) (rest := []) (lenOf own_pd44 rfl) rfl (by show 2 * 0 + _ ≤ _; exact Nat.le_of_eq rfl) (hb hby at_9) (fun _ _ => ⟨rfl, e0, (by decide : 0 + 0 ≤ _), (by decide : 0 + 0 ≤ _)⟩)
    dsimp only [Pt.U, Pt.locs, Pt.cells, Pt.slots] at X26 l26 y26 z26 st26 hQ26
    subst l26 y26 z26
    obtain ⟨rfl, N26q, eh26⟩ := hQ26
    have N26 := Fr.app N0 N26q
    refine Good.back st26 ?_
    show Good p e below _ (T26.setTop (mkF m 12 #[.val (.int p0), .val (.int (4 : Int32)), .unset, .unset, .unset, .unset, .unset] [(.ref w_RNCPS)]))
    refine Good.back (fun _ k => XS.astoreN X26.here hx rfl (hb hby at_12) rfl rfl (l' := #[.val (.int p0), .val (.int (4 : Int32)), .val (.ref w_RNCPS), .unset, .unset, .unset, .unset]) rfl k) ?_
    show Good p e below _ (T26.setTop (mkF m 13 #[.val (.int p0), .val (.int (4 : Int32)), .val (.ref w_RNCPS), .unset, .unset, .unset, .unset] []))
    refine Good.back (fun _ k => XS.aloadN X26.here hx rfl (hb hby at_13) rfl rfl k) ?_
    show Good p e below _ (T26.setTop (mkF m 14 #[.val (.int p0), .val (.int (4 : Int32)), .val (.ref w_RNCPS), .unset, .unset, .unset, .unset] [(.ref w_RNCPS)]))
    obtain ⟨T27, X27, e27, st27⟩ := getS2 X26 hx hZ hown (host := "") (Or.inl (hw _ (List.mem_of_getElem? (i := 8) rfl))) Via.refl eh26 S_w_PERPETUAL_DEBT (g := (mkF m 14 #[.val (.int p0), .val (.int (4 : Int32)), .val (.ref w_RNCPS), .unset, .unset, .unset, .unset] [(.ref w_RNCPS)])) rfl (hb hby at_14)
    refine Good.back st27 ?_
    show Good p e below _ (T27.setTop (mkF m 17 #[.val (.int p0), .val (.int (4 : Int32)), .val (.ref w_RNCPS), .unset, .unset, .unset, .unset] [(.ref w_PERPETUAL_DEBT), (.ref w_RNCPS)]))
    obtain ⟨cq28, kq28, q28a, q28b, q28c⟩ := isOf hZ e27 E_w_RNCPS
    obtain ⟨_, _, ⟨T28, L28, k28, n28⟩, -, X28, ⟨Lc28, hQ28, l28, y28, z28⟩, st28⟩ := X27.virtualBack hx (y := (⟨"com/example/poonji/poonji/RcbInstrumentType", "heldInTier1By", "(Lcom/example/poonji/poonji/RcbInstrumentType$Tier1Cap;)Z"⟩ : MethodName)) (z := (⟨"com/example/poonji/poonji/RcbInstrumentType", "heldInTier1By", "(Lcom/example/poonji/poonji/RcbInstrumentType$Tier1Cap;)Z"⟩ : MethodName)) hown (mvT hZ (hw _ (List.mem_of_getElem? (i := 11) rfl))) (mvT hZ (hw _ (List.mem_of_getElem? (i := 12) rfl))) (notFace_of_selects (args := #[]) (mvT hZ (hw _ (List.mem_of_getElem? (i := 14) rfl)))) (mvT hZ (hw _ (List.mem_of_getElem? (i := 14) rfl))) (mvT hZ (hw _ (List.mem_of_getElem? (i := 13) rfl))) (by decide) (backOf (W := 0) (rm2z l Z a0 hw [] w_RNCPS w_PERPETUAL_DEBT  h0 n0 Z0 F_tier1Cap_w_RNCPS) hZ (hw _ (List.mem_of_getElem? (i := 15) rfl)) (hw _ (List.mem_of_getElem? (i := 6) rfl)) (by decide) (by decide)) q28a q28c (g := (mkF m 17 #[.val (.int p0), .val (.int (4 : Int32)), .val (.ref w_RNCPS), .unset, .unset, .unset, .unset] [(.ref w_PERPETUAL_DEBT), (.ref w_RNCPS)])) rfl (by rw [hml]; rfl) (Steps.refl _) (argsL := [(.ref w_PERPETUAL_DEBT)]) (rest := []) (lenOf own_pd45 rfl) rfl (by show 2 * 0 + _ ≤ _; exact Nat.le_of_eq rfl) (hb hby at_17) (fun _ _ => ⟨rfl, e27, (by decide : 0 + 0 ≤ _), (by decide : 0 + 0 ≤ _)⟩)
    dsimp only [Pt.U, Pt.locs, Pt.cells, Pt.slots] at X28 l28 y28 z28 st28 hQ28
    subst l28 y28 z28
    obtain ⟨rfl, N28q, eh28⟩ := hQ28
    have N28 := Fr.app N26 N28q
    refine Good.back (fun _ k => st28.trans k) ?_
    show Good p e below _ (T28.setTop (mkF m 20 #[.val (.int p0), .val (.int (4 : Int32)), .val (.ref w_RNCPS), .unset, .unset, .unset, .unset] [(.int (0 : Int32))]))
    refine Good.back (fun _ k => XS.istoreN X28.here hx rfl (hb hby at_20) rfl (l' := #[.val (.int p0), .val (.int (4 : Int32)), .val (.ref w_RNCPS), .val (.int (0 : Int32)), .unset, .unset, .unset]) rfl k) ?_
    show Good p e below _ (T28.setTop (mkF m 21 #[.val (.int p0), .val (.int (4 : Int32)), .val (.ref w_RNCPS), .val (.int (0 : Int32)), .unset, .unset, .unset] []))
    refine Good.back (fun _ k => XS.aloadN X28.here hx rfl (hb hby at_21) rfl rfl k) ?_
    show Good p e below _ (T28.setTop (mkF m 22 #[.val (.int p0), .val (.int (4 : Int32)), .val (.ref w_RNCPS), .val (.int (0 : Int32)), .unset, .unset, .unset] [(.ref w_RNCPS)]))
    obtain ⟨T29, X29, e29, st29⟩ := getS2 X28 hx hZ hown (host := "") (Or.inl (hw _ (List.mem_of_getElem? (i := 19) rfl))) Via.refl eh28 S_w_TIER1_INSTRUMENTS (g := (mkF m 22 #[.val (.int p0), .val (.int (4 : Int32)), .val (.ref w_RNCPS), .val (.int (0 : Int32)), .unset, .unset, .unset] [(.ref w_RNCPS)])) rfl (hb hby at_22)
    refine Good.back st29 ?_
    show Good p e below _ (T29.setTop (mkF m 25 #[.val (.int p0), .val (.int (4 : Int32)), .val (.ref w_RNCPS), .val (.int (0 : Int32)), .unset, .unset, .unset] [(.ref w_TIER1_INSTRUMENTS), (.ref w_RNCPS)]))
    obtain ⟨cq30, kq30, q30a, q30b, q30c⟩ := isOf hZ e29 E_w_RNCPS
    obtain ⟨_, _, ⟨T30, L30, k30, n30⟩, -, X30, ⟨Lc30, hQ30, l30, y30, z30⟩, st30⟩ := X29.virtualBack hx (y := (⟨"com/example/poonji/poonji/RcbInstrumentType", "heldInTier1By", "(Lcom/example/poonji/poonji/RcbInstrumentType$Tier1Cap;)Z"⟩ : MethodName)) (z := (⟨"com/example/poonji/poonji/RcbInstrumentType", "heldInTier1By", "(Lcom/example/poonji/poonji/RcbInstrumentType$Tier1Cap;)Z"⟩ : MethodName)) hown (mvT hZ (hw _ (List.mem_of_getElem? (i := 11) rfl))) (mvT hZ (hw _ (List.mem_of_getElem? (i := 12) rfl))) (notFace_of_selects (args := #[]) (mvT hZ (hw _ (List.mem_of_getElem? (i := 14) rfl)))) (mvT hZ (hw _ (List.mem_of_getElem? (i := 14) rfl))) (mvT hZ (hw _ (List.mem_of_getElem? (i := 13) rfl))) (by decide) (backOf (W := 0) (rm2z l Z a0 hw [] w_RNCPS w_TIER1_INSTRUMENTS  h0 n0 Z0 F_tier1Cap_w_RNCPS) hZ (hw _ (List.mem_of_getElem? (i := 15) rfl)) (hw _ (List.mem_of_getElem? (i := 6) rfl)) (by decide) (by decide)) q30a q30c (g := (mkF m 25 #[.val (.int p0), .val (.int (4 : Int32)), .val (.ref w_RNCPS), .val (.int (0 : Int32)), .unset, .unset, .unset] [(.ref w_TIER1_INSTRUMENTS), (.ref w_RNCPS)])) rfl (by rw [hml]; rfl) (Steps.refl _) (argsL := [(.ref w_TIER1_INSTRUMENTS)]) (rest := []) (lenOf own_pd45 rfl) rfl (by show 2 * 0 + _ ≤ _; exact Nat.le_of_eq rfl) (hb hby at_25) (fun _ _ => ⟨rfl, e29, (by decide : 0 + 0 ≤ _), (by decide : 0 + 0 ≤ _)⟩)
    dsimp only [Pt.U, Pt.locs, Pt.cells, Pt.slots] at X30 l30 y30 z30 st30 hQ30
    subst l30 y30 z30
    obtain ⟨rfl, N30q, eh30⟩ := hQ30
    have N30 := Fr.app N28 N30q
    refine Good.back (fun _ k => st30.trans k) ?_
    show Good p e below _ (T30.setTop (mkF m 28 #[.val (.int p0), .val (.int (4 : Int32)), .val (.ref w_RNCPS), .val (.int (0 : Int32)), .unset, .unset, .unset] [(.int (0 : Int32))]))
    refine Good.back (fun _ k => XS.istore X30.here hx rfl (hb hby at_28) rfl (l' := #[.val (.int p0), .val (.int (4 : Int32)), .val (.ref w_RNCPS), .val (.int (0 : Int32)), .val (.int (0 : Int32)), .unset, .unset]) rfl k) ?_
    show Good p e below _ (T30.setTop (mkF m 30 #[.val (.int p0), .val (.int (4 : Int32)), .val (.ref w_RNCPS), .val (.int (0 : Int32)), .val (.int (0 : Int32)), .unset, .unset] []))
    refine Good.back (fun _ k => XS.iloadN X30.here hx rfl (hb hby at_30) rfl k) ?_
    show Good p e below _ (T30.setTop (mkF m 31 #[.val (.int p0), .val (.int (4 : Int32)), .val (.ref w_RNCPS), .val (.int (0 : Int32)), .val (.int (0 : Int32)), .unset, .unset] [(.int (4 : Int32))]))
    refine Good.back (fun _ k => XS.iconst X30.here hx rfl (hb hby at_31) k) ?_
    show Good p e below _ (T30.setTop (mkF m 32 #[.val (.int p0), .val (.int (4 : Int32)), .val (.ref w_RNCPS), .val (.int (0 : Int32)), .val (.int (0 : Int32)), .unset, .unset] [(.int (1 : Int32)), (.int (4 : Int32))]))
    refine Good.back (fun _ k => XS.icmpNo X30.here hx rfl (hb hby at_32) rfl (feq (by decide : ¬ ((4 : Int32) = (1 : Int32)))).1 k) ?_
    show Good p e below _ (T30.setTop (mkF m 35 #[.val (.int p0), .val (.int (4 : Int32)), .val (.ref w_RNCPS), .val (.int (0 : Int32)), .val (.int (0 : Int32)), .unset, .unset] []))
    refine Good.back (fun _ k => XS.iloadN X30.here hx rfl (hb hby at_35) rfl k) ?_
    show Good p e below _ (T30.setTop (mkF m 36 #[.val (.int p0), .val (.int (4 : Int32)), .val (.ref w_RNCPS), .val (.int (0 : Int32)), .val (.int (0 : Int32)), .unset, .unset] [(.int (4 : Int32))]))
    refine Good.back (fun _ k => XS.iconst X30.here hx rfl (hb hby at_36) k) ?_
    show Good p e below _ (T30.setTop (mkF m 37 #[.val (.int p0), .val (.int (4 : Int32)), .val (.ref w_RNCPS), .val (.int (0 : Int32)), .val (.int (0 : Int32)), .unset, .unset] [(.int (2 : Int32)), (.int (4 : Int32))]))
    refine Good.back (fun _ k => XS.icmpYes X30.here hx rfl (pc0 := 37) (pc' := 44) rfl (hb hby at_37) rfl (feq (by decide : ¬ ((4 : Int32) = (2 : Int32)))).2 (by decide) (by decide) k) ?_
    show Good p e below _ (T30.setTop (mkF m 44 #[.val (.int p0), .val (.int (4 : Int32)), .val (.ref w_RNCPS), .val (.int (0 : Int32)), .val (.int (0 : Int32)), .unset, .unset] []))
    refine Good.back (fun _ k => XS.iconst X30.here hx rfl (hb hby at_44) k) ?_
    show Good p e below _ (T30.setTop (mkF m 45 #[.val (.int p0), .val (.int (4 : Int32)), .val (.ref w_RNCPS), .val (.int (0 : Int32)), .val (.int (0 : Int32)), .unset, .unset] [(.int (0 : Int32))]))
    refine Good.back (fun _ k => XS.istore X30.here hx rfl (hb hby at_45) rfl (l' := #[.val (.int p0), .val (.int (4 : Int32)), .val (.ref w_RNCPS), .val (.int (0 : Int32)), .val (.int (0 : Int32)), .val (.int (0 : Int32)), .unset]) rfl k) ?_
    show Good p e below _ (T30.setTop (mkF m 47 #[.val (.int p0), .val (.int (4 : Int32)), .val (.ref w_RNCPS), .val (.int (0 : Int32)), .val (.int (0 : Int32)), .val (.int (0 : Int32)), .unset] []))
    refine Good.back (fun _ k => XS.iloadN X30.here hx rfl (hb hby at_47) rfl k) ?_
    show Good p e below _ (T30.setTop (mkF m 48 #[.val (.int p0), .val (.int (4 : Int32)), .val (.ref w_RNCPS), .val (.int (0 : Int32)), .val (.int (0 : Int32)), .val (.int (0 : Int32)), .unset] [(.int (4 : Int32))]))
    refine Good.back (fun _ k => XS.ifYes X30.here hx rfl (pc0 := 48) (pc' := 55) rfl (hb hby at_48) rfl ((if0 _ _).trans (feq (by decide : ¬ ((4 : Int32) = (0 : Int32)))).2) (by decide) (by decide) k) ?_
    show Good p e below _ (T30.setTop (mkF m 55 #[.val (.int p0), .val (.int (4 : Int32)), .val (.ref w_RNCPS), .val (.int (0 : Int32)), .val (.int (0 : Int32)), .val (.int (0 : Int32)), .unset] []))
    refine Good.back (fun _ k => XS.iconst X30.here hx rfl (hb hby at_55) k) ?_
    show Good p e below _ (T30.setTop (mkF m 56 #[.val (.int p0), .val (.int (4 : Int32)), .val (.ref w_RNCPS), .val (.int (0 : Int32)), .val (.int (0 : Int32)), .val (.int (0 : Int32)), .unset] [(.int (0 : Int32))]))
    refine Good.back (fun _ k => XS.istore X30.here hx rfl (hb hby at_56) rfl (l' := #[.val (.int p0), .val (.int (4 : Int32)), .val (.ref w_RNCPS), .val (.int (0 : Int32)), .val (.int (0 : Int32)), .val (.int (0 : Int32)), .val (.int (0 : Int32))]) rfl k) ?_
    show Good p e below _ (T30.setTop (mkF m 58 #[.val (.int p0), .val (.int (4 : Int32)), .val (.ref w_RNCPS), .val (.int (0 : Int32)), .val (.int (0 : Int32)), .val (.int (0 : Int32)), .val (.int (0 : Int32))] []))
    refine Good.back (fun _ k => XS.iloadN X30.here hx rfl (hb hby at_58) rfl k) ?_
    show Good p e below _ (T30.setTop (mkF m 59 #[.val (.int p0), .val (.int (4 : Int32)), .val (.ref w_RNCPS), .val (.int (0 : Int32)), .val (.int (0 : Int32)), .val (.int (0 : Int32)), .val (.int (0 : Int32))] [(.int (0 : Int32))]))
    refine Good.back (fun _ k => XS.iload X30.here hx rfl (hb hby at_59) rfl k) ?_
    show Good p e below _ (T30.setTop (mkF m 61 #[.val (.int p0), .val (.int (4 : Int32)), .val (.ref w_RNCPS), .val (.int (0 : Int32)), .val (.int (0 : Int32)), .val (.int (0 : Int32)), .val (.int (0 : Int32))] [(.int (0 : Int32)), (.int (0 : Int32))]))
    refine Good.back (fun _ k => XS.icmpNo X30.here hx rfl (hb hby at_61) rfl (teq (by decide : ((0 : Int32) = (0 : Int32)))).2 k) ?_
    show Good p e below _ (T30.setTop (mkF m 64 #[.val (.int p0), .val (.int (4 : Int32)), .val (.ref w_RNCPS), .val (.int (0 : Int32)), .val (.int (0 : Int32)), .val (.int (0 : Int32)), .val (.int (0 : Int32))] []))
    refine Good.back (fun _ k => XS.iload X30.here hx rfl (hb hby at_64) rfl k) ?_
    show Good p e below _ (T30.setTop (mkF m 66 #[.val (.int p0), .val (.int (4 : Int32)), .val (.ref w_RNCPS), .val (.int (0 : Int32)), .val (.int (0 : Int32)), .val (.int (0 : Int32)), .val (.int (0 : Int32))] [(.int (0 : Int32))]))
    refine Good.back (fun _ k => XS.iload X30.here hx rfl (hb hby at_66) rfl k) ?_
    show Good p e below _ (T30.setTop (mkF m 68 #[.val (.int p0), .val (.int (4 : Int32)), .val (.ref w_RNCPS), .val (.int (0 : Int32)), .val (.int (0 : Int32)), .val (.int (0 : Int32)), .val (.int (0 : Int32))] [(.int (0 : Int32)), (.int (0 : Int32))]))
    refine Good.back (fun _ k => XS.icmpNo X30.here hx rfl (hb hby at_68) rfl (teq (by decide : ((0 : Int32) = (0 : Int32)))).2 k) ?_
    show Good p e below _ (T30.setTop (mkF m 71 #[.val (.int p0), .val (.int (4 : Int32)), .val (.ref w_RNCPS), .val (.int (0 : Int32)), .val (.int (0 : Int32)), .val (.int (0 : Int32)), .val (.int (0 : Int32))] []))
    refine Good.back (fun _ k => XS.iconst X30.here hx rfl (hb hby at_71) k) ?_
    show Good p e below _ (T30.setTop (mkF m 72 #[.val (.int p0), .val (.int (4 : Int32)), .val (.ref w_RNCPS), .val (.int (0 : Int32)), .val (.int (0 : Int32)), .val (.int (0 : Int32)), .val (.int (0 : Int32))] [(.int (1 : Int32))]))
    refine Good.back (fun _ k => XS.goto X30.here hx rfl (pc0 := 72) (pc' := 76) rfl (hb hby at_72) (by decide) (by decide) k) ?_
    show Good p e below _ (T30.setTop (mkF m 76 #[.val (.int p0), .val (.int (4 : Int32)), .val (.ref w_RNCPS), .val (.int (0 : Int32)), .val (.int (0 : Int32)), .val (.int (0 : Int32)), .val (.int (0 : Int32))] [(.int (1 : Int32))]))
    obtain ⟨fs31, hr31, hrun31, hended31, hW31, hsame31⟩ := X30.leave (v := some (.int (1 : Int32))) (fun h => by rw [Bd.returns] at h; cases h)
    refine Good.done (retN X30 hx (t := .boolean) Bd.returns (by simp) (hb hby at_76) hr31) hrun31 hended31 ⟨_, _, rfl, ?_, ⟨_, rfl⟩, hW31, hsame31.mono (by decide) (by decide)⟩
    show Q0 Z p0 w_PNCPS w_PERPETUAL_DEBT w_TIER1_INSTRUMENTS w_PCPS w_LTSB w_LTD w_IPDI w_PDI w_RNCPS w_RCPS h0 n0 _ T30.heap _
    rw [eh30]
    exact ⟨rfl, N30⟩
  · have he1' : ((p0 &&& (2147483647 : Int32)) % (8 : Int32)) = (5 : Int32) := he1
    rw [he1']
    show Good p e below _ (s₁.setTop (mkF m 8 #[.val (.int p0), .val (.int (5 : Int32)), .unset, .unset, .unset, .unset, .unset] []))
    refine Good.back (fun _ k => XS.iloadN X0.here hx rfl (hb hby at_8) rfl k) ?_
    show Good p e below _ (s₁.setTop (mkF m 9 #[.val (.int p0), .val (.int (5 : Int32)), .unset, .unset, .unset, .unset, .unset] [(.int (5 : Int32))]))
    obtain ⟨_, _, ⟨T32, L32, k32, n32⟩, -, X32, ⟨Lc32, hQ32, l32, y32, z32⟩, st32⟩ := Jvm.LawKit.callS X0 hx (y := (⟨"com/example/poonji/poonji/RcbInstrumentTypeHeldInTier1ByPinLaw", "pick", "(I)Lcom/example/poonji/poonji/RcbInstrumentType;"⟩ : MethodName)) hown (mvT hZ (hw _ (List.mem_of_getElem? (i := 1) rfl))) (mvT hZ (hw _ (List.mem_of_getElem? (i := 2) rfl))) (mvT hZ (hw _ (List.mem_of_getElem? (i := 3) rfl))) (mvT hZ (hw _ (List.mem_of_getElem? (i := 4) rfl))) (by decide) (backOf (W := 0) (rm1_5 l Z a0 hw []  w_RCPS h0 n0 Z0 S_w_RCPS) hZ (hw _ (List.mem_of_getElem? (i := 4) rfl)) (hw _ (List.mem_of_getElem? (i := 3) rfl)) (by decide) (by decide)) (g := (mkF m 9 #[.val (.int p0), .val (.int (5 : Int32)), .unset, .unset, .unset, .unset, .unset] [(.int (5 : Int32))])) rfl (by rw [hml]; rfl) (argsL := [(.int (5 : Int32))]) (rest := []) (lenOf own_pd44 rfl) rfl (by show 2 * 0 + _ ≤ _; exact Nat.le_of_eq rfl) (hb hby at_9) (fun _ _ => ⟨rfl, e0, (by decide : 0 + 0 ≤ _), (by decide : 0 + 0 ≤ _)⟩)
    dsimp only [Pt.U, Pt.locs, Pt.cells, Pt.slots] at X32 l32 y32 z32 st32 hQ32
    subst l32 y32 z32
    obtain ⟨rfl, N32q, eh32⟩ := hQ32
    have N32 := Fr.app N0 N32q
    refine Good.back st32 ?_
    show Good p e below _ (T32.setTop (mkF m 12 #[.val (.int p0), .val (.int (5 : Int32)), .unset, .unset, .unset, .unset, .unset] [(.ref w_RCPS)]))
    refine Good.back (fun _ k => XS.astoreN X32.here hx rfl (hb hby at_12) rfl rfl (l' := #[.val (.int p0), .val (.int (5 : Int32)), .val (.ref w_RCPS), .unset, .unset, .unset, .unset]) rfl k) ?_
    show Good p e below _ (T32.setTop (mkF m 13 #[.val (.int p0), .val (.int (5 : Int32)), .val (.ref w_RCPS), .unset, .unset, .unset, .unset] []))
    refine Good.back (fun _ k => XS.aloadN X32.here hx rfl (hb hby at_13) rfl rfl k) ?_
    show Good p e below _ (T32.setTop (mkF m 14 #[.val (.int p0), .val (.int (5 : Int32)), .val (.ref w_RCPS), .unset, .unset, .unset, .unset] [(.ref w_RCPS)]))
    obtain ⟨T33, X33, e33, st33⟩ := getS2 X32 hx hZ hown (host := "") (Or.inl (hw _ (List.mem_of_getElem? (i := 8) rfl))) Via.refl eh32 S_w_PERPETUAL_DEBT (g := (mkF m 14 #[.val (.int p0), .val (.int (5 : Int32)), .val (.ref w_RCPS), .unset, .unset, .unset, .unset] [(.ref w_RCPS)])) rfl (hb hby at_14)
    refine Good.back st33 ?_
    show Good p e below _ (T33.setTop (mkF m 17 #[.val (.int p0), .val (.int (5 : Int32)), .val (.ref w_RCPS), .unset, .unset, .unset, .unset] [(.ref w_PERPETUAL_DEBT), (.ref w_RCPS)]))
    obtain ⟨cq34, kq34, q34a, q34b, q34c⟩ := isOf hZ e33 E_w_RCPS
    obtain ⟨_, _, ⟨T34, L34, k34, n34⟩, -, X34, ⟨Lc34, hQ34, l34, y34, z34⟩, st34⟩ := X33.virtualBack hx (y := (⟨"com/example/poonji/poonji/RcbInstrumentType", "heldInTier1By", "(Lcom/example/poonji/poonji/RcbInstrumentType$Tier1Cap;)Z"⟩ : MethodName)) (z := (⟨"com/example/poonji/poonji/RcbInstrumentType", "heldInTier1By", "(Lcom/example/poonji/poonji/RcbInstrumentType$Tier1Cap;)Z"⟩ : MethodName)) hown (mvT hZ (hw _ (List.mem_of_getElem? (i := 11) rfl))) (mvT hZ (hw _ (List.mem_of_getElem? (i := 12) rfl))) (notFace_of_selects (args := #[]) (mvT hZ (hw _ (List.mem_of_getElem? (i := 14) rfl)))) (mvT hZ (hw _ (List.mem_of_getElem? (i := 14) rfl))) (mvT hZ (hw _ (List.mem_of_getElem? (i := 13) rfl))) (by decide) (backOf (W := 0) (rm2z l Z a0 hw [] w_RCPS w_PERPETUAL_DEBT  h0 n0 Z0 F_tier1Cap_w_RCPS) hZ (hw _ (List.mem_of_getElem? (i := 15) rfl)) (hw _ (List.mem_of_getElem? (i := 6) rfl)) (by decide) (by decide)) q34a q34c (g := (mkF m 17 #[.val (.int p0), .val (.int (5 : Int32)), .val (.ref w_RCPS), .unset, .unset, .unset, .unset] [(.ref w_PERPETUAL_DEBT), (.ref w_RCPS)])) rfl (by rw [hml]; rfl) (Steps.refl _) (argsL := [(.ref w_PERPETUAL_DEBT)]) (rest := []) (lenOf own_pd45 rfl) rfl (by show 2 * 0 + _ ≤ _; exact Nat.le_of_eq rfl) (hb hby at_17) (fun _ _ => ⟨rfl, e33, (by decide : 0 + 0 ≤ _), (by decide : 0 + 0 ≤ _)⟩)
    dsimp only [Pt.U, Pt.locs, Pt.cells, Pt.slots] at X34 l34 y34 z34 st34 hQ34
    subst l34 y34 z34
    obtain ⟨rfl, N34q, eh34⟩ := hQ34
    have N34 := Fr.app N32 N34q
    refine Good.back (fun _ k => st34.trans k) ?_
    show Good p e below _ (T34.setTop (mkF m 20 #[.val (.int p0), .val (.int (5 : Int32)), .val (.ref w_RCPS), .unset, .unset, .unset, .unset] [(.int (0 : Int32))]))
    refine Good.back (fun _ k => XS.istoreN X34.here hx rfl (hb hby at_20) rfl (l' := #[.val (.int p0), .val (.int (5 : Int32)), .val (.ref w_RCPS), .val (.int (0 : Int32)), .unset, .unset, .unset]) rfl k) ?_
    show Good p e below _ (T34.setTop (mkF m 21 #[.val (.int p0), .val (.int (5 : Int32)), .val (.ref w_RCPS), .val (.int (0 : Int32)), .unset, .unset, .unset] []))
    refine Good.back (fun _ k => XS.aloadN X34.here hx rfl (hb hby at_21) rfl rfl k) ?_
    show Good p e below _ (T34.setTop (mkF m 22 #[.val (.int p0), .val (.int (5 : Int32)), .val (.ref w_RCPS), .val (.int (0 : Int32)), .unset, .unset, .unset] [(.ref w_RCPS)]))
    obtain ⟨T35, X35, e35, st35⟩ := getS2 X34 hx hZ hown (host := "") (Or.inl (hw _ (List.mem_of_getElem? (i := 19) rfl))) Via.refl eh34 S_w_TIER1_INSTRUMENTS (g := (mkF m 22 #[.val (.int p0), .val (.int (5 : Int32)), .val (.ref w_RCPS), .val (.int (0 : Int32)), .unset, .unset, .unset] [(.ref w_RCPS)])) rfl (hb hby at_22)
    refine Good.back st35 ?_
    show Good p e below _ (T35.setTop (mkF m 25 #[.val (.int p0), .val (.int (5 : Int32)), .val (.ref w_RCPS), .val (.int (0 : Int32)), .unset, .unset, .unset] [(.ref w_TIER1_INSTRUMENTS), (.ref w_RCPS)]))
    obtain ⟨cq36, kq36, q36a, q36b, q36c⟩ := isOf hZ e35 E_w_RCPS
    obtain ⟨_, _, ⟨T36, L36, k36, n36⟩, -, X36, ⟨Lc36, hQ36, l36, y36, z36⟩, st36⟩ := X35.virtualBack hx (y := (⟨"com/example/poonji/poonji/RcbInstrumentType", "heldInTier1By", "(Lcom/example/poonji/poonji/RcbInstrumentType$Tier1Cap;)Z"⟩ : MethodName)) (z := (⟨"com/example/poonji/poonji/RcbInstrumentType", "heldInTier1By", "(Lcom/example/poonji/poonji/RcbInstrumentType$Tier1Cap;)Z"⟩ : MethodName)) hown (mvT hZ (hw _ (List.mem_of_getElem? (i := 11) rfl))) (mvT hZ (hw _ (List.mem_of_getElem? (i := 12) rfl))) (notFace_of_selects (args := #[]) (mvT hZ (hw _ (List.mem_of_getElem? (i := 14) rfl)))) (mvT hZ (hw _ (List.mem_of_getElem? (i := 14) rfl))) (mvT hZ (hw _ (List.mem_of_getElem? (i := 13) rfl))) (by decide) (backOf (W := 0) (rm2z l Z a0 hw [] w_RCPS w_TIER1_INSTRUMENTS  h0 n0 Z0 F_tier1Cap_w_RCPS) hZ (hw _ (List.mem_of_getElem? (i := 15) rfl)) (hw _ (List.mem_of_getElem? (i := 6) rfl)) (by decide) (by decide)) q36a q36c (g := (mkF m 25 #[.val (.int p0), .val (.int (5 : Int32)), .val (.ref w_RCPS), .val (.int (0 : Int32)), .unset, .unset, .unset] [(.ref w_TIER1_INSTRUMENTS), (.ref w_RCPS)])) rfl (by rw [hml]; rfl) (Steps.refl _) (argsL := [(.ref w_TIER1_INSTRUMENTS)]) (rest := []) (lenOf own_pd45 rfl) rfl (by show 2 * 0 + _ ≤ _; exact Nat.le_of_eq rfl) (hb hby at_25) (fun _ _ => ⟨rfl, e35, (by decide : 0 + 0 ≤ _), (by decide : 0 + 0 ≤ _)⟩)
    dsimp only [Pt.U, Pt.locs, Pt.cells, Pt.slots] at X36 l36 y36 z36 st36 hQ36
    subst l36 y36 z36
    obtain ⟨rfl, N36q, eh36⟩ := hQ36
    have N36 := Fr.app N34 N36q
    refine Good.back (fun _ k => st36.trans k) ?_
    show Good p e below _ (T36.setTop (mkF m 28 #[.val (.int p0), .val (.int (5 : Int32)), .val (.ref w_RCPS), .val (.int (0 : Int32)), .unset, .unset, .unset] [(.int (0 : Int32))]))
    refine Good.back (fun _ k => XS.istore X36.here hx rfl (hb hby at_28) rfl (l' := #[.val (.int p0), .val (.int (5 : Int32)), .val (.ref w_RCPS), .val (.int (0 : Int32)), .val (.int (0 : Int32)), .unset, .unset]) rfl k) ?_
    show Good p e below _ (T36.setTop (mkF m 30 #[.val (.int p0), .val (.int (5 : Int32)), .val (.ref w_RCPS), .val (.int (0 : Int32)), .val (.int (0 : Int32)), .unset, .unset] []))
    refine Good.back (fun _ k => XS.iloadN X36.here hx rfl (hb hby at_30) rfl k) ?_
    show Good p e below _ (T36.setTop (mkF m 31 #[.val (.int p0), .val (.int (5 : Int32)), .val (.ref w_RCPS), .val (.int (0 : Int32)), .val (.int (0 : Int32)), .unset, .unset] [(.int (5 : Int32))]))
    refine Good.back (fun _ k => XS.iconst X36.here hx rfl (hb hby at_31) k) ?_
    show Good p e below _ (T36.setTop (mkF m 32 #[.val (.int p0), .val (.int (5 : Int32)), .val (.ref w_RCPS), .val (.int (0 : Int32)), .val (.int (0 : Int32)), .unset, .unset] [(.int (1 : Int32)), (.int (5 : Int32))]))
    refine Good.back (fun _ k => XS.icmpNo X36.here hx rfl (hb hby at_32) rfl (feq (by decide : ¬ ((5 : Int32) = (1 : Int32)))).1 k) ?_
    show Good p e below _ (T36.setTop (mkF m 35 #[.val (.int p0), .val (.int (5 : Int32)), .val (.ref w_RCPS), .val (.int (0 : Int32)), .val (.int (0 : Int32)), .unset, .unset] []))
    refine Good.back (fun _ k => XS.iloadN X36.here hx rfl (hb hby at_35) rfl k) ?_
    show Good p e below _ (T36.setTop (mkF m 36 #[.val (.int p0), .val (.int (5 : Int32)), .val (.ref w_RCPS), .val (.int (0 : Int32)), .val (.int (0 : Int32)), .unset, .unset] [(.int (5 : Int32))]))
    refine Good.back (fun _ k => XS.iconst X36.here hx rfl (hb hby at_36) k) ?_
    show Good p e below _ (T36.setTop (mkF m 37 #[.val (.int p0), .val (.int (5 : Int32)), .val (.ref w_RCPS), .val (.int (0 : Int32)), .val (.int (0 : Int32)), .unset, .unset] [(.int (2 : Int32)), (.int (5 : Int32))]))
    refine Good.back (fun _ k => XS.icmpYes X36.here hx rfl (pc0 := 37) (pc' := 44) rfl (hb hby at_37) rfl (feq (by decide : ¬ ((5 : Int32) = (2 : Int32)))).2 (by decide) (by decide) k) ?_
    show Good p e below _ (T36.setTop (mkF m 44 #[.val (.int p0), .val (.int (5 : Int32)), .val (.ref w_RCPS), .val (.int (0 : Int32)), .val (.int (0 : Int32)), .unset, .unset] []))
    refine Good.back (fun _ k => XS.iconst X36.here hx rfl (hb hby at_44) k) ?_
    show Good p e below _ (T36.setTop (mkF m 45 #[.val (.int p0), .val (.int (5 : Int32)), .val (.ref w_RCPS), .val (.int (0 : Int32)), .val (.int (0 : Int32)), .unset, .unset] [(.int (0 : Int32))]))
    refine Good.back (fun _ k => XS.istore X36.here hx rfl (hb hby at_45) rfl (l' := #[.val (.int p0), .val (.int (5 : Int32)), .val (.ref w_RCPS), .val (.int (0 : Int32)), .val (.int (0 : Int32)), .val (.int (0 : Int32)), .unset]) rfl k) ?_
    show Good p e below _ (T36.setTop (mkF m 47 #[.val (.int p0), .val (.int (5 : Int32)), .val (.ref w_RCPS), .val (.int (0 : Int32)), .val (.int (0 : Int32)), .val (.int (0 : Int32)), .unset] []))
    refine Good.back (fun _ k => XS.iloadN X36.here hx rfl (hb hby at_47) rfl k) ?_
    show Good p e below _ (T36.setTop (mkF m 48 #[.val (.int p0), .val (.int (5 : Int32)), .val (.ref w_RCPS), .val (.int (0 : Int32)), .val (.int (0 : Int32)), .val (.int (0 : Int32)), .unset] [(.int (5 : Int32))]))
    refine Good.back (fun _ k => XS.ifYes X36.here hx rfl (pc0 := 48) (pc' := 55) rfl (hb hby at_48) rfl ((if0 _ _).trans (feq (by decide : ¬ ((5 : Int32) = (0 : Int32)))).2) (by decide) (by decide) k) ?_
    show Good p e below _ (T36.setTop (mkF m 55 #[.val (.int p0), .val (.int (5 : Int32)), .val (.ref w_RCPS), .val (.int (0 : Int32)), .val (.int (0 : Int32)), .val (.int (0 : Int32)), .unset] []))
    refine Good.back (fun _ k => XS.iconst X36.here hx rfl (hb hby at_55) k) ?_
    show Good p e below _ (T36.setTop (mkF m 56 #[.val (.int p0), .val (.int (5 : Int32)), .val (.ref w_RCPS), .val (.int (0 : Int32)), .val (.int (0 : Int32)), .val (.int (0 : Int32)), .unset] [(.int (0 : Int32))]))
    refine Good.back (fun _ k => XS.istore X36.here hx rfl (hb hby at_56) rfl (l' := #[.val (.int p0), .val (.int (5 : Int32)), .val (.ref w_RCPS), .val (.int (0 : Int32)), .val (.int (0 : Int32)), .val (.int (0 : Int32)), .val (.int (0 : Int32))]) rfl k) ?_
    show Good p e below _ (T36.setTop (mkF m 58 #[.val (.int p0), .val (.int (5 : Int32)), .val (.ref w_RCPS), .val (.int (0 : Int32)), .val (.int (0 : Int32)), .val (.int (0 : Int32)), .val (.int (0 : Int32))] []))
    refine Good.back (fun _ k => XS.iloadN X36.here hx rfl (hb hby at_58) rfl k) ?_
    show Good p e below _ (T36.setTop (mkF m 59 #[.val (.int p0), .val (.int (5 : Int32)), .val (.ref w_RCPS), .val (.int (0 : Int32)), .val (.int (0 : Int32)), .val (.int (0 : Int32)), .val (.int (0 : Int32))] [(.int (0 : Int32))]))
    refine Good.back (fun _ k => XS.iload X36.here hx rfl (hb hby at_59) rfl k) ?_
    show Good p e below _ (T36.setTop (mkF m 61 #[.val (.int p0), .val (.int (5 : Int32)), .val (.ref w_RCPS), .val (.int (0 : Int32)), .val (.int (0 : Int32)), .val (.int (0 : Int32)), .val (.int (0 : Int32))] [(.int (0 : Int32)), (.int (0 : Int32))]))
    refine Good.back (fun _ k => XS.icmpNo X36.here hx rfl (hb hby at_61) rfl (teq (by decide : ((0 : Int32) = (0 : Int32)))).2 k) ?_
    show Good p e below _ (T36.setTop (mkF m 64 #[.val (.int p0), .val (.int (5 : Int32)), .val (.ref w_RCPS), .val (.int (0 : Int32)), .val (.int (0 : Int32)), .val (.int (0 : Int32)), .val (.int (0 : Int32))] []))
    refine Good.back (fun _ k => XS.iload X36.here hx rfl (hb hby at_64) rfl k) ?_
    show Good p e below _ (T36.setTop (mkF m 66 #[.val (.int p0), .val (.int (5 : Int32)), .val (.ref w_RCPS), .val (.int (0 : Int32)), .val (.int (0 : Int32)), .val (.int (0 : Int32)), .val (.int (0 : Int32))] [(.int (0 : Int32))]))
    refine Good.back (fun _ k => XS.iload X36.here hx rfl (hb hby at_66) rfl k) ?_
    show Good p e below _ (T36.setTop (mkF m 68 #[.val (.int p0), .val (.int (5 : Int32)), .val (.ref w_RCPS), .val (.int (0 : Int32)), .val (.int (0 : Int32)), .val (.int (0 : Int32)), .val (.int (0 : Int32))] [(.int (0 : Int32)), (.int (0 : Int32))]))
    refine Good.back (fun _ k => XS.icmpNo X36.here hx rfl (hb hby at_68) rfl (teq (by decide : ((0 : Int32) = (0 : Int32)))).2 k) ?_
    show Good p e below _ (T36.setTop (mkF m 71 #[.val (.int p0), .val (.int (5 : Int32)), .val (.ref w_RCPS), .val (.int (0 : Int32)), .val (.int (0 : Int32)), .val (.int (0 : Int32)), .val (.int (0 : Int32))] []))
    refine Good.back (fun _ k => XS.iconst X36.here hx rfl (hb hby at_71) k) ?_
    show Good p e below _ (T36.setTop (mkF m 72 #[.val (.int p0), .val (.int (5 : Int32)), .val (.ref w_RCPS), .val (.int (0 : Int32)), .val (.int (0 : Int32)), .val (.int (0 : Int32)), .val (.int (0 : Int32))] [(.int (1 : Int32))]))
    refine Good.back (fun _ k => XS.goto X36.here hx rfl (pc0 := 72) (pc' := 76) rfl (hb hby at_72) (by decide) (by decide) k) ?_
    show Good p e below _ (T36.setTop (mkF m 76 #[.val (.int p0), .val (.int (5 : Int32)), .val (.ref w_RCPS), .val (.int (0 : Int32)), .val (.int (0 : Int32)), .val (.int (0 : Int32)), .val (.int (0 : Int32))] [(.int (1 : Int32))]))
    obtain ⟨fs37, hr37, hrun37, hended37, hW37, hsame37⟩ := X36.leave (v := some (.int (1 : Int32))) (fun h => by rw [Bd.returns] at h; cases h)
    refine Good.done (retN X36 hx (t := .boolean) Bd.returns (by simp) (hb hby at_76) hr37) hrun37 hended37 ⟨_, _, rfl, ?_, ⟨_, rfl⟩, hW37, hsame37.mono (by decide) (by decide)⟩
    show Q0 Z p0 w_PNCPS w_PERPETUAL_DEBT w_TIER1_INSTRUMENTS w_PCPS w_LTSB w_LTD w_IPDI w_PDI w_RNCPS w_RCPS h0 n0 _ T36.heap _
    rw [eh36]
    exact ⟨rfl, N36⟩
  · have he1' : ((p0 &&& (2147483647 : Int32)) % (8 : Int32)) = (6 : Int32) := he1
    rw [he1']
    show Good p e below _ (s₁.setTop (mkF m 8 #[.val (.int p0), .val (.int (6 : Int32)), .unset, .unset, .unset, .unset, .unset] []))
    refine Good.back (fun _ k => XS.iloadN X0.here hx rfl (hb hby at_8) rfl k) ?_
    show Good p e below _ (s₁.setTop (mkF m 9 #[.val (.int p0), .val (.int (6 : Int32)), .unset, .unset, .unset, .unset, .unset] [(.int (6 : Int32))]))
    obtain ⟨_, _, ⟨T38, L38, k38, n38⟩, -, X38, ⟨Lc38, hQ38, l38, y38, z38⟩, st38⟩ := Jvm.LawKit.callS X0 hx (y := (⟨"com/example/poonji/poonji/RcbInstrumentTypeHeldInTier1ByPinLaw", "pick", "(I)Lcom/example/poonji/poonji/RcbInstrumentType;"⟩ : MethodName)) hown (mvT hZ (hw _ (List.mem_of_getElem? (i := 1) rfl))) (mvT hZ (hw _ (List.mem_of_getElem? (i := 2) rfl))) (mvT hZ (hw _ (List.mem_of_getElem? (i := 3) rfl))) (mvT hZ (hw _ (List.mem_of_getElem? (i := 4) rfl))) (by decide) (backOf (W := 0) (rm1_6 l Z a0 hw []  w_LTSB h0 n0 Z0 S_w_LTSB) hZ (hw _ (List.mem_of_getElem? (i := 4) rfl)) (hw _ (List.mem_of_getElem? (i := 3) rfl)) (by decide) (by decide)) (g := (mkF m 9 #[.val (.int p0), .val (.int (6 : Int32)), .unset, .unset, .unset, .unset, .unset] [(.int (6 : Int32))])) rfl (by rw [hml]; rfl) (argsL := [(.int (6 : Int32))]) (rest := []) (lenOf own_pd44 rfl) rfl (by show 2 * 0 + _ ≤ _; exact Nat.le_of_eq rfl) (hb hby at_9) (fun _ _ => ⟨rfl, e0, (by decide : 0 + 0 ≤ _), (by decide : 0 + 0 ≤ _)⟩)
    dsimp only [Pt.U, Pt.locs, Pt.cells, Pt.slots] at X38 l38 y38 z38 st38 hQ38
    subst l38 y38 z38
    obtain ⟨rfl, N38q, eh38⟩ := hQ38
    have N38 := Fr.app N0 N38q
    refine Good.back st38 ?_
    show Good p e below _ (T38.setTop (mkF m 12 #[.val (.int p0), .val (.int (6 : Int32)), .unset, .unset, .unset, .unset, .unset] [(.ref w_LTSB)]))
    refine Good.back (fun _ k => XS.astoreN X38.here hx rfl (hb hby at_12) rfl rfl (l' := #[.val (.int p0), .val (.int (6 : Int32)), .val (.ref w_LTSB), .unset, .unset, .unset, .unset]) rfl k) ?_
    show Good p e below _ (T38.setTop (mkF m 13 #[.val (.int p0), .val (.int (6 : Int32)), .val (.ref w_LTSB), .unset, .unset, .unset, .unset] []))
    refine Good.back (fun _ k => XS.aloadN X38.here hx rfl (hb hby at_13) rfl rfl k) ?_
    show Good p e below _ (T38.setTop (mkF m 14 #[.val (.int p0), .val (.int (6 : Int32)), .val (.ref w_LTSB), .unset, .unset, .unset, .unset] [(.ref w_LTSB)]))
    obtain ⟨T39, X39, e39, st39⟩ := getS2 X38 hx hZ hown (host := "") (Or.inl (hw _ (List.mem_of_getElem? (i := 8) rfl))) Via.refl eh38 S_w_PERPETUAL_DEBT (g := (mkF m 14 #[.val (.int p0), .val (.int (6 : Int32)), .val (.ref w_LTSB), .unset, .unset, .unset, .unset] [(.ref w_LTSB)])) rfl (hb hby at_14)
    refine Good.back st39 ?_
    show Good p e below _ (T39.setTop (mkF m 17 #[.val (.int p0), .val (.int (6 : Int32)), .val (.ref w_LTSB), .unset, .unset, .unset, .unset] [(.ref w_PERPETUAL_DEBT), (.ref w_LTSB)]))
    obtain ⟨cq40, kq40, q40a, q40b, q40c⟩ := isOf hZ e39 E_w_LTSB
    obtain ⟨_, _, ⟨T40, L40, k40, n40⟩, -, X40, ⟨Lc40, hQ40, l40, y40, z40⟩, st40⟩ := X39.virtualBack hx (y := (⟨"com/example/poonji/poonji/RcbInstrumentType", "heldInTier1By", "(Lcom/example/poonji/poonji/RcbInstrumentType$Tier1Cap;)Z"⟩ : MethodName)) (z := (⟨"com/example/poonji/poonji/RcbInstrumentType", "heldInTier1By", "(Lcom/example/poonji/poonji/RcbInstrumentType$Tier1Cap;)Z"⟩ : MethodName)) hown (mvT hZ (hw _ (List.mem_of_getElem? (i := 11) rfl))) (mvT hZ (hw _ (List.mem_of_getElem? (i := 12) rfl))) (notFace_of_selects (args := #[]) (mvT hZ (hw _ (List.mem_of_getElem? (i := 14) rfl)))) (mvT hZ (hw _ (List.mem_of_getElem? (i := 14) rfl))) (mvT hZ (hw _ (List.mem_of_getElem? (i := 13) rfl))) (by decide) (backOf (W := 0) (rm2z l Z a0 hw [] w_LTSB w_PERPETUAL_DEBT  h0 n0 Z0 F_tier1Cap_w_LTSB) hZ (hw _ (List.mem_of_getElem? (i := 15) rfl)) (hw _ (List.mem_of_getElem? (i := 6) rfl)) (by decide) (by decide)) q40a q40c (g := (mkF m 17 #[.val (.int p0), .val (.int (6 : Int32)), .val (.ref w_LTSB), .unset, .unset, .unset, .unset] [(.ref w_PERPETUAL_DEBT), (.ref w_LTSB)])) rfl (by rw [hml]; rfl) (Steps.refl _) (argsL := [(.ref w_PERPETUAL_DEBT)]) (rest := []) (lenOf own_pd45 rfl) rfl (by show 2 * 0 + _ ≤ _; exact Nat.le_of_eq rfl) (hb hby at_17) (fun _ _ => ⟨rfl, e39, (by decide : 0 + 0 ≤ _), (by decide : 0 + 0 ≤ _)⟩)
    dsimp only [Pt.U, Pt.locs, Pt.cells, Pt.slots] at X40 l40 y40 z40 st40 hQ40
    subst l40 y40 z40
    obtain ⟨rfl, N40q, eh40⟩ := hQ40
    have N40 := Fr.app N38 N40q
    refine Good.back (fun _ k => st40.trans k) ?_
    show Good p e below _ (T40.setTop (mkF m 20 #[.val (.int p0), .val (.int (6 : Int32)), .val (.ref w_LTSB), .unset, .unset, .unset, .unset] [(.int (0 : Int32))]))
    refine Good.back (fun _ k => XS.istoreN X40.here hx rfl (hb hby at_20) rfl (l' := #[.val (.int p0), .val (.int (6 : Int32)), .val (.ref w_LTSB), .val (.int (0 : Int32)), .unset, .unset, .unset]) rfl k) ?_
    show Good p e below _ (T40.setTop (mkF m 21 #[.val (.int p0), .val (.int (6 : Int32)), .val (.ref w_LTSB), .val (.int (0 : Int32)), .unset, .unset, .unset] []))
    refine Good.back (fun _ k => XS.aloadN X40.here hx rfl (hb hby at_21) rfl rfl k) ?_
    show Good p e below _ (T40.setTop (mkF m 22 #[.val (.int p0), .val (.int (6 : Int32)), .val (.ref w_LTSB), .val (.int (0 : Int32)), .unset, .unset, .unset] [(.ref w_LTSB)]))
    obtain ⟨T41, X41, e41, st41⟩ := getS2 X40 hx hZ hown (host := "") (Or.inl (hw _ (List.mem_of_getElem? (i := 19) rfl))) Via.refl eh40 S_w_TIER1_INSTRUMENTS (g := (mkF m 22 #[.val (.int p0), .val (.int (6 : Int32)), .val (.ref w_LTSB), .val (.int (0 : Int32)), .unset, .unset, .unset] [(.ref w_LTSB)])) rfl (hb hby at_22)
    refine Good.back st41 ?_
    show Good p e below _ (T41.setTop (mkF m 25 #[.val (.int p0), .val (.int (6 : Int32)), .val (.ref w_LTSB), .val (.int (0 : Int32)), .unset, .unset, .unset] [(.ref w_TIER1_INSTRUMENTS), (.ref w_LTSB)]))
    obtain ⟨cq42, kq42, q42a, q42b, q42c⟩ := isOf hZ e41 E_w_LTSB
    obtain ⟨_, _, ⟨T42, L42, k42, n42⟩, -, X42, ⟨Lc42, hQ42, l42, y42, z42⟩, st42⟩ := X41.virtualBack hx (y := (⟨"com/example/poonji/poonji/RcbInstrumentType", "heldInTier1By", "(Lcom/example/poonji/poonji/RcbInstrumentType$Tier1Cap;)Z"⟩ : MethodName)) (z := (⟨"com/example/poonji/poonji/RcbInstrumentType", "heldInTier1By", "(Lcom/example/poonji/poonji/RcbInstrumentType$Tier1Cap;)Z"⟩ : MethodName)) hown (mvT hZ (hw _ (List.mem_of_getElem? (i := 11) rfl))) (mvT hZ (hw _ (List.mem_of_getElem? (i := 12) rfl))) (notFace_of_selects (args := #[]) (mvT hZ (hw _ (List.mem_of_getElem? (i := 14) rfl)))) (mvT hZ (hw _ (List.mem_of_getElem? (i := 14) rfl))) (mvT hZ (hw _ (List.mem_of_getElem? (i := 13) rfl))) (by decide) (backOf (W := 0) (rm2z l Z a0 hw [] w_LTSB w_TIER1_INSTRUMENTS  h0 n0 Z0 F_tier1Cap_w_LTSB) hZ (hw _ (List.mem_of_getElem? (i := 15) rfl)) (hw _ (List.mem_of_getElem? (i := 6) rfl)) (by decide) (by decide)) q42a q42c (g := (mkF m 25 #[.val (.int p0), .val (.int (6 : Int32)), .val (.ref w_LTSB), .val (.int (0 : Int32)), .unset, .unset, .unset] [(.ref w_TIER1_INSTRUMENTS), (.ref w_LTSB)])) rfl (by rw [hml]; rfl) (Steps.refl _) (argsL := [(.ref w_TIER1_INSTRUMENTS)]) (rest := []) (lenOf own_pd45 rfl) rfl (by show 2 * 0 + _ ≤ _; exact Nat.le_of_eq rfl) (hb hby at_25) (fun _ _ => ⟨rfl, e41, (by decide : 0 + 0 ≤ _), (by decide : 0 + 0 ≤ _)⟩)
    dsimp only [Pt.U, Pt.locs, Pt.cells, Pt.slots] at X42 l42 y42 z42 st42 hQ42
    subst l42 y42 z42
    obtain ⟨rfl, N42q, eh42⟩ := hQ42
    have N42 := Fr.app N40 N42q
    refine Good.back (fun _ k => st42.trans k) ?_
    show Good p e below _ (T42.setTop (mkF m 28 #[.val (.int p0), .val (.int (6 : Int32)), .val (.ref w_LTSB), .val (.int (0 : Int32)), .unset, .unset, .unset] [(.int (0 : Int32))]))
    refine Good.back (fun _ k => XS.istore X42.here hx rfl (hb hby at_28) rfl (l' := #[.val (.int p0), .val (.int (6 : Int32)), .val (.ref w_LTSB), .val (.int (0 : Int32)), .val (.int (0 : Int32)), .unset, .unset]) rfl k) ?_
    show Good p e below _ (T42.setTop (mkF m 30 #[.val (.int p0), .val (.int (6 : Int32)), .val (.ref w_LTSB), .val (.int (0 : Int32)), .val (.int (0 : Int32)), .unset, .unset] []))
    refine Good.back (fun _ k => XS.iloadN X42.here hx rfl (hb hby at_30) rfl k) ?_
    show Good p e below _ (T42.setTop (mkF m 31 #[.val (.int p0), .val (.int (6 : Int32)), .val (.ref w_LTSB), .val (.int (0 : Int32)), .val (.int (0 : Int32)), .unset, .unset] [(.int (6 : Int32))]))
    refine Good.back (fun _ k => XS.iconst X42.here hx rfl (hb hby at_31) k) ?_
    show Good p e below _ (T42.setTop (mkF m 32 #[.val (.int p0), .val (.int (6 : Int32)), .val (.ref w_LTSB), .val (.int (0 : Int32)), .val (.int (0 : Int32)), .unset, .unset] [(.int (1 : Int32)), (.int (6 : Int32))]))
    refine Good.back (fun _ k => XS.icmpNo X42.here hx rfl (hb hby at_32) rfl (feq (by decide : ¬ ((6 : Int32) = (1 : Int32)))).1 k) ?_
    show Good p e below _ (T42.setTop (mkF m 35 #[.val (.int p0), .val (.int (6 : Int32)), .val (.ref w_LTSB), .val (.int (0 : Int32)), .val (.int (0 : Int32)), .unset, .unset] []))
    refine Good.back (fun _ k => XS.iloadN X42.here hx rfl (hb hby at_35) rfl k) ?_
    show Good p e below _ (T42.setTop (mkF m 36 #[.val (.int p0), .val (.int (6 : Int32)), .val (.ref w_LTSB), .val (.int (0 : Int32)), .val (.int (0 : Int32)), .unset, .unset] [(.int (6 : Int32))]))
    refine Good.back (fun _ k => XS.iconst X42.here hx rfl (hb hby at_36) k) ?_
    show Good p e below _ (T42.setTop (mkF m 37 #[.val (.int p0), .val (.int (6 : Int32)), .val (.ref w_LTSB), .val (.int (0 : Int32)), .val (.int (0 : Int32)), .unset, .unset] [(.int (2 : Int32)), (.int (6 : Int32))]))
    refine Good.back (fun _ k => XS.icmpYes X42.here hx rfl (pc0 := 37) (pc' := 44) rfl (hb hby at_37) rfl (feq (by decide : ¬ ((6 : Int32) = (2 : Int32)))).2 (by decide) (by decide) k) ?_
    show Good p e below _ (T42.setTop (mkF m 44 #[.val (.int p0), .val (.int (6 : Int32)), .val (.ref w_LTSB), .val (.int (0 : Int32)), .val (.int (0 : Int32)), .unset, .unset] []))
    refine Good.back (fun _ k => XS.iconst X42.here hx rfl (hb hby at_44) k) ?_
    show Good p e below _ (T42.setTop (mkF m 45 #[.val (.int p0), .val (.int (6 : Int32)), .val (.ref w_LTSB), .val (.int (0 : Int32)), .val (.int (0 : Int32)), .unset, .unset] [(.int (0 : Int32))]))
    refine Good.back (fun _ k => XS.istore X42.here hx rfl (hb hby at_45) rfl (l' := #[.val (.int p0), .val (.int (6 : Int32)), .val (.ref w_LTSB), .val (.int (0 : Int32)), .val (.int (0 : Int32)), .val (.int (0 : Int32)), .unset]) rfl k) ?_
    show Good p e below _ (T42.setTop (mkF m 47 #[.val (.int p0), .val (.int (6 : Int32)), .val (.ref w_LTSB), .val (.int (0 : Int32)), .val (.int (0 : Int32)), .val (.int (0 : Int32)), .unset] []))
    refine Good.back (fun _ k => XS.iloadN X42.here hx rfl (hb hby at_47) rfl k) ?_
    show Good p e below _ (T42.setTop (mkF m 48 #[.val (.int p0), .val (.int (6 : Int32)), .val (.ref w_LTSB), .val (.int (0 : Int32)), .val (.int (0 : Int32)), .val (.int (0 : Int32)), .unset] [(.int (6 : Int32))]))
    refine Good.back (fun _ k => XS.ifYes X42.here hx rfl (pc0 := 48) (pc' := 55) rfl (hb hby at_48) rfl ((if0 _ _).trans (feq (by decide : ¬ ((6 : Int32) = (0 : Int32)))).2) (by decide) (by decide) k) ?_
    show Good p e below _ (T42.setTop (mkF m 55 #[.val (.int p0), .val (.int (6 : Int32)), .val (.ref w_LTSB), .val (.int (0 : Int32)), .val (.int (0 : Int32)), .val (.int (0 : Int32)), .unset] []))
    refine Good.back (fun _ k => XS.iconst X42.here hx rfl (hb hby at_55) k) ?_
    show Good p e below _ (T42.setTop (mkF m 56 #[.val (.int p0), .val (.int (6 : Int32)), .val (.ref w_LTSB), .val (.int (0 : Int32)), .val (.int (0 : Int32)), .val (.int (0 : Int32)), .unset] [(.int (0 : Int32))]))
    refine Good.back (fun _ k => XS.istore X42.here hx rfl (hb hby at_56) rfl (l' := #[.val (.int p0), .val (.int (6 : Int32)), .val (.ref w_LTSB), .val (.int (0 : Int32)), .val (.int (0 : Int32)), .val (.int (0 : Int32)), .val (.int (0 : Int32))]) rfl k) ?_
    show Good p e below _ (T42.setTop (mkF m 58 #[.val (.int p0), .val (.int (6 : Int32)), .val (.ref w_LTSB), .val (.int (0 : Int32)), .val (.int (0 : Int32)), .val (.int (0 : Int32)), .val (.int (0 : Int32))] []))
    refine Good.back (fun _ k => XS.iloadN X42.here hx rfl (hb hby at_58) rfl k) ?_
    show Good p e below _ (T42.setTop (mkF m 59 #[.val (.int p0), .val (.int (6 : Int32)), .val (.ref w_LTSB), .val (.int (0 : Int32)), .val (.int (0 : Int32)), .val (.int (0 : Int32)), .val (.int (0 : Int32))] [(.int (0 : Int32))]))
    refine Good.back (fun _ k => XS.iload X42.here hx rfl (hb hby at_59) rfl k) ?_
    show Good p e below _ (T42.setTop (mkF m 61 #[.val (.int p0), .val (.int (6 : Int32)), .val (.ref w_LTSB), .val (.int (0 : Int32)), .val (.int (0 : Int32)), .val (.int (0 : Int32)), .val (.int (0 : Int32))] [(.int (0 : Int32)), (.int (0 : Int32))]))
    refine Good.back (fun _ k => XS.icmpNo X42.here hx rfl (hb hby at_61) rfl (teq (by decide : ((0 : Int32) = (0 : Int32)))).2 k) ?_
    show Good p e below _ (T42.setTop (mkF m 64 #[.val (.int p0), .val (.int (6 : Int32)), .val (.ref w_LTSB), .val (.int (0 : Int32)), .val (.int (0 : Int32)), .val (.int (0 : Int32)), .val (.int (0 : Int32))] []))
    refine Good.back (fun _ k => XS.iload X42.here hx rfl (hb hby at_64) rfl k) ?_
    show Good p e below _ (T42.setTop (mkF m 66 #[.val (.int p0), .val (.int (6 : Int32)), .val (.ref w_LTSB), .val (.int (0 : Int32)), .val (.int (0 : Int32)), .val (.int (0 : Int32)), .val (.int (0 : Int32))] [(.int (0 : Int32))]))
    refine Good.back (fun _ k => XS.iload X42.here hx rfl (hb hby at_66) rfl k) ?_
    show Good p e below _ (T42.setTop (mkF m 68 #[.val (.int p0), .val (.int (6 : Int32)), .val (.ref w_LTSB), .val (.int (0 : Int32)), .val (.int (0 : Int32)), .val (.int (0 : Int32)), .val (.int (0 : Int32))] [(.int (0 : Int32)), (.int (0 : Int32))]))
    refine Good.back (fun _ k => XS.icmpNo X42.here hx rfl (hb hby at_68) rfl (teq (by decide : ((0 : Int32) = (0 : Int32)))).2 k) ?_
    show Good p e below _ (T42.setTop (mkF m 71 #[.val (.int p0), .val (.int (6 : Int32)), .val (.ref w_LTSB), .val (.int (0 : Int32)), .val (.int (0 : Int32)), .val (.int (0 : Int32)), .val (.int (0 : Int32))] []))
    refine Good.back (fun _ k => XS.iconst X42.here hx rfl (hb hby at_71) k) ?_
    show Good p e below _ (T42.setTop (mkF m 72 #[.val (.int p0), .val (.int (6 : Int32)), .val (.ref w_LTSB), .val (.int (0 : Int32)), .val (.int (0 : Int32)), .val (.int (0 : Int32)), .val (.int (0 : Int32))] [(.int (1 : Int32))]))
    refine Good.back (fun _ k => XS.goto X42.here hx rfl (pc0 := 72) (pc' := 76) rfl (hb hby at_72) (by decide) (by decide) k) ?_
    show Good p e below _ (T42.setTop (mkF m 76 #[.val (.int p0), .val (.int (6 : Int32)), .val (.ref w_LTSB), .val (.int (0 : Int32)), .val (.int (0 : Int32)), .val (.int (0 : Int32)), .val (.int (0 : Int32))] [(.int (1 : Int32))]))
    obtain ⟨fs43, hr43, hrun43, hended43, hW43, hsame43⟩ := X42.leave (v := some (.int (1 : Int32))) (fun h => by rw [Bd.returns] at h; cases h)
    refine Good.done (retN X42 hx (t := .boolean) Bd.returns (by simp) (hb hby at_76) hr43) hrun43 hended43 ⟨_, _, rfl, ?_, ⟨_, rfl⟩, hW43, hsame43.mono (by decide) (by decide)⟩
    show Q0 Z p0 w_PNCPS w_PERPETUAL_DEBT w_TIER1_INSTRUMENTS w_PCPS w_LTSB w_LTD w_IPDI w_PDI w_RNCPS w_RCPS h0 n0 _ T42.heap _
    rw [eh42]
    exact ⟨rfl, N42⟩
  · have he1' : ((p0 &&& (2147483647 : Int32)) % (8 : Int32)) = (7 : Int32) := he1
    rw [he1']
    show Good p e below _ (s₁.setTop (mkF m 8 #[.val (.int p0), .val (.int (7 : Int32)), .unset, .unset, .unset, .unset, .unset] []))
    refine Good.back (fun _ k => XS.iloadN X0.here hx rfl (hb hby at_8) rfl k) ?_
    show Good p e below _ (s₁.setTop (mkF m 9 #[.val (.int p0), .val (.int (7 : Int32)), .unset, .unset, .unset, .unset, .unset] [(.int (7 : Int32))]))
    obtain ⟨_, _, ⟨T44, L44, k44, n44⟩, -, X44, ⟨Lc44, hQ44, l44, y44, z44⟩, st44⟩ := Jvm.LawKit.callS X0 hx (y := (⟨"com/example/poonji/poonji/RcbInstrumentTypeHeldInTier1ByPinLaw", "pick", "(I)Lcom/example/poonji/poonji/RcbInstrumentType;"⟩ : MethodName)) hown (mvT hZ (hw _ (List.mem_of_getElem? (i := 1) rfl))) (mvT hZ (hw _ (List.mem_of_getElem? (i := 2) rfl))) (mvT hZ (hw _ (List.mem_of_getElem? (i := 3) rfl))) (mvT hZ (hw _ (List.mem_of_getElem? (i := 4) rfl))) (by decide) (backOf (W := 0) (rm1_7 l Z a0 hw []  w_LTD h0 n0 Z0 S_w_LTD) hZ (hw _ (List.mem_of_getElem? (i := 4) rfl)) (hw _ (List.mem_of_getElem? (i := 3) rfl)) (by decide) (by decide)) (g := (mkF m 9 #[.val (.int p0), .val (.int (7 : Int32)), .unset, .unset, .unset, .unset, .unset] [(.int (7 : Int32))])) rfl (by rw [hml]; rfl) (argsL := [(.int (7 : Int32))]) (rest := []) (lenOf own_pd44 rfl) rfl (by show 2 * 0 + _ ≤ _; exact Nat.le_of_eq rfl) (hb hby at_9) (fun _ _ => ⟨rfl, e0, (by decide : 0 + 0 ≤ _), (by decide : 0 + 0 ≤ _)⟩)
    dsimp only [Pt.U, Pt.locs, Pt.cells, Pt.slots] at X44 l44 y44 z44 st44 hQ44
    subst l44 y44 z44
    obtain ⟨rfl, N44q, eh44⟩ := hQ44
    have N44 := Fr.app N0 N44q
    refine Good.back st44 ?_
    show Good p e below _ (T44.setTop (mkF m 12 #[.val (.int p0), .val (.int (7 : Int32)), .unset, .unset, .unset, .unset, .unset] [(.ref w_LTD)]))
    refine Good.back (fun _ k => XS.astoreN X44.here hx rfl (hb hby at_12) rfl rfl (l' := #[.val (.int p0), .val (.int (7 : Int32)), .val (.ref w_LTD), .unset, .unset, .unset, .unset]) rfl k) ?_
    show Good p e below _ (T44.setTop (mkF m 13 #[.val (.int p0), .val (.int (7 : Int32)), .val (.ref w_LTD), .unset, .unset, .unset, .unset] []))
    refine Good.back (fun _ k => XS.aloadN X44.here hx rfl (hb hby at_13) rfl rfl k) ?_
    show Good p e below _ (T44.setTop (mkF m 14 #[.val (.int p0), .val (.int (7 : Int32)), .val (.ref w_LTD), .unset, .unset, .unset, .unset] [(.ref w_LTD)]))
    obtain ⟨T45, X45, e45, st45⟩ := getS2 X44 hx hZ hown (host := "") (Or.inl (hw _ (List.mem_of_getElem? (i := 8) rfl))) Via.refl eh44 S_w_PERPETUAL_DEBT (g := (mkF m 14 #[.val (.int p0), .val (.int (7 : Int32)), .val (.ref w_LTD), .unset, .unset, .unset, .unset] [(.ref w_LTD)])) rfl (hb hby at_14)
    refine Good.back st45 ?_
    show Good p e below _ (T45.setTop (mkF m 17 #[.val (.int p0), .val (.int (7 : Int32)), .val (.ref w_LTD), .unset, .unset, .unset, .unset] [(.ref w_PERPETUAL_DEBT), (.ref w_LTD)]))
    obtain ⟨cq46, kq46, q46a, q46b, q46c⟩ := isOf hZ e45 E_w_LTD
    obtain ⟨_, _, ⟨T46, L46, k46, n46⟩, -, X46, ⟨Lc46, hQ46, l46, y46, z46⟩, st46⟩ := X45.virtualBack hx (y := (⟨"com/example/poonji/poonji/RcbInstrumentType", "heldInTier1By", "(Lcom/example/poonji/poonji/RcbInstrumentType$Tier1Cap;)Z"⟩ : MethodName)) (z := (⟨"com/example/poonji/poonji/RcbInstrumentType", "heldInTier1By", "(Lcom/example/poonji/poonji/RcbInstrumentType$Tier1Cap;)Z"⟩ : MethodName)) hown (mvT hZ (hw _ (List.mem_of_getElem? (i := 11) rfl))) (mvT hZ (hw _ (List.mem_of_getElem? (i := 12) rfl))) (notFace_of_selects (args := #[]) (mvT hZ (hw _ (List.mem_of_getElem? (i := 14) rfl)))) (mvT hZ (hw _ (List.mem_of_getElem? (i := 14) rfl))) (mvT hZ (hw _ (List.mem_of_getElem? (i := 13) rfl))) (by decide) (backOf (W := 0) (rm2z l Z a0 hw [] w_LTD w_PERPETUAL_DEBT  h0 n0 Z0 F_tier1Cap_w_LTD) hZ (hw _ (List.mem_of_getElem? (i := 15) rfl)) (hw _ (List.mem_of_getElem? (i := 6) rfl)) (by decide) (by decide)) q46a q46c (g := (mkF m 17 #[.val (.int p0), .val (.int (7 : Int32)), .val (.ref w_LTD), .unset, .unset, .unset, .unset] [(.ref w_PERPETUAL_DEBT), (.ref w_LTD)])) rfl (by rw [hml]; rfl) (Steps.refl _) (argsL := [(.ref w_PERPETUAL_DEBT)]) (rest := []) (lenOf own_pd45 rfl) rfl (by show 2 * 0 + _ ≤ _; exact Nat.le_of_eq rfl) (hb hby at_17) (fun _ _ => ⟨rfl, e45, (by decide : 0 + 0 ≤ _), (by decide : 0 + 0 ≤ _)⟩)
    dsimp only [Pt.U, Pt.locs, Pt.cells, Pt.slots] at X46 l46 y46 z46 st46 hQ46
    subst l46 y46 z46
    obtain ⟨rfl, N46q, eh46⟩ := hQ46
    have N46 := Fr.app N44 N46q
    refine Good.back (fun _ k => st46.trans k) ?_
    show Good p e below _ (T46.setTop (mkF m 20 #[.val (.int p0), .val (.int (7 : Int32)), .val (.ref w_LTD), .unset, .unset, .unset, .unset] [(.int (0 : Int32))]))
    refine Good.back (fun _ k => XS.istoreN X46.here hx rfl (hb hby at_20) rfl (l' := #[.val (.int p0), .val (.int (7 : Int32)), .val (.ref w_LTD), .val (.int (0 : Int32)), .unset, .unset, .unset]) rfl k) ?_
    show Good p e below _ (T46.setTop (mkF m 21 #[.val (.int p0), .val (.int (7 : Int32)), .val (.ref w_LTD), .val (.int (0 : Int32)), .unset, .unset, .unset] []))
    refine Good.back (fun _ k => XS.aloadN X46.here hx rfl (hb hby at_21) rfl rfl k) ?_
    show Good p e below _ (T46.setTop (mkF m 22 #[.val (.int p0), .val (.int (7 : Int32)), .val (.ref w_LTD), .val (.int (0 : Int32)), .unset, .unset, .unset] [(.ref w_LTD)]))
    obtain ⟨T47, X47, e47, st47⟩ := getS2 X46 hx hZ hown (host := "") (Or.inl (hw _ (List.mem_of_getElem? (i := 19) rfl))) Via.refl eh46 S_w_TIER1_INSTRUMENTS (g := (mkF m 22 #[.val (.int p0), .val (.int (7 : Int32)), .val (.ref w_LTD), .val (.int (0 : Int32)), .unset, .unset, .unset] [(.ref w_LTD)])) rfl (hb hby at_22)
    refine Good.back st47 ?_
    show Good p e below _ (T47.setTop (mkF m 25 #[.val (.int p0), .val (.int (7 : Int32)), .val (.ref w_LTD), .val (.int (0 : Int32)), .unset, .unset, .unset] [(.ref w_TIER1_INSTRUMENTS), (.ref w_LTD)]))
    obtain ⟨cq48, kq48, q48a, q48b, q48c⟩ := isOf hZ e47 E_w_LTD
    obtain ⟨_, _, ⟨T48, L48, k48, n48⟩, -, X48, ⟨Lc48, hQ48, l48, y48, z48⟩, st48⟩ := X47.virtualBack hx (y := (⟨"com/example/poonji/poonji/RcbInstrumentType", "heldInTier1By", "(Lcom/example/poonji/poonji/RcbInstrumentType$Tier1Cap;)Z"⟩ : MethodName)) (z := (⟨"com/example/poonji/poonji/RcbInstrumentType", "heldInTier1By", "(Lcom/example/poonji/poonji/RcbInstrumentType$Tier1Cap;)Z"⟩ : MethodName)) hown (mvT hZ (hw _ (List.mem_of_getElem? (i := 11) rfl))) (mvT hZ (hw _ (List.mem_of_getElem? (i := 12) rfl))) (notFace_of_selects (args := #[]) (mvT hZ (hw _ (List.mem_of_getElem? (i := 14) rfl)))) (mvT hZ (hw _ (List.mem_of_getElem? (i := 14) rfl))) (mvT hZ (hw _ (List.mem_of_getElem? (i := 13) rfl))) (by decide) (backOf (W := 0) (rm2z l Z a0 hw [] w_LTD w_TIER1_INSTRUMENTS  h0 n0 Z0 F_tier1Cap_w_LTD) hZ (hw _ (List.mem_of_getElem? (i := 15) rfl)) (hw _ (List.mem_of_getElem? (i := 6) rfl)) (by decide) (by decide)) q48a q48c (g := (mkF m 25 #[.val (.int p0), .val (.int (7 : Int32)), .val (.ref w_LTD), .val (.int (0 : Int32)), .unset, .unset, .unset] [(.ref w_TIER1_INSTRUMENTS), (.ref w_LTD)])) rfl (by rw [hml]; rfl) (Steps.refl _) (argsL := [(.ref w_TIER1_INSTRUMENTS)]) (rest := []) (lenOf own_pd45 rfl) rfl (by show 2 * 0 + _ ≤ _; exact Nat.le_of_eq rfl) (hb hby at_25) (fun _ _ => ⟨rfl, e47, (by decide : 0 + 0 ≤ _), (by decide : 0 + 0 ≤ _)⟩)
    dsimp only [Pt.U, Pt.locs, Pt.cells, Pt.slots] at X48 l48 y48 z48 st48 hQ48
    subst l48 y48 z48
    obtain ⟨rfl, N48q, eh48⟩ := hQ48
    have N48 := Fr.app N46 N48q
    refine Good.back (fun _ k => st48.trans k) ?_
    show Good p e below _ (T48.setTop (mkF m 28 #[.val (.int p0), .val (.int (7 : Int32)), .val (.ref w_LTD), .val (.int (0 : Int32)), .unset, .unset, .unset] [(.int (0 : Int32))]))
    refine Good.back (fun _ k => XS.istore X48.here hx rfl (hb hby at_28) rfl (l' := #[.val (.int p0), .val (.int (7 : Int32)), .val (.ref w_LTD), .val (.int (0 : Int32)), .val (.int (0 : Int32)), .unset, .unset]) rfl k) ?_
    show Good p e below _ (T48.setTop (mkF m 30 #[.val (.int p0), .val (.int (7 : Int32)), .val (.ref w_LTD), .val (.int (0 : Int32)), .val (.int (0 : Int32)), .unset, .unset] []))
    refine Good.back (fun _ k => XS.iloadN X48.here hx rfl (hb hby at_30) rfl k) ?_
    show Good p e below _ (T48.setTop (mkF m 31 #[.val (.int p0), .val (.int (7 : Int32)), .val (.ref w_LTD), .val (.int (0 : Int32)), .val (.int (0 : Int32)), .unset, .unset] [(.int (7 : Int32))]))
    refine Good.back (fun _ k => XS.iconst X48.here hx rfl (hb hby at_31) k) ?_
    show Good p e below _ (T48.setTop (mkF m 32 #[.val (.int p0), .val (.int (7 : Int32)), .val (.ref w_LTD), .val (.int (0 : Int32)), .val (.int (0 : Int32)), .unset, .unset] [(.int (1 : Int32)), (.int (7 : Int32))]))
    refine Good.back (fun _ k => XS.icmpNo X48.here hx rfl (hb hby at_32) rfl (feq (by decide : ¬ ((7 : Int32) = (1 : Int32)))).1 k) ?_
    show Good p e below _ (T48.setTop (mkF m 35 #[.val (.int p0), .val (.int (7 : Int32)), .val (.ref w_LTD), .val (.int (0 : Int32)), .val (.int (0 : Int32)), .unset, .unset] []))
    refine Good.back (fun _ k => XS.iloadN X48.here hx rfl (hb hby at_35) rfl k) ?_
    show Good p e below _ (T48.setTop (mkF m 36 #[.val (.int p0), .val (.int (7 : Int32)), .val (.ref w_LTD), .val (.int (0 : Int32)), .val (.int (0 : Int32)), .unset, .unset] [(.int (7 : Int32))]))
    refine Good.back (fun _ k => XS.iconst X48.here hx rfl (hb hby at_36) k) ?_
    show Good p e below _ (T48.setTop (mkF m 37 #[.val (.int p0), .val (.int (7 : Int32)), .val (.ref w_LTD), .val (.int (0 : Int32)), .val (.int (0 : Int32)), .unset, .unset] [(.int (2 : Int32)), (.int (7 : Int32))]))
    refine Good.back (fun _ k => XS.icmpYes X48.here hx rfl (pc0 := 37) (pc' := 44) rfl (hb hby at_37) rfl (feq (by decide : ¬ ((7 : Int32) = (2 : Int32)))).2 (by decide) (by decide) k) ?_
    show Good p e below _ (T48.setTop (mkF m 44 #[.val (.int p0), .val (.int (7 : Int32)), .val (.ref w_LTD), .val (.int (0 : Int32)), .val (.int (0 : Int32)), .unset, .unset] []))
    refine Good.back (fun _ k => XS.iconst X48.here hx rfl (hb hby at_44) k) ?_
    show Good p e below _ (T48.setTop (mkF m 45 #[.val (.int p0), .val (.int (7 : Int32)), .val (.ref w_LTD), .val (.int (0 : Int32)), .val (.int (0 : Int32)), .unset, .unset] [(.int (0 : Int32))]))
    refine Good.back (fun _ k => XS.istore X48.here hx rfl (hb hby at_45) rfl (l' := #[.val (.int p0), .val (.int (7 : Int32)), .val (.ref w_LTD), .val (.int (0 : Int32)), .val (.int (0 : Int32)), .val (.int (0 : Int32)), .unset]) rfl k) ?_
    show Good p e below _ (T48.setTop (mkF m 47 #[.val (.int p0), .val (.int (7 : Int32)), .val (.ref w_LTD), .val (.int (0 : Int32)), .val (.int (0 : Int32)), .val (.int (0 : Int32)), .unset] []))
    refine Good.back (fun _ k => XS.iloadN X48.here hx rfl (hb hby at_47) rfl k) ?_
    show Good p e below _ (T48.setTop (mkF m 48 #[.val (.int p0), .val (.int (7 : Int32)), .val (.ref w_LTD), .val (.int (0 : Int32)), .val (.int (0 : Int32)), .val (.int (0 : Int32)), .unset] [(.int (7 : Int32))]))
    refine Good.back (fun _ k => XS.ifYes X48.here hx rfl (pc0 := 48) (pc' := 55) rfl (hb hby at_48) rfl ((if0 _ _).trans (feq (by decide : ¬ ((7 : Int32) = (0 : Int32)))).2) (by decide) (by decide) k) ?_
    show Good p e below _ (T48.setTop (mkF m 55 #[.val (.int p0), .val (.int (7 : Int32)), .val (.ref w_LTD), .val (.int (0 : Int32)), .val (.int (0 : Int32)), .val (.int (0 : Int32)), .unset] []))
    refine Good.back (fun _ k => XS.iconst X48.here hx rfl (hb hby at_55) k) ?_
    show Good p e below _ (T48.setTop (mkF m 56 #[.val (.int p0), .val (.int (7 : Int32)), .val (.ref w_LTD), .val (.int (0 : Int32)), .val (.int (0 : Int32)), .val (.int (0 : Int32)), .unset] [(.int (0 : Int32))]))
    refine Good.back (fun _ k => XS.istore X48.here hx rfl (hb hby at_56) rfl (l' := #[.val (.int p0), .val (.int (7 : Int32)), .val (.ref w_LTD), .val (.int (0 : Int32)), .val (.int (0 : Int32)), .val (.int (0 : Int32)), .val (.int (0 : Int32))]) rfl k) ?_
    show Good p e below _ (T48.setTop (mkF m 58 #[.val (.int p0), .val (.int (7 : Int32)), .val (.ref w_LTD), .val (.int (0 : Int32)), .val (.int (0 : Int32)), .val (.int (0 : Int32)), .val (.int (0 : Int32))] []))
    refine Good.back (fun _ k => XS.iloadN X48.here hx rfl (hb hby at_58) rfl k) ?_
    show Good p e below _ (T48.setTop (mkF m 59 #[.val (.int p0), .val (.int (7 : Int32)), .val (.ref w_LTD), .val (.int (0 : Int32)), .val (.int (0 : Int32)), .val (.int (0 : Int32)), .val (.int (0 : Int32))] [(.int (0 : Int32))]))
    refine Good.back (fun _ k => XS.iload X48.here hx rfl (hb hby at_59) rfl k) ?_
    show Good p e below _ (T48.setTop (mkF m 61 #[.val (.int p0), .val (.int (7 : Int32)), .val (.ref w_LTD), .val (.int (0 : Int32)), .val (.int (0 : Int32)), .val (.int (0 : Int32)), .val (.int (0 : Int32))] [(.int (0 : Int32)), (.int (0 : Int32))]))
    refine Good.back (fun _ k => XS.icmpNo X48.here hx rfl (hb hby at_61) rfl (teq (by decide : ((0 : Int32) = (0 : Int32)))).2 k) ?_
    show Good p e below _ (T48.setTop (mkF m 64 #[.val (.int p0), .val (.int (7 : Int32)), .val (.ref w_LTD), .val (.int (0 : Int32)), .val (.int (0 : Int32)), .val (.int (0 : Int32)), .val (.int (0 : Int32))] []))
    refine Good.back (fun _ k => XS.iload X48.here hx rfl (hb hby at_64) rfl k) ?_
    show Good p e below _ (T48.setTop (mkF m 66 #[.val (.int p0), .val (.int (7 : Int32)), .val (.ref w_LTD), .val (.int (0 : Int32)), .val (.int (0 : Int32)), .val (.int (0 : Int32)), .val (.int (0 : Int32))] [(.int (0 : Int32))]))
    refine Good.back (fun _ k => XS.iload X48.here hx rfl (hb hby at_66) rfl k) ?_
    show Good p e below _ (T48.setTop (mkF m 68 #[.val (.int p0), .val (.int (7 : Int32)), .val (.ref w_LTD), .val (.int (0 : Int32)), .val (.int (0 : Int32)), .val (.int (0 : Int32)), .val (.int (0 : Int32))] [(.int (0 : Int32)), (.int (0 : Int32))]))
    refine Good.back (fun _ k => XS.icmpNo X48.here hx rfl (hb hby at_68) rfl (teq (by decide : ((0 : Int32) = (0 : Int32)))).2 k) ?_
    show Good p e below _ (T48.setTop (mkF m 71 #[.val (.int p0), .val (.int (7 : Int32)), .val (.ref w_LTD), .val (.int (0 : Int32)), .val (.int (0 : Int32)), .val (.int (0 : Int32)), .val (.int (0 : Int32))] []))
    refine Good.back (fun _ k => XS.iconst X48.here hx rfl (hb hby at_71) k) ?_
    show Good p e below _ (T48.setTop (mkF m 72 #[.val (.int p0), .val (.int (7 : Int32)), .val (.ref w_LTD), .val (.int (0 : Int32)), .val (.int (0 : Int32)), .val (.int (0 : Int32)), .val (.int (0 : Int32))] [(.int (1 : Int32))]))
    refine Good.back (fun _ k => XS.goto X48.here hx rfl (pc0 := 72) (pc' := 76) rfl (hb hby at_72) (by decide) (by decide) k) ?_
    show Good p e below _ (T48.setTop (mkF m 76 #[.val (.int p0), .val (.int (7 : Int32)), .val (.ref w_LTD), .val (.int (0 : Int32)), .val (.int (0 : Int32)), .val (.int (0 : Int32)), .val (.int (0 : Int32))] [(.int (1 : Int32))]))
    obtain ⟨fs49, hr49, hrun49, hended49, hW49, hsame49⟩ := X48.leave (v := some (.int (1 : Int32))) (fun h => by rw [Bd.returns] at h; cases h)
    refine Good.done (retN X48 hx (t := .boolean) Bd.returns (by simp) (hb hby at_76) hr49) hrun49 hended49 ⟨_, _, rfl, ?_, ⟨_, rfl⟩, hW49, hsame49.mono (by decide) (by decide)⟩
    show Q0 Z p0 w_PNCPS w_PERPETUAL_DEBT w_TIER1_INSTRUMENTS w_PCPS w_LTSB w_LTD w_IPDI w_PDI w_RNCPS w_RCPS h0 n0 _ T48.heap _
    rw [eh48]
    exact ⟨rfl, N48⟩
set_option maxRecDepth 65536 in
set_option maxHeartbeats 40000000 in
theorem comes_1 {Post : Tables → Env → Array Value → State → Outcome → State → Prop} (hpost : ∀ tb e args s v u, (limb_1_1.after args s (.returned v) u = true ∧ limb_1_2.after args s (.returned v) u = true ∧ True) → FrameEnd s (.returned v) u (Jvm.fieldLocs frame_1_writes args s ++ Jvm.arrayLocs frame_1_arrays args s ++ Jvm.staticLocs frame_1_statics s) 0 0 → Post tb e args s (.returned v) u) :
    ArmFor flags0 classFile x code maxLocals ret World_1 tables_1 room_1 Calls_1 rest_1 Pre_1 Post := by
  intro l hfl _ _ p e ha hc hk s m args below hf hA hF happ hP
  obtain ⟨hcalls, hrest, hpre⟩ := hP
  obtain ⟨-, -, -, hnamed, -, -, -, hat⟩ := (Spec.applies_iff hf).mp happ
  obtain ⟨hg, hn⟩ := and_e (Cond.before_iff.mp (show (Jvm.Cond.and given_1 narrow_1).before args s = true from hpre))
  obtain ⟨g1, g2⟩ := and_e hg
  obtain ⟨w0, rfl⟩ : ∃ w0 : Value, args = #[w0] := by
    have hs : args.size = 1 := by simpa [Cond.value, given_1] using g1
    obtain ⟨L⟩ := args
    match L, hs with
    | [w0], _ => exact ⟨w0, rfl⟩
  have hw := fun d (hd : d ∈ tables_1) => atoms_spec (ws := Jvm.Cond.code x code maxLocals ret :: tables_1) hat d (List.mem_cons_of_mem _ hd)
  have hfit : Fit s := fun {y c} hc i hi => by
    obtain ⟨ha, rfl⟩ := Array.getElem?_eq_some_iff.mp hc
    have q := List.all_eq_true.mp ((Array.all_eq_true_iff_forall_mem.mp hF) _ (Array.getElem_mem ha)) i (List.mem_range.mpr hi)
    simpa [Array.getElem?_eq_getElem hi] using q
  obtain ⟨i0, ei0⟩ := is_v g2
  obtain rfl : w0 = (.int i0) := Option.some.inj ei0
  obtain ⟨c1, c2⟩ := and_e hn
  obtain ⟨c3, c4⟩ := and_e c2
  obtain ⟨c5, c6⟩ := and_e c4
  obtain ⟨c7, c8⟩ := and_e c6
  obtain ⟨c9, c10⟩ := and_e c8
  obtain ⟨c11, c12⟩ := and_e c10
  obtain ⟨c13, c14⟩ := and_e c12
  obtain ⟨c15, c16⟩ := and_e c14
  obtain ⟨c17, c18⟩ := and_e c16
  obtain ⟨c19, c20⟩ := and_e c18
  obtain ⟨c21, c22⟩ := and_e c20
  obtain ⟨c23, c24⟩ := and_e c22
  obtain ⟨c25, c26⟩ := and_e c24
  obtain ⟨c27, c28⟩ := and_e c26
  obtain ⟨c29, c30⟩ := and_e c28
  obtain ⟨c31, c32⟩ := and_e c30
  obtain ⟨c33, c34⟩ := and_e c32
  obtain ⟨c35, c36⟩ := and_e c34
  obtain ⟨c37, c38⟩ := and_e c36
  obtain ⟨w_PNCPS, ev_w_PNCPS⟩ := exa_v c1
  have S_w_PNCPS : Sta s s.heap "com/example/poonji/poonji/RcbInstrumentType" "PNCPS" "Lcom/example/poonji/poonji/RcbInstrumentType;" (.ref w_PNCPS) := Sta.start ev_w_PNCPS (Or.inr ⟨(hw _ (List.mem_of_getElem? (i := 6) rfl)), (hw _ (List.mem_of_getElem? (i := 7) rfl))⟩)
  have E_w_PNCPS : Exa s s.heap w_PNCPS "com/example/poonji/poonji/RcbInstrumentType" := Exa.start ev_w_PNCPS c1
  obtain ⟨w_PERPETUAL_DEBT, ev_w_PERPETUAL_DEBT⟩ := exa_v c3
  have S_w_PERPETUAL_DEBT : Sta s s.heap "com/example/poonji/poonji/RcbInstrumentType$Tier1Cap" "PERPETUAL_DEBT" "Lcom/example/poonji/poonji/RcbInstrumentType$Tier1Cap;" (.ref w_PERPETUAL_DEBT) := Sta.start ev_w_PERPETUAL_DEBT (Or.inr ⟨(hw _ (List.mem_of_getElem? (i := 9) rfl)), (hw _ (List.mem_of_getElem? (i := 10) rfl))⟩)
  have E_w_PERPETUAL_DEBT : Exa s s.heap w_PERPETUAL_DEBT "com/example/poonji/poonji/RcbInstrumentType$Tier1Cap" := Exa.start ev_w_PERPETUAL_DEBT c3
  obtain ⟨w_TIER1_INSTRUMENTS, ev_w_TIER1_INSTRUMENTS⟩ := exa_v c5
  have S_w_TIER1_INSTRUMENTS : Sta s s.heap "com/example/poonji/poonji/RcbInstrumentType$Tier1Cap" "TIER1_INSTRUMENTS" "Lcom/example/poonji/poonji/RcbInstrumentType$Tier1Cap;" (.ref w_TIER1_INSTRUMENTS) := Sta.start ev_w_TIER1_INSTRUMENTS (Or.inr ⟨(hw _ (List.mem_of_getElem? (i := 9) rfl)), (hw _ (List.mem_of_getElem? (i := 18) rfl))⟩)
  have E_w_TIER1_INSTRUMENTS : Exa s s.heap w_TIER1_INSTRUMENTS "com/example/poonji/poonji/RcbInstrumentType$Tier1Cap" := Exa.start ev_w_TIER1_INSTRUMENTS c5
  obtain ⟨w_PCPS, ev_w_PCPS⟩ := exa_v c13
  have S_w_PCPS : Sta s s.heap "com/example/poonji/poonji/RcbInstrumentType" "PCPS" "Lcom/example/poonji/poonji/RcbInstrumentType;" (.ref w_PCPS) := Sta.start ev_w_PCPS (Or.inr ⟨(hw _ (List.mem_of_getElem? (i := 6) rfl)), (hw _ (List.mem_of_getElem? (i := 21) rfl))⟩)
  have E_w_PCPS : Exa s s.heap w_PCPS "com/example/poonji/poonji/RcbInstrumentType" := Exa.start ev_w_PCPS c13
  obtain ⟨w_LTSB, ev_w_LTSB⟩ := exa_v c17
  have S_w_LTSB : Sta s s.heap "com/example/poonji/poonji/RcbInstrumentType" "LTSB" "Lcom/example/poonji/poonji/RcbInstrumentType;" (.ref w_LTSB) := Sta.start ev_w_LTSB (Or.inr ⟨(hw _ (List.mem_of_getElem? (i := 6) rfl)), (hw _ (List.mem_of_getElem? (i := 23) rfl))⟩)
  have E_w_LTSB : Exa s s.heap w_LTSB "com/example/poonji/poonji/RcbInstrumentType" := Exa.start ev_w_LTSB c17
  obtain ⟨w_LTD, ev_w_LTD⟩ := exa_v c21
  have S_w_LTD : Sta s s.heap "com/example/poonji/poonji/RcbInstrumentType" "LTD" "Lcom/example/poonji/poonji/RcbInstrumentType;" (.ref w_LTD) := Sta.start ev_w_LTD (Or.inr ⟨(hw _ (List.mem_of_getElem? (i := 6) rfl)), (hw _ (List.mem_of_getElem? (i := 25) rfl))⟩)
  have E_w_LTD : Exa s s.heap w_LTD "com/example/poonji/poonji/RcbInstrumentType" := Exa.start ev_w_LTD c21
  obtain ⟨w_IPDI, ev_w_IPDI⟩ := exa_v c25
  have S_w_IPDI : Sta s s.heap "com/example/poonji/poonji/RcbInstrumentType" "IPDI" "Lcom/example/poonji/poonji/RcbInstrumentType;" (.ref w_IPDI) := Sta.start ev_w_IPDI (Or.inr ⟨(hw _ (List.mem_of_getElem? (i := 6) rfl)), (hw _ (List.mem_of_getElem? (i := 27) rfl))⟩)
  have E_w_IPDI : Exa s s.heap w_IPDI "com/example/poonji/poonji/RcbInstrumentType" := Exa.start ev_w_IPDI c25
  obtain ⟨w_PDI, ev_w_PDI⟩ := exa_v c29
  have S_w_PDI : Sta s s.heap "com/example/poonji/poonji/RcbInstrumentType" "PDI" "Lcom/example/poonji/poonji/RcbInstrumentType;" (.ref w_PDI) := Sta.start ev_w_PDI (Or.inr ⟨(hw _ (List.mem_of_getElem? (i := 6) rfl)), (hw _ (List.mem_of_getElem? (i := 29) rfl))⟩)
  have E_w_PDI : Exa s s.heap w_PDI "com/example/poonji/poonji/RcbInstrumentType" := Exa.start ev_w_PDI c29
  obtain ⟨w_RNCPS, ev_w_RNCPS⟩ := exa_v c33
  have S_w_RNCPS : Sta s s.heap "com/example/poonji/poonji/RcbInstrumentType" "RNCPS" "Lcom/example/poonji/poonji/RcbInstrumentType;" (.ref w_RNCPS) := Sta.start ev_w_RNCPS (Or.inr ⟨(hw _ (List.mem_of_getElem? (i := 6) rfl)), (hw _ (List.mem_of_getElem? (i := 31) rfl))⟩)
  have E_w_RNCPS : Exa s s.heap w_RNCPS "com/example/poonji/poonji/RcbInstrumentType" := Exa.start ev_w_RNCPS c33
  obtain ⟨w_RCPS, ev_w_RCPS⟩ := exa_v c37
  have S_w_RCPS : Sta s s.heap "com/example/poonji/poonji/RcbInstrumentType" "RCPS" "Lcom/example/poonji/poonji/RcbInstrumentType;" (.ref w_RCPS) := Sta.start ev_w_RCPS (Or.inr ⟨(hw _ (List.mem_of_getElem? (i := 6) rfl)), (hw _ (List.mem_of_getElem? (i := 33) rfl))⟩)
  have E_w_RCPS : Exa s s.heap w_RCPS "com/example/poonji/poonji/RcbInstrumentType" := Exa.start ev_w_RCPS c37
  have F_tier1Cap_w_PNCPS : Fld s s.heap w_PNCPS "com/example/poonji/poonji/RcbInstrumentType" "tier1Cap" "Lcom/example/poonji/poonji/RcbInstrumentType$Tier1Cap;" (.ref w_TIER1_INSTRUMENTS) := Fld.start ((fld_at ev_w_PNCPS).symm.trans (own_eqV c7 ev_w_TIER1_INSTRUMENTS))
  have F_ordinal_w_TIER1_INSTRUMENTS : Fld s s.heap w_TIER1_INSTRUMENTS "java/lang/Enum" "ordinal" "I" (.int (1 : Int32)) := Fld.start ((fld_at ev_w_TIER1_INSTRUMENTS).symm.trans (own_eqV c9 rfl))
  have F_ordinal_w_PERPETUAL_DEBT : Fld s s.heap w_PERPETUAL_DEBT "java/lang/Enum" "ordinal" "I" (.int (0 : Int32)) := Fld.start ((fld_at ev_w_PERPETUAL_DEBT).symm.trans (own_eqV c11 rfl))
  have F_tier1Cap_w_PCPS : Fld s s.heap w_PCPS "com/example/poonji/poonji/RcbInstrumentType" "tier1Cap" "Lcom/example/poonji/poonji/RcbInstrumentType$Tier1Cap;" .null := Fld.start ((fld_at ev_w_PCPS).symm.trans (own_eqV c15 rfl))
  have F_tier1Cap_w_LTSB : Fld s s.heap w_LTSB "com/example/poonji/poonji/RcbInstrumentType" "tier1Cap" "Lcom/example/poonji/poonji/RcbInstrumentType$Tier1Cap;" .null := Fld.start ((fld_at ev_w_LTSB).symm.trans (own_eqV c19 rfl))
  have F_tier1Cap_w_LTD : Fld s s.heap w_LTD "com/example/poonji/poonji/RcbInstrumentType" "tier1Cap" "Lcom/example/poonji/poonji/RcbInstrumentType$Tier1Cap;" .null := Fld.start ((fld_at ev_w_LTD).symm.trans (own_eqV c23 rfl))
  have F_tier1Cap_w_IPDI : Fld s s.heap w_IPDI "com/example/poonji/poonji/RcbInstrumentType" "tier1Cap" "Lcom/example/poonji/poonji/RcbInstrumentType$Tier1Cap;" (.ref w_PERPETUAL_DEBT) := Fld.start ((fld_at ev_w_IPDI).symm.trans (own_eqV c27 ev_w_PERPETUAL_DEBT))
  have F_tier1Cap_w_PDI : Fld s s.heap w_PDI "com/example/poonji/poonji/RcbInstrumentType" "tier1Cap" "Lcom/example/poonji/poonji/RcbInstrumentType$Tier1Cap;" (.ref w_PERPETUAL_DEBT) := Fld.start ((fld_at ev_w_PDI).symm.trans (own_eqV c31 ev_w_PERPETUAL_DEBT))
  have F_tier1Cap_w_RNCPS : Fld s s.heap w_RNCPS "com/example/poonji/poonji/RcbInstrumentType" "tier1Cap" "Lcom/example/poonji/poonji/RcbInstrumentType$Tier1Cap;" .null := Fld.start ((fld_at ev_w_RNCPS).symm.trans (own_eqV c35 rfl))
  have F_tier1Cap_w_RCPS : Fld s s.heap w_RCPS "com/example/poonji/poonji/RcbInstrumentType" "tier1Cap" "Lcom/example/poonji/poonji/RcbInstrumentType$Tier1Cap;" .null := Fld.start ((fld_at ev_w_RCPS).symm.trans (own_eqV c38 rfl))
  obtain ⟨n, o, h1, h2, h3, _, L, rfl, ⟨rfl, N⟩, hq⟩ := rm0 l s _ hw tables_1 i0 w_PNCPS w_PERPETUAL_DEBT w_TIER1_INSTRUMENTS w_PCPS w_LTSB w_LTD w_IPDI w_PDI w_RNCPS w_RCPS s.heap s.heap.size (Nat.le_refl _) S_w_PNCPS E_w_PNCPS S_w_PERPETUAL_DEBT E_w_PERPETUAL_DEBT S_w_TIER1_INSTRUMENTS E_w_TIER1_INSTRUMENTS S_w_PCPS E_w_PCPS S_w_LTSB E_w_LTSB S_w_LTD E_w_LTD S_w_IPDI E_w_IPDI S_w_PDI E_w_PDI S_w_RNCPS E_w_RNCPS S_w_RCPS E_w_RCPS F_tier1Cap_w_PNCPS F_ordinal_w_TIER1_INSTRUMENTS F_ordinal_w_PERPETUAL_DEBT F_tier1Cap_w_PCPS F_tier1Cap_w_LTSB F_tier1Cap_w_LTD F_tier1Cap_w_IPDI F_tier1Cap_w_PDI F_tier1Cap_w_RNCPS F_tier1Cap_w_RCPS (F_ordinal_w_TIER1_INSTRUMENTS.ne F_ordinal_w_PERPETUAL_DEBT (by simp)) p e ha hc hk s m _ below hf ((Spec.applies_iff_loose hf).mp happ).1 ⟨rfl, State.Warmed39.refl s, rfl⟩ trivial
  refine ⟨n, _, h1, h2, h3, hpost _ _ _ _ _ _ ⟨Cond.after_iff.mpr rfl, Cond.after_iff.mpr (eq_i res_at (Term.int_eval (1)) rfl), trivial⟩ ⟨hq.1, hq.2.1, (hq.2.2.sift fun y hy => Or.inr (N y hy)).mono (by decide) (by decide)⟩⟩
theorem main_1_1 : Claimed_1_1 := comes_1 fun _ _ _ _ _ _ h hF => ⟨h.1, hF⟩
theorem main_1_2 : Claimed_1_2 := comes_1 fun _ _ _ _ _ _ h hF => ⟨h.2.1, hF⟩
end Jvm.Pilot.@@N@@
namespace Jvm.Pilot.@@N@@
open Jvm Jvm.ClassFile Sem Op Lib Jvm.Free Jvm.Stand Jvm.Pilot.@@N@@.Jvm.D
/-! MADE BY PROGRAM (witnessworld.py) out of the Statement's table words and the real class files: 14 classes; the members and pool entries that the words name. The judged class is class 1, her method 1. -/
namespace start1
open Jvm.ClassFile
def u (s : String) : CpInfo := .utf8 (stringToUtf16 s)
/-- a pool by its gaps: so many unusable entries, then the entry; so many at the end -/
def gap : Nat → List CpInfo → List CpInfo
  | 0, r => r
  | n + 1, r => .unusable :: gap n r
def poolList (es : List (Nat × CpInfo)) (last : Nat) : List CpInfo := es.foldr (fun e r => gap e.1 (e.2 :: r)) (gap last [])
def pool (es : List (Nat × CpInfo)) (last : Nat) : Array CpInfo := ⟨poolList es last⟩
def fileOf (pool : Array CpInfo) (this : Nat) (attrs : Array Attribute := #[]) (ms : Array MethodInfo := #[]) (fl : Nat := 33) (sup : Nat := 0) (ifs : Array Nat := #[]) (fds : Array FieldInfo := #[]) : ClassFile where
  minorVersion := 0
  majorVersion := 65
  constantPool := pool
  accessFlags := fl
  thisClass := this
  superClass := sup
  interfaces := ifs
  fields := fds
  methods := ms
  attributes := attrs
def plain (name : String) (sup : Option ClassId) : Class where
  name := name
  kind := .ordinary
  loader := none
  accessFlags := 33
  super := sup
  interfaces := #[]
  cf := none
  fields := #[]
  methods := #[]
  instanceTypes := #[]
  staticTypes := #[]
  resolved := #[]
  callSites := []
  init := .initialized
  statics := none
  mirror := none

def pool0 : Array CpInfo := pool [(5, u "<init>"), (0, u "()V"), (1, .class_ 10), (1, u "java/lang/Object")] 113

def k0m0 : Method := { name := "<init>", desc := "()V", sig := { parameters := [], returnType := none }, accessFlags := 1, code := none }
/-- java/lang/Object -/
def k0 : Class := { plain "java/lang/Object" none with
  accessFlags := 33
  interfaces := #[]
  cf := some (fileOf pool0 8 #[] #[{ accessFlags := 1, nameIndex := 5, descriptorIndex := 6, attributes := #[] }] 33 0 #[] #[])
  fields := #[]
  methods := #[k0m0]
  instanceTypes := #[]
  staticTypes := #[]
  resolved := Array.replicate 124 none
  statics := none }

def pool1 : Array CpInfo := pool [(2, .class_ 4), (1, u "java/lang/Object"), (0, u "<init>"), (0, u "()V"), (0, .integer 2147483647), (0, .methodref 9 10), (0, .class_ 11), (0, .nameAndType 12 13), (0, u "com/example/poonji/poonji/RcbInstrumentTypeHeldInTier1ByPinLaw"), (0, u "pick"), (0, u "(I)Lcom/example/poonji/poonji/RcbInstrumentType;"), (0, .fieldref 15 16), (0, .class_ 17), (0, .nameAndType 18 19), (0, u "com/example/poonji/poonji/RcbInstrumentType$Tier1Cap"), (0, u "PERPETUAL_DEBT"), (0, u "Lcom/example/poonji/poonji/RcbInstrumentType$Tier1Cap;"), (0, .methodref 21 22), (0, .class_ 23), (0, .nameAndType 24 25), (0, u "com/example/poonji/poonji/RcbInstrumentType"), (0, u "heldInTier1By"), (0, u "(Lcom/example/poonji/poonji/RcbInstrumentType$Tier1Cap;)Z"), (0, .fieldref 15 27), (0, .nameAndType 28 19), (0, u "TIER1_INSTRUMENTS"), (0, .fieldref 21 30), (0, .nameAndType 31 32), (0, u "PNCPS"), (0, u "Lcom/example/poonji/poonji/RcbInstrumentType;"), (0, .fieldref 21 34), (0, .nameAndType 35 32), (0, u "PDI"), (0, .fieldref 21 37), (0, .nameAndType 38 32), (0, u "IPDI"), (0, .fieldref 21 40), (0, .nameAndType 41 32), (0, u "PCPS"), (0, .fieldref 21 43), (0, .nameAndType 44 32), (0, u "RNCPS"), (0, .fieldref 21 46), (0, .nameAndType 47 32), (0, u "RCPS"), (0, .fieldref 21 49), (0, .nameAndType 50 32), (0, u "LTSB"), (0, .fieldref 21 52), (0, .nameAndType 53 32), (0, u "LTD"), (2, u "law"), (0, u "(I)Z")] 5

def k1m0 : Method := { name := "<init>", desc := "()V", sig := { parameters := [], returnType := none }, accessFlags := 1, code := none }
def k1c1 : Code := { maxStack := 2, maxLocals := 7, code := code, exceptionTable := #[], attributes := #[] }
def k1m1 : Method := { name := "law", desc := "(I)Z", sig := { parameters := [.int], returnType := some .boolean }, accessFlags := 9, code := some k1c1 }
def k1c2 : Code := { maxStack := 2, maxLocals := 1, code := method_3_code, exceptionTable := #[], attributes := #[] }
def k1m2 : Method := { name := "pick", desc := "(I)Lcom/example/poonji/poonji/RcbInstrumentType;", sig := { parameters := [.int], returnType := some (.object "com/example/poonji/poonji/RcbInstrumentType") }, accessFlags := 10, code := some k1c2 }
/-- com/example/poonji/poonji/RcbInstrumentTypeHeldInTier1ByPinLaw -/
def k1 : Class := { plain "com/example/poonji/poonji/RcbInstrumentTypeHeldInTier1ByPinLaw" (some 0) with
  accessFlags := 49
  interfaces := #[]
  cf := some (fileOf pool1 9 #[] #[{ accessFlags := 1, nameIndex := 5, descriptorIndex := 6, attributes := #[] }, { accessFlags := 9, nameIndex := 56, descriptorIndex := 57, attributes := #[] }, { accessFlags := 10, nameIndex := 12, descriptorIndex := 13, attributes := #[] }] 49 2 #[] #[])
  fields := #[]
  methods := #[k1m0, k1m1, k1m2]
  instanceTypes := #[]
  staticTypes := #[]
  resolved := Array.replicate 63 none
  statics := none }

def pool2 : Array CpInfo := pool [(1, .class_ 2), (0, u "java/lang/constant/Constable"), (0, .class_ 4), (0, u "java/lang/Object")] 6

/-- java/lang/constant/Constable -/
def k2 : Class := { plain "java/lang/constant/Constable" (some 0) with
  accessFlags := 1537
  interfaces := #[]
  cf := some (fileOf pool2 1 #[] #[] 1537 3 #[] #[])
  fields := #[]
  methods := #[]
  instanceTypes := #[]
  staticTypes := #[]
  resolved := Array.replicate 11 none
  statics := none }

def pool3 : Array CpInfo := pool [(1, .class_ 2), (0, u "java/lang/Comparable"), (0, .class_ 4), (0, u "java/lang/Object")] 7

/-- java/lang/Comparable -/
def k3 : Class := { plain "java/lang/Comparable" (some 0) with
  accessFlags := 1537
  interfaces := #[]
  cf := some (fileOf pool3 1 #[] #[] 1537 3 #[] #[])
  fields := #[]
  methods := #[]
  instanceTypes := #[]
  staticTypes := #[]
  resolved := Array.replicate 12 none
  statics := none }

def pool4 : Array CpInfo := pool [(1, .class_ 2), (0, u "java/io/Serializable"), (0, .class_ 4), (0, u "java/lang/Object")] 2

/-- java/io/Serializable -/
def k4 : Class := { plain "java/io/Serializable" (some 0) with
  accessFlags := 1537
  interfaces := #[]
  cf := some (fileOf pool4 1 #[] #[] 1537 3 #[] #[])
  fields := #[]
  methods := #[]
  instanceTypes := #[]
  staticTypes := #[]
  resolved := Array.replicate 7 none
  statics := none }

def pool5 : Array CpInfo := pool [(2, .class_ 4), (1, u "java/lang/Enum"), (0, u "name"), (0, u "Ljava/lang/String;"), (2, u "ordinal"), (0, u "I"), (1, .class_ 14), (1, u "java/lang/Object"), (4, u "hash"), (86, .class_ 108), (1, u "java/lang/Enum$EnumDesc"), (2, .class_ 112), (0, u "java/lang/constant/Constable"), (0, .class_ 114), (0, u "java/lang/Comparable"), (0, .class_ 116), (0, u "java/io/Serializable")] 87

/-- java/lang/Enum -/
def k5 : Class := { plain "java/lang/Enum" (some 0) with
  accessFlags := 1057
  interfaces := #[2, 3, 4]
  cf := some (fileOf pool5 2 #[.nestMembers #[106]] #[] 1057 12 #[111, 113, 115] #[{ accessFlags := 18, nameIndex := 5, descriptorIndex := 6, attributes := #[] }, { accessFlags := 18, nameIndex := 9, descriptorIndex := 10, attributes := #[] }, { accessFlags := 2, nameIndex := 19, descriptorIndex := 10, attributes := #[] }])
  fields := #[{ name := "name", type := (.object "java/lang/String"), accessFlags := 18, slot := 0, constantValue := 0 }, { name := "ordinal", type := .int, accessFlags := 18, slot := 1, constantValue := 0 }, { name := "hash", type := .int, accessFlags := 2, slot := 2, constantValue := 0 }]
  methods := #[]
  instanceTypes := #[(.object "java/lang/String"), .int, .int]
  staticTypes := #[]
  resolved := Array.replicate 204 none
  statics := none }

def pool6 : Array CpInfo := pool [(2, .class_ 4), (1, u "com/example/poonji/poonji/InstrumentType"), (3, .class_ 10), (1, u "com/example/poonji/poonji/InstrumentType$Term"), (28, u "COUNTED_PERCENT_BY_WHOLE_YEARS_LEFT"), (0, u "Ljava/util/List;"), (0, .class_ 42), (0, u "java/lang/Object"), (19, .class_ 63), (0, u "com/example/poonji/poonji/InstrumentType$Tier")] 3

/-- com/example/poonji/poonji/InstrumentType -/
def k6 : Class := { plain "com/example/poonji/poonji/InstrumentType" (some 0) with
  accessFlags := 1537
  interfaces := #[]
  cf := some (fileOf pool6 2 #[.nestMembers #[8, 62]] #[] 1537 41 #[] #[{ accessFlags := 25, nameIndex := 39, descriptorIndex := 40, attributes := #[] }])
  fields := #[{ name := "COUNTED_PERCENT_BY_WHOLE_YEARS_LEFT", type := (.object "java/util/List"), accessFlags := 25, slot := 0, constantValue := 0 }]
  methods := #[]
  instanceTypes := #[]
  staticTypes := #[(.object "java/util/List")]
  resolved := Array.replicate 67 none
  statics := none }

def pool7 : Array CpInfo := pool [(1, .class_ 2), (0, u "com/example/poonji/poonji/RcbInstrumentType"), (2, u "PNCPS"), (0, u "Lcom/example/poonji/poonji/RcbInstrumentType;"), (2, u "PDI"), (2, u "IPDI"), (2, u "PCPS"), (2, u "RNCPS"), (2, u "RCPS"), (2, u "LTSB"), (2, u "LTD"), (2, u "$VALUES"), (0, u "[Lcom/example/poonji/poonji/RcbInstrumentType;"), (6, .class_ 40), (1, u "java/lang/Enum"), (7, u "Lcom/example/poonji/poonji/InstrumentType$Term;"), (11, .class_ 62), (1, u "com/example/poonji/poonji/RcbInstrumentType$1"), (24, u "code"), (0, u "Ljava/lang/String;"), (2, u "tier"), (0, u "Lcom/example/poonji/poonji/InstrumentType$Tier;"), (2, u "term"), (0, .fieldref 1 97), (0, .nameAndType 98 99), (0, u "tier1Cap"), (0, u "Lcom/example/poonji/poonji/RcbInstrumentType$Tier1Cap;"), (2, u "paragraph"), (2, u "shortestTermParagraph"), (2, u "discountParagraph"), (2, u "BY_CODE"), (0, u "Ljava/util/Map;"), (13, .class_ 128), (1, u "com/example/poonji/poonji/RcbInstrumentType$Tier1Cap"), (3, u "heldInTier1By"), (0, u "(Lcom/example/poonji/poonji/RcbInstrumentType$Tier1Cap;)Z"), (15, u "Lcom/example/poonji/poonji/Rule;"), (89, u "PERPETUAL_DEBT_CAP_PERCENT_OF_PREVIOUS_TIER1"), (0, u "Ljava/math/BigDecimal;"), (4, u "PERPETUAL_DEBT_CAP_RULE"), (4, u "TIER1_INSTRUMENTS_CAP_PERCENT_OF_CORE_TIER1"), (4, u "TIER1_INSTRUMENTS_CAP_RULE"), (4, u "LOWER_TIER2_CAP_PERCENT_OF_TIER1"), (2, u "LOWER_TIER2_CAP_RULE"), (4, u "TIER2_CAP_PERCENT_OF_TIER1"), (4, u "TIER2_CAP_RULE"), (13, .class_ 288), (0, u "com/example/poonji/poonji/InstrumentType"), (0, u "MIN_ORIGINAL_YEARS"), (0, u "I")] 66

def k7c0 : Code := { maxStack := 2, maxLocals := 2, code := prog_52_method_12_code, exceptionTable := #[], attributes := #[] }
def k7m0 : Method := { name := "heldInTier1By", desc := "(Lcom/example/poonji/poonji/RcbInstrumentType$Tier1Cap;)Z", sig := { parameters := [(.object "com/example/poonji/poonji/RcbInstrumentType$Tier1Cap")], returnType := some .boolean }, accessFlags := 0, code := some k7c0 }
/-- com/example/poonji/poonji/RcbInstrumentType -/
def k7 : Class := { plain "com/example/poonji/poonji/RcbInstrumentType" (some 5) with
  accessFlags := 16433
  interfaces := #[6]
  cf := some (fileOf pool7 1 #[.nestMembers #[60, 126]] #[{ accessFlags := 0, nameIndex := 132, descriptorIndex := 133, attributes := #[] }] 16433 38 #[287] #[{ accessFlags := 16409, nameIndex := 5, descriptorIndex := 6, attributes := #[] }, { accessFlags := 16409, nameIndex := 9, descriptorIndex := 6, attributes := #[] }, { accessFlags := 16409, nameIndex := 12, descriptorIndex := 6, attributes := #[] }, { accessFlags := 16409, nameIndex := 15, descriptorIndex := 6, attributes := #[] }, { accessFlags := 16409, nameIndex := 18, descriptorIndex := 6, attributes := #[] }, { accessFlags := 16409, nameIndex := 21, descriptorIndex := 6, attributes := #[] }, { accessFlags := 16409, nameIndex := 24, descriptorIndex := 6, attributes := #[] }, { accessFlags := 16409, nameIndex := 27, descriptorIndex := 6, attributes := #[] }, { accessFlags := 25, nameIndex := 289, descriptorIndex := 290, attributes := #[] }, { accessFlags := 25, nameIndex := 239, descriptorIndex := 240, attributes := #[] }, { accessFlags := 25, nameIndex := 245, descriptorIndex := 149, attributes := #[] }, { accessFlags := 25, nameIndex := 250, descriptorIndex := 240, attributes := #[] }, { accessFlags := 25, nameIndex := 255, descriptorIndex := 149, attributes := #[] }, { accessFlags := 25, nameIndex := 260, descriptorIndex := 240, attributes := #[] }, { accessFlags := 25, nameIndex := 263, descriptorIndex := 149, attributes := #[] }, { accessFlags := 25, nameIndex := 268, descriptorIndex := 240, attributes := #[] }, { accessFlags := 25, nameIndex := 273, descriptorIndex := 149, attributes := #[] }, { accessFlags := 26, nameIndex := 111, descriptorIndex := 112, attributes := #[] }, { accessFlags := 18, nameIndex := 87, descriptorIndex := 88, attributes := #[] }, { accessFlags := 18, nameIndex := 91, descriptorIndex := 92, attributes := #[] }, { accessFlags := 18, nameIndex := 95, descriptorIndex := 48, attributes := #[] }, { accessFlags := 18, nameIndex := 98, descriptorIndex := 99, attributes := #[] }, { accessFlags := 18, nameIndex := 102, descriptorIndex := 88, attributes := #[] }, { accessFlags := 18, nameIndex := 105, descriptorIndex := 88, attributes := #[] }, { accessFlags := 18, nameIndex := 108, descriptorIndex := 88, attributes := #[] }, { accessFlags := 4122, nameIndex := 30, descriptorIndex := 31, attributes := #[] }])
  fields := #[{ name := "PNCPS", type := (.object "com/example/poonji/poonji/RcbInstrumentType"), accessFlags := 16409, slot := 0, constantValue := 0 }, { name := "PDI", type := (.object "com/example/poonji/poonji/RcbInstrumentType"), accessFlags := 16409, slot := 1, constantValue := 0 }, { name := "IPDI", type := (.object "com/example/poonji/poonji/RcbInstrumentType"), accessFlags := 16409, slot := 2, constantValue := 0 }, { name := "PCPS", type := (.object "com/example/poonji/poonji/RcbInstrumentType"), accessFlags := 16409, slot := 3, constantValue := 0 }, { name := "RNCPS", type := (.object "com/example/poonji/poonji/RcbInstrumentType"), accessFlags := 16409, slot := 4, constantValue := 0 }, { name := "RCPS", type := (.object "com/example/poonji/poonji/RcbInstrumentType"), accessFlags := 16409, slot := 5, constantValue := 0 }, { name := "LTSB", type := (.object "com/example/poonji/poonji/RcbInstrumentType"), accessFlags := 16409, slot := 6, constantValue := 0 }, { name := "LTD", type := (.object "com/example/poonji/poonji/RcbInstrumentType"), accessFlags := 16409, slot := 7, constantValue := 0 }, { name := "MIN_ORIGINAL_YEARS", type := .int, accessFlags := 25, slot := 8, constantValue := 0 }, { name := "PERPETUAL_DEBT_CAP_PERCENT_OF_PREVIOUS_TIER1", type := (.object "java/math/BigDecimal"), accessFlags := 25, slot := 9, constantValue := 0 }, { name := "PERPETUAL_DEBT_CAP_RULE", type := (.object "com/example/poonji/poonji/Rule"), accessFlags := 25, slot := 10, constantValue := 0 }, { name := "TIER1_INSTRUMENTS_CAP_PERCENT_OF_CORE_TIER1", type := (.object "java/math/BigDecimal"), accessFlags := 25, slot := 11, constantValue := 0 }, { name := "TIER1_INSTRUMENTS_CAP_RULE", type := (.object "com/example/poonji/poonji/Rule"), accessFlags := 25, slot := 12, constantValue := 0 }, { name := "LOWER_TIER2_CAP_PERCENT_OF_TIER1", type := (.object "java/math/BigDecimal"), accessFlags := 25, slot := 13, constantValue := 0 }, { name := "LOWER_TIER2_CAP_RULE", type := (.object "com/example/poonji/poonji/Rule"), accessFlags := 25, slot := 14, constantValue := 0 }, { name := "TIER2_CAP_PERCENT_OF_TIER1", type := (.object "java/math/BigDecimal"), accessFlags := 25, slot := 15, constantValue := 0 }, { name := "TIER2_CAP_RULE", type := (.object "com/example/poonji/poonji/Rule"), accessFlags := 25, slot := 16, constantValue := 0 }, { name := "BY_CODE", type := (.object "java/util/Map"), accessFlags := 26, slot := 17, constantValue := 0 }, { name := "code", type := (.object "java/lang/String"), accessFlags := 18, slot := 3, constantValue := 0 }, { name := "tier", type := (.object "com/example/poonji/poonji/InstrumentType$Tier"), accessFlags := 18, slot := 4, constantValue := 0 }, { name := "term", type := (.object "com/example/poonji/poonji/InstrumentType$Term"), accessFlags := 18, slot := 5, constantValue := 0 }, { name := "tier1Cap", type := (.object "com/example/poonji/poonji/RcbInstrumentType$Tier1Cap"), accessFlags := 18, slot := 6, constantValue := 0 }, { name := "paragraph", type := (.object "java/lang/String"), accessFlags := 18, slot := 7, constantValue := 0 }, { name := "shortestTermParagraph", type := (.object "java/lang/String"), accessFlags := 18, slot := 8, constantValue := 0 }, { name := "discountParagraph", type := (.object "java/lang/String"), accessFlags := 18, slot := 9, constantValue := 0 }, { name := "$VALUES", type := (.array (.object "com/example/poonji/poonji/RcbInstrumentType")), accessFlags := 4122, slot := 18, constantValue := 0 }]
  methods := #[k7m0]
  instanceTypes := #[(.object "java/lang/String"), .int, .int, (.object "java/lang/String"), (.object "com/example/poonji/poonji/InstrumentType$Tier"), (.object "com/example/poonji/poonji/InstrumentType$Term"), (.object "com/example/poonji/poonji/RcbInstrumentType$Tier1Cap"), (.object "java/lang/String"), (.object "java/lang/String"), (.object "java/lang/String")]
  staticTypes := #[(.object "com/example/poonji/poonji/RcbInstrumentType"), (.object "com/example/poonji/poonji/RcbInstrumentType"), (.object "com/example/poonji/poonji/RcbInstrumentType"), (.object "com/example/poonji/poonji/RcbInstrumentType"), (.object "com/example/poonji/poonji/RcbInstrumentType"), (.object "com/example/poonji/poonji/RcbInstrumentType"), (.object "com/example/poonji/poonji/RcbInstrumentType"), (.object "com/example/poonji/poonji/RcbInstrumentType"), .int, (.object "java/math/BigDecimal"), (.object "com/example/poonji/poonji/Rule"), (.object "java/math/BigDecimal"), (.object "com/example/poonji/poonji/Rule"), (.object "java/math/BigDecimal"), (.object "com/example/poonji/poonji/Rule"), (.object "java/math/BigDecimal"), (.object "com/example/poonji/poonji/Rule"), (.object "java/util/Map"), (.array (.object "com/example/poonji/poonji/RcbInstrumentType"))]
  resolved := Array.replicate 357 none
  statics := some 0 }

def pool8 : Array CpInfo := pool [(1, .class_ 2), (0, u "com/example/poonji/poonji/RcbInstrumentType$Tier1Cap"), (2, u "PERPETUAL_DEBT"), (0, u "Lcom/example/poonji/poonji/RcbInstrumentType$Tier1Cap;"), (2, u "TIER1_INSTRUMENTS"), (2, u "$VALUES"), (0, u "[Lcom/example/poonji/poonji/RcbInstrumentType$Tier1Cap;"), (6, .class_ 22), (1, u "java/lang/Enum"), (25, .class_ 49), (0, u "com/example/poonji/poonji/RcbInstrumentType")] 2

/-- com/example/poonji/poonji/RcbInstrumentType$Tier1Cap -/
def k8 : Class := { plain "com/example/poonji/poonji/RcbInstrumentType$Tier1Cap" (some 5) with
  accessFlags := 16432
  interfaces := #[]
  cf := some (fileOf pool8 1 #[.nestHost 48] #[] 16432 20 #[] #[{ accessFlags := 16409, nameIndex := 5, descriptorIndex := 6, attributes := #[] }, { accessFlags := 16409, nameIndex := 9, descriptorIndex := 6, attributes := #[] }, { accessFlags := 4122, nameIndex := 12, descriptorIndex := 13, attributes := #[] }])
  fields := #[{ name := "PERPETUAL_DEBT", type := (.object "com/example/poonji/poonji/RcbInstrumentType$Tier1Cap"), accessFlags := 16409, slot := 0, constantValue := 0 }, { name := "TIER1_INSTRUMENTS", type := (.object "com/example/poonji/poonji/RcbInstrumentType$Tier1Cap"), accessFlags := 16409, slot := 1, constantValue := 0 }, { name := "$VALUES", type := (.array (.object "com/example/poonji/poonji/RcbInstrumentType$Tier1Cap")), accessFlags := 4122, slot := 2, constantValue := 0 }]
  methods := #[]
  instanceTypes := #[(.object "java/lang/String"), .int, .int]
  staticTypes := #[(.object "com/example/poonji/poonji/RcbInstrumentType$Tier1Cap"), (.object "com/example/poonji/poonji/RcbInstrumentType$Tier1Cap"), (.array (.object "com/example/poonji/poonji/RcbInstrumentType$Tier1Cap"))]
  resolved := Array.replicate 52 none
  statics := some 1 }

def pool9 : Array CpInfo := pool [(1, u "java/lang/Cloneable"), (0, .class_ 1), (0, u "java/lang/Object"), (0, .class_ 3)] 3

/-- java/lang/Cloneable -/
def k9 : Class := { plain "java/lang/Cloneable" (some 0) with
  accessFlags := 1537
  interfaces := #[]
  cf := some (fileOf pool9 2 #[] #[] 1537 4 #[] #[])
  fields := #[]
  methods := #[]
  instanceTypes := #[]
  staticTypes := #[]
  resolved := Array.replicate 8 none
  statics := none }

/-- the primitive byte -/
def k10 : Class := { plain "byte" none with kind := .primitive 'B', accessFlags := 0x411 }
/-- [B -/
def k11 : Class := { plain "[B" (some 0) with kind := .array 10 .byte, interfaces := #[9, 4], accessFlags := 1041 }

/-- the primitive int -/
def k12 : Class := { plain "int" none with kind := .primitive 'I', accessFlags := 0x411 }
/-- [I -/
def k13 : Class := { plain "[I" (some 0) with kind := .array 12 .int, interfaces := #[9, 4], accessFlags := 1041 }

def heap : Heap := #[{ cls := 7, slots := #[.ref 2, .ref 9, .ref 8, .ref 5, .ref 10, .ref 11, .ref 6, .ref 7, .int 0, .null, .null, .null, .null, .null, .null, .null, .null, .null, .null], vm := .statics 7 },
  { cls := 8, slots := #[.ref 3, .ref 4, .null], vm := .statics 8 },
  { cls := 7, slots := #[.null, .int 0, .int 0, .null, .null, .null, .ref 4, .null, .null, .null], vm := .none },
  { cls := 8, slots := #[.null, .int 0, .int 0], vm := .none },
  { cls := 8, slots := #[.null, .int 1, .int 0], vm := .none },
  { cls := 7, slots := #[.null, .int 0, .int 0, .null, .null, .null, .null, .null, .null, .null], vm := .none },
  { cls := 7, slots := #[.null, .int 0, .int 0, .null, .null, .null, .null, .null, .null, .null], vm := .none },
  { cls := 7, slots := #[.null, .int 0, .int 0, .null, .null, .null, .null, .null, .null, .null], vm := .none },
  { cls := 7, slots := #[.null, .int 0, .int 0, .null, .null, .null, .ref 3, .null, .null, .null], vm := .none },
  { cls := 7, slots := #[.null, .int 0, .int 0, .null, .null, .null, .ref 3, .null, .null, .null], vm := .none },
  { cls := 7, slots := #[.null, .int 0, .int 0, .null, .null, .null, .null, .null, .null, .null], vm := .none },
  { cls := 7, slots := #[.null, .int 0, .int 0, .null, .null, .null, .null, .null, .null, .null], vm := .none }]
def classes : Array Class := #[k0, k1, k2, k3, k4, k5, k6, k7, k8, k9, k10, k11, k12, k13]
def interned : List (Array UInt16 × Addr) := []
def slotsUsed : Nat := 108
def theMethod : MethodId := ⟨1, 1⟩
def args0 : Array Value := #[.int 1]
def aboutOver (below : List Frame) : State where
  vm := { classes := classes, interned := interned.toArray }
  heap := heap
  slotsUsed := slotsUsed
  threads := #[{ frames := .invoking theMethod args0 :: below }]
def below0 : List Frame := [.native { method := ⟨0, 0⟩, args := #[] }]
def about1 : State := aboutOver below0
def p0 : Program := .bare "" "" ""
def e0 : Env := launch0.env 0 0 0
theorem w_frames : about1.frames = Frame.invoking theMethod args0 :: below0 := rfl
set_option maxRecDepth 65536 in
theorem w_args : argsFit about1.vm theMethod args0 = true := by decide +kernel
set_option maxRecDepth 65536 in
theorem w_heap : heapFits about1 = true := by decide +kernel
set_option maxRecDepth 65536 in
theorem w_runnable : about1.curStatus? = some .runnable := by decide +kernel
set_option maxRecDepth 65536 in
theorem w_alone : about1.alone = true := by decide +kernel
set_option maxRecDepth 65536 in
theorem w_named : about1.methodNamed? x = some theMethod := by decide +kernel
set_option maxRecDepth 65536 in
theorem w_hears : about1.hears theMethod below0 = true := by decide +kernel
set_option maxRecDepth 65536 in
theorem w_ripe : about1.ripe theMethod args0 below0 = true := by decide +kernel
theorem w_running : about1.status = .running := rfl
set_option maxRecDepth 65536 in
theorem w_room : about1.hasRoom e0.platform room_1 = true :=
  launch0.hasRoom_least _ room_1 (by decide +kernel) (by decide +kernel) (by decide +kernel) (by decide +kernel) (by decide +kernel) (by decide +kernel)
theorem allAtoms_all (ts : List Jvm.Cond) (a : Array Jvm.Value) (st : Jvm.State) : (allAtoms ts).before a st = ts.all (fun c => c.before a st) := by
  induction ts with
  | nil => rfl
  | cons c t ih =>
    show (Jvm.Cond.and c (allAtoms t)).before a st = _
    rw [Jvm.Cond.before_and, ih, List.all_cons]
def words1 : List Jvm.Cond := Jvm.Cond.code x code maxLocals ret :: tables_1
/-- a 'code' word, met by the world's own term for the bytes: nothing is compared byte by byte -/
theorem code_word {y : MethodName} {bytes : ByteArray} {mx : Nat} {rt : Option FieldType} {a : Array Value} {s : State} {m : MethodId} {meth : Method} {c : Code} (h1 : s.methodNamed? y = some m) (h2 : s.vm.method? m = some meth) (h3 : meth.code = some c) (h4 : c.code = bytes)
    (h5 : (c.maxLocals == mx && c.exceptionTable.isEmpty && decide (c.maxStack ≤ mostOperands) && decide (meth.sig.returnType = rt) && !meth.locks && decide (parseMethodDescriptor y.desc = some meth.sig)) = true) : (Jvm.Cond.code y bytes mx rt).before a s = true := by
  simp only [Bool.and_eq_true, beq_iff_eq, Bool.not_eq_true', decide_eq_true_eq] at h5
  obtain ⟨⟨⟨⟨⟨g1, g2⟩, g3⟩, g4⟩, g5⟩, g6⟩ := h5
  simp [Cond.before, Cond.holds, Cond.value, h1, h2, h3, h4, g1, g2, g3, g4, g5, g6]
def isCode : Jvm.Cond → Bool
  | .code _ _ _ _ => true
  | _ => false
theorem all_split {L : List Jvm.Cond} {P : Jvm.Cond → Bool} (h1 : L.all (fun c => isCode c || P c) = true) (h2 : ∀ c ∈ L.filter isCode, P c = true) : L.all P = true := by
  refine List.all_eq_true.mpr fun c hc => ?_
  have h := List.all_eq_true.mp h1 c hc
  rcases Bool.eq_false_or_eq_true (isCode c) with hi | hi
  · exact h2 c (List.mem_filter.mpr ⟨hc, hi⟩)
  · simpa [hi] using h
set_option maxRecDepth 65536 in
theorem w_c0 : (Jvm.Cond.code x code maxLocals ret).before args0 about1 = true := code_word (m := ⟨1, 1⟩) (meth := k1m1) (c := k1c1) (by decide +kernel) rfl rfl rfl (by decide +kernel)
set_option maxRecDepth 65536 in
theorem w_c1 : (Jvm.Cond.code ({ cls := "com/example/poonji/poonji/RcbInstrumentTypeHeldInTier1ByPinLaw", name := "pick", desc := "(I)Lcom/example/poonji/poonji/RcbInstrumentType;" } : Jvm.MethodName) method_3_code (1 : Nat) (Option.some (Jvm.ClassFile.FieldType.object "com/example/poonji/poonji/RcbInstrumentType"))).before args0 about1 = true := code_word (m := ⟨1, 2⟩) (meth := k1m2) (c := k1c2) (by decide +kernel) rfl rfl rfl (by decide +kernel)
set_option maxRecDepth 65536 in
theorem w_c2 : (Jvm.Cond.code ({ cls := "com/example/poonji/poonji/RcbInstrumentType", name := "heldInTier1By", desc := "(Lcom/example/poonji/poonji/RcbInstrumentType$Tier1Cap;)Z" } : Jvm.MethodName) prog_52_method_12_code (2 : Nat) (Option.some Jvm.ClassFile.FieldType.boolean)).before args0 about1 = true := code_word (m := ⟨7, 0⟩) (meth := k7m0) (c := k7c0) (by decide +kernel) rfl rfl rfl (by decide +kernel)
def codes1 : List Jvm.Cond := [Jvm.Cond.code x code maxLocals ret, Jvm.Cond.code ({ cls := "com/example/poonji/poonji/RcbInstrumentTypeHeldInTier1ByPinLaw", name := "pick", desc := "(I)Lcom/example/poonji/poonji/RcbInstrumentType;" } : Jvm.MethodName) method_3_code (1 : Nat) (Option.some (Jvm.ClassFile.FieldType.object "com/example/poonji/poonji/RcbInstrumentType")), Jvm.Cond.code ({ cls := "com/example/poonji/poonji/RcbInstrumentType", name := "heldInTier1By", desc := "(Lcom/example/poonji/poonji/RcbInstrumentType$Tier1Cap;)Z" } : Jvm.MethodName) prog_52_method_12_code (2 : Nat) (Option.some Jvm.ClassFile.FieldType.boolean)]
set_option maxRecDepth 65536 in
theorem codes_eq : words1.filter isCode = codes1 := rfl
theorem w_codes : ∀ c ∈ words1.filter isCode, c.before args0 about1 = true := by
  rw [codes_eq]
  intro c hc
  simp only [codes1, List.mem_cons, List.not_mem_nil, or_false] at hc
  rcases hc with rfl | rfl | rfl
  · exact w_c0
  · exact w_c1
  · exact w_c2
set_option maxRecDepth 65536 in
theorem w_t1 : (words1.take 24).all (fun c => isCode c || c.before args0 about1) = true := by decide +kernel
set_option maxRecDepth 65536 in
theorem w_t2 : (words1.drop 24).all (fun c => isCode c || c.before args0 about1) = true := by decide +kernel
theorem w_tables : (allAtoms (Jvm.Cond.code x code maxLocals ret :: tables_1)).before args0 about1 = true := by
  rw [allAtoms_all]
  show words1.all (fun c => c.before args0 about1) = true
  refine all_split ?_ w_codes
  rw [← List.take_append_drop 24 words1, List.all_append, w_t1, w_t2]
  rfl
set_option maxRecDepth 65536 in
theorem w_case : (Jvm.Cond.and given_1 narrow_1).before args0 about1 = true := by decide +kernel
theorem w_applies : (headSpec (Jvm.Cond.code x code maxLocals ret :: tables_1) room_1).applies x e0.platform about1 = true :=
  (Spec.applies_iff w_frames).mpr ⟨w_running, w_runnable, w_alone, w_named, w_hears, w_ripe, w_room, w_tables⟩
theorem atStart : AtStart classFile x code maxLocals ret World_1 tables_1 room_1 Calls_1 rest_1 Pre_1 launch0 p0 e0 about1 theMethod args0 below0 :=
  ⟨lists_1, trivial, launch0.admits_env _ _ _, launch0.least_env, fairChoices_fair.cas, fairChoices_fair.clock, w_frames, w_args, w_heap, w_applies, trivial, trivial, w_case⟩
end start1
theorem witness_1 : WitnessClaimed_1 := ⟨start1.p0, start1.e0, start1.about1, start1.theMethod, start1.args0, start1.below0, start1.atStart⟩
end Jvm.Pilot.@@N@@
