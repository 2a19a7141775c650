import JvmDerived
import JvmDerived.Pilot.@@N@@Statement
import JvmDerived.Pilot.@@N@@Code
set_option linter.unusedVariables false
set_option linter.unusedSimpArgs false
namespace Jvm.RoadKit
open Sem ClassFile Op Lib Jvm.Stand Jvm.Free Jvm.LawKit
section New
variable {p : Program} {l : Launch} {e : Env} {R : Room} {s : State} {m : MethodId} {args : Array Value} {below : List Frame} {meth : Method} {c : Code} {T : State} {locs : List Loc} {cells slots : Nat}
theorem retI (X : Stand p l e R s m args below meth c T locs cells slots) (hx : p.tables.exec = Jvm.exec) {pc : Nat} {Ls : Array Slot} {z : Int32} {rest : List Value} (hret : meth.sig.returnType = some .int) (hd : decode c.code pc = .ok (.ireturn, 1)) {fs : List Frame}
    (hl : ∀ (f : JFrame) (acts : List Action), f.method = m → f.locked = none → f.entered = [] → (doReturn e (T.setTop f) acts (some (.int z))).1 = T.setFrames fs) : Steps p.tables e below (T.setTop (mkF m pc Ls (.int z :: rest))) (T.setFrames fs) := by
  have hm' : T.vm.method? m = some meth := X.method'
  have hn : narrow .int (.int z) = .int z := rfl
  show Steps p.tables e below (T.setTop { method := m, pc := pc, locals := Ls, stack := _ :: rest, locked := none }) _
  jvm_step X.here [X.here.top, hx, hd, hm', hret, hn]
  first | (intro acts; rw [hl _ acts rfl rfl rfl]) | rw [hl _ _ rfl rfl rfl]
  exact Steps.refl _
end New
/-- from this state a run goes on to an end that meets K -/
def Good (p : Program) (e : Env) (below : List Frame) (K : Outcome → State → Prop) (S : State) : Prop := ∃ s₂ o, Steps p.tables e below S s₂ ∧ s₂.status = .running ∧ Ended s₂ below o ∧ K o s₂
theorem Good.back {p : Program} {e : Env} {below : List Frame} {K : Outcome → State → Prop} {S S' : State} (h : ∀ t, Steps p.tables e below S' t → Steps p.tables e below S t) (g : Good p e below K S') : Good p e below K S := by
  obtain ⟨t, o, h1, h2⟩ := g
  exact ⟨t, o, h t h1, h2⟩
theorem Good.done {p : Program} {e : Env} {below : List Frame} {K : Outcome → State → Prop} {S t : State} {o : Outcome} (h1 : Steps p.tables e below S t) (h2 : t.status = .running) (h3 : Ended t below o) (h4 : K o t) : Good p e below K S := ⟨t, o, h1, h2, h3, h4⟩
end Jvm.RoadKit
namespace Jvm.Pilot.@@N@@
open Jvm Jvm.ClassFile Sem Op Lib Jvm.Free Jvm.Stand Jvm.LawKit Jvm.RoadKit Bundle Jvm.Pilot.@@N@@.Jvm.D
theorem own_eqV {args : Array Value} {first s : State} {o : Option Outcome} {idx : List Nat} {a b : Term} {y : Value} (h : (Jvm.Cond.eq a b).value args first o s idx = some true) (hb : b.eval args first o idx s = some y) : a.eval args first o idx s = some y := by
  cases ha : a.eval args first o idx s with
  | none => simp [Jvm.Cond.value, ha] at h
  | some x => cases x <;> cases y <;> simp_all [Jvm.Cond.value]
theorem own_len {args : Array Value} {s : State} {t : Term} {a : Addr} {cl : Cell} {ty : FieldType} {k : Int32} (A : Arr s s.heap a cl ty) (ev : t.eval args s none [] s = some (.ref a)) (h : (Term.length t).eval args s none [] s = some (.int k)) : cl.slots.size < 2 ^ 31 ∧ cl.slots.size.toInt32 = k := by
  have ha : s.arrayAt? a = some cl := IntBox.arrayAt_of A.1 A.2.1 A.2.2
  simp [Term.eval, ev, ha] at h
  exact h

theorem own_pn0 : plainName "com/example/vartija/vartija/client/WatchEvent$Type" = true := by first | (simp [plainName, overriddenIn]; done) | decide +kernel
theorem own_d2_0 : decode prog_22_method_1_code 0 = .ok (.getstatic 16, 3) := by decide +kernel
theorem own_d2_3 : decode prog_22_method_1_code 3 = .ok (.invokevirtual 20, 3) := by decide +kernel
theorem own_d2_6 : decode prog_22_method_1_code 6 = .ok (.checkcast 21, 3) := by decide +kernel
theorem own_d2_9 : decode prog_22_method_1_code 9 = .ok (.areturn, 1) := by decide +kernel
theorem own_ef_2 (m : MethodId)  : entryFrame m #[] 0 = mkF m 0 #[] [] := by first | (simp [entryFrame, mkF, argsToLocals, Value.category]; done) | rfl
def Q2 (Z : State) (w__VALUES : Addr) (w_NODE_CREATED : Addr) (w_NODE_DELETED : Addr) (w_NODE_DATA_CHANGED : Addr) (w_NODE_CHILDREN_CHANGED : Addr) (kc_w__VALUES : ClassId) (h0 : Heap) (n0 : Nat) (v : Option Value) (h : Heap) (L : List Loc) : Prop := ∃ b : Addr, v = some (.ref b) ∧ Fr n0 L ∧ Keep h0 h [] ∧ h0.size ≤ b ∧ Arv Z h b kc_w__VALUES (.object "com/example/vartija/vartija/client/WatchEvent$Type") (4 : Int32) [(.ref w_NODE_CREATED), (.ref w_NODE_DELETED), (.ref w_NODE_DATA_CHANGED), (.ref w_NODE_CHILDREN_CHANGED)] .null
set_option maxRecDepth 65536 in
set_option maxHeartbeats 40000000 in
theorem rm2 (l : Launch) (Z : State) (a0 : Array Value) (hw : ∀ d ∈ tables_1, d.before a0 Z = true) (ws : List Jvm.Cond) (w__VALUES : Addr) (w_NODE_CREATED : Addr) (w_NODE_DELETED : Addr) (w_NODE_DATA_CHANGED : Addr) (w_NODE_CHILDREN_CHANGED : Addr) (kc_w__VALUES : ClassId) (h0 : Heap) (n0 : Nat) (Z0 : n0 ≤ h0.size) (S_w__VALUES : Sta Z h0 "com/example/vartija/vartija/client/WatchEvent$Type" "$VALUES" "[Lcom/example/vartija/vartija/client/WatchEvent$Type;" (.ref w__VALUES)) (E_w__VALUES : Exa Z h0 w__VALUES "[Lcom/example/vartija/vartija/client/WatchEvent$Type;") (S_w_NODE_CREATED : Sta Z h0 "com/example/vartija/vartija/client/WatchEvent$Type" "NODE_CREATED" "Lcom/example/vartija/vartija/client/WatchEvent$Type;" (.ref w_NODE_CREATED)) (E_w_NODE_CREATED : Exa Z h0 w_NODE_CREATED "com/example/vartija/vartija/client/WatchEvent$Type") (S_w_NODE_DELETED : Sta Z h0 "com/example/vartija/vartija/client/WatchEvent$Type" "NODE_DELETED" "Lcom/example/vartija/vartija/client/WatchEvent$Type;" (.ref w_NODE_DELETED)) (E_w_NODE_DELETED : Exa Z h0 w_NODE_DELETED "com/example/vartija/vartija/client/WatchEvent$Type") (S_w_NODE_DATA_CHANGED : Sta Z h0 "com/example/vartija/vartija/client/WatchEvent$Type" "NODE_DATA_CHANGED" "Lcom/example/vartija/vartija/client/WatchEvent$Type;" (.ref w_NODE_DATA_CHANGED)) (E_w_NODE_DATA_CHANGED : Exa Z h0 w_NODE_DATA_CHANGED "com/example/vartija/vartija/client/WatchEvent$Type") (S_w_NODE_CHILDREN_CHANGED : Sta Z h0 "com/example/vartija/vartija/client/WatchEvent$Type" "NODE_CHILDREN_CHANGED" "Lcom/example/vartija/vartija/client/WatchEvent$Type;" (.ref w_NODE_CHILDREN_CHANGED)) (E_w_NODE_CHILDREN_CHANGED : Exa Z h0 w_NODE_CHILDREN_CHANGED "com/example/vartija/vartija/client/WatchEvent$Type") (F_code_w_NODE_CREATED : Fld Z h0 w_NODE_CREATED "com/example/vartija/vartija/client/WatchEvent$Type" "code" "I" (.int (1 : Int32))) (F_code_w_NODE_DELETED : Fld Z h0 w_NODE_DELETED "com/example/vartija/vartija/client/WatchEvent$Type" "code" "I" (.int (2 : Int32))) (F_code_w_NODE_DATA_CHANGED : Fld Z h0 w_NODE_DATA_CHANGED "com/example/vartija/vartija/client/WatchEvent$Type" "code" "I" (.int (3 : Int32))) (F_code_w_NODE_CHILDREN_CHANGED : Fld Z h0 w_NODE_CHILDREN_CHANGED "com/example/vartija/vartija/client/WatchEvent$Type" "code" "I" (.int (4 : Int32))) (V_w__VALUES : Arv Z h0 w__VALUES kc_w__VALUES (.object "com/example/vartija/vartija/client/WatchEvent$Type") (4 : Int32) [(.ref w_NODE_CREATED), (.ref w_NODE_DELETED), (.ref w_NODE_DATA_CHANGED), (.ref w_NODE_CHILDREN_CHANGED)] .null) :
    MetFree l (⟨"com/example/vartija/vartija/client/WatchEvent$Type", "values", "()[Lcom/example/vartija/vartija/client/WatchEvent$Type;"⟩ : MethodName) (head1 (Jvm.Cond.code (⟨"com/example/vartija/vartija/client/WatchEvent$Type", "values", "()[Lcom/example/vartija/vartija/client/WatchEvent$Type;"⟩ : MethodName) prog_22_method_1_code 0 (some (.array (.object "com/example/vartija/vartija/client/WatchEvent$Type"))) :: ws) ({ frames := 1, cells := 1, slots := 4, locals := 14 } : Room)) (fun a U => a = #[] ∧ Z.Warmed39 U.vm ∧ U.heap = h0) (fun _ _ _ _ _ => True) (fun _ U o U' => ∃ v L, o = .returned v ∧ Q2 Z w__VALUES w_NODE_CREATED w_NODE_DELETED w_NODE_DATA_CHANGED w_NODE_CHILDREN_CHANGED kc_w__VALUES h0 n0 v U'.heap L ∧ FrameEnd U o U' L ({ frames := 1, cells := 1, slots := 4, locals := 14 } : Room).cells ({ frames := 1, cells := 1, slots := 4, locals := 14 } : Room).slots) := by
  refine MetFree.of_bodySF (plainFor_of_name own_pn0) hisR ?_
  intro p e s m args below meth c s₁ Bd hml0 hP hK
  obtain ⟨rfl, hZ, hh⟩ := hP
  have hx := Bd.exec
  have hby := Bd.bytes
  have hml : c.maxLocals = 0 := hml0
  have hown : s.vm.findClass "com/example/vartija/vartija/client/WatchEvent$Type" = some m.cls := findClass_of_methodNamed Bd.named
  have hnm := (name_of_methodNamed Bd.named Bd.method).1
  have X0 : Stand p l e ({ frames := 1, cells := 1, slots := 4, locals := 14 } : Room) s m #[] below meth c s₁ [] 0 0 := Stand.of_body Bd
  have e0 : s₁.heap = h0 := by rw [← hh, Bd.state]; rfl
  have N0 := Fr.nil n0
  have KR : Keep h0 h0 [] := Keep.refl h0 _
  show Good p e below (fun o U' => ∃ v L, o = .returned v ∧ Q2 Z w__VALUES w_NODE_CREATED w_NODE_DELETED w_NODE_DATA_CHANGED w_NODE_CHILDREN_CHANGED kc_w__VALUES h0 n0 v U'.heap L ∧ FrameEnd s o U' L ({ frames := 1, cells := 1, slots := 4, locals := 14 } : Room).cells ({ frames := 1, cells := 1, slots := 4, locals := 14 } : Room).slots) _
  refine Good.back (S' := s₁.setTop (mkF m 0 #[] [])) (fun t k => castTop (own_ef_2 m ) k) ?_
  show Good p e below _ (s₁.setTop (mkF m 0 #[] []))
  obtain ⟨T1, X1, e1, st1⟩ := getS2 X0 hx hZ hown (host := "") (Or.inl (hw _ (List.mem_of_getElem? (i := 7) rfl))) Via.refl e0 S_w__VALUES (g := (mkF m 0 #[] [])) rfl (hb hby own_d2_0)
  refine Good.back st1 ?_
  show Good p e below _ (T1.setTop (mkF m 3 #[] [(.ref w__VALUES)]))
  obtain ⟨T2, h2, X2, e2, E2, A2, B2, st2⟩ := cloneH X1 hx hZ hown (hw _ (List.mem_of_getElem? (i := 9) rfl)) (hw _ (List.mem_of_getElem? (i := 10) rfl)) (hw _ (List.mem_of_getElem? (i := 14) rfl)) (hw _ (List.mem_of_getElem? (i := 12) rfl)) (hw _ (List.mem_of_getElem? (i := 13) rfl)) (hw _ (List.mem_of_getElem? (i := 15) rfl)) e1 (Arv.arh V_w__VALUES) E_w__VALUES (g := (mkF m 3 #[] [(.ref w__VALUES)])) rfl (by rw [hml]; rfl) rfl (hb hby own_d2_3) (by decide) (W := 0) (cap := 4) (by show 2 * 0 + _ ≤ _; exact Nat.le_of_eq rfl) (by decide) (by decide) (by decide) (by decide)
  obtain ⟨b2, g2⟩ : ∃ z, z = h0.size := ⟨_, rfl⟩
  rw [← g2] at A2 B2 st2
  refine Good.back st2 ?_
  have g_b2 : n0 ≤ b2 := Nat.le_trans Z0 (Nat.le_of_eq g2.symm)
  have sz_b2 : h0.size ≤ b2 := Nat.le_trans KR.1 (Nat.le_of_eq g2.symm)
  have Z3 : n0 ≤ h2.size := Nat.le_trans Z0 E2.1
  have K4 : Keep h0 h2 [] := KR.ext E2
  have f_5 : Arv Z h2 b2 kc_w__VALUES (.object "com/example/vartija/vartija/client/WatchEvent$Type") (4 : Int32) [(.ref w_NODE_CREATED), (.ref w_NODE_DELETED), (.ref w_NODE_DATA_CHANGED), (.ref w_NODE_CHILDREN_CHANGED)] .null := A2
  have f_6 : Exa Z h2 b2 "[Lcom/example/vartija/vartija/client/WatchEvent$Type;" := B2
  show Good p e below _ (T2.setTop (mkF m 6 #[] [(.ref b2)]))
  obtain ⟨T7, X7, e7, st7⟩ := castY X2 hx hZ hown (hw _ (List.mem_of_getElem? (i := 21) rfl)) e2 (Ins.self f_6) (g := (mkF m 6 #[] [(.ref b2)])) rfl rfl (hb hby own_d2_6)
  refine Good.back st7 ?_
  show Good p e below _ (T7.setTop (mkF m 9 #[] [(.ref b2)]))
  obtain ⟨fs8, hr8, hrun8, hended8, hW8, hsame8⟩ := X7.leave (v := some (.ref b2)) (fun h => by rw [Bd.returns] at h; cases h)
  refine Good.done (retOut X7 hx Bd.returns rfl (Or.inr (Or.inr (Or.inr (Or.inr ⟨rfl, rfl, rfl⟩)))) (hb hby own_d2_9) hr8) hrun8 hended8 ⟨_, _, rfl, ?_, ⟨_, rfl⟩, hW8, hsame8.mono (by decide) (by decide)⟩
  show Q2 Z w__VALUES w_NODE_CREATED w_NODE_DELETED w_NODE_DATA_CHANGED w_NODE_CHILDREN_CHANGED kc_w__VALUES h0 n0 _ T7.heap _
  rw [e7]
  exact ⟨_, rfl, N0, K4, sz_b2, f_5⟩
theorem own_pd4 : parseMethodDescriptor "()[Lcom/example/vartija/vartija/client/WatchEvent$Type;" = some ⟨[], some (.array (.object "com/example/vartija/vartija/client/WatchEvent$Type"))⟩ := by decide +kernel
theorem own_d1_0 : decode prog_22_method_4_code 0 = .ok (.aconst_null, 1) := by decide +kernel
theorem own_d1_1 : decode prog_22_method_4_code 1 = .ok (.astore_n 1, 1) := by decide +kernel
theorem own_d1_2 : decode prog_22_method_4_code 2 = .ok (.invokestatic 39, 3) := by decide +kernel
theorem own_d1_5 : decode prog_22_method_4_code 5 = .ok (.astore_n 2, 1) := by decide +kernel
theorem own_d1_6 : decode prog_22_method_4_code 6 = .ok (.aload_n 2, 1) := by decide +kernel
theorem own_d1_7 : decode prog_22_method_4_code 7 = .ok (.arraylength, 1) := by decide +kernel
theorem own_d1_8 : decode prog_22_method_4_code 8 = .ok (.istore_n 3, 1) := by decide +kernel
theorem own_d1_9 : decode prog_22_method_4_code 9 = .ok (.iconst 0, 1) := by decide +kernel
theorem own_d1_10 : decode prog_22_method_4_code 10 = .ok (.istore 4, 2) := by decide +kernel
theorem own_d1_12 : decode prog_22_method_4_code 12 = .ok (.iload 4, 2) := by decide +kernel
theorem own_d1_14 : decode prog_22_method_4_code 14 = .ok (.iload_n 3, 1) := by decide +kernel
theorem own_d1_15 : decode prog_22_method_4_code 15 = .ok (.if_icmp .ge 27, 3) := by decide +kernel
theorem own_d1_18 : decode prog_22_method_4_code 18 = .ok (.aload_n 2, 1) := by decide +kernel
theorem own_d1_19 : decode prog_22_method_4_code 19 = .ok (.iload 4, 2) := by decide +kernel
theorem own_d1_21 : decode prog_22_method_4_code 21 = .ok (.aaload, 1) := by decide +kernel
theorem own_d1_22 : decode prog_22_method_4_code 22 = .ok (.astore 5, 2) := by decide +kernel
theorem own_d1_24 : decode prog_22_method_4_code 24 = .ok (.aload 5, 2) := by decide +kernel
theorem own_d1_26 : decode prog_22_method_4_code 26 = .ok (.getfield 35, 3) := by decide +kernel
theorem own_d1_29 : decode prog_22_method_4_code 29 = .ok (.iload_n 0, 1) := by decide +kernel
theorem own_d1_30 : decode prog_22_method_4_code 30 = .ok (.if_icmp .ne 6, 3) := by decide +kernel
theorem own_d1_33 : decode prog_22_method_4_code 33 = .ok (.aload 5, 2) := by decide +kernel
theorem own_d1_35 : decode prog_22_method_4_code 35 = .ok (.astore_n 1, 1) := by decide +kernel
theorem own_d1_36 : decode prog_22_method_4_code 36 = .ok (.iinc 4 1, 3) := by decide +kernel
theorem own_d1_39 : decode prog_22_method_4_code 39 = .ok (.goto (-27), 3) := by decide +kernel
theorem own_d1_42 : decode prog_22_method_4_code 42 = .ok (.aload_n 1, 1) := by decide +kernel
theorem own_d1_43 : decode prog_22_method_4_code 43 = .ok (.areturn, 1) := by decide +kernel
theorem own_ef_1_0 (m : MethodId) (x0 : Int32) : entryFrame m #[(.int x0)] 6 = mkF m 0 #[.val (.int x0), .unset, .unset, .unset, .unset, .unset] [] := by first | (simp [entryFrame, mkF, argsToLocals, Value.category]; done) | rfl
def Q1_0 (Z : State) (p0 : Int32) (w__VALUES : Addr) (w_NODE_CREATED : Addr) (w_NODE_DELETED : Addr) (w_NODE_DATA_CHANGED : Addr) (w_NODE_CHILDREN_CHANGED : Addr) (kc_w__VALUES : ClassId) (h0 : Heap) (n0 : Nat) (v : Option Value) (h : Heap) (L : List Loc) : Prop := v = some (.ref w_NODE_CREATED) ∧ Fr n0 L ∧ Keep h0 h []
set_option maxRecDepth 65536 in
set_option maxHeartbeats 40000000 in
theorem rm1_0 (l : Launch) (Z : State) (a0 : Array Value) (hw : ∀ d ∈ tables_1, d.before a0 Z = true) (ws : List Jvm.Cond) (p0 : Int32) (w__VALUES : Addr) (w_NODE_CREATED : Addr) (w_NODE_DELETED : Addr) (w_NODE_DATA_CHANGED : Addr) (w_NODE_CHILDREN_CHANGED : Addr) (kc_w__VALUES : ClassId) (h0 : Heap) (n0 : Nat) (Z0 : n0 ≤ h0.size) (S_w__VALUES : Sta Z h0 "com/example/vartija/vartija/client/WatchEvent$Type" "$VALUES" "[Lcom/example/vartija/vartija/client/WatchEvent$Type;" (.ref w__VALUES)) (E_w__VALUES : Exa Z h0 w__VALUES "[Lcom/example/vartija/vartija/client/WatchEvent$Type;") (S_w_NODE_CREATED : Sta Z h0 "com/example/vartija/vartija/client/WatchEvent$Type" "NODE_CREATED" "Lcom/example/vartija/vartija/client/WatchEvent$Type;" (.ref w_NODE_CREATED)) (E_w_NODE_CREATED : Exa Z h0 w_NODE_CREATED "com/example/vartija/vartija/client/WatchEvent$Type") (S_w_NODE_DELETED : Sta Z h0 "com/example/vartija/vartija/client/WatchEvent$Type" "NODE_DELETED" "Lcom/example/vartija/vartija/client/WatchEvent$Type;" (.ref w_NODE_DELETED)) (E_w_NODE_DELETED : Exa Z h0 w_NODE_DELETED "com/example/vartija/vartija/client/WatchEvent$Type") (S_w_NODE_DATA_CHANGED : Sta Z h0 "com/example/vartija/vartija/client/WatchEvent$Type" "NODE_DATA_CHANGED" "Lcom/example/vartija/vartija/client/WatchEvent$Type;" (.ref w_NODE_DATA_CHANGED)) (E_w_NODE_DATA_CHANGED : Exa Z h0 w_NODE_DATA_CHANGED "com/example/vartija/vartija/client/WatchEvent$Type") (S_w_NODE_CHILDREN_CHANGED : Sta Z h0 "com/example/vartija/vartija/client/WatchEvent$Type" "NODE_CHILDREN_CHANGED" "Lcom/example/vartija/vartija/client/WatchEvent$Type;" (.ref w_NODE_CHILDREN_CHANGED)) (E_w_NODE_CHILDREN_CHANGED : Exa Z h0 w_NODE_CHILDREN_CHANGED "com/example/vartija/vartija/client/WatchEvent$Type") (F_code_w_NODE_CREATED : Fld Z h0 w_NODE_CREATED "com/example/vartija/vartija/client/WatchEvent$Type" "code" "I" (.int (1 : Int32))) (F_code_w_NODE_DELETED : Fld Z h0 w_NODE_DELETED "com/example/vartija/vartija/client/WatchEvent$Type" "code" "I" (.int (2 : Int32))) (F_code_w_NODE_DATA_CHANGED : Fld Z h0 w_NODE_DATA_CHANGED "com/example/vartija/vartija/client/WatchEvent$Type" "code" "I" (.int (3 : Int32))) (F_code_w_NODE_CHILDREN_CHANGED : Fld Z h0 w_NODE_CHILDREN_CHANGED "com/example/vartija/vartija/client/WatchEvent$Type" "code" "I" (.int (4 : Int32))) (V_w__VALUES : Arv Z h0 w__VALUES kc_w__VALUES (.object "com/example/vartija/vartija/client/WatchEvent$Type") (4 : Int32) [(.ref w_NODE_CREATED), (.ref w_NODE_DELETED), (.ref w_NODE_DATA_CHANGED), (.ref w_NODE_CHILDREN_CHANGED)] .null) (hp : p0 = (1 : Int32)) :
    MetFree l (⟨"com/example/vartija/vartija/client/WatchEvent$Type", "of", "(I)Lcom/example/vartija/vartija/client/WatchEvent$Type;"⟩ : MethodName) (head1 (Jvm.Cond.code (⟨"com/example/vartija/vartija/client/WatchEvent$Type", "of", "(I)Lcom/example/vartija/vartija/client/WatchEvent$Type;"⟩ : MethodName) prog_22_method_4_code 6 (some (.object "com/example/vartija/vartija/client/WatchEvent$Type")) :: ws) ({ frames := 2, cells := 1, slots := 4, locals := 25 } : Room)) (fun a U => a = #[(.int p0)] ∧ Z.Warmed39 U.vm ∧ U.heap = h0) (fun _ _ _ _ _ => True) (fun _ U o U' => ∃ v L, o = .returned v ∧ Q1_0 Z p0 w__VALUES w_NODE_CREATED w_NODE_DELETED w_NODE_DATA_CHANGED w_NODE_CHILDREN_CHANGED kc_w__VALUES h0 n0 v U'.heap L ∧ FrameEnd U o U' L ({ frames := 2, cells := 1, slots := 4, locals := 25 } : Room).cells ({ frames := 2, cells := 1, slots := 4, locals := 25 } : Room).slots) := by
  refine MetFree.of_bodySF (plainFor_of_name own_pn0) hisR ?_
  intro p e s m args below meth c s₁ Bd hml0 hP hK
  obtain ⟨rfl, hZ, hh⟩ := hP
  have hx := Bd.exec
  have hby := Bd.bytes
  have hml : c.maxLocals = 6 := hml0
  have hown : s.vm.findClass "com/example/vartija/vartija/client/WatchEvent$Type" = some m.cls := findClass_of_methodNamed Bd.named
  have hnm := (name_of_methodNamed Bd.named Bd.method).1
  have X0 : Stand p l e ({ frames := 2, cells := 1, slots := 4, locals := 25 } : Room) s m #[(.int p0)] below meth c s₁ [] 0 0 := Stand.of_body Bd
  have e0 : s₁.heap = h0 := by rw [← hh, Bd.state]; rfl
  have N0 := Fr.nil n0
  have KR : Keep h0 h0 [] := Keep.refl h0 _
  show Good p e below (fun o U' => ∃ v L, o = .returned v ∧ Q1_0 Z p0 w__VALUES w_NODE_CREATED w_NODE_DELETED w_NODE_DATA_CHANGED w_NODE_CHILDREN_CHANGED kc_w__VALUES h0 n0 v U'.heap L ∧ FrameEnd s o U' L ({ frames := 2, cells := 1, slots := 4, locals := 25 } : Room).cells ({ frames := 2, cells := 1, slots := 4, locals := 25 } : Room).slots) _
  refine Good.back (S' := s₁.setTop (mkF m 0 #[.val (.int p0), .unset, .unset, .unset, .unset, .unset] [])) (fun t k => castTop (own_ef_1_0 m p0) k) ?_
  show Good p e below _ (s₁.setTop (mkF m 0 #[.val (.int p0), .unset, .unset, .unset, .unset, .unset] []))
  refine Good.back (fun _ k => XS.aconstNull X0.here hx rfl (hb hby own_d1_0) k) ?_
  show Good p e below _ (s₁.setTop (mkF m 1 #[.val (.int p0), .unset, .unset, .unset, .unset, .unset] [.null]))
  refine Good.back (fun _ k => XS.astoreN X0.here hx rfl (hb hby own_d1_1) rfl rfl (l' := #[.val (.int p0), .val .null, .unset, .unset, .unset, .unset]) rfl k) ?_
  show Good p e below _ (s₁.setTop (mkF m 2 #[.val (.int p0), .val .null, .unset, .unset, .unset, .unset] []))
  obtain ⟨_, _, ⟨T1, L1, k1, n1⟩, -, X1, ⟨Lc1, hQ1, l1, y1, z1⟩, st1⟩ := Jvm.LawKit.callS X0 hx (y := (⟨"com/example/vartija/vartija/client/WatchEvent$Type", "values", "()[Lcom/example/vartija/vartija/client/WatchEvent$Type;"⟩ : MethodName)) hown (mvT hZ (hw _ (List.mem_of_getElem? (i := 4) rfl))) (mvT hZ (hw _ (List.mem_of_getElem? (i := 5) rfl))) (mvT hZ (hw _ (List.mem_of_getElem? (i := 2) rfl))) (mvT hZ (hw _ (List.mem_of_getElem? (i := 6) rfl))) (by decide) (backOf (W := 0) (rm2 l Z a0 hw []  w__VALUES w_NODE_CREATED w_NODE_DELETED w_NODE_DATA_CHANGED w_NODE_CHILDREN_CHANGED kc_w__VALUES h0 n0 Z0 S_w__VALUES E_w__VALUES S_w_NODE_CREATED E_w_NODE_CREATED S_w_NODE_DELETED E_w_NODE_DELETED S_w_NODE_DATA_CHANGED E_w_NODE_DATA_CHANGED S_w_NODE_CHILDREN_CHANGED E_w_NODE_CHILDREN_CHANGED F_code_w_NODE_CREATED F_code_w_NODE_DELETED F_code_w_NODE_DATA_CHANGED F_code_w_NODE_CHILDREN_CHANGED V_w__VALUES) hZ (hw _ (List.mem_of_getElem? (i := 6) rfl)) (hw _ (List.mem_of_getElem? (i := 2) rfl)) (by decide) (by decide)) (g := (mkF m 2 #[.val (.int p0), .val .null, .unset, .unset, .unset, .unset] [])) rfl (by rw [hml]; rfl) (argsL := []) (rest := []) (lenOf own_pd4 rfl) rfl (by show 2 * 0 + _ ≤ _; exact Nat.le_of_eq rfl) (hb hby own_d1_2) (fun _ _ => ⟨rfl, e0, (by decide : 0 + 1 ≤ _), (by decide : 0 + 4 ≤ _)⟩)
  dsimp only [Pt.U, Pt.locs, Pt.cells, Pt.slots] at X1 l1 y1 z1 st1 hQ1
  subst l1 y1 z1
  obtain ⟨b_1, rfl, N1q, Kq1, o1_0, o1_1⟩ := hQ1
  have N1 := Fr.app N0 N1q
  have Z2 : n0 ≤ T1.heap.size := Nat.le_trans Z0 Kq1.1
  have K3 : Keep h0 T1.heap [] := KR.trans Kq1 all0
  have g_b_1 : n0 ≤ b_1 := Nat.le_trans Z0 o1_0
  have sz_b_1 : h0.size ≤ b_1 := Nat.le_trans KR.1 o1_0
  refine Good.back st1 ?_
  show Good p e below _ (T1.setTop (mkF m 5 #[.val (.int p0), .val .null, .unset, .unset, .unset, .unset] [(.ref b_1)]))
  refine Good.back (fun _ k => XS.astoreN X1.here hx rfl (hb hby own_d1_5) rfl rfl (l' := #[.val (.int p0), .val .null, .val (.ref b_1), .unset, .unset, .unset]) rfl k) ?_
  show Good p e below _ (T1.setTop (mkF m 6 #[.val (.int p0), .val .null, .val (.ref b_1), .unset, .unset, .unset] []))
  refine Good.back (fun _ k => XS.aloadN X1.here hx rfl (hb hby own_d1_6) rfl rfl k) ?_
  show Good p e below _ (T1.setTop (mkF m 7 #[.val (.int p0), .val .null, .val (.ref b_1), .unset, .unset, .unset] [(.ref b_1)]))
  have fc4 := o1_1
  obtain ⟨cl4, Ar4, qk4, S4, N4', H4, G4⟩ := fc4
  refine Good.back (X1.arraylength hx (Ar4.1) (State.isArrayOf_alike hZ.alike Ar4.2.1) (g := (mkF m 7 #[.val (.int p0), .val .null, .val (.ref b_1), .unset, .unset, .unset] [(.ref b_1)])) rfl rfl (hb hby own_d1_7)) ?_
  rw [len_of S4 N4']
  show Good p e below _ (T1.setTop (mkF m 8 #[.val (.int p0), .val .null, .val (.ref b_1), .unset, .unset, .unset] [(.int (4 : Int32))]))
  refine Good.back (fun _ k => XS.istoreN X1.here hx rfl (hb hby own_d1_8) rfl (l' := #[.val (.int p0), .val .null, .val (.ref b_1), .val (.int (4 : Int32)), .unset, .unset]) rfl k) ?_
  show Good p e below _ (T1.setTop (mkF m 9 #[.val (.int p0), .val .null, .val (.ref b_1), .val (.int (4 : Int32)), .unset, .unset] []))
  refine Good.back (fun _ k => XS.iconst X1.here hx rfl (hb hby own_d1_9) k) ?_
  show Good p e below _ (T1.setTop (mkF m 10 #[.val (.int p0), .val .null, .val (.ref b_1), .val (.int (4 : Int32)), .unset, .unset] [(.int (0 : Int32))]))
  refine Good.back (fun _ k => XS.istore X1.here hx rfl (hb hby own_d1_10) rfl (l' := #[.val (.int p0), .val .null, .val (.ref b_1), .val (.int (4 : Int32)), .val (.int (0 : Int32)), .unset]) rfl k) ?_
  show Good p e below _ (T1.setTop (mkF m 12 #[.val (.int p0), .val .null, .val (.ref b_1), .val (.int (4 : Int32)), .val (.int (0 : Int32)), .unset] []))
  refine Good.back (fun _ k => XS.iload X1.here hx rfl (hb hby own_d1_12) rfl k) ?_
  show Good p e below _ (T1.setTop (mkF m 14 #[.val (.int p0), .val .null, .val (.ref b_1), .val (.int (4 : Int32)), .val (.int (0 : Int32)), .unset] [(.int (0 : Int32))]))
  refine Good.back (fun _ k => XS.iloadN X1.here hx rfl (hb hby own_d1_14) rfl k) ?_
  show Good p e below _ (T1.setTop (mkF m 15 #[.val (.int p0), .val .null, .val (.ref b_1), .val (.int (4 : Int32)), .val (.int (0 : Int32)), .unset] [(.int (4 : Int32)), (.int (0 : Int32))]))
  refine Good.back (fun _ k => XS.icmpNo X1.here hx rfl (hb hby own_d1_15) rfl (tlt (by decide : ((0 : Int32) < (4 : Int32)))).2.1 k) ?_
  show Good p e below _ (T1.setTop (mkF m 18 #[.val (.int p0), .val .null, .val (.ref b_1), .val (.int (4 : Int32)), .val (.int (0 : Int32)), .unset] []))
  refine Good.back (fun _ k => XS.aloadN X1.here hx rfl (hb hby own_d1_18) rfl rfl k) ?_
  show Good p e below _ (T1.setTop (mkF m 19 #[.val (.int p0), .val .null, .val (.ref b_1), .val (.int (4 : Int32)), .val (.int (0 : Int32)), .unset] [(.ref b_1)]))
  refine Good.back (fun _ k => XS.iload X1.here hx rfl (hb hby own_d1_19) rfl k) ?_
  show Good p e below _ (T1.setTop (mkF m 21 #[.val (.int p0), .val .null, .val (.ref b_1), .val (.int (4 : Int32)), .val (.int (0 : Int32)), .unset] [(.int (0 : Int32)), (.ref b_1)]))
  have fc5 := o1_1
  obtain ⟨cl5, Ar5, qk5, S5, N5', H5, G5⟩ := fc5
  have hin5 : ¬ ((0 : Int32) < 0 ∨ cl5.slots.size ≤ ((0 : Int32)).toNatClampNeg) := inb_of S5 ⟨by decide, by decide⟩
  have hat5 : cl5.slots[((0 : Int32)).toNatClampNeg]? = some (.ref w_NODE_CREATED) := Has.at H5 hin5 rfl
  refine Good.back (X1.aaload hx (j := (0 : Int32)) (v := (.ref w_NODE_CREATED)) (Ar5.1) (State.isArrayOf_alike hZ.alike Ar5.2.1) rfl Ar5.2.2 hin5 hat5 (g := (mkF m 21 #[.val (.int p0), .val .null, .val (.ref b_1), .val (.int (4 : Int32)), .val (.int (0 : Int32)), .unset] [(.int (0 : Int32)), (.ref b_1)])) rfl rfl (hb hby own_d1_21)) ?_
  show Good p e below _ (T1.setTop (mkF m 22 #[.val (.int p0), .val .null, .val (.ref b_1), .val (.int (4 : Int32)), .val (.int (0 : Int32)), .unset] [(.ref w_NODE_CREATED)]))
  refine Good.back (fun _ k => XS.astore X1.here hx rfl (hb hby own_d1_22) rfl rfl (l' := #[.val (.int p0), .val .null, .val (.ref b_1), .val (.int (4 : Int32)), .val (.int (0 : Int32)), .val (.ref w_NODE_CREATED)]) rfl k) ?_
  show Good p e below _ (T1.setTop (mkF m 24 #[.val (.int p0), .val .null, .val (.ref b_1), .val (.int (4 : Int32)), .val (.int (0 : Int32)), .val (.ref w_NODE_CREATED)] []))
  refine Good.back (fun _ k => XS.aload X1.here hx rfl (hb hby own_d1_24) rfl rfl k) ?_
  show Good p e below _ (T1.setTop (mkF m 26 #[.val (.int p0), .val .null, .val (.ref b_1), .val (.int (4 : Int32)), .val (.int (0 : Int32)), .val (.ref w_NODE_CREATED)] [(.ref w_NODE_CREATED)]))
  have f_6 : Fld Z T1.heap w_NODE_CREATED "com/example/vartija/vartija/client/WatchEvent$Type" "code" "I" (.int (1 : Int32)) := Fld.keep F_code_w_NODE_CREATED Kq1 nin0
  obtain ⟨T7, X7, e7, st7⟩ := getF X1 hx hZ hown (host := "") (Or.inl (hw _ (List.mem_of_getElem? (i := 23) rfl))) Via.refl rfl f_6 (g := (mkF m 26 #[.val (.int p0), .val .null, .val (.ref b_1), .val (.int (4 : Int32)), .val (.int (0 : Int32)), .val (.ref w_NODE_CREATED)] [(.ref w_NODE_CREATED)])) rfl rfl (hb hby own_d1_26)
  refine Good.back st7 ?_
  show Good p e below _ (T7.setTop (mkF m 29 #[.val (.int p0), .val .null, .val (.ref b_1), .val (.int (4 : Int32)), .val (.int (0 : Int32)), .val (.ref w_NODE_CREATED)] [(.int (1 : Int32))]))
  refine Good.back (fun _ k => XS.iloadN X7.here hx rfl (hb hby own_d1_29) rfl k) ?_
  show Good p e below _ (T7.setTop (mkF m 30 #[.val (.int p0), .val .null, .val (.ref b_1), .val (.int (4 : Int32)), .val (.int (0 : Int32)), .val (.ref w_NODE_CREATED)] [(.int p0), (.int (1 : Int32))]))
  refine Good.back (fun _ k => XS.icmpNo X7.here hx rfl (hb hby own_d1_30) rfl (teq hp.symm).2 k) ?_
  show Good p e below _ (T7.setTop (mkF m 33 #[.val (.int p0), .val .null, .val (.ref b_1), .val (.int (4 : Int32)), .val (.int (0 : Int32)), .val (.ref w_NODE_CREATED)] []))
  refine Good.back (fun _ k => XS.aload X7.here hx rfl (hb hby own_d1_33) rfl rfl k) ?_
  show Good p e below _ (T7.setTop (mkF m 35 #[.val (.int p0), .val .null, .val (.ref b_1), .val (.int (4 : Int32)), .val (.int (0 : Int32)), .val (.ref w_NODE_CREATED)] [(.ref w_NODE_CREATED)]))
  refine Good.back (fun _ k => XS.astoreN X7.here hx rfl (hb hby own_d1_35) rfl rfl (l' := #[.val (.int p0), .val (.ref w_NODE_CREATED), .val (.ref b_1), .val (.int (4 : Int32)), .val (.int (0 : Int32)), .val (.ref w_NODE_CREATED)]) rfl k) ?_
  show Good p e below _ (T7.setTop (mkF m 36 #[.val (.int p0), .val (.ref w_NODE_CREATED), .val (.ref b_1), .val (.int (4 : Int32)), .val (.int (0 : Int32)), .val (.ref w_NODE_CREATED)] []))
  refine Good.back (fun _ k => XS.iinc X7.here hx rfl (hb hby own_d1_36) rfl (l' := #[.val (.int p0), .val (.ref w_NODE_CREATED), .val (.ref b_1), .val (.int (4 : Int32)), .val (.int ((0 : Int32) + (1 : Int32))), .val (.ref w_NODE_CREATED)]) rfl k) ?_
  show Good p e below _ (T7.setTop (mkF m 39 #[.val (.int p0), .val (.ref w_NODE_CREATED), .val (.ref b_1), .val (.int (4 : Int32)), .val (.int ((0 : Int32) + (1 : Int32))), .val (.ref w_NODE_CREATED)] []))
  rw [show (((0 : Int32) + (1 : Int32)) : Int32) = (1 : Int32) from by decide]
  show Good p e below _ (T7.setTop (mkF m 39 #[.val (.int p0), .val (.ref w_NODE_CREATED), .val (.ref b_1), .val (.int (4 : Int32)), .val (.int (1 : Int32)), .val (.ref w_NODE_CREATED)] []))
  refine Good.back (fun _ k => XS.goto X7.here hx rfl (pc0 := 39) (pc' := 12) rfl (hb hby own_d1_39) (by decide) (by decide) k) ?_
  show Good p e below _ (T7.setTop (mkF m 12 #[.val (.int p0), .val (.ref w_NODE_CREATED), .val (.ref b_1), .val (.int (4 : Int32)), .val (.int (1 : Int32)), .val (.ref w_NODE_CREATED)] []))
  refine Good.back (fun _ k => XS.iload X7.here hx rfl (hb hby own_d1_12) rfl k) ?_
  show Good p e below _ (T7.setTop (mkF m 14 #[.val (.int p0), .val (.ref w_NODE_CREATED), .val (.ref b_1), .val (.int (4 : Int32)), .val (.int (1 : Int32)), .val (.ref w_NODE_CREATED)] [(.int (1 : Int32))]))
  refine Good.back (fun _ k => XS.iloadN X7.here hx rfl (hb hby own_d1_14) rfl k) ?_
  show Good p e below _ (T7.setTop (mkF m 15 #[.val (.int p0), .val (.ref w_NODE_CREATED), .val (.ref b_1), .val (.int (4 : Int32)), .val (.int (1 : Int32)), .val (.ref w_NODE_CREATED)] [(.int (4 : Int32)), (.int (1 : Int32))]))
  refine Good.back (fun _ k => XS.icmpNo X7.here hx rfl (hb hby own_d1_15) rfl (tlt (by decide : ((1 : Int32) < (4 : Int32)))).2.1 k) ?_
  show Good p e below _ (T7.setTop (mkF m 18 #[.val (.int p0), .val (.ref w_NODE_CREATED), .val (.ref b_1), .val (.int (4 : Int32)), .val (.int (1 : Int32)), .val (.ref w_NODE_CREATED)] []))
  refine Good.back (fun _ k => XS.aloadN X7.here hx rfl (hb hby own_d1_18) rfl rfl k) ?_
  show Good p e below _ (T7.setTop (mkF m 19 #[.val (.int p0), .val (.ref w_NODE_CREATED), .val (.ref b_1), .val (.int (4 : Int32)), .val (.int (1 : Int32)), .val (.ref w_NODE_CREATED)] [(.ref b_1)]))
  refine Good.back (fun _ k => XS.iload X7.here hx rfl (hb hby own_d1_19) rfl k) ?_
  show Good p e below _ (T7.setTop (mkF m 21 #[.val (.int p0), .val (.ref w_NODE_CREATED), .val (.ref b_1), .val (.int (4 : Int32)), .val (.int (1 : Int32)), .val (.ref w_NODE_CREATED)] [(.int (1 : Int32)), (.ref b_1)]))
  have fc8 := o1_1
  obtain ⟨cl8, Ar8, qk8, S8, N8', H8, G8⟩ := fc8
  have hin8 : ¬ ((1 : Int32) < 0 ∨ cl8.slots.size ≤ ((1 : Int32)).toNatClampNeg) := inb_of S8 ⟨by decide, by decide⟩
  have hat8 : cl8.slots[((1 : Int32)).toNatClampNeg]? = some (.ref w_NODE_DELETED) := Has.at H8 hin8 rfl
  refine Good.back (X7.aaload hx (j := (1 : Int32)) (v := (.ref w_NODE_DELETED)) (by rw [e7]; exact Ar8.1) (State.isArrayOf_alike hZ.alike Ar8.2.1) rfl Ar8.2.2 hin8 hat8 (g := (mkF m 21 #[.val (.int p0), .val (.ref w_NODE_CREATED), .val (.ref b_1), .val (.int (4 : Int32)), .val (.int (1 : Int32)), .val (.ref w_NODE_CREATED)] [(.int (1 : Int32)), (.ref b_1)])) rfl rfl (hb hby own_d1_21)) ?_
  show Good p e below _ (T7.setTop (mkF m 22 #[.val (.int p0), .val (.ref w_NODE_CREATED), .val (.ref b_1), .val (.int (4 : Int32)), .val (.int (1 : Int32)), .val (.ref w_NODE_CREATED)] [(.ref w_NODE_DELETED)]))
  refine Good.back (fun _ k => XS.astore X7.here hx rfl (hb hby own_d1_22) rfl rfl (l' := #[.val (.int p0), .val (.ref w_NODE_CREATED), .val (.ref b_1), .val (.int (4 : Int32)), .val (.int (1 : Int32)), .val (.ref w_NODE_DELETED)]) rfl k) ?_
  show Good p e below _ (T7.setTop (mkF m 24 #[.val (.int p0), .val (.ref w_NODE_CREATED), .val (.ref b_1), .val (.int (4 : Int32)), .val (.int (1 : Int32)), .val (.ref w_NODE_DELETED)] []))
  refine Good.back (fun _ k => XS.aload X7.here hx rfl (hb hby own_d1_24) rfl rfl k) ?_
  show Good p e below _ (T7.setTop (mkF m 26 #[.val (.int p0), .val (.ref w_NODE_CREATED), .val (.ref b_1), .val (.int (4 : Int32)), .val (.int (1 : Int32)), .val (.ref w_NODE_DELETED)] [(.ref w_NODE_DELETED)]))
  have f_9 : Fld Z T1.heap w_NODE_DELETED "com/example/vartija/vartija/client/WatchEvent$Type" "code" "I" (.int (2 : Int32)) := Fld.keep F_code_w_NODE_DELETED Kq1 nin0
  obtain ⟨T10, X10, e10, st10⟩ := getF X7 hx hZ hown (host := "") (Or.inl (hw _ (List.mem_of_getElem? (i := 23) rfl))) Via.refl e7 f_9 (g := (mkF m 26 #[.val (.int p0), .val (.ref w_NODE_CREATED), .val (.ref b_1), .val (.int (4 : Int32)), .val (.int (1 : Int32)), .val (.ref w_NODE_DELETED)] [(.ref w_NODE_DELETED)])) rfl rfl (hb hby own_d1_26)
  refine Good.back st10 ?_
  show Good p e below _ (T10.setTop (mkF m 29 #[.val (.int p0), .val (.ref w_NODE_CREATED), .val (.ref b_1), .val (.int (4 : Int32)), .val (.int (1 : Int32)), .val (.ref w_NODE_DELETED)] [(.int (2 : Int32))]))
  refine Good.back (fun _ k => XS.iloadN X10.here hx rfl (hb hby own_d1_29) rfl k) ?_
  show Good p e below _ (T10.setTop (mkF m 30 #[.val (.int p0), .val (.ref w_NODE_CREATED), .val (.ref b_1), .val (.int (4 : Int32)), .val (.int (1 : Int32)), .val (.ref w_NODE_DELETED)] [(.int p0), (.int (2 : Int32))]))
  refine Good.back (fun _ k => XS.icmpYes X10.here hx rfl (pc0 := 30) (pc' := 36) rfl (hb hby own_d1_30) rfl (feq (by rw [hp]; decide)).2 (by decide) (by decide) k) ?_
  show Good p e below _ (T10.setTop (mkF m 36 #[.val (.int p0), .val (.ref w_NODE_CREATED), .val (.ref b_1), .val (.int (4 : Int32)), .val (.int (1 : Int32)), .val (.ref w_NODE_DELETED)] []))
  refine Good.back (fun _ k => XS.iinc X10.here hx rfl (hb hby own_d1_36) rfl (l' := #[.val (.int p0), .val (.ref w_NODE_CREATED), .val (.ref b_1), .val (.int (4 : Int32)), .val (.int ((1 : Int32) + (1 : Int32))), .val (.ref w_NODE_DELETED)]) rfl k) ?_
  show Good p e below _ (T10.setTop (mkF m 39 #[.val (.int p0), .val (.ref w_NODE_CREATED), .val (.ref b_1), .val (.int (4 : Int32)), .val (.int ((1 : Int32) + (1 : Int32))), .val (.ref w_NODE_DELETED)] []))
  rw [show (((1 : Int32) + (1 : Int32)) : Int32) = (2 : Int32) from by decide]
  show Good p e below _ (T10.setTop (mkF m 39 #[.val (.int p0), .val (.ref w_NODE_CREATED), .val (.ref b_1), .val (.int (4 : Int32)), .val (.int (2 : Int32)), .val (.ref w_NODE_DELETED)] []))
  refine Good.back (fun _ k => XS.goto X10.here hx rfl (pc0 := 39) (pc' := 12) rfl (hb hby own_d1_39) (by decide) (by decide) k) ?_
  show Good p e below _ (T10.setTop (mkF m 12 #[.val (.int p0), .val (.ref w_NODE_CREATED), .val (.ref b_1), .val (.int (4 : Int32)), .val (.int (2 : Int32)), .val (.ref w_NODE_DELETED)] []))
  refine Good.back (fun _ k => XS.iload X10.here hx rfl (hb hby own_d1_12) rfl k) ?_
  show Good p e below _ (T10.setTop (mkF m 14 #[.val (.int p0), .val (.ref w_NODE_CREATED), .val (.ref b_1), .val (.int (4 : Int32)), .val (.int (2 : Int32)), .val (.ref w_NODE_DELETED)] [(.int (2 : Int32))]))
  refine Good.back (fun _ k => XS.iloadN X10.here hx rfl (hb hby own_d1_14) rfl k) ?_
  show Good p e below _ (T10.setTop (mkF m 15 #[.val (.int p0), .val (.ref w_NODE_CREATED), .val (.ref b_1), .val (.int (4 : Int32)), .val (.int (2 : Int32)), .val (.ref w_NODE_DELETED)] [(.int (4 : Int32)), (.int (2 : Int32))]))
  refine Good.back (fun _ k => XS.icmpNo X10.here hx rfl (hb hby own_d1_15) rfl (tlt (by decide : ((2 : Int32) < (4 : Int32)))).2.1 k) ?_
  show Good p e below _ (T10.setTop (mkF m 18 #[.val (.int p0), .val (.ref w_NODE_CREATED), .val (.ref b_1), .val (.int (4 : Int32)), .val (.int (2 : Int32)), .val (.ref w_NODE_DELETED)] []))
  refine Good.back (fun _ k => XS.aloadN X10.here hx rfl (hb hby own_d1_18) rfl rfl k) ?_
  show Good p e below _ (T10.setTop (mkF m 19 #[.val (.int p0), .val (.ref w_NODE_CREATED), .val (.ref b_1), .val (.int (4 : Int32)), .val (.int (2 : Int32)), .val (.ref w_NODE_DELETED)] [(.ref b_1)]))
  refine Good.back (fun _ k => XS.iload X10.here hx rfl (hb hby own_d1_19) rfl k) ?_
  show Good p e below _ (T10.setTop (mkF m 21 #[.val (.int p0), .val (.ref w_NODE_CREATED), .val (.ref b_1), .val (.int (4 : Int32)), .val (.int (2 : Int32)), .val (.ref w_NODE_DELETED)] [(.int (2 : Int32)), (.ref b_1)]))
  have fc11 := o1_1
  obtain ⟨cl11, Ar11, qk11, S11, N11', H11, G11⟩ := fc11
  have hin11 : ¬ ((2 : Int32) < 0 ∨ cl11.slots.size ≤ ((2 : Int32)).toNatClampNeg) := inb_of S11 ⟨by decide, by decide⟩
  have hat11 : cl11.slots[((2 : Int32)).toNatClampNeg]? = some (.ref w_NODE_DATA_CHANGED) := Has.at H11 hin11 rfl
  refine Good.back (X10.aaload hx (j := (2 : Int32)) (v := (.ref w_NODE_DATA_CHANGED)) (by rw [e10]; exact Ar11.1) (State.isArrayOf_alike hZ.alike Ar11.2.1) rfl Ar11.2.2 hin11 hat11 (g := (mkF m 21 #[.val (.int p0), .val (.ref w_NODE_CREATED), .val (.ref b_1), .val (.int (4 : Int32)), .val (.int (2 : Int32)), .val (.ref w_NODE_DELETED)] [(.int (2 : Int32)), (.ref b_1)])) rfl rfl (hb hby own_d1_21)) ?_
  show Good p e below _ (T10.setTop (mkF m 22 #[.val (.int p0), .val (.ref w_NODE_CREATED), .val (.ref b_1), .val (.int (4 : Int32)), .val (.int (2 : Int32)), .val (.ref w_NODE_DELETED)] [(.ref w_NODE_DATA_CHANGED)]))
  refine Good.back (fun _ k => XS.astore X10.here hx rfl (hb hby own_d1_22) rfl rfl (l' := #[.val (.int p0), .val (.ref w_NODE_CREATED), .val (.ref b_1), .val (.int (4 : Int32)), .val (.int (2 : Int32)), .val (.ref w_NODE_DATA_CHANGED)]) rfl k) ?_
  show Good p e below _ (T10.setTop (mkF m 24 #[.val (.int p0), .val (.ref w_NODE_CREATED), .val (.ref b_1), .val (.int (4 : Int32)), .val (.int (2 : Int32)), .val (.ref w_NODE_DATA_CHANGED)] []))
  refine Good.back (fun _ k => XS.aload X10.here hx rfl (hb hby own_d1_24) rfl rfl k) ?_
  show Good p e below _ (T10.setTop (mkF m 26 #[.val (.int p0), .val (.ref w_NODE_CREATED), .val (.ref b_1), .val (.int (4 : Int32)), .val (.int (2 : Int32)), .val (.ref w_NODE_DATA_CHANGED)] [(.ref w_NODE_DATA_CHANGED)]))
  have f_12 : Fld Z T1.heap w_NODE_DATA_CHANGED "com/example/vartija/vartija/client/WatchEvent$Type" "code" "I" (.int (3 : Int32)) := Fld.keep F_code_w_NODE_DATA_CHANGED Kq1 nin0
  obtain ⟨T13, X13, e13, st13⟩ := getF X10 hx hZ hown (host := "") (Or.inl (hw _ (List.mem_of_getElem? (i := 23) rfl))) Via.refl e10 f_12 (g := (mkF m 26 #[.val (.int p0), .val (.ref w_NODE_CREATED), .val (.ref b_1), .val (.int (4 : Int32)), .val (.int (2 : Int32)), .val (.ref w_NODE_DATA_CHANGED)] [(.ref w_NODE_DATA_CHANGED)])) rfl rfl (hb hby own_d1_26)
  refine Good.back st13 ?_
  show Good p e below _ (T13.setTop (mkF m 29 #[.val (.int p0), .val (.ref w_NODE_CREATED), .val (.ref b_1), .val (.int (4 : Int32)), .val (.int (2 : Int32)), .val (.ref w_NODE_DATA_CHANGED)] [(.int (3 : Int32))]))
  refine Good.back (fun _ k => XS.iloadN X13.here hx rfl (hb hby own_d1_29) rfl k) ?_
  show Good p e below _ (T13.setTop (mkF m 30 #[.val (.int p0), .val (.ref w_NODE_CREATED), .val (.ref b_1), .val (.int (4 : Int32)), .val (.int (2 : Int32)), .val (.ref w_NODE_DATA_CHANGED)] [(.int p0), (.int (3 : Int32))]))
  refine Good.back (fun _ k => XS.icmpYes X13.here hx rfl (pc0 := 30) (pc' := 36) rfl (hb hby own_d1_30) rfl (feq (by rw [hp]; decide)).2 (by decide) (by decide) k) ?_
  show Good p e below _ (T13.setTop (mkF m 36 #[.val (.int p0), .val (.ref w_NODE_CREATED), .val (.ref b_1), .val (.int (4 : Int32)), .val (.int (2 : Int32)), .val (.ref w_NODE_DATA_CHANGED)] []))
  refine Good.back (fun _ k => XS.iinc X13.here hx rfl (hb hby own_d1_36) rfl (l' := #[.val (.int p0), .val (.ref w_NODE_CREATED), .val (.ref b_1), .val (.int (4 : Int32)), .val (.int ((2 : Int32) + (1 : Int32))), .val (.ref w_NODE_DATA_CHANGED)]) rfl k) ?_
  show Good p e below _ (T13.setTop (mkF m 39 #[.val (.int p0), .val (.ref w_NODE_CREATED), .val (.ref b_1), .val (.int (4 : Int32)), .val (.int ((2 : Int32) + (1 : Int32))), .val (.ref w_NODE_DATA_CHANGED)] []))
  rw [show (((2 : Int32) + (1 : Int32)) : Int32) = (3 : Int32) from by decide]
  show Good p e below _ (T13.setTop (mkF m 39 #[.val (.int p0), .val (.ref w_NODE_CREATED), .val (.ref b_1), .val (.int (4 : Int32)), .val (.int (3 : Int32)), .val (.ref w_NODE_DATA_CHANGED)] []))
  refine Good.back (fun _ k => XS.goto X13.here hx rfl (pc0 := 39) (pc' := 12) rfl (hb hby own_d1_39) (by decide) (by decide) k) ?_
  show Good p e below _ (T13.setTop (mkF m 12 #[.val (.int p0), .val (.ref w_NODE_CREATED), .val (.ref b_1), .val (.int (4 : Int32)), .val (.int (3 : Int32)), .val (.ref w_NODE_DATA_CHANGED)] []))
  refine Good.back (fun _ k => XS.iload X13.here hx rfl (hb hby own_d1_12) rfl k) ?_
  show Good p e below _ (T13.setTop (mkF m 14 #[.val (.int p0), .val (.ref w_NODE_CREATED), .val (.ref b_1), .val (.int (4 : Int32)), .val (.int (3 : Int32)), .val (.ref w_NODE_DATA_CHANGED)] [(.int (3 : Int32))]))
  refine Good.back (fun _ k => XS.iloadN X13.here hx rfl (hb hby own_d1_14) rfl k) ?_
  show Good p e below _ (T13.setTop (mkF m 15 #[.val (.int p0), .val (.ref w_NODE_CREATED), .val (.ref b_1), .val (.int (4 : Int32)), .val (.int (3 : Int32)), .val (.ref w_NODE_DATA_CHANGED)] [(.int (4 : Int32)), (.int (3 : Int32))]))
  refine Good.back (fun _ k => XS.icmpNo X13.here hx rfl (hb hby own_d1_15) rfl (tlt (by decide : ((3 : Int32) < (4 : Int32)))).2.1 k) ?_
  show Good p e below _ (T13.setTop (mkF m 18 #[.val (.int p0), .val (.ref w_NODE_CREATED), .val (.ref b_1), .val (.int (4 : Int32)), .val (.int (3 : Int32)), .val (.ref w_NODE_DATA_CHANGED)] []))
  refine Good.back (fun _ k => XS.aloadN X13.here hx rfl (hb hby own_d1_18) rfl rfl k) ?_
  show Good p e below _ (T13.setTop (mkF m 19 #[.val (.int p0), .val (.ref w_NODE_CREATED), .val (.ref b_1), .val (.int (4 : Int32)), .val (.int (3 : Int32)), .val (.ref w_NODE_DATA_CHANGED)] [(.ref b_1)]))
  refine Good.back (fun _ k => XS.iload X13.here hx rfl (hb hby own_d1_19) rfl k) ?_
  show Good p e below _ (T13.setTop (mkF m 21 #[.val (.int p0), .val (.ref w_NODE_CREATED), .val (.ref b_1), .val (.int (4 : Int32)), .val (.int (3 : Int32)), .val (.ref w_NODE_DATA_CHANGED)] [(.int (3 : Int32)), (.ref b_1)]))
  have fc14 := o1_1
  obtain ⟨cl14, Ar14, qk14, S14, N14', H14, G14⟩ := fc14
  have hin14 : ¬ ((3 : Int32) < 0 ∨ cl14.slots.size ≤ ((3 : Int32)).toNatClampNeg) := inb_of S14 ⟨by decide, by decide⟩
  have hat14 : cl14.slots[((3 : Int32)).toNatClampNeg]? = some (.ref w_NODE_CHILDREN_CHANGED) := Has.at H14 hin14 rfl
  refine Good.back (X13.aaload hx (j := (3 : Int32)) (v := (.ref w_NODE_CHILDREN_CHANGED)) (by rw [e13]; exact Ar14.1) (State.isArrayOf_alike hZ.alike Ar14.2.1) rfl Ar14.2.2 hin14 hat14 (g := (mkF m 21 #[.val (.int p0), .val (.ref w_NODE_CREATED), .val (.ref b_1), .val (.int (4 : Int32)), .val (.int (3 : Int32)), .val (.ref w_NODE_DATA_CHANGED)] [(.int (3 : Int32)), (.ref b_1)])) rfl rfl (hb hby own_d1_21)) ?_
  show Good p e below _ (T13.setTop (mkF m 22 #[.val (.int p0), .val (.ref w_NODE_CREATED), .val (.ref b_1), .val (.int (4 : Int32)), .val (.int (3 : Int32)), .val (.ref w_NODE_DATA_CHANGED)] [(.ref w_NODE_CHILDREN_CHANGED)]))
  refine Good.back (fun _ k => XS.astore X13.here hx rfl (hb hby own_d1_22) rfl rfl (l' := #[.val (.int p0), .val (.ref w_NODE_CREATED), .val (.ref b_1), .val (.int (4 : Int32)), .val (.int (3 : Int32)), .val (.ref w_NODE_CHILDREN_CHANGED)]) rfl k) ?_
  show Good p e below _ (T13.setTop (mkF m 24 #[.val (.int p0), .val (.ref w_NODE_CREATED), .val (.ref b_1), .val (.int (4 : Int32)), .val (.int (3 : Int32)), .val (.ref w_NODE_CHILDREN_CHANGED)] []))
  refine Good.back (fun _ k => XS.aload X13.here hx rfl (hb hby own_d1_24) rfl rfl k) ?_
  show Good p e below _ (T13.setTop (mkF m 26 #[.val (.int p0), .val (.ref w_NODE_CREATED), .val (.ref b_1), .val (.int (4 : Int32)), .val (.int (3 : Int32)), .val (.ref w_NODE_CHILDREN_CHANGED)] [(.ref w_NODE_CHILDREN_CHANGED)]))
  have f_15 : Fld Z T1.heap w_NODE_CHILDREN_CHANGED "com/example/vartija/vartija/client/WatchEvent$Type" "code" "I" (.int (4 : Int32)) := Fld.keep F_code_w_NODE_CHILDREN_CHANGED Kq1 nin0
  obtain ⟨T16, X16, e16, st16⟩ := getF X13 hx hZ hown (host := "") (Or.inl (hw _ (List.mem_of_getElem? (i := 23) rfl))) Via.refl e13 f_15 (g := (mkF m 26 #[.val (.int p0), .val (.ref w_NODE_CREATED), .val (.ref b_1), .val (.int (4 : Int32)), .val (.int (3 : Int32)), .val (.ref w_NODE_CHILDREN_CHANGED)] [(.ref w_NODE_CHILDREN_CHANGED)])) rfl rfl (hb hby own_d1_26)
  refine Good.back st16 ?_
  show Good p e below _ (T16.setTop (mkF m 29 #[.val (.int p0), .val (.ref w_NODE_CREATED), .val (.ref b_1), .val (.int (4 : Int32)), .val (.int (3 : Int32)), .val (.ref w_NODE_CHILDREN_CHANGED)] [(.int (4 : Int32))]))
  refine Good.back (fun _ k => XS.iloadN X16.here hx rfl (hb hby own_d1_29) rfl k) ?_
  show Good p e below _ (T16.setTop (mkF m 30 #[.val (.int p0), .val (.ref w_NODE_CREATED), .val (.ref b_1), .val (.int (4 : Int32)), .val (.int (3 : Int32)), .val (.ref w_NODE_CHILDREN_CHANGED)] [(.int p0), (.int (4 : Int32))]))
  refine Good.back (fun _ k => XS.icmpYes X16.here hx rfl (pc0 := 30) (pc' := 36) rfl (hb hby own_d1_30) rfl (feq (by rw [hp]; decide)).2 (by decide) (by decide) k) ?_
  show Good p e below _ (T16.setTop (mkF m 36 #[.val (.int p0), .val (.ref w_NODE_CREATED), .val (.ref b_1), .val (.int (4 : Int32)), .val (.int (3 : Int32)), .val (.ref w_NODE_CHILDREN_CHANGED)] []))
  refine Good.back (fun _ k => XS.iinc X16.here hx rfl (hb hby own_d1_36) rfl (l' := #[.val (.int p0), .val (.ref w_NODE_CREATED), .val (.ref b_1), .val (.int (4 : Int32)), .val (.int ((3 : Int32) + (1 : Int32))), .val (.ref w_NODE_CHILDREN_CHANGED)]) rfl k) ?_
  show Good p e below _ (T16.setTop (mkF m 39 #[.val (.int p0), .val (.ref w_NODE_CREATED), .val (.ref b_1), .val (.int (4 : Int32)), .val (.int ((3 : Int32) + (1 : Int32))), .val (.ref w_NODE_CHILDREN_CHANGED)] []))
  rw [show (((3 : Int32) + (1 : Int32)) : Int32) = (4 : Int32) from by decide]
  show Good p e below _ (T16.setTop (mkF m 39 #[.val (.int p0), .val (.ref w_NODE_CREATED), .val (.ref b_1), .val (.int (4 : Int32)), .val (.int (4 : Int32)), .val (.ref w_NODE_CHILDREN_CHANGED)] []))
  refine Good.back (fun _ k => XS.goto X16.here hx rfl (pc0 := 39) (pc' := 12) rfl (hb hby own_d1_39) (by decide) (by decide) k) ?_
  show Good p e below _ (T16.setTop (mkF m 12 #[.val (.int p0), .val (.ref w_NODE_CREATED), .val (.ref b_1), .val (.int (4 : Int32)), .val (.int (4 : Int32)), .val (.ref w_NODE_CHILDREN_CHANGED)] []))
  refine Good.back (fun _ k => XS.iload X16.here hx rfl (hb hby own_d1_12) rfl k) ?_
  show Good p e below _ (T16.setTop (mkF m 14 #[.val (.int p0), .val (.ref w_NODE_CREATED), .val (.ref b_1), .val (.int (4 : Int32)), .val (.int (4 : Int32)), .val (.ref w_NODE_CHILDREN_CHANGED)] [(.int (4 : Int32))]))
  refine Good.back (fun _ k => XS.iloadN X16.here hx rfl (hb hby own_d1_14) rfl k) ?_
  show Good p e below _ (T16.setTop (mkF m 15 #[.val (.int p0), .val (.ref w_NODE_CREATED), .val (.ref b_1), .val (.int (4 : Int32)), .val (.int (4 : Int32)), .val (.ref w_NODE_CHILDREN_CHANGED)] [(.int (4 : Int32)), (.int (4 : Int32))]))
  refine Good.back (fun _ k => XS.icmpYes X16.here hx rfl (pc0 := 15) (pc' := 42) rfl (hb hby own_d1_15) rfl (flt (by decide : ¬ ((4 : Int32) < (4 : Int32)))).2.1 (by decide) (by decide) k) ?_
  show Good p e below _ (T16.setTop (mkF m 42 #[.val (.int p0), .val (.ref w_NODE_CREATED), .val (.ref b_1), .val (.int (4 : Int32)), .val (.int (4 : Int32)), .val (.ref w_NODE_CHILDREN_CHANGED)] []))
  refine Good.back (fun _ k => XS.aloadN X16.here hx rfl (hb hby own_d1_42) rfl rfl k) ?_
  show Good p e below _ (T16.setTop (mkF m 43 #[.val (.int p0), .val (.ref w_NODE_CREATED), .val (.ref b_1), .val (.int (4 : Int32)), .val (.int (4 : Int32)), .val (.ref w_NODE_CHILDREN_CHANGED)] [(.ref w_NODE_CREATED)]))
  obtain ⟨fs17, hr17, hrun17, hended17, hW17, hsame17⟩ := X16.leave (v := some (.ref w_NODE_CREATED)) (fun h => by rw [Bd.returns] at h; cases h)
  refine Good.done (retOut X16 hx Bd.returns rfl (Or.inr (Or.inr (Or.inr (Or.inr ⟨rfl, rfl, rfl⟩)))) (hb hby own_d1_43) hr17) hrun17 hended17 ⟨_, _, rfl, ?_, ⟨_, rfl⟩, hW17, hsame17.mono (by decide) (by decide)⟩
  show Q1_0 Z p0 w__VALUES w_NODE_CREATED w_NODE_DELETED w_NODE_DATA_CHANGED w_NODE_CHILDREN_CHANGED kc_w__VALUES h0 n0 _ T16.heap _
  rw [e16]
  exact ⟨rfl, N1, K3⟩
theorem own_ef_1_1 (m : MethodId) (x0 : Int32) : entryFrame m #[(.int x0)] 6 = mkF m 0 #[.val (.int x0), .unset, .unset, .unset, .unset, .unset] [] := by first | (simp [entryFrame, mkF, argsToLocals, Value.category]; done) | rfl
def Q1_1 (Z : State) (p0 : Int32) (w__VALUES : Addr) (w_NODE_CREATED : Addr) (w_NODE_DELETED : Addr) (w_NODE_DATA_CHANGED : Addr) (w_NODE_CHILDREN_CHANGED : Addr) (kc_w__VALUES : ClassId) (h0 : Heap) (n0 : Nat) (v : Option Value) (h : Heap) (L : List Loc) : Prop := v = some (.ref w_NODE_DELETED) ∧ Fr n0 L ∧ Keep h0 h []
set_option maxRecDepth 65536 in
set_option maxHeartbeats 40000000 in
theorem rm1_1 (l : Launch) (Z : State) (a0 : Array Value) (hw : ∀ d ∈ tables_1, d.before a0 Z = true) (ws : List Jvm.Cond) (p0 : Int32) (w__VALUES : Addr) (w_NODE_CREATED : Addr) (w_NODE_DELETED : Addr) (w_NODE_DATA_CHANGED : Addr) (w_NODE_CHILDREN_CHANGED : Addr) (kc_w__VALUES : ClassId) (h0 : Heap) (n0 : Nat) (Z0 : n0 ≤ h0.size) (S_w__VALUES : Sta Z h0 "com/example/vartija/vartija/client/WatchEvent$Type" "$VALUES" "[Lcom/example/vartija/vartija/client/WatchEvent$Type;" (.ref w__VALUES)) (E_w__VALUES : Exa Z h0 w__VALUES "[Lcom/example/vartija/vartija/client/WatchEvent$Type;") (S_w_NODE_CREATED : Sta Z h0 "com/example/vartija/vartija/client/WatchEvent$Type" "NODE_CREATED" "Lcom/example/vartija/vartija/client/WatchEvent$Type;" (.ref w_NODE_CREATED)) (E_w_NODE_CREATED : Exa Z h0 w_NODE_CREATED "com/example/vartija/vartija/client/WatchEvent$Type") (S_w_NODE_DELETED : Sta Z h0 "com/example/vartija/vartija/client/WatchEvent$Type" "NODE_DELETED" "Lcom/example/vartija/vartija/client/WatchEvent$Type;" (.ref w_NODE_DELETED)) (E_w_NODE_DELETED : Exa Z h0 w_NODE_DELETED "com/example/vartija/vartija/client/WatchEvent$Type") (S_w_NODE_DATA_CHANGED : Sta Z h0 "com/example/vartija/vartija/client/WatchEvent$Type" "NODE_DATA_CHANGED" "Lcom/example/vartija/vartija/client/WatchEvent$Type;" (.ref w_NODE_DATA_CHANGED)) (E_w_NODE_DATA_CHANGED : Exa Z h0 w_NODE_DATA_CHANGED "com/example/vartija/vartija/client/WatchEvent$Type") (S_w_NODE_CHILDREN_CHANGED : Sta Z h0 "com/example/vartija/vartija/client/WatchEvent$Type" "NODE_CHILDREN_CHANGED" "Lcom/example/vartija/vartija/client/WatchEvent$Type;" (.ref w_NODE_CHILDREN_CHANGED)) (E_w_NODE_CHILDREN_CHANGED : Exa Z h0 w_NODE_CHILDREN_CHANGED "com/example/vartija/vartija/client/WatchEvent$Type") (F_code_w_NODE_CREATED : Fld Z h0 w_NODE_CREATED "com/example/vartija/vartija/client/WatchEvent$Type" "code" "I" (.int (1 : Int32))) (F_code_w_NODE_DELETED : Fld Z h0 w_NODE_DELETED "com/example/vartija/vartija/client/WatchEvent$Type" "code" "I" (.int (2 : Int32))) (F_code_w_NODE_DATA_CHANGED : Fld Z h0 w_NODE_DATA_CHANGED "com/example/vartija/vartija/client/WatchEvent$Type" "code" "I" (.int (3 : Int32))) (F_code_w_NODE_CHILDREN_CHANGED : Fld Z h0 w_NODE_CHILDREN_CHANGED "com/example/vartija/vartija/client/WatchEvent$Type" "code" "I" (.int (4 : Int32))) (V_w__VALUES : Arv Z h0 w__VALUES kc_w__VALUES (.object "com/example/vartija/vartija/client/WatchEvent$Type") (4 : Int32) [(.ref w_NODE_CREATED), (.ref w_NODE_DELETED), (.ref w_NODE_DATA_CHANGED), (.ref w_NODE_CHILDREN_CHANGED)] .null) (hp : p0 = (2 : Int32)) :
    MetFree l (⟨"com/example/vartija/vartija/client/WatchEvent$Type", "of", "(I)Lcom/example/vartija/vartija/client/WatchEvent$Type;"⟩ : MethodName) (head1 (Jvm.Cond.code (⟨"com/example/vartija/vartija/client/WatchEvent$Type", "of", "(I)Lcom/example/vartija/vartija/client/WatchEvent$Type;"⟩ : MethodName) prog_22_method_4_code 6 (some (.object "com/example/vartija/vartija/client/WatchEvent$Type")) :: ws) ({ frames := 2, cells := 1, slots := 4, locals := 25 } : Room)) (fun a U => a = #[(.int p0)] ∧ Z.Warmed39 U.vm ∧ U.heap = h0) (fun _ _ _ _ _ => True) (fun _ U o U' => ∃ v L, o = .returned v ∧ Q1_1 Z p0 w__VALUES w_NODE_CREATED w_NODE_DELETED w_NODE_DATA_CHANGED w_NODE_CHILDREN_CHANGED kc_w__VALUES h0 n0 v U'.heap L ∧ FrameEnd U o U' L ({ frames := 2, cells := 1, slots := 4, locals := 25 } : Room).cells ({ frames := 2, cells := 1, slots := 4, locals := 25 } : Room).slots) := by
  refine MetFree.of_bodySF (plainFor_of_name own_pn0) hisR ?_
  intro p e s m args below meth c s₁ Bd hml0 hP hK
  obtain ⟨rfl, hZ, hh⟩ := hP
  have hx := Bd.exec
  have hby := Bd.bytes
  have hml : c.maxLocals = 6 := hml0
  have hown : s.vm.findClass "com/example/vartija/vartija/client/WatchEvent$Type" = some m.cls := findClass_of_methodNamed Bd.named
  have hnm := (name_of_methodNamed Bd.named Bd.method).1
  have X0 : Stand p l e ({ frames := 2, cells := 1, slots := 4, locals := 25 } : Room) s m #[(.int p0)] below meth c s₁ [] 0 0 := Stand.of_body Bd
  have e0 : s₁.heap = h0 := by rw [← hh, Bd.state]; rfl
  have N0 := Fr.nil n0
  have KR : Keep h0 h0 [] := Keep.refl h0 _
  show Good p e below (fun o U' => ∃ v L, o = .returned v ∧ Q1_1 Z p0 w__VALUES w_NODE_CREATED w_NODE_DELETED w_NODE_DATA_CHANGED w_NODE_CHILDREN_CHANGED kc_w__VALUES h0 n0 v U'.heap L ∧ FrameEnd s o U' L ({ frames := 2, cells := 1, slots := 4, locals := 25 } : Room).cells ({ frames := 2, cells := 1, slots := 4, locals := 25 } : Room).slots) _
  refine Good.back (S' := s₁.setTop (mkF m 0 #[.val (.int p0), .unset, .unset, .unset, .unset, .unset] [])) (fun t k => castTop (own_ef_1_1 m p0) k) ?_
  show Good p e below _ (s₁.setTop (mkF m 0 #[.val (.int p0), .unset, .unset, .unset, .unset, .unset] []))
  refine Good.back (fun _ k => XS.aconstNull X0.here hx rfl (hb hby own_d1_0) k) ?_
  show Good p e below _ (s₁.setTop (mkF m 1 #[.val (.int p0), .unset, .unset, .unset, .unset, .unset] [.null]))
  refine Good.back (fun _ k => XS.astoreN X0.here hx rfl (hb hby own_d1_1) rfl rfl (l' := #[.val (.int p0), .val .null, .unset, .unset, .unset, .unset]) rfl k) ?_
  show Good p e below _ (s₁.setTop (mkF m 2 #[.val (.int p0), .val .null, .unset, .unset, .unset, .unset] []))
  obtain ⟨_, _, ⟨T1, L1, k1, n1⟩, -, X1, ⟨Lc1, hQ1, l1, y1, z1⟩, st1⟩ := Jvm.LawKit.callS X0 hx (y := (⟨"com/example/vartija/vartija/client/WatchEvent$Type", "values", "()[Lcom/example/vartija/vartija/client/WatchEvent$Type;"⟩ : MethodName)) hown (mvT hZ (hw _ (List.mem_of_getElem? (i := 4) rfl))) (mvT hZ (hw _ (List.mem_of_getElem? (i := 5) rfl))) (mvT hZ (hw _ (List.mem_of_getElem? (i := 2) rfl))) (mvT hZ (hw _ (List.mem_of_getElem? (i := 6) rfl))) (by decide) (backOf (W := 0) (rm2 l Z a0 hw []  w__VALUES w_NODE_CREATED w_NODE_DELETED w_NODE_DATA_CHANGED w_NODE_CHILDREN_CHANGED kc_w__VALUES h0 n0 Z0 S_w__VALUES E_w__VALUES S_w_NODE_CREATED E_w_NODE_CREATED S_w_NODE_DELETED E_w_NODE_DELETED S_w_NODE_DATA_CHANGED E_w_NODE_DATA_CHANGED S_w_NODE_CHILDREN_CHANGED E_w_NODE_CHILDREN_CHANGED F_code_w_NODE_CREATED F_code_w_NODE_DELETED F_code_w_NODE_DATA_CHANGED F_code_w_NODE_CHILDREN_CHANGED V_w__VALUES) hZ (hw _ (List.mem_of_getElem? (i := 6) rfl)) (hw _ (List.mem_of_getElem? (i := 2) rfl)) (by decide) (by decide)) (g := (mkF m 2 #[.val (.int p0), .val .null, .unset, .unset, .unset, .unset] [])) rfl (by rw [hml]; rfl) (argsL := []) (rest := []) (lenOf own_pd4 rfl) rfl (by show 2 * 0 + _ ≤ _; exact Nat.le_of_eq rfl) (hb hby own_d1_2) (fun _ _ => ⟨rfl, e0, (by decide : 0 + 1 ≤ _), (by decide : 0 + 4 ≤ _)⟩)
  dsimp only [Pt.U, Pt.locs, Pt.cells, Pt.slots] at X1 l1 y1 z1 st1 hQ1
  subst l1 y1 z1
  obtain ⟨b_1, rfl, N1q, Kq1, o1_0, o1_1⟩ := hQ1
  have N1 := Fr.app N0 N1q
  have Z2 : n0 ≤ T1.heap.size := Nat.le_trans Z0 Kq1.1
  have K3 : Keep h0 T1.heap [] := KR.trans Kq1 all0
  have g_b_1 : n0 ≤ b_1 := Nat.le_trans Z0 o1_0
  have sz_b_1 : h0.size ≤ b_1 := Nat.le_trans KR.1 o1_0
  refine Good.back st1 ?_
  show Good p e below _ (T1.setTop (mkF m 5 #[.val (.int p0), .val .null, .unset, .unset, .unset, .unset] [(.ref b_1)]))
  refine Good.back (fun _ k => XS.astoreN X1.here hx rfl (hb hby own_d1_5) rfl rfl (l' := #[.val (.int p0), .val .null, .val (.ref b_1), .unset, .unset, .unset]) rfl k) ?_
  show Good p e below _ (T1.setTop (mkF m 6 #[.val (.int p0), .val .null, .val (.ref b_1), .unset, .unset, .unset] []))
  refine Good.back (fun _ k => XS.aloadN X1.here hx rfl (hb hby own_d1_6) rfl rfl k) ?_
  show Good p e below _ (T1.setTop (mkF m 7 #[.val (.int p0), .val .null, .val (.ref b_1), .unset, .unset, .unset] [(.ref b_1)]))
  have fc4 := o1_1
  obtain ⟨cl4, Ar4, qk4, S4, N4', H4, G4⟩ := fc4
  refine Good.back (X1.arraylength hx (Ar4.1) (State.isArrayOf_alike hZ.alike Ar4.2.1) (g := (mkF m 7 #[.val (.int p0), .val .null, .val (.ref b_1), .unset, .unset, .unset] [(.ref b_1)])) rfl rfl (hb hby own_d1_7)) ?_
  rw [len_of S4 N4']
  show Good p e below _ (T1.setTop (mkF m 8 #[.val (.int p0), .val .null, .val (.ref b_1), .unset, .unset, .unset] [(.int (4 : Int32))]))
  refine Good.back (fun _ k => XS.istoreN X1.here hx rfl (hb hby own_d1_8) rfl (l' := #[.val (.int p0), .val .null, .val (.ref b_1), .val (.int (4 : Int32)), .unset, .unset]) rfl k) ?_
  show Good p e below _ (T1.setTop (mkF m 9 #[.val (.int p0), .val .null, .val (.ref b_1), .val (.int (4 : Int32)), .unset, .unset] []))
  refine Good.back (fun _ k => XS.iconst X1.here hx rfl (hb hby own_d1_9) k) ?_
  show Good p e below _ (T1.setTop (mkF m 10 #[.val (.int p0), .val .null, .val (.ref b_1), .val (.int (4 : Int32)), .unset, .unset] [(.int (0 : Int32))]))
  refine Good.back (fun _ k => XS.istore X1.here hx rfl (hb hby own_d1_10) rfl (l' := #[.val (.int p0), .val .null, .val (.ref b_1), .val (.int (4 : Int32)), .val (.int (0 : Int32)), .unset]) rfl k) ?_
  show Good p e below _ (T1.setTop (mkF m 12 #[.val (.int p0), .val .null, .val (.ref b_1), .val (.int (4 : Int32)), .val (.int (0 : Int32)), .unset] []))
  refine Good.back (fun _ k => XS.iload X1.here hx rfl (hb hby own_d1_12) rfl k) ?_
  show Good p e below _ (T1.setTop (mkF m 14 #[.val (.int p0), .val .null, .val (.ref b_1), .val (.int (4 : Int32)), .val (.int (0 : Int32)), .unset] [(.int (0 : Int32))]))
  refine Good.back (fun _ k => XS.iloadN X1.here hx rfl (hb hby own_d1_14) rfl k) ?_
  show Good p e below _ (T1.setTop (mkF m 15 #[.val (.int p0), .val .null, .val (.ref b_1), .val (.int (4 : Int32)), .val (.int (0 : Int32)), .unset] [(.int (4 : Int32)), (.int (0 : Int32))]))
  refine Good.back (fun _ k => XS.icmpNo X1.here hx rfl (hb hby own_d1_15) rfl (tlt (by decide : ((0 : Int32) < (4 : Int32)))).2.1 k) ?_
  show Good p e below _ (T1.setTop (mkF m 18 #[.val (.int p0), .val .null, .val (.ref b_1), .val (.int (4 : Int32)), .val (.int (0 : Int32)), .unset] []))
  refine Good.back (fun _ k => XS.aloadN X1.here hx rfl (hb hby own_d1_18) rfl rfl k) ?_
  show Good p e below _ (T1.setTop (mkF m 19 #[.val (.int p0), .val .null, .val (.ref b_1), .val (.int (4 : Int32)), .val (.int (0 : Int32)), .unset] [(.ref b_1)]))
  refine Good.back (fun _ k => XS.iload X1.here hx rfl (hb hby own_d1_19) rfl k) ?_
  show Good p e below _ (T1.setTop (mkF m 21 #[.val (.int p0), .val .null, .val (.ref b_1), .val (.int (4 : Int32)), .val (.int (0 : Int32)), .unset] [(.int (0 : Int32)), (.ref b_1)]))
  have fc5 := o1_1
  obtain ⟨cl5, Ar5, qk5, S5, N5', H5, G5⟩ := fc5
  have hin5 : ¬ ((0 : Int32) < 0 ∨ cl5.slots.size ≤ ((0 : Int32)).toNatClampNeg) := inb_of S5 ⟨by decide, by decide⟩
  have hat5 : cl5.slots[((0 : Int32)).toNatClampNeg]? = some (.ref w_NODE_CREATED) := Has.at H5 hin5 rfl
  refine Good.back (X1.aaload hx (j := (0 : Int32)) (v := (.ref w_NODE_CREATED)) (Ar5.1) (State.isArrayOf_alike hZ.alike Ar5.2.1) rfl Ar5.2.2 hin5 hat5 (g := (mkF m 21 #[.val (.int p0), .val .null, .val (.ref b_1), .val (.int (4 : Int32)), .val (.int (0 : Int32)), .unset] [(.int (0 : Int32)), (.ref b_1)])) rfl rfl (hb hby own_d1_21)) ?_
  show Good p e below _ (T1.setTop (mkF m 22 #[.val (.int p0), .val .null, .val (.ref b_1), .val (.int (4 : Int32)), .val (.int (0 : Int32)), .unset] [(.ref w_NODE_CREATED)]))
  refine Good.back (fun _ k => XS.astore X1.here hx rfl (hb hby own_d1_22) rfl rfl (l' := #[.val (.int p0), .val .null, .val (.ref b_1), .val (.int (4 : Int32)), .val (.int (0 : Int32)), .val (.ref w_NODE_CREATED)]) rfl k) ?_
  show Good p e below _ (T1.setTop (mkF m 24 #[.val (.int p0), .val .null, .val (.ref b_1), .val (.int (4 : Int32)), .val (.int (0 : Int32)), .val (.ref w_NODE_CREATED)] []))
  refine Good.back (fun _ k => XS.aload X1.here hx rfl (hb hby own_d1_24) rfl rfl k) ?_
  show Good p e below _ (T1.setTop (mkF m 26 #[.val (.int p0), .val .null, .val (.ref b_1), .val (.int (4 : Int32)), .val (.int (0 : Int32)), .val (.ref w_NODE_CREATED)] [(.ref w_NODE_CREATED)]))
  have f_6 : Fld Z T1.heap w_NODE_CREATED "com/example/vartija/vartija/client/WatchEvent$Type" "code" "I" (.int (1 : Int32)) := Fld.keep F_code_w_NODE_CREATED Kq1 nin0
  obtain ⟨T7, X7, e7, st7⟩ := getF X1 hx hZ hown (host := "") (Or.inl (hw _ (List.mem_of_getElem? (i := 23) rfl))) Via.refl rfl f_6 (g := (mkF m 26 #[.val (.int p0), .val .null, .val (.ref b_1), .val (.int (4 : Int32)), .val (.int (0 : Int32)), .val (.ref w_NODE_CREATED)] [(.ref w_NODE_CREATED)])) rfl rfl (hb hby own_d1_26)
  refine Good.back st7 ?_
  show Good p e below _ (T7.setTop (mkF m 29 #[.val (.int p0), .val .null, .val (.ref b_1), .val (.int (4 : Int32)), .val (.int (0 : Int32)), .val (.ref w_NODE_CREATED)] [(.int (1 : Int32))]))
  refine Good.back (fun _ k => XS.iloadN X7.here hx rfl (hb hby own_d1_29) rfl k) ?_
  show Good p e below _ (T7.setTop (mkF m 30 #[.val (.int p0), .val .null, .val (.ref b_1), .val (.int (4 : Int32)), .val (.int (0 : Int32)), .val (.ref w_NODE_CREATED)] [(.int p0), (.int (1 : Int32))]))
  refine Good.back (fun _ k => XS.icmpYes X7.here hx rfl (pc0 := 30) (pc' := 36) rfl (hb hby own_d1_30) rfl (feq (by rw [hp]; decide)).2 (by decide) (by decide) k) ?_
  show Good p e below _ (T7.setTop (mkF m 36 #[.val (.int p0), .val .null, .val (.ref b_1), .val (.int (4 : Int32)), .val (.int (0 : Int32)), .val (.ref w_NODE_CREATED)] []))
  refine Good.back (fun _ k => XS.iinc X7.here hx rfl (hb hby own_d1_36) rfl (l' := #[.val (.int p0), .val .null, .val (.ref b_1), .val (.int (4 : Int32)), .val (.int ((0 : Int32) + (1 : Int32))), .val (.ref w_NODE_CREATED)]) rfl k) ?_
  show Good p e below _ (T7.setTop (mkF m 39 #[.val (.int p0), .val .null, .val (.ref b_1), .val (.int (4 : Int32)), .val (.int ((0 : Int32) + (1 : Int32))), .val (.ref w_NODE_CREATED)] []))
  rw [show (((0 : Int32) + (1 : Int32)) : Int32) = (1 : Int32) from by decide]
  show Good p e below _ (T7.setTop (mkF m 39 #[.val (.int p0), .val .null, .val (.ref b_1), .val (.int (4 : Int32)), .val (.int (1 : Int32)), .val (.ref w_NODE_CREATED)] []))
  refine Good.back (fun _ k => XS.goto X7.here hx rfl (pc0 := 39) (pc' := 12) rfl (hb hby own_d1_39) (by decide) (by decide) k) ?_
  show Good p e below _ (T7.setTop (mkF m 12 #[.val (.int p0), .val .null, .val (.ref b_1), .val (.int (4 : Int32)), .val (.int (1 : Int32)), .val (.ref w_NODE_CREATED)] []))
  refine Good.back (fun _ k => XS.iload X7.here hx rfl (hb hby own_d1_12) rfl k) ?_
  show Good p e below _ (T7.setTop (mkF m 14 #[.val (.int p0), .val .null, .val (.ref b_1), .val (.int (4 : Int32)), .val (.int (1 : Int32)), .val (.ref w_NODE_CREATED)] [(.int (1 : Int32))]))
  refine Good.back (fun _ k => XS.iloadN X7.here hx rfl (hb hby own_d1_14) rfl k) ?_
  show Good p e below _ (T7.setTop (mkF m 15 #[.val (.int p0), .val .null, .val (.ref b_1), .val (.int (4 : Int32)), .val (.int (1 : Int32)), .val (.ref w_NODE_CREATED)] [(.int (4 : Int32)), (.int (1 : Int32))]))
  refine Good.back (fun _ k => XS.icmpNo X7.here hx rfl (hb hby own_d1_15) rfl (tlt (by decide : ((1 : Int32) < (4 : Int32)))).2.1 k) ?_
  show Good p e below _ (T7.setTop (mkF m 18 #[.val (.int p0), .val .null, .val (.ref b_1), .val (.int (4 : Int32)), .val (.int (1 : Int32)), .val (.ref w_NODE_CREATED)] []))
  refine Good.back (fun _ k => XS.aloadN X7.here hx rfl (hb hby own_d1_18) rfl rfl k) ?_
  show Good p e below _ (T7.setTop (mkF m 19 #[.val (.int p0), .val .null, .val (.ref b_1), .val (.int (4 : Int32)), .val (.int (1 : Int32)), .val (.ref w_NODE_CREATED)] [(.ref b_1)]))
  refine Good.back (fun _ k => XS.iload X7.here hx rfl (hb hby own_d1_19) rfl k) ?_
  show Good p e below _ (T7.setTop (mkF m 21 #[.val (.int p0), .val .null, .val (.ref b_1), .val (.int (4 : Int32)), .val (.int (1 : Int32)), .val (.ref w_NODE_CREATED)] [(.int (1 : Int32)), (.ref b_1)]))
  have fc8 := o1_1
  obtain ⟨cl8, Ar8, qk8, S8, N8', H8, G8⟩ := fc8
  have hin8 : ¬ ((1 : Int32) < 0 ∨ cl8.slots.size ≤ ((1 : Int32)).toNatClampNeg) := inb_of S8 ⟨by decide, by decide⟩
  have hat8 : cl8.slots[((1 : Int32)).toNatClampNeg]? = some (.ref w_NODE_DELETED) := Has.at H8 hin8 rfl
  refine Good.back (X7.aaload hx (j := (1 : Int32)) (v := (.ref w_NODE_DELETED)) (by rw [e7]; exact Ar8.1) (State.isArrayOf_alike hZ.alike Ar8.2.1) rfl Ar8.2.2 hin8 hat8 (g := (mkF m 21 #[.val (.int p0), .val .null, .val (.ref b_1), .val (.int (4 : Int32)), .val (.int (1 : Int32)), .val (.ref w_NODE_CREATED)] [(.int (1 : Int32)), (.ref b_1)])) rfl rfl (hb hby own_d1_21)) ?_
  show Good p e below _ (T7.setTop (mkF m 22 #[.val (.int p0), .val .null, .val (.ref b_1), .val (.int (4 : Int32)), .val (.int (1 : Int32)), .val (.ref w_NODE_CREATED)] [(.ref w_NODE_DELETED)]))
  refine Good.back (fun _ k => XS.astore X7.here hx rfl (hb hby own_d1_22) rfl rfl (l' := #[.val (.int p0), .val .null, .val (.ref b_1), .val (.int (4 : Int32)), .val (.int (1 : Int32)), .val (.ref w_NODE_DELETED)]) rfl k) ?_
  show Good p e below _ (T7.setTop (mkF m 24 #[.val (.int p0), .val .null, .val (.ref b_1), .val (.int (4 : Int32)), .val (.int (1 : Int32)), .val (.ref w_NODE_DELETED)] []))
  refine Good.back (fun _ k => XS.aload X7.here hx rfl (hb hby own_d1_24) rfl rfl k) ?_
  show Good p e below _ (T7.setTop (mkF m 26 #[.val (.int p0), .val .null, .val (.ref b_1), .val (.int (4 : Int32)), .val (.int (1 : Int32)), .val (.ref w_NODE_DELETED)] [(.ref w_NODE_DELETED)]))
  have f_9 : Fld Z T1.heap w_NODE_DELETED "com/example/vartija/vartija/client/WatchEvent$Type" "code" "I" (.int (2 : Int32)) := Fld.keep F_code_w_NODE_DELETED Kq1 nin0
  obtain ⟨T10, X10, e10, st10⟩ := getF X7 hx hZ hown (host := "") (Or.inl (hw _ (List.mem_of_getElem? (i := 23) rfl))) Via.refl e7 f_9 (g := (mkF m 26 #[.val (.int p0), .val .null, .val (.ref b_1), .val (.int (4 : Int32)), .val (.int (1 : Int32)), .val (.ref w_NODE_DELETED)] [(.ref w_NODE_DELETED)])) rfl rfl (hb hby own_d1_26)
  refine Good.back st10 ?_
  show Good p e below _ (T10.setTop (mkF m 29 #[.val (.int p0), .val .null, .val (.ref b_1), .val (.int (4 : Int32)), .val (.int (1 : Int32)), .val (.ref w_NODE_DELETED)] [(.int (2 : Int32))]))
  refine Good.back (fun _ k => XS.iloadN X10.here hx rfl (hb hby own_d1_29) rfl k) ?_
  show Good p e below _ (T10.setTop (mkF m 30 #[.val (.int p0), .val .null, .val (.ref b_1), .val (.int (4 : Int32)), .val (.int (1 : Int32)), .val (.ref w_NODE_DELETED)] [(.int p0), (.int (2 : Int32))]))
  refine Good.back (fun _ k => XS.icmpNo X10.here hx rfl (hb hby own_d1_30) rfl (teq hp.symm).2 k) ?_
  show Good p e below _ (T10.setTop (mkF m 33 #[.val (.int p0), .val .null, .val (.ref b_1), .val (.int (4 : Int32)), .val (.int (1 : Int32)), .val (.ref w_NODE_DELETED)] []))
  refine Good.back (fun _ k => XS.aload X10.here hx rfl (hb hby own_d1_33) rfl rfl k) ?_
  show Good p e below _ (T10.setTop (mkF m 35 #[.val (.int p0), .val .null, .val (.ref b_1), .val (.int (4 : Int32)), .val (.int (1 : Int32)), .val (.ref w_NODE_DELETED)] [(.ref w_NODE_DELETED)]))
  refine Good.back (fun _ k => XS.astoreN X10.here hx rfl (hb hby own_d1_35) rfl rfl (l' := #[.val (.int p0), .val (.ref w_NODE_DELETED), .val (.ref b_1), .val (.int (4 : Int32)), .val (.int (1 : Int32)), .val (.ref w_NODE_DELETED)]) rfl k) ?_
  show Good p e below _ (T10.setTop (mkF m 36 #[.val (.int p0), .val (.ref w_NODE_DELETED), .val (.ref b_1), .val (.int (4 : Int32)), .val (.int (1 : Int32)), .val (.ref w_NODE_DELETED)] []))
  refine Good.back (fun _ k => XS.iinc X10.here hx rfl (hb hby own_d1_36) rfl (l' := #[.val (.int p0), .val (.ref w_NODE_DELETED), .val (.ref b_1), .val (.int (4 : Int32)), .val (.int ((1 : Int32) + (1 : Int32))), .val (.ref w_NODE_DELETED)]) rfl k) ?_
  show Good p e below _ (T10.setTop (mkF m 39 #[.val (.int p0), .val (.ref w_NODE_DELETED), .val (.ref b_1), .val (.int (4 : Int32)), .val (.int ((1 : Int32) + (1 : Int32))), .val (.ref w_NODE_DELETED)] []))
  rw [show (((1 : Int32) + (1 : Int32)) : Int32) = (2 : Int32) from by decide]
  show Good p e below _ (T10.setTop (mkF m 39 #[.val (.int p0), .val (.ref w_NODE_DELETED), .val (.ref b_1), .val (.int (4 : Int32)), .val (.int (2 : Int32)), .val (.ref w_NODE_DELETED)] []))
  refine Good.back (fun _ k => XS.goto X10.here hx rfl (pc0 := 39) (pc' := 12) rfl (hb hby own_d1_39) (by decide) (by decide) k) ?_
  show Good p e below _ (T10.setTop (mkF m 12 #[.val (.int p0), .val (.ref w_NODE_DELETED), .val (.ref b_1), .val (.int (4 : Int32)), .val (.int (2 : Int32)), .val (.ref w_NODE_DELETED)] []))
  refine Good.back (fun _ k => XS.iload X10.here hx rfl (hb hby own_d1_12) rfl k) ?_
  show Good p e below _ (T10.setTop (mkF m 14 #[.val (.int p0), .val (.ref w_NODE_DELETED), .val (.ref b_1), .val (.int (4 : Int32)), .val (.int (2 : Int32)), .val (.ref w_NODE_DELETED)] [(.int (2 : Int32))]))
  refine Good.back (fun _ k => XS.iloadN X10.here hx rfl (hb hby own_d1_14) rfl k) ?_
  show Good p e below _ (T10.setTop (mkF m 15 #[.val (.int p0), .val (.ref w_NODE_DELETED), .val (.ref b_1), .val (.int (4 : Int32)), .val (.int (2 : Int32)), .val (.ref w_NODE_DELETED)] [(.int (4 : Int32)), (.int (2 : Int32))]))
  refine Good.back (fun _ k => XS.icmpNo X10.here hx rfl (hb hby own_d1_15) rfl (tlt (by decide : ((2 : Int32) < (4 : Int32)))).2.1 k) ?_
  show Good p e below _ (T10.setTop (mkF m 18 #[.val (.int p0), .val (.ref w_NODE_DELETED), .val (.ref b_1), .val (.int (4 : Int32)), .val (.int (2 : Int32)), .val (.ref w_NODE_DELETED)] []))
  refine Good.back (fun _ k => XS.aloadN X10.here hx rfl (hb hby own_d1_18) rfl rfl k) ?_
  show Good p e below _ (T10.setTop (mkF m 19 #[.val (.int p0), .val (.ref w_NODE_DELETED), .val (.ref b_1), .val (.int (4 : Int32)), .val (.int (2 : Int32)), .val (.ref w_NODE_DELETED)] [(.ref b_1)]))
  refine Good.back (fun _ k => XS.iload X10.here hx rfl (hb hby own_d1_19) rfl k) ?_
  show Good p e below _ (T10.setTop (mkF m 21 #[.val (.int p0), .val (.ref w_NODE_DELETED), .val (.ref b_1), .val (.int (4 : Int32)), .val (.int (2 : Int32)), .val (.ref w_NODE_DELETED)] [(.int (2 : Int32)), (.ref b_1)]))
  have fc11 := o1_1
  obtain ⟨cl11, Ar11, qk11, S11, N11', H11, G11⟩ := fc11
  have hin11 : ¬ ((2 : Int32) < 0 ∨ cl11.slots.size ≤ ((2 : Int32)).toNatClampNeg) := inb_of S11 ⟨by decide, by decide⟩
  have hat11 : cl11.slots[((2 : Int32)).toNatClampNeg]? = some (.ref w_NODE_DATA_CHANGED) := Has.at H11 hin11 rfl
  refine Good.back (X10.aaload hx (j := (2 : Int32)) (v := (.ref w_NODE_DATA_CHANGED)) (by rw [e10]; exact Ar11.1) (State.isArrayOf_alike hZ.alike Ar11.2.1) rfl Ar11.2.2 hin11 hat11 (g := (mkF m 21 #[.val (.int p0), .val (.ref w_NODE_DELETED), .val (.ref b_1), .val (.int (4 : Int32)), .val (.int (2 : Int32)), .val (.ref w_NODE_DELETED)] [(.int (2 : Int32)), (.ref b_1)])) rfl rfl (hb hby own_d1_21)) ?_
  show Good p e below _ (T10.setTop (mkF m 22 #[.val (.int p0), .val (.ref w_NODE_DELETED), .val (.ref b_1), .val (.int (4 : Int32)), .val (.int (2 : Int32)), .val (.ref w_NODE_DELETED)] [(.ref w_NODE_DATA_CHANGED)]))
  refine Good.back (fun _ k => XS.astore X10.here hx rfl (hb hby own_d1_22) rfl rfl (l' := #[.val (.int p0), .val (.ref w_NODE_DELETED), .val (.ref b_1), .val (.int (4 : Int32)), .val (.int (2 : Int32)), .val (.ref w_NODE_DATA_CHANGED)]) rfl k) ?_
  show Good p e below _ (T10.setTop (mkF m 24 #[.val (.int p0), .val (.ref w_NODE_DELETED), .val (.ref b_1), .val (.int (4 : Int32)), .val (.int (2 : Int32)), .val (.ref w_NODE_DATA_CHANGED)] []))
  refine Good.back (fun _ k => XS.aload X10.here hx rfl (hb hby own_d1_24) rfl rfl k) ?_
  show Good p e below _ (T10.setTop (mkF m 26 #[.val (.int p0), .val (.ref w_NODE_DELETED), .val (.ref b_1), .val (.int (4 : Int32)), .val (.int (2 : Int32)), .val (.ref w_NODE_DATA_CHANGED)] [(.ref w_NODE_DATA_CHANGED)]))
  have f_12 : Fld Z T1.heap w_NODE_DATA_CHANGED "com/example/vartija/vartija/client/WatchEvent$Type" "code" "I" (.int (3 : Int32)) := Fld.keep F_code_w_NODE_DATA_CHANGED Kq1 nin0
  obtain ⟨T13, X13, e13, st13⟩ := getF X10 hx hZ hown (host := "") (Or.inl (hw _ (List.mem_of_getElem? (i := 23) rfl))) Via.refl e10 f_12 (g := (mkF m 26 #[.val (.int p0), .val (.ref w_NODE_DELETED), .val (.ref b_1), .val (.int (4 : Int32)), .val (.int (2 : Int32)), .val (.ref w_NODE_DATA_CHANGED)] [(.ref w_NODE_DATA_CHANGED)])) rfl rfl (hb hby own_d1_26)
  refine Good.back st13 ?_
  show Good p e below _ (T13.setTop (mkF m 29 #[.val (.int p0), .val (.ref w_NODE_DELETED), .val (.ref b_1), .val (.int (4 : Int32)), .val (.int (2 : Int32)), .val (.ref w_NODE_DATA_CHANGED)] [(.int (3 : Int32))]))
  refine Good.back (fun _ k => XS.iloadN X13.here hx rfl (hb hby own_d1_29) rfl k) ?_
  show Good p e below _ (T13.setTop (mkF m 30 #[.val (.int p0), .val (.ref w_NODE_DELETED), .val (.ref b_1), .val (.int (4 : Int32)), .val (.int (2 : Int32)), .val (.ref w_NODE_DATA_CHANGED)] [(.int p0), (.int (3 : Int32))]))
  refine Good.back (fun _ k => XS.icmpYes X13.here hx rfl (pc0 := 30) (pc' := 36) rfl (hb hby own_d1_30) rfl (feq (by rw [hp]; decide)).2 (by decide) (by decide) k) ?_
  show Good p e below _ (T13.setTop (mkF m 36 #[.val (.int p0), .val (.ref w_NODE_DELETED), .val (.ref b_1), .val (.int (4 : Int32)), .val (.int (2 : Int32)), .val (.ref w_NODE_DATA_CHANGED)] []))
  refine Good.back (fun _ k => XS.iinc X13.here hx rfl (hb hby own_d1_36) rfl (l' := #[.val (.int p0), .val (.ref w_NODE_DELETED), .val (.ref b_1), .val (.int (4 : Int32)), .val (.int ((2 : Int32) + (1 : Int32))), .val (.ref w_NODE_DATA_CHANGED)]) rfl k) ?_
  show Good p e below _ (T13.setTop (mkF m 39 #[.val (.int p0), .val (.ref w_NODE_DELETED), .val (.ref b_1), .val (.int (4 : Int32)), .val (.int ((2 : Int32) + (1 : Int32))), .val (.ref w_NODE_DATA_CHANGED)] []))
  rw [show (((2 : Int32) + (1 : Int32)) : Int32) = (3 : Int32) from by decide]
  show Good p e below _ (T13.setTop (mkF m 39 #[.val (.int p0), .val (.ref w_NODE_DELETED), .val (.ref b_1), .val (.int (4 : Int32)), .val (.int (3 : Int32)), .val (.ref w_NODE_DATA_CHANGED)] []))
  refine Good.back (fun _ k => XS.goto X13.here hx rfl (pc0 := 39) (pc' := 12) rfl (hb hby own_d1_39) (by decide) (by decide) k) ?_
  show Good p e below _ (T13.setTop (mkF m 12 #[.val (.int p0), .val (.ref w_NODE_DELETED), .val (.ref b_1), .val (.int (4 : Int32)), .val (.int (3 : Int32)), .val (.ref w_NODE_DATA_CHANGED)] []))
  refine Good.back (fun _ k => XS.iload X13.here hx rfl (hb hby own_d1_12) rfl k) ?_
  show Good p e below _ (T13.setTop (mkF m 14 #[.val (.int p0), .val (.ref w_NODE_DELETED), .val (.ref b_1), .val (.int (4 : Int32)), .val (.int (3 : Int32)), .val (.ref w_NODE_DATA_CHANGED)] [(.int (3 : Int32))]))
  refine Good.back (fun _ k => XS.iloadN X13.here hx rfl (hb hby own_d1_14) rfl k) ?_
  show Good p e below _ (T13.setTop (mkF m 15 #[.val (.int p0), .val (.ref w_NODE_DELETED), .val (.ref b_1), .val (.int (4 : Int32)), .val (.int (3 : Int32)), .val (.ref w_NODE_DATA_CHANGED)] [(.int (4 : Int32)), (.int (3 : Int32))]))
  refine Good.back (fun _ k => XS.icmpNo X13.here hx rfl (hb hby own_d1_15) rfl (tlt (by decide : ((3 : Int32) < (4 : Int32)))).2.1 k) ?_
  show Good p e below _ (T13.setTop (mkF m 18 #[.val (.int p0), .val (.ref w_NODE_DELETED), .val (.ref b_1), .val (.int (4 : Int32)), .val (.int (3 : Int32)), .val (.ref w_NODE_DATA_CHANGED)] []))
  refine Good.back (fun _ k => XS.aloadN X13.here hx rfl (hb hby own_d1_18) rfl rfl k) ?_
  show Good p e below _ (T13.setTop (mkF m 19 #[.val (.int p0), .val (.ref w_NODE_DELETED), .val (.ref b_1), .val (.int (4 : Int32)), .val (.int (3 : Int32)), .val (.ref w_NODE_DATA_CHANGED)] [(.ref b_1)]))
  refine Good.back (fun _ k => XS.iload X13.here hx rfl (hb hby own_d1_19) rfl k) ?_
  show Good p e below _ (T13.setTop (mkF m 21 #[.val (.int p0), .val (.ref w_NODE_DELETED), .val (.ref b_1), .val (.int (4 : Int32)), .val (.int (3 : Int32)), .val (.ref w_NODE_DATA_CHANGED)] [(.int (3 : Int32)), (.ref b_1)]))
  have fc14 := o1_1
  obtain ⟨cl14, Ar14, qk14, S14, N14', H14, G14⟩ := fc14
  have hin14 : ¬ ((3 : Int32) < 0 ∨ cl14.slots.size ≤ ((3 : Int32)).toNatClampNeg) := inb_of S14 ⟨by decide, by decide⟩
  have hat14 : cl14.slots[((3 : Int32)).toNatClampNeg]? = some (.ref w_NODE_CHILDREN_CHANGED) := Has.at H14 hin14 rfl
  refine Good.back (X13.aaload hx (j := (3 : Int32)) (v := (.ref w_NODE_CHILDREN_CHANGED)) (by rw [e13]; exact Ar14.1) (State.isArrayOf_alike hZ.alike Ar14.2.1) rfl Ar14.2.2 hin14 hat14 (g := (mkF m 21 #[.val (.int p0), .val (.ref w_NODE_DELETED), .val (.ref b_1), .val (.int (4 : Int32)), .val (.int (3 : Int32)), .val (.ref w_NODE_DATA_CHANGED)] [(.int (3 : Int32)), (.ref b_1)])) rfl rfl (hb hby own_d1_21)) ?_
  show Good p e below _ (T13.setTop (mkF m 22 #[.val (.int p0), .val (.ref w_NODE_DELETED), .val (.ref b_1), .val (.int (4 : Int32)), .val (.int (3 : Int32)), .val (.ref w_NODE_DATA_CHANGED)] [(.ref w_NODE_CHILDREN_CHANGED)]))
  refine Good.back (fun _ k => XS.astore X13.here hx rfl (hb hby own_d1_22) rfl rfl (l' := #[.val (.int p0), .val (.ref w_NODE_DELETED), .val (.ref b_1), .val (.int (4 : Int32)), .val (.int (3 : Int32)), .val (.ref w_NODE_CHILDREN_CHANGED)]) rfl k) ?_
  show Good p e below _ (T13.setTop (mkF m 24 #[.val (.int p0), .val (.ref w_NODE_DELETED), .val (.ref b_1), .val (.int (4 : Int32)), .val (.int (3 : Int32)), .val (.ref w_NODE_CHILDREN_CHANGED)] []))
  refine Good.back (fun _ k => XS.aload X13.here hx rfl (hb hby own_d1_24) rfl rfl k) ?_
  show Good p e below _ (T13.setTop (mkF m 26 #[.val (.int p0), .val (.ref w_NODE_DELETED), .val (.ref b_1), .val (.int (4 : Int32)), .val (.int (3 : Int32)), .val (.ref w_NODE_CHILDREN_CHANGED)] [(.ref w_NODE_CHILDREN_CHANGED)]))
  have f_15 : Fld Z T1.heap w_NODE_CHILDREN_CHANGED "com/example/vartija/vartija/client/WatchEvent$Type" "code" "I" (.int (4 : Int32)) := Fld.keep F_code_w_NODE_CHILDREN_CHANGED Kq1 nin0
  obtain ⟨T16, X16, e16, st16⟩ := getF X13 hx hZ hown (host := "") (Or.inl (hw _ (List.mem_of_getElem? (i := 23) rfl))) Via.refl e13 f_15 (g := (mkF m 26 #[.val (.int p0), .val (.ref w_NODE_DELETED), .val (.ref b_1), .val (.int (4 : Int32)), .val (.int (3 : Int32)), .val (.ref w_NODE_CHILDREN_CHANGED)] [(.ref w_NODE_CHILDREN_CHANGED)])) rfl rfl (hb hby own_d1_26)
  refine Good.back st16 ?_
  show Good p e below _ (T16.setTop (mkF m 29 #[.val (.int p0), .val (.ref w_NODE_DELETED), .val (.ref b_1), .val (.int (4 : Int32)), .val (.int (3 : Int32)), .val (.ref w_NODE_CHILDREN_CHANGED)] [(.int (4 : Int32))]))
  refine Good.back (fun _ k => XS.iloadN X16.here hx rfl (hb hby own_d1_29) rfl k) ?_
  show Good p e below _ (T16.setTop (mkF m 30 #[.val (.int p0), .val (.ref w_NODE_DELETED), .val (.ref b_1), .val (.int (4 : Int32)), .val (.int (3 : Int32)), .val (.ref w_NODE_CHILDREN_CHANGED)] [(.int p0), (.int (4 : Int32))]))
  refine Good.back (fun _ k => XS.icmpYes X16.here hx rfl (pc0 := 30) (pc' := 36) rfl (hb hby own_d1_30) rfl (feq (by rw [hp]; decide)).2 (by decide) (by decide) k) ?_
  show Good p e below _ (T16.setTop (mkF m 36 #[.val (.int p0), .val (.ref w_NODE_DELETED), .val (.ref b_1), .val (.int (4 : Int32)), .val (.int (3 : Int32)), .val (.ref w_NODE_CHILDREN_CHANGED)] []))
  refine Good.back (fun _ k => XS.iinc X16.here hx rfl (hb hby own_d1_36) rfl (l' := #[.val (.int p0), .val (.ref w_NODE_DELETED), .val (.ref b_1), .val (.int (4 : Int32)), .val (.int ((3 : Int32) + (1 : Int32))), .val (.ref w_NODE_CHILDREN_CHANGED)]) rfl k) ?_
  show Good p e below _ (T16.setTop (mkF m 39 #[.val (.int p0), .val (.ref w_NODE_DELETED), .val (.ref b_1), .val (.int (4 : Int32)), .val (.int ((3 : Int32) + (1 : Int32))), .val (.ref w_NODE_CHILDREN_CHANGED)] []))
  rw [show (((3 : Int32) + (1 : Int32)) : Int32) = (4 : Int32) from by decide]
  show Good p e below _ (T16.setTop (mkF m 39 #[.val (.int p0), .val (.ref w_NODE_DELETED), .val (.ref b_1), .val (.int (4 : Int32)), .val (.int (4 : Int32)), .val (.ref w_NODE_CHILDREN_CHANGED)] []))
  refine Good.back (fun _ k => XS.goto X16.here hx rfl (pc0 := 39) (pc' := 12) rfl (hb hby own_d1_39) (by decide) (by decide) k) ?_
  show Good p e below _ (T16.setTop (mkF m 12 #[.val (.int p0), .val (.ref w_NODE_DELETED), .val (.ref b_1), .val (.int (4 : Int32)), .val (.int (4 : Int32)), .val (.ref w_NODE_CHILDREN_CHANGED)] []))
  refine Good.back (fun _ k => XS.iload X16.here hx rfl (hb hby own_d1_12) rfl k) ?_
  show Good p e below _ (T16.setTop (mkF m 14 #[.val (.int p0), .val (.ref w_NODE_DELETED), .val (.ref b_1), .val (.int (4 : Int32)), .val (.int (4 : Int32)), .val (.ref w_NODE_CHILDREN_CHANGED)] [(.int (4 : Int32))]))
  refine Good.back (fun _ k => XS.iloadN X16.here hx rfl (hb hby own_d1_14) rfl k) ?_
  show Good p e below _ (T16.setTop (mkF m 15 #[.val (.int p0), .val (.ref w_NODE_DELETED), .val (.ref b_1), .val (.int (4 : Int32)), .val (.int (4 : Int32)), .val (.ref w_NODE_CHILDREN_CHANGED)] [(.int (4 : Int32)), (.int (4 : Int32))]))
  refine Good.back (fun _ k => XS.icmpYes X16.here hx rfl (pc0 := 15) (pc' := 42) rfl (hb hby own_d1_15) rfl (flt (by decide : ¬ ((4 : Int32) < (4 : Int32)))).2.1 (by decide) (by decide) k) ?_
  show Good p e below _ (T16.setTop (mkF m 42 #[.val (.int p0), .val (.ref w_NODE_DELETED), .val (.ref b_1), .val (.int (4 : Int32)), .val (.int (4 : Int32)), .val (.ref w_NODE_CHILDREN_CHANGED)] []))
  refine Good.back (fun _ k => XS.aloadN X16.here hx rfl (hb hby own_d1_42) rfl rfl k) ?_
  show Good p e below _ (T16.setTop (mkF m 43 #[.val (.int p0), .val (.ref w_NODE_DELETED), .val (.ref b_1), .val (.int (4 : Int32)), .val (.int (4 : Int32)), .val (.ref w_NODE_CHILDREN_CHANGED)] [(.ref w_NODE_DELETED)]))
  obtain ⟨fs17, hr17, hrun17, hended17, hW17, hsame17⟩ := X16.leave (v := some (.ref w_NODE_DELETED)) (fun h => by rw [Bd.returns] at h; cases h)
  refine Good.done (retOut X16 hx Bd.returns rfl (Or.inr (Or.inr (Or.inr (Or.inr ⟨rfl, rfl, rfl⟩)))) (hb hby own_d1_43) hr17) hrun17 hended17 ⟨_, _, rfl, ?_, ⟨_, rfl⟩, hW17, hsame17.mono (by decide) (by decide)⟩
  show Q1_1 Z p0 w__VALUES w_NODE_CREATED w_NODE_DELETED w_NODE_DATA_CHANGED w_NODE_CHILDREN_CHANGED kc_w__VALUES h0 n0 _ T16.heap _
  rw [e16]
  exact ⟨rfl, N1, K3⟩
theorem own_ef_1_2 (m : MethodId) (x0 : Int32) : entryFrame m #[(.int x0)] 6 = mkF m 0 #[.val (.int x0), .unset, .unset, .unset, .unset, .unset] [] := by first | (simp [entryFrame, mkF, argsToLocals, Value.category]; done) | rfl
def Q1_2 (Z : State) (p0 : Int32) (w__VALUES : Addr) (w_NODE_CREATED : Addr) (w_NODE_DELETED : Addr) (w_NODE_DATA_CHANGED : Addr) (w_NODE_CHILDREN_CHANGED : Addr) (kc_w__VALUES : ClassId) (h0 : Heap) (n0 : Nat) (v : Option Value) (h : Heap) (L : List Loc) : Prop := v = some (.ref w_NODE_DATA_CHANGED) ∧ Fr n0 L ∧ Keep h0 h []
set_option maxRecDepth 65536 in
set_option maxHeartbeats 40000000 in
theorem rm1_2 (l : Launch) (Z : State) (a0 : Array Value) (hw : ∀ d ∈ tables_1, d.before a0 Z = true) (ws : List Jvm.Cond) (p0 : Int32) (w__VALUES : Addr) (w_NODE_CREATED : Addr) (w_NODE_DELETED : Addr) (w_NODE_DATA_CHANGED : Addr) (w_NODE_CHILDREN_CHANGED : Addr) (kc_w__VALUES : ClassId) (h0 : Heap) (n0 : Nat) (Z0 : n0 ≤ h0.size) (S_w__VALUES : Sta Z h0 "com/example/vartija/vartija/client/WatchEvent$Type" "$VALUES" "[Lcom/example/vartija/vartija/client/WatchEvent$Type;" (.ref w__VALUES)) (E_w__VALUES : Exa Z h0 w__VALUES "[Lcom/example/vartija/vartija/client/WatchEvent$Type;") (S_w_NODE_CREATED : Sta Z h0 "com/example/vartija/vartija/client/WatchEvent$Type" "NODE_CREATED" "Lcom/example/vartija/vartija/client/WatchEvent$Type;" (.ref w_NODE_CREATED)) (E_w_NODE_CREATED : Exa Z h0 w_NODE_CREATED "com/example/vartija/vartija/client/WatchEvent$Type") (S_w_NODE_DELETED : Sta Z h0 "com/example/vartija/vartija/client/WatchEvent$Type" "NODE_DELETED" "Lcom/example/vartija/vartija/client/WatchEvent$Type;" (.ref w_NODE_DELETED)) (E_w_NODE_DELETED : Exa Z h0 w_NODE_DELETED "com/example/vartija/vartija/client/WatchEvent$Type") (S_w_NODE_DATA_CHANGED : Sta Z h0 "com/example/vartija/vartija/client/WatchEvent$Type" "NODE_DATA_CHANGED" "Lcom/example/vartija/vartija/client/WatchEvent$Type;" (.ref w_NODE_DATA_CHANGED)) (E_w_NODE_DATA_CHANGED : Exa Z h0 w_NODE_DATA_CHANGED "com/example/vartija/vartija/client/WatchEvent$Type") (S_w_NODE_CHILDREN_CHANGED : Sta Z h0 "com/example/vartija/vartija/client/WatchEvent$Type" "NODE_CHILDREN_CHANGED" "Lcom/example/vartija/vartija/client/WatchEvent$Type;" (.ref w_NODE_CHILDREN_CHANGED)) (E_w_NODE_CHILDREN_CHANGED : Exa Z h0 w_NODE_CHILDREN_CHANGED "com/example/vartija/vartija/client/WatchEvent$Type") (F_code_w_NODE_CREATED : Fld Z h0 w_NODE_CREATED "com/example/vartija/vartija/client/WatchEvent$Type" "code" "I" (.int (1 : Int32))) (F_code_w_NODE_DELETED : Fld Z h0 w_NODE_DELETED "com/example/vartija/vartija/client/WatchEvent$Type" "code" "I" (.int (2 : Int32))) (F_code_w_NODE_DATA_CHANGED : Fld Z h0 w_NODE_DATA_CHANGED "com/example/vartija/vartija/client/WatchEvent$Type" "code" "I" (.int (3 : Int32))) (F_code_w_NODE_CHILDREN_CHANGED : Fld Z h0 w_NODE_CHILDREN_CHANGED "com/example/vartija/vartija/client/WatchEvent$Type" "code" "I" (.int (4 : Int32))) (V_w__VALUES : Arv Z h0 w__VALUES kc_w__VALUES (.object "com/example/vartija/vartija/client/WatchEvent$Type") (4 : Int32) [(.ref w_NODE_CREATED), (.ref w_NODE_DELETED), (.ref w_NODE_DATA_CHANGED), (.ref w_NODE_CHILDREN_CHANGED)] .null) (hp : p0 = (3 : Int32)) :
    MetFree l (⟨"com/example/vartija/vartija/client/WatchEvent$Type", "of", "(I)Lcom/example/vartija/vartija/client/WatchEvent$Type;"⟩ : MethodName) (head1 (Jvm.Cond.code (⟨"com/example/vartija/vartija/client/WatchEvent$Type", "of", "(I)Lcom/example/vartija/vartija/client/WatchEvent$Type;"⟩ : MethodName) prog_22_method_4_code 6 (some (.object "com/example/vartija/vartija/client/WatchEvent$Type")) :: ws) ({ frames := 2, cells := 1, slots := 4, locals := 25 } : Room)) (fun a U => a = #[(.int p0)] ∧ Z.Warmed39 U.vm ∧ U.heap = h0) (fun _ _ _ _ _ => True) (fun _ U o U' => ∃ v L, o = .returned v ∧ Q1_2 Z p0 w__VALUES w_NODE_CREATED w_NODE_DELETED w_NODE_DATA_CHANGED w_NODE_CHILDREN_CHANGED kc_w__VALUES h0 n0 v U'.heap L ∧ FrameEnd U o U' L ({ frames := 2, cells := 1, slots := 4, locals := 25 } : Room).cells ({ frames := 2, cells := 1, slots := 4, locals := 25 } : Room).slots) := by
  refine MetFree.of_bodySF (plainFor_of_name own_pn0) hisR ?_
  intro p e s m args below meth c s₁ Bd hml0 hP hK
  obtain ⟨rfl, hZ, hh⟩ := hP
  have hx := Bd.exec
  have hby := Bd.bytes
  have hml : c.maxLocals = 6 := hml0
  have hown : s.vm.findClass "com/example/vartija/vartija/client/WatchEvent$Type" = some m.cls := findClass_of_methodNamed Bd.named
  have hnm := (name_of_methodNamed Bd.named Bd.method).1
  have X0 : Stand p l e ({ frames := 2, cells := 1, slots := 4, locals := 25 } : Room) s m #[(.int p0)] below meth c s₁ [] 0 0 := Stand.of_body Bd
  have e0 : s₁.heap = h0 := by rw [← hh, Bd.state]; rfl
  have N0 := Fr.nil n0
  have KR : Keep h0 h0 [] := Keep.refl h0 _
  show Good p e below (fun o U' => ∃ v L, o = .returned v ∧ Q1_2 Z p0 w__VALUES w_NODE_CREATED w_NODE_DELETED w_NODE_DATA_CHANGED w_NODE_CHILDREN_CHANGED kc_w__VALUES h0 n0 v U'.heap L ∧ FrameEnd s o U' L ({ frames := 2, cells := 1, slots := 4, locals := 25 } : Room).cells ({ frames := 2, cells := 1, slots := 4, locals := 25 } : Room).slots) _
  refine Good.back (S' := s₁.setTop (mkF m 0 #[.val (.int p0), .unset, .unset, .unset, .unset, .unset] [])) (fun t k => castTop (own_ef_1_2 m p0) k) ?_
  show Good p e below _ (s₁.setTop (mkF m 0 #[.val (.int p0), .unset, .unset, .unset, .unset, .unset] []))
  refine Good.back (fun _ k => XS.aconstNull X0.here hx rfl (hb hby own_d1_0) k) ?_
  show Good p e below _ (s₁.setTop (mkF m 1 #[.val (.int p0), .unset, .unset, .unset, .unset, .unset] [.null]))
  refine Good.back (fun _ k => XS.astoreN X0.here hx rfl (hb hby own_d1_1) rfl rfl (l' := #[.val (.int p0), .val .null, .unset, .unset, .unset, .unset]) rfl k) ?_
  show Good p e below _ (s₁.setTop (mkF m 2 #[.val (.int p0), .val .null, .unset, .unset, .unset, .unset] []))
  obtain ⟨_, _, ⟨T1, L1, k1, n1⟩, -, X1, ⟨Lc1, hQ1, l1, y1, z1⟩, st1⟩ := Jvm.LawKit.callS X0 hx (y := (⟨"com/example/vartija/vartija/client/WatchEvent$Type", "values", "()[Lcom/example/vartija/vartija/client/WatchEvent$Type;"⟩ : MethodName)) hown (mvT hZ (hw _ (List.mem_of_getElem? (i := 4) rfl))) (mvT hZ (hw _ (List.mem_of_getElem? (i := 5) rfl))) (mvT hZ (hw _ (List.mem_of_getElem? (i := 2) rfl))) (mvT hZ (hw _ (List.mem_of_getElem? (i := 6) rfl))) (by decide) (backOf (W := 0) (rm2 l Z a0 hw []  w__VALUES w_NODE_CREATED w_NODE_DELETED w_NODE_DATA_CHANGED w_NODE_CHILDREN_CHANGED kc_w__VALUES h0 n0 Z0 S_w__VALUES E_w__VALUES S_w_NODE_CREATED E_w_NODE_CREATED S_w_NODE_DELETED E_w_NODE_DELETED S_w_NODE_DATA_CHANGED E_w_NODE_DATA_CHANGED S_w_NODE_CHILDREN_CHANGED E_w_NODE_CHILDREN_CHANGED F_code_w_NODE_CREATED F_code_w_NODE_DELETED F_code_w_NODE_DATA_CHANGED F_code_w_NODE_CHILDREN_CHANGED V_w__VALUES) hZ (hw _ (List.mem_of_getElem? (i := 6) rfl)) (hw _ (List.mem_of_getElem? (i := 2) rfl)) (by decide) (by decide)) (g := (mkF m 2 #[.val (.int p0), .val .null, .unset, .unset, .unset, .unset] [])) rfl (by rw [hml]; rfl) (argsL := []) (rest := []) (lenOf own_pd4 rfl) rfl (by show 2 * 0 + _ ≤ _; exact Nat.le_of_eq rfl) (hb hby own_d1_2) (fun _ _ => ⟨rfl, e0, (by decide : 0 + 1 ≤ _), (by decide : 0 + 4 ≤ _)⟩)
  dsimp only [Pt.U, Pt.locs, Pt.cells, Pt.slots] at X1 l1 y1 z1 st1 hQ1
  subst l1 y1 z1
  obtain ⟨b_1, rfl, N1q, Kq1, o1_0, o1_1⟩ := hQ1
  have N1 := Fr.app N0 N1q
  have Z2 : n0 ≤ T1.heap.size := Nat.le_trans Z0 Kq1.1
  have K3 : Keep h0 T1.heap [] := KR.trans Kq1 all0
  have g_b_1 : n0 ≤ b_1 := Nat.le_trans Z0 o1_0
  have sz_b_1 : h0.size ≤ b_1 := Nat.le_trans KR.1 o1_0
  refine Good.back st1 ?_
  show Good p e below _ (T1.setTop (mkF m 5 #[.val (.int p0), .val .null, .unset, .unset, .unset, .unset] [(.ref b_1)]))
  refine Good.back (fun _ k => XS.astoreN X1.here hx rfl (hb hby own_d1_5) rfl rfl (l' := #[.val (.int p0), .val .null, .val (.ref b_1), .unset, .unset, .unset]) rfl k) ?_
  show Good p e below _ (T1.setTop (mkF m 6 #[.val (.int p0), .val .null, .val (.ref b_1), .unset, .unset, .unset] []))
  refine Good.back (fun _ k => XS.aloadN X1.here hx rfl (hb hby own_d1_6) rfl rfl k) ?_
  show Good p e below _ (T1.setTop (mkF m 7 #[.val (.int p0), .val .null, .val (.ref b_1), .unset, .unset, .unset] [(.ref b_1)]))
  have fc4 := o1_1
  obtain ⟨cl4, Ar4, qk4, S4, N4', H4, G4⟩ := fc4
  refine Good.back (X1.arraylength hx (Ar4.1) (State.isArrayOf_alike hZ.alike Ar4.2.1) (g := (mkF m 7 #[.val (.int p0), .val .null, .val (.ref b_1), .unset, .unset, .unset] [(.ref b_1)])) rfl rfl (hb hby own_d1_7)) ?_
  rw [len_of S4 N4']
  show Good p e below _ (T1.setTop (mkF m 8 #[.val (.int p0), .val .null, .val (.ref b_1), .unset, .unset, .unset] [(.int (4 : Int32))]))
  refine Good.back (fun _ k => XS.istoreN X1.here hx rfl (hb hby own_d1_8) rfl (l' := #[.val (.int p0), .val .null, .val (.ref b_1), .val (.int (4 : Int32)), .unset, .unset]) rfl k) ?_
  show Good p e below _ (T1.setTop (mkF m 9 #[.val (.int p0), .val .null, .val (.ref b_1), .val (.int (4 : Int32)), .unset, .unset] []))
  refine Good.back (fun _ k => XS.iconst X1.here hx rfl (hb hby own_d1_9) k) ?_
  show Good p e below _ (T1.setTop (mkF m 10 #[.val (.int p0), .val .null, .val (.ref b_1), .val (.int (4 : Int32)), .unset, .unset] [(.int (0 : Int32))]))
  refine Good.back (fun _ k => XS.istore X1.here hx rfl (hb hby own_d1_10) rfl (l' := #[.val (.int p0), .val .null, .val (.ref b_1), .val (.int (4 : Int32)), .val (.int (0 : Int32)), .unset]) rfl k) ?_
  show Good p e below _ (T1.setTop (mkF m 12 #[.val (.int p0), .val .null, .val (.ref b_1), .val (.int (4 : Int32)), .val (.int (0 : Int32)), .unset] []))
  refine Good.back (fun _ k => XS.iload X1.here hx rfl (hb hby own_d1_12) rfl k) ?_
  show Good p e below _ (T1.setTop (mkF m 14 #[.val (.int p0), .val .null, .val (.ref b_1), .val (.int (4 : Int32)), .val (.int (0 : Int32)), .unset] [(.int (0 : Int32))]))
  refine Good.back (fun _ k => XS.iloadN X1.here hx rfl (hb hby own_d1_14) rfl k) ?_
  show Good p e below _ (T1.setTop (mkF m 15 #[.val (.int p0), .val .null, .val (.ref b_1), .val (.int (4 : Int32)), .val (.int (0 : Int32)), .unset] [(.int (4 : Int32)), (.int (0 : Int32))]))
  refine Good.back (fun _ k => XS.icmpNo X1.here hx rfl (hb hby own_d1_15) rfl (tlt (by decide : ((0 : Int32) < (4 : Int32)))).2.1 k) ?_
  show Good p e below _ (T1.setTop (mkF m 18 #[.val (.int p0), .val .null, .val (.ref b_1), .val (.int (4 : Int32)), .val (.int (0 : Int32)), .unset] []))
  refine Good.back (fun _ k => XS.aloadN X1.here hx rfl (hb hby own_d1_18) rfl rfl k) ?_
  show Good p e below _ (T1.setTop (mkF m 19 #[.val (.int p0), .val .null, .val (.ref b_1), .val (.int (4 : Int32)), .val (.int (0 : Int32)), .unset] [(.ref b_1)]))
  refine Good.back (fun _ k => XS.iload X1.here hx rfl (hb hby own_d1_19) rfl k) ?_
  show Good p e below _ (T1.setTop (mkF m 21 #[.val (.int p0), .val .null, .val (.ref b_1), .val (.int (4 : Int32)), .val (.int (0 : Int32)), .unset] [(.int (0 : Int32)), (.ref b_1)]))
  have fc5 := o1_1
  obtain ⟨cl5, Ar5, qk5, S5, N5', H5, G5⟩ := fc5
  have hin5 : ¬ ((0 : Int32) < 0 ∨ cl5.slots.size ≤ ((0 : Int32)).toNatClampNeg) := inb_of S5 ⟨by decide, by decide⟩
  have hat5 : cl5.slots[((0 : Int32)).toNatClampNeg]? = some (.ref w_NODE_CREATED) := Has.at H5 hin5 rfl
  refine Good.back (X1.aaload hx (j := (0 : Int32)) (v := (.ref w_NODE_CREATED)) (Ar5.1) (State.isArrayOf_alike hZ.alike Ar5.2.1) rfl Ar5.2.2 hin5 hat5 (g := (mkF m 21 #[.val (.int p0), .val .null, .val (.ref b_1), .val (.int (4 : Int32)), .val (.int (0 : Int32)), .unset] [(.int (0 : Int32)), (.ref b_1)])) rfl rfl (hb hby own_d1_21)) ?_
  show Good p e below _ (T1.setTop (mkF m 22 #[.val (.int p0), .val .null, .val (.ref b_1), .val (.int (4 : Int32)), .val (.int (0 : Int32)), .unset] [(.ref w_NODE_CREATED)]))
  refine Good.back (fun _ k => XS.astore X1.here hx rfl (hb hby own_d1_22) rfl rfl (l' := #[.val (.int p0), .val .null, .val (.ref b_1), .val (.int (4 : Int32)), .val (.int (0 : Int32)), .val (.ref w_NODE_CREATED)]) rfl k) ?_
  show Good p e below _ (T1.setTop (mkF m 24 #[.val (.int p0), .val .null, .val (.ref b_1), .val (.int (4 : Int32)), .val (.int (0 : Int32)), .val (.ref w_NODE_CREATED)] []))
  refine Good.back (fun _ k => XS.aload X1.here hx rfl (hb hby own_d1_24) rfl rfl k) ?_
  show Good p e below _ (T1.setTop (mkF m 26 #[.val (.int p0), .val .null, .val (.ref b_1), .val (.int (4 : Int32)), .val (.int (0 : Int32)), .val (.ref w_NODE_CREATED)] [(.ref w_NODE_CREATED)]))
  have f_6 : Fld Z T1.heap w_NODE_CREATED "com/example/vartija/vartija/client/WatchEvent$Type" "code" "I" (.int (1 : Int32)) := Fld.keep F_code_w_NODE_CREATED Kq1 nin0
  obtain ⟨T7, X7, e7, st7⟩ := getF X1 hx hZ hown (host := "") (Or.inl (hw _ (List.mem_of_getElem? (i := 23) rfl))) Via.refl rfl f_6 (g := (mkF m 26 #[.val (.int p0), .val .null, .val (.ref b_1), .val (.int (4 : Int32)), .val (.int (0 : Int32)), .val (.ref w_NODE_CREATED)] [(.ref w_NODE_CREATED)])) rfl rfl (hb hby own_d1_26)
  refine Good.back st7 ?_
  show Good p e below _ (T7.setTop (mkF m 29 #[.val (.int p0), .val .null, .val (.ref b_1), .val (.int (4 : Int32)), .val (.int (0 : Int32)), .val (.ref w_NODE_CREATED)] [(.int (1 : Int32))]))
  refine Good.back (fun _ k => XS.iloadN X7.here hx rfl (hb hby own_d1_29) rfl k) ?_
  show Good p e below _ (T7.setTop (mkF m 30 #[.val (.int p0), .val .null, .val (.ref b_1), .val (.int (4 : Int32)), .val (.int (0 : Int32)), .val (.ref w_NODE_CREATED)] [(.int p0), (.int (1 : Int32))]))
  refine Good.back (fun _ k => XS.icmpYes X7.here hx rfl (pc0 := 30) (pc' := 36) rfl (hb hby own_d1_30) rfl (feq (by rw [hp]; decide)).2 (by decide) (by decide) k) ?_
  show Good p e below _ (T7.setTop (mkF m 36 #[.val (.int p0), .val .null, .val (.ref b_1), .val (.int (4 : Int32)), .val (.int (0 : Int32)), .val (.ref w_NODE_CREATED)] []))
  refine Good.back (fun _ k => XS.iinc X7.here hx rfl (hb hby own_d1_36) rfl (l' := #[.val (.int p0), .val .null, .val (.ref b_1), .val (.int (4 : Int32)), .val (.int ((0 : Int32) + (1 : Int32))), .val (.ref w_NODE_CREATED)]) rfl k) ?_
  show Good p e below _ (T7.setTop (mkF m 39 #[.val (.int p0), .val .null, .val (.ref b_1), .val (.int (4 : Int32)), .val (.int ((0 : Int32) + (1 : Int32))), .val (.ref w_NODE_CREATED)] []))
  rw [show (((0 : Int32) + (1 : Int32)) : Int32) = (1 : Int32) from by decide]
  show Good p e below _ (T7.setTop (mkF m 39 #[.val (.int p0), .val .null, .val (.ref b_1), .val (.int (4 : Int32)), .val (.int (1 : Int32)), .val (.ref w_NODE_CREATED)] []))
  refine Good.back (fun _ k => XS.goto X7.here hx rfl (pc0 := 39) (pc' := 12) rfl (hb hby own_d1_39) (by decide) (by decide) k) ?_
  show Good p e below _ (T7.setTop (mkF m 12 #[.val (.int p0), .val .null, .val (.ref b_1), .val (.int (4 : Int32)), .val (.int (1 : Int32)), .val (.ref w_NODE_CREATED)] []))
  refine Good.back (fun _ k => XS.iload X7.here hx rfl (hb hby own_d1_12) rfl k) ?_
  show Good p e below _ (T7.setTop (mkF m 14 #[.val (.int p0), .val .null, .val (.ref b_1), .val (.int (4 : Int32)), .val (.int (1 : Int32)), .val (.ref w_NODE_CREATED)] [(.int (1 : Int32))]))
  refine Good.back (fun _ k => XS.iloadN X7.here hx rfl (hb hby own_d1_14) rfl k) ?_
  show Good p e below _ (T7.setTop (mkF m 15 #[.val (.int p0), .val .null, .val (.ref b_1), .val (.int (4 : Int32)), .val (.int (1 : Int32)), .val (.ref w_NODE_CREATED)] [(.int (4 : Int32)), (.int (1 : Int32))]))
  refine Good.back (fun _ k => XS.icmpNo X7.here hx rfl (hb hby own_d1_15) rfl (tlt (by decide : ((1 : Int32) < (4 : Int32)))).2.1 k) ?_
  show Good p e below _ (T7.setTop (mkF m 18 #[.val (.int p0), .val .null, .val (.ref b_1), .val (.int (4 : Int32)), .val (.int (1 : Int32)), .val (.ref w_NODE_CREATED)] []))
  refine Good.back (fun _ k => XS.aloadN X7.here hx rfl (hb hby own_d1_18) rfl rfl k) ?_
  show Good p e below _ (T7.setTop (mkF m 19 #[.val (.int p0), .val .null, .val (.ref b_1), .val (.int (4 : Int32)), .val (.int (1 : Int32)), .val (.ref w_NODE_CREATED)] [(.ref b_1)]))
  refine Good.back (fun _ k => XS.iload X7.here hx rfl (hb hby own_d1_19) rfl k) ?_
  show Good p e below _ (T7.setTop (mkF m 21 #[.val (.int p0), .val .null, .val (.ref b_1), .val (.int (4 : Int32)), .val (.int (1 : Int32)), .val (.ref w_NODE_CREATED)] [(.int (1 : Int32)), (.ref b_1)]))
  have fc8 := o1_1
  obtain ⟨cl8, Ar8, qk8, S8, N8', H8, G8⟩ := fc8
  have hin8 : ¬ ((1 : Int32) < 0 ∨ cl8.slots.size ≤ ((1 : Int32)).toNatClampNeg) := inb_of S8 ⟨by decide, by decide⟩
  have hat8 : cl8.slots[((1 : Int32)).toNatClampNeg]? = some (.ref w_NODE_DELETED) := Has.at H8 hin8 rfl
  refine Good.back (X7.aaload hx (j := (1 : Int32)) (v := (.ref w_NODE_DELETED)) (by rw [e7]; exact Ar8.1) (State.isArrayOf_alike hZ.alike Ar8.2.1) rfl Ar8.2.2 hin8 hat8 (g := (mkF m 21 #[.val (.int p0), .val .null, .val (.ref b_1), .val (.int (4 : Int32)), .val (.int (1 : Int32)), .val (.ref w_NODE_CREATED)] [(.int (1 : Int32)), (.ref b_1)])) rfl rfl (hb hby own_d1_21)) ?_
  show Good p e below _ (T7.setTop (mkF m 22 #[.val (.int p0), .val .null, .val (.ref b_1), .val (.int (4 : Int32)), .val (.int (1 : Int32)), .val (.ref w_NODE_CREATED)] [(.ref w_NODE_DELETED)]))
  refine Good.back (fun _ k => XS.astore X7.here hx rfl (hb hby own_d1_22) rfl rfl (l' := #[.val (.int p0), .val .null, .val (.ref b_1), .val (.int (4 : Int32)), .val (.int (1 : Int32)), .val (.ref w_NODE_DELETED)]) rfl k) ?_
  show Good p e below _ (T7.setTop (mkF m 24 #[.val (.int p0), .val .null, .val (.ref b_1), .val (.int (4 : Int32)), .val (.int (1 : Int32)), .val (.ref w_NODE_DELETED)] []))
  refine Good.back (fun _ k => XS.aload X7.here hx rfl (hb hby own_d1_24) rfl rfl k) ?_
  show Good p e below _ (T7.setTop (mkF m 26 #[.val (.int p0), .val .null, .val (.ref b_1), .val (.int (4 : Int32)), .val (.int (1 : Int32)), .val (.ref w_NODE_DELETED)] [(.ref w_NODE_DELETED)]))
  have f_9 : Fld Z T1.heap w_NODE_DELETED "com/example/vartija/vartija/client/WatchEvent$Type" "code" "I" (.int (2 : Int32)) := Fld.keep F_code_w_NODE_DELETED Kq1 nin0
  obtain ⟨T10, X10, e10, st10⟩ := getF X7 hx hZ hown (host := "") (Or.inl (hw _ (List.mem_of_getElem? (i := 23) rfl))) Via.refl e7 f_9 (g := (mkF m 26 #[.val (.int p0), .val .null, .val (.ref b_1), .val (.int (4 : Int32)), .val (.int (1 : Int32)), .val (.ref w_NODE_DELETED)] [(.ref w_NODE_DELETED)])) rfl rfl (hb hby own_d1_26)
  refine Good.back st10 ?_
  show Good p e below _ (T10.setTop (mkF m 29 #[.val (.int p0), .val .null, .val (.ref b_1), .val (.int (4 : Int32)), .val (.int (1 : Int32)), .val (.ref w_NODE_DELETED)] [(.int (2 : Int32))]))
  refine Good.back (fun _ k => XS.iloadN X10.here hx rfl (hb hby own_d1_29) rfl k) ?_
  show Good p e below _ (T10.setTop (mkF m 30 #[.val (.int p0), .val .null, .val (.ref b_1), .val (.int (4 : Int32)), .val (.int (1 : Int32)), .val (.ref w_NODE_DELETED)] [(.int p0), (.int (2 : Int32))]))
  refine Good.back (fun _ k => XS.icmpYes X10.here hx rfl (pc0 := 30) (pc' := 36) rfl (hb hby own_d1_30) rfl (feq (by rw [hp]; decide)).2 (by decide) (by decide) k) ?_
  show Good p e below _ (T10.setTop (mkF m 36 #[.val (.int p0), .val .null, .val (.ref b_1), .val (.int (4 : Int32)), .val (.int (1 : Int32)), .val (.ref w_NODE_DELETED)] []))
  refine Good.back (fun _ k => XS.iinc X10.here hx rfl (hb hby own_d1_36) rfl (l' := #[.val (.int p0), .val .null, .val (.ref b_1), .val (.int (4 : Int32)), .val (.int ((1 : Int32) + (1 : Int32))), .val (.ref w_NODE_DELETED)]) rfl k) ?_
  show Good p e below _ (T10.setTop (mkF m 39 #[.val (.int p0), .val .null, .val (.ref b_1), .val (.int (4 : Int32)), .val (.int ((1 : Int32) + (1 : Int32))), .val (.ref w_NODE_DELETED)] []))
  rw [show (((1 : Int32) + (1 : Int32)) : Int32) = (2 : Int32) from by decide]
  show Good p e below _ (T10.setTop (mkF m 39 #[.val (.int p0), .val .null, .val (.ref b_1), .val (.int (4 : Int32)), .val (.int (2 : Int32)), .val (.ref w_NODE_DELETED)] []))
  refine Good.back (fun _ k => XS.goto X10.here hx rfl (pc0 := 39) (pc' := 12) rfl (hb hby own_d1_39) (by decide) (by decide) k) ?_
  show Good p e below _ (T10.setTop (mkF m 12 #[.val (.int p0), .val .null, .val (.ref b_1), .val (.int (4 : Int32)), .val (.int (2 : Int32)), .val (.ref w_NODE_DELETED)] []))
  refine Good.back (fun _ k => XS.iload X10.here hx rfl (hb hby own_d1_12) rfl k) ?_
  show Good p e below _ (T10.setTop (mkF m 14 #[.val (.int p0), .val .null, .val (.ref b_1), .val (.int (4 : Int32)), .val (.int (2 : Int32)), .val (.ref w_NODE_DELETED)] [(.int (2 : Int32))]))
  refine Good.back (fun _ k => XS.iloadN X10.here hx rfl (hb hby own_d1_14) rfl k) ?_
  show Good p e below _ (T10.setTop (mkF m 15 #[.val (.int p0), .val .null, .val (.ref b_1), .val (.int (4 : Int32)), .val (.int (2 : Int32)), .val (.ref w_NODE_DELETED)] [(.int (4 : Int32)), (.int (2 : Int32))]))
  refine Good.back (fun _ k => XS.icmpNo X10.here hx rfl (hb hby own_d1_15) rfl (tlt (by decide : ((2 : Int32) < (4 : Int32)))).2.1 k) ?_
  show Good p e below _ (T10.setTop (mkF m 18 #[.val (.int p0), .val .null, .val (.ref b_1), .val (.int (4 : Int32)), .val (.int (2 : Int32)), .val (.ref w_NODE_DELETED)] []))
  refine Good.back (fun _ k => XS.aloadN X10.here hx rfl (hb hby own_d1_18) rfl rfl k) ?_
  show Good p e below _ (T10.setTop (mkF m 19 #[.val (.int p0), .val .null, .val (.ref b_1), .val (.int (4 : Int32)), .val (.int (2 : Int32)), .val (.ref w_NODE_DELETED)] [(.ref b_1)]))
  refine Good.back (fun _ k => XS.iload X10.here hx rfl (hb hby own_d1_19) rfl k) ?_
  show Good p e below _ (T10.setTop (mkF m 21 #[.val (.int p0), .val .null, .val (.ref b_1), .val (.int (4 : Int32)), .val (.int (2 : Int32)), .val (.ref w_NODE_DELETED)] [(.int (2 : Int32)), (.ref b_1)]))
  have fc11 := o1_1
  obtain ⟨cl11, Ar11, qk11, S11, N11', H11, G11⟩ := fc11
  have hin11 : ¬ ((2 : Int32) < 0 ∨ cl11.slots.size ≤ ((2 : Int32)).toNatClampNeg) := inb_of S11 ⟨by decide, by decide⟩
  have hat11 : cl11.slots[((2 : Int32)).toNatClampNeg]? = some (.ref w_NODE_DATA_CHANGED) := Has.at H11 hin11 rfl
  refine Good.back (X10.aaload hx (j := (2 : Int32)) (v := (.ref w_NODE_DATA_CHANGED)) (by rw [e10]; exact Ar11.1) (State.isArrayOf_alike hZ.alike Ar11.2.1) rfl Ar11.2.2 hin11 hat11 (g := (mkF m 21 #[.val (.int p0), .val .null, .val (.ref b_1), .val (.int (4 : Int32)), .val (.int (2 : Int32)), .val (.ref w_NODE_DELETED)] [(.int (2 : Int32)), (.ref b_1)])) rfl rfl (hb hby own_d1_21)) ?_
  show Good p e below _ (T10.setTop (mkF m 22 #[.val (.int p0), .val .null, .val (.ref b_1), .val (.int (4 : Int32)), .val (.int (2 : Int32)), .val (.ref w_NODE_DELETED)] [(.ref w_NODE_DATA_CHANGED)]))
  refine Good.back (fun _ k => XS.astore X10.here hx rfl (hb hby own_d1_22) rfl rfl (l' := #[.val (.int p0), .val .null, .val (.ref b_1), .val (.int (4 : Int32)), .val (.int (2 : Int32)), .val (.ref w_NODE_DATA_CHANGED)]) rfl k) ?_
  show Good p e below _ (T10.setTop (mkF m 24 #[.val (.int p0), .val .null, .val (.ref b_1), .val (.int (4 : Int32)), .val (.int (2 : Int32)), .val (.ref w_NODE_DATA_CHANGED)] []))
  refine Good.back (fun _ k => XS.aload X10.here hx rfl (hb hby own_d1_24) rfl rfl k) ?_
  show Good p e below _ (T10.setTop (mkF m 26 #[.val (.int p0), .val .null, .val (.ref b_1), .val (.int (4 : Int32)), .val (.int (2 : Int32)), .val (.ref w_NODE_DATA_CHANGED)] [(.ref w_NODE_DATA_CHANGED)]))
  have f_12 : Fld Z T1.heap w_NODE_DATA_CHANGED "com/example/vartija/vartija/client/WatchEvent$Type" "code" "I" (.int (3 : Int32)) := Fld.keep F_code_w_NODE_DATA_CHANGED Kq1 nin0
  obtain ⟨T13, X13, e13, st13⟩ := getF X10 hx hZ hown (host := "") (Or.inl (hw _ (List.mem_of_getElem? (i := 23) rfl))) Via.refl e10 f_12 (g := (mkF m 26 #[.val (.int p0), .val .null, .val (.ref b_1), .val (.int (4 : Int32)), .val (.int (2 : Int32)), .val (.ref w_NODE_DATA_CHANGED)] [(.ref w_NODE_DATA_CHANGED)])) rfl rfl (hb hby own_d1_26)
  refine Good.back st13 ?_
  show Good p e below _ (T13.setTop (mkF m 29 #[.val (.int p0), .val .null, .val (.ref b_1), .val (.int (4 : Int32)), .val (.int (2 : Int32)), .val (.ref w_NODE_DATA_CHANGED)] [(.int (3 : Int32))]))
  refine Good.back (fun _ k => XS.iloadN X13.here hx rfl (hb hby own_d1_29) rfl k) ?_
  show Good p e below _ (T13.setTop (mkF m 30 #[.val (.int p0), .val .null, .val (.ref b_1), .val (.int (4 : Int32)), .val (.int (2 : Int32)), .val (.ref w_NODE_DATA_CHANGED)] [(.int p0), (.int (3 : Int32))]))
  refine Good.back (fun _ k => XS.icmpNo X13.here hx rfl (hb hby own_d1_30) rfl (teq hp.symm).2 k) ?_
  show Good p e below _ (T13.setTop (mkF m 33 #[.val (.int p0), .val .null, .val (.ref b_1), .val (.int (4 : Int32)), .val (.int (2 : Int32)), .val (.ref w_NODE_DATA_CHANGED)] []))
  refine Good.back (fun _ k => XS.aload X13.here hx rfl (hb hby own_d1_33) rfl rfl k) ?_
  show Good p e below _ (T13.setTop (mkF m 35 #[.val (.int p0), .val .null, .val (.ref b_1), .val (.int (4 : Int32)), .val (.int (2 : Int32)), .val (.ref w_NODE_DATA_CHANGED)] [(.ref w_NODE_DATA_CHANGED)]))
  refine Good.back (fun _ k => XS.astoreN X13.here hx rfl (hb hby own_d1_35) rfl rfl (l' := #[.val (.int p0), .val (.ref w_NODE_DATA_CHANGED), .val (.ref b_1), .val (.int (4 : Int32)), .val (.int (2 : Int32)), .val (.ref w_NODE_DATA_CHANGED)]) rfl k) ?_
  show Good p e below _ (T13.setTop (mkF m 36 #[.val (.int p0), .val (.ref w_NODE_DATA_CHANGED), .val (.ref b_1), .val (.int (4 : Int32)), .val (.int (2 : Int32)), .val (.ref w_NODE_DATA_CHANGED)] []))
  refine Good.back (fun _ k => XS.iinc X13.here hx rfl (hb hby own_d1_36) rfl (l' := #[.val (.int p0), .val (.ref w_NODE_DATA_CHANGED), .val (.ref b_1), .val (.int (4 : Int32)), .val (.int ((2 : Int32) + (1 : Int32))), .val (.ref w_NODE_DATA_CHANGED)]) rfl k) ?_
  show Good p e below _ (T13.setTop (mkF m 39 #[.val (.int p0), .val (.ref w_NODE_DATA_CHANGED), .val (.ref b_1), .val (.int (4 : Int32)), .val (.int ((2 : Int32) + (1 : Int32))), .val (.ref w_NODE_DATA_CHANGED)] []))
  rw [show (((2 : Int32) + (1 : Int32)) : Int32) = (3 : Int32) from by decide]
  show Good p e below _ (T13.setTop (mkF m 39 #[.val (.int p0), .val (.ref w_NODE_DATA_CHANGED), .val (.ref b_1), .val (.int (4 : Int32)), .val (.int (3 : Int32)), .val (.ref w_NODE_DATA_CHANGED)] []))
  refine Good.back (fun _ k => XS.goto X13.here hx rfl (pc0 := 39) (pc' := 12) rfl (hb hby own_d1_39) (by decide) (by decide) k) ?_
  show Good p e below _ (T13.setTop (mkF m 12 #[.val (.int p0), .val (.ref w_NODE_DATA_CHANGED), .val (.ref b_1), .val (.int (4 : Int32)), .val (.int (3 : Int32)), .val (.ref w_NODE_DATA_CHANGED)] []))
  refine Good.back (fun _ k => XS.iload X13.here hx rfl (hb hby own_d1_12) rfl k) ?_
  show Good p e below _ (T13.setTop (mkF m 14 #[.val (.int p0), .val (.ref w_NODE_DATA_CHANGED), .val (.ref b_1), .val (.int (4 : Int32)), .val (.int (3 : Int32)), .val (.ref w_NODE_DATA_CHANGED)] [(.int (3 : Int32))]))
  refine Good.back (fun _ k => XS.iloadN X13.here hx rfl (hb hby own_d1_14) rfl k) ?_
  show Good p e below _ (T13.setTop (mkF m 15 #[.val (.int p0), .val (.ref w_NODE_DATA_CHANGED), .val (.ref b_1), .val (.int (4 : Int32)), .val (.int (3 : Int32)), .val (.ref w_NODE_DATA_CHANGED)] [(.int (4 : Int32)), (.int (3 : Int32))]))
  refine Good.back (fun _ k => XS.icmpNo X13.here hx rfl (hb hby own_d1_15) rfl (tlt (by decide : ((3 : Int32) < (4 : Int32)))).2.1 k) ?_
  show Good p e below _ (T13.setTop (mkF m 18 #[.val (.int p0), .val (.ref w_NODE_DATA_CHANGED), .val (.ref b_1), .val (.int (4 : Int32)), .val (.int (3 : Int32)), .val (.ref w_NODE_DATA_CHANGED)] []))
  refine Good.back (fun _ k => XS.aloadN X13.here hx rfl (hb hby own_d1_18) rfl rfl k) ?_
  show Good p e below _ (T13.setTop (mkF m 19 #[.val (.int p0), .val (.ref w_NODE_DATA_CHANGED), .val (.ref b_1), .val (.int (4 : Int32)), .val (.int (3 : Int32)), .val (.ref w_NODE_DATA_CHANGED)] [(.ref b_1)]))
  refine Good.back (fun _ k => XS.iload X13.here hx rfl (hb hby own_d1_19) rfl k) ?_
  show Good p e below _ (T13.setTop (mkF m 21 #[.val (.int p0), .val (.ref w_NODE_DATA_CHANGED), .val (.ref b_1), .val (.int (4 : Int32)), .val (.int (3 : Int32)), .val (.ref w_NODE_DATA_CHANGED)] [(.int (3 : Int32)), (.ref b_1)]))
  have fc14 := o1_1
  obtain ⟨cl14, Ar14, qk14, S14, N14', H14, G14⟩ := fc14
  have hin14 : ¬ ((3 : Int32) < 0 ∨ cl14.slots.size ≤ ((3 : Int32)).toNatClampNeg) := inb_of S14 ⟨by decide, by decide⟩
  have hat14 : cl14.slots[((3 : Int32)).toNatClampNeg]? = some (.ref w_NODE_CHILDREN_CHANGED) := Has.at H14 hin14 rfl
  refine Good.back (X13.aaload hx (j := (3 : Int32)) (v := (.ref w_NODE_CHILDREN_CHANGED)) (by rw [e13]; exact Ar14.1) (State.isArrayOf_alike hZ.alike Ar14.2.1) rfl Ar14.2.2 hin14 hat14 (g := (mkF m 21 #[.val (.int p0), .val (.ref w_NODE_DATA_CHANGED), .val (.ref b_1), .val (.int (4 : Int32)), .val (.int (3 : Int32)), .val (.ref w_NODE_DATA_CHANGED)] [(.int (3 : Int32)), (.ref b_1)])) rfl rfl (hb hby own_d1_21)) ?_
  show Good p e below _ (T13.setTop (mkF m 22 #[.val (.int p0), .val (.ref w_NODE_DATA_CHANGED), .val (.ref b_1), .val (.int (4 : Int32)), .val (.int (3 : Int32)), .val (.ref w_NODE_DATA_CHANGED)] [(.ref w_NODE_CHILDREN_CHANGED)]))
  refine Good.back (fun _ k => XS.astore X13.here hx rfl (hb hby own_d1_22) rfl rfl (l' := #[.val (.int p0), .val (.ref w_NODE_DATA_CHANGED), .val (.ref b_1), .val (.int (4 : Int32)), .val (.int (3 : Int32)), .val (.ref w_NODE_CHILDREN_CHANGED)]) rfl k) ?_
  show Good p e below _ (T13.setTop (mkF m 24 #[.val (.int p0), .val (.ref w_NODE_DATA_CHANGED), .val (.ref b_1), .val (.int (4 : Int32)), .val (.int (3 : Int32)), .val (.ref w_NODE_CHILDREN_CHANGED)] []))
  refine Good.back (fun _ k => XS.aload X13.here hx rfl (hb hby own_d1_24) rfl rfl k) ?_
  show Good p e below _ (T13.setTop (mkF m 26 #[.val (.int p0), .val (.ref w_NODE_DATA_CHANGED), .val (.ref b_1), .val (.int (4 : Int32)), .val (.int (3 : Int32)), .val (.ref w_NODE_CHILDREN_CHANGED)] [(.ref w_NODE_CHILDREN_CHANGED)]))
  have f_15 : Fld Z T1.heap w_NODE_CHILDREN_CHANGED "com/example/vartija/vartija/client/WatchEvent$Type" "code" "I" (.int (4 : Int32)) := Fld.keep F_code_w_NODE_CHILDREN_CHANGED Kq1 nin0
  obtain ⟨T16, X16, e16, st16⟩ := getF X13 hx hZ hown (host := "") (Or.inl (hw _ (List.mem_of_getElem? (i := 23) rfl))) Via.refl e13 f_15 (g := (mkF m 26 #[.val (.int p0), .val (.ref w_NODE_DATA_CHANGED), .val (.ref b_1), .val (.int (4 : Int32)), .val (.int (3 : Int32)), .val (.ref w_NODE_CHILDREN_CHANGED)] [(.ref w_NODE_CHILDREN_CHANGED)])) rfl rfl (hb hby own_d1_26)
  refine Good.back st16 ?_
  show Good p e below _ (T16.setTop (mkF m 29 #[.val (.int p0), .val (.ref w_NODE_DATA_CHANGED), .val (.ref b_1), .val (.int (4 : Int32)), .val (.int (3 : Int32)), .val (.ref w_NODE_CHILDREN_CHANGED)] [(.int (4 : Int32))]))
  refine Good.back (fun _ k => XS.iloadN X16.here hx rfl (hb hby own_d1_29) rfl k) ?_
  show Good p e below _ (T16.setTop (mkF m 30 #[.val (.int p0), .val (.ref w_NODE_DATA_CHANGED), .val (.ref b_1), .val (.int (4 : Int32)), .val (.int (3 : Int32)), .val (.ref w_NODE_CHILDREN_CHANGED)] [(.int p0), (.int (4 : Int32))]))
  refine Good.back (fun _ k => XS.icmpYes X16.here hx rfl (pc0 := 30) (pc' := 36) rfl (hb hby own_d1_30) rfl (feq (by rw [hp]; decide)).2 (by decide) (by decide) k) ?_
  show Good p e below _ (T16.setTop (mkF m 36 #[.val (.int p0), .val (.ref w_NODE_DATA_CHANGED), .val (.ref b_1), .val (.int (4 : Int32)), .val (.int (3 : Int32)), .val (.ref w_NODE_CHILDREN_CHANGED)] []))
  refine Good.back (fun _ k => XS.iinc X16.here hx rfl (hb hby own_d1_36) rfl (l' := #[.val (.int p0), .val (.ref w_NODE_DATA_CHANGED), .val (.ref b_1), .val (.int (4 : Int32)), .val (.int ((3 : Int32) + (1 : Int32))), .val (.ref w_NODE_CHILDREN_CHANGED)]) rfl k) ?_
  show Good p e below _ (T16.setTop (mkF m 39 #[.val (.int p0), .val (.ref w_NODE_DATA_CHANGED), .val (.ref b_1), .val (.int (4 : Int32)), .val (.int ((3 : Int32) + (1 : Int32))), .val (.ref w_NODE_CHILDREN_CHANGED)] []))
  rw [show (((3 : Int32) + (1 : Int32)) : Int32) = (4 : Int32) from by decide]
  show Good p e below _ (T16.setTop (mkF m 39 #[.val (.int p0), .val (.ref w_NODE_DATA_CHANGED), .val (.ref b_1), .val (.int (4 : Int32)), .val (.int (4 : Int32)), .val (.ref w_NODE_CHILDREN_CHANGED)] []))
  refine Good.back (fun _ k => XS.goto X16.here hx rfl (pc0 := 39) (pc' := 12) rfl (hb hby own_d1_39) (by decide) (by decide) k) ?_
  show Good p e below _ (T16.setTop (mkF m 12 #[.val (.int p0), .val (.ref w_NODE_DATA_CHANGED), .val (.ref b_1), .val (.int (4 : Int32)), .val (.int (4 : Int32)), .val (.ref w_NODE_CHILDREN_CHANGED)] []))
  refine Good.back (fun _ k => XS.iload X16.here hx rfl (hb hby own_d1_12) rfl k) ?_
  show Good p e below _ (T16.setTop (mkF m 14 #[.val (.int p0), .val (.ref w_NODE_DATA_CHANGED), .val (.ref b_1), .val (.int (4 : Int32)), .val (.int (4 : Int32)), .val (.ref w_NODE_CHILDREN_CHANGED)] [(.int (4 : Int32))]))
  refine Good.back (fun _ k => XS.iloadN X16.here hx rfl (hb hby own_d1_14) rfl k) ?_
  show Good p e below _ (T16.setTop (mkF m 15 #[.val (.int p0), .val (.ref w_NODE_DATA_CHANGED), .val (.ref b_1), .val (.int (4 : Int32)), .val (.int (4 : Int32)), .val (.ref w_NODE_CHILDREN_CHANGED)] [(.int (4 : Int32)), (.int (4 : Int32))]))
  refine Good.back (fun _ k => XS.icmpYes X16.here hx rfl (pc0 := 15) (pc' := 42) rfl (hb hby own_d1_15) rfl (flt (by decide : ¬ ((4 : Int32) < (4 : Int32)))).2.1 (by decide) (by decide) k) ?_
  show Good p e below _ (T16.setTop (mkF m 42 #[.val (.int p0), .val (.ref w_NODE_DATA_CHANGED), .val (.ref b_1), .val (.int (4 : Int32)), .val (.int (4 : Int32)), .val (.ref w_NODE_CHILDREN_CHANGED)] []))
  refine Good.back (fun _ k => XS.aloadN X16.here hx rfl (hb hby own_d1_42) rfl rfl k) ?_
  show Good p e below _ (T16.setTop (mkF m 43 #[.val (.int p0), .val (.ref w_NODE_DATA_CHANGED), .val (.ref b_1), .val (.int (4 : Int32)), .val (.int (4 : Int32)), .val (.ref w_NODE_CHILDREN_CHANGED)] [(.ref w_NODE_DATA_CHANGED)]))
  obtain ⟨fs17, hr17, hrun17, hended17, hW17, hsame17⟩ := X16.leave (v := some (.ref w_NODE_DATA_CHANGED)) (fun h => by rw [Bd.returns] at h; cases h)
  refine Good.done (retOut X16 hx Bd.returns rfl (Or.inr (Or.inr (Or.inr (Or.inr ⟨rfl, rfl, rfl⟩)))) (hb hby own_d1_43) hr17) hrun17 hended17 ⟨_, _, rfl, ?_, ⟨_, rfl⟩, hW17, hsame17.mono (by decide) (by decide)⟩
  show Q1_2 Z p0 w__VALUES w_NODE_CREATED w_NODE_DELETED w_NODE_DATA_CHANGED w_NODE_CHILDREN_CHANGED kc_w__VALUES h0 n0 _ T16.heap _
  rw [e16]
  exact ⟨rfl, N1, K3⟩
theorem own_ef_1_3 (m : MethodId) (x0 : Int32) : entryFrame m #[(.int x0)] 6 = mkF m 0 #[.val (.int x0), .unset, .unset, .unset, .unset, .unset] [] := by first | (simp [entryFrame, mkF, argsToLocals, Value.category]; done) | rfl
def Q1_3 (Z : State) (p0 : Int32) (w__VALUES : Addr) (w_NODE_CREATED : Addr) (w_NODE_DELETED : Addr) (w_NODE_DATA_CHANGED : Addr) (w_NODE_CHILDREN_CHANGED : Addr) (kc_w__VALUES : ClassId) (h0 : Heap) (n0 : Nat) (v : Option Value) (h : Heap) (L : List Loc) : Prop := v = some (.ref w_NODE_CHILDREN_CHANGED) ∧ Fr n0 L ∧ Keep h0 h []
set_option maxRecDepth 65536 in
set_option maxHeartbeats 40000000 in
theorem rm1_3 (l : Launch) (Z : State) (a0 : Array Value) (hw : ∀ d ∈ tables_1, d.before a0 Z = true) (ws : List Jvm.Cond) (p0 : Int32) (w__VALUES : Addr) (w_NODE_CREATED : Addr) (w_NODE_DELETED : Addr) (w_NODE_DATA_CHANGED : Addr) (w_NODE_CHILDREN_CHANGED : Addr) (kc_w__VALUES : ClassId) (h0 : Heap) (n0 : Nat) (Z0 : n0 ≤ h0.size) (S_w__VALUES : Sta Z h0 "com/example/vartija/vartija/client/WatchEvent$Type" "$VALUES" "[Lcom/example/vartija/vartija/client/WatchEvent$Type;" (.ref w__VALUES)) (E_w__VALUES : Exa Z h0 w__VALUES "[Lcom/example/vartija/vartija/client/WatchEvent$Type;") (S_w_NODE_CREATED : Sta Z h0 "com/example/vartija/vartija/client/WatchEvent$Type" "NODE_CREATED" "Lcom/example/vartija/vartija/client/WatchEvent$Type;" (.ref w_NODE_CREATED)) (E_w_NODE_CREATED : Exa Z h0 w_NODE_CREATED "com/example/vartija/vartija/client/WatchEvent$Type") (S_w_NODE_DELETED : Sta Z h0 "com/example/vartija/vartija/client/WatchEvent$Type" "NODE_DELETED" "Lcom/example/vartija/vartija/client/WatchEvent$Type;" (.ref w_NODE_DELETED)) (E_w_NODE_DELETED : Exa Z h0 w_NODE_DELETED "com/example/vartija/vartija/client/WatchEvent$Type") (S_w_NODE_DATA_CHANGED : Sta Z h0 "com/example/vartija/vartija/client/WatchEvent$Type" "NODE_DATA_CHANGED" "Lcom/example/vartija/vartija/client/WatchEvent$Type;" (.ref w_NODE_DATA_CHANGED)) (E_w_NODE_DATA_CHANGED : Exa Z h0 w_NODE_DATA_CHANGED "com/example/vartija/vartija/client/WatchEvent$Type") (S_w_NODE_CHILDREN_CHANGED : Sta Z h0 "com/example/vartija/vartija/client/WatchEvent$Type" "NODE_CHILDREN_CHANGED" "Lcom/example/vartija/vartija/client/WatchEvent$Type;" (.ref w_NODE_CHILDREN_CHANGED)) (E_w_NODE_CHILDREN_CHANGED : Exa Z h0 w_NODE_CHILDREN_CHANGED "com/example/vartija/vartija/client/WatchEvent$Type") (F_code_w_NODE_CREATED : Fld Z h0 w_NODE_CREATED "com/example/vartija/vartija/client/WatchEvent$Type" "code" "I" (.int (1 : Int32))) (F_code_w_NODE_DELETED : Fld Z h0 w_NODE_DELETED "com/example/vartija/vartija/client/WatchEvent$Type" "code" "I" (.int (2 : Int32))) (F_code_w_NODE_DATA_CHANGED : Fld Z h0 w_NODE_DATA_CHANGED "com/example/vartija/vartija/client/WatchEvent$Type" "code" "I" (.int (3 : Int32))) (F_code_w_NODE_CHILDREN_CHANGED : Fld Z h0 w_NODE_CHILDREN_CHANGED "com/example/vartija/vartija/client/WatchEvent$Type" "code" "I" (.int (4 : Int32))) (V_w__VALUES : Arv Z h0 w__VALUES kc_w__VALUES (.object "com/example/vartija/vartija/client/WatchEvent$Type") (4 : Int32) [(.ref w_NODE_CREATED), (.ref w_NODE_DELETED), (.ref w_NODE_DATA_CHANGED), (.ref w_NODE_CHILDREN_CHANGED)] .null) (hp : p0 = (4 : Int32)) :
    MetFree l (⟨"com/example/vartija/vartija/client/WatchEvent$Type", "of", "(I)Lcom/example/vartija/vartija/client/WatchEvent$Type;"⟩ : MethodName) (head1 (Jvm.Cond.code (⟨"com/example/vartija/vartija/client/WatchEvent$Type", "of", "(I)Lcom/example/vartija/vartija/client/WatchEvent$Type;"⟩ : MethodName) prog_22_method_4_code 6 (some (.object "com/example/vartija/vartija/client/WatchEvent$Type")) :: ws) ({ frames := 2, cells := 1, slots := 4, locals := 25 } : Room)) (fun a U => a = #[(.int p0)] ∧ Z.Warmed39 U.vm ∧ U.heap = h0) (fun _ _ _ _ _ => True) (fun _ U o U' => ∃ v L, o = .returned v ∧ Q1_3 Z p0 w__VALUES w_NODE_CREATED w_NODE_DELETED w_NODE_DATA_CHANGED w_NODE_CHILDREN_CHANGED kc_w__VALUES h0 n0 v U'.heap L ∧ FrameEnd U o U' L ({ frames := 2, cells := 1, slots := 4, locals := 25 } : Room).cells ({ frames := 2, cells := 1, slots := 4, locals := 25 } : Room).slots) := by
  refine MetFree.of_bodySF (plainFor_of_name own_pn0) hisR ?_
  intro p e s m args below meth c s₁ Bd hml0 hP hK
  obtain ⟨rfl, hZ, hh⟩ := hP
  have hx := Bd.exec
  have hby := Bd.bytes
  have hml : c.maxLocals = 6 := hml0
  have hown : s.vm.findClass "com/example/vartija/vartija/client/WatchEvent$Type" = some m.cls := findClass_of_methodNamed Bd.named
  have hnm := (name_of_methodNamed Bd.named Bd.method).1
  have X0 : Stand p l e ({ frames := 2, cells := 1, slots := 4, locals := 25 } : Room) s m #[(.int p0)] below meth c s₁ [] 0 0 := Stand.of_body Bd
  have e0 : s₁.heap = h0 := by rw [← hh, Bd.state]; rfl
  have N0 := Fr.nil n0
  have KR : Keep h0 h0 [] := Keep.refl h0 _
  show Good p e below (fun o U' => ∃ v L, o = .returned v ∧ Q1_3 Z p0 w__VALUES w_NODE_CREATED w_NODE_DELETED w_NODE_DATA_CHANGED w_NODE_CHILDREN_CHANGED kc_w__VALUES h0 n0 v U'.heap L ∧ FrameEnd s o U' L ({ frames := 2, cells := 1, slots := 4, locals := 25 } : Room).cells ({ frames := 2, cells := 1, slots := 4, locals := 25 } : Room).slots) _
  refine Good.back (S' := s₁.setTop (mkF m 0 #[.val (.int p0), .unset, .unset, .unset, .unset, .unset] [])) (fun t k => castTop (own_ef_1_3 m p0) k) ?_
  show Good p e below _ (s₁.setTop (mkF m 0 #[.val (.int p0), .unset, .unset, .unset, .unset, .unset] []))
  refine Good.back (fun _ k => XS.aconstNull X0.here hx rfl (hb hby own_d1_0) k) ?_
  show Good p e below _ (s₁.setTop (mkF m 1 #[.val (.int p0), .unset, .unset, .unset, .unset, .unset] [.null]))
  refine Good.back (fun _ k => XS.astoreN X0.here hx rfl (hb hby own_d1_1) rfl rfl (l' := #[.val (.int p0), .val .null, .unset, .unset, .unset, .unset]) rfl k) ?_
  show Good p e below _ (s₁.setTop (mkF m 2 #[.val (.int p0), .val .null, .unset, .unset, .unset, .unset] []))
  obtain ⟨_, _, ⟨T1, L1, k1, n1⟩, -, X1, ⟨Lc1, hQ1, l1, y1, z1⟩, st1⟩ := Jvm.LawKit.callS X0 hx (y := (⟨"com/example/vartija/vartija/client/WatchEvent$Type", "values", "()[Lcom/example/vartija/vartija/client/WatchEvent$Type;"⟩ : MethodName)) hown (mvT hZ (hw _ (List.mem_of_getElem? (i := 4) rfl))) (mvT hZ (hw _ (List.mem_of_getElem? (i := 5) rfl))) (mvT hZ (hw _ (List.mem_of_getElem? (i := 2) rfl))) (mvT hZ (hw _ (List.mem_of_getElem? (i := 6) rfl))) (by decide) (backOf (W := 0) (rm2 l Z a0 hw []  w__VALUES w_NODE_CREATED w_NODE_DELETED w_NODE_DATA_CHANGED w_NODE_CHILDREN_CHANGED kc_w__VALUES h0 n0 Z0 S_w__VALUES E_w__VALUES S_w_NODE_CREATED E_w_NODE_CREATED S_w_NODE_DELETED E_w_NODE_DELETED S_w_NODE_DATA_CHANGED E_w_NODE_DATA_CHANGED S_w_NODE_CHILDREN_CHANGED E_w_NODE_CHILDREN_CHANGED F_code_w_NODE_CREATED F_code_w_NODE_DELETED F_code_w_NODE_DATA_CHANGED F_code_w_NODE_CHILDREN_CHANGED V_w__VALUES) hZ (hw _ (List.mem_of_getElem? (i := 6) rfl)) (hw _ (List.mem_of_getElem? (i := 2) rfl)) (by decide) (by decide)) (g := (mkF m 2 #[.val (.int p0), .val .null, .unset, .unset, .unset, .unset] [])) rfl (by rw [hml]; rfl) (argsL := []) (rest := []) (lenOf own_pd4 rfl) rfl (by show 2 * 0 + _ ≤ _; exact Nat.le_of_eq rfl) (hb hby own_d1_2) (fun _ _ => ⟨rfl, e0, (by decide : 0 + 1 ≤ _), (by decide : 0 + 4 ≤ _)⟩)
  dsimp only [Pt.U, Pt.locs, Pt.cells, Pt.slots] at X1 l1 y1 z1 st1 hQ1
  subst l1 y1 z1
  obtain ⟨b_1, rfl, N1q, Kq1, o1_0, o1_1⟩ := hQ1
  have N1 := Fr.app N0 N1q
  have Z2 : n0 ≤ T1.heap.size := Nat.le_trans Z0 Kq1.1
  have K3 : Keep h0 T1.heap [] := KR.trans Kq1 all0
  have g_b_1 : n0 ≤ b_1 := Nat.le_trans Z0 o1_0
  have sz_b_1 : h0.size ≤ b_1 := Nat.le_trans KR.1 o1_0
  refine Good.back st1 ?_
  show Good p e below _ (T1.setTop (mkF m 5 #[.val (.int p0), .val .null, .unset, .unset, .unset, .unset] [(.ref b_1)]))
  refine Good.back (fun _ k => XS.astoreN X1.here hx rfl (hb hby own_d1_5) rfl rfl (l' := #[.val (.int p0), .val .null, .val (.ref b_1), .unset, .unset, .unset]) rfl k) ?_
  show Good p e below _ (T1.setTop (mkF m 6 #[.val (.int p0), .val .null, .val (.ref b_1), .unset, .unset, .unset] []))
  refine Good.back (fun _ k => XS.aloadN X1.here hx rfl (hb hby own_d1_6) rfl rfl k) ?_
  show Good p e below _ (T1.setTop (mkF m 7 #[.val (.int p0), .val .null, .val (.ref b_1), .unset, .unset, .unset] [(.ref b_1)]))
  have fc4 := o1_1
  obtain ⟨cl4, Ar4, qk4, S4, N4', H4, G4⟩ := fc4
  refine Good.back (X1.arraylength hx (Ar4.1) (State.isArrayOf_alike hZ.alike Ar4.2.1) (g := (mkF m 7 #[.val (.int p0), .val .null, .val (.ref b_1), .unset, .unset, .unset] [(.ref b_1)])) rfl rfl (hb hby own_d1_7)) ?_
  rw [len_of S4 N4']
  show Good p e below _ (T1.setTop (mkF m 8 #[.val (.int p0), .val .null, .val (.ref b_1), .unset, .unset, .unset] [(.int (4 : Int32))]))
  refine Good.back (fun _ k => XS.istoreN X1.here hx rfl (hb hby own_d1_8) rfl (l' := #[.val (.int p0), .val .null, .val (.ref b_1), .val (.int (4 : Int32)), .unset, .unset]) rfl k) ?_
  show Good p e below _ (T1.setTop (mkF m 9 #[.val (.int p0), .val .null, .val (.ref b_1), .val (.int (4 : Int32)), .unset, .unset] []))
  refine Good.back (fun _ k => XS.iconst X1.here hx rfl (hb hby own_d1_9) k) ?_
  show Good p e below _ (T1.setTop (mkF m 10 #[.val (.int p0), .val .null, .val (.ref b_1), .val (.int (4 : Int32)), .unset, .unset] [(.int (0 : Int32))]))
  refine Good.back (fun _ k => XS.istore X1.here hx rfl (hb hby own_d1_10) rfl (l' := #[.val (.int p0), .val .null, .val (.ref b_1), .val (.int (4 : Int32)), .val (.int (0 : Int32)), .unset]) rfl k) ?_
  show Good p e below _ (T1.setTop (mkF m 12 #[.val (.int p0), .val .null, .val (.ref b_1), .val (.int (4 : Int32)), .val (.int (0 : Int32)), .unset] []))
  refine Good.back (fun _ k => XS.iload X1.here hx rfl (hb hby own_d1_12) rfl k) ?_
  show Good p e below _ (T1.setTop (mkF m 14 #[.val (.int p0), .val .null, .val (.ref b_1), .val (.int (4 : Int32)), .val (.int (0 : Int32)), .unset] [(.int (0 : Int32))]))
  refine Good.back (fun _ k => XS.iloadN X1.here hx rfl (hb hby own_d1_14) rfl k) ?_
  show Good p e below _ (T1.setTop (mkF m 15 #[.val (.int p0), .val .null, .val (.ref b_1), .val (.int (4 : Int32)), .val (.int (0 : Int32)), .unset] [(.int (4 : Int32)), (.int (0 : Int32))]))
  refine Good.back (fun _ k => XS.icmpNo X1.here hx rfl (hb hby own_d1_15) rfl (tlt (by decide : ((0 : Int32) < (4 : Int32)))).2.1 k) ?_
  show Good p e below _ (T1.setTop (mkF m 18 #[.val (.int p0), .val .null, .val (.ref b_1), .val (.int (4 : Int32)), .val (.int (0 : Int32)), .unset] []))
  refine Good.back (fun _ k => XS.aloadN X1.here hx rfl (hb hby own_d1_18) rfl rfl k) ?_
  show Good p e below _ (T1.setTop (mkF m 19 #[.val (.int p0), .val .null, .val (.ref b_1), .val (.int (4 : Int32)), .val (.int (0 : Int32)), .unset] [(.ref b_1)]))
  refine Good.back (fun _ k => XS.iload X1.here hx rfl (hb hby own_d1_19) rfl k) ?_
  show Good p e below _ (T1.setTop (mkF m 21 #[.val (.int p0), .val .null, .val (.ref b_1), .val (.int (4 : Int32)), .val (.int (0 : Int32)), .unset] [(.int (0 : Int32)), (.ref b_1)]))
  have fc5 := o1_1
  obtain ⟨cl5, Ar5, qk5, S5, N5', H5, G5⟩ := fc5
  have hin5 : ¬ ((0 : Int32) < 0 ∨ cl5.slots.size ≤ ((0 : Int32)).toNatClampNeg) := inb_of S5 ⟨by decide, by decide⟩
  have hat5 : cl5.slots[((0 : Int32)).toNatClampNeg]? = some (.ref w_NODE_CREATED) := Has.at H5 hin5 rfl
  refine Good.back (X1.aaload hx (j := (0 : Int32)) (v := (.ref w_NODE_CREATED)) (Ar5.1) (State.isArrayOf_alike hZ.alike Ar5.2.1) rfl Ar5.2.2 hin5 hat5 (g := (mkF m 21 #[.val (.int p0), .val .null, .val (.ref b_1), .val (.int (4 : Int32)), .val (.int (0 : Int32)), .unset] [(.int (0 : Int32)), (.ref b_1)])) rfl rfl (hb hby own_d1_21)) ?_
  show Good p e below _ (T1.setTop (mkF m 22 #[.val (.int p0), .val .null, .val (.ref b_1), .val (.int (4 : Int32)), .val (.int (0 : Int32)), .unset] [(.ref w_NODE_CREATED)]))
  refine Good.back (fun _ k => XS.astore X1.here hx rfl (hb hby own_d1_22) rfl rfl (l' := #[.val (.int p0), .val .null, .val (.ref b_1), .val (.int (4 : Int32)), .val (.int (0 : Int32)), .val (.ref w_NODE_CREATED)]) rfl k) ?_
  show Good p e below _ (T1.setTop (mkF m 24 #[.val (.int p0), .val .null, .val (.ref b_1), .val (.int (4 : Int32)), .val (.int (0 : Int32)), .val (.ref w_NODE_CREATED)] []))
  refine Good.back (fun _ k => XS.aload X1.here hx rfl (hb hby own_d1_24) rfl rfl k) ?_
  show Good p e below _ (T1.setTop (mkF m 26 #[.val (.int p0), .val .null, .val (.ref b_1), .val (.int (4 : Int32)), .val (.int (0 : Int32)), .val (.ref w_NODE_CREATED)] [(.ref w_NODE_CREATED)]))
  have f_6 : Fld Z T1.heap w_NODE_CREATED "com/example/vartija/vartija/client/WatchEvent$Type" "code" "I" (.int (1 : Int32)) := Fld.keep F_code_w_NODE_CREATED Kq1 nin0
  obtain ⟨T7, X7, e7, st7⟩ := getF X1 hx hZ hown (host := "") (Or.inl (hw _ (List.mem_of_getElem? (i := 23) rfl))) Via.refl rfl f_6 (g := (mkF m 26 #[.val (.int p0), .val .null, .val (.ref b_1), .val (.int (4 : Int32)), .val (.int (0 : Int32)), .val (.ref w_NODE_CREATED)] [(.ref w_NODE_CREATED)])) rfl rfl (hb hby own_d1_26)
  refine Good.back st7 ?_
  show Good p e below _ (T7.setTop (mkF m 29 #[.val (.int p0), .val .null, .val (.ref b_1), .val (.int (4 : Int32)), .val (.int (0 : Int32)), .val (.ref w_NODE_CREATED)] [(.int (1 : Int32))]))
  refine Good.back (fun _ k => XS.iloadN X7.here hx rfl (hb hby own_d1_29) rfl k) ?_
  show Good p e below _ (T7.setTop (mkF m 30 #[.val (.int p0), .val .null, .val (.ref b_1), .val (.int (4 : Int32)), .val (.int (0 : Int32)), .val (.ref w_NODE_CREATED)] [(.int p0), (.int (1 : Int32))]))
  refine Good.back (fun _ k => XS.icmpYes X7.here hx rfl (pc0 := 30) (pc' := 36) rfl (hb hby own_d1_30) rfl (feq (by rw [hp]; decide)).2 (by decide) (by decide) k) ?_
  show Good p e below _ (T7.setTop (mkF m 36 #[.val (.int p0), .val .null, .val (.ref b_1), .val (.int (4 : Int32)), .val (.int (0 : Int32)), .val (.ref w_NODE_CREATED)] []))
  refine Good.back (fun _ k => XS.iinc X7.here hx rfl (hb hby own_d1_36) rfl (l' := #[.val (.int p0), .val .null, .val (.ref b_1), .val (.int (4 : Int32)), .val (.int ((0 : Int32) + (1 : Int32))), .val (.ref w_NODE_CREATED)]) rfl k) ?_
  show Good p e below _ (T7.setTop (mkF m 39 #[.val (.int p0), .val .null, .val (.ref b_1), .val (.int (4 : Int32)), .val (.int ((0 : Int32) + (1 : Int32))), .val (.ref w_NODE_CREATED)] []))
  rw [show (((0 : Int32) + (1 : Int32)) : Int32) = (1 : Int32) from by decide]
  show Good p e below _ (T7.setTop (mkF m 39 #[.val (.int p0), .val .null, .val (.ref b_1), .val (.int (4 : Int32)), .val (.int (1 : Int32)), .val (.ref w_NODE_CREATED)] []))
  refine Good.back (fun _ k => XS.goto X7.here hx rfl (pc0 := 39) (pc' := 12) rfl (hb hby own_d1_39) (by decide) (by decide) k) ?_
  show Good p e below _ (T7.setTop (mkF m 12 #[.val (.int p0), .val .null, .val (.ref b_1), .val (.int (4 : Int32)), .val (.int (1 : Int32)), .val (.ref w_NODE_CREATED)] []))
  refine Good.back (fun _ k => XS.iload X7.here hx rfl (hb hby own_d1_12) rfl k) ?_
  show Good p e below _ (T7.setTop (mkF m 14 #[.val (.int p0), .val .null, .val (.ref b_1), .val (.int (4 : Int32)), .val (.int (1 : Int32)), .val (.ref w_NODE_CREATED)] [(.int (1 : Int32))]))
  refine Good.back (fun _ k => XS.iloadN X7.here hx rfl (hb hby own_d1_14) rfl k) ?_
  show Good p e below _ (T7.setTop (mkF m 15 #[.val (.int p0), .val .null, .val (.ref b_1), .val (.int (4 : Int32)), .val (.int (1 : Int32)), .val (.ref w_NODE_CREATED)] [(.int (4 : Int32)), (.int (1 : Int32))]))
  refine Good.back (fun _ k => XS.icmpNo X7.here hx rfl (hb hby own_d1_15) rfl (tlt (by decide : ((1 : Int32) < (4 : Int32)))).2.1 k) ?_
  show Good p e below _ (T7.setTop (mkF m 18 #[.val (.int p0), .val .null, .val (.ref b_1), .val (.int (4 : Int32)), .val (.int (1 : Int32)), .val (.ref w_NODE_CREATED)] []))
  refine Good.back (fun _ k => XS.aloadN X7.here hx rfl (hb hby own_d1_18) rfl rfl k) ?_
  show Good p e below _ (T7.setTop (mkF m 19 #[.val (.int p0), .val .null, .val (.ref b_1), .val (.int (4 : Int32)), .val (.int (1 : Int32)), .val (.ref w_NODE_CREATED)] [(.ref b_1)]))
  refine Good.back (fun _ k => XS.iload X7.here hx rfl (hb hby own_d1_19) rfl k) ?_
  show Good p e below _ (T7.setTop (mkF m 21 #[.val (.int p0), .val .null, .val (.ref b_1), .val (.int (4 : Int32)), .val (.int (1 : Int32)), .val (.ref w_NODE_CREATED)] [(.int (1 : Int32)), (.ref b_1)]))
  have fc8 := o1_1
  obtain ⟨cl8, Ar8, qk8, S8, N8', H8, G8⟩ := fc8
  have hin8 : ¬ ((1 : Int32) < 0 ∨ cl8.slots.size ≤ ((1 : Int32)).toNatClampNeg) := inb_of S8 ⟨by decide, by decide⟩
  have hat8 : cl8.slots[((1 : Int32)).toNatClampNeg]? = some (.ref w_NODE_DELETED) := Has.at H8 hin8 rfl
  refine Good.back (X7.aaload hx (j := (1 : Int32)) (v := (.ref w_NODE_DELETED)) (by rw [e7]; exact Ar8.1) (State.isArrayOf_alike hZ.alike Ar8.2.1) rfl Ar8.2.2 hin8 hat8 (g := (mkF m 21 #[.val (.int p0), .val .null, .val (.ref b_1), .val (.int (4 : Int32)), .val (.int (1 : Int32)), .val (.ref w_NODE_CREATED)] [(.int (1 : Int32)), (.ref b_1)])) rfl rfl (hb hby own_d1_21)) ?_
  show Good p e below _ (T7.setTop (mkF m 22 #[.val (.int p0), .val .null, .val (.ref b_1), .val (.int (4 : Int32)), .val (.int (1 : Int32)), .val (.ref w_NODE_CREATED)] [(.ref w_NODE_DELETED)]))
  refine Good.back (fun _ k => XS.astore X7.here hx rfl (hb hby own_d1_22) rfl rfl (l' := #[.val (.int p0), .val .null, .val (.ref b_1), .val (.int (4 : Int32)), .val (.int (1 : Int32)), .val (.ref w_NODE_DELETED)]) rfl k) ?_
  show Good p e below _ (T7.setTop (mkF m 24 #[.val (.int p0), .val .null, .val (.ref b_1), .val (.int (4 : Int32)), .val (.int (1 : Int32)), .val (.ref w_NODE_DELETED)] []))
  refine Good.back (fun _ k => XS.aload X7.here hx rfl (hb hby own_d1_24) rfl rfl k) ?_
  show Good p e below _ (T7.setTop (mkF m 26 #[.val (.int p0), .val .null, .val (.ref b_1), .val (.int (4 : Int32)), .val (.int (1 : Int32)), .val (.ref w_NODE_DELETED)] [(.ref w_NODE_DELETED)]))
  have f_9 : Fld Z T1.heap w_NODE_DELETED "com/example/vartija/vartija/client/WatchEvent$Type" "code" "I" (.int (2 : Int32)) := Fld.keep F_code_w_NODE_DELETED Kq1 nin0
  obtain ⟨T10, X10, e10, st10⟩ := getF X7 hx hZ hown (host := "") (Or.inl (hw _ (List.mem_of_getElem? (i := 23) rfl))) Via.refl e7 f_9 (g := (mkF m 26 #[.val (.int p0), .val .null, .val (.ref b_1), .val (.int (4 : Int32)), .val (.int (1 : Int32)), .val (.ref w_NODE_DELETED)] [(.ref w_NODE_DELETED)])) rfl rfl (hb hby own_d1_26)
  refine Good.back st10 ?_
  show Good p e below _ (T10.setTop (mkF m 29 #[.val (.int p0), .val .null, .val (.ref b_1), .val (.int (4 : Int32)), .val (.int (1 : Int32)), .val (.ref w_NODE_DELETED)] [(.int (2 : Int32))]))
  refine Good.back (fun _ k => XS.iloadN X10.here hx rfl (hb hby own_d1_29) rfl k) ?_
  show Good p e below _ (T10.setTop (mkF m 30 #[.val (.int p0), .val .null, .val (.ref b_1), .val (.int (4 : Int32)), .val (.int (1 : Int32)), .val (.ref w_NODE_DELETED)] [(.int p0), (.int (2 : Int32))]))
  refine Good.back (fun _ k => XS.icmpYes X10.here hx rfl (pc0 := 30) (pc' := 36) rfl (hb hby own_d1_30) rfl (feq (by rw [hp]; decide)).2 (by decide) (by decide) k) ?_
  show Good p e below _ (T10.setTop (mkF m 36 #[.val (.int p0), .val .null, .val (.ref b_1), .val (.int (4 : Int32)), .val (.int (1 : Int32)), .val (.ref w_NODE_DELETED)] []))
  refine Good.back (fun _ k => XS.iinc X10.here hx rfl (hb hby own_d1_36) rfl (l' := #[.val (.int p0), .val .null, .val (.ref b_1), .val (.int (4 : Int32)), .val (.int ((1 : Int32) + (1 : Int32))), .val (.ref w_NODE_DELETED)]) rfl k) ?_
  show Good p e below _ (T10.setTop (mkF m 39 #[.val (.int p0), .val .null, .val (.ref b_1), .val (.int (4 : Int32)), .val (.int ((1 : Int32) + (1 : Int32))), .val (.ref w_NODE_DELETED)] []))
  rw [show (((1 : Int32) + (1 : Int32)) : Int32) = (2 : Int32) from by decide]
  show Good p e below _ (T10.setTop (mkF m 39 #[.val (.int p0), .val .null, .val (.ref b_1), .val (.int (4 : Int32)), .val (.int (2 : Int32)), .val (.ref w_NODE_DELETED)] []))
  refine Good.back (fun _ k => XS.goto X10.here hx rfl (pc0 := 39) (pc' := 12) rfl (hb hby own_d1_39) (by decide) (by decide) k) ?_
  show Good p e below _ (T10.setTop (mkF m 12 #[.val (.int p0), .val .null, .val (.ref b_1), .val (.int (4 : Int32)), .val (.int (2 : Int32)), .val (.ref w_NODE_DELETED)] []))
  refine Good.back (fun _ k => XS.iload X10.here hx rfl (hb hby own_d1_12) rfl k) ?_
  show Good p e below _ (T10.setTop (mkF m 14 #[.val (.int p0), .val .null, .val (.ref b_1), .val (.int (4 : Int32)), .val (.int (2 : Int32)), .val (.ref w_NODE_DELETED)] [(.int (2 : Int32))]))
  refine Good.back (fun _ k => XS.iloadN X10.here hx rfl (hb hby own_d1_14) rfl k) ?_
  show Good p e below _ (T10.setTop (mkF m 15 #[.val (.int p0), .val .null, .val (.ref b_1), .val (.int (4 : Int32)), .val (.int (2 : Int32)), .val (.ref w_NODE_DELETED)] [(.int (4 : Int32)), (.int (2 : Int32))]))
  refine Good.back (fun _ k => XS.icmpNo X10.here hx rfl (hb hby own_d1_15) rfl (tlt (by decide : ((2 : Int32) < (4 : Int32)))).2.1 k) ?_
  show Good p e below _ (T10.setTop (mkF m 18 #[.val (.int p0), .val .null, .val (.ref b_1), .val (.int (4 : Int32)), .val (.int (2 : Int32)), .val (.ref w_NODE_DELETED)] []))
  refine Good.back (fun _ k => XS.aloadN X10.here hx rfl (hb hby own_d1_18) rfl rfl k) ?_
  show Good p e below _ (T10.setTop (mkF m 19 #[.val (.int p0), .val .null, .val (.ref b_1), .val (.int (4 : Int32)), .val (.int (2 : Int32)), .val (.ref w_NODE_DELETED)] [(.ref b_1)]))
  refine Good.back (fun _ k => XS.iload X10.here hx rfl (hb hby own_d1_19) rfl k) ?_
  show Good p e below _ (T10.setTop (mkF m 21 #[.val (.int p0), .val .null, .val (.ref b_1), .val (.int (4 : Int32)), .val (.int (2 : Int32)), .val (.ref w_NODE_DELETED)] [(.int (2 : Int32)), (.ref b_1)]))
  have fc11 := o1_1
  obtain ⟨cl11, Ar11, qk11, S11, N11', H11, G11⟩ := fc11
  have hin11 : ¬ ((2 : Int32) < 0 ∨ cl11.slots.size ≤ ((2 : Int32)).toNatClampNeg) := inb_of S11 ⟨by decide, by decide⟩
  have hat11 : cl11.slots[((2 : Int32)).toNatClampNeg]? = some (.ref w_NODE_DATA_CHANGED) := Has.at H11 hin11 rfl
  refine Good.back (X10.aaload hx (j := (2 : Int32)) (v := (.ref w_NODE_DATA_CHANGED)) (by rw [e10]; exact Ar11.1) (State.isArrayOf_alike hZ.alike Ar11.2.1) rfl Ar11.2.2 hin11 hat11 (g := (mkF m 21 #[.val (.int p0), .val .null, .val (.ref b_1), .val (.int (4 : Int32)), .val (.int (2 : Int32)), .val (.ref w_NODE_DELETED)] [(.int (2 : Int32)), (.ref b_1)])) rfl rfl (hb hby own_d1_21)) ?_
  show Good p e below _ (T10.setTop (mkF m 22 #[.val (.int p0), .val .null, .val (.ref b_1), .val (.int (4 : Int32)), .val (.int (2 : Int32)), .val (.ref w_NODE_DELETED)] [(.ref w_NODE_DATA_CHANGED)]))
  refine Good.back (fun _ k => XS.astore X10.here hx rfl (hb hby own_d1_22) rfl rfl (l' := #[.val (.int p0), .val .null, .val (.ref b_1), .val (.int (4 : Int32)), .val (.int (2 : Int32)), .val (.ref w_NODE_DATA_CHANGED)]) rfl k) ?_
  show Good p e below _ (T10.setTop (mkF m 24 #[.val (.int p0), .val .null, .val (.ref b_1), .val (.int (4 : Int32)), .val (.int (2 : Int32)), .val (.ref w_NODE_DATA_CHANGED)] []))
  refine Good.back (fun _ k => XS.aload X10.here hx rfl (hb hby own_d1_24) rfl rfl k) ?_
  show Good p e below _ (T10.setTop (mkF m 26 #[.val (.int p0), .val .null, .val (.ref b_1), .val (.int (4 : Int32)), .val (.int (2 : Int32)), .val (.ref w_NODE_DATA_CHANGED)] [(.ref w_NODE_DATA_CHANGED)]))
  have f_12 : Fld Z T1.heap w_NODE_DATA_CHANGED "com/example/vartija/vartija/client/WatchEvent$Type" "code" "I" (.int (3 : Int32)) := Fld.keep F_code_w_NODE_DATA_CHANGED Kq1 nin0
  obtain ⟨T13, X13, e13, st13⟩ := getF X10 hx hZ hown (host := "") (Or.inl (hw _ (List.mem_of_getElem? (i := 23) rfl))) Via.refl e10 f_12 (g := (mkF m 26 #[.val (.int p0), .val .null, .val (.ref b_1), .val (.int (4 : Int32)), .val (.int (2 : Int32)), .val (.ref w_NODE_DATA_CHANGED)] [(.ref w_NODE_DATA_CHANGED)])) rfl rfl (hb hby own_d1_26)
  refine Good.back st13 ?_
  show Good p e below _ (T13.setTop (mkF m 29 #[.val (.int p0), .val .null, .val (.ref b_1), .val (.int (4 : Int32)), .val (.int (2 : Int32)), .val (.ref w_NODE_DATA_CHANGED)] [(.int (3 : Int32))]))
  refine Good.back (fun _ k => XS.iloadN X13.here hx rfl (hb hby own_d1_29) rfl k) ?_
  show Good p e below _ (T13.setTop (mkF m 30 #[.val (.int p0), .val .null, .val (.ref b_1), .val (.int (4 : Int32)), .val (.int (2 : Int32)), .val (.ref w_NODE_DATA_CHANGED)] [(.int p0), (.int (3 : Int32))]))
  refine Good.back (fun _ k => XS.icmpYes X13.here hx rfl (pc0 := 30) (pc' := 36) rfl (hb hby own_d1_30) rfl (feq (by rw [hp]; decide)).2 (by decide) (by decide) k) ?_
  show Good p e below _ (T13.setTop (mkF m 36 #[.val (.int p0), .val .null, .val (.ref b_1), .val (.int (4 : Int32)), .val (.int (2 : Int32)), .val (.ref w_NODE_DATA_CHANGED)] []))
  refine Good.back (fun _ k => XS.iinc X13.here hx rfl (hb hby own_d1_36) rfl (l' := #[.val (.int p0), .val .null, .val (.ref b_1), .val (.int (4 : Int32)), .val (.int ((2 : Int32) + (1 : Int32))), .val (.ref w_NODE_DATA_CHANGED)]) rfl k) ?_
  show Good p e below _ (T13.setTop (mkF m 39 #[.val (.int p0), .val .null, .val (.ref b_1), .val (.int (4 : Int32)), .val (.int ((2 : Int32) + (1 : Int32))), .val (.ref w_NODE_DATA_CHANGED)] []))
  rw [show (((2 : Int32) + (1 : Int32)) : Int32) = (3 : Int32) from by decide]
  show Good p e below _ (T13.setTop (mkF m 39 #[.val (.int p0), .val .null, .val (.ref b_1), .val (.int (4 : Int32)), .val (.int (3 : Int32)), .val (.ref w_NODE_DATA_CHANGED)] []))
  refine Good.back (fun _ k => XS.goto X13.here hx rfl (pc0 := 39) (pc' := 12) rfl (hb hby own_d1_39) (by decide) (by decide) k) ?_
  show Good p e below _ (T13.setTop (mkF m 12 #[.val (.int p0), .val .null, .val (.ref b_1), .val (.int (4 : Int32)), .val (.int (3 : Int32)), .val (.ref w_NODE_DATA_CHANGED)] []))
  refine Good.back (fun _ k => XS.iload X13.here hx rfl (hb hby own_d1_12) rfl k) ?_
  show Good p e below _ (T13.setTop (mkF m 14 #[.val (.int p0), .val .null, .val (.ref b_1), .val (.int (4 : Int32)), .val (.int (3 : Int32)), .val (.ref w_NODE_DATA_CHANGED)] [(.int (3 : Int32))]))
  refine Good.back (fun _ k => XS.iloadN X13.here hx rfl (hb hby own_d1_14) rfl k) ?_
  show Good p e below _ (T13.setTop (mkF m 15 #[.val (.int p0), .val .null, .val (.ref b_1), .val (.int (4 : Int32)), .val (.int (3 : Int32)), .val (.ref w_NODE_DATA_CHANGED)] [(.int (4 : Int32)), (.int (3 : Int32))]))
  refine Good.back (fun _ k => XS.icmpNo X13.here hx rfl (hb hby own_d1_15) rfl (tlt (by decide : ((3 : Int32) < (4 : Int32)))).2.1 k) ?_
  show Good p e below _ (T13.setTop (mkF m 18 #[.val (.int p0), .val .null, .val (.ref b_1), .val (.int (4 : Int32)), .val (.int (3 : Int32)), .val (.ref w_NODE_DATA_CHANGED)] []))
  refine Good.back (fun _ k => XS.aloadN X13.here hx rfl (hb hby own_d1_18) rfl rfl k) ?_
  show Good p e below _ (T13.setTop (mkF m 19 #[.val (.int p0), .val .null, .val (.ref b_1), .val (.int (4 : Int32)), .val (.int (3 : Int32)), .val (.ref w_NODE_DATA_CHANGED)] [(.ref b_1)]))
  refine Good.back (fun _ k => XS.iload X13.here hx rfl (hb hby own_d1_19) rfl k) ?_
  show Good p e below _ (T13.setTop (mkF m 21 #[.val (.int p0), .val .null, .val (.ref b_1), .val (.int (4 : Int32)), .val (.int (3 : Int32)), .val (.ref w_NODE_DATA_CHANGED)] [(.int (3 : Int32)), (.ref b_1)]))
  have fc14 := o1_1
  obtain ⟨cl14, Ar14, qk14, S14, N14', H14, G14⟩ := fc14
  have hin14 : ¬ ((3 : Int32) < 0 ∨ cl14.slots.size ≤ ((3 : Int32)).toNatClampNeg) := inb_of S14 ⟨by decide, by decide⟩
  have hat14 : cl14.slots[((3 : Int32)).toNatClampNeg]? = some (.ref w_NODE_CHILDREN_CHANGED) := Has.at H14 hin14 rfl
  refine Good.back (X13.aaload hx (j := (3 : Int32)) (v := (.ref w_NODE_CHILDREN_CHANGED)) (by rw [e13]; exact Ar14.1) (State.isArrayOf_alike hZ.alike Ar14.2.1) rfl Ar14.2.2 hin14 hat14 (g := (mkF m 21 #[.val (.int p0), .val .null, .val (.ref b_1), .val (.int (4 : Int32)), .val (.int (3 : Int32)), .val (.ref w_NODE_DATA_CHANGED)] [(.int (3 : Int32)), (.ref b_1)])) rfl rfl (hb hby own_d1_21)) ?_
  show Good p e below _ (T13.setTop (mkF m 22 #[.val (.int p0), .val .null, .val (.ref b_1), .val (.int (4 : Int32)), .val (.int (3 : Int32)), .val (.ref w_NODE_DATA_CHANGED)] [(.ref w_NODE_CHILDREN_CHANGED)]))
  refine Good.back (fun _ k => XS.astore X13.here hx rfl (hb hby own_d1_22) rfl rfl (l' := #[.val (.int p0), .val .null, .val (.ref b_1), .val (.int (4 : Int32)), .val (.int (3 : Int32)), .val (.ref w_NODE_CHILDREN_CHANGED)]) rfl k) ?_
  show Good p e below _ (T13.setTop (mkF m 24 #[.val (.int p0), .val .null, .val (.ref b_1), .val (.int (4 : Int32)), .val (.int (3 : Int32)), .val (.ref w_NODE_CHILDREN_CHANGED)] []))
  refine Good.back (fun _ k => XS.aload X13.here hx rfl (hb hby own_d1_24) rfl rfl k) ?_
  show Good p e below _ (T13.setTop (mkF m 26 #[.val (.int p0), .val .null, .val (.ref b_1), .val (.int (4 : Int32)), .val (.int (3 : Int32)), .val (.ref w_NODE_CHILDREN_CHANGED)] [(.ref w_NODE_CHILDREN_CHANGED)]))
  have f_15 : Fld Z T1.heap w_NODE_CHILDREN_CHANGED "com/example/vartija/vartija/client/WatchEvent$Type" "code" "I" (.int (4 : Int32)) := Fld.keep F_code_w_NODE_CHILDREN_CHANGED Kq1 nin0
  obtain ⟨T16, X16, e16, st16⟩ := getF X13 hx hZ hown (host := "") (Or.inl (hw _ (List.mem_of_getElem? (i := 23) rfl))) Via.refl e13 f_15 (g := (mkF m 26 #[.val (.int p0), .val .null, .val (.ref b_1), .val (.int (4 : Int32)), .val (.int (3 : Int32)), .val (.ref w_NODE_CHILDREN_CHANGED)] [(.ref w_NODE_CHILDREN_CHANGED)])) rfl rfl (hb hby own_d1_26)
  refine Good.back st16 ?_
  show Good p e below _ (T16.setTop (mkF m 29 #[.val (.int p0), .val .null, .val (.ref b_1), .val (.int (4 : Int32)), .val (.int (3 : Int32)), .val (.ref w_NODE_CHILDREN_CHANGED)] [(.int (4 : Int32))]))
  refine Good.back (fun _ k => XS.iloadN X16.here hx rfl (hb hby own_d1_29) rfl k) ?_
  show Good p e below _ (T16.setTop (mkF m 30 #[.val (.int p0), .val .null, .val (.ref b_1), .val (.int (4 : Int32)), .val (.int (3 : Int32)), .val (.ref w_NODE_CHILDREN_CHANGED)] [(.int p0), (.int (4 : Int32))]))
  refine Good.back (fun _ k => XS.icmpNo X16.here hx rfl (hb hby own_d1_30) rfl (teq hp.symm).2 k) ?_
  show Good p e below _ (T16.setTop (mkF m 33 #[.val (.int p0), .val .null, .val (.ref b_1), .val (.int (4 : Int32)), .val (.int (3 : Int32)), .val (.ref w_NODE_CHILDREN_CHANGED)] []))
  refine Good.back (fun _ k => XS.aload X16.here hx rfl (hb hby own_d1_33) rfl rfl k) ?_
  show Good p e below _ (T16.setTop (mkF m 35 #[.val (.int p0), .val .null, .val (.ref b_1), .val (.int (4 : Int32)), .val (.int (3 : Int32)), .val (.ref w_NODE_CHILDREN_CHANGED)] [(.ref w_NODE_CHILDREN_CHANGED)]))
  refine Good.back (fun _ k => XS.astoreN X16.here hx rfl (hb hby own_d1_35) rfl rfl (l' := #[.val (.int p0), .val (.ref w_NODE_CHILDREN_CHANGED), .val (.ref b_1), .val (.int (4 : Int32)), .val (.int (3 : Int32)), .val (.ref w_NODE_CHILDREN_CHANGED)]) rfl k) ?_
  show Good p e below _ (T16.setTop (mkF m 36 #[.val (.int p0), .val (.ref w_NODE_CHILDREN_CHANGED), .val (.ref b_1), .val (.int (4 : Int32)), .val (.int (3 : Int32)), .val (.ref w_NODE_CHILDREN_CHANGED)] []))
  refine Good.back (fun _ k => XS.iinc X16.here hx rfl (hb hby own_d1_36) rfl (l' := #[.val (.int p0), .val (.ref w_NODE_CHILDREN_CHANGED), .val (.ref b_1), .val (.int (4 : Int32)), .val (.int ((3 : Int32) + (1 : Int32))), .val (.ref w_NODE_CHILDREN_CHANGED)]) rfl k) ?_
  show Good p e below _ (T16.setTop (mkF m 39 #[.val (.int p0), .val (.ref w_NODE_CHILDREN_CHANGED), .val (.ref b_1), .val (.int (4 : Int32)), .val (.int ((3 : Int32) + (1 : Int32))), .val (.ref w_NODE_CHILDREN_CHANGED)] []))
  rw [show (((3 : Int32) + (1 : Int32)) : Int32) = (4 : Int32) from by decide]
  show Good p e below _ (T16.setTop (mkF m 39 #[.val (.int p0), .val (.ref w_NODE_CHILDREN_CHANGED), .val (.ref b_1), .val (.int (4 : Int32)), .val (.int (4 : Int32)), .val (.ref w_NODE_CHILDREN_CHANGED)] []))
  refine Good.back (fun _ k => XS.goto X16.here hx rfl (pc0 := 39) (pc' := 12) rfl (hb hby own_d1_39) (by decide) (by decide) k) ?_
  show Good p e below _ (T16.setTop (mkF m 12 #[.val (.int p0), .val (.ref w_NODE_CHILDREN_CHANGED), .val (.ref b_1), .val (.int (4 : Int32)), .val (.int (4 : Int32)), .val (.ref w_NODE_CHILDREN_CHANGED)] []))
  refine Good.back (fun _ k => XS.iload X16.here hx rfl (hb hby own_d1_12) rfl k) ?_
  show Good p e below _ (T16.setTop (mkF m 14 #[.val (.int p0), .val (.ref w_NODE_CHILDREN_CHANGED), .val (.ref b_1), .val (.int (4 : Int32)), .val (.int (4 : Int32)), .val (.ref w_NODE_CHILDREN_CHANGED)] [(.int (4 : Int32))]))
  refine Good.back (fun _ k => XS.iloadN X16.here hx rfl (hb hby own_d1_14) rfl k) ?_
  show Good p e below _ (T16.setTop (mkF m 15 #[.val (.int p0), .val (.ref w_NODE_CHILDREN_CHANGED), .val (.ref b_1), .val (.int (4 : Int32)), .val (.int (4 : Int32)), .val (.ref w_NODE_CHILDREN_CHANGED)] [(.int (4 : Int32)), (.int (4 : Int32))]))
  refine Good.back (fun _ k => XS.icmpYes X16.here hx rfl (pc0 := 15) (pc' := 42) rfl (hb hby own_d1_15) rfl (flt (by decide : ¬ ((4 : Int32) < (4 : Int32)))).2.1 (by decide) (by decide) k) ?_
  show Good p e below _ (T16.setTop (mkF m 42 #[.val (.int p0), .val (.ref w_NODE_CHILDREN_CHANGED), .val (.ref b_1), .val (.int (4 : Int32)), .val (.int (4 : Int32)), .val (.ref w_NODE_CHILDREN_CHANGED)] []))
  refine Good.back (fun _ k => XS.aloadN X16.here hx rfl (hb hby own_d1_42) rfl rfl k) ?_
  show Good p e below _ (T16.setTop (mkF m 43 #[.val (.int p0), .val (.ref w_NODE_CHILDREN_CHANGED), .val (.ref b_1), .val (.int (4 : Int32)), .val (.int (4 : Int32)), .val (.ref w_NODE_CHILDREN_CHANGED)] [(.ref w_NODE_CHILDREN_CHANGED)]))
  obtain ⟨fs17, hr17, hrun17, hended17, hW17, hsame17⟩ := X16.leave (v := some (.ref w_NODE_CHILDREN_CHANGED)) (fun h => by rw [Bd.returns] at h; cases h)
  refine Good.done (retOut X16 hx Bd.returns rfl (Or.inr (Or.inr (Or.inr (Or.inr ⟨rfl, rfl, rfl⟩)))) (hb hby own_d1_43) hr17) hrun17 hended17 ⟨_, _, rfl, ?_, ⟨_, rfl⟩, hW17, hsame17.mono (by decide) (by decide)⟩
  show Q1_3 Z p0 w__VALUES w_NODE_CREATED w_NODE_DELETED w_NODE_DATA_CHANGED w_NODE_CHILDREN_CHANGED kc_w__VALUES h0 n0 _ T16.heap _
  rw [e16]
  exact ⟨rfl, N1, K3⟩
theorem own_ef_1_4 (m : MethodId) (x0 : Int32) : entryFrame m #[(.int x0)] 6 = mkF m 0 #[.val (.int x0), .unset, .unset, .unset, .unset, .unset] [] := by first | (simp [entryFrame, mkF, argsToLocals, Value.category]; done) | rfl
def Q1_4 (Z : State) (p0 : Int32) (w__VALUES : Addr) (w_NODE_CREATED : Addr) (w_NODE_DELETED : Addr) (w_NODE_DATA_CHANGED : Addr) (w_NODE_CHILDREN_CHANGED : Addr) (kc_w__VALUES : ClassId) (h0 : Heap) (n0 : Nat) (v : Option Value) (h : Heap) (L : List Loc) : Prop := v = some .null ∧ Fr n0 L ∧ Keep h0 h []
set_option maxRecDepth 65536 in
set_option maxHeartbeats 40000000 in
theorem rm1_4 (l : Launch) (Z : State) (a0 : Array Value) (hw : ∀ d ∈ tables_1, d.before a0 Z = true) (ws : List Jvm.Cond) (p0 : Int32) (w__VALUES : Addr) (w_NODE_CREATED : Addr) (w_NODE_DELETED : Addr) (w_NODE_DATA_CHANGED : Addr) (w_NODE_CHILDREN_CHANGED : Addr) (kc_w__VALUES : ClassId) (h0 : Heap) (n0 : Nat) (Z0 : n0 ≤ h0.size) (S_w__VALUES : Sta Z h0 "com/example/vartija/vartija/client/WatchEvent$Type" "$VALUES" "[Lcom/example/vartija/vartija/client/WatchEvent$Type;" (.ref w__VALUES)) (E_w__VALUES : Exa Z h0 w__VALUES "[Lcom/example/vartija/vartija/client/WatchEvent$Type;") (S_w_NODE_CREATED : Sta Z h0 "com/example/vartija/vartija/client/WatchEvent$Type" "NODE_CREATED" "Lcom/example/vartija/vartija/client/WatchEvent$Type;" (.ref w_NODE_CREATED)) (E_w_NODE_CREATED : Exa Z h0 w_NODE_CREATED "com/example/vartija/vartija/client/WatchEvent$Type") (S_w_NODE_DELETED : Sta Z h0 "com/example/vartija/vartija/client/WatchEvent$Type" "NODE_DELETED" "Lcom/example/vartija/vartija/client/WatchEvent$Type;" (.ref w_NODE_DELETED)) (E_w_NODE_DELETED : Exa Z h0 w_NODE_DELETED "com/example/vartija/vartija/client/WatchEvent$Type") (S_w_NODE_DATA_CHANGED : Sta Z h0 "com/example/vartija/vartija/client/WatchEvent$Type" "NODE_DATA_CHANGED" "Lcom/example/vartija/vartija/client/WatchEvent$Type;" (.ref w_NODE_DATA_CHANGED)) (E_w_NODE_DATA_CHANGED : Exa Z h0 w_NODE_DATA_CHANGED "com/example/vartija/vartija/client/WatchEvent$Type") (S_w_NODE_CHILDREN_CHANGED : Sta Z h0 "com/example/vartija/vartija/client/WatchEvent$Type" "NODE_CHILDREN_CHANGED" "Lcom/example/vartija/vartija/client/WatchEvent$Type;" (.ref w_NODE_CHILDREN_CHANGED)) (E_w_NODE_CHILDREN_CHANGED : Exa Z h0 w_NODE_CHILDREN_CHANGED "com/example/vartija/vartija/client/WatchEvent$Type") (F_code_w_NODE_CREATED : Fld Z h0 w_NODE_CREATED "com/example/vartija/vartija/client/WatchEvent$Type" "code" "I" (.int (1 : Int32))) (F_code_w_NODE_DELETED : Fld Z h0 w_NODE_DELETED "com/example/vartija/vartija/client/WatchEvent$Type" "code" "I" (.int (2 : Int32))) (F_code_w_NODE_DATA_CHANGED : Fld Z h0 w_NODE_DATA_CHANGED "com/example/vartija/vartija/client/WatchEvent$Type" "code" "I" (.int (3 : Int32))) (F_code_w_NODE_CHILDREN_CHANGED : Fld Z h0 w_NODE_CHILDREN_CHANGED "com/example/vartija/vartija/client/WatchEvent$Type" "code" "I" (.int (4 : Int32))) (V_w__VALUES : Arv Z h0 w__VALUES kc_w__VALUES (.object "com/example/vartija/vartija/client/WatchEvent$Type") (4 : Int32) [(.ref w_NODE_CREATED), (.ref w_NODE_DELETED), (.ref w_NODE_DATA_CHANGED), (.ref w_NODE_CHILDREN_CHANGED)] .null) (hp0 : ¬ (p0 = (1 : Int32))) (hp1 : ¬ (p0 = (2 : Int32))) (hp2 : ¬ (p0 = (3 : Int32))) (hp3 : ¬ (p0 = (4 : Int32))) :
    MetFree l (⟨"com/example/vartija/vartija/client/WatchEvent$Type", "of", "(I)Lcom/example/vartija/vartija/client/WatchEvent$Type;"⟩ : MethodName) (head1 (Jvm.Cond.code (⟨"com/example/vartija/vartija/client/WatchEvent$Type", "of", "(I)Lcom/example/vartija/vartija/client/WatchEvent$Type;"⟩ : MethodName) prog_22_method_4_code 6 (some (.object "com/example/vartija/vartija/client/WatchEvent$Type")) :: ws) ({ frames := 2, cells := 1, slots := 4, locals := 25 } : Room)) (fun a U => a = #[(.int p0)] ∧ Z.Warmed39 U.vm ∧ U.heap = h0) (fun _ _ _ _ _ => True) (fun _ U o U' => ∃ v L, o = .returned v ∧ Q1_4 Z p0 w__VALUES w_NODE_CREATED w_NODE_DELETED w_NODE_DATA_CHANGED w_NODE_CHILDREN_CHANGED kc_w__VALUES h0 n0 v U'.heap L ∧ FrameEnd U o U' L ({ frames := 2, cells := 1, slots := 4, locals := 25 } : Room).cells ({ frames := 2, cells := 1, slots := 4, locals := 25 } : Room).slots) := by
  refine MetFree.of_bodySF (plainFor_of_name own_pn0) hisR ?_
  intro p e s m args below meth c s₁ Bd hml0 hP hK
  obtain ⟨rfl, hZ, hh⟩ := hP
  have hx := Bd.exec
  have hby := Bd.bytes
  have hml : c.maxLocals = 6 := hml0
  have hown : s.vm.findClass "com/example/vartija/vartija/client/WatchEvent$Type" = some m.cls := findClass_of_methodNamed Bd.named
  have hnm := (name_of_methodNamed Bd.named Bd.method).1
  have X0 : Stand p l e ({ frames := 2, cells := 1, slots := 4, locals := 25 } : Room) s m #[(.int p0)] below meth c s₁ [] 0 0 := Stand.of_body Bd
  have e0 : s₁.heap = h0 := by rw [← hh, Bd.state]; rfl
  have N0 := Fr.nil n0
  have KR : Keep h0 h0 [] := Keep.refl h0 _
  show Good p e below (fun o U' => ∃ v L, o = .returned v ∧ Q1_4 Z p0 w__VALUES w_NODE_CREATED w_NODE_DELETED w_NODE_DATA_CHANGED w_NODE_CHILDREN_CHANGED kc_w__VALUES h0 n0 v U'.heap L ∧ FrameEnd s o U' L ({ frames := 2, cells := 1, slots := 4, locals := 25 } : Room).cells ({ frames := 2, cells := 1, slots := 4, locals := 25 } : Room).slots) _
  refine Good.back (S' := s₁.setTop (mkF m 0 #[.val (.int p0), .unset, .unset, .unset, .unset, .unset] [])) (fun t k => castTop (own_ef_1_4 m p0) k) ?_
  show Good p e below _ (s₁.setTop (mkF m 0 #[.val (.int p0), .unset, .unset, .unset, .unset, .unset] []))
  refine Good.back (fun _ k => XS.aconstNull X0.here hx rfl (hb hby own_d1_0) k) ?_
  show Good p e below _ (s₁.setTop (mkF m 1 #[.val (.int p0), .unset, .unset, .unset, .unset, .unset] [.null]))
  refine Good.back (fun _ k => XS.astoreN X0.here hx rfl (hb hby own_d1_1) rfl rfl (l' := #[.val (.int p0), .val .null, .unset, .unset, .unset, .unset]) rfl k) ?_
  show Good p e below _ (s₁.setTop (mkF m 2 #[.val (.int p0), .val .null, .unset, .unset, .unset, .unset] []))
  obtain ⟨_, _, ⟨T1, L1, k1, n1⟩, -, X1, ⟨Lc1, hQ1, l1, y1, z1⟩, st1⟩ := Jvm.LawKit.callS X0 hx (y := (⟨"com/example/vartija/vartija/client/WatchEvent$Type", "values", "()[Lcom/example/vartija/vartija/client/WatchEvent$Type;"⟩ : MethodName)) hown (mvT hZ (hw _ (List.mem_of_getElem? (i := 4) rfl))) (mvT hZ (hw _ (List.mem_of_getElem? (i := 5) rfl))) (mvT hZ (hw _ (List.mem_of_getElem? (i := 2) rfl))) (mvT hZ (hw _ (List.mem_of_getElem? (i := 6) rfl))) (by decide) (backOf (W := 0) (rm2 l Z a0 hw []  w__VALUES w_NODE_CREATED w_NODE_DELETED w_NODE_DATA_CHANGED w_NODE_CHILDREN_CHANGED kc_w__VALUES h0 n0 Z0 S_w__VALUES E_w__VALUES S_w_NODE_CREATED E_w_NODE_CREATED S_w_NODE_DELETED E_w_NODE_DELETED S_w_NODE_DATA_CHANGED E_w_NODE_DATA_CHANGED S_w_NODE_CHILDREN_CHANGED E_w_NODE_CHILDREN_CHANGED F_code_w_NODE_CREATED F_code_w_NODE_DELETED F_code_w_NODE_DATA_CHANGED F_code_w_NODE_CHILDREN_CHANGED V_w__VALUES) hZ (hw _ (List.mem_of_getElem? (i := 6) rfl)) (hw _ (List.mem_of_getElem? (i := 2) rfl)) (by decide) (by decide)) (g := (mkF m 2 #[.val (.int p0), .val .null, .unset, .unset, .unset, .unset] [])) rfl (by rw [hml]; rfl) (argsL := []) (rest := []) (lenOf own_pd4 rfl) rfl (by show 2 * 0 + _ ≤ _; exact Nat.le_of_eq rfl) (hb hby own_d1_2) (fun _ _ => ⟨rfl, e0, (by decide : 0 + 1 ≤ _), (by decide : 0 + 4 ≤ _)⟩)
  dsimp only [Pt.U, Pt.locs, Pt.cells, Pt.slots] at X1 l1 y1 z1 st1 hQ1
  subst l1 y1 z1
  obtain ⟨b_1, rfl, N1q, Kq1, o1_0, o1_1⟩ := hQ1
  have N1 := Fr.app N0 N1q
  have Z2 : n0 ≤ T1.heap.size := Nat.le_trans Z0 Kq1.1
  have K3 : Keep h0 T1.heap [] := KR.trans Kq1 all0
  have g_b_1 : n0 ≤ b_1 := Nat.le_trans Z0 o1_0
  have sz_b_1 : h0.size ≤ b_1 := Nat.le_trans KR.1 o1_0
  refine Good.back st1 ?_
  show Good p e below _ (T1.setTop (mkF m 5 #[.val (.int p0), .val .null, .unset, .unset, .unset, .unset] [(.ref b_1)]))
  refine Good.back (fun _ k => XS.astoreN X1.here hx rfl (hb hby own_d1_5) rfl rfl (l' := #[.val (.int p0), .val .null, .val (.ref b_1), .unset, .unset, .unset]) rfl k) ?_
  show Good p e below _ (T1.setTop (mkF m 6 #[.val (.int p0), .val .null, .val (.ref b_1), .unset, .unset, .unset] []))
  refine Good.back (fun _ k => XS.aloadN X1.here hx rfl (hb hby own_d1_6) rfl rfl k) ?_
  show Good p e below _ (T1.setTop (mkF m 7 #[.val (.int p0), .val .null, .val (.ref b_1), .unset, .unset, .unset] [(.ref b_1)]))
  have fc4 := o1_1
  obtain ⟨cl4, Ar4, qk4, S4, N4', H4, G4⟩ := fc4
  refine Good.back (X1.arraylength hx (Ar4.1) (State.isArrayOf_alike hZ.alike Ar4.2.1) (g := (mkF m 7 #[.val (.int p0), .val .null, .val (.ref b_1), .unset, .unset, .unset] [(.ref b_1)])) rfl rfl (hb hby own_d1_7)) ?_
  rw [len_of S4 N4']
  show Good p e below _ (T1.setTop (mkF m 8 #[.val (.int p0), .val .null, .val (.ref b_1), .unset, .unset, .unset] [(.int (4 : Int32))]))
  refine Good.back (fun _ k => XS.istoreN X1.here hx rfl (hb hby own_d1_8) rfl (l' := #[.val (.int p0), .val .null, .val (.ref b_1), .val (.int (4 : Int32)), .unset, .unset]) rfl k) ?_
  show Good p e below _ (T1.setTop (mkF m 9 #[.val (.int p0), .val .null, .val (.ref b_1), .val (.int (4 : Int32)), .unset, .unset] []))
  refine Good.back (fun _ k => XS.iconst X1.here hx rfl (hb hby own_d1_9) k) ?_
  show Good p e below _ (T1.setTop (mkF m 10 #[.val (.int p0), .val .null, .val (.ref b_1), .val (.int (4 : Int32)), .unset, .unset] [(.int (0 : Int32))]))
  refine Good.back (fun _ k => XS.istore X1.here hx rfl (hb hby own_d1_10) rfl (l' := #[.val (.int p0), .val .null, .val (.ref b_1), .val (.int (4 : Int32)), .val (.int (0 : Int32)), .unset]) rfl k) ?_
  show Good p e below _ (T1.setTop (mkF m 12 #[.val (.int p0), .val .null, .val (.ref b_1), .val (.int (4 : Int32)), .val (.int (0 : Int32)), .unset] []))
  refine Good.back (fun _ k => XS.iload X1.here hx rfl (hb hby own_d1_12) rfl k) ?_
  show Good p e below _ (T1.setTop (mkF m 14 #[.val (.int p0), .val .null, .val (.ref b_1), .val (.int (4 : Int32)), .val (.int (0 : Int32)), .unset] [(.int (0 : Int32))]))
  refine Good.back (fun _ k => XS.iloadN X1.here hx rfl (hb hby own_d1_14) rfl k) ?_
  show Good p e below _ (T1.setTop (mkF m 15 #[.val (.int p0), .val .null, .val (.ref b_1), .val (.int (4 : Int32)), .val (.int (0 : Int32)), .unset] [(.int (4 : Int32)), (.int (0 : Int32))]))
  refine Good.back (fun _ k => XS.icmpNo X1.here hx rfl (hb hby own_d1_15) rfl (tlt (by decide : ((0 : Int32) < (4 : Int32)))).2.1 k) ?_
  show Good p e below _ (T1.setTop (mkF m 18 #[.val (.int p0), .val .null, .val (.ref b_1), .val (.int (4 : Int32)), .val (.int (0 : Int32)), .unset] []))
  refine Good.back (fun _ k => XS.aloadN X1.here hx rfl (hb hby own_d1_18) rfl rfl k) ?_
  show Good p e below _ (T1.setTop (mkF m 19 #[.val (.int p0), .val .null, .val (.ref b_1), .val (.int (4 : Int32)), .val (.int (0 : Int32)), .unset] [(.ref b_1)]))
  refine Good.back (fun _ k => XS.iload X1.here hx rfl (hb hby own_d1_19) rfl k) ?_
  show Good p e below _ (T1.setTop (mkF m 21 #[.val (.int p0), .val .null, .val (.ref b_1), .val (.int (4 : Int32)), .val (.int (0 : Int32)), .unset] [(.int (0 : Int32)), (.ref b_1)]))
  have fc5 := o1_1
  obtain ⟨cl5, Ar5, qk5, S5, N5', H5, G5⟩ := fc5
  have hin5 : ¬ ((0 : Int32) < 0 ∨ cl5.slots.size ≤ ((0 : Int32)).toNatClampNeg) := inb_of S5 ⟨by decide, by decide⟩
  have hat5 : cl5.slots[((0 : Int32)).toNatClampNeg]? = some (.ref w_NODE_CREATED) := Has.at H5 hin5 rfl
  refine Good.back (X1.aaload hx (j := (0 : Int32)) (v := (.ref w_NODE_CREATED)) (Ar5.1) (State.isArrayOf_alike hZ.alike Ar5.2.1) rfl Ar5.2.2 hin5 hat5 (g := (mkF m 21 #[.val (.int p0), .val .null, .val (.ref b_1), .val (.int (4 : Int32)), .val (.int (0 : Int32)), .unset] [(.int (0 : Int32)), (.ref b_1)])) rfl rfl (hb hby own_d1_21)) ?_
  show Good p e below _ (T1.setTop (mkF m 22 #[.val (.int p0), .val .null, .val (.ref b_1), .val (.int (4 : Int32)), .val (.int (0 : Int32)), .unset] [(.ref w_NODE_CREATED)]))
  refine Good.back (fun _ k => XS.astore X1.here hx rfl (hb hby own_d1_22) rfl rfl (l' := #[.val (.int p0), .val .null, .val (.ref b_1), .val (.int (4 : Int32)), .val (.int (0 : Int32)), .val (.ref w_NODE_CREATED)]) rfl k) ?_
  show Good p e below _ (T1.setTop (mkF m 24 #[.val (.int p0), .val .null, .val (.ref b_1), .val (.int (4 : Int32)), .val (.int (0 : Int32)), .val (.ref w_NODE_CREATED)] []))
  refine Good.back (fun _ k => XS.aload X1.here hx rfl (hb hby own_d1_24) rfl rfl k) ?_
  show Good p e below _ (T1.setTop (mkF m 26 #[.val (.int p0), .val .null, .val (.ref b_1), .val (.int (4 : Int32)), .val (.int (0 : Int32)), .val (.ref w_NODE_CREATED)] [(.ref w_NODE_CREATED)]))
  have f_6 : Fld Z T1.heap w_NODE_CREATED "com/example/vartija/vartija/client/WatchEvent$Type" "code" "I" (.int (1 : Int32)) := Fld.keep F_code_w_NODE_CREATED Kq1 nin0
  obtain ⟨T7, X7, e7, st7⟩ := getF X1 hx hZ hown (host := "") (Or.inl (hw _ (List.mem_of_getElem? (i := 23) rfl))) Via.refl rfl f_6 (g := (mkF m 26 #[.val (.int p0), .val .null, .val (.ref b_1), .val (.int (4 : Int32)), .val (.int (0 : Int32)), .val (.ref w_NODE_CREATED)] [(.ref w_NODE_CREATED)])) rfl rfl (hb hby own_d1_26)
  refine Good.back st7 ?_
  show Good p e below _ (T7.setTop (mkF m 29 #[.val (.int p0), .val .null, .val (.ref b_1), .val (.int (4 : Int32)), .val (.int (0 : Int32)), .val (.ref w_NODE_CREATED)] [(.int (1 : Int32))]))
  refine Good.back (fun _ k => XS.iloadN X7.here hx rfl (hb hby own_d1_29) rfl k) ?_
  show Good p e below _ (T7.setTop (mkF m 30 #[.val (.int p0), .val .null, .val (.ref b_1), .val (.int (4 : Int32)), .val (.int (0 : Int32)), .val (.ref w_NODE_CREATED)] [(.int p0), (.int (1 : Int32))]))
  refine Good.back (fun _ k => XS.icmpYes X7.here hx rfl (pc0 := 30) (pc' := 36) rfl (hb hby own_d1_30) rfl (feq (fun q => hp0 q.symm)).2 (by decide) (by decide) k) ?_
  show Good p e below _ (T7.setTop (mkF m 36 #[.val (.int p0), .val .null, .val (.ref b_1), .val (.int (4 : Int32)), .val (.int (0 : Int32)), .val (.ref w_NODE_CREATED)] []))
  refine Good.back (fun _ k => XS.iinc X7.here hx rfl (hb hby own_d1_36) rfl (l' := #[.val (.int p0), .val .null, .val (.ref b_1), .val (.int (4 : Int32)), .val (.int ((0 : Int32) + (1 : Int32))), .val (.ref w_NODE_CREATED)]) rfl k) ?_
  show Good p e below _ (T7.setTop (mkF m 39 #[.val (.int p0), .val .null, .val (.ref b_1), .val (.int (4 : Int32)), .val (.int ((0 : Int32) + (1 : Int32))), .val (.ref w_NODE_CREATED)] []))
  rw [show (((0 : Int32) + (1 : Int32)) : Int32) = (1 : Int32) from by decide]
  show Good p e below _ (T7.setTop (mkF m 39 #[.val (.int p0), .val .null, .val (.ref b_1), .val (.int (4 : Int32)), .val (.int (1 : Int32)), .val (.ref w_NODE_CREATED)] []))
  refine Good.back (fun _ k => XS.goto X7.here hx rfl (pc0 := 39) (pc' := 12) rfl (hb hby own_d1_39) (by decide) (by decide) k) ?_
  show Good p e below _ (T7.setTop (mkF m 12 #[.val (.int p0), .val .null, .val (.ref b_1), .val (.int (4 : Int32)), .val (.int (1 : Int32)), .val (.ref w_NODE_CREATED)] []))
  refine Good.back (fun _ k => XS.iload X7.here hx rfl (hb hby own_d1_12) rfl k) ?_
  show Good p e below _ (T7.setTop (mkF m 14 #[.val (.int p0), .val .null, .val (.ref b_1), .val (.int (4 : Int32)), .val (.int (1 : Int32)), .val (.ref w_NODE_CREATED)] [(.int (1 : Int32))]))
  refine Good.back (fun _ k => XS.iloadN X7.here hx rfl (hb hby own_d1_14) rfl k) ?_
  show Good p e below _ (T7.setTop (mkF m 15 #[.val (.int p0), .val .null, .val (.ref b_1), .val (.int (4 : Int32)), .val (.int (1 : Int32)), .val (.ref w_NODE_CREATED)] [(.int (4 : Int32)), (.int (1 : Int32))]))
  refine Good.back (fun _ k => XS.icmpNo X7.here hx rfl (hb hby own_d1_15) rfl (tlt (by decide : ((1 : Int32) < (4 : Int32)))).2.1 k) ?_
  show Good p e below _ (T7.setTop (mkF m 18 #[.val (.int p0), .val .null, .val (.ref b_1), .val (.int (4 : Int32)), .val (.int (1 : Int32)), .val (.ref w_NODE_CREATED)] []))
  refine Good.back (fun _ k => XS.aloadN X7.here hx rfl (hb hby own_d1_18) rfl rfl k) ?_
  show Good p e below _ (T7.setTop (mkF m 19 #[.val (.int p0), .val .null, .val (.ref b_1), .val (.int (4 : Int32)), .val (.int (1 : Int32)), .val (.ref w_NODE_CREATED)] [(.ref b_1)]))
  refine Good.back (fun _ k => XS.iload X7.here hx rfl (hb hby own_d1_19) rfl k) ?_
  show Good p e below _ (T7.setTop (mkF m 21 #[.val (.int p0), .val .null, .val (.ref b_1), .val (.int (4 : Int32)), .val (.int (1 : Int32)), .val (.ref w_NODE_CREATED)] [(.int (1 : Int32)), (.ref b_1)]))
  have fc8 := o1_1
  obtain ⟨cl8, Ar8, qk8, S8, N8', H8, G8⟩ := fc8
  have hin8 : ¬ ((1 : Int32) < 0 ∨ cl8.slots.size ≤ ((1 : Int32)).toNatClampNeg) := inb_of S8 ⟨by decide, by decide⟩
  have hat8 : cl8.slots[((1 : Int32)).toNatClampNeg]? = some (.ref w_NODE_DELETED) := Has.at H8 hin8 rfl
  refine Good.back (X7.aaload hx (j := (1 : Int32)) (v := (.ref w_NODE_DELETED)) (by rw [e7]; exact Ar8.1) (State.isArrayOf_alike hZ.alike Ar8.2.1) rfl Ar8.2.2 hin8 hat8 (g := (mkF m 21 #[.val (.int p0), .val .null, .val (.ref b_1), .val (.int (4 : Int32)), .val (.int (1 : Int32)), .val (.ref w_NODE_CREATED)] [(.int (1 : Int32)), (.ref b_1)])) rfl rfl (hb hby own_d1_21)) ?_
  show Good p e below _ (T7.setTop (mkF m 22 #[.val (.int p0), .val .null, .val (.ref b_1), .val (.int (4 : Int32)), .val (.int (1 : Int32)), .val (.ref w_NODE_CREATED)] [(.ref w_NODE_DELETED)]))
  refine Good.back (fun _ k => XS.astore X7.here hx rfl (hb hby own_d1_22) rfl rfl (l' := #[.val (.int p0), .val .null, .val (.ref b_1), .val (.int (4 : Int32)), .val (.int (1 : Int32)), .val (.ref w_NODE_DELETED)]) rfl k) ?_
  show Good p e below _ (T7.setTop (mkF m 24 #[.val (.int p0), .val .null, .val (.ref b_1), .val (.int (4 : Int32)), .val (.int (1 : Int32)), .val (.ref w_NODE_DELETED)] []))
  refine Good.back (fun _ k => XS.aload X7.here hx rfl (hb hby own_d1_24) rfl rfl k) ?_
  show Good p e below _ (T7.setTop (mkF m 26 #[.val (.int p0), .val .null, .val (.ref b_1), .val (.int (4 : Int32)), .val (.int (1 : Int32)), .val (.ref w_NODE_DELETED)] [(.ref w_NODE_DELETED)]))
  have f_9 : Fld Z T1.heap w_NODE_DELETED "com/example/vartija/vartija/client/WatchEvent$Type" "code" "I" (.int (2 : Int32)) := Fld.keep F_code_w_NODE_DELETED Kq1 nin0
  obtain ⟨T10, X10, e10, st10⟩ := getF X7 hx hZ hown (host := "") (Or.inl (hw _ (List.mem_of_getElem? (i := 23) rfl))) Via.refl e7 f_9 (g := (mkF m 26 #[.val (.int p0), .val .null, .val (.ref b_1), .val (.int (4 : Int32)), .val (.int (1 : Int32)), .val (.ref w_NODE_DELETED)] [(.ref w_NODE_DELETED)])) rfl rfl (hb hby own_d1_26)
  refine Good.back st10 ?_
  show Good p e below _ (T10.setTop (mkF m 29 #[.val (.int p0), .val .null, .val (.ref b_1), .val (.int (4 : Int32)), .val (.int (1 : Int32)), .val (.ref w_NODE_DELETED)] [(.int (2 : Int32))]))
  refine Good.back (fun _ k => XS.iloadN X10.here hx rfl (hb hby own_d1_29) rfl k) ?_
  show Good p e below _ (T10.setTop (mkF m 30 #[.val (.int p0), .val .null, .val (.ref b_1), .val (.int (4 : Int32)), .val (.int (1 : Int32)), .val (.ref w_NODE_DELETED)] [(.int p0), (.int (2 : Int32))]))
  refine Good.back (fun _ k => XS.icmpYes X10.here hx rfl (pc0 := 30) (pc' := 36) rfl (hb hby own_d1_30) rfl (feq (fun q => hp1 q.symm)).2 (by decide) (by decide) k) ?_
  show Good p e below _ (T10.setTop (mkF m 36 #[.val (.int p0), .val .null, .val (.ref b_1), .val (.int (4 : Int32)), .val (.int (1 : Int32)), .val (.ref w_NODE_DELETED)] []))
  refine Good.back (fun _ k => XS.iinc X10.here hx rfl (hb hby own_d1_36) rfl (l' := #[.val (.int p0), .val .null, .val (.ref b_1), .val (.int (4 : Int32)), .val (.int ((1 : Int32) + (1 : Int32))), .val (.ref w_NODE_DELETED)]) rfl k) ?_
  show Good p e below _ (T10.setTop (mkF m 39 #[.val (.int p0), .val .null, .val (.ref b_1), .val (.int (4 : Int32)), .val (.int ((1 : Int32) + (1 : Int32))), .val (.ref w_NODE_DELETED)] []))
  rw [show (((1 : Int32) + (1 : Int32)) : Int32) = (2 : Int32) from by decide]
  show Good p e below _ (T10.setTop (mkF m 39 #[.val (.int p0), .val .null, .val (.ref b_1), .val (.int (4 : Int32)), .val (.int (2 : Int32)), .val (.ref w_NODE_DELETED)] []))
  refine Good.back (fun _ k => XS.goto X10.here hx rfl (pc0 := 39) (pc' := 12) rfl (hb hby own_d1_39) (by decide) (by decide) k) ?_
  show Good p e below _ (T10.setTop (mkF m 12 #[.val (.int p0), .val .null, .val (.ref b_1), .val (.int (4 : Int32)), .val (.int (2 : Int32)), .val (.ref w_NODE_DELETED)] []))
  refine Good.back (fun _ k => XS.iload X10.here hx rfl (hb hby own_d1_12) rfl k) ?_
  show Good p e below _ (T10.setTop (mkF m 14 #[.val (.int p0), .val .null, .val (.ref b_1), .val (.int (4 : Int32)), .val (.int (2 : Int32)), .val (.ref w_NODE_DELETED)] [(.int (2 : Int32))]))
  refine Good.back (fun _ k => XS.iloadN X10.here hx rfl (hb hby own_d1_14) rfl k) ?_
  show Good p e below _ (T10.setTop (mkF m 15 #[.val (.int p0), .val .null, .val (.ref b_1), .val (.int (4 : Int32)), .val (.int (2 : Int32)), .val (.ref w_NODE_DELETED)] [(.int (4 : Int32)), (.int (2 : Int32))]))
  refine Good.back (fun _ k => XS.icmpNo X10.here hx rfl (hb hby own_d1_15) rfl (tlt (by decide : ((2 : Int32) < (4 : Int32)))).2.1 k) ?_
  show Good p e below _ (T10.setTop (mkF m 18 #[.val (.int p0), .val .null, .val (.ref b_1), .val (.int (4 : Int32)), .val (.int (2 : Int32)), .val (.ref w_NODE_DELETED)] []))
  refine Good.back (fun _ k => XS.aloadN X10.here hx rfl (hb hby own_d1_18) rfl rfl k) ?_
  show Good p e below _ (T10.setTop (mkF m 19 #[.val (.int p0), .val .null, .val (.ref b_1), .val (.int (4 : Int32)), .val (.int (2 : Int32)), .val (.ref w_NODE_DELETED)] [(.ref b_1)]))
  refine Good.back (fun _ k => XS.iload X10.here hx rfl (hb hby own_d1_19) rfl k) ?_
  show Good p e below _ (T10.setTop (mkF m 21 #[.val (.int p0), .val .null, .val (.ref b_1), .val (.int (4 : Int32)), .val (.int (2 : Int32)), .val (.ref w_NODE_DELETED)] [(.int (2 : Int32)), (.ref b_1)]))
  have fc11 := o1_1
  obtain ⟨cl11, Ar11, qk11, S11, N11', H11, G11⟩ := fc11
  have hin11 : ¬ ((2 : Int32) < 0 ∨ cl11.slots.size ≤ ((2 : Int32)).toNatClampNeg) := inb_of S11 ⟨by decide, by decide⟩
  have hat11 : cl11.slots[((2 : Int32)).toNatClampNeg]? = some (.ref w_NODE_DATA_CHANGED) := Has.at H11 hin11 rfl
  refine Good.back (X10.aaload hx (j := (2 : Int32)) (v := (.ref w_NODE_DATA_CHANGED)) (by rw [e10]; exact Ar11.1) (State.isArrayOf_alike hZ.alike Ar11.2.1) rfl Ar11.2.2 hin11 hat11 (g := (mkF m 21 #[.val (.int p0), .val .null, .val (.ref b_1), .val (.int (4 : Int32)), .val (.int (2 : Int32)), .val (.ref w_NODE_DELETED)] [(.int (2 : Int32)), (.ref b_1)])) rfl rfl (hb hby own_d1_21)) ?_
  show Good p e below _ (T10.setTop (mkF m 22 #[.val (.int p0), .val .null, .val (.ref b_1), .val (.int (4 : Int32)), .val (.int (2 : Int32)), .val (.ref w_NODE_DELETED)] [(.ref w_NODE_DATA_CHANGED)]))
  refine Good.back (fun _ k => XS.astore X10.here hx rfl (hb hby own_d1_22) rfl rfl (l' := #[.val (.int p0), .val .null, .val (.ref b_1), .val (.int (4 : Int32)), .val (.int (2 : Int32)), .val (.ref w_NODE_DATA_CHANGED)]) rfl k) ?_
  show Good p e below _ (T10.setTop (mkF m 24 #[.val (.int p0), .val .null, .val (.ref b_1), .val (.int (4 : Int32)), .val (.int (2 : Int32)), .val (.ref w_NODE_DATA_CHANGED)] []))
  refine Good.back (fun _ k => XS.aload X10.here hx rfl (hb hby own_d1_24) rfl rfl k) ?_
  show Good p e below _ (T10.setTop (mkF m 26 #[.val (.int p0), .val .null, .val (.ref b_1), .val (.int (4 : Int32)), .val (.int (2 : Int32)), .val (.ref w_NODE_DATA_CHANGED)] [(.ref w_NODE_DATA_CHANGED)]))
  have f_12 : Fld Z T1.heap w_NODE_DATA_CHANGED "com/example/vartija/vartija/client/WatchEvent$Type" "code" "I" (.int (3 : Int32)) := Fld.keep F_code_w_NODE_DATA_CHANGED Kq1 nin0
  obtain ⟨T13, X13, e13, st13⟩ := getF X10 hx hZ hown (host := "") (Or.inl (hw _ (List.mem_of_getElem? (i := 23) rfl))) Via.refl e10 f_12 (g := (mkF m 26 #[.val (.int p0), .val .null, .val (.ref b_1), .val (.int (4 : Int32)), .val (.int (2 : Int32)), .val (.ref w_NODE_DATA_CHANGED)] [(.ref w_NODE_DATA_CHANGED)])) rfl rfl (hb hby own_d1_26)
  refine Good.back st13 ?_
  show Good p e below _ (T13.setTop (mkF m 29 #[.val (.int p0), .val .null, .val (.ref b_1), .val (.int (4 : Int32)), .val (.int (2 : Int32)), .val (.ref w_NODE_DATA_CHANGED)] [(.int (3 : Int32))]))
  refine Good.back (fun _ k => XS.iloadN X13.here hx rfl (hb hby own_d1_29) rfl k) ?_
  show Good p e below _ (T13.setTop (mkF m 30 #[.val (.int p0), .val .null, .val (.ref b_1), .val (.int (4 : Int32)), .val (.int (2 : Int32)), .val (.ref w_NODE_DATA_CHANGED)] [(.int p0), (.int (3 : Int32))]))
  refine Good.back (fun _ k => XS.icmpYes X13.here hx rfl (pc0 := 30) (pc' := 36) rfl (hb hby own_d1_30) rfl (feq (fun q => hp2 q.symm)).2 (by decide) (by decide) k) ?_
  show Good p e below _ (T13.setTop (mkF m 36 #[.val (.int p0), .val .null, .val (.ref b_1), .val (.int (4 : Int32)), .val (.int (2 : Int32)), .val (.ref w_NODE_DATA_CHANGED)] []))
  refine Good.back (fun _ k => XS.iinc X13.here hx rfl (hb hby own_d1_36) rfl (l' := #[.val (.int p0), .val .null, .val (.ref b_1), .val (.int (4 : Int32)), .val (.int ((2 : Int32) + (1 : Int32))), .val (.ref w_NODE_DATA_CHANGED)]) rfl k) ?_
  show Good p e below _ (T13.setTop (mkF m 39 #[.val (.int p0), .val .null, .val (.ref b_1), .val (.int (4 : Int32)), .val (.int ((2 : Int32) + (1 : Int32))), .val (.ref w_NODE_DATA_CHANGED)] []))
  rw [show (((2 : Int32) + (1 : Int32)) : Int32) = (3 : Int32) from by decide]
  show Good p e below _ (T13.setTop (mkF m 39 #[.val (.int p0), .val .null, .val (.ref b_1), .val (.int (4 : Int32)), .val (.int (3 : Int32)), .val (.ref w_NODE_DATA_CHANGED)] []))
  refine Good.back (fun _ k => XS.goto X13.here hx rfl (pc0 := 39) (pc' := 12) rfl (hb hby own_d1_39) (by decide) (by decide) k) ?_
  show Good p e below _ (T13.setTop (mkF m 12 #[.val (.int p0), .val .null, .val (.ref b_1), .val (.int (4 : Int32)), .val (.int (3 : Int32)), .val (.ref w_NODE_DATA_CHANGED)] []))
  refine Good.back (fun _ k => XS.iload X13.here hx rfl (hb hby own_d1_12) rfl k) ?_
  show Good p e below _ (T13.setTop (mkF m 14 #[.val (.int p0), .val .null, .val (.ref b_1), .val (.int (4 : Int32)), .val (.int (3 : Int32)), .val (.ref w_NODE_DATA_CHANGED)] [(.int (3 : Int32))]))
  refine Good.back (fun _ k => XS.iloadN X13.here hx rfl (hb hby own_d1_14) rfl k) ?_
  show Good p e below _ (T13.setTop (mkF m 15 #[.val (.int p0), .val .null, .val (.ref b_1), .val (.int (4 : Int32)), .val (.int (3 : Int32)), .val (.ref w_NODE_DATA_CHANGED)] [(.int (4 : Int32)), (.int (3 : Int32))]))
  refine Good.back (fun _ k => XS.icmpNo X13.here hx rfl (hb hby own_d1_15) rfl (tlt (by decide : ((3 : Int32) < (4 : Int32)))).2.1 k) ?_
  show Good p e below _ (T13.setTop (mkF m 18 #[.val (.int p0), .val .null, .val (.ref b_1), .val (.int (4 : Int32)), .val (.int (3 : Int32)), .val (.ref w_NODE_DATA_CHANGED)] []))
  refine Good.back (fun _ k => XS.aloadN X13.here hx rfl (hb hby own_d1_18) rfl rfl k) ?_
  show Good p e below _ (T13.setTop (mkF m 19 #[.val (.int p0), .val .null, .val (.ref b_1), .val (.int (4 : Int32)), .val (.int (3 : Int32)), .val (.ref w_NODE_DATA_CHANGED)] [(.ref b_1)]))
  refine Good.back (fun _ k => XS.iload X13.here hx rfl (hb hby own_d1_19) rfl k) ?_
  show Good p e below _ (T13.setTop (mkF m 21 #[.val (.int p0), .val .null, .val (.ref b_1), .val (.int (4 : Int32)), .val (.int (3 : Int32)), .val (.ref w_NODE_DATA_CHANGED)] [(.int (3 : Int32)), (.ref b_1)]))
  have fc14 := o1_1
  obtain ⟨cl14, Ar14, qk14, S14, N14', H14, G14⟩ := fc14
  have hin14 : ¬ ((3 : Int32) < 0 ∨ cl14.slots.size ≤ ((3 : Int32)).toNatClampNeg) := inb_of S14 ⟨by decide, by decide⟩
  have hat14 : cl14.slots[((3 : Int32)).toNatClampNeg]? = some (.ref w_NODE_CHILDREN_CHANGED) := Has.at H14 hin14 rfl
  refine Good.back (X13.aaload hx (j := (3 : Int32)) (v := (.ref w_NODE_CHILDREN_CHANGED)) (by rw [e13]; exact Ar14.1) (State.isArrayOf_alike hZ.alike Ar14.2.1) rfl Ar14.2.2 hin14 hat14 (g := (mkF m 21 #[.val (.int p0), .val .null, .val (.ref b_1), .val (.int (4 : Int32)), .val (.int (3 : Int32)), .val (.ref w_NODE_DATA_CHANGED)] [(.int (3 : Int32)), (.ref b_1)])) rfl rfl (hb hby own_d1_21)) ?_
  show Good p e below _ (T13.setTop (mkF m 22 #[.val (.int p0), .val .null, .val (.ref b_1), .val (.int (4 : Int32)), .val (.int (3 : Int32)), .val (.ref w_NODE_DATA_CHANGED)] [(.ref w_NODE_CHILDREN_CHANGED)]))
  refine Good.back (fun _ k => XS.astore X13.here hx rfl (hb hby own_d1_22) rfl rfl (l' := #[.val (.int p0), .val .null, .val (.ref b_1), .val (.int (4 : Int32)), .val (.int (3 : Int32)), .val (.ref w_NODE_CHILDREN_CHANGED)]) rfl k) ?_
  show Good p e below _ (T13.setTop (mkF m 24 #[.val (.int p0), .val .null, .val (.ref b_1), .val (.int (4 : Int32)), .val (.int (3 : Int32)), .val (.ref w_NODE_CHILDREN_CHANGED)] []))
  refine Good.back (fun _ k => XS.aload X13.here hx rfl (hb hby own_d1_24) rfl rfl k) ?_
  show Good p e below _ (T13.setTop (mkF m 26 #[.val (.int p0), .val .null, .val (.ref b_1), .val (.int (4 : Int32)), .val (.int (3 : Int32)), .val (.ref w_NODE_CHILDREN_CHANGED)] [(.ref w_NODE_CHILDREN_CHANGED)]))
  have f_15 : Fld Z T1.heap w_NODE_CHILDREN_CHANGED "com/example/vartija/vartija/client/WatchEvent$Type" "code" "I" (.int (4 : Int32)) := Fld.keep F_code_w_NODE_CHILDREN_CHANGED Kq1 nin0
  obtain ⟨T16, X16, e16, st16⟩ := getF X13 hx hZ hown (host := "") (Or.inl (hw _ (List.mem_of_getElem? (i := 23) rfl))) Via.refl e13 f_15 (g := (mkF m 26 #[.val (.int p0), .val .null, .val (.ref b_1), .val (.int (4 : Int32)), .val (.int (3 : Int32)), .val (.ref w_NODE_CHILDREN_CHANGED)] [(.ref w_NODE_CHILDREN_CHANGED)])) rfl rfl (hb hby own_d1_26)
  refine Good.back st16 ?_
  show Good p e below _ (T16.setTop (mkF m 29 #[.val (.int p0), .val .null, .val (.ref b_1), .val (.int (4 : Int32)), .val (.int (3 : Int32)), .val (.ref w_NODE_CHILDREN_CHANGED)] [(.int (4 : Int32))]))
  refine Good.back (fun _ k => XS.iloadN X16.here hx rfl (hb hby own_d1_29) rfl k) ?_
  show Good p e below _ (T16.setTop (mkF m 30 #[.val (.int p0), .val .null, .val (.ref b_1), .val (.int (4 : Int32)), .val (.int (3 : Int32)), .val (.ref w_NODE_CHILDREN_CHANGED)] [(.int p0), (.int (4 : Int32))]))
  refine Good.back (fun _ k => XS.icmpYes X16.here hx rfl (pc0 := 30) (pc' := 36) rfl (hb hby own_d1_30) rfl (feq (fun q => hp3 q.symm)).2 (by decide) (by decide) k) ?_
  show Good p e below _ (T16.setTop (mkF m 36 #[.val (.int p0), .val .null, .val (.ref b_1), .val (.int (4 : Int32)), .val (.int (3 : Int32)), .val (.ref w_NODE_CHILDREN_CHANGED)] []))
  refine Good.back (fun _ k => XS.iinc X16.here hx rfl (hb hby own_d1_36) rfl (l' := #[.val (.int p0), .val .null, .val (.ref b_1), .val (.int (4 : Int32)), .val (.int ((3 : Int32) + (1 : Int32))), .val (.ref w_NODE_CHILDREN_CHANGED)]) rfl k) ?_
  show Good p e below _ (T16.setTop (mkF m 39 #[.val (.int p0), .val .null, .val (.ref b_1), .val (.int (4 : Int32)), .val (.int ((3 : Int32) + (1 : Int32))), .val (.ref w_NODE_CHILDREN_CHANGED)] []))
  rw [show (((3 : Int32) + (1 : Int32)) : Int32) = (4 : Int32) from by decide]
  show Good p e below _ (T16.setTop (mkF m 39 #[.val (.int p0), .val .null, .val (.ref b_1), .val (.int (4 : Int32)), .val (.int (4 : Int32)), .val (.ref w_NODE_CHILDREN_CHANGED)] []))
  refine Good.back (fun _ k => XS.goto X16.here hx rfl (pc0 := 39) (pc' := 12) rfl (hb hby own_d1_39) (by decide) (by decide) k) ?_
  show Good p e below _ (T16.setTop (mkF m 12 #[.val (.int p0), .val .null, .val (.ref b_1), .val (.int (4 : Int32)), .val (.int (4 : Int32)), .val (.ref w_NODE_CHILDREN_CHANGED)] []))
  refine Good.back (fun _ k => XS.iload X16.here hx rfl (hb hby own_d1_12) rfl k) ?_
  show Good p e below _ (T16.setTop (mkF m 14 #[.val (.int p0), .val .null, .val (.ref b_1), .val (.int (4 : Int32)), .val (.int (4 : Int32)), .val (.ref w_NODE_CHILDREN_CHANGED)] [(.int (4 : Int32))]))
  refine Good.back (fun _ k => XS.iloadN X16.here hx rfl (hb hby own_d1_14) rfl k) ?_
  show Good p e below _ (T16.setTop (mkF m 15 #[.val (.int p0), .val .null, .val (.ref b_1), .val (.int (4 : Int32)), .val (.int (4 : Int32)), .val (.ref w_NODE_CHILDREN_CHANGED)] [(.int (4 : Int32)), (.int (4 : Int32))]))
  refine Good.back (fun _ k => XS.icmpYes X16.here hx rfl (pc0 := 15) (pc' := 42) rfl (hb hby own_d1_15) rfl (flt (by decide : ¬ ((4 : Int32) < (4 : Int32)))).2.1 (by decide) (by decide) k) ?_
  show Good p e below _ (T16.setTop (mkF m 42 #[.val (.int p0), .val .null, .val (.ref b_1), .val (.int (4 : Int32)), .val (.int (4 : Int32)), .val (.ref w_NODE_CHILDREN_CHANGED)] []))
  refine Good.back (fun _ k => XS.aloadN X16.here hx rfl (hb hby own_d1_42) rfl rfl k) ?_
  show Good p e below _ (T16.setTop (mkF m 43 #[.val (.int p0), .val .null, .val (.ref b_1), .val (.int (4 : Int32)), .val (.int (4 : Int32)), .val (.ref w_NODE_CHILDREN_CHANGED)] [.null]))
  obtain ⟨fs17, hr17, hrun17, hended17, hW17, hsame17⟩ := X16.leave (v := some .null) (fun h => by rw [Bd.returns] at h; cases h)
  refine Good.done (retOut X16 hx Bd.returns rfl (Or.inr (Or.inr (Or.inr (Or.inr ⟨rfl, rfl, rfl⟩)))) (hb hby own_d1_43) hr17) hrun17 hended17 ⟨_, _, rfl, ?_, ⟨_, rfl⟩, hW17, hsame17.mono (by decide) (by decide)⟩
  show Q1_4 Z p0 w__VALUES w_NODE_CREATED w_NODE_DELETED w_NODE_DATA_CHANGED w_NODE_CHILDREN_CHANGED kc_w__VALUES h0 n0 _ T16.heap _
  rw [e16]
  exact ⟨rfl, N1, K3⟩
theorem own_pd31 : parseMethodDescriptor "(I)Lcom/example/vartija/vartija/client/WatchEvent$Type;" = some ⟨[.int], some (.object "com/example/vartija/vartija/client/WatchEvent$Type")⟩ := by decide +kernel
theorem own_pn1 : plainName "com/example/vartija/vartija/client/TypeOfPinLaw" = true := by first | (simp [plainName, overriddenIn]; done) | decide +kernel
theorem own_ef_0 (m : MethodId) (x0 : Int32) (x1 : Int32) : entryFrame m #[(.int x0), (.int x1)] maxLocals = mkF m 0 #[.val (.int x0), .val (.int x1), .unset, .unset] [] := by first | (simp [entryFrame, mkF, argsToLocals, Value.category, maxLocals]; done) | rfl
def Q0 (Z : State) (p0 : Int32) (p1 : Int32) (w__VALUES : Addr) (w_NODE_CREATED : Addr) (w_NODE_DELETED : Addr) (w_NODE_DATA_CHANGED : Addr) (w_NODE_CHILDREN_CHANGED : Addr) (kc_w__VALUES : ClassId) (h0 : Heap) (n0 : Nat) (v : Option Value) (h : Heap) (L : List Loc) : Prop := v = some (.int 1) ∧ Fr n0 L
set_option maxRecDepth 65536 in
set_option maxHeartbeats 40000000 in
theorem rm0 (l : Launch) (Z : State) (a0 : Array Value) (hw : ∀ d ∈ tables_1, d.before a0 Z = true) (ws : List Jvm.Cond) (p0 : Int32) (p1 : Int32) (w__VALUES : Addr) (w_NODE_CREATED : Addr) (w_NODE_DELETED : Addr) (w_NODE_DATA_CHANGED : Addr) (w_NODE_CHILDREN_CHANGED : Addr) (kc_w__VALUES : ClassId) (h0 : Heap) (n0 : Nat) (Z0 : n0 ≤ h0.size) (S_w__VALUES : Sta Z h0 "com/example/vartija/vartija/client/WatchEvent$Type" "$VALUES" "[Lcom/example/vartija/vartija/client/WatchEvent$Type;" (.ref w__VALUES)) (E_w__VALUES : Exa Z h0 w__VALUES "[Lcom/example/vartija/vartija/client/WatchEvent$Type;") (S_w_NODE_CREATED : Sta Z h0 "com/example/vartija/vartija/client/WatchEvent$Type" "NODE_CREATED" "Lcom/example/vartija/vartija/client/WatchEvent$Type;" (.ref w_NODE_CREATED)) (E_w_NODE_CREATED : Exa Z h0 w_NODE_CREATED "com/example/vartija/vartija/client/WatchEvent$Type") (S_w_NODE_DELETED : Sta Z h0 "com/example/vartija/vartija/client/WatchEvent$Type" "NODE_DELETED" "Lcom/example/vartija/vartija/client/WatchEvent$Type;" (.ref w_NODE_DELETED)) (E_w_NODE_DELETED : Exa Z h0 w_NODE_DELETED "com/example/vartija/vartija/client/WatchEvent$Type") (S_w_NODE_DATA_CHANGED : Sta Z h0 "com/example/vartija/vartija/client/WatchEvent$Type" "NODE_DATA_CHANGED" "Lcom/example/vartija/vartija/client/WatchEvent$Type;" (.ref w_NODE_DATA_CHANGED)) (E_w_NODE_DATA_CHANGED : Exa Z h0 w_NODE_DATA_CHANGED "com/example/vartija/vartija/client/WatchEvent$Type") (S_w_NODE_CHILDREN_CHANGED : Sta Z h0 "com/example/vartija/vartija/client/WatchEvent$Type" "NODE_CHILDREN_CHANGED" "Lcom/example/vartija/vartija/client/WatchEvent$Type;" (.ref w_NODE_CHILDREN_CHANGED)) (E_w_NODE_CHILDREN_CHANGED : Exa Z h0 w_NODE_CHILDREN_CHANGED "com/example/vartija/vartija/client/WatchEvent$Type") (F_code_w_NODE_CREATED : Fld Z h0 w_NODE_CREATED "com/example/vartija/vartija/client/WatchEvent$Type" "code" "I" (.int (1 : Int32))) (F_code_w_NODE_DELETED : Fld Z h0 w_NODE_DELETED "com/example/vartija/vartija/client/WatchEvent$Type" "code" "I" (.int (2 : Int32))) (F_code_w_NODE_DATA_CHANGED : Fld Z h0 w_NODE_DATA_CHANGED "com/example/vartija/vartija/client/WatchEvent$Type" "code" "I" (.int (3 : Int32))) (F_code_w_NODE_CHILDREN_CHANGED : Fld Z h0 w_NODE_CHILDREN_CHANGED "com/example/vartija/vartija/client/WatchEvent$Type" "code" "I" (.int (4 : Int32))) (V_w__VALUES : Arv Z h0 w__VALUES kc_w__VALUES (.object "com/example/vartija/vartija/client/WatchEvent$Type") (4 : Int32) [(.ref w_NODE_CREATED), (.ref w_NODE_DELETED), (.ref w_NODE_DATA_CHANGED), (.ref w_NODE_CHILDREN_CHANGED)] .null) :
    MetFree l x (head1 (Jvm.Cond.code x code maxLocals ret :: ws) room_1) (fun a U => a = #[(.int p0), (.int p1)] ∧ Z.Warmed39 U.vm ∧ U.heap = h0) (fun _ _ _ _ _ => True) (fun _ U o U' => ∃ v L, o = .returned v ∧ Q0 Z p0 p1 w__VALUES w_NODE_CREATED w_NODE_DELETED w_NODE_DATA_CHANGED w_NODE_CHILDREN_CHANGED kc_w__VALUES h0 n0 v U'.heap L ∧ FrameEnd U o U' L 16 128) := by
  refine MetFree.of_bodySF (plainFor_of_name own_pn1) hisR ?_
  intro p e s m args below meth c s₁ Bd hml0 hP hK
  obtain ⟨rfl, hZ, hh⟩ := hP
  have hx := Bd.exec
  have hby := Bd.bytes
  have hml : c.maxLocals = 4 := hml0
  have hown : s.vm.findClass "com/example/vartija/vartija/client/TypeOfPinLaw" = some m.cls := findClass_of_methodNamed Bd.named
  have hnm := (name_of_methodNamed Bd.named Bd.method).1
  have X0 : Stand p l e room_1 s m #[(.int p0), (.int p1)] below meth c s₁ [] 0 0 := Stand.of_body Bd
  have e0 : s₁.heap = h0 := by rw [← hh, Bd.state]; rfl
  have N0 := Fr.nil n0
  show Good p e below (fun o U' => ∃ v L, o = .returned v ∧ Q0 Z p0 p1 w__VALUES w_NODE_CREATED w_NODE_DELETED w_NODE_DATA_CHANGED w_NODE_CHILDREN_CHANGED kc_w__VALUES h0 n0 v U'.heap L ∧ FrameEnd s o U' L 16 128) _
  refine Good.back (S' := s₁.setTop (mkF m 0 #[.val (.int p0), .val (.int p1), .unset, .unset] [])) (fun t k => castTop (own_ef_0 m p0 p1) k) ?_
  show Good p e below _ (s₁.setTop (mkF m 0 #[.val (.int p0), .val (.int p1), .unset, .unset] []))
  refine Good.back (fun _ k => XS.iloadN X0.here hx rfl (hb hby at_0) rfl k) ?_
  show Good p e below _ (s₁.setTop (mkF m 1 #[.val (.int p0), .val (.int p1), .unset, .unset] [(.int p1)]))
  refine Good.back (fun _ k => XS.iconst X0.here hx rfl (hb hby at_1) k) ?_
  show Good p e below _ (s₁.setTop (mkF m 2 #[.val (.int p0), .val (.int p1), .unset, .unset] [(.int (1 : Int32)), (.int p1)]))
  refine Good.back (fun _ k => XS.iand X0.here hx rfl (hb hby at_2) rfl k) ?_
  show Good p e below _ (s₁.setTop (mkF m 3 #[.val (.int p0), .val (.int p1), .unset, .unset] [(.int (p1 &&& (1 : Int32)))]))
  by_cases hc3_1 : (p1 &&& (1 : Int32)) = (0 : Int32)
  · refine Good.back (fun _ k => XS.ifYes X0.here hx rfl (pc0 := 3) (pc' := 11) rfl (hb hby at_3) rfl ((if0 _ _).trans (teq hc3_1).1) (by decide) (by decide) k) ?_
    show Good p e below _ (s₁.setTop (mkF m 11 #[.val (.int p0), .val (.int p1), .unset, .unset] []))
    refine Good.back (fun _ k => XS.iloadN X0.here hx rfl (hb hby at_11) rfl k) ?_
    show Good p e below _ (s₁.setTop (mkF m 12 #[.val (.int p0), .val (.int p1), .unset, .unset] [(.int p0)]))
    refine Good.back (X0.ldcInt hx hown (mvT hZ (hw _ (List.mem_of_getElem? (i := 25) rfl))) (g := (mkF m 12 #[.val (.int p0), .val (.int p1), .unset, .unset] [(.int p0)])) rfl (hb hby at_12)) ?_
    show Good p e below _ (s₁.setTop (mkF m 14 #[.val (.int p0), .val (.int p1), .unset, .unset] [(.int (2147483647 : Int32)), (.int p0)]))
    refine Good.back (fun _ k => XS.iand X0.here hx rfl (hb hby at_14) rfl k) ?_
    show Good p e below _ (s₁.setTop (mkF m 15 #[.val (.int p0), .val (.int p1), .unset, .unset] [(.int (p0 &&& (2147483647 : Int32)))]))
    refine Good.back (fun _ k => XS.bipush X0.here hx rfl (hb hby at_15) k) ?_
    show Good p e below _ (s₁.setTop (mkF m 17 #[.val (.int p0), .val (.int p1), .unset, .unset] [(.int (7 : Int32)), (.int (p0 &&& (2147483647 : Int32)))]))
    refine Good.back (fun _ k => iremM (g := (mkF m 17 #[.val (.int p0), .val (.int p1), .unset, .unset] [(.int (7 : Int32)), (.int (p0 &&& (2147483647 : Int32)))])) X0 hx rfl (hb hby at_17) rfl (by decide) k) ?_
    show Good p e below _ (s₁.setTop (mkF m 18 #[.val (.int p0), .val (.int p1), .unset, .unset] [(.int ((p0 &&& (2147483647 : Int32)) % (7 : Int32)))]))
    refine Good.back (fun _ k => XS.iconst X0.here hx rfl (hb hby at_18) k) ?_
    show Good p e below _ (s₁.setTop (mkF m 19 #[.val (.int p0), .val (.int p1), .unset, .unset] [(.int (1 : Int32)), (.int ((p0 &&& (2147483647 : Int32)) % (7 : Int32)))]))
    refine Good.back (fun _ k => XS.isub X0.here hx rfl (hb hby at_19) rfl k) ?_
    show Good p e below _ (s₁.setTop (mkF m 20 #[.val (.int p0), .val (.int p1), .unset, .unset] [(.int (((p0 &&& (2147483647 : Int32)) % (7 : Int32)) - (1 : Int32)))]))
    refine Good.back (fun _ k => XS.istoreN X0.here hx rfl (hb hby at_20) rfl (l' := #[.val (.int p0), .val (.int p1), .val (.int (((p0 &&& (2147483647 : Int32)) % (7 : Int32)) - (1 : Int32))), .unset]) rfl k) ?_
    show Good p e below _ (s₁.setTop (mkF m 21 #[.val (.int p0), .val (.int p1), .val (.int (((p0 &&& (2147483647 : Int32)) % (7 : Int32)) - (1 : Int32))), .unset] []))
    refine Good.back (fun _ k => XS.aconstNull X0.here hx rfl (hb hby at_21) k) ?_
    show Good p e below _ (s₁.setTop (mkF m 22 #[.val (.int p0), .val (.int p1), .val (.int (((p0 &&& (2147483647 : Int32)) % (7 : Int32)) - (1 : Int32))), .unset] [.null]))
    refine Good.back (fun _ k => XS.astoreN X0.here hx rfl (hb hby at_22) rfl rfl (l' := #[.val (.int p0), .val (.int p1), .val (.int (((p0 &&& (2147483647 : Int32)) % (7 : Int32)) - (1 : Int32))), .val .null]) rfl k) ?_
    obtain ⟨cc, hcc⟩ : ∃ z, z = (((p0 &&& (2147483647 : Int32)) % (7 : Int32)) - (1 : Int32)) := ⟨_, rfl⟩
    rw [← hcc]
    show Good p e below _ (s₁.setTop (mkF m 23 #[.val (.int p0), .val (.int p1), .val (.int cc), .val .null] []))
    refine Good.back (fun _ k => XS.iloadN X0.here hx rfl (hb hby at_23) rfl k) ?_
    show Good p e below _ (s₁.setTop (mkF m 24 #[.val (.int p0), .val (.int p1), .val (.int cc), .val .null] [(.int cc)]))
    refine Good.back (fun _ k => XS.iconst X0.here hx rfl (hb hby at_24) k) ?_
    show Good p e below _ (s₁.setTop (mkF m 25 #[.val (.int p0), .val (.int p1), .val (.int cc), .val .null] [(.int (1 : Int32)), (.int cc)]))
    by_cases hc25_2 : cc = (1 : Int32)
    · refine Good.back (fun _ k => XS.icmpNo X0.here hx rfl (hb hby at_25) rfl (teq hc25_2).2 k) ?_
      show Good p e below _ (s₁.setTop (mkF m 28 #[.val (.int p0), .val (.int p1), .val (.int cc), .val .null] []))
      obtain ⟨T3, X3, e3, st3⟩ := getS2 X0 hx hZ hown (host := "") (Or.inl (hw _ (List.mem_of_getElem? (i := 28) rfl))) Via.refl e0 S_w_NODE_CREATED (g := (mkF m 28 #[.val (.int p0), .val (.int p1), .val (.int cc), .val .null] [])) rfl (hb hby at_28)
      refine Good.back st3 ?_
      show Good p e below _ (T3.setTop (mkF m 31 #[.val (.int p0), .val (.int p1), .val (.int cc), .val .null] [(.ref w_NODE_CREATED)]))
      refine Good.back (fun _ k => XS.astoreN X3.here hx rfl (hb hby at_31) rfl rfl (l' := #[.val (.int p0), .val (.int p1), .val (.int cc), .val (.ref w_NODE_CREATED)]) rfl k) ?_
      show Good p e below _ (T3.setTop (mkF m 32 #[.val (.int p0), .val (.int p1), .val (.int cc), .val (.ref w_NODE_CREATED)] []))
      refine Good.back (fun _ k => XS.goto X3.here hx rfl (pc0 := 32) (pc' := 68) rfl (hb hby at_32) (by decide) (by decide) k) ?_
      show Good p e below _ (T3.setTop (mkF m 68 #[.val (.int p0), .val (.int p1), .val (.int cc), .val (.ref w_NODE_CREATED)] []))
      refine Good.back (fun _ k => XS.iloadN X3.here hx rfl (hb hby at_68) rfl k) ?_
      show Good p e below _ (T3.setTop (mkF m 69 #[.val (.int p0), .val (.int p1), .val (.int cc), .val (.ref w_NODE_CREATED)] [(.int cc)]))
      obtain ⟨_, _, ⟨T4, L4, k4, n4⟩, -, X4, ⟨Lc4, hQ4, l4, y4, z4⟩, st4⟩ := Jvm.LawKit.callS X3 hx (y := (⟨"com/example/vartija/vartija/client/WatchEvent$Type", "of", "(I)Lcom/example/vartija/vartija/client/WatchEvent$Type;"⟩ : MethodName)) hown (mvT hZ (hw _ (List.mem_of_getElem? (i := 0) rfl))) (mvT hZ (hw _ (List.mem_of_getElem? (i := 1) rfl))) (mvT hZ (hw _ (List.mem_of_getElem? (i := 2) rfl))) (mvT hZ (hw _ (List.mem_of_getElem? (i := 3) rfl))) (by decide) (backOf (W := 0) (rm1_0 l Z a0 hw [] cc w__VALUES w_NODE_CREATED w_NODE_DELETED w_NODE_DATA_CHANGED w_NODE_CHILDREN_CHANGED kc_w__VALUES h0 n0 Z0 S_w__VALUES E_w__VALUES S_w_NODE_CREATED E_w_NODE_CREATED S_w_NODE_DELETED E_w_NODE_DELETED S_w_NODE_DATA_CHANGED E_w_NODE_DATA_CHANGED S_w_NODE_CHILDREN_CHANGED E_w_NODE_CHILDREN_CHANGED F_code_w_NODE_CREATED F_code_w_NODE_DELETED F_code_w_NODE_DATA_CHANGED F_code_w_NODE_CHILDREN_CHANGED V_w__VALUES (hc25_2)) hZ (hw _ (List.mem_of_getElem? (i := 3) rfl)) (hw _ (List.mem_of_getElem? (i := 2) rfl)) (by decide) (by decide)) (g := (mkF m 69 #[.val (.int p0), .val (.int p1), .val (.int cc), .val (.ref w_NODE_CREATED)] [(.int cc)])) rfl (by rw [hml]; rfl) (argsL := [(.int cc)]) (rest := []) (lenOf own_pd31 rfl) rfl (by show 2 * 0 + _ ≤ _; exact Nat.le_of_eq rfl) (hb hby at_69) (fun _ _ => ⟨rfl, e3, (by decide : 0 + 1 ≤ _), (by decide : 0 + 4 ≤ _)⟩)
      dsimp only [Pt.U, Pt.locs, Pt.cells, Pt.slots] at X4 l4 y4 z4 st4 hQ4
      subst l4 y4 z4
      obtain ⟨rfl, N4q, Kq4⟩ := hQ4
      have N4 := Fr.app N0 N4q
      have Z5 : n0 ≤ T4.heap.size := Nat.le_trans Z0 Kq4.1
      refine Good.back st4 ?_
      show Good p e below _ (T4.setTop (mkF m 72 #[.val (.int p0), .val (.int p1), .val (.int cc), .val (.ref w_NODE_CREATED)] [(.ref w_NODE_CREATED)]))
      refine Good.back (fun _ k => XS.aloadN X4.here hx rfl (hb hby at_72) rfl rfl k) ?_
      show Good p e below _ (T4.setTop (mkF m 73 #[.val (.int p0), .val (.int p1), .val (.int cc), .val (.ref w_NODE_CREATED)] [(.ref w_NODE_CREATED), (.ref w_NODE_CREATED)]))
      refine Good.back (fun _ k => Jvm.RoadKit.acmp (g := (mkF m 73 #[.val (.int p0), .val (.int p1), .val (.int cc), .val (.ref w_NODE_CREATED)] [(.ref w_NODE_CREATED), (.ref w_NODE_CREATED)])) X4 hx rfl rfl rfl (pc0 := 73) (pc' := 76) (same := true) rfl (hb hby at_73) rfl (decide_eq_true rfl) (by decide) (by decide) k) ?_
      show Good p e below _ (T4.setTop (mkF m 76 #[.val (.int p0), .val (.int p1), .val (.int cc), .val (.ref w_NODE_CREATED)] []))
      refine Good.back (fun _ k => XS.iconst X4.here hx rfl (hb hby at_76) k) ?_
      show Good p e below _ (T4.setTop (mkF m 77 #[.val (.int p0), .val (.int p1), .val (.int cc), .val (.ref w_NODE_CREATED)] [(.int (1 : Int32))]))
      refine Good.back (fun _ k => XS.goto X4.here hx rfl (pc0 := 77) (pc' := 81) rfl (hb hby at_77) (by decide) (by decide) k) ?_
      show Good p e below _ (T4.setTop (mkF m 81 #[.val (.int p0), .val (.int p1), .val (.int cc), .val (.ref w_NODE_CREATED)] [(.int (1 : Int32))]))
      obtain ⟨fs6, hr6, hrun6, hended6, hW6, hsame6⟩ := X4.leave (v := some (.int (1 : Int32))) (fun h => by rw [Bd.returns] at h; cases h)
      refine Good.done (retN X4 hx (t := .boolean) Bd.returns (by simp) (hb hby at_81) hr6) hrun6 hended6 ⟨_, _, rfl, ?_, ⟨_, rfl⟩, hW6, hsame6.mono (by decide) (by decide)⟩
      show Q0 Z p0 p1 w__VALUES w_NODE_CREATED w_NODE_DELETED w_NODE_DATA_CHANGED w_NODE_CHILDREN_CHANGED kc_w__VALUES h0 n0 _ T4.heap _
      exact ⟨rfl, N4⟩
    · refine Good.back (fun _ k => XS.icmpYes X0.here hx rfl (pc0 := 25) (pc' := 35) rfl (hb hby at_25) rfl (feq hc25_2).2 (by decide) (by decide) k) ?_
      show Good p e below _ (s₁.setTop (mkF m 35 #[.val (.int p0), .val (.int p1), .val (.int cc), .val .null] []))
      refine Good.back (fun _ k => XS.iloadN X0.here hx rfl (hb hby at_35) rfl k) ?_
      show Good p e below _ (s₁.setTop (mkF m 36 #[.val (.int p0), .val (.int p1), .val (.int cc), .val .null] [(.int cc)]))
      refine Good.back (fun _ k => XS.iconst X0.here hx rfl (hb hby at_36) k) ?_
      show Good p e below _ (s₁.setTop (mkF m 37 #[.val (.int p0), .val (.int p1), .val (.int cc), .val .null] [(.int (2 : Int32)), (.int cc)]))
      by_cases hc37_7 : cc = (2 : Int32)
      · refine Good.back (fun _ k => XS.icmpNo X0.here hx rfl (hb hby at_37) rfl (teq hc37_7).2 k) ?_
        show Good p e below _ (s₁.setTop (mkF m 40 #[.val (.int p0), .val (.int p1), .val (.int cc), .val .null] []))
        obtain ⟨T8, X8, e8, st8⟩ := getS2 X0 hx hZ hown (host := "") (Or.inl (hw _ (List.mem_of_getElem? (i := 29) rfl))) Via.refl e0 S_w_NODE_DELETED (g := (mkF m 40 #[.val (.int p0), .val (.int p1), .val (.int cc), .val .null] [])) rfl (hb hby at_40)
        refine Good.back st8 ?_
        show Good p e below _ (T8.setTop (mkF m 43 #[.val (.int p0), .val (.int p1), .val (.int cc), .val .null] [(.ref w_NODE_DELETED)]))
        refine Good.back (fun _ k => XS.astoreN X8.here hx rfl (hb hby at_43) rfl rfl (l' := #[.val (.int p0), .val (.int p1), .val (.int cc), .val (.ref w_NODE_DELETED)]) rfl k) ?_
        show Good p e below _ (T8.setTop (mkF m 44 #[.val (.int p0), .val (.int p1), .val (.int cc), .val (.ref w_NODE_DELETED)] []))
        refine Good.back (fun _ k => XS.goto X8.here hx rfl (pc0 := 44) (pc' := 68) rfl (hb hby at_44) (by decide) (by decide) k) ?_
        show Good p e below _ (T8.setTop (mkF m 68 #[.val (.int p0), .val (.int p1), .val (.int cc), .val (.ref w_NODE_DELETED)] []))
        refine Good.back (fun _ k => XS.iloadN X8.here hx rfl (hb hby at_68) rfl k) ?_
        show Good p e below _ (T8.setTop (mkF m 69 #[.val (.int p0), .val (.int p1), .val (.int cc), .val (.ref w_NODE_DELETED)] [(.int cc)]))
        obtain ⟨_, _, ⟨T9, L9, k9, n9⟩, -, X9, ⟨Lc9, hQ9, l9, y9, z9⟩, st9⟩ := Jvm.LawKit.callS X8 hx (y := (⟨"com/example/vartija/vartija/client/WatchEvent$Type", "of", "(I)Lcom/example/vartija/vartija/client/WatchEvent$Type;"⟩ : MethodName)) hown (mvT hZ (hw _ (List.mem_of_getElem? (i := 0) rfl))) (mvT hZ (hw _ (List.mem_of_getElem? (i := 1) rfl))) (mvT hZ (hw _ (List.mem_of_getElem? (i := 2) rfl))) (mvT hZ (hw _ (List.mem_of_getElem? (i := 3) rfl))) (by decide) (backOf (W := 0) (rm1_1 l Z a0 hw [] cc w__VALUES w_NODE_CREATED w_NODE_DELETED w_NODE_DATA_CHANGED w_NODE_CHILDREN_CHANGED kc_w__VALUES h0 n0 Z0 S_w__VALUES E_w__VALUES S_w_NODE_CREATED E_w_NODE_CREATED S_w_NODE_DELETED E_w_NODE_DELETED S_w_NODE_DATA_CHANGED E_w_NODE_DATA_CHANGED S_w_NODE_CHILDREN_CHANGED E_w_NODE_CHILDREN_CHANGED F_code_w_NODE_CREATED F_code_w_NODE_DELETED F_code_w_NODE_DATA_CHANGED F_code_w_NODE_CHILDREN_CHANGED V_w__VALUES (hc37_7)) hZ (hw _ (List.mem_of_getElem? (i := 3) rfl)) (hw _ (List.mem_of_getElem? (i := 2) rfl)) (by decide) (by decide)) (g := (mkF m 69 #[.val (.int p0), .val (.int p1), .val (.int cc), .val (.ref w_NODE_DELETED)] [(.int cc)])) rfl (by rw [hml]; rfl) (argsL := [(.int cc)]) (rest := []) (lenOf own_pd31 rfl) rfl (by show 2 * 0 + _ ≤ _; exact Nat.le_of_eq rfl) (hb hby at_69) (fun _ _ => ⟨rfl, e8, (by decide : 0 + 1 ≤ _), (by decide : 0 + 4 ≤ _)⟩)
        dsimp only [Pt.U, Pt.locs, Pt.cells, Pt.slots] at X9 l9 y9 z9 st9 hQ9
        subst l9 y9 z9
        obtain ⟨rfl, N9q, Kq9⟩ := hQ9
        have N9 := Fr.app N0 N9q
        have Z10 : n0 ≤ T9.heap.size := Nat.le_trans Z0 Kq9.1
        refine Good.back st9 ?_
        show Good p e below _ (T9.setTop (mkF m 72 #[.val (.int p0), .val (.int p1), .val (.int cc), .val (.ref w_NODE_DELETED)] [(.ref w_NODE_DELETED)]))
        refine Good.back (fun _ k => XS.aloadN X9.here hx rfl (hb hby at_72) rfl rfl k) ?_
        show Good p e below _ (T9.setTop (mkF m 73 #[.val (.int p0), .val (.int p1), .val (.int cc), .val (.ref w_NODE_DELETED)] [(.ref w_NODE_DELETED), (.ref w_NODE_DELETED)]))
        refine Good.back (fun _ k => Jvm.RoadKit.acmp (g := (mkF m 73 #[.val (.int p0), .val (.int p1), .val (.int cc), .val (.ref w_NODE_DELETED)] [(.ref w_NODE_DELETED), (.ref w_NODE_DELETED)])) X9 hx rfl rfl rfl (pc0 := 73) (pc' := 76) (same := true) rfl (hb hby at_73) rfl (decide_eq_true rfl) (by decide) (by decide) k) ?_
        show Good p e below _ (T9.setTop (mkF m 76 #[.val (.int p0), .val (.int p1), .val (.int cc), .val (.ref w_NODE_DELETED)] []))
        refine Good.back (fun _ k => XS.iconst X9.here hx rfl (hb hby at_76) k) ?_
        show Good p e below _ (T9.setTop (mkF m 77 #[.val (.int p0), .val (.int p1), .val (.int cc), .val (.ref w_NODE_DELETED)] [(.int (1 : Int32))]))
        refine Good.back (fun _ k => XS.goto X9.here hx rfl (pc0 := 77) (pc' := 81) rfl (hb hby at_77) (by decide) (by decide) k) ?_
        show Good p e below _ (T9.setTop (mkF m 81 #[.val (.int p0), .val (.int p1), .val (.int cc), .val (.ref w_NODE_DELETED)] [(.int (1 : Int32))]))
        obtain ⟨fs11, hr11, hrun11, hended11, hW11, hsame11⟩ := X9.leave (v := some (.int (1 : Int32))) (fun h => by rw [Bd.returns] at h; cases h)
        refine Good.done (retN X9 hx (t := .boolean) Bd.returns (by simp) (hb hby at_81) hr11) hrun11 hended11 ⟨_, _, rfl, ?_, ⟨_, rfl⟩, hW11, hsame11.mono (by decide) (by decide)⟩
        show Q0 Z p0 p1 w__VALUES w_NODE_CREATED w_NODE_DELETED w_NODE_DATA_CHANGED w_NODE_CHILDREN_CHANGED kc_w__VALUES h0 n0 _ T9.heap _
        exact ⟨rfl, N9⟩
      · refine Good.back (fun _ k => XS.icmpYes X0.here hx rfl (pc0 := 37) (pc' := 47) rfl (hb hby at_37) rfl (feq hc37_7).2 (by decide) (by decide) k) ?_
        show Good p e below _ (s₁.setTop (mkF m 47 #[.val (.int p0), .val (.int p1), .val (.int cc), .val .null] []))
        refine Good.back (fun _ k => XS.iloadN X0.here hx rfl (hb hby at_47) rfl k) ?_
        show Good p e below _ (s₁.setTop (mkF m 48 #[.val (.int p0), .val (.int p1), .val (.int cc), .val .null] [(.int cc)]))
        refine Good.back (fun _ k => XS.iconst X0.here hx rfl (hb hby at_48) k) ?_
        show Good p e below _ (s₁.setTop (mkF m 49 #[.val (.int p0), .val (.int p1), .val (.int cc), .val .null] [(.int (3 : Int32)), (.int cc)]))
        by_cases hc49_12 : cc = (3 : Int32)
        · refine Good.back (fun _ k => XS.icmpNo X0.here hx rfl (hb hby at_49) rfl (teq hc49_12).2 k) ?_
          show Good p e below _ (s₁.setTop (mkF m 52 #[.val (.int p0), .val (.int p1), .val (.int cc), .val .null] []))
          obtain ⟨T13, X13, e13, st13⟩ := getS2 X0 hx hZ hown (host := "") (Or.inl (hw _ (List.mem_of_getElem? (i := 26) rfl))) Via.refl e0 S_w_NODE_DATA_CHANGED (g := (mkF m 52 #[.val (.int p0), .val (.int p1), .val (.int cc), .val .null] [])) rfl (hb hby at_52)
          refine Good.back st13 ?_
          show Good p e below _ (T13.setTop (mkF m 55 #[.val (.int p0), .val (.int p1), .val (.int cc), .val .null] [(.ref w_NODE_DATA_CHANGED)]))
          refine Good.back (fun _ k => XS.astoreN X13.here hx rfl (hb hby at_55) rfl rfl (l' := #[.val (.int p0), .val (.int p1), .val (.int cc), .val (.ref w_NODE_DATA_CHANGED)]) rfl k) ?_
          show Good p e below _ (T13.setTop (mkF m 56 #[.val (.int p0), .val (.int p1), .val (.int cc), .val (.ref w_NODE_DATA_CHANGED)] []))
          refine Good.back (fun _ k => XS.goto X13.here hx rfl (pc0 := 56) (pc' := 68) rfl (hb hby at_56) (by decide) (by decide) k) ?_
          show Good p e below _ (T13.setTop (mkF m 68 #[.val (.int p0), .val (.int p1), .val (.int cc), .val (.ref w_NODE_DATA_CHANGED)] []))
          refine Good.back (fun _ k => XS.iloadN X13.here hx rfl (hb hby at_68) rfl k) ?_
          show Good p e below _ (T13.setTop (mkF m 69 #[.val (.int p0), .val (.int p1), .val (.int cc), .val (.ref w_NODE_DATA_CHANGED)] [(.int cc)]))
          obtain ⟨_, _, ⟨T14, L14, k14, n14⟩, -, X14, ⟨Lc14, hQ14, l14, y14, z14⟩, st14⟩ := Jvm.LawKit.callS X13 hx (y := (⟨"com/example/vartija/vartija/client/WatchEvent$Type", "of", "(I)Lcom/example/vartija/vartija/client/WatchEvent$Type;"⟩ : MethodName)) hown (mvT hZ (hw _ (List.mem_of_getElem? (i := 0) rfl))) (mvT hZ (hw _ (List.mem_of_getElem? (i := 1) rfl))) (mvT hZ (hw _ (List.mem_of_getElem? (i := 2) rfl))) (mvT hZ (hw _ (List.mem_of_getElem? (i := 3) rfl))) (by decide) (backOf (W := 0) (rm1_2 l Z a0 hw [] cc w__VALUES w_NODE_CREATED w_NODE_DELETED w_NODE_DATA_CHANGED w_NODE_CHILDREN_CHANGED kc_w__VALUES h0 n0 Z0 S_w__VALUES E_w__VALUES S_w_NODE_CREATED E_w_NODE_CREATED S_w_NODE_DELETED E_w_NODE_DELETED S_w_NODE_DATA_CHANGED E_w_NODE_DATA_CHANGED S_w_NODE_CHILDREN_CHANGED E_w_NODE_CHILDREN_CHANGED F_code_w_NODE_CREATED F_code_w_NODE_DELETED F_code_w_NODE_DATA_CHANGED F_code_w_NODE_CHILDREN_CHANGED V_w__VALUES (hc49_12)) hZ (hw _ (List.mem_of_getElem? (i := 3) rfl)) (hw _ (List.mem_of_getElem? (i := 2) rfl)) (by decide) (by decide)) (g := (mkF m 69 #[.val (.int p0), .val (.int p1), .val (.int cc), .val (.ref w_NODE_DATA_CHANGED)] [(.int cc)])) rfl (by rw [hml]; rfl) (argsL := [(.int cc)]) (rest := []) (lenOf own_pd31 rfl) rfl (by show 2 * 0 + _ ≤ _; exact Nat.le_of_eq rfl) (hb hby at_69) (fun _ _ => ⟨rfl, e13, (by decide : 0 + 1 ≤ _), (by decide : 0 + 4 ≤ _)⟩)
          dsimp only [Pt.U, Pt.locs, Pt.cells, Pt.slots] at X14 l14 y14 z14 st14 hQ14
          subst l14 y14 z14
          obtain ⟨rfl, N14q, Kq14⟩ := hQ14
          have N14 := Fr.app N0 N14q
          have Z15 : n0 ≤ T14.heap.size := Nat.le_trans Z0 Kq14.1
          refine Good.back st14 ?_
          show Good p e below _ (T14.setTop (mkF m 72 #[.val (.int p0), .val (.int p1), .val (.int cc), .val (.ref w_NODE_DATA_CHANGED)] [(.ref w_NODE_DATA_CHANGED)]))
          refine Good.back (fun _ k => XS.aloadN X14.here hx rfl (hb hby at_72) rfl rfl k) ?_
          show Good p e below _ (T14.setTop (mkF m 73 #[.val (.int p0), .val (.int p1), .val (.int cc), .val (.ref w_NODE_DATA_CHANGED)] [(.ref w_NODE_DATA_CHANGED), (.ref w_NODE_DATA_CHANGED)]))
          refine Good.back (fun _ k => Jvm.RoadKit.acmp (g := (mkF m 73 #[.val (.int p0), .val (.int p1), .val (.int cc), .val (.ref w_NODE_DATA_CHANGED)] [(.ref w_NODE_DATA_CHANGED), (.ref w_NODE_DATA_CHANGED)])) X14 hx rfl rfl rfl (pc0 := 73) (pc' := 76) (same := true) rfl (hb hby at_73) rfl (decide_eq_true rfl) (by decide) (by decide) k) ?_
          show Good p e below _ (T14.setTop (mkF m 76 #[.val (.int p0), .val (.int p1), .val (.int cc), .val (.ref w_NODE_DATA_CHANGED)] []))
          refine Good.back (fun _ k => XS.iconst X14.here hx rfl (hb hby at_76) k) ?_
          show Good p e below _ (T14.setTop (mkF m 77 #[.val (.int p0), .val (.int p1), .val (.int cc), .val (.ref w_NODE_DATA_CHANGED)] [(.int (1 : Int32))]))
          refine Good.back (fun _ k => XS.goto X14.here hx rfl (pc0 := 77) (pc' := 81) rfl (hb hby at_77) (by decide) (by decide) k) ?_
          show Good p e below _ (T14.setTop (mkF m 81 #[.val (.int p0), .val (.int p1), .val (.int cc), .val (.ref w_NODE_DATA_CHANGED)] [(.int (1 : Int32))]))
          obtain ⟨fs16, hr16, hrun16, hended16, hW16, hsame16⟩ := X14.leave (v := some (.int (1 : Int32))) (fun h => by rw [Bd.returns] at h; cases h)
          refine Good.done (retN X14 hx (t := .boolean) Bd.returns (by simp) (hb hby at_81) hr16) hrun16 hended16 ⟨_, _, rfl, ?_, ⟨_, rfl⟩, hW16, hsame16.mono (by decide) (by decide)⟩
          show Q0 Z p0 p1 w__VALUES w_NODE_CREATED w_NODE_DELETED w_NODE_DATA_CHANGED w_NODE_CHILDREN_CHANGED kc_w__VALUES h0 n0 _ T14.heap _
          exact ⟨rfl, N14⟩
        · refine Good.back (fun _ k => XS.icmpYes X0.here hx rfl (pc0 := 49) (pc' := 59) rfl (hb hby at_49) rfl (feq hc49_12).2 (by decide) (by decide) k) ?_
          show Good p e below _ (s₁.setTop (mkF m 59 #[.val (.int p0), .val (.int p1), .val (.int cc), .val .null] []))
          refine Good.back (fun _ k => XS.iloadN X0.here hx rfl (hb hby at_59) rfl k) ?_
          show Good p e below _ (s₁.setTop (mkF m 60 #[.val (.int p0), .val (.int p1), .val (.int cc), .val .null] [(.int cc)]))
          refine Good.back (fun _ k => XS.iconst X0.here hx rfl (hb hby at_60) k) ?_
          show Good p e below _ (s₁.setTop (mkF m 61 #[.val (.int p0), .val (.int p1), .val (.int cc), .val .null] [(.int (4 : Int32)), (.int cc)]))
          by_cases hc61_17 : cc = (4 : Int32)
          · refine Good.back (fun _ k => XS.icmpNo X0.here hx rfl (hb hby at_61) rfl (teq hc61_17).2 k) ?_
            show Good p e below _ (s₁.setTop (mkF m 64 #[.val (.int p0), .val (.int p1), .val (.int cc), .val .null] []))
            obtain ⟨T18, X18, e18, st18⟩ := getS2 X0 hx hZ hown (host := "") (Or.inl (hw _ (List.mem_of_getElem? (i := 27) rfl))) Via.refl e0 S_w_NODE_CHILDREN_CHANGED (g := (mkF m 64 #[.val (.int p0), .val (.int p1), .val (.int cc), .val .null] [])) rfl (hb hby at_64)
            refine Good.back st18 ?_
            show Good p e below _ (T18.setTop (mkF m 67 #[.val (.int p0), .val (.int p1), .val (.int cc), .val .null] [(.ref w_NODE_CHILDREN_CHANGED)]))
            refine Good.back (fun _ k => XS.astoreN X18.here hx rfl (hb hby at_67) rfl rfl (l' := #[.val (.int p0), .val (.int p1), .val (.int cc), .val (.ref w_NODE_CHILDREN_CHANGED)]) rfl k) ?_
            show Good p e below _ (T18.setTop (mkF m 68 #[.val (.int p0), .val (.int p1), .val (.int cc), .val (.ref w_NODE_CHILDREN_CHANGED)] []))
            refine Good.back (fun _ k => XS.iloadN X18.here hx rfl (hb hby at_68) rfl k) ?_
            show Good p e below _ (T18.setTop (mkF m 69 #[.val (.int p0), .val (.int p1), .val (.int cc), .val (.ref w_NODE_CHILDREN_CHANGED)] [(.int cc)]))
            obtain ⟨_, _, ⟨T19, L19, k19, n19⟩, -, X19, ⟨Lc19, hQ19, l19, y19, z19⟩, st19⟩ := Jvm.LawKit.callS X18 hx (y := (⟨"com/example/vartija/vartija/client/WatchEvent$Type", "of", "(I)Lcom/example/vartija/vartija/client/WatchEvent$Type;"⟩ : MethodName)) hown (mvT hZ (hw _ (List.mem_of_getElem? (i := 0) rfl))) (mvT hZ (hw _ (List.mem_of_getElem? (i := 1) rfl))) (mvT hZ (hw _ (List.mem_of_getElem? (i := 2) rfl))) (mvT hZ (hw _ (List.mem_of_getElem? (i := 3) rfl))) (by decide) (backOf (W := 0) (rm1_3 l Z a0 hw [] cc w__VALUES w_NODE_CREATED w_NODE_DELETED w_NODE_DATA_CHANGED w_NODE_CHILDREN_CHANGED kc_w__VALUES h0 n0 Z0 S_w__VALUES E_w__VALUES S_w_NODE_CREATED E_w_NODE_CREATED S_w_NODE_DELETED E_w_NODE_DELETED S_w_NODE_DATA_CHANGED E_w_NODE_DATA_CHANGED S_w_NODE_CHILDREN_CHANGED E_w_NODE_CHILDREN_CHANGED F_code_w_NODE_CREATED F_code_w_NODE_DELETED F_code_w_NODE_DATA_CHANGED F_code_w_NODE_CHILDREN_CHANGED V_w__VALUES (hc61_17)) hZ (hw _ (List.mem_of_getElem? (i := 3) rfl)) (hw _ (List.mem_of_getElem? (i := 2) rfl)) (by decide) (by decide)) (g := (mkF m 69 #[.val (.int p0), .val (.int p1), .val (.int cc), .val (.ref w_NODE_CHILDREN_CHANGED)] [(.int cc)])) rfl (by rw [hml]; rfl) (argsL := [(.int cc)]) (rest := []) (lenOf own_pd31 rfl) rfl (by show 2 * 0 + _ ≤ _; exact Nat.le_of_eq rfl) (hb hby at_69) (fun _ _ => ⟨rfl, e18, (by decide : 0 + 1 ≤ _), (by decide : 0 + 4 ≤ _)⟩)
            dsimp only [Pt.U, Pt.locs, Pt.cells, Pt.slots] at X19 l19 y19 z19 st19 hQ19
            subst l19 y19 z19
            obtain ⟨rfl, N19q, Kq19⟩ := hQ19
            have N19 := Fr.app N0 N19q
            have Z20 : n0 ≤ T19.heap.size := Nat.le_trans Z0 Kq19.1
            refine Good.back st19 ?_
            show Good p e below _ (T19.setTop (mkF m 72 #[.val (.int p0), .val (.int p1), .val (.int cc), .val (.ref w_NODE_CHILDREN_CHANGED)] [(.ref w_NODE_CHILDREN_CHANGED)]))
            refine Good.back (fun _ k => XS.aloadN X19.here hx rfl (hb hby at_72) rfl rfl k) ?_
            show Good p e below _ (T19.setTop (mkF m 73 #[.val (.int p0), .val (.int p1), .val (.int cc), .val (.ref w_NODE_CHILDREN_CHANGED)] [(.ref w_NODE_CHILDREN_CHANGED), (.ref w_NODE_CHILDREN_CHANGED)]))
            refine Good.back (fun _ k => Jvm.RoadKit.acmp (g := (mkF m 73 #[.val (.int p0), .val (.int p1), .val (.int cc), .val (.ref w_NODE_CHILDREN_CHANGED)] [(.ref w_NODE_CHILDREN_CHANGED), (.ref w_NODE_CHILDREN_CHANGED)])) X19 hx rfl rfl rfl (pc0 := 73) (pc' := 76) (same := true) rfl (hb hby at_73) rfl (decide_eq_true rfl) (by decide) (by decide) k) ?_
            show Good p e below _ (T19.setTop (mkF m 76 #[.val (.int p0), .val (.int p1), .val (.int cc), .val (.ref w_NODE_CHILDREN_CHANGED)] []))
            refine Good.back (fun _ k => XS.iconst X19.here hx rfl (hb hby at_76) k) ?_
            show Good p e below _ (T19.setTop (mkF m 77 #[.val (.int p0), .val (.int p1), .val (.int cc), .val (.ref w_NODE_CHILDREN_CHANGED)] [(.int (1 : Int32))]))
            refine Good.back (fun _ k => XS.goto X19.here hx rfl (pc0 := 77) (pc' := 81) rfl (hb hby at_77) (by decide) (by decide) k) ?_
            show Good p e below _ (T19.setTop (mkF m 81 #[.val (.int p0), .val (.int p1), .val (.int cc), .val (.ref w_NODE_CHILDREN_CHANGED)] [(.int (1 : Int32))]))
            obtain ⟨fs21, hr21, hrun21, hended21, hW21, hsame21⟩ := X19.leave (v := some (.int (1 : Int32))) (fun h => by rw [Bd.returns] at h; cases h)
            refine Good.done (retN X19 hx (t := .boolean) Bd.returns (by simp) (hb hby at_81) hr21) hrun21 hended21 ⟨_, _, rfl, ?_, ⟨_, rfl⟩, hW21, hsame21.mono (by decide) (by decide)⟩
            show Q0 Z p0 p1 w__VALUES w_NODE_CREATED w_NODE_DELETED w_NODE_DATA_CHANGED w_NODE_CHILDREN_CHANGED kc_w__VALUES h0 n0 _ T19.heap _
            exact ⟨rfl, N19⟩
          · refine Good.back (fun _ k => XS.icmpYes X0.here hx rfl (pc0 := 61) (pc' := 68) rfl (hb hby at_61) rfl (feq hc61_17).2 (by decide) (by decide) k) ?_
            show Good p e below _ (s₁.setTop (mkF m 68 #[.val (.int p0), .val (.int p1), .val (.int cc), .val .null] []))
            refine Good.back (fun _ k => XS.iloadN X0.here hx rfl (hb hby at_68) rfl k) ?_
            show Good p e below _ (s₁.setTop (mkF m 69 #[.val (.int p0), .val (.int p1), .val (.int cc), .val .null] [(.int cc)]))
            obtain ⟨_, _, ⟨T22, L22, k22, n22⟩, -, X22, ⟨Lc22, hQ22, l22, y22, z22⟩, st22⟩ := Jvm.LawKit.callS X0 hx (y := (⟨"com/example/vartija/vartija/client/WatchEvent$Type", "of", "(I)Lcom/example/vartija/vartija/client/WatchEvent$Type;"⟩ : MethodName)) hown (mvT hZ (hw _ (List.mem_of_getElem? (i := 0) rfl))) (mvT hZ (hw _ (List.mem_of_getElem? (i := 1) rfl))) (mvT hZ (hw _ (List.mem_of_getElem? (i := 2) rfl))) (mvT hZ (hw _ (List.mem_of_getElem? (i := 3) rfl))) (by decide) (backOf (W := 0) (rm1_4 l Z a0 hw [] cc w__VALUES w_NODE_CREATED w_NODE_DELETED w_NODE_DATA_CHANGED w_NODE_CHILDREN_CHANGED kc_w__VALUES h0 n0 Z0 S_w__VALUES E_w__VALUES S_w_NODE_CREATED E_w_NODE_CREATED S_w_NODE_DELETED E_w_NODE_DELETED S_w_NODE_DATA_CHANGED E_w_NODE_DATA_CHANGED S_w_NODE_CHILDREN_CHANGED E_w_NODE_CHILDREN_CHANGED F_code_w_NODE_CREATED F_code_w_NODE_DELETED F_code_w_NODE_DATA_CHANGED F_code_w_NODE_CHILDREN_CHANGED V_w__VALUES (hc25_2) (hc37_7) (hc49_12) (hc61_17)) hZ (hw _ (List.mem_of_getElem? (i := 3) rfl)) (hw _ (List.mem_of_getElem? (i := 2) rfl)) (by decide) (by decide)) (g := (mkF m 69 #[.val (.int p0), .val (.int p1), .val (.int cc), .val .null] [(.int cc)])) rfl (by rw [hml]; rfl) (argsL := [(.int cc)]) (rest := []) (lenOf own_pd31 rfl) rfl (by show 2 * 0 + _ ≤ _; exact Nat.le_of_eq rfl) (hb hby at_69) (fun _ _ => ⟨rfl, e0, (by decide : 0 + 1 ≤ _), (by decide : 0 + 4 ≤ _)⟩)
            dsimp only [Pt.U, Pt.locs, Pt.cells, Pt.slots] at X22 l22 y22 z22 st22 hQ22
            subst l22 y22 z22
            obtain ⟨rfl, N22q, Kq22⟩ := hQ22
            have N22 := Fr.app N0 N22q
            have Z23 : n0 ≤ T22.heap.size := Nat.le_trans Z0 Kq22.1
            refine Good.back st22 ?_
            show Good p e below _ (T22.setTop (mkF m 72 #[.val (.int p0), .val (.int p1), .val (.int cc), .val .null] [.null]))
            refine Good.back (fun _ k => XS.aloadN X22.here hx rfl (hb hby at_72) rfl rfl k) ?_
            show Good p e below _ (T22.setTop (mkF m 73 #[.val (.int p0), .val (.int p1), .val (.int cc), .val .null] [.null, .null]))
            refine Good.back (fun _ k => Jvm.RoadKit.acmp (g := (mkF m 73 #[.val (.int p0), .val (.int p1), .val (.int cc), .val .null] [.null, .null])) X22 hx rfl rfl rfl (pc0 := 73) (pc' := 76) (same := true) rfl (hb hby at_73) rfl (decide_eq_true rfl) (by decide) (by decide) k) ?_
            show Good p e below _ (T22.setTop (mkF m 76 #[.val (.int p0), .val (.int p1), .val (.int cc), .val .null] []))
            refine Good.back (fun _ k => XS.iconst X22.here hx rfl (hb hby at_76) k) ?_
            show Good p e below _ (T22.setTop (mkF m 77 #[.val (.int p0), .val (.int p1), .val (.int cc), .val .null] [(.int (1 : Int32))]))
            refine Good.back (fun _ k => XS.goto X22.here hx rfl (pc0 := 77) (pc' := 81) rfl (hb hby at_77) (by decide) (by decide) k) ?_
            show Good p e below _ (T22.setTop (mkF m 81 #[.val (.int p0), .val (.int p1), .val (.int cc), .val .null] [(.int (1 : Int32))]))
            obtain ⟨fs24, hr24, hrun24, hended24, hW24, hsame24⟩ := X22.leave (v := some (.int (1 : Int32))) (fun h => by rw [Bd.returns] at h; cases h)
            refine Good.done (retN X22 hx (t := .boolean) Bd.returns (by simp) (hb hby at_81) hr24) hrun24 hended24 ⟨_, _, rfl, ?_, ⟨_, rfl⟩, hW24, hsame24.mono (by decide) (by decide)⟩
            show Q0 Z p0 p1 w__VALUES w_NODE_CREATED w_NODE_DELETED w_NODE_DATA_CHANGED w_NODE_CHILDREN_CHANGED kc_w__VALUES h0 n0 _ T22.heap _
            exact ⟨rfl, N22⟩
  · refine Good.back (fun _ k => XS.ifNo X0.here hx rfl (hb hby at_3) rfl ((if0 _ _).trans (feq hc3_1).1) k) ?_
    show Good p e below _ (s₁.setTop (mkF m 6 #[.val (.int p0), .val (.int p1), .unset, .unset] []))
    refine Good.back (fun _ k => XS.iloadN X0.here hx rfl (hb hby at_6) rfl k) ?_
    show Good p e below _ (s₁.setTop (mkF m 7 #[.val (.int p0), .val (.int p1), .unset, .unset] [(.int p0)]))
    refine Good.back (fun _ k => XS.istoreN X0.here hx rfl (hb hby at_7) rfl (l' := #[.val (.int p0), .val (.int p1), .val (.int p0), .unset]) rfl k) ?_
    show Good p e below _ (s₁.setTop (mkF m 8 #[.val (.int p0), .val (.int p1), .val (.int p0), .unset] []))
    refine Good.back (fun _ k => XS.goto X0.here hx rfl (pc0 := 8) (pc' := 21) rfl (hb hby at_8) (by decide) (by decide) k) ?_
    show Good p e below _ (s₁.setTop (mkF m 21 #[.val (.int p0), .val (.int p1), .val (.int p0), .unset] []))
    refine Good.back (fun _ k => XS.aconstNull X0.here hx rfl (hb hby at_21) k) ?_
    show Good p e below _ (s₁.setTop (mkF m 22 #[.val (.int p0), .val (.int p1), .val (.int p0), .unset] [.null]))
    refine Good.back (fun _ k => XS.astoreN X0.here hx rfl (hb hby at_22) rfl rfl (l' := #[.val (.int p0), .val (.int p1), .val (.int p0), .val .null]) rfl k) ?_
    show Good p e below _ (s₁.setTop (mkF m 23 #[.val (.int p0), .val (.int p1), .val (.int p0), .val .null] []))
    refine Good.back (fun _ k => XS.iloadN X0.here hx rfl (hb hby at_23) rfl k) ?_
    show Good p e below _ (s₁.setTop (mkF m 24 #[.val (.int p0), .val (.int p1), .val (.int p0), .val .null] [(.int p0)]))
    refine Good.back (fun _ k => XS.iconst X0.here hx rfl (hb hby at_24) k) ?_
    show Good p e below _ (s₁.setTop (mkF m 25 #[.val (.int p0), .val (.int p1), .val (.int p0), .val .null] [(.int (1 : Int32)), (.int p0)]))
    by_cases hc25_25 : p0 = (1 : Int32)
    · refine Good.back (fun _ k => XS.icmpNo X0.here hx rfl (hb hby at_25) rfl (teq hc25_25).2 k) ?_
      show Good p e below _ (s₁.setTop (mkF m 28 #[.val (.int p0), .val (.int p1), .val (.int p0), .val .null] []))
      obtain ⟨T26, X26, e26, st26⟩ := getS2 X0 hx hZ hown (host := "") (Or.inl (hw _ (List.mem_of_getElem? (i := 28) rfl))) Via.refl e0 S_w_NODE_CREATED (g := (mkF m 28 #[.val (.int p0), .val (.int p1), .val (.int p0), .val .null] [])) rfl (hb hby at_28)
      refine Good.back st26 ?_
      show Good p e below _ (T26.setTop (mkF m 31 #[.val (.int p0), .val (.int p1), .val (.int p0), .val .null] [(.ref w_NODE_CREATED)]))
      refine Good.back (fun _ k => XS.astoreN X26.here hx rfl (hb hby at_31) rfl rfl (l' := #[.val (.int p0), .val (.int p1), .val (.int p0), .val (.ref w_NODE_CREATED)]) rfl k) ?_
      show Good p e below _ (T26.setTop (mkF m 32 #[.val (.int p0), .val (.int p1), .val (.int p0), .val (.ref w_NODE_CREATED)] []))
      refine Good.back (fun _ k => XS.goto X26.here hx rfl (pc0 := 32) (pc' := 68) rfl (hb hby at_32) (by decide) (by decide) k) ?_
      show Good p e below _ (T26.setTop (mkF m 68 #[.val (.int p0), .val (.int p1), .val (.int p0), .val (.ref w_NODE_CREATED)] []))
      refine Good.back (fun _ k => XS.iloadN X26.here hx rfl (hb hby at_68) rfl k) ?_
      show Good p e below _ (T26.setTop (mkF m 69 #[.val (.int p0), .val (.int p1), .val (.int p0), .val (.ref w_NODE_CREATED)] [(.int p0)]))
      obtain ⟨_, _, ⟨T27, L27, k27, n27⟩, -, X27, ⟨Lc27, hQ27, l27, y27, z27⟩, st27⟩ := Jvm.LawKit.callS X26 hx (y := (⟨"com/example/vartija/vartija/client/WatchEvent$Type", "of", "(I)Lcom/example/vartija/vartija/client/WatchEvent$Type;"⟩ : MethodName)) hown (mvT hZ (hw _ (List.mem_of_getElem? (i := 0) rfl))) (mvT hZ (hw _ (List.mem_of_getElem? (i := 1) rfl))) (mvT hZ (hw _ (List.mem_of_getElem? (i := 2) rfl))) (mvT hZ (hw _ (List.mem_of_getElem? (i := 3) rfl))) (by decide) (backOf (W := 0) (rm1_0 l Z a0 hw [] p0 w__VALUES w_NODE_CREATED w_NODE_DELETED w_NODE_DATA_CHANGED w_NODE_CHILDREN_CHANGED kc_w__VALUES h0 n0 Z0 S_w__VALUES E_w__VALUES S_w_NODE_CREATED E_w_NODE_CREATED S_w_NODE_DELETED E_w_NODE_DELETED S_w_NODE_DATA_CHANGED E_w_NODE_DATA_CHANGED S_w_NODE_CHILDREN_CHANGED E_w_NODE_CHILDREN_CHANGED F_code_w_NODE_CREATED F_code_w_NODE_DELETED F_code_w_NODE_DATA_CHANGED F_code_w_NODE_CHILDREN_CHANGED V_w__VALUES (hc25_25)) hZ (hw _ (List.mem_of_getElem? (i := 3) rfl)) (hw _ (List.mem_of_getElem? (i := 2) rfl)) (by decide) (by decide)) (g := (mkF m 69 #[.val (.int p0), .val (.int p1), .val (.int p0), .val (.ref w_NODE_CREATED)] [(.int p0)])) rfl (by rw [hml]; rfl) (argsL := [(.int p0)]) (rest := []) (lenOf own_pd31 rfl) rfl (by show 2 * 0 + _ ≤ _; exact Nat.le_of_eq rfl) (hb hby at_69) (fun _ _ => ⟨rfl, e26, (by decide : 0 + 1 ≤ _), (by decide : 0 + 4 ≤ _)⟩)
      dsimp only [Pt.U, Pt.locs, Pt.cells, Pt.slots] at X27 l27 y27 z27 st27 hQ27
      subst l27 y27 z27
      obtain ⟨rfl, N27q, Kq27⟩ := hQ27
      have N27 := Fr.app N0 N27q
      have Z28 : n0 ≤ T27.heap.size := Nat.le_trans Z0 Kq27.1
      refine Good.back st27 ?_
      show Good p e below _ (T27.setTop (mkF m 72 #[.val (.int p0), .val (.int p1), .val (.int p0), .val (.ref w_NODE_CREATED)] [(.ref w_NODE_CREATED)]))
      refine Good.back (fun _ k => XS.aloadN X27.here hx rfl (hb hby at_72) rfl rfl k) ?_
      show Good p e below _ (T27.setTop (mkF m 73 #[.val (.int p0), .val (.int p1), .val (.int p0), .val (.ref w_NODE_CREATED)] [(.ref w_NODE_CREATED), (.ref w_NODE_CREATED)]))
      refine Good.back (fun _ k => Jvm.RoadKit.acmp (g := (mkF m 73 #[.val (.int p0), .val (.int p1), .val (.int p0), .val (.ref w_NODE_CREATED)] [(.ref w_NODE_CREATED), (.ref w_NODE_CREATED)])) X27 hx rfl rfl rfl (pc0 := 73) (pc' := 76) (same := true) rfl (hb hby at_73) rfl (decide_eq_true rfl) (by decide) (by decide) k) ?_
      show Good p e below _ (T27.setTop (mkF m 76 #[.val (.int p0), .val (.int p1), .val (.int p0), .val (.ref w_NODE_CREATED)] []))
      refine Good.back (fun _ k => XS.iconst X27.here hx rfl (hb hby at_76) k) ?_
      show Good p e below _ (T27.setTop (mkF m 77 #[.val (.int p0), .val (.int p1), .val (.int p0), .val (.ref w_NODE_CREATED)] [(.int (1 : Int32))]))
      refine Good.back (fun _ k => XS.goto X27.here hx rfl (pc0 := 77) (pc' := 81) rfl (hb hby at_77) (by decide) (by decide) k) ?_
      show Good p e below _ (T27.setTop (mkF m 81 #[.val (.int p0), .val (.int p1), .val (.int p0), .val (.ref w_NODE_CREATED)] [(.int (1 : Int32))]))
      obtain ⟨fs29, hr29, hrun29, hended29, hW29, hsame29⟩ := X27.leave (v := some (.int (1 : Int32))) (fun h => by rw [Bd.returns] at h; cases h)
      refine Good.done (retN X27 hx (t := .boolean) Bd.returns (by simp) (hb hby at_81) hr29) hrun29 hended29 ⟨_, _, rfl, ?_, ⟨_, rfl⟩, hW29, hsame29.mono (by decide) (by decide)⟩
      show Q0 Z p0 p1 w__VALUES w_NODE_CREATED w_NODE_DELETED w_NODE_DATA_CHANGED w_NODE_CHILDREN_CHANGED kc_w__VALUES h0 n0 _ T27.heap _
      exact ⟨rfl, N27⟩
    · refine Good.back (fun _ k => XS.icmpYes X0.here hx rfl (pc0 := 25) (pc' := 35) rfl (hb hby at_25) rfl (feq hc25_25).2 (by decide) (by decide) k) ?_
      show Good p e below _ (s₁.setTop (mkF m 35 #[.val (.int p0), .val (.int p1), .val (.int p0), .val .null] []))
      refine Good.back (fun _ k => XS.iloadN X0.here hx rfl (hb hby at_35) rfl k) ?_
      show Good p e below _ (s₁.setTop (mkF m 36 #[.val (.int p0), .val (.int p1), .val (.int p0), .val .null] [(.int p0)]))
      refine Good.back (fun _ k => XS.iconst X0.here hx rfl (hb hby at_36) k) ?_
      show Good p e below _ (s₁.setTop (mkF m 37 #[.val (.int p0), .val (.int p1), .val (.int p0), .val .null] [(.int (2 : Int32)), (.int p0)]))
      by_cases hc37_30 : p0 = (2 : Int32)
      · refine Good.back (fun _ k => XS.icmpNo X0.here hx rfl (hb hby at_37) rfl (teq hc37_30).2 k) ?_
        show Good p e below _ (s₁.setTop (mkF m 40 #[.val (.int p0), .val (.int p1), .val (.int p0), .val .null] []))
        obtain ⟨T31, X31, e31, st31⟩ := getS2 X0 hx hZ hown (host := "") (Or.inl (hw _ (List.mem_of_getElem? (i := 29) rfl))) Via.refl e0 S_w_NODE_DELETED (g := (mkF m 40 #[.val (.int p0), .val (.int p1), .val (.int p0), .val .null] [])) rfl (hb hby at_40)
        refine Good.back st31 ?_
        show Good p e below _ (T31.setTop (mkF m 43 #[.val (.int p0), .val (.int p1), .val (.int p0), .val .null] [(.ref w_NODE_DELETED)]))
        refine Good.back (fun _ k => XS.astoreN X31.here hx rfl (hb hby at_43) rfl rfl (l' := #[.val (.int p0), .val (.int p1), .val (.int p0), .val (.ref w_NODE_DELETED)]) rfl k) ?_
        show Good p e below _ (T31.setTop (mkF m 44 #[.val (.int p0), .val (.int p1), .val (.int p0), .val (.ref w_NODE_DELETED)] []))
        refine Good.back (fun _ k => XS.goto X31.here hx rfl (pc0 := 44) (pc' := 68) rfl (hb hby at_44) (by decide) (by decide) k) ?_
        show Good p e below _ (T31.setTop (mkF m 68 #[.val (.int p0), .val (.int p1), .val (.int p0), .val (.ref w_NODE_DELETED)] []))
        refine Good.back (fun _ k => XS.iloadN X31.here hx rfl (hb hby at_68) rfl k) ?_
        show Good p e below _ (T31.setTop (mkF m 69 #[.val (.int p0), .val (.int p1), .val (.int p0), .val (.ref w_NODE_DELETED)] [(.int p0)]))
        obtain ⟨_, _, ⟨T32, L32, k32, n32⟩, -, X32, ⟨Lc32, hQ32, l32, y32, z32⟩, st32⟩ := Jvm.LawKit.callS X31 hx (y := (⟨"com/example/vartija/vartija/client/WatchEvent$Type", "of", "(I)Lcom/example/vartija/vartija/client/WatchEvent$Type;"⟩ : MethodName)) hown (mvT hZ (hw _ (List.mem_of_getElem? (i := 0) rfl))) (mvT hZ (hw _ (List.mem_of_getElem? (i := 1) rfl))) (mvT hZ (hw _ (List.mem_of_getElem? (i := 2) rfl))) (mvT hZ (hw _ (List.mem_of_getElem? (i := 3) rfl))) (by decide) (backOf (W := 0) (rm1_1 l Z a0 hw [] p0 w__VALUES w_NODE_CREATED w_NODE_DELETED w_NODE_DATA_CHANGED w_NODE_CHILDREN_CHANGED kc_w__VALUES h0 n0 Z0 S_w__VALUES E_w__VALUES S_w_NODE_CREATED E_w_NODE_CREATED S_w_NODE_DELETED E_w_NODE_DELETED S_w_NODE_DATA_CHANGED E_w_NODE_DATA_CHANGED S_w_NODE_CHILDREN_CHANGED E_w_NODE_CHILDREN_CHANGED F_code_w_NODE_CREATED F_code_w_NODE_DELETED F_code_w_NODE_DATA_CHANGED F_code_w_NODE_CHILDREN_CHANGED V_w__VALUES (hc37_30)) hZ (hw _ (List.mem_of_getElem? (i := 3) rfl)) (hw _ (List.mem_of_getElem? (i := 2) rfl)) (by decide) (by decide)) (g := (mkF m 69 #[.val (.int p0), .val (.int p1), .val (.int p0), .val (.ref w_NODE_DELETED)] [(.int p0)])) rfl (by rw [hml]; rfl) (argsL := [(.int p0)]) (rest := []) (lenOf own_pd31 rfl) rfl (by show 2 * 0 + _ ≤ _; exact Nat.le_of_eq rfl) (hb hby at_69) (fun _ _ => ⟨rfl, e31, (by decide : 0 + 1 ≤ _), (by decide : 0 + 4 ≤ _)⟩)
        dsimp only [Pt.U, Pt.locs, Pt.cells, Pt.slots] at X32 l32 y32 z32 st32 hQ32
        subst l32 y32 z32
        obtain ⟨rfl, N32q, Kq32⟩ := hQ32
        have N32 := Fr.app N0 N32q
        have Z33 : n0 ≤ T32.heap.size := Nat.le_trans Z0 Kq32.1
        refine Good.back st32 ?_
        show Good p e below _ (T32.setTop (mkF m 72 #[.val (.int p0), .val (.int p1), .val (.int p0), .val (.ref w_NODE_DELETED)] [(.ref w_NODE_DELETED)]))
        refine Good.back (fun _ k => XS.aloadN X32.here hx rfl (hb hby at_72) rfl rfl k) ?_
        show Good p e below _ (T32.setTop (mkF m 73 #[.val (.int p0), .val (.int p1), .val (.int p0), .val (.ref w_NODE_DELETED)] [(.ref w_NODE_DELETED), (.ref w_NODE_DELETED)]))
        refine Good.back (fun _ k => Jvm.RoadKit.acmp (g := (mkF m 73 #[.val (.int p0), .val (.int p1), .val (.int p0), .val (.ref w_NODE_DELETED)] [(.ref w_NODE_DELETED), (.ref w_NODE_DELETED)])) X32 hx rfl rfl rfl (pc0 := 73) (pc' := 76) (same := true) rfl (hb hby at_73) rfl (decide_eq_true rfl) (by decide) (by decide) k) ?_
        show Good p e below _ (T32.setTop (mkF m 76 #[.val (.int p0), .val (.int p1), .val (.int p0), .val (.ref w_NODE_DELETED)] []))
        refine Good.back (fun _ k => XS.iconst X32.here hx rfl (hb hby at_76) k) ?_
        show Good p e below _ (T32.setTop (mkF m 77 #[.val (.int p0), .val (.int p1), .val (.int p0), .val (.ref w_NODE_DELETED)] [(.int (1 : Int32))]))
        refine Good.back (fun _ k => XS.goto X32.here hx rfl (pc0 := 77) (pc' := 81) rfl (hb hby at_77) (by decide) (by decide) k) ?_
        show Good p e below _ (T32.setTop (mkF m 81 #[.val (.int p0), .val (.int p1), .val (.int p0), .val (.ref w_NODE_DELETED)] [(.int (1 : Int32))]))
        obtain ⟨fs34, hr34, hrun34, hended34, hW34, hsame34⟩ := X32.leave (v := some (.int (1 : Int32))) (fun h => by rw [Bd.returns] at h; cases h)
        refine Good.done (retN X32 hx (t := .boolean) Bd.returns (by simp) (hb hby at_81) hr34) hrun34 hended34 ⟨_, _, rfl, ?_, ⟨_, rfl⟩, hW34, hsame34.mono (by decide) (by decide)⟩
        show Q0 Z p0 p1 w__VALUES w_NODE_CREATED w_NODE_DELETED w_NODE_DATA_CHANGED w_NODE_CHILDREN_CHANGED kc_w__VALUES h0 n0 _ T32.heap _
        exact ⟨rfl, N32⟩
      · refine Good.back (fun _ k => XS.icmpYes X0.here hx rfl (pc0 := 37) (pc' := 47) rfl (hb hby at_37) rfl (feq hc37_30).2 (by decide) (by decide) k) ?_
        show Good p e below _ (s₁.setTop (mkF m 47 #[.val (.int p0), .val (.int p1), .val (.int p0), .val .null] []))
        refine Good.back (fun _ k => XS.iloadN X0.here hx rfl (hb hby at_47) rfl k) ?_
        show Good p e below _ (s₁.setTop (mkF m 48 #[.val (.int p0), .val (.int p1), .val (.int p0), .val .null] [(.int p0)]))
        refine Good.back (fun _ k => XS.iconst X0.here hx rfl (hb hby at_48) k) ?_
        show Good p e below _ (s₁.setTop (mkF m 49 #[.val (.int p0), .val (.int p1), .val (.int p0), .val .null] [(.int (3 : Int32)), (.int p0)]))
        by_cases hc49_35 : p0 = (3 : Int32)
        · refine Good.back (fun _ k => XS.icmpNo X0.here hx rfl (hb hby at_49) rfl (teq hc49_35).2 k) ?_
          show Good p e below _ (s₁.setTop (mkF m 52 #[.val (.int p0), .val (.int p1), .val (.int p0), .val .null] []))
          obtain ⟨T36, X36, e36, st36⟩ := getS2 X0 hx hZ hown (host := "") (Or.inl (hw _ (List.mem_of_getElem? (i := 26) rfl))) Via.refl e0 S_w_NODE_DATA_CHANGED (g := (mkF m 52 #[.val (.int p0), .val (.int p1), .val (.int p0), .val .null] [])) rfl (hb hby at_52)
          refine Good.back st36 ?_
          show Good p e below _ (T36.setTop (mkF m 55 #[.val (.int p0), .val (.int p1), .val (.int p0), .val .null] [(.ref w_NODE_DATA_CHANGED)]))
          refine Good.back (fun _ k => XS.astoreN X36.here hx rfl (hb hby at_55) rfl rfl (l' := #[.val (.int p0), .val (.int p1), .val (.int p0), .val (.ref w_NODE_DATA_CHANGED)]) rfl k) ?_
          show Good p e below _ (T36.setTop (mkF m 56 #[.val (.int p0), .val (.int p1), .val (.int p0), .val (.ref w_NODE_DATA_CHANGED)] []))
          refine Good.back (fun _ k => XS.goto X36.here hx rfl (pc0 := 56) (pc' := 68) rfl (hb hby at_56) (by decide) (by decide) k) ?_
          show Good p e below _ (T36.setTop (mkF m 68 #[.val (.int p0), .val (.int p1), .val (.int p0), .val (.ref w_NODE_DATA_CHANGED)] []))
          refine Good.back (fun _ k => XS.iloadN X36.here hx rfl (hb hby at_68) rfl k) ?_
          show Good p e below _ (T36.setTop (mkF m 69 #[.val (.int p0), .val (.int p1), .val (.int p0), .val (.ref w_NODE_DATA_CHANGED)] [(.int p0)]))
          obtain ⟨_, _, ⟨T37, L37, k37, n37⟩, -, X37, ⟨Lc37, hQ37, l37, y37, z37⟩, st37⟩ := Jvm.LawKit.callS X36 hx (y := (⟨"com/example/vartija/vartija/client/WatchEvent$Type", "of", "(I)Lcom/example/vartija/vartija/client/WatchEvent$Type;"⟩ : MethodName)) hown (mvT hZ (hw _ (List.mem_of_getElem? (i := 0) rfl))) (mvT hZ (hw _ (List.mem_of_getElem? (i := 1) rfl))) (mvT hZ (hw _ (List.mem_of_getElem? (i := 2) rfl))) (mvT hZ (hw _ (List.mem_of_getElem? (i := 3) rfl))) (by decide) (backOf (W := 0) (rm1_2 l Z a0 hw [] p0 w__VALUES w_NODE_CREATED w_NODE_DELETED w_NODE_DATA_CHANGED w_NODE_CHILDREN_CHANGED kc_w__VALUES h0 n0 Z0 S_w__VALUES E_w__VALUES S_w_NODE_CREATED E_w_NODE_CREATED S_w_NODE_DELETED E_w_NODE_DELETED S_w_NODE_DATA_CHANGED E_w_NODE_DATA_CHANGED S_w_NODE_CHILDREN_CHANGED E_w_NODE_CHILDREN_CHANGED F_code_w_NODE_CREATED F_code_w_NODE_DELETED F_code_w_NODE_DATA_CHANGED F_code_w_NODE_CHILDREN_CHANGED V_w__VALUES (hc49_35)) hZ (hw _ (List.mem_of_getElem? (i := 3) rfl)) (hw _ (List.mem_of_getElem? (i := 2) rfl)) (by decide) (by decide)) (g := (mkF m 69 #[.val (.int p0), .val (.int p1), .val (.int p0), .val (.ref w_NODE_DATA_CHANGED)] [(.int p0)])) rfl (by rw [hml]; rfl) (argsL := [(.int p0)]) (rest := []) (lenOf own_pd31 rfl) rfl (by show 2 * 0 + _ ≤ _; exact Nat.le_of_eq rfl) (hb hby at_69) (fun _ _ => ⟨rfl, e36, (by decide : 0 + 1 ≤ _), (by decide : 0 + 4 ≤ _)⟩)
          dsimp only [Pt.U, Pt.locs, Pt.cells, Pt.slots] at X37 l37 y37 z37 st37 hQ37
          subst l37 y37 z37
          obtain ⟨rfl, N37q, Kq37⟩ := hQ37
          have N37 := Fr.app N0 N37q
          have Z38 : n0 ≤ T37.heap.size := Nat.le_trans Z0 Kq37.1
          refine Good.back st37 ?_
          show Good p e below _ (T37.setTop (mkF m 72 #[.val (.int p0), .val (.int p1), .val (.int p0), .val (.ref w_NODE_DATA_CHANGED)] [(.ref w_NODE_DATA_CHANGED)]))
          refine Good.back (fun _ k => XS.aloadN X37.here hx rfl (hb hby at_72) rfl rfl k) ?_
          show Good p e below _ (T37.setTop (mkF m 73 #[.val (.int p0), .val (.int p1), .val (.int p0), .val (.ref w_NODE_DATA_CHANGED)] [(.ref w_NODE_DATA_CHANGED), (.ref w_NODE_DATA_CHANGED)]))
          refine Good.back (fun _ k => Jvm.RoadKit.acmp (g := (mkF m 73 #[.val (.int p0), .val (.int p1), .val (.int p0), .val (.ref w_NODE_DATA_CHANGED)] [(.ref w_NODE_DATA_CHANGED), (.ref w_NODE_DATA_CHANGED)])) X37 hx rfl rfl rfl (pc0 := 73) (pc' := 76) (same := true) rfl (hb hby at_73) rfl (decide_eq_true rfl) (by decide) (by decide) k) ?_
          show Good p e below _ (T37.setTop (mkF m 76 #[.val (.int p0), .val (.int p1), .val (.int p0), .val (.ref w_NODE_DATA_CHANGED)] []))
          refine Good.back (fun _ k => XS.iconst X37.here hx rfl (hb hby at_76) k) ?_
          show Good p e below _ (T37.setTop (mkF m 77 #[.val (.int p0), .val (.int p1), .val (.int p0), .val (.ref w_NODE_DATA_CHANGED)] [(.int (1 : Int32))]))
          refine Good.back (fun _ k => XS.goto X37.here hx rfl (pc0 := 77) (pc' := 81) rfl (hb hby at_77) (by decide) (by decide) k) ?_
          show Good p e below _ (T37.setTop (mkF m 81 #[.val (.int p0), .val (.int p1), .val (.int p0), .val (.ref w_NODE_DATA_CHANGED)] [(.int (1 : Int32))]))
          obtain ⟨fs39, hr39, hrun39, hended39, hW39, hsame39⟩ := X37.leave (v := some (.int (1 : Int32))) (fun h => by rw [Bd.returns] at h; cases h)
          refine Good.done (retN X37 hx (t := .boolean) Bd.returns (by simp) (hb hby at_81) hr39) hrun39 hended39 ⟨_, _, rfl, ?_, ⟨_, rfl⟩, hW39, hsame39.mono (by decide) (by decide)⟩
          show Q0 Z p0 p1 w__VALUES w_NODE_CREATED w_NODE_DELETED w_NODE_DATA_CHANGED w_NODE_CHILDREN_CHANGED kc_w__VALUES h0 n0 _ T37.heap _
          exact ⟨rfl, N37⟩
        · refine Good.back (fun _ k => XS.icmpYes X0.here hx rfl (pc0 := 49) (pc' := 59) rfl (hb hby at_49) rfl (feq hc49_35).2 (by decide) (by decide) k) ?_
          show Good p e below _ (s₁.setTop (mkF m 59 #[.val (.int p0), .val (.int p1), .val (.int p0), .val .null] []))
          refine Good.back (fun _ k => XS.iloadN X0.here hx rfl (hb hby at_59) rfl k) ?_
          show Good p e below _ (s₁.setTop (mkF m 60 #[.val (.int p0), .val (.int p1), .val (.int p0), .val .null] [(.int p0)]))
          refine Good.back (fun _ k => XS.iconst X0.here hx rfl (hb hby at_60) k) ?_
          show Good p e below _ (s₁.setTop (mkF m 61 #[.val (.int p0), .val (.int p1), .val (.int p0), .val .null] [(.int (4 : Int32)), (.int p0)]))
          by_cases hc61_40 : p0 = (4 : Int32)
          · refine Good.back (fun _ k => XS.icmpNo X0.here hx rfl (hb hby at_61) rfl (teq hc61_40).2 k) ?_
            show Good p e below _ (s₁.setTop (mkF m 64 #[.val (.int p0), .val (.int p1), .val (.int p0), .val .null] []))
            obtain ⟨T41, X41, e41, st41⟩ := getS2 X0 hx hZ hown (host := "") (Or.inl (hw _ (List.mem_of_getElem? (i := 27) rfl))) Via.refl e0 S_w_NODE_CHILDREN_CHANGED (g := (mkF m 64 #[.val (.int p0), .val (.int p1), .val (.int p0), .val .null] [])) rfl (hb hby at_64)
            refine Good.back st41 ?_
            show Good p e below _ (T41.setTop (mkF m 67 #[.val (.int p0), .val (.int p1), .val (.int p0), .val .null] [(.ref w_NODE_CHILDREN_CHANGED)]))
            refine Good.back (fun _ k => XS.astoreN X41.here hx rfl (hb hby at_67) rfl rfl (l' := #[.val (.int p0), .val (.int p1), .val (.int p0), .val (.ref w_NODE_CHILDREN_CHANGED)]) rfl k) ?_
            show Good p e below _ (T41.setTop (mkF m 68 #[.val (.int p0), .val (.int p1), .val (.int p0), .val (.ref w_NODE_CHILDREN_CHANGED)] []))
            refine Good.back (fun _ k => XS.iloadN X41.here hx rfl (hb hby at_68) rfl k) ?_
            show Good p e below _ (T41.setTop (mkF m 69 #[.val (.int p0), .val (.int p1), .val (.int p0), .val (.ref w_NODE_CHILDREN_CHANGED)] [(.int p0)]))
            obtain ⟨_, _, ⟨T42, L42, k42, n42⟩, -, X42, ⟨Lc42, hQ42, l42, y42, z42⟩, st42⟩ := Jvm.LawKit.callS X41 hx (y := (⟨"com/example/vartija/vartija/client/WatchEvent$Type", "of", "(I)Lcom/example/vartija/vartija/client/WatchEvent$Type;"⟩ : MethodName)) hown (mvT hZ (hw _ (List.mem_of_getElem? (i := 0) rfl))) (mvT hZ (hw _ (List.mem_of_getElem? (i := 1) rfl))) (mvT hZ (hw _ (List.mem_of_getElem? (i := 2) rfl))) (mvT hZ (hw _ (List.mem_of_getElem? (i := 3) rfl))) (by decide) (backOf (W := 0) (rm1_3 l Z a0 hw [] p0 w__VALUES w_NODE_CREATED w_NODE_DELETED w_NODE_DATA_CHANGED w_NODE_CHILDREN_CHANGED kc_w__VALUES h0 n0 Z0 S_w__VALUES E_w__VALUES S_w_NODE_CREATED E_w_NODE_CREATED S_w_NODE_DELETED E_w_NODE_DELETED S_w_NODE_DATA_CHANGED E_w_NODE_DATA_CHANGED S_w_NODE_CHILDREN_CHANGED E_w_NODE_CHILDREN_CHANGED F_code_w_NODE_CREATED F_code_w_NODE_DELETED F_code_w_NODE_DATA_CHANGED F_code_w_NODE_CHILDREN_CHANGED V_w__VALUES (hc61_40)) hZ (hw _ (List.mem_of_getElem? (i := 3) rfl)) (hw _ (List.mem_of_getElem? (i := 2) rfl)) (by decide) (by decide)) (g := (mkF m 69 #[.val (.int p0), .val (.int p1), .val (.int p0), .val (.ref w_NODE_CHILDREN_CHANGED)] [(.int p0)])) rfl (by rw [hml]; rfl) (argsL := [(.int p0)]) (rest := []) (lenOf own_pd31 rfl) rfl (by show 2 * 0 + _ ≤ _; exact Nat.le_of_eq rfl) (hb hby at_69) (fun _ _ => ⟨rfl, e41, (by decide : 0 + 1 ≤ _), (by decide : 0 + 4 ≤ _)⟩)
            dsimp only [Pt.U, Pt.locs, Pt.cells, Pt.slots] at X42 l42 y42 z42 st42 hQ42
            subst l42 y42 z42
            obtain ⟨rfl, N42q, Kq42⟩ := hQ42
            have N42 := Fr.app N0 N42q
            have Z43 : n0 ≤ T42.heap.size := Nat.le_trans Z0 Kq42.1
            refine Good.back st42 ?_
            show Good p e below _ (T42.setTop (mkF m 72 #[.val (.int p0), .val (.int p1), .val (.int p0), .val (.ref w_NODE_CHILDREN_CHANGED)] [(.ref w_NODE_CHILDREN_CHANGED)]))
            refine Good.back (fun _ k => XS.aloadN X42.here hx rfl (hb hby at_72) rfl rfl k) ?_
            show Good p e below _ (T42.setTop (mkF m 73 #[.val (.int p0), .val (.int p1), .val (.int p0), .val (.ref w_NODE_CHILDREN_CHANGED)] [(.ref w_NODE_CHILDREN_CHANGED), (.ref w_NODE_CHILDREN_CHANGED)]))
            refine Good.back (fun _ k => Jvm.RoadKit.acmp (g := (mkF m 73 #[.val (.int p0), .val (.int p1), .val (.int p0), .val (.ref w_NODE_CHILDREN_CHANGED)] [(.ref w_NODE_CHILDREN_CHANGED), (.ref w_NODE_CHILDREN_CHANGED)])) X42 hx rfl rfl rfl (pc0 := 73) (pc' := 76) (same := true) rfl (hb hby at_73) rfl (decide_eq_true rfl) (by decide) (by decide) k) ?_
            show Good p e below _ (T42.setTop (mkF m 76 #[.val (.int p0), .val (.int p1), .val (.int p0), .val (.ref w_NODE_CHILDREN_CHANGED)] []))
            refine Good.back (fun _ k => XS.iconst X42.here hx rfl (hb hby at_76) k) ?_
            show Good p e below _ (T42.setTop (mkF m 77 #[.val (.int p0), .val (.int p1), .val (.int p0), .val (.ref w_NODE_CHILDREN_CHANGED)] [(.int (1 : Int32))]))
            refine Good.back (fun _ k => XS.goto X42.here hx rfl (pc0 := 77) (pc' := 81) rfl (hb hby at_77) (by decide) (by decide) k) ?_
            show Good p e below _ (T42.setTop (mkF m 81 #[.val (.int p0), .val (.int p1), .val (.int p0), .val (.ref w_NODE_CHILDREN_CHANGED)] [(.int (1 : Int32))]))
            obtain ⟨fs44, hr44, hrun44, hended44, hW44, hsame44⟩ := X42.leave (v := some (.int (1 : Int32))) (fun h => by rw [Bd.returns] at h; cases h)
            refine Good.done (retN X42 hx (t := .boolean) Bd.returns (by simp) (hb hby at_81) hr44) hrun44 hended44 ⟨_, _, rfl, ?_, ⟨_, rfl⟩, hW44, hsame44.mono (by decide) (by decide)⟩
            show Q0 Z p0 p1 w__VALUES w_NODE_CREATED w_NODE_DELETED w_NODE_DATA_CHANGED w_NODE_CHILDREN_CHANGED kc_w__VALUES h0 n0 _ T42.heap _
            exact ⟨rfl, N42⟩
          · refine Good.back (fun _ k => XS.icmpYes X0.here hx rfl (pc0 := 61) (pc' := 68) rfl (hb hby at_61) rfl (feq hc61_40).2 (by decide) (by decide) k) ?_
            show Good p e below _ (s₁.setTop (mkF m 68 #[.val (.int p0), .val (.int p1), .val (.int p0), .val .null] []))
            refine Good.back (fun _ k => XS.iloadN X0.here hx rfl (hb hby at_68) rfl k) ?_
            show Good p e below _ (s₁.setTop (mkF m 69 #[.val (.int p0), .val (.int p1), .val (.int p0), .val .null] [(.int p0)]))
            obtain ⟨_, _, ⟨T45, L45, k45, n45⟩, -, X45, ⟨Lc45, hQ45, l45, y45, z45⟩, st45⟩ := Jvm.LawKit.callS X0 hx (y := (⟨"com/example/vartija/vartija/client/WatchEvent$Type", "of", "(I)Lcom/example/vartija/vartija/client/WatchEvent$Type;"⟩ : MethodName)) hown (mvT hZ (hw _ (List.mem_of_getElem? (i := 0) rfl))) (mvT hZ (hw _ (List.mem_of_getElem? (i := 1) rfl))) (mvT hZ (hw _ (List.mem_of_getElem? (i := 2) rfl))) (mvT hZ (hw _ (List.mem_of_getElem? (i := 3) rfl))) (by decide) (backOf (W := 0) (rm1_4 l Z a0 hw [] p0 w__VALUES w_NODE_CREATED w_NODE_DELETED w_NODE_DATA_CHANGED w_NODE_CHILDREN_CHANGED kc_w__VALUES h0 n0 Z0 S_w__VALUES E_w__VALUES S_w_NODE_CREATED E_w_NODE_CREATED S_w_NODE_DELETED E_w_NODE_DELETED S_w_NODE_DATA_CHANGED E_w_NODE_DATA_CHANGED S_w_NODE_CHILDREN_CHANGED E_w_NODE_CHILDREN_CHANGED F_code_w_NODE_CREATED F_code_w_NODE_DELETED F_code_w_NODE_DATA_CHANGED F_code_w_NODE_CHILDREN_CHANGED V_w__VALUES (hc25_25) (hc37_30) (hc49_35) (hc61_40)) hZ (hw _ (List.mem_of_getElem? (i := 3) rfl)) (hw _ (List.mem_of_getElem? (i := 2) rfl)) (by decide) (by decide)) (g := (mkF m 69 #[.val (.int p0), .val (.int p1), .val (.int p0), .val .null] [(.int p0)])) rfl (by rw [hml]; rfl) (argsL := [(.int p0)]) (rest := []) (lenOf own_pd31 rfl) rfl (by show 2 * 0 + _ ≤ _; exact Nat.le_of_eq rfl) (hb hby at_69) (fun _ _ => ⟨rfl, e0, (by decide : 0 + 1 ≤ _), (by decide : 0 + 4 ≤ _)⟩)
            dsimp only [Pt.U, Pt.locs, Pt.cells, Pt.slots] at X45 l45 y45 z45 st45 hQ45
            subst l45 y45 z45
            obtain ⟨rfl, N45q, Kq45⟩ := hQ45
            have N45 := Fr.app N0 N45q
            have Z46 : n0 ≤ T45.heap.size := Nat.le_trans Z0 Kq45.1
            refine Good.back st45 ?_
            show Good p e below _ (T45.setTop (mkF m 72 #[.val (.int p0), .val (.int p1), .val (.int p0), .val .null] [.null]))
            refine Good.back (fun _ k => XS.aloadN X45.here hx rfl (hb hby at_72) rfl rfl k) ?_
            show Good p e below _ (T45.setTop (mkF m 73 #[.val (.int p0), .val (.int p1), .val (.int p0), .val .null] [.null, .null]))
            refine Good.back (fun _ k => Jvm.RoadKit.acmp (g := (mkF m 73 #[.val (.int p0), .val (.int p1), .val (.int p0), .val .null] [.null, .null])) X45 hx rfl rfl rfl (pc0 := 73) (pc' := 76) (same := true) rfl (hb hby at_73) rfl (decide_eq_true rfl) (by decide) (by decide) k) ?_
            show Good p e below _ (T45.setTop (mkF m 76 #[.val (.int p0), .val (.int p1), .val (.int p0), .val .null] []))
            refine Good.back (fun _ k => XS.iconst X45.here hx rfl (hb hby at_76) k) ?_
            show Good p e below _ (T45.setTop (mkF m 77 #[.val (.int p0), .val (.int p1), .val (.int p0), .val .null] [(.int (1 : Int32))]))
            refine Good.back (fun _ k => XS.goto X45.here hx rfl (pc0 := 77) (pc' := 81) rfl (hb hby at_77) (by decide) (by decide) k) ?_
            show Good p e below _ (T45.setTop (mkF m 81 #[.val (.int p0), .val (.int p1), .val (.int p0), .val .null] [(.int (1 : Int32))]))
            obtain ⟨fs47, hr47, hrun47, hended47, hW47, hsame47⟩ := X45.leave (v := some (.int (1 : Int32))) (fun h => by rw [Bd.returns] at h; cases h)
            refine Good.done (retN X45 hx (t := .boolean) Bd.returns (by simp) (hb hby at_81) hr47) hrun47 hended47 ⟨_, _, rfl, ?_, ⟨_, rfl⟩, hW47, hsame47.mono (by decide) (by decide)⟩
            show Q0 Z p0 p1 w__VALUES w_NODE_CREATED w_NODE_DELETED w_NODE_DATA_CHANGED w_NODE_CHILDREN_CHANGED kc_w__VALUES h0 n0 _ T45.heap _
            exact ⟨rfl, N45⟩
set_option maxRecDepth 65536 in
set_option maxHeartbeats 40000000 in
theorem comes_1 {Post : Tables → Env → Array Value → State → Outcome → State → Prop} (hpost : ∀ tb e args s v u, (limb_1_1.after args s (.returned v) u = true ∧ limb_1_2.after args s (.returned v) u = true ∧ True) → FrameEnd s (.returned v) u (Jvm.fieldLocs frame_1_writes args s ++ Jvm.arrayLocs frame_1_arrays args s ++ Jvm.staticLocs frame_1_statics s) 16 128 → Post tb e args s (.returned v) u) :
    ArmFor flags0 classFile x code maxLocals ret World_1 tables_1 room_1 Calls_1 rest_1 Pre_1 Post := by
  intro l hfl _ _ p e ha hc hk s m args below hf hA hF happ hP
  obtain ⟨hcalls, hrest, hpre⟩ := hP
  obtain ⟨-, -, -, hnamed, -, -, -, hat⟩ := (Spec.applies_iff hf).mp happ
  obtain ⟨hg, hn⟩ := and_e (Cond.before_iff.mp (show (Jvm.Cond.and given_1 narrow_1).before args s = true from hpre))
  obtain ⟨g1, g2⟩ := and_e hg
  obtain ⟨g3, g4⟩ := and_e g2
  obtain ⟨w0, w1, rfl⟩ : ∃ w0 w1 : Value, args = #[w0, w1] := by
    have hs : args.size = 2 := by simpa [Cond.value, given_1] using g1
    obtain ⟨L⟩ := args
    match L, hs with
    | [w0, w1], _ => exact ⟨w0, w1, rfl⟩
  have hw := fun d (hd : d ∈ tables_1) => atoms_spec (ws := Jvm.Cond.code x code maxLocals ret :: tables_1) hat d (List.mem_cons_of_mem _ hd)
  have hfit : Fit s := fun {y c} hc i hi => by
    obtain ⟨ha, rfl⟩ := Array.getElem?_eq_some_iff.mp hc
    have q := List.all_eq_true.mp ((Array.all_eq_true_iff_forall_mem.mp hF) _ (Array.getElem_mem ha)) i (List.mem_range.mpr hi)
    simpa [Array.getElem?_eq_getElem hi] using q
  obtain ⟨i0, ei0⟩ := is_v g3
  obtain rfl : w0 = (.int i0) := Option.some.inj ei0
  obtain ⟨i1, ei1⟩ := is_v g4
  obtain rfl : w1 = (.int i1) := Option.some.inj ei1
  obtain ⟨c1, c2⟩ := and_e hn
  obtain ⟨c3, c4⟩ := and_e c2
  obtain ⟨c5, c6⟩ := and_e c4
  obtain ⟨c7, c8⟩ := and_e c6
  obtain ⟨c9, c10⟩ := and_e c8
  obtain ⟨c11, c12⟩ := and_e c10
  obtain ⟨c13, c14⟩ := and_e c12
  obtain ⟨c15, c16⟩ := and_e c14
  obtain ⟨c17, c18⟩ := and_e c16
  obtain ⟨c19, c20⟩ := and_e c18
  obtain ⟨c21, c22⟩ := and_e c20
  obtain ⟨c23, c24⟩ := and_e c22
  obtain ⟨c25, c26⟩ := and_e c24
  obtain ⟨c27, c28⟩ := and_e c26
  obtain ⟨w__VALUES, ev_w__VALUES⟩ := arr_v c1
  have S_w__VALUES : Sta s s.heap "com/example/vartija/vartija/client/WatchEvent$Type" "$VALUES" "[Lcom/example/vartija/vartija/client/WatchEvent$Type;" (.ref w__VALUES) := Sta.start ev_w__VALUES (Or.inr ⟨(hw _ (List.mem_of_getElem? (i := 2) rfl)), (hw _ (List.mem_of_getElem? (i := 8) rfl))⟩)
  obtain ⟨cl_w__VALUES, A_w__VALUES⟩ := Arr.start ev_w__VALUES c1
  have E_w__VALUES : Exa s s.heap w__VALUES "[Lcom/example/vartija/vartija/client/WatchEvent$Type;" := Exa.start ev_w__VALUES c3
  obtain ⟨lt_w__VALUES, len_w__VALUES⟩ := own_len A_w__VALUES ev_w__VALUES (own_eqV c5 rfl)
  obtain ⟨w_NODE_CREATED, ev_w_NODE_CREATED⟩ := exa_v c7
  have S_w_NODE_CREATED : Sta s s.heap "com/example/vartija/vartija/client/WatchEvent$Type" "NODE_CREATED" "Lcom/example/vartija/vartija/client/WatchEvent$Type;" (.ref w_NODE_CREATED) := Sta.start ev_w_NODE_CREATED (Or.inr ⟨(hw _ (List.mem_of_getElem? (i := 2) rfl)), (hw _ (List.mem_of_getElem? (i := 16) rfl))⟩)
  have E_w_NODE_CREATED : Exa s s.heap w_NODE_CREATED "com/example/vartija/vartija/client/WatchEvent$Type" := Exa.start ev_w_NODE_CREATED c7
  obtain ⟨w_NODE_DELETED, ev_w_NODE_DELETED⟩ := exa_v c11
  have S_w_NODE_DELETED : Sta s s.heap "com/example/vartija/vartija/client/WatchEvent$Type" "NODE_DELETED" "Lcom/example/vartija/vartija/client/WatchEvent$Type;" (.ref w_NODE_DELETED) := Sta.start ev_w_NODE_DELETED (Or.inr ⟨(hw _ (List.mem_of_getElem? (i := 2) rfl)), (hw _ (List.mem_of_getElem? (i := 17) rfl))⟩)
  have E_w_NODE_DELETED : Exa s s.heap w_NODE_DELETED "com/example/vartija/vartija/client/WatchEvent$Type" := Exa.start ev_w_NODE_DELETED c11
  obtain ⟨w_NODE_DATA_CHANGED, ev_w_NODE_DATA_CHANGED⟩ := exa_v c15
  have S_w_NODE_DATA_CHANGED : Sta s s.heap "com/example/vartija/vartija/client/WatchEvent$Type" "NODE_DATA_CHANGED" "Lcom/example/vartija/vartija/client/WatchEvent$Type;" (.ref w_NODE_DATA_CHANGED) := Sta.start ev_w_NODE_DATA_CHANGED (Or.inr ⟨(hw _ (List.mem_of_getElem? (i := 2) rfl)), (hw _ (List.mem_of_getElem? (i := 18) rfl))⟩)
  have E_w_NODE_DATA_CHANGED : Exa s s.heap w_NODE_DATA_CHANGED "com/example/vartija/vartija/client/WatchEvent$Type" := Exa.start ev_w_NODE_DATA_CHANGED c15
  obtain ⟨w_NODE_CHILDREN_CHANGED, ev_w_NODE_CHILDREN_CHANGED⟩ := exa_v c19
  have S_w_NODE_CHILDREN_CHANGED : Sta s s.heap "com/example/vartija/vartija/client/WatchEvent$Type" "NODE_CHILDREN_CHANGED" "Lcom/example/vartija/vartija/client/WatchEvent$Type;" (.ref w_NODE_CHILDREN_CHANGED) := Sta.start ev_w_NODE_CHILDREN_CHANGED (Or.inr ⟨(hw _ (List.mem_of_getElem? (i := 2) rfl)), (hw _ (List.mem_of_getElem? (i := 19) rfl))⟩)
  have E_w_NODE_CHILDREN_CHANGED : Exa s s.heap w_NODE_CHILDREN_CHANGED "com/example/vartija/vartija/client/WatchEvent$Type" := Exa.start ev_w_NODE_CHILDREN_CHANGED c19
  have el_w__VALUES_0 := (elem_in (own_eqV c9 ev_w_NODE_CREATED) ev_w__VALUES rfl A_w__VALUES.1).2
  have el_w__VALUES_1 := (elem_in (own_eqV c13 ev_w_NODE_DELETED) ev_w__VALUES rfl A_w__VALUES.1).2
  have el_w__VALUES_2 := (elem_in (own_eqV c17 ev_w_NODE_DATA_CHANGED) ev_w__VALUES rfl A_w__VALUES.1).2
  have el_w__VALUES_3 := (elem_in (own_eqV c21 ev_w_NODE_CHILDREN_CHANGED) ev_w__VALUES rfl A_w__VALUES.1).2
  have F_code_w_NODE_CREATED : Fld s s.heap w_NODE_CREATED "com/example/vartija/vartija/client/WatchEvent$Type" "code" "I" (.int (1 : Int32)) := Fld.start ((fld_at ev_w_NODE_CREATED).symm.trans (own_eqV c23 rfl))
  have F_code_w_NODE_DELETED : Fld s s.heap w_NODE_DELETED "com/example/vartija/vartija/client/WatchEvent$Type" "code" "I" (.int (2 : Int32)) := Fld.start ((fld_at ev_w_NODE_DELETED).symm.trans (own_eqV c25 rfl))
  have F_code_w_NODE_DATA_CHANGED : Fld s s.heap w_NODE_DATA_CHANGED "com/example/vartija/vartija/client/WatchEvent$Type" "code" "I" (.int (3 : Int32)) := Fld.start ((fld_at ev_w_NODE_DATA_CHANGED).symm.trans (own_eqV c27 rfl))
  have F_code_w_NODE_CHILDREN_CHANGED : Fld s s.heap w_NODE_CHILDREN_CHANGED "com/example/vartija/vartija/client/WatchEvent$Type" "code" "I" (.int (4 : Int32)) := Fld.start ((fld_at ev_w_NODE_CHILDREN_CHANGED).symm.trans (own_eqV c28 rfl))
  obtain ⟨kc_w__VALUES, hkc_w__VALUES⟩ : ∃ z, z = cl_w__VALUES.cls := ⟨_, rfl⟩
  have V_w__VALUES : Arv s s.heap w__VALUES kc_w__VALUES (.object "com/example/vartija/vartija/client/WatchEvent$Type") (4 : Int32) [(.ref w_NODE_CREATED), (.ref w_NODE_DELETED), (.ref w_NODE_DATA_CHANGED), (.ref w_NODE_CHILDREN_CHANGED)] .null := hkc_w__VALUES ▸ Arv.start hfit A_w__VALUES lt_w__VALUES len_w__VALUES (by decide) rfl ⟨el_w__VALUES_0, el_w__VALUES_1, el_w__VALUES_2, el_w__VALUES_3, trivial⟩
  obtain ⟨n, o, h1, h2, h3, _, L, rfl, ⟨rfl, N⟩, hq⟩ := rm0 l s _ hw tables_1 i0 i1 w__VALUES w_NODE_CREATED w_NODE_DELETED w_NODE_DATA_CHANGED w_NODE_CHILDREN_CHANGED kc_w__VALUES s.heap s.heap.size (Nat.le_refl _) S_w__VALUES E_w__VALUES S_w_NODE_CREATED E_w_NODE_CREATED S_w_NODE_DELETED E_w_NODE_DELETED S_w_NODE_DATA_CHANGED E_w_NODE_DATA_CHANGED S_w_NODE_CHILDREN_CHANGED E_w_NODE_CHILDREN_CHANGED F_code_w_NODE_CREATED F_code_w_NODE_DELETED F_code_w_NODE_DATA_CHANGED F_code_w_NODE_CHILDREN_CHANGED V_w__VALUES p e ha hc hk s m _ below hf ((Spec.applies_iff_loose hf).mp happ).1 ⟨rfl, State.Warmed39.refl s, rfl⟩ trivial
  refine ⟨n, _, h1, h2, h3, hpost _ _ _ _ _ _ ⟨Cond.after_iff.mpr rfl, Cond.after_iff.mpr (eq_i res_at (Term.int_eval (1)) rfl), trivial⟩ ⟨hq.1, hq.2.1, (hq.2.2.sift fun y hy => Or.inr (N y hy)).mono (by decide) (by decide)⟩⟩
theorem main_1_1 : Claimed_1_1 := comes_1 fun _ _ _ _ _ _ h hF => ⟨h.1, hF⟩
theorem main_1_2 : Claimed_1_2 := comes_1 fun _ _ _ _ _ _ h hF => ⟨h.2.1, hF⟩
end Jvm.Pilot.@@N@@
namespace Jvm.Pilot.@@N@@
open Jvm Jvm.ClassFile Sem Op Lib Jvm.Free Jvm.Stand Jvm.Pilot.@@N@@.Jvm.D
/-! MADE BY PROGRAM (witnessworld.py) out of the Statement's table words and the real class files: 13 classes; the members and pool entries that the words name. The judged class is class 1, her method 1. -/
namespace start1
open Jvm.ClassFile
def u (s : String) : CpInfo := .utf8 (stringToUtf16 s)
/-- a pool by its gaps: so many unusable entries, then the entry; so many at the end -/
def gap : Nat → List CpInfo → List CpInfo
  | 0, r => r
  | n + 1, r => .unusable :: gap n r
def poolList (es : List (Nat × CpInfo)) (last : Nat) : List CpInfo := es.foldr (fun e r => gap e.1 (e.2 :: r)) (gap last [])
def pool (es : List (Nat × CpInfo)) (last : Nat) : Array CpInfo := ⟨poolList es last⟩
def fileOf (pool : Array CpInfo) (this : Nat) (attrs : Array Attribute := #[]) (ms : Array MethodInfo := #[]) (fl : Nat := 33) (sup : Nat := 0) (ifs : Array Nat := #[]) (fds : Array FieldInfo := #[]) : ClassFile where
  minorVersion := 0
  majorVersion := 65
  constantPool := pool
  accessFlags := fl
  thisClass := this
  superClass := sup
  interfaces := ifs
  fields := fds
  methods := ms
  attributes := attrs
def plain (name : String) (sup : Option ClassId) : Class where
  name := name
  kind := .ordinary
  loader := none
  accessFlags := 33
  super := sup
  interfaces := #[]
  cf := none
  fields := #[]
  methods := #[]
  instanceTypes := #[]
  staticTypes := #[]
  resolved := #[]
  callSites := []
  init := .initialized
  statics := none
  mirror := none

def pool0 : Array CpInfo := pool [(5, u "<init>"), (0, u "()V"), (1, .class_ 10), (1, u "java/lang/Object"), (85, u "clone"), (0, u "()Ljava/lang/Object;")] 26

def k0m0 : Method := { name := "<init>", desc := "()V", sig := { parameters := [], returnType := none }, accessFlags := 1, code := none }
def k0m1 : Method := { name := "clone", desc := "()Ljava/lang/Object;", sig := { parameters := [], returnType := some (.object "java/lang/Object") }, accessFlags := 260, code := none }
/-- java/lang/Object -/
def k0 : Class := { plain "java/lang/Object" none with
  accessFlags := 33
  interfaces := #[]
  cf := some (fileOf pool0 8 #[] #[{ accessFlags := 1, nameIndex := 5, descriptorIndex := 6, attributes := #[] }, { accessFlags := 260, nameIndex := 96, descriptorIndex := 97, attributes := #[] }] 33 0 #[] #[])
  fields := #[]
  methods := #[k0m0, k0m1]
  instanceTypes := #[]
  staticTypes := #[]
  resolved := Array.replicate 124 none
  statics := none }

def pool1 : Array CpInfo := pool [(2, .class_ 4), (1, u "java/lang/Object"), (0, u "<init>"), (0, u "()V"), (0, .integer 2147483647), (2, .fieldref 11 12), (0, .class_ 13), (0, .nameAndType 14 15), (0, u "com/example/vartija/vartija/client/WatchEvent$Type"), (0, u "NODE_CREATED"), (0, u "Lcom/example/vartija/vartija/client/WatchEvent$Type;"), (0, .fieldref 11 17), (0, .nameAndType 18 15), (0, u "NODE_DELETED"), (0, .fieldref 11 20), (0, .nameAndType 21 15), (0, u "NODE_DATA_CHANGED"), (0, .fieldref 11 23), (0, .nameAndType 24 15), (0, u "NODE_CHILDREN_CHANGED"), (0, .methodref 11 26), (0, .nameAndType 27 28), (0, u "of"), (0, u "(I)Lcom/example/vartija/vartija/client/WatchEvent$Type;"), (0, .class_ 30), (0, u "com/example/vartija/vartija/client/TypeOfPinLaw"), (2, u "law"), (0, u "(II)Z")] 7

def k1m0 : Method := { name := "<init>", desc := "()V", sig := { parameters := [], returnType := none }, accessFlags := 2, code := none }
def k1c1 : Code := { maxStack := 2, maxLocals := 4, code := code, exceptionTable := #[], attributes := #[] }
def k1m1 : Method := { name := "law", desc := "(II)Z", sig := { parameters := [.int, .int], returnType := some .boolean }, accessFlags := 9, code := some k1c1 }
/-- com/example/vartija/vartija/client/TypeOfPinLaw -/
def k1 : Class := { plain "com/example/vartija/vartija/client/TypeOfPinLaw" (some 0) with
  accessFlags := 49
  interfaces := #[]
  cf := some (fileOf pool1 29 #[] #[{ accessFlags := 2, nameIndex := 5, descriptorIndex := 6, attributes := #[] }, { accessFlags := 9, nameIndex := 33, descriptorIndex := 34, attributes := #[] }] 49 2 #[] #[])
  fields := #[]
  methods := #[k1m0, k1m1]
  instanceTypes := #[]
  staticTypes := #[]
  resolved := Array.replicate 42 none
  statics := none }

def pool2 : Array CpInfo := pool [(1, .class_ 2), (0, u "java/lang/constant/Constable"), (0, .class_ 4), (0, u "java/lang/Object")] 6

/-- java/lang/constant/Constable -/
def k2 : Class := { plain "java/lang/constant/Constable" (some 0) with
  accessFlags := 1537
  interfaces := #[]
  cf := some (fileOf pool2 1 #[] #[] 1537 3 #[] #[])
  fields := #[]
  methods := #[]
  instanceTypes := #[]
  staticTypes := #[]
  resolved := Array.replicate 11 none
  statics := none }

def pool3 : Array CpInfo := pool [(1, .class_ 2), (0, u "java/lang/Comparable"), (0, .class_ 4), (0, u "java/lang/Object")] 7

/-- java/lang/Comparable -/
def k3 : Class := { plain "java/lang/Comparable" (some 0) with
  accessFlags := 1537
  interfaces := #[]
  cf := some (fileOf pool3 1 #[] #[] 1537 3 #[] #[])
  fields := #[]
  methods := #[]
  instanceTypes := #[]
  staticTypes := #[]
  resolved := Array.replicate 12 none
  statics := none }

def pool4 : Array CpInfo := pool [(1, .class_ 2), (0, u "java/io/Serializable"), (0, .class_ 4), (0, u "java/lang/Object")] 2

/-- java/io/Serializable -/
def k4 : Class := { plain "java/io/Serializable" (some 0) with
  accessFlags := 1537
  interfaces := #[]
  cf := some (fileOf pool4 1 #[] #[] 1537 3 #[] #[])
  fields := #[]
  methods := #[]
  instanceTypes := #[]
  staticTypes := #[]
  resolved := Array.replicate 7 none
  statics := none }

def pool5 : Array CpInfo := pool [(2, .class_ 4), (1, u "java/lang/Enum"), (0, u "name"), (0, u "Ljava/lang/String;"), (2, u "ordinal"), (0, u "I"), (1, .class_ 14), (1, u "java/lang/Object"), (4, u "hash"), (86, .class_ 108), (1, u "java/lang/Enum$EnumDesc"), (2, .class_ 112), (0, u "java/lang/constant/Constable"), (0, .class_ 114), (0, u "java/lang/Comparable"), (0, .class_ 116), (0, u "java/io/Serializable")] 87

/-- java/lang/Enum -/
def k5 : Class := { plain "java/lang/Enum" (some 0) with
  accessFlags := 1057
  interfaces := #[2, 3, 4]
  cf := some (fileOf pool5 2 #[.nestMembers #[106]] #[] 1057 12 #[111, 113, 115] #[{ accessFlags := 18, nameIndex := 5, descriptorIndex := 6, attributes := #[] }, { accessFlags := 18, nameIndex := 9, descriptorIndex := 10, attributes := #[] }, { accessFlags := 2, nameIndex := 19, descriptorIndex := 10, attributes := #[] }])
  fields := #[{ name := "name", type := (.object "java/lang/String"), accessFlags := 18, slot := 0, constantValue := 0 }, { name := "ordinal", type := .int, accessFlags := 18, slot := 1, constantValue := 0 }, { name := "hash", type := .int, accessFlags := 2, slot := 2, constantValue := 0 }]
  methods := #[]
  instanceTypes := #[(.object "java/lang/String"), .int, .int]
  staticTypes := #[]
  resolved := Array.replicate 204 none
  statics := none }

def pool6 : Array CpInfo := pool [(1, .class_ 2), (0, u "com/example/vartija/vartija/client/WatchEvent$Type"), (2, u "NODE_CREATED"), (0, u "Lcom/example/vartija/vartija/client/WatchEvent$Type;"), (2, u "NODE_DELETED"), (2, u "NODE_DATA_CHANGED"), (2, u "NODE_CHILDREN_CHANGED"), (0, .fieldref 1 17), (0, .nameAndType 18 19), (0, u "$VALUES"), (0, u "[Lcom/example/vartija/vartija/client/WatchEvent$Type;"), (0, .methodref 21 22), (0, .class_ 19), (0, .nameAndType 23 24), (0, u "clone"), (0, u "()Ljava/lang/Object;"), (1, .class_ 28), (1, u "java/lang/Enum"), (6, .fieldref 1 36), (0, .nameAndType 37 38), (0, u "code"), (0, u "I"), (0, .methodref 1 40), (0, .nameAndType 41 42), (0, u "values"), (0, u "()[Lcom/example/vartija/vartija/client/WatchEvent$Type;"), (18, u "of"), (0, u "(I)Lcom/example/vartija/vartija/client/WatchEvent$Type;"), (7, .class_ 71), (0, u "com/example/vartija/vartija/client/WatchEvent")] 2

def k6c0 : Code := { maxStack := 1, maxLocals := 0, code := prog_22_method_1_code, exceptionTable := #[], attributes := #[] }
def k6m0 : Method := { name := "values", desc := "()[Lcom/example/vartija/vartija/client/WatchEvent$Type;", sig := { parameters := [], returnType := some (.array (.object "com/example/vartija/vartija/client/WatchEvent$Type")) }, accessFlags := 9, code := some k6c0 }
def k6c1 : Code := { maxStack := 2, maxLocals := 6, code := prog_22_method_4_code, exceptionTable := #[], attributes := #[] }
def k6m1 : Method := { name := "of", desc := "(I)Lcom/example/vartija/vartija/client/WatchEvent$Type;", sig := { parameters := [.int], returnType := some (.object "com/example/vartija/vartija/client/WatchEvent$Type") }, accessFlags := 8, code := some k6c1 }
/-- com/example/vartija/vartija/client/WatchEvent$Type -/
def k6 : Class := { plain "com/example/vartija/vartija/client/WatchEvent$Type" (some 5) with
  accessFlags := 16433
  interfaces := #[]
  cf := some (fileOf pool6 1 #[.nestHost 70] #[{ accessFlags := 9, nameIndex := 41, descriptorIndex := 42, attributes := #[] }, { accessFlags := 8, nameIndex := 61, descriptorIndex := 62, attributes := #[] }] 16433 26 #[] #[{ accessFlags := 16409, nameIndex := 5, descriptorIndex := 6, attributes := #[] }, { accessFlags := 16409, nameIndex := 9, descriptorIndex := 6, attributes := #[] }, { accessFlags := 16409, nameIndex := 12, descriptorIndex := 6, attributes := #[] }, { accessFlags := 16409, nameIndex := 15, descriptorIndex := 6, attributes := #[] }, { accessFlags := 18, nameIndex := 37, descriptorIndex := 38, attributes := #[] }, { accessFlags := 4122, nameIndex := 18, descriptorIndex := 19, attributes := #[] }])
  fields := #[{ name := "NODE_CREATED", type := (.object "com/example/vartija/vartija/client/WatchEvent$Type"), accessFlags := 16409, slot := 0, constantValue := 0 }, { name := "NODE_DELETED", type := (.object "com/example/vartija/vartija/client/WatchEvent$Type"), accessFlags := 16409, slot := 1, constantValue := 0 }, { name := "NODE_DATA_CHANGED", type := (.object "com/example/vartija/vartija/client/WatchEvent$Type"), accessFlags := 16409, slot := 2, constantValue := 0 }, { name := "NODE_CHILDREN_CHANGED", type := (.object "com/example/vartija/vartija/client/WatchEvent$Type"), accessFlags := 16409, slot := 3, constantValue := 0 }, { name := "code", type := .int, accessFlags := 18, slot := 3, constantValue := 0 }, { name := "$VALUES", type := (.array (.object "com/example/vartija/vartija/client/WatchEvent$Type")), accessFlags := 4122, slot := 4, constantValue := 0 }]
  methods := #[k6m0, k6m1]
  instanceTypes := #[(.object "java/lang/String"), .int, .int, .int]
  staticTypes := #[(.object "com/example/vartija/vartija/client/WatchEvent$Type"), (.object "com/example/vartija/vartija/client/WatchEvent$Type"), (.object "com/example/vartija/vartija/client/WatchEvent$Type"), (.object "com/example/vartija/vartija/client/WatchEvent$Type"), (.array (.object "com/example/vartija/vartija/client/WatchEvent$Type"))]
  resolved := Array.replicate 74 none
  statics := some 0 }

def pool7 : Array CpInfo := pool [(1, .class_ 2), (0, u "java/lang/Cloneable"), (0, .class_ 4), (0, u "java/lang/Object")] 2

/-- java/lang/Cloneable -/
def k7 : Class := { plain "java/lang/Cloneable" (some 0) with
  accessFlags := 1537
  interfaces := #[]
  cf := some (fileOf pool7 1 #[] #[] 1537 3 #[] #[])
  fields := #[]
  methods := #[]
  instanceTypes := #[]
  staticTypes := #[]
  resolved := Array.replicate 7 none
  statics := none }

/-- the primitive byte -/
def k8 : Class := { plain "byte" none with kind := .primitive 'B', accessFlags := 0x411 }
/-- [B -/
def k9 : Class := { plain "[B" (some 0) with kind := .array 8 .byte, interfaces := #[7, 4], accessFlags := 1041 }

/-- the primitive int -/
def k10 : Class := { plain "int" none with kind := .primitive 'I', accessFlags := 0x411 }
/-- [I -/
def k11 : Class := { plain "[I" (some 0) with kind := .array 10 .int, interfaces := #[7, 4], accessFlags := 1041 }

/-- [Lcom/example/vartija/vartija/client/WatchEvent$Type; -/
def k12 : Class := { plain "[Lcom/example/vartija/vartija/client/WatchEvent$Type;" (some 0) with kind := .array 6 (.object "com/example/vartija/vartija/client/WatchEvent$Type"), interfaces := #[7, 4], accessFlags := 1041 }

def heap : Heap := #[{ cls := 6, slots := #[.ref 2, .ref 3, .ref 4, .ref 5, .ref 1], vm := .statics 6 },
  { cls := 12, slots := #[.ref 2, .ref 3, .ref 4, .ref 5], vm := .none },
  { cls := 6, slots := #[.null, .int 0, .int 0, .int 1], vm := .none },
  { cls := 6, slots := #[.null, .int 0, .int 0, .int 2], vm := .none },
  { cls := 6, slots := #[.null, .int 0, .int 0, .int 3], vm := .none },
  { cls := 6, slots := #[.null, .int 0, .int 0, .int 4], vm := .none }]
def classes : Array Class := #[k0, k1, k2, k3, k4, k5, k6, k7, k8, k9, k10, k11, k12]
def interned : List (Array UInt16 × Addr) := []
def slotsUsed : Nat := 25
def theMethod : MethodId := ⟨1, 1⟩
def args0 : Array Value := #[.int 1, .int 2]
def aboutOver (below : List Frame) : State where
  vm := { classes := classes, interned := interned.toArray }
  heap := heap
  slotsUsed := slotsUsed
  threads := #[{ frames := .invoking theMethod args0 :: below }]
def below0 : List Frame := [.native { method := ⟨0, 0⟩, args := #[] }]
def about1 : State := aboutOver below0
def p0 : Program := .bare "" "" ""
def e0 : Env := launch0.env 0 0 0
theorem w_frames : about1.frames = Frame.invoking theMethod args0 :: below0 := rfl
set_option maxRecDepth 65536 in
theorem w_args : argsFit about1.vm theMethod args0 = true := by decide +kernel
set_option maxRecDepth 65536 in
theorem w_heap : heapFits about1 = true := by decide +kernel
set_option maxRecDepth 65536 in
theorem w_runnable : about1.curStatus? = some .runnable := by decide +kernel
set_option maxRecDepth 65536 in
theorem w_alone : about1.alone = true := by decide +kernel
set_option maxRecDepth 65536 in
theorem w_named : about1.methodNamed? x = some theMethod := by decide +kernel
set_option maxRecDepth 65536 in
theorem w_hears : about1.hears theMethod below0 = true := by decide +kernel
set_option maxRecDepth 65536 in
theorem w_ripe : about1.ripe theMethod args0 below0 = true := by decide +kernel
theorem w_running : about1.status = .running := rfl
set_option maxRecDepth 65536 in
theorem w_room : about1.hasRoom e0.platform room_1 = true :=
  launch0.hasRoom_least _ room_1 (by decide +kernel) (by decide +kernel) (by decide +kernel) (by decide +kernel) (by decide +kernel) (by decide +kernel)
theorem allAtoms_all (ts : List Jvm.Cond) (a : Array Jvm.Value) (st : Jvm.State) : (allAtoms ts).before a st = ts.all (fun c => c.before a st) := by
  induction ts with
  | nil => rfl
  | cons c t ih =>
    show (Jvm.Cond.and c (allAtoms t)).before a st = _
    rw [Jvm.Cond.before_and, ih, List.all_cons]
def words1 : List Jvm.Cond := Jvm.Cond.code x code maxLocals ret :: tables_1
/-- a 'code' word, met by the world's own term for the bytes: nothing is compared byte by byte -/
theorem code_word {y : MethodName} {bytes : ByteArray} {mx : Nat} {rt : Option FieldType} {a : Array Value} {s : State} {m : MethodId} {meth : Method} {c : Code} (h1 : s.methodNamed? y = some m) (h2 : s.vm.method? m = some meth) (h3 : meth.code = some c) (h4 : c.code = bytes)
    (h5 : (c.maxLocals == mx && c.exceptionTable.isEmpty && decide (c.maxStack ≤ mostOperands) && decide (meth.sig.returnType = rt) && !meth.locks && decide (parseMethodDescriptor y.desc = some meth.sig)) = true) : (Jvm.Cond.code y bytes mx rt).before a s = true := by
  simp only [Bool.and_eq_true, beq_iff_eq, Bool.not_eq_true', decide_eq_true_eq] at h5
  obtain ⟨⟨⟨⟨⟨g1, g2⟩, g3⟩, g4⟩, g5⟩, g6⟩ := h5
  simp [Cond.before, Cond.holds, Cond.value, h1, h2, h3, h4, g1, g2, g3, g4, g5, g6]
def isCode : Jvm.Cond → Bool
  | .code _ _ _ _ => true
  | _ => false
theorem all_split {L : List Jvm.Cond} {P : Jvm.Cond → Bool} (h1 : L.all (fun c => isCode c || P c) = true) (h2 : ∀ c ∈ L.filter isCode, P c = true) : L.all P = true := by
  refine List.all_eq_true.mpr fun c hc => ?_
  have h := List.all_eq_true.mp h1 c hc
  rcases Bool.eq_false_or_eq_true (isCode c) with hi | hi
  · exact h2 c (List.mem_filter.mpr ⟨hc, hi⟩)
  · simpa [hi] using h
set_option maxRecDepth 65536 in
theorem w_c0 : (Jvm.Cond.code x code maxLocals ret).before args0 about1 = true := code_word (m := ⟨1, 1⟩) (meth := k1m1) (c := k1c1) (by decide +kernel) rfl rfl rfl (by decide +kernel)
set_option maxRecDepth 65536 in
theorem w_c1 : (Jvm.Cond.code ({ cls := "com/example/vartija/vartija/client/WatchEvent$Type", name := "of", desc := "(I)Lcom/example/vartija/vartija/client/WatchEvent$Type;" } : Jvm.MethodName) prog_22_method_4_code (6 : Nat) (Option.some (Jvm.ClassFile.FieldType.object "com/example/vartija/vartija/client/WatchEvent$Type"))).before args0 about1 = true := code_word (m := ⟨6, 1⟩) (meth := k6m1) (c := k6c1) (by decide +kernel) rfl rfl rfl (by decide +kernel)
set_option maxRecDepth 65536 in
theorem w_c2 : (Jvm.Cond.code ({ cls := "com/example/vartija/vartija/client/WatchEvent$Type", name := "values", desc := "()[Lcom/example/vartija/vartija/client/WatchEvent$Type;" } : Jvm.MethodName) prog_22_method_1_code (0 : Nat) (Option.some (Jvm.ClassFile.FieldType.array (Jvm.ClassFile.FieldType.object "com/example/vartija/vartija/client/WatchEvent$Type")))).before args0 about1 = true := code_word (m := ⟨6, 0⟩) (meth := k6m0) (c := k6c0) (by decide +kernel) rfl rfl rfl (by decide +kernel)
def codes1 : List Jvm.Cond := [Jvm.Cond.code x code maxLocals ret, Jvm.Cond.code ({ cls := "com/example/vartija/vartija/client/WatchEvent$Type", name := "of", desc := "(I)Lcom/example/vartija/vartija/client/WatchEvent$Type;" } : Jvm.MethodName) prog_22_method_4_code (6 : Nat) (Option.some (Jvm.ClassFile.FieldType.object "com/example/vartija/vartija/client/WatchEvent$Type")), Jvm.Cond.code ({ cls := "com/example/vartija/vartija/client/WatchEvent$Type", name := "values", desc := "()[Lcom/example/vartija/vartija/client/WatchEvent$Type;" } : Jvm.MethodName) prog_22_method_1_code (0 : Nat) (Option.some (Jvm.ClassFile.FieldType.array (Jvm.ClassFile.FieldType.object "com/example/vartija/vartija/client/WatchEvent$Type")))]
set_option maxRecDepth 65536 in
theorem codes_eq : words1.filter isCode = codes1 := rfl
theorem w_codes : ∀ c ∈ words1.filter isCode, c.before args0 about1 = true := by
  rw [codes_eq]
  intro c hc
  simp only [codes1, List.mem_cons, List.not_mem_nil, or_false] at hc
  rcases hc with rfl | rfl | rfl
  · exact w_c0
  · exact w_c1
  · exact w_c2
set_option maxRecDepth 65536 in
theorem w_t1 : (words1.take 24).all (fun c => isCode c || c.before args0 about1) = true := by decide +kernel
set_option maxRecDepth 65536 in
theorem w_t2 : (words1.drop 24).all (fun c => isCode c || c.before args0 about1) = true := by decide +kernel
theorem w_tables : (allAtoms (Jvm.Cond.code x code maxLocals ret :: tables_1)).before args0 about1 = true := by
  rw [allAtoms_all]
  show words1.all (fun c => c.before args0 about1) = true
  refine all_split ?_ w_codes
  rw [← List.take_append_drop 24 words1, List.all_append, w_t1, w_t2]
  rfl
set_option maxRecDepth 65536 in
theorem w_case : (Jvm.Cond.and given_1 narrow_1).before args0 about1 = true := by decide +kernel
theorem w_applies : (headSpec (Jvm.Cond.code x code maxLocals ret :: tables_1) room_1).applies x e0.platform about1 = true :=
  (Spec.applies_iff w_frames).mpr ⟨w_running, w_runnable, w_alone, w_named, w_hears, w_ripe, w_room, w_tables⟩
theorem atStart : AtStart classFile x code maxLocals ret World_1 tables_1 room_1 Calls_1 rest_1 Pre_1 launch0 p0 e0 about1 theMethod args0 below0 :=
  ⟨lists_1, trivial, launch0.admits_env _ _ _, launch0.least_env, fairChoices_fair.cas, fairChoices_fair.clock, w_frames, w_args, w_heap, w_applies, trivial, trivial, w_case⟩
end start1
theorem witness_1 : WitnessClaimed_1 := ⟨start1.p0, start1.e0, start1.about1, start1.theMethod, start1.args0, start1.below0, start1.atStart⟩
end Jvm.Pilot.@@N@@
