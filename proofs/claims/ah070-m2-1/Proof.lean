import JvmDerived
import JvmDerived.Pilot.@@N@@Statement
import JvmDerived.Pilot.@@N@@Code
set_option linter.unusedVariables false
set_option linter.unusedSimpArgs false
namespace Jvm.RoadKit
open Sem ClassFile Op Lib Jvm.Stand Jvm.Free Jvm.LawKit
section New
variable {p : Program} {l : Launch} {e : Env} {R : Room} {s : State} {m : MethodId} {args : Array Value} {below : List Frame} {meth : Method} {c : Code} {T : State} {locs : List Loc} {cells slots : Nat}
theorem retI (X : Stand p l e R s m args below meth c T locs cells slots) (hx : p.tables.exec = Jvm.exec) {pc : Nat} {Ls : Array Slot} {z : Int32} {rest : List Value} (hret : meth.sig.returnType = some .int) (hd : decode c.code pc = .ok (.ireturn, 1)) {fs : List Frame}
    (hl : ∀ (f : JFrame) (acts : List Action), f.method = m → f.locked = none → f.entered = [] → (doReturn e (T.setTop f) acts (some (.int z))).1 = T.setFrames fs) : Steps p.tables e below (T.setTop (mkF m pc Ls (.int z :: rest))) (T.setFrames fs) := by
  have hm' : T.vm.method? m = some meth := X.method'
  have hn : narrow .int (.int z) = .int z := rfl
  show Steps p.tables e below (T.setTop { method := m, pc := pc, locals := Ls, stack := _ :: rest, locked := none }) _
  jvm_step X.here [X.here.top, hx, hd, hm', hret, hn]
  first | (intro acts; rw [hl _ acts rfl rfl rfl]) | rw [hl _ _ rfl rfl rfl]
  exact Steps.refl _
end New
/-- from this state a run goes on to an end that meets K -/
def Good (p : Program) (e : Env) (below : List Frame) (K : Outcome → State → Prop) (S : State) : Prop := ∃ s₂ o, Steps p.tables e below S s₂ ∧ s₂.status = .running ∧ Ended s₂ below o ∧ K o s₂
theorem Good.back {p : Program} {e : Env} {below : List Frame} {K : Outcome → State → Prop} {S S' : State} (h : ∀ t, Steps p.tables e below S' t → Steps p.tables e below S t) (g : Good p e below K S') : Good p e below K S := by
  obtain ⟨t, o, h1, h2⟩ := g
  exact ⟨t, o, h t h1, h2⟩
theorem Good.done {p : Program} {e : Env} {below : List Frame} {K : Outcome → State → Prop} {S t : State} {o : Outcome} (h1 : Steps p.tables e below S t) (h2 : t.status = .running) (h3 : Ended t below o) (h4 : K o t) : Good p e below K S := ⟨t, o, h1, h2, h3, h4⟩
end Jvm.RoadKit
namespace Jvm.Pilot.@@N@@
open Jvm Jvm.ClassFile Sem Op Lib Jvm.Free Jvm.Stand Jvm.LawKit Jvm.RoadKit Bundle Jvm.Pilot.@@N@@.Jvm.D
theorem own_ishl2 (x : Int32) : (x <<< ((2 : Int32) &&& 31)).toBitVec = x.toBitVec <<< 2 := by rfl
theorem own_pn0 : plainName "java/lang/Record" = true := by first | (simp [plainName, overriddenIn]; done) | decide +kernel
theorem own_d2_0 : decode jdk_30_method_1_code 0 = .ok (.aload_n 0, 1) := by decide +kernel
theorem own_d2_1 : decode jdk_30_method_1_code 1 = .ok (.invokespecial 1, 3) := by decide +kernel
theorem own_d2_4 : decode jdk_30_method_1_code 4 = .ok (.return_, 1) := by decide +kernel
theorem own_ef_2 (m : MethodId) (x0 : Addr) : entryFrame m #[(.ref x0)] 1 = mkF m 0 #[.val (.ref x0)] [] := by first | (simp [entryFrame, mkF, argsToLocals, Value.category]; done) | rfl
def Q2 (Z : State) (r0 : Addr) (h0 : Heap) (n0 : Nat) (v : Option Value) (h : Heap) (L : List Loc) : Prop := v = none ∧ Fr n0 L ∧ h = h0
set_option maxRecDepth 65536 in
set_option maxHeartbeats 40000000 in
theorem rm2 (l : Launch) (Z : State) (a0 : Array Value) (hw : ∀ d ∈ tables_1, d.before a0 Z = true) (ws : List Jvm.Cond) (r0 : Addr) (h0 : Heap) (n0 : Nat) (Z0 : n0 ≤ h0.size)  :
    MetFree l (⟨"java/lang/Record", "<init>", "()V"⟩ : MethodName) (head1 (Jvm.Cond.code (⟨"java/lang/Record", "<init>", "()V"⟩ : MethodName) jdk_30_method_1_code 1 none :: ws) ({ frames := 1, cells := 0, slots := 0, locals := 12 } : Room)) (fun a U => a = #[(.ref r0)] ∧ Z.Warmed39 U.vm ∧ U.heap = h0) (fun _ _ _ _ _ => True) (fun _ U o U' => ∃ v L, o = .returned v ∧ Q2 Z r0 h0 n0 v U'.heap L ∧ FrameEnd U o U' L ({ frames := 1, cells := 0, slots := 0, locals := 12 } : Room).cells ({ frames := 1, cells := 0, slots := 0, locals := 12 } : Room).slots) := by
  refine MetFree.of_bodySF (plainFor_of_name own_pn0) hisR ?_
  intro p e s m args below meth c s₁ Bd hml0 hP hK
  obtain ⟨rfl, hZ, hh⟩ := hP
  have hx := Bd.exec
  have hby := Bd.bytes
  have hml : c.maxLocals = 1 := hml0
  have hown : s.vm.findClass "java/lang/Record" = some m.cls := findClass_of_methodNamed Bd.named
  have hnm := (name_of_methodNamed Bd.named Bd.method).1
  have X0 : Stand p l e ({ frames := 1, cells := 0, slots := 0, locals := 12 } : Room) s m #[(.ref r0)] below meth c s₁ [] 0 0 := Stand.of_body Bd
  have e0 : s₁.heap = h0 := by rw [← hh, Bd.state]; rfl
  have N0 := Fr.nil n0
  show Good p e below (fun o U' => ∃ v L, o = .returned v ∧ Q2 Z r0 h0 n0 v U'.heap L ∧ FrameEnd s o U' L ({ frames := 1, cells := 0, slots := 0, locals := 12 } : Room).cells ({ frames := 1, cells := 0, slots := 0, locals := 12 } : Room).slots) _
  refine Good.back (S' := s₁.setTop (mkF m 0 #[.val (.ref r0)] [])) (fun t k => castTop (own_ef_2 m r0) k) ?_
  show Good p e below _ (s₁.setTop (mkF m 0 #[.val (.ref r0)] []))
  refine Good.back (fun _ k => XS.aloadN X0.here hx rfl (hb hby own_d2_0) rfl rfl k) ?_
  show Good p e below _ (s₁.setTop (mkF m 1 #[.val (.ref r0)] [(.ref r0)]))
  obtain ⟨T1, X1, e1, st1⟩ := initO X0 hx hZ hown (hw _ (List.mem_of_getElem? (i := 11) rfl)) (hw _ (List.mem_of_getElem? (i := 12) rfl)) (hw _ (List.mem_of_getElem? (i := 13) rfl)) e0 (g := (mkF m 1 #[.val (.ref r0)] [(.ref r0)])) rfl (by rw [hml]; rfl) rfl (hb hby own_d2_1) (by decide) (W := 0) (by show 2 * 0 + _ ≤ _; exact Nat.le_of_eq rfl) (by decide)
  refine Good.back st1 ?_
  show Good p e below _ (T1.setTop (mkF m 4 #[.val (.ref r0)] []))
  obtain ⟨fs2, hr2, hrun2, hended2, hW2, hsame2⟩ := X1.leave (v := none) (fun _ => rfl)
  refine Good.done (X1.returnOut hx Bd.returns (hb hby own_d2_4) hr2) hrun2 hended2 ⟨_, _, rfl, ?_, ⟨_, rfl⟩, hW2, hsame2.mono (by decide) (by decide)⟩
  show Q2 Z r0 h0 n0 _ T1.heap _
  rw [e1]
  exact ⟨rfl, N0, rfl⟩
theorem own_pd3 : parseMethodDescriptor "()V" = some ⟨[], none⟩ := by decide +kernel
theorem own_pn1 : plainName "com/example/vartija/vartija/protocol/CreateRequest" = true := by first | (simp [plainName, overriddenIn]; done) | decide +kernel
theorem own_d1_0 : decode prog_30_method_1_code 0 = .ok (.aload_n 0, 1) := by decide +kernel
theorem own_d1_1 : decode prog_30_method_1_code 1 = .ok (.invokespecial 1, 3) := by decide +kernel
theorem own_d1_4 : decode prog_30_method_1_code 4 = .ok (.aload_n 0, 1) := by decide +kernel
theorem own_d1_5 : decode prog_30_method_1_code 5 = .ok (.aload_n 1, 1) := by decide +kernel
theorem own_d1_6 : decode prog_30_method_1_code 6 = .ok (.putfield 7, 3) := by decide +kernel
theorem own_d1_9 : decode prog_30_method_1_code 9 = .ok (.aload_n 0, 1) := by decide +kernel
theorem own_d1_10 : decode prog_30_method_1_code 10 = .ok (.aload_n 2, 1) := by decide +kernel
theorem own_d1_11 : decode prog_30_method_1_code 11 = .ok (.putfield 13, 3) := by decide +kernel
theorem own_d1_14 : decode prog_30_method_1_code 14 = .ok (.aload_n 0, 1) := by decide +kernel
theorem own_d1_15 : decode prog_30_method_1_code 15 = .ok (.aload_n 3, 1) := by decide +kernel
theorem own_d1_16 : decode prog_30_method_1_code 16 = .ok (.putfield 17, 3) := by decide +kernel
theorem own_d1_19 : decode prog_30_method_1_code 19 = .ok (.aload_n 0, 1) := by decide +kernel
theorem own_d1_20 : decode prog_30_method_1_code 20 = .ok (.iload 4, 2) := by decide +kernel
theorem own_d1_22 : decode prog_30_method_1_code 22 = .ok (.putfield 21, 3) := by decide +kernel
theorem own_d1_25 : decode prog_30_method_1_code 25 = .ok (.return_, 1) := by decide +kernel
theorem own_ef_1 (m : MethodId) (x0 : Addr) (x4 : Int32) : entryFrame m #[(.ref x0), .null, .null, .null, (.int x4)] 5 = mkF m 0 #[.val (.ref x0), .val .null, .val .null, .val .null, .val (.int x4)] [] := by first | (simp [entryFrame, mkF, argsToLocals, Value.category]; done) | rfl
def Q1 (Z : State) (r0 : Addr) (p4 : Int32) (h0 : Heap) (n0 : Nat) (v : Option Value) (h : Heap) (L : List Loc) : Prop := v = none ∧ Fr n0 L ∧ Keep h0 h [r0] ∧ Fld Z h r0 "com/example/vartija/vartija/protocol/CreateRequest" "flags" "I" (.int p4)
set_option maxRecDepth 65536 in
set_option maxHeartbeats 40000000 in
theorem rm1 (l : Launch) (Z : State) (a0 : Array Value) (hw : ∀ d ∈ tables_1, d.before a0 Z = true) (ws : List Jvm.Cond) (r0 : Addr) (p4 : Int32) (h0 : Heap) (n0 : Nat) (Z0 : n0 ≤ h0.size) (E0 : Exa Z h0 r0 "com/example/vartija/vartija/protocol/CreateRequest") (g0 : n0 ≤ r0) (F_path : Fld Z h0 r0 "com/example/vartija/vartija/protocol/CreateRequest" "path" "Ljava/lang/String;" .null) (F_data : Fld Z h0 r0 "com/example/vartija/vartija/protocol/CreateRequest" "data" "[B" .null) (F_acl : Fld Z h0 r0 "com/example/vartija/vartija/protocol/CreateRequest" "acl" "Ljava/util/List;" .null) (F_flags : Fld Z h0 r0 "com/example/vartija/vartija/protocol/CreateRequest" "flags" "I" (.int (0 : Int32))) :
    MetFree l (⟨"com/example/vartija/vartija/protocol/CreateRequest", "<init>", "(Ljava/lang/String;[BLjava/util/List;I)V"⟩ : MethodName) (head1 (Jvm.Cond.code (⟨"com/example/vartija/vartija/protocol/CreateRequest", "<init>", "(Ljava/lang/String;[BLjava/util/List;I)V"⟩ : MethodName) prog_30_method_1_code 5 none :: ws) ({ frames := 2, cells := 0, slots := 0, locals := 24 } : Room)) (fun a U => a = #[(.ref r0), .null, .null, .null, (.int p4)] ∧ Z.Warmed39 U.vm ∧ U.heap = h0) (fun _ _ _ _ _ => True) (fun _ U o U' => ∃ v L, o = .returned v ∧ Q1 Z r0 p4 h0 n0 v U'.heap L ∧ FrameEnd U o U' L ({ frames := 2, cells := 0, slots := 0, locals := 24 } : Room).cells ({ frames := 2, cells := 0, slots := 0, locals := 24 } : Room).slots) := by
  refine MetFree.of_bodySF (plainFor_of_name own_pn1) hisR ?_
  intro p e s m args below meth c s₁ Bd hml0 hP hK
  obtain ⟨rfl, hZ, hh⟩ := hP
  have hx := Bd.exec
  have hby := Bd.bytes
  have hml : c.maxLocals = 5 := hml0
  have hown : s.vm.findClass "com/example/vartija/vartija/protocol/CreateRequest" = some m.cls := findClass_of_methodNamed Bd.named
  have hnm := (name_of_methodNamed Bd.named Bd.method).1
  have X0 : Stand p l e ({ frames := 2, cells := 0, slots := 0, locals := 24 } : Room) s m #[(.ref r0), .null, .null, .null, (.int p4)] below meth c s₁ [] 0 0 := Stand.of_body Bd
  have e0 : s₁.heap = h0 := by rw [← hh, Bd.state]; rfl
  have N0 := Fr.nil n0
  have KR : Keep h0 h0 [r0] := Keep.refl h0 _
  show Good p e below (fun o U' => ∃ v L, o = .returned v ∧ Q1 Z r0 p4 h0 n0 v U'.heap L ∧ FrameEnd s o U' L ({ frames := 2, cells := 0, slots := 0, locals := 24 } : Room).cells ({ frames := 2, cells := 0, slots := 0, locals := 24 } : Room).slots) _
  refine Good.back (S' := s₁.setTop (mkF m 0 #[.val (.ref r0), .val .null, .val .null, .val .null, .val (.int p4)] [])) (fun t k => castTop (own_ef_1 m r0 p4) k) ?_
  show Good p e below _ (s₁.setTop (mkF m 0 #[.val (.ref r0), .val .null, .val .null, .val .null, .val (.int p4)] []))
  refine Good.back (fun _ k => XS.aloadN X0.here hx rfl (hb hby own_d1_0) rfl rfl k) ?_
  show Good p e below _ (s₁.setTop (mkF m 1 #[.val (.ref r0), .val .null, .val .null, .val .null, .val (.int p4)] [(.ref r0)]))
  obtain ⟨_, _, ⟨T1, L1, k1, n1⟩, -, X1, ⟨Lc1, hQ1, l1, y1, z1⟩, st1⟩ := X0.specialBack hx (y := (⟨"java/lang/Record", "<init>", "()V"⟩ : MethodName)) rfl hown (mvT hZ (hw _ (List.mem_of_getElem? (i := 6) rfl))) (mvT hZ (hw _ (List.mem_of_getElem? (i := 7) rfl))) (mvT hZ (hw _ (List.mem_of_getElem? (i := 10) rfl))) (by decide) (backOf (W := 0) (rm2 l Z a0 hw [] r0  h0 n0 Z0 ) hZ (hw _ (List.mem_of_getElem? (i := 10) rfl)) (hw _ (List.mem_of_getElem? (i := 9) rfl)) (by decide) (by decide)) (g := (mkF m 1 #[.val (.ref r0), .val .null, .val .null, .val .null, .val (.int p4)] [(.ref r0)])) rfl (by rw [hml]; rfl) (Steps.refl _) (a := r0) (argsL := []) (rest := []) (lenOf own_pd3 rfl) rfl (by show 2 * 0 + _ ≤ _; exact Nat.le_of_eq rfl) (hb hby own_d1_1) (fun _ _ => ⟨rfl, e0, (by decide : 0 + 0 ≤ _), (by decide : 0 + 0 ≤ _)⟩)
  dsimp only [Pt.U, Pt.locs, Pt.cells, Pt.slots] at X1 l1 y1 z1 st1 hQ1
  subst l1 y1 z1
  obtain ⟨rfl, N1q, eh1⟩ := hQ1
  have N1 := Fr.app N0 N1q
  refine Good.back (fun _ k => st1.trans k) ?_
  show Good p e below _ (T1.setTop (mkF m 4 #[.val (.ref r0), .val .null, .val .null, .val .null, .val (.int p4)] []))
  refine Good.back (fun _ k => XS.aloadN X1.here hx rfl (hb hby own_d1_4) rfl rfl k) ?_
  show Good p e below _ (T1.setTop (mkF m 5 #[.val (.ref r0), .val .null, .val .null, .val .null, .val (.int p4)] [(.ref r0)]))
  refine Good.back (fun _ k => XS.aloadN X1.here hx rfl (hb hby own_d1_5) rfl rfl k) ?_
  show Good p e below _ (T1.setTop (mkF m 6 #[.val (.ref r0), .val .null, .val .null, .val .null, .val (.int p4)] [.null, (.ref r0)]))
  obtain ⟨T2, h2, X2, e2, W2, st2⟩ := putF X1 hx hZ hown (host := "") (Or.inl (hw _ (List.mem_of_getElem? (i := 14) rfl))) Via.refl eh1 F_path E0 (Or.inr ⟨(hw _ (List.mem_of_getElem? (i := 15) rfl)), rfl, hnm⟩) (hw _ (List.mem_of_getElem? (i := 1) rfl)) (ty := (.object "java/lang/String")) (by decide) rfl rfl (g := (mkF m 6 #[.val (.ref r0), .val .null, .val .null, .val .null, .val (.int p4)] [.null, (.ref r0)])) rfl rfl (hb hby own_d1_6)
  refine Good.back st2 ?_
  have f_3 : Fld Z h2 r0 "com/example/vartija/vartija/protocol/CreateRequest" "path" "Ljava/lang/String;" .null := Fld.same W2 F_path
  have N2 := Fr.snoc X2 N1 g0
  have Z4 : n0 ≤ h2.size := Nat.le_trans Z0 (Keep.of_wr W2).1
  have K5 : Keep h0 h2 [r0] := KR.wr W2 (Or.inl (List.mem_of_getElem? (i := 0) rfl))
  show Good p e below _ (T2.setTop (mkF m 9 #[.val (.ref r0), .val .null, .val .null, .val .null, .val (.int p4)] []))
  refine Good.back (fun _ k => XS.aloadN X2.here hx rfl (hb hby own_d1_9) rfl rfl k) ?_
  show Good p e below _ (T2.setTop (mkF m 10 #[.val (.ref r0), .val .null, .val .null, .val .null, .val (.int p4)] [(.ref r0)]))
  refine Good.back (fun _ k => XS.aloadN X2.here hx rfl (hb hby own_d1_10) rfl rfl k) ?_
  show Good p e below _ (T2.setTop (mkF m 11 #[.val (.ref r0), .val .null, .val .null, .val .null, .val (.int p4)] [.null, (.ref r0)]))
  have f_6 : Fld Z h2 r0 "com/example/vartija/vartija/protocol/CreateRequest" "data" "[B" .null := Fld.other W2 F_data (Or.inr (slot_ne (Or.inr (hw _ (List.mem_of_getElem? (i := 17) rfl))) (Or.inr (hw _ (List.mem_of_getElem? (i := 15) rfl))) (by decide) (t := (.array .byte)) (t' := (.object "java/lang/String")) (by decide) (by decide)))
  have f_7 : Exa Z h2 r0 "com/example/vartija/vartija/protocol/CreateRequest" := Exa.wr W2 E0
  obtain ⟨T8, h8, X8, e8, W8, st8⟩ := putF X2 hx hZ hown (host := "") (Or.inl (hw _ (List.mem_of_getElem? (i := 16) rfl))) Via.refl e2 f_6 f_7 (Or.inr ⟨(hw _ (List.mem_of_getElem? (i := 17) rfl)), rfl, hnm⟩) (hw _ (List.mem_of_getElem? (i := 1) rfl)) (ty := (.array .byte)) (by decide) rfl rfl (g := (mkF m 11 #[.val (.ref r0), .val .null, .val .null, .val .null, .val (.int p4)] [.null, (.ref r0)])) rfl rfl (hb hby own_d1_11)
  refine Good.back st8 ?_
  have f_9 : Fld Z h8 r0 "com/example/vartija/vartija/protocol/CreateRequest" "data" "[B" .null := Fld.same W8 f_6
  have N8 := Fr.snoc X8 N2 g0
  have Z10 : n0 ≤ h8.size := Nat.le_trans Z4 (Keep.of_wr W8).1
  have K11 : Keep h0 h8 [r0] := K5.wr W8 (Or.inl (List.mem_of_getElem? (i := 0) rfl))
  show Good p e below _ (T8.setTop (mkF m 14 #[.val (.ref r0), .val .null, .val .null, .val .null, .val (.int p4)] []))
  refine Good.back (fun _ k => XS.aloadN X8.here hx rfl (hb hby own_d1_14) rfl rfl k) ?_
  show Good p e below _ (T8.setTop (mkF m 15 #[.val (.ref r0), .val .null, .val .null, .val .null, .val (.int p4)] [(.ref r0)]))
  refine Good.back (fun _ k => XS.aloadN X8.here hx rfl (hb hby own_d1_15) rfl rfl k) ?_
  show Good p e below _ (T8.setTop (mkF m 16 #[.val (.ref r0), .val .null, .val .null, .val .null, .val (.int p4)] [.null, (.ref r0)]))
  have f_12 : Fld Z h2 r0 "com/example/vartija/vartija/protocol/CreateRequest" "acl" "Ljava/util/List;" .null := Fld.other W2 F_acl (Or.inr (slot_ne (Or.inr (hw _ (List.mem_of_getElem? (i := 19) rfl))) (Or.inr (hw _ (List.mem_of_getElem? (i := 15) rfl))) (by decide) (t := (.object "java/util/List")) (t' := (.object "java/lang/String")) (by decide) (by decide)))
  have f_13 : Fld Z h8 r0 "com/example/vartija/vartija/protocol/CreateRequest" "acl" "Ljava/util/List;" .null := Fld.other W8 f_12 (Or.inr (slot_ne (Or.inr (hw _ (List.mem_of_getElem? (i := 19) rfl))) (Or.inr (hw _ (List.mem_of_getElem? (i := 17) rfl))) (by decide) (t := (.object "java/util/List")) (t' := (.array .byte)) (by decide) (by decide)))
  have f_14 : Exa Z h8 r0 "com/example/vartija/vartija/protocol/CreateRequest" := Exa.wr W8 f_7
  obtain ⟨T15, h15, X15, e15, W15, st15⟩ := putF X8 hx hZ hown (host := "") (Or.inl (hw _ (List.mem_of_getElem? (i := 18) rfl))) Via.refl e8 f_13 f_14 (Or.inr ⟨(hw _ (List.mem_of_getElem? (i := 19) rfl)), rfl, hnm⟩) (hw _ (List.mem_of_getElem? (i := 1) rfl)) (ty := (.object "java/util/List")) (by decide) rfl rfl (g := (mkF m 16 #[.val (.ref r0), .val .null, .val .null, .val .null, .val (.int p4)] [.null, (.ref r0)])) rfl rfl (hb hby own_d1_16)
  refine Good.back st15 ?_
  have f_16 : Fld Z h15 r0 "com/example/vartija/vartija/protocol/CreateRequest" "acl" "Ljava/util/List;" .null := Fld.same W15 f_13
  have N15 := Fr.snoc X15 N8 g0
  have Z17 : n0 ≤ h15.size := Nat.le_trans Z10 (Keep.of_wr W15).1
  have K18 : Keep h0 h15 [r0] := K11.wr W15 (Or.inl (List.mem_of_getElem? (i := 0) rfl))
  show Good p e below _ (T15.setTop (mkF m 19 #[.val (.ref r0), .val .null, .val .null, .val .null, .val (.int p4)] []))
  refine Good.back (fun _ k => XS.aloadN X15.here hx rfl (hb hby own_d1_19) rfl rfl k) ?_
  show Good p e below _ (T15.setTop (mkF m 20 #[.val (.ref r0), .val .null, .val .null, .val .null, .val (.int p4)] [(.ref r0)]))
  refine Good.back (fun _ k => XS.iload X15.here hx rfl (hb hby own_d1_20) rfl k) ?_
  show Good p e below _ (T15.setTop (mkF m 22 #[.val (.ref r0), .val .null, .val .null, .val .null, .val (.int p4)] [(.int p4), (.ref r0)]))
  have f_19 : Fld Z h2 r0 "com/example/vartija/vartija/protocol/CreateRequest" "flags" "I" (.int (0 : Int32)) := Fld.other W2 F_flags (Or.inr (slot_ne (Or.inr (hw _ (List.mem_of_getElem? (i := 21) rfl))) (Or.inr (hw _ (List.mem_of_getElem? (i := 15) rfl))) (by decide) (t := .int) (t' := (.object "java/lang/String")) (by decide) (by decide)))
  have f_20 : Fld Z h8 r0 "com/example/vartija/vartija/protocol/CreateRequest" "flags" "I" (.int (0 : Int32)) := Fld.other W8 f_19 (Or.inr (slot_ne (Or.inr (hw _ (List.mem_of_getElem? (i := 21) rfl))) (Or.inr (hw _ (List.mem_of_getElem? (i := 17) rfl))) (by decide) (t := .int) (t' := (.array .byte)) (by decide) (by decide)))
  have f_21 : Fld Z h15 r0 "com/example/vartija/vartija/protocol/CreateRequest" "flags" "I" (.int (0 : Int32)) := Fld.other W15 f_20 (Or.inr (slot_ne (Or.inr (hw _ (List.mem_of_getElem? (i := 21) rfl))) (Or.inr (hw _ (List.mem_of_getElem? (i := 19) rfl))) (by decide) (t := .int) (t' := (.object "java/util/List")) (by decide) (by decide)))
  have f_22 : Exa Z h15 r0 "com/example/vartija/vartija/protocol/CreateRequest" := Exa.wr W15 f_14
  obtain ⟨T23, h23, X23, e23, W23, st23⟩ := putF X15 hx hZ hown (host := "") (Or.inl (hw _ (List.mem_of_getElem? (i := 20) rfl))) Via.refl e15 f_21 f_22 (Or.inr ⟨(hw _ (List.mem_of_getElem? (i := 21) rfl)), rfl, hnm⟩) (hw _ (List.mem_of_getElem? (i := 1) rfl)) (ty := .int) (by decide) rfl rfl (g := (mkF m 22 #[.val (.ref r0), .val .null, .val .null, .val .null, .val (.int p4)] [(.int p4), (.ref r0)])) rfl rfl (hb hby own_d1_22)
  refine Good.back st23 ?_
  have f_24 : Fld Z h23 r0 "com/example/vartija/vartija/protocol/CreateRequest" "flags" "I" (.int p4) := Fld.same W23 f_21
  have N23 := Fr.snoc X23 N15 g0
  have Z25 : n0 ≤ h23.size := Nat.le_trans Z17 (Keep.of_wr W23).1
  have K26 : Keep h0 h23 [r0] := K18.wr W23 (Or.inl (List.mem_of_getElem? (i := 0) rfl))
  show Good p e below _ (T23.setTop (mkF m 25 #[.val (.ref r0), .val .null, .val .null, .val .null, .val (.int p4)] []))
  obtain ⟨fs27, hr27, hrun27, hended27, hW27, hsame27⟩ := X23.leave (v := none) (fun _ => rfl)
  refine Good.done (X23.returnOut hx Bd.returns (hb hby own_d1_25) hr27) hrun27 hended27 ⟨_, _, rfl, ?_, ⟨_, rfl⟩, hW27, hsame27.mono (by decide) (by decide)⟩
  show Q1 Z r0 p4 h0 n0 _ T23.heap _
  rw [e23]
  exact ⟨rfl, N23, K26, f_24⟩
theorem own_d4_0 : decode prog_30_method_5_code 0 = .ok (.aload_n 0, 1) := by decide +kernel
theorem own_d4_1 : decode prog_30_method_5_code 1 = .ok (.getfield 21, 3) := by decide +kernel
theorem own_d4_4 : decode prog_30_method_5_code 4 = .ok (.iconst 2, 1) := by decide +kernel
theorem own_d4_5 : decode prog_30_method_5_code 5 = .ok (.iand, 1) := by decide +kernel
theorem own_d4_6 : decode prog_30_method_5_code 6 = .ok (.ifCond .eq 7, 3) := by decide +kernel
theorem own_d4_9 : decode prog_30_method_5_code 9 = .ok (.iconst 1, 1) := by decide +kernel
theorem own_d4_10 : decode prog_30_method_5_code 10 = .ok (.goto 4, 3) := by decide +kernel
theorem own_d4_13 : decode prog_30_method_5_code 13 = .ok (.iconst 0, 1) := by decide +kernel
theorem own_d4_14 : decode prog_30_method_5_code 14 = .ok (.ireturn, 1) := by decide +kernel
theorem own_ef_4 (m : MethodId) (x0 : Addr) : entryFrame m #[(.ref x0)] 1 = mkF m 0 #[.val (.ref x0)] [] := by first | (simp [entryFrame, mkF, argsToLocals, Value.category]; done) | rfl
def Q4 (Z : State) (r0 : Addr) (w : Int32) (h0 : Heap) (n0 : Nat) (v : Option Value) (h : Heap) (L : List Loc) : Prop := v = some (.int (if (w &&& 2) = 0 then (0 : Int32) else (1 : Int32))) ∧ Fr n0 L ∧ h = h0
set_option maxRecDepth 65536 in
set_option maxHeartbeats 40000000 in
theorem rm4 (l : Launch) (Z : State) (a0 : Array Value) (hw : ∀ d ∈ tables_1, d.before a0 Z = true) (ws : List Jvm.Cond) (r0 : Addr) (w : Int32) (h0 : Heap) (n0 : Nat) (Z0 : n0 ≤ h0.size) (F_flags : Fld Z h0 r0 "com/example/vartija/vartija/protocol/CreateRequest" "flags" "I" (.int w)) :
    MetFree l (⟨"com/example/vartija/vartija/protocol/CreateRequest", "sequential", "()Z"⟩ : MethodName) (head1 (Jvm.Cond.code (⟨"com/example/vartija/vartija/protocol/CreateRequest", "sequential", "()Z"⟩ : MethodName) prog_30_method_5_code 1 (some .boolean) :: ws) ({ frames := 0, cells := 0, slots := 0, locals := 0 } : Room)) (fun a U => a = #[(.ref r0)] ∧ Z.Warmed39 U.vm ∧ U.heap = h0) (fun _ _ _ _ _ => True) (fun _ U o U' => ∃ v L, o = .returned v ∧ Q4 Z r0 w h0 n0 v U'.heap L ∧ FrameEnd U o U' L ({ frames := 0, cells := 0, slots := 0, locals := 0 } : Room).cells ({ frames := 0, cells := 0, slots := 0, locals := 0 } : Room).slots) := by
  refine MetFree.of_bodySF (plainFor_of_name own_pn1) hisR ?_
  intro p e s m args below meth c s₁ Bd hml0 hP hK
  obtain ⟨rfl, hZ, hh⟩ := hP
  have hx := Bd.exec
  have hby := Bd.bytes
  have hml : c.maxLocals = 1 := hml0
  have hown : s.vm.findClass "com/example/vartija/vartija/protocol/CreateRequest" = some m.cls := findClass_of_methodNamed Bd.named
  have hnm := (name_of_methodNamed Bd.named Bd.method).1
  have X0 : Stand p l e ({ frames := 0, cells := 0, slots := 0, locals := 0 } : Room) s m #[(.ref r0)] below meth c s₁ [] 0 0 := Stand.of_body Bd
  have e0 : s₁.heap = h0 := by rw [← hh, Bd.state]; rfl
  have N0 := Fr.nil n0
  show Good p e below (fun o U' => ∃ v L, o = .returned v ∧ Q4 Z r0 w h0 n0 v U'.heap L ∧ FrameEnd s o U' L ({ frames := 0, cells := 0, slots := 0, locals := 0 } : Room).cells ({ frames := 0, cells := 0, slots := 0, locals := 0 } : Room).slots) _
  refine Good.back (S' := s₁.setTop (mkF m 0 #[.val (.ref r0)] [])) (fun t k => castTop (own_ef_4 m r0) k) ?_
  show Good p e below _ (s₁.setTop (mkF m 0 #[.val (.ref r0)] []))
  refine Good.back (fun _ k => XS.aloadN X0.here hx rfl (hb hby own_d4_0) rfl rfl k) ?_
  show Good p e below _ (s₁.setTop (mkF m 1 #[.val (.ref r0)] [(.ref r0)]))
  obtain ⟨T1, X1, e1, st1⟩ := getF X0 hx hZ hown (host := "") (Or.inl (hw _ (List.mem_of_getElem? (i := 20) rfl))) Via.refl e0 F_flags (g := (mkF m 1 #[.val (.ref r0)] [(.ref r0)])) rfl rfl (hb hby own_d4_1)
  refine Good.back st1 ?_
  show Good p e below _ (T1.setTop (mkF m 4 #[.val (.ref r0)] [(.int w)]))
  refine Good.back (fun _ k => XS.iconst X1.here hx rfl (hb hby own_d4_4) k) ?_
  show Good p e below _ (T1.setTop (mkF m 5 #[.val (.ref r0)] [(.int (2 : Int32)), (.int w)]))
  refine Good.back (fun _ k => XS.iand X1.here hx rfl (hb hby own_d4_5) rfl k) ?_
  show Good p e below _ (T1.setTop (mkF m 6 #[.val (.ref r0)] [(.int (w &&& (2 : Int32)))]))
  by_cases hc6_2 : (w &&& (2 : Int32)) = (0 : Int32)
  · refine Good.back (fun _ k => XS.ifYes X1.here hx rfl (pc0 := 6) (pc' := 13) rfl (hb hby own_d4_6) rfl ((if0 _ _).trans (teq hc6_2).1) (by decide) (by decide) k) ?_
    show Good p e below _ (T1.setTop (mkF m 13 #[.val (.ref r0)] []))
    refine Good.back (fun _ k => XS.iconst X1.here hx rfl (hb hby own_d4_13) k) ?_
    show Good p e below _ (T1.setTop (mkF m 14 #[.val (.ref r0)] [(.int (0 : Int32))]))
    obtain ⟨fs3, hr3, hrun3, hended3, hW3, hsame3⟩ := X1.leave (v := some (.int (0 : Int32))) (fun h => by rw [Bd.returns] at h; cases h)
    refine Good.done (retN X1 hx (t := .boolean) Bd.returns (by simp) (hb hby own_d4_14) hr3) hrun3 hended3 ⟨_, _, rfl, ?_, ⟨_, rfl⟩, hW3, hsame3.mono (by decide) (by decide)⟩
    show Q4 Z r0 w h0 n0 _ T1.heap _
    rw [e1]
    exact ⟨by rw [if_pos hc6_2], N0, rfl⟩
  · refine Good.back (fun _ k => XS.ifNo X1.here hx rfl (hb hby own_d4_6) rfl ((if0 _ _).trans (feq hc6_2).1) k) ?_
    show Good p e below _ (T1.setTop (mkF m 9 #[.val (.ref r0)] []))
    refine Good.back (fun _ k => XS.iconst X1.here hx rfl (hb hby own_d4_9) k) ?_
    show Good p e below _ (T1.setTop (mkF m 10 #[.val (.ref r0)] [(.int (1 : Int32))]))
    refine Good.back (fun _ k => XS.goto X1.here hx rfl (pc0 := 10) (pc' := 14) rfl (hb hby own_d4_10) (by decide) (by decide) k) ?_
    show Good p e below _ (T1.setTop (mkF m 14 #[.val (.ref r0)] [(.int (1 : Int32))]))
    obtain ⟨fs4, hr4, hrun4, hended4, hW4, hsame4⟩ := X1.leave (v := some (.int (1 : Int32))) (fun h => by rw [Bd.returns] at h; cases h)
    refine Good.done (retN X1 hx (t := .boolean) Bd.returns (by simp) (hb hby own_d4_14) hr4) hrun4 hended4 ⟨_, _, rfl, ?_, ⟨_, rfl⟩, hW4, hsame4.mono (by decide) (by decide)⟩
    show Q4 Z r0 w h0 n0 _ T1.heap _
    rw [e1]
    exact ⟨by rw [if_neg hc6_2], N0, rfl⟩
theorem own_bit1 (x : Int32) : (x &&& 2 = 0) ↔ x.toBitVec.getLsbD 1 = false := by
  rw [← Int32.toBitVec_inj]
  constructor
  · intro h
    have := congrArg (fun z : BitVec 32 => z.getLsbD 1) h
    simpa using this
  · intro h
    apply BitVec.eq_of_getLsbD_eq
    intro i hi
    have h2 : (Int32.toBitVec 2).getLsbD i = decide (i = 1) := by
      revert i; decide +kernel
    simp only [Int32.toBitVec_and, BitVec.getLsbD_and, h2]
    by_cases hq : i = 1
    · subst hq; rw [h]; rfl
    · simp [hq]
theorem own_seq (hi s e : Int32) : ((((hi <<< ((2 : Int32) &&& 31)) ||| ((s &&& 1) <<< ((1 : Int32) &&& 31))) ||| (e &&& 1)) &&& 2 = 0) ↔ (s &&& 1 = 0) := by
  rw [own_bit1, Int32.toBitVec_or, Int32.toBitVec_or, own_ishl2]
  rcases and_one s with h | h <;> rcases and_one e with h' | h' <;> rw [h, h'] <;> simp <;> decide
theorem own_pd28 : parseMethodDescriptor "(Ljava/lang/String;[BLjava/util/List;I)V" = some ⟨[(.object "java/lang/String"), (.array .byte), (.object "java/util/List"), .int], none⟩ := by decide +kernel
theorem own_pd29 : parseMethodDescriptor "()Z" = some ⟨[], some .boolean⟩ := by decide +kernel
theorem own_pn2 : plainName "com/example/vartija/vartija/protocol/CreateRequestSequentialPinLaw" = true := by first | (simp [plainName, overriddenIn]; done) | decide +kernel
theorem own_ef_0 (m : MethodId) (x0 : Int32) (x1 : Int32) (x2 : Int32) : entryFrame m #[(.int x0), (.int x1), (.int x2)] maxLocals = mkF m 0 #[.val (.int x0), .val (.int x1), .val (.int x2), .unset, .unset, .unset, .unset, .unset] [] := by first | (simp [entryFrame, mkF, argsToLocals, Value.category, maxLocals]; done) | rfl
def Q0 (Z : State) (p0 : Int32) (p1 : Int32) (p2 : Int32) (h0 : Heap) (n0 : Nat) (v : Option Value) (h : Heap) (L : List Loc) : Prop := v = some (.int 1) ∧ Fr n0 L
set_option maxRecDepth 65536 in
set_option maxHeartbeats 40000000 in
theorem rm0 (l : Launch) (Z : State) (a0 : Array Value) (hw : ∀ d ∈ tables_1, d.before a0 Z = true) (ws : List Jvm.Cond) (p0 : Int32) (p1 : Int32) (p2 : Int32) (h0 : Heap) (n0 : Nat) (Z0 : n0 ≤ h0.size)  :
    MetFree l x (head1 (Jvm.Cond.code x code maxLocals ret :: ws) room_1) (fun a U => a = #[(.int p0), (.int p1), (.int p2)] ∧ Z.Warmed39 U.vm ∧ U.heap = h0) (fun _ _ _ _ _ => True) (fun _ U o U' => ∃ v L, o = .returned v ∧ Q0 Z p0 p1 p2 h0 n0 v U'.heap L ∧ FrameEnd U o U' L 16 128) := by
  refine MetFree.of_bodySF (plainFor_of_name own_pn2) hisR ?_
  intro p e s m args below meth c s₁ Bd hml0 hP hK
  obtain ⟨rfl, hZ, hh⟩ := hP
  have hx := Bd.exec
  have hby := Bd.bytes
  have hml : c.maxLocals = 8 := hml0
  have hown : s.vm.findClass "com/example/vartija/vartija/protocol/CreateRequestSequentialPinLaw" = some m.cls := findClass_of_methodNamed Bd.named
  have hnm := (name_of_methodNamed Bd.named Bd.method).1
  have X0 : Stand p l e room_1 s m #[(.int p0), (.int p1), (.int p2)] below meth c s₁ [] 0 0 := Stand.of_body Bd
  have e0 : s₁.heap = h0 := by rw [← hh, Bd.state]; rfl
  have N0 := Fr.nil n0
  show Good p e below (fun o U' => ∃ v L, o = .returned v ∧ Q0 Z p0 p1 p2 h0 n0 v U'.heap L ∧ FrameEnd s o U' L 16 128) _
  refine Good.back (S' := s₁.setTop (mkF m 0 #[.val (.int p0), .val (.int p1), .val (.int p2), .unset, .unset, .unset, .unset, .unset] [])) (fun t k => castTop (own_ef_0 m p0 p1 p2) k) ?_
  show Good p e below _ (s₁.setTop (mkF m 0 #[.val (.int p0), .val (.int p1), .val (.int p2), .unset, .unset, .unset, .unset, .unset] []))
  refine Good.back (fun _ k => XS.iloadN X0.here hx rfl (hb hby at_0) rfl k) ?_
  show Good p e below _ (s₁.setTop (mkF m 1 #[.val (.int p0), .val (.int p1), .val (.int p2), .unset, .unset, .unset, .unset, .unset] [(.int p1)]))
  refine Good.back (fun _ k => XS.iconst X0.here hx rfl (hb hby at_1) k) ?_
  show Good p e below _ (s₁.setTop (mkF m 2 #[.val (.int p0), .val (.int p1), .val (.int p2), .unset, .unset, .unset, .unset, .unset] [(.int (1 : Int32)), (.int p1)]))
  refine Good.back (fun _ k => XS.iand X0.here hx rfl (hb hby at_2) rfl k) ?_
  show Good p e below _ (s₁.setTop (mkF m 3 #[.val (.int p0), .val (.int p1), .val (.int p2), .unset, .unset, .unset, .unset, .unset] [(.int (p1 &&& (1 : Int32)))]))
  refine Good.back (fun _ k => XS.istoreN X0.here hx rfl (hb hby at_3) rfl (l' := #[.val (.int p0), .val (.int p1), .val (.int p2), .val (.int (p1 &&& (1 : Int32))), .unset, .unset, .unset, .unset]) rfl k) ?_
  show Good p e below _ (s₁.setTop (mkF m 4 #[.val (.int p0), .val (.int p1), .val (.int p2), .val (.int (p1 &&& (1 : Int32))), .unset, .unset, .unset, .unset] []))
  refine Good.back (fun _ k => XS.iloadN X0.here hx rfl (hb hby at_4) rfl k) ?_
  show Good p e below _ (s₁.setTop (mkF m 5 #[.val (.int p0), .val (.int p1), .val (.int p2), .val (.int (p1 &&& (1 : Int32))), .unset, .unset, .unset, .unset] [(.int p2)]))
  refine Good.back (fun _ k => XS.iconst X0.here hx rfl (hb hby at_5) k) ?_
  show Good p e below _ (s₁.setTop (mkF m 6 #[.val (.int p0), .val (.int p1), .val (.int p2), .val (.int (p1 &&& (1 : Int32))), .unset, .unset, .unset, .unset] [(.int (1 : Int32)), (.int p2)]))
  refine Good.back (fun _ k => XS.iand X0.here hx rfl (hb hby at_6) rfl k) ?_
  show Good p e below _ (s₁.setTop (mkF m 7 #[.val (.int p0), .val (.int p1), .val (.int p2), .val (.int (p1 &&& (1 : Int32))), .unset, .unset, .unset, .unset] [(.int (p2 &&& (1 : Int32)))]))
  refine Good.back (fun _ k => XS.istore X0.here hx rfl (hb hby at_7) rfl (l' := #[.val (.int p0), .val (.int p1), .val (.int p2), .val (.int (p1 &&& (1 : Int32))), .val (.int (p2 &&& (1 : Int32))), .unset, .unset, .unset]) rfl k) ?_
  show Good p e below _ (s₁.setTop (mkF m 9 #[.val (.int p0), .val (.int p1), .val (.int p2), .val (.int (p1 &&& (1 : Int32))), .val (.int (p2 &&& (1 : Int32))), .unset, .unset, .unset] []))
  refine Good.back (fun _ k => XS.iloadN X0.here hx rfl (hb hby at_9) rfl k) ?_
  show Good p e below _ (s₁.setTop (mkF m 10 #[.val (.int p0), .val (.int p1), .val (.int p2), .val (.int (p1 &&& (1 : Int32))), .val (.int (p2 &&& (1 : Int32))), .unset, .unset, .unset] [(.int p0)]))
  refine Good.back (fun _ k => XS.iconst X0.here hx rfl (hb hby at_10) k) ?_
  show Good p e below _ (s₁.setTop (mkF m 11 #[.val (.int p0), .val (.int p1), .val (.int p2), .val (.int (p1 &&& (1 : Int32))), .val (.int (p2 &&& (1 : Int32))), .unset, .unset, .unset] [(.int (2 : Int32)), (.int p0)]))
  refine Good.back (fun _ k => XS.ishl X0.here hx rfl (hb hby at_11) rfl k) ?_
  show Good p e below _ (s₁.setTop (mkF m 12 #[.val (.int p0), .val (.int p1), .val (.int p2), .val (.int (p1 &&& (1 : Int32))), .val (.int (p2 &&& (1 : Int32))), .unset, .unset, .unset] [(.int (p0 <<< ((2 : Int32) &&& 31)))]))
  refine Good.back (fun _ k => XS.iloadN X0.here hx rfl (hb hby at_12) rfl k) ?_
  show Good p e below _ (s₁.setTop (mkF m 13 #[.val (.int p0), .val (.int p1), .val (.int p2), .val (.int (p1 &&& (1 : Int32))), .val (.int (p2 &&& (1 : Int32))), .unset, .unset, .unset] [(.int (p1 &&& (1 : Int32))), (.int (p0 <<< ((2 : Int32) &&& 31)))]))
  refine Good.back (fun _ k => XS.iconst X0.here hx rfl (hb hby at_13) k) ?_
  show Good p e below _ (s₁.setTop (mkF m 14 #[.val (.int p0), .val (.int p1), .val (.int p2), .val (.int (p1 &&& (1 : Int32))), .val (.int (p2 &&& (1 : Int32))), .unset, .unset, .unset] [(.int (1 : Int32)), (.int (p1 &&& (1 : Int32))), (.int (p0 <<< ((2 : Int32) &&& 31)))]))
  refine Good.back (fun _ k => XS.ishl X0.here hx rfl (hb hby at_14) rfl k) ?_
  show Good p e below _ (s₁.setTop (mkF m 15 #[.val (.int p0), .val (.int p1), .val (.int p2), .val (.int (p1 &&& (1 : Int32))), .val (.int (p2 &&& (1 : Int32))), .unset, .unset, .unset] [(.int ((p1 &&& (1 : Int32)) <<< ((1 : Int32) &&& 31))), (.int (p0 <<< ((2 : Int32) &&& 31)))]))
  refine Good.back (fun _ k => XS.ior X0.here hx rfl (hb hby at_15) rfl k) ?_
  show Good p e below _ (s₁.setTop (mkF m 16 #[.val (.int p0), .val (.int p1), .val (.int p2), .val (.int (p1 &&& (1 : Int32))), .val (.int (p2 &&& (1 : Int32))), .unset, .unset, .unset] [(.int ((p0 <<< ((2 : Int32) &&& 31)) ||| ((p1 &&& (1 : Int32)) <<< ((1 : Int32) &&& 31))))]))
  refine Good.back (fun _ k => XS.iload X0.here hx rfl (hb hby at_16) rfl k) ?_
  show Good p e below _ (s₁.setTop (mkF m 18 #[.val (.int p0), .val (.int p1), .val (.int p2), .val (.int (p1 &&& (1 : Int32))), .val (.int (p2 &&& (1 : Int32))), .unset, .unset, .unset] [(.int (p2 &&& (1 : Int32))), (.int ((p0 <<< ((2 : Int32) &&& 31)) ||| ((p1 &&& (1 : Int32)) <<< ((1 : Int32) &&& 31))))]))
  refine Good.back (fun _ k => XS.ior X0.here hx rfl (hb hby at_18) rfl k) ?_
  show Good p e below _ (s₁.setTop (mkF m 19 #[.val (.int p0), .val (.int p1), .val (.int p2), .val (.int (p1 &&& (1 : Int32))), .val (.int (p2 &&& (1 : Int32))), .unset, .unset, .unset] [(.int (((p0 <<< ((2 : Int32) &&& 31)) ||| ((p1 &&& (1 : Int32)) <<< ((1 : Int32) &&& 31))) ||| (p2 &&& (1 : Int32))))]))
  refine Good.back (fun _ k => XS.istore X0.here hx rfl (hb hby at_19) rfl (l' := #[.val (.int p0), .val (.int p1), .val (.int p2), .val (.int (p1 &&& (1 : Int32))), .val (.int (p2 &&& (1 : Int32))), .val (.int (((p0 <<< ((2 : Int32) &&& 31)) ||| ((p1 &&& (1 : Int32)) <<< ((1 : Int32) &&& 31))) ||| (p2 &&& (1 : Int32)))), .unset, .unset]) rfl k) ?_
  show Good p e below _ (s₁.setTop (mkF m 21 #[.val (.int p0), .val (.int p1), .val (.int p2), .val (.int (p1 &&& (1 : Int32))), .val (.int (p2 &&& (1 : Int32))), .val (.int (((p0 <<< ((2 : Int32) &&& 31)) ||| ((p1 &&& (1 : Int32)) <<< ((1 : Int32) &&& 31))) ||| (p2 &&& (1 : Int32)))), .unset, .unset] []))
  obtain ⟨T1, h1, X1, e1, E1, A1, D1, -, st1⟩ := newO X0 hx hZ hown (hw _ (List.mem_of_getElem? (i := 0) rfl)) (hw _ (List.mem_of_getElem? (i := 1) rfl)) (hw _ (List.mem_of_getElem? (i := 2) rfl)) e0 (g := (mkF m 21 #[.val (.int p0), .val (.int p1), .val (.int p2), .val (.int (p1 &&& (1 : Int32))), .val (.int (p2 &&& (1 : Int32))), .val (.int (((p0 <<< ((2 : Int32) &&& 31)) ||| ((p1 &&& (1 : Int32)) <<< ((1 : Int32) &&& 31))) ||| (p2 &&& (1 : Int32)))), .unset, .unset] [])) rfl (hb hby at_21) (by decide) (by decide)
  obtain ⟨b1, g1⟩ : ∃ z, z = h0.size := ⟨_, rfl⟩
  rw [← g1] at A1 D1 st1
  refine Good.back st1 ?_
  have g_b1 : n0 ≤ b1 := Nat.le_trans Z0 (Nat.le_of_eq g1.symm)
  have Z2 : n0 ≤ h1.size := Nat.le_trans Z0 E1.1
  have f_3 : Exa Z h1 b1 "com/example/vartija/vartija/protocol/CreateRequest" := A1
  have f_4 : Fld Z h1 b1 "com/example/vartija/vartija/protocol/CreateRequest" "path" "Ljava/lang/String;" .null := D1 (Or.inr (hw _ (List.mem_of_getElem? (i := 15) rfl))) (ty := (.object "java/lang/String")) (by decide)
  have f_5 : Fld Z h1 b1 "com/example/vartija/vartija/protocol/CreateRequest" "data" "[B" .null := D1 (Or.inr (hw _ (List.mem_of_getElem? (i := 17) rfl))) (ty := (.array .byte)) (by decide)
  have f_6 : Fld Z h1 b1 "com/example/vartija/vartija/protocol/CreateRequest" "acl" "Ljava/util/List;" .null := D1 (Or.inr (hw _ (List.mem_of_getElem? (i := 19) rfl))) (ty := (.object "java/util/List")) (by decide)
  have f_7 : Fld Z h1 b1 "com/example/vartija/vartija/protocol/CreateRequest" "flags" "I" (.int (0 : Int32)) := D1 (Or.inr (hw _ (List.mem_of_getElem? (i := 21) rfl))) (ty := .int) (by decide)
  show Good p e below _ (T1.setTop (mkF m 24 #[.val (.int p0), .val (.int p1), .val (.int p2), .val (.int (p1 &&& (1 : Int32))), .val (.int (p2 &&& (1 : Int32))), .val (.int (((p0 <<< ((2 : Int32) &&& 31)) ||| ((p1 &&& (1 : Int32)) <<< ((1 : Int32) &&& 31))) ||| (p2 &&& (1 : Int32)))), .unset, .unset] [(.ref b1)]))
  refine Good.back (fun _ k => XS.dup X1.here hx rfl (hb hby at_24) rfl rfl k) ?_
  show Good p e below _ (T1.setTop (mkF m 25 #[.val (.int p0), .val (.int p1), .val (.int p2), .val (.int (p1 &&& (1 : Int32))), .val (.int (p2 &&& (1 : Int32))), .val (.int (((p0 <<< ((2 : Int32) &&& 31)) ||| ((p1 &&& (1 : Int32)) <<< ((1 : Int32) &&& 31))) ||| (p2 &&& (1 : Int32)))), .unset, .unset] [(.ref b1), (.ref b1)]))
  refine Good.back (fun _ k => XS.aconstNull X1.here hx rfl (hb hby at_25) k) ?_
  show Good p e below _ (T1.setTop (mkF m 26 #[.val (.int p0), .val (.int p1), .val (.int p2), .val (.int (p1 &&& (1 : Int32))), .val (.int (p2 &&& (1 : Int32))), .val (.int (((p0 <<< ((2 : Int32) &&& 31)) ||| ((p1 &&& (1 : Int32)) <<< ((1 : Int32) &&& 31))) ||| (p2 &&& (1 : Int32)))), .unset, .unset] [.null, (.ref b1), (.ref b1)]))
  refine Good.back (fun _ k => XS.aconstNull X1.here hx rfl (hb hby at_26) k) ?_
  show Good p e below _ (T1.setTop (mkF m 27 #[.val (.int p0), .val (.int p1), .val (.int p2), .val (.int (p1 &&& (1 : Int32))), .val (.int (p2 &&& (1 : Int32))), .val (.int (((p0 <<< ((2 : Int32) &&& 31)) ||| ((p1 &&& (1 : Int32)) <<< ((1 : Int32) &&& 31))) ||| (p2 &&& (1 : Int32)))), .unset, .unset] [.null, .null, (.ref b1), (.ref b1)]))
  refine Good.back (fun _ k => XS.aconstNull X1.here hx rfl (hb hby at_27) k) ?_
  show Good p e below _ (T1.setTop (mkF m 28 #[.val (.int p0), .val (.int p1), .val (.int p2), .val (.int (p1 &&& (1 : Int32))), .val (.int (p2 &&& (1 : Int32))), .val (.int (((p0 <<< ((2 : Int32) &&& 31)) ||| ((p1 &&& (1 : Int32)) <<< ((1 : Int32) &&& 31))) ||| (p2 &&& (1 : Int32)))), .unset, .unset] [.null, .null, .null, (.ref b1), (.ref b1)]))
  refine Good.back (fun _ k => XS.iload X1.here hx rfl (hb hby at_28) rfl k) ?_
  show Good p e below _ (T1.setTop (mkF m 30 #[.val (.int p0), .val (.int p1), .val (.int p2), .val (.int (p1 &&& (1 : Int32))), .val (.int (p2 &&& (1 : Int32))), .val (.int (((p0 <<< ((2 : Int32) &&& 31)) ||| ((p1 &&& (1 : Int32)) <<< ((1 : Int32) &&& 31))) ||| (p2 &&& (1 : Int32)))), .unset, .unset] [(.int (((p0 <<< ((2 : Int32) &&& 31)) ||| ((p1 &&& (1 : Int32)) <<< ((1 : Int32) &&& 31))) ||| (p2 &&& (1 : Int32)))), .null, .null, .null, (.ref b1), (.ref b1)]))
  obtain ⟨_, _, ⟨T8, L8, k8, n8⟩, -, X8, ⟨Lc8, hQ8, l8, y8, z8⟩, st8⟩ := X1.specialBack hx (y := (⟨"com/example/vartija/vartija/protocol/CreateRequest", "<init>", "(Ljava/lang/String;[BLjava/util/List;I)V"⟩ : MethodName)) rfl hown (mvT hZ (hw _ (List.mem_of_getElem? (i := 3) rfl))) (mvT hZ (hw _ (List.mem_of_getElem? (i := 4) rfl))) (mvT hZ (hw _ (List.mem_of_getElem? (i := 5) rfl))) (by decide) (backOf (W := 1) (rm1 l Z a0 hw [] b1 (((p0 <<< ((2 : Int32) &&& 31)) ||| ((p1 &&& (1 : Int32)) <<< ((1 : Int32) &&& 31))) ||| (p2 &&& (1 : Int32)))  h1 n0 Z2 f_3 g_b1 f_4 f_5 f_6 f_7) hZ (hw _ (List.mem_of_getElem? (i := 5) rfl)) (hw _ (List.mem_of_getElem? (i := 2) rfl)) (by decide) (by decide)) (g := (mkF m 30 #[.val (.int p0), .val (.int p1), .val (.int p2), .val (.int (p1 &&& (1 : Int32))), .val (.int (p2 &&& (1 : Int32))), .val (.int (((p0 <<< ((2 : Int32) &&& 31)) ||| ((p1 &&& (1 : Int32)) <<< ((1 : Int32) &&& 31))) ||| (p2 &&& (1 : Int32)))), .unset, .unset] [(.int (((p0 <<< ((2 : Int32) &&& 31)) ||| ((p1 &&& (1 : Int32)) <<< ((1 : Int32) &&& 31))) ||| (p2 &&& (1 : Int32)))), .null, .null, .null, (.ref b1), (.ref b1)])) rfl (by rw [hml]; rfl) (Steps.refl _) (a := b1) (argsL := [.null, .null, .null, (.int (((p0 <<< ((2 : Int32) &&& 31)) ||| ((p1 &&& (1 : Int32)) <<< ((1 : Int32) &&& 31))) ||| (p2 &&& (1 : Int32))))]) (rest := [(.ref b1)]) (lenOf own_pd28 rfl) rfl (by show 2 * 0 + _ ≤ _; exact Nat.le_of_eq rfl) (hb hby at_30) (fun _ _ => ⟨rfl, e1, (by decide : 1 + 0 ≤ _), (by decide : 4 + 0 ≤ _)⟩)
  dsimp only [Pt.U, Pt.locs, Pt.cells, Pt.slots] at X8 l8 y8 z8 st8 hQ8
  subst l8 y8 z8
  obtain ⟨rfl, N8q, Kq8, o8_0⟩ := hQ8
  have N8 := Fr.app N0 N8q
  have Z9 : n0 ≤ T8.heap.size := Nat.le_trans Z2 Kq8.1
  refine Good.back (fun _ k => st8.trans k) ?_
  show Good p e below _ (T8.setTop (mkF m 33 #[.val (.int p0), .val (.int p1), .val (.int p2), .val (.int (p1 &&& (1 : Int32))), .val (.int (p2 &&& (1 : Int32))), .val (.int (((p0 <<< ((2 : Int32) &&& 31)) ||| ((p1 &&& (1 : Int32)) <<< ((1 : Int32) &&& 31))) ||| (p2 &&& (1 : Int32)))), .unset, .unset] [(.ref b1)]))
  refine Good.back (fun _ k => XS.astore X8.here hx rfl (hb hby at_33) rfl rfl (l' := #[.val (.int p0), .val (.int p1), .val (.int p2), .val (.int (p1 &&& (1 : Int32))), .val (.int (p2 &&& (1 : Int32))), .val (.int (((p0 <<< ((2 : Int32) &&& 31)) ||| ((p1 &&& (1 : Int32)) <<< ((1 : Int32) &&& 31))) ||| (p2 &&& (1 : Int32)))), .val (.ref b1), .unset]) rfl k) ?_
  show Good p e below _ (T8.setTop (mkF m 35 #[.val (.int p0), .val (.int p1), .val (.int p2), .val (.int (p1 &&& (1 : Int32))), .val (.int (p2 &&& (1 : Int32))), .val (.int (((p0 <<< ((2 : Int32) &&& 31)) ||| ((p1 &&& (1 : Int32)) <<< ((1 : Int32) &&& 31))) ||| (p2 &&& (1 : Int32)))), .val (.ref b1), .unset] []))
  refine Good.back (fun _ k => XS.iloadN X8.here hx rfl (hb hby at_35) rfl k) ?_
  show Good p e below _ (T8.setTop (mkF m 36 #[.val (.int p0), .val (.int p1), .val (.int p2), .val (.int (p1 &&& (1 : Int32))), .val (.int (p2 &&& (1 : Int32))), .val (.int (((p0 <<< ((2 : Int32) &&& 31)) ||| ((p1 &&& (1 : Int32)) <<< ((1 : Int32) &&& 31))) ||| (p2 &&& (1 : Int32)))), .val (.ref b1), .unset] [(.int (p1 &&& (1 : Int32)))]))
  by_cases hc36_10 : (p1 &&& (1 : Int32)) = (0 : Int32)
  · refine Good.back (fun _ k => XS.ifYes X8.here hx rfl (pc0 := 36) (pc' := 43) rfl (hb hby at_36) rfl ((if0 _ _).trans (teq hc36_10).1) (by decide) (by decide) k) ?_
    show Good p e below _ (T8.setTop (mkF m 43 #[.val (.int p0), .val (.int p1), .val (.int p2), .val (.int (p1 &&& (1 : Int32))), .val (.int (p2 &&& (1 : Int32))), .val (.int (((p0 <<< ((2 : Int32) &&& 31)) ||| ((p1 &&& (1 : Int32)) <<< ((1 : Int32) &&& 31))) ||| (p2 &&& (1 : Int32)))), .val (.ref b1), .unset] []))
    refine Good.back (fun _ k => XS.iconst X8.here hx rfl (hb hby at_43) k) ?_
    show Good p e below _ (T8.setTop (mkF m 44 #[.val (.int p0), .val (.int p1), .val (.int p2), .val (.int (p1 &&& (1 : Int32))), .val (.int (p2 &&& (1 : Int32))), .val (.int (((p0 <<< ((2 : Int32) &&& 31)) ||| ((p1 &&& (1 : Int32)) <<< ((1 : Int32) &&& 31))) ||| (p2 &&& (1 : Int32)))), .val (.ref b1), .unset] [(.int (0 : Int32))]))
    refine Good.back (fun _ k => XS.istore X8.here hx rfl (hb hby at_44) rfl (l' := #[.val (.int p0), .val (.int p1), .val (.int p2), .val (.int (p1 &&& (1 : Int32))), .val (.int (p2 &&& (1 : Int32))), .val (.int (((p0 <<< ((2 : Int32) &&& 31)) ||| ((p1 &&& (1 : Int32)) <<< ((1 : Int32) &&& 31))) ||| (p2 &&& (1 : Int32)))), .val (.ref b1), .val (.int (0 : Int32))]) rfl k) ?_
    show Good p e below _ (T8.setTop (mkF m 46 #[.val (.int p0), .val (.int p1), .val (.int p2), .val (.int (p1 &&& (1 : Int32))), .val (.int (p2 &&& (1 : Int32))), .val (.int (((p0 <<< ((2 : Int32) &&& 31)) ||| ((p1 &&& (1 : Int32)) <<< ((1 : Int32) &&& 31))) ||| (p2 &&& (1 : Int32)))), .val (.ref b1), .val (.int (0 : Int32))] []))
    refine Good.back (fun _ k => XS.aload X8.here hx rfl (hb hby at_46) rfl rfl k) ?_
    show Good p e below _ (T8.setTop (mkF m 48 #[.val (.int p0), .val (.int p1), .val (.int p2), .val (.int (p1 &&& (1 : Int32))), .val (.int (p2 &&& (1 : Int32))), .val (.int (((p0 <<< ((2 : Int32) &&& 31)) ||| ((p1 &&& (1 : Int32)) <<< ((1 : Int32) &&& 31))) ||| (p2 &&& (1 : Int32)))), .val (.ref b1), .val (.int (0 : Int32))] [(.ref b1)]))
    have f_12 : Exa Z T8.heap b1 "com/example/vartija/vartija/protocol/CreateRequest" := Exa.keep f_3 Kq8
    obtain ⟨cq11, kq11, q11a, q11b, q11c⟩ := isOf hZ rfl f_12
    obtain ⟨_, _, ⟨T11, L11, k11, n11⟩, -, X11, ⟨Lc11, hQ11, l11, y11, z11⟩, st11⟩ := X8.virtualBack hx (y := (⟨"com/example/vartija/vartija/protocol/CreateRequest", "sequential", "()Z"⟩ : MethodName)) (z := (⟨"com/example/vartija/vartija/protocol/CreateRequest", "sequential", "()Z"⟩ : MethodName)) hown (mvT hZ (hw _ (List.mem_of_getElem? (i := 22) rfl))) (mvT hZ (hw _ (List.mem_of_getElem? (i := 23) rfl))) (notFace_of_selects (args := #[]) (mvT hZ (hw _ (List.mem_of_getElem? (i := 25) rfl)))) (mvT hZ (hw _ (List.mem_of_getElem? (i := 25) rfl))) (mvT hZ (hw _ (List.mem_of_getElem? (i := 24) rfl))) (by decide) (backOf (W := 0) (rm4 l Z a0 hw [] b1 (((p0 <<< ((2 : Int32) &&& 31)) ||| ((p1 &&& (1 : Int32)) <<< ((1 : Int32) &&& 31))) ||| (p2 &&& (1 : Int32))) T8.heap n0 Z9 o8_0) hZ (hw _ (List.mem_of_getElem? (i := 26) rfl)) (hw _ (List.mem_of_getElem? (i := 2) rfl)) (by decide) (by decide)) q11a q11c (g := (mkF m 48 #[.val (.int p0), .val (.int p1), .val (.int p2), .val (.int (p1 &&& (1 : Int32))), .val (.int (p2 &&& (1 : Int32))), .val (.int (((p0 <<< ((2 : Int32) &&& 31)) ||| ((p1 &&& (1 : Int32)) <<< ((1 : Int32) &&& 31))) ||| (p2 &&& (1 : Int32)))), .val (.ref b1), .val (.int (0 : Int32))] [(.ref b1)])) rfl (by rw [hml]; rfl) (Steps.refl _) (argsL := []) (rest := []) (lenOf own_pd29 rfl) rfl (by show 2 * 0 + _ ≤ _; exact Nat.le_of_eq rfl) (hb hby at_48) (fun _ _ => ⟨rfl, rfl, (by decide : 1 + 0 ≤ _), (by decide : 4 + 0 ≤ _)⟩)
    dsimp only [Pt.U, Pt.locs, Pt.cells, Pt.slots] at X11 l11 y11 z11 st11 hQ11
    subst l11 y11 z11
    obtain ⟨rfl, N11q, eh11⟩ := hQ11
    have N11 := Fr.app N8 N11q
    refine Good.back (fun _ k => st11.trans k) ?_
    show Good p e below _ (T11.setTop (mkF m 51 #[.val (.int p0), .val (.int p1), .val (.int p2), .val (.int (p1 &&& (1 : Int32))), .val (.int (p2 &&& (1 : Int32))), .val (.int (((p0 <<< ((2 : Int32) &&& 31)) ||| ((p1 &&& (1 : Int32)) <<< ((1 : Int32) &&& 31))) ||| (p2 &&& (1 : Int32)))), .val (.ref b1), .val (.int (0 : Int32))] [(.int (if ((((p0 <<< ((2 : Int32) &&& 31)) ||| ((p1 &&& (1 : Int32)) <<< ((1 : Int32) &&& 31))) ||| (p2 &&& (1 : Int32))) &&& 2) = 0 then (0 : Int32) else (1 : Int32)))]))
    refine Good.back (fun _ k => XS.iload X11.here hx rfl (hb hby at_51) rfl k) ?_
    show Good p e below _ (T11.setTop (mkF m 53 #[.val (.int p0), .val (.int p1), .val (.int p2), .val (.int (p1 &&& (1 : Int32))), .val (.int (p2 &&& (1 : Int32))), .val (.int (((p0 <<< ((2 : Int32) &&& 31)) ||| ((p1 &&& (1 : Int32)) <<< ((1 : Int32) &&& 31))) ||| (p2 &&& (1 : Int32)))), .val (.ref b1), .val (.int (0 : Int32))] [(.int (0 : Int32)), (.int (if ((((p0 <<< ((2 : Int32) &&& 31)) ||| ((p1 &&& (1 : Int32)) <<< ((1 : Int32) &&& 31))) ||| (p2 &&& (1 : Int32))) &&& 2) = 0 then (0 : Int32) else (1 : Int32)))]))
    refine Good.back (fun _ k => XS.icmpNo X11.here hx rfl (hb hby at_53) rfl (teq (by rw [if_pos ((own_seq p0 p1 p2).mpr hc36_10)] : (if ((((p0 <<< ((2 : Int32) &&& 31)) ||| ((p1 &&& (1 : Int32)) <<< ((1 : Int32) &&& 31))) ||| (p2 &&& (1 : Int32))) &&& 2) = 0 then (0 : Int32) else (1 : Int32)) = (0 : Int32))).2 k) ?_
    show Good p e below _ (T11.setTop (mkF m 56 #[.val (.int p0), .val (.int p1), .val (.int p2), .val (.int (p1 &&& (1 : Int32))), .val (.int (p2 &&& (1 : Int32))), .val (.int (((p0 <<< ((2 : Int32) &&& 31)) ||| ((p1 &&& (1 : Int32)) <<< ((1 : Int32) &&& 31))) ||| (p2 &&& (1 : Int32)))), .val (.ref b1), .val (.int (0 : Int32))] []))
    refine Good.back (fun _ k => XS.iconst X11.here hx rfl (hb hby at_56) k) ?_
    show Good p e below _ (T11.setTop (mkF m 57 #[.val (.int p0), .val (.int p1), .val (.int p2), .val (.int (p1 &&& (1 : Int32))), .val (.int (p2 &&& (1 : Int32))), .val (.int (((p0 <<< ((2 : Int32) &&& 31)) ||| ((p1 &&& (1 : Int32)) <<< ((1 : Int32) &&& 31))) ||| (p2 &&& (1 : Int32)))), .val (.ref b1), .val (.int (0 : Int32))] [(.int (1 : Int32))]))
    refine Good.back (fun _ k => XS.goto X11.here hx rfl (pc0 := 57) (pc' := 61) rfl (hb hby at_57) (by decide) (by decide) k) ?_
    show Good p e below _ (T11.setTop (mkF m 61 #[.val (.int p0), .val (.int p1), .val (.int p2), .val (.int (p1 &&& (1 : Int32))), .val (.int (p2 &&& (1 : Int32))), .val (.int (((p0 <<< ((2 : Int32) &&& 31)) ||| ((p1 &&& (1 : Int32)) <<< ((1 : Int32) &&& 31))) ||| (p2 &&& (1 : Int32)))), .val (.ref b1), .val (.int (0 : Int32))] [(.int (1 : Int32))]))
    obtain ⟨fs13, hr13, hrun13, hended13, hW13, hsame13⟩ := X11.leave (v := some (.int (1 : Int32))) (fun h => by rw [Bd.returns] at h; cases h)
    refine Good.done (retN X11 hx (t := .boolean) Bd.returns (by simp) (hb hby at_61) hr13) hrun13 hended13 ⟨_, _, rfl, ?_, ⟨_, rfl⟩, hW13, hsame13.mono (by decide) (by decide)⟩
    show Q0 Z p0 p1 p2 h0 n0 _ T11.heap _
    rw [eh11]
    exact ⟨rfl, N11⟩
  · refine Good.back (fun _ k => XS.ifNo X8.here hx rfl (hb hby at_36) rfl ((if0 _ _).trans (feq hc36_10).1) k) ?_
    show Good p e below _ (T8.setTop (mkF m 39 #[.val (.int p0), .val (.int p1), .val (.int p2), .val (.int (p1 &&& (1 : Int32))), .val (.int (p2 &&& (1 : Int32))), .val (.int (((p0 <<< ((2 : Int32) &&& 31)) ||| ((p1 &&& (1 : Int32)) <<< ((1 : Int32) &&& 31))) ||| (p2 &&& (1 : Int32)))), .val (.ref b1), .unset] []))
    refine Good.back (fun _ k => XS.iconst X8.here hx rfl (hb hby at_39) k) ?_
    show Good p e below _ (T8.setTop (mkF m 40 #[.val (.int p0), .val (.int p1), .val (.int p2), .val (.int (p1 &&& (1 : Int32))), .val (.int (p2 &&& (1 : Int32))), .val (.int (((p0 <<< ((2 : Int32) &&& 31)) ||| ((p1 &&& (1 : Int32)) <<< ((1 : Int32) &&& 31))) ||| (p2 &&& (1 : Int32)))), .val (.ref b1), .unset] [(.int (1 : Int32))]))
    refine Good.back (fun _ k => XS.goto X8.here hx rfl (pc0 := 40) (pc' := 44) rfl (hb hby at_40) (by decide) (by decide) k) ?_
    show Good p e below _ (T8.setTop (mkF m 44 #[.val (.int p0), .val (.int p1), .val (.int p2), .val (.int (p1 &&& (1 : Int32))), .val (.int (p2 &&& (1 : Int32))), .val (.int (((p0 <<< ((2 : Int32) &&& 31)) ||| ((p1 &&& (1 : Int32)) <<< ((1 : Int32) &&& 31))) ||| (p2 &&& (1 : Int32)))), .val (.ref b1), .unset] [(.int (1 : Int32))]))
    refine Good.back (fun _ k => XS.istore X8.here hx rfl (hb hby at_44) rfl (l' := #[.val (.int p0), .val (.int p1), .val (.int p2), .val (.int (p1 &&& (1 : Int32))), .val (.int (p2 &&& (1 : Int32))), .val (.int (((p0 <<< ((2 : Int32) &&& 31)) ||| ((p1 &&& (1 : Int32)) <<< ((1 : Int32) &&& 31))) ||| (p2 &&& (1 : Int32)))), .val (.ref b1), .val (.int (1 : Int32))]) rfl k) ?_
    show Good p e below _ (T8.setTop (mkF m 46 #[.val (.int p0), .val (.int p1), .val (.int p2), .val (.int (p1 &&& (1 : Int32))), .val (.int (p2 &&& (1 : Int32))), .val (.int (((p0 <<< ((2 : Int32) &&& 31)) ||| ((p1 &&& (1 : Int32)) <<< ((1 : Int32) &&& 31))) ||| (p2 &&& (1 : Int32)))), .val (.ref b1), .val (.int (1 : Int32))] []))
    refine Good.back (fun _ k => XS.aload X8.here hx rfl (hb hby at_46) rfl rfl k) ?_
    show Good p e below _ (T8.setTop (mkF m 48 #[.val (.int p0), .val (.int p1), .val (.int p2), .val (.int (p1 &&& (1 : Int32))), .val (.int (p2 &&& (1 : Int32))), .val (.int (((p0 <<< ((2 : Int32) &&& 31)) ||| ((p1 &&& (1 : Int32)) <<< ((1 : Int32) &&& 31))) ||| (p2 &&& (1 : Int32)))), .val (.ref b1), .val (.int (1 : Int32))] [(.ref b1)]))
    have f_15 : Exa Z T8.heap b1 "com/example/vartija/vartija/protocol/CreateRequest" := Exa.keep f_3 Kq8
    obtain ⟨cq14, kq14, q14a, q14b, q14c⟩ := isOf hZ rfl f_15
    obtain ⟨_, _, ⟨T14, L14, k14, n14⟩, -, X14, ⟨Lc14, hQ14, l14, y14, z14⟩, st14⟩ := X8.virtualBack hx (y := (⟨"com/example/vartija/vartija/protocol/CreateRequest", "sequential", "()Z"⟩ : MethodName)) (z := (⟨"com/example/vartija/vartija/protocol/CreateRequest", "sequential", "()Z"⟩ : MethodName)) hown (mvT hZ (hw _ (List.mem_of_getElem? (i := 22) rfl))) (mvT hZ (hw _ (List.mem_of_getElem? (i := 23) rfl))) (notFace_of_selects (args := #[]) (mvT hZ (hw _ (List.mem_of_getElem? (i := 25) rfl)))) (mvT hZ (hw _ (List.mem_of_getElem? (i := 25) rfl))) (mvT hZ (hw _ (List.mem_of_getElem? (i := 24) rfl))) (by decide) (backOf (W := 0) (rm4 l Z a0 hw [] b1 (((p0 <<< ((2 : Int32) &&& 31)) ||| ((p1 &&& (1 : Int32)) <<< ((1 : Int32) &&& 31))) ||| (p2 &&& (1 : Int32))) T8.heap n0 Z9 o8_0) hZ (hw _ (List.mem_of_getElem? (i := 26) rfl)) (hw _ (List.mem_of_getElem? (i := 2) rfl)) (by decide) (by decide)) q14a q14c (g := (mkF m 48 #[.val (.int p0), .val (.int p1), .val (.int p2), .val (.int (p1 &&& (1 : Int32))), .val (.int (p2 &&& (1 : Int32))), .val (.int (((p0 <<< ((2 : Int32) &&& 31)) ||| ((p1 &&& (1 : Int32)) <<< ((1 : Int32) &&& 31))) ||| (p2 &&& (1 : Int32)))), .val (.ref b1), .val (.int (1 : Int32))] [(.ref b1)])) rfl (by rw [hml]; rfl) (Steps.refl _) (argsL := []) (rest := []) (lenOf own_pd29 rfl) rfl (by show 2 * 0 + _ ≤ _; exact Nat.le_of_eq rfl) (hb hby at_48) (fun _ _ => ⟨rfl, rfl, (by decide : 1 + 0 ≤ _), (by decide : 4 + 0 ≤ _)⟩)
    dsimp only [Pt.U, Pt.locs, Pt.cells, Pt.slots] at X14 l14 y14 z14 st14 hQ14
    subst l14 y14 z14
    obtain ⟨rfl, N14q, eh14⟩ := hQ14
    have N14 := Fr.app N8 N14q
    refine Good.back (fun _ k => st14.trans k) ?_
    show Good p e below _ (T14.setTop (mkF m 51 #[.val (.int p0), .val (.int p1), .val (.int p2), .val (.int (p1 &&& (1 : Int32))), .val (.int (p2 &&& (1 : Int32))), .val (.int (((p0 <<< ((2 : Int32) &&& 31)) ||| ((p1 &&& (1 : Int32)) <<< ((1 : Int32) &&& 31))) ||| (p2 &&& (1 : Int32)))), .val (.ref b1), .val (.int (1 : Int32))] [(.int (if ((((p0 <<< ((2 : Int32) &&& 31)) ||| ((p1 &&& (1 : Int32)) <<< ((1 : Int32) &&& 31))) ||| (p2 &&& (1 : Int32))) &&& 2) = 0 then (0 : Int32) else (1 : Int32)))]))
    refine Good.back (fun _ k => XS.iload X14.here hx rfl (hb hby at_51) rfl k) ?_
    show Good p e below _ (T14.setTop (mkF m 53 #[.val (.int p0), .val (.int p1), .val (.int p2), .val (.int (p1 &&& (1 : Int32))), .val (.int (p2 &&& (1 : Int32))), .val (.int (((p0 <<< ((2 : Int32) &&& 31)) ||| ((p1 &&& (1 : Int32)) <<< ((1 : Int32) &&& 31))) ||| (p2 &&& (1 : Int32)))), .val (.ref b1), .val (.int (1 : Int32))] [(.int (1 : Int32)), (.int (if ((((p0 <<< ((2 : Int32) &&& 31)) ||| ((p1 &&& (1 : Int32)) <<< ((1 : Int32) &&& 31))) ||| (p2 &&& (1 : Int32))) &&& 2) = 0 then (0 : Int32) else (1 : Int32)))]))
    refine Good.back (fun _ k => XS.icmpNo X14.here hx rfl (hb hby at_53) rfl (teq (by rw [if_neg (fun q => hc36_10 ((own_seq p0 p1 p2).mp q))] : (if ((((p0 <<< ((2 : Int32) &&& 31)) ||| ((p1 &&& (1 : Int32)) <<< ((1 : Int32) &&& 31))) ||| (p2 &&& (1 : Int32))) &&& 2) = 0 then (0 : Int32) else (1 : Int32)) = (1 : Int32))).2 k) ?_
    show Good p e below _ (T14.setTop (mkF m 56 #[.val (.int p0), .val (.int p1), .val (.int p2), .val (.int (p1 &&& (1 : Int32))), .val (.int (p2 &&& (1 : Int32))), .val (.int (((p0 <<< ((2 : Int32) &&& 31)) ||| ((p1 &&& (1 : Int32)) <<< ((1 : Int32) &&& 31))) ||| (p2 &&& (1 : Int32)))), .val (.ref b1), .val (.int (1 : Int32))] []))
    refine Good.back (fun _ k => XS.iconst X14.here hx rfl (hb hby at_56) k) ?_
    show Good p e below _ (T14.setTop (mkF m 57 #[.val (.int p0), .val (.int p1), .val (.int p2), .val (.int (p1 &&& (1 : Int32))), .val (.int (p2 &&& (1 : Int32))), .val (.int (((p0 <<< ((2 : Int32) &&& 31)) ||| ((p1 &&& (1 : Int32)) <<< ((1 : Int32) &&& 31))) ||| (p2 &&& (1 : Int32)))), .val (.ref b1), .val (.int (1 : Int32))] [(.int (1 : Int32))]))
    refine Good.back (fun _ k => XS.goto X14.here hx rfl (pc0 := 57) (pc' := 61) rfl (hb hby at_57) (by decide) (by decide) k) ?_
    show Good p e below _ (T14.setTop (mkF m 61 #[.val (.int p0), .val (.int p1), .val (.int p2), .val (.int (p1 &&& (1 : Int32))), .val (.int (p2 &&& (1 : Int32))), .val (.int (((p0 <<< ((2 : Int32) &&& 31)) ||| ((p1 &&& (1 : Int32)) <<< ((1 : Int32) &&& 31))) ||| (p2 &&& (1 : Int32)))), .val (.ref b1), .val (.int (1 : Int32))] [(.int (1 : Int32))]))
    obtain ⟨fs16, hr16, hrun16, hended16, hW16, hsame16⟩ := X14.leave (v := some (.int (1 : Int32))) (fun h => by rw [Bd.returns] at h; cases h)
    refine Good.done (retN X14 hx (t := .boolean) Bd.returns (by simp) (hb hby at_61) hr16) hrun16 hended16 ⟨_, _, rfl, ?_, ⟨_, rfl⟩, hW16, hsame16.mono (by decide) (by decide)⟩
    show Q0 Z p0 p1 p2 h0 n0 _ T14.heap _
    rw [eh14]
    exact ⟨rfl, N14⟩
set_option maxRecDepth 65536 in
set_option maxHeartbeats 40000000 in
theorem comes_1 {Post : Tables → Env → Array Value → State → Outcome → State → Prop} (hpost : ∀ tb e args s v u, (limb_1_1.after args s (.returned v) u = true ∧ limb_1_2.after args s (.returned v) u = true ∧ True) → FrameEnd s (.returned v) u (Jvm.fieldLocs frame_1_writes args s ++ Jvm.arrayLocs frame_1_arrays args s ++ Jvm.staticLocs frame_1_statics s) 16 128 → Post tb e args s (.returned v) u) :
    ArmFor flags0 classFile x code maxLocals ret World_1 tables_1 room_1 Calls_1 rest_1 Pre_1 Post := by
  intro l hfl _ _ p e ha hc hk s m args below hf hA hF happ hP
  obtain ⟨hcalls, hrest, hpre⟩ := hP
  obtain ⟨-, -, -, hnamed, -, -, -, hat⟩ := (Spec.applies_iff hf).mp happ
  obtain ⟨hg, hn⟩ := and_e (Cond.before_iff.mp (show (Jvm.Cond.and given_1 narrow_1).before args s = true from hpre))
  obtain ⟨g1, g2⟩ := and_e hg
  obtain ⟨g3, g4⟩ := and_e g2
  obtain ⟨g5, g6⟩ := and_e g4
  obtain ⟨w0, w1, w2, rfl⟩ : ∃ w0 w1 w2 : Value, args = #[w0, w1, w2] := by
    have hs : args.size = 3 := by simpa [Cond.value, given_1] using g1
    obtain ⟨L⟩ := args
    match L, hs with
    | [w0, w1, w2], _ => exact ⟨w0, w1, w2, rfl⟩
  have hw := fun d (hd : d ∈ tables_1) => atoms_spec (ws := Jvm.Cond.code x code maxLocals ret :: tables_1) hat d (List.mem_cons_of_mem _ hd)
  have hfit : Fit s := fun {y c} hc i hi => by
    obtain ⟨ha, rfl⟩ := Array.getElem?_eq_some_iff.mp hc
    have q := List.all_eq_true.mp ((Array.all_eq_true_iff_forall_mem.mp hF) _ (Array.getElem_mem ha)) i (List.mem_range.mpr hi)
    simpa [Array.getElem?_eq_getElem hi] using q
  obtain ⟨i0, ei0⟩ := is_v g3
  obtain rfl : w0 = (.int i0) := Option.some.inj ei0
  obtain ⟨i1, ei1⟩ := is_v g5
  obtain rfl : w1 = (.int i1) := Option.some.inj ei1
  obtain ⟨i2, ei2⟩ := is_v g6
  obtain rfl : w2 = (.int i2) := Option.some.inj ei2
  obtain ⟨n, o, h1, h2, h3, _, L, rfl, ⟨rfl, N⟩, hq⟩ := rm0 l s _ hw tables_1 i0 i1 i2  s.heap s.heap.size (Nat.le_refl _)  p e ha hc hk s m _ below hf ((Spec.applies_iff_loose hf).mp happ).1 ⟨rfl, State.Warmed39.refl s, rfl⟩ trivial
  refine ⟨n, _, h1, h2, h3, hpost _ _ _ _ _ _ ⟨Cond.after_iff.mpr rfl, Cond.after_iff.mpr (eq_i res_at (Term.int_eval (1)) rfl), trivial⟩ ⟨hq.1, hq.2.1, (hq.2.2.sift fun y hy => Or.inr (N y hy)).mono (by decide) (by decide)⟩⟩
theorem main_1_1 : Claimed_1_1 := comes_1 fun _ _ _ _ _ _ h hF => ⟨h.1, hF⟩
theorem main_1_2 : Claimed_1_2 := comes_1 fun _ _ _ _ _ _ h hF => ⟨h.2.1, hF⟩
end Jvm.Pilot.@@N@@
namespace Jvm.Pilot.@@N@@
open Jvm Jvm.ClassFile Sem Op Lib Jvm.Free Jvm.Stand Jvm.Pilot.@@N@@.Jvm.D
/-! MADE BY PROGRAM (witnessworld.py) out of the Statement's table words and the real class files: 10 classes; the members and pool entries that the words name. The judged class is class 1, her method 1. -/
namespace start1
open Jvm.ClassFile
def u (s : String) : CpInfo := .utf8 (stringToUtf16 s)
/-- a pool by its gaps: so many unusable entries, then the entry; so many at the end -/
def gap : Nat → List CpInfo → List CpInfo
  | 0, r => r
  | n + 1, r => .unusable :: gap n r
def poolList (es : List (Nat × CpInfo)) (last : Nat) : List CpInfo := es.foldr (fun e r => gap e.1 (e.2 :: r)) (gap last [])
def pool (es : List (Nat × CpInfo)) (last : Nat) : Array CpInfo := ⟨poolList es last⟩
def fileOf (pool : Array CpInfo) (this : Nat) (attrs : Array Attribute := #[]) (ms : Array MethodInfo := #[]) (fl : Nat := 33) (sup : Nat := 0) (ifs : Array Nat := #[]) (fds : Array FieldInfo := #[]) : ClassFile where
  minorVersion := 0
  majorVersion := 65
  constantPool := pool
  accessFlags := fl
  thisClass := this
  superClass := sup
  interfaces := ifs
  fields := fds
  methods := ms
  attributes := attrs
def plain (name : String) (sup : Option ClassId) : Class where
  name := name
  kind := .ordinary
  loader := none
  accessFlags := 33
  super := sup
  interfaces := #[]
  cf := none
  fields := #[]
  methods := #[]
  instanceTypes := #[]
  staticTypes := #[]
  resolved := #[]
  callSites := []
  init := .initialized
  statics := none
  mirror := none

def pool0 : Array CpInfo := pool [(5, u "<init>"), (0, u "()V"), (1, .class_ 10), (1, u "java/lang/Object")] 113

def k0c0 : Code := { maxStack := 0, maxLocals := 1, code := object_method_1_code, exceptionTable := #[], attributes := #[] }
def k0m0 : Method := { name := "<init>", desc := "()V", sig := { parameters := [], returnType := none }, accessFlags := 1, code := some k0c0 }
/-- java/lang/Object -/
def k0 : Class := { plain "java/lang/Object" none with
  accessFlags := 33
  interfaces := #[]
  cf := some (fileOf pool0 8 #[] #[{ accessFlags := 1, nameIndex := 5, descriptorIndex := 6, attributes := #[] }] 33 0 #[] #[])
  fields := #[]
  methods := #[k0m0]
  instanceTypes := #[]
  staticTypes := #[]
  resolved := Array.replicate 124 none
  statics := none }

def pool1 : Array CpInfo := pool [(2, .class_ 4), (1, u "java/lang/Object"), (0, u "<init>"), (0, u "()V"), (0, .class_ 8), (0, u "com/example/vartija/vartija/protocol/CreateRequest"), (0, .methodref 7 10), (0, .nameAndType 5 11), (0, u "(Ljava/lang/String;[BLjava/util/List;I)V"), (0, .methodref 7 13), (0, .nameAndType 14 15), (0, u "sequential"), (0, u "()Z"), (0, .class_ 17), (0, u "com/example/vartija/vartija/protocol/CreateRequestSequentialPinLaw"), (2, u "law"), (0, u "(III)Z")] 3

def k1m0 : Method := { name := "<init>", desc := "()V", sig := { parameters := [], returnType := none }, accessFlags := 1, code := none }
def k1c1 : Code := { maxStack := 6, maxLocals := 8, code := code, exceptionTable := #[], attributes := #[] }
def k1m1 : Method := { name := "law", desc := "(III)Z", sig := { parameters := [.int, .int, .int], returnType := some .boolean }, accessFlags := 9, code := some k1c1 }
/-- com/example/vartija/vartija/protocol/CreateRequestSequentialPinLaw -/
def k1 : Class := { plain "com/example/vartija/vartija/protocol/CreateRequestSequentialPinLaw" (some 0) with
  accessFlags := 49
  interfaces := #[]
  cf := some (fileOf pool1 16 #[] #[{ accessFlags := 1, nameIndex := 5, descriptorIndex := 6, attributes := #[] }, { accessFlags := 9, nameIndex := 20, descriptorIndex := 21, attributes := #[] }] 49 2 #[] #[])
  fields := #[]
  methods := #[k1m0, k1m1]
  instanceTypes := #[]
  staticTypes := #[]
  resolved := Array.replicate 25 none
  statics := none }

def pool2 : Array CpInfo := pool [(1, .methodref 2 3), (0, .class_ 4), (0, .nameAndType 5 6), (0, u "java/lang/Object"), (0, u "<init>"), (0, u "()V"), (0, .class_ 8), (0, u "java/lang/Record")] 13

def k2c0 : Code := { maxStack := 1, maxLocals := 1, code := jdk_30_method_1_code, exceptionTable := #[], attributes := #[] }
def k2m0 : Method := { name := "<init>", desc := "()V", sig := { parameters := [], returnType := none }, accessFlags := 4, code := some k2c0 }
/-- java/lang/Record -/
def k2 : Class := { plain "java/lang/Record" (some 0) with
  accessFlags := 1057
  interfaces := #[]
  cf := some (fileOf pool2 7 #[] #[{ accessFlags := 4, nameIndex := 5, descriptorIndex := 6, attributes := #[] }] 1057 2 #[] #[])
  fields := #[]
  methods := #[k2m0]
  instanceTypes := #[]
  staticTypes := #[]
  resolved := Array.replicate 22 none
  statics := none }

def pool3 : Array CpInfo := pool [(1, .methodref 2 3), (0, .class_ 4), (0, .nameAndType 5 6), (0, u "java/lang/Record"), (0, u "<init>"), (0, u "()V"), (0, .fieldref 8 9), (0, .class_ 10), (0, .nameAndType 11 12), (0, u "com/example/vartija/vartija/protocol/CreateRequest"), (0, u "path"), (0, u "Ljava/lang/String;"), (0, .fieldref 8 14), (0, .nameAndType 15 16), (0, u "data"), (0, u "[B"), (0, .fieldref 8 18), (0, .nameAndType 19 20), (0, u "acl"), (0, u "Ljava/util/List;"), (0, .fieldref 8 22), (0, .nameAndType 23 24), (0, u "flags"), (0, u "I"), (24, u "(Ljava/lang/String;[BLjava/util/List;I)V"), (41, u "EPHEMERAL"), (2, u "SEQUENTIAL"), (10, u "()Z"), (1, u "sequential")] 54

def k3c0 : Code := { maxStack := 2, maxLocals := 5, code := prog_30_method_1_code, exceptionTable := #[], attributes := #[] }
def k3m0 : Method := { name := "<init>", desc := "(Ljava/lang/String;[BLjava/util/List;I)V", sig := { parameters := [(.object "java/lang/String"), (.array .byte), (.object "java/util/List"), .int], returnType := none }, accessFlags := 1, code := some k3c0 }
def k3c1 : Code := { maxStack := 2, maxLocals := 1, code := prog_30_method_5_code, exceptionTable := #[], attributes := #[] }
def k3m1 : Method := { name := "sequential", desc := "()Z", sig := { parameters := [], returnType := some .boolean }, accessFlags := 1, code := some k3c1 }
/-- com/example/vartija/vartija/protocol/CreateRequest -/
def k3 : Class := { plain "com/example/vartija/vartija/protocol/CreateRequest" (some 2) with
  accessFlags := 49
  interfaces := #[]
  cf := some (fileOf pool3 8 #[] #[{ accessFlags := 1, nameIndex := 5, descriptorIndex := 49, attributes := #[] }, { accessFlags := 1, nameIndex := 107, descriptorIndex := 105, attributes := #[] }] 49 2 #[] #[{ accessFlags := 18, nameIndex := 11, descriptorIndex := 12, attributes := #[] }, { accessFlags := 18, nameIndex := 15, descriptorIndex := 16, attributes := #[] }, { accessFlags := 18, nameIndex := 19, descriptorIndex := 20, attributes := #[] }, { accessFlags := 18, nameIndex := 23, descriptorIndex := 24, attributes := #[] }, { accessFlags := 25, nameIndex := 91, descriptorIndex := 24, attributes := #[] }, { accessFlags := 25, nameIndex := 94, descriptorIndex := 24, attributes := #[] }])
  fields := #[{ name := "path", type := (.object "java/lang/String"), accessFlags := 18, slot := 0, constantValue := 0 }, { name := "data", type := (.array .byte), accessFlags := 18, slot := 1, constantValue := 0 }, { name := "acl", type := (.object "java/util/List"), accessFlags := 18, slot := 2, constantValue := 0 }, { name := "flags", type := .int, accessFlags := 18, slot := 3, constantValue := 0 }, { name := "EPHEMERAL", type := .int, accessFlags := 25, slot := 0, constantValue := 0 }, { name := "SEQUENTIAL", type := .int, accessFlags := 25, slot := 1, constantValue := 0 }]
  methods := #[k3m0, k3m1]
  instanceTypes := #[(.object "java/lang/String"), (.array .byte), (.object "java/util/List"), .int]
  staticTypes := #[.int, .int]
  resolved := Array.replicate 162 none
  statics := none }

def pool4 : Array CpInfo := pool [(1, u "java/lang/Cloneable"), (0, .class_ 1), (0, u "java/lang/Object"), (0, .class_ 3)] 3

/-- java/lang/Cloneable -/
def k4 : Class := { plain "java/lang/Cloneable" (some 0) with
  accessFlags := 1537
  interfaces := #[]
  cf := some (fileOf pool4 2 #[] #[] 1537 4 #[] #[])
  fields := #[]
  methods := #[]
  instanceTypes := #[]
  staticTypes := #[]
  resolved := Array.replicate 8 none
  statics := none }

def pool5 : Array CpInfo := pool [(1, u "java/io/Serializable"), (0, .class_ 1), (0, u "java/lang/Object"), (0, .class_ 3)] 3

/-- java/io/Serializable -/
def k5 : Class := { plain "java/io/Serializable" (some 0) with
  accessFlags := 1537
  interfaces := #[]
  cf := some (fileOf pool5 2 #[] #[] 1537 4 #[] #[])
  fields := #[]
  methods := #[]
  instanceTypes := #[]
  staticTypes := #[]
  resolved := Array.replicate 8 none
  statics := none }

/-- the primitive byte -/
def k6 : Class := { plain "byte" none with kind := .primitive 'B', accessFlags := 0x411 }
/-- [B -/
def k7 : Class := { plain "[B" (some 0) with kind := .array 6 .byte, interfaces := #[4, 5], accessFlags := 1041 }

/-- the primitive int -/
def k8 : Class := { plain "int" none with kind := .primitive 'I', accessFlags := 0x411 }
/-- [I -/
def k9 : Class := { plain "[I" (some 0) with kind := .array 8 .int, interfaces := #[4, 5], accessFlags := 1041 }

def heap : Heap := #[]
def classes : Array Class := #[k0, k1, k2, k3, k4, k5, k6, k7, k8, k9]
def interned : List (Array UInt16 × Addr) := []
def slotsUsed : Nat := 0
def theMethod : MethodId := ⟨1, 1⟩
def args0 : Array Value := #[.int 5, .int 3, .int 1]
def aboutOver (below : List Frame) : State where
  vm := { classes := classes, interned := interned.toArray }
  heap := heap
  slotsUsed := slotsUsed
  threads := #[{ frames := .invoking theMethod args0 :: below }]
def below0 : List Frame := [.native { method := ⟨0, 0⟩, args := #[] }]
def about1 : State := aboutOver below0
def p0 : Program := .bare "" "" ""
def e0 : Env := launch0.env 0 0 0
theorem w_frames : about1.frames = Frame.invoking theMethod args0 :: below0 := rfl
set_option maxRecDepth 65536 in
theorem w_args : argsFit about1.vm theMethod args0 = true := by decide +kernel
set_option maxRecDepth 65536 in
theorem w_heap : heapFits about1 = true := by decide +kernel
set_option maxRecDepth 65536 in
theorem w_runnable : about1.curStatus? = some .runnable := by decide +kernel
set_option maxRecDepth 65536 in
theorem w_alone : about1.alone = true := by decide +kernel
set_option maxRecDepth 65536 in
theorem w_named : about1.methodNamed? x = some theMethod := by decide +kernel
set_option maxRecDepth 65536 in
theorem w_hears : about1.hears theMethod below0 = true := by decide +kernel
set_option maxRecDepth 65536 in
theorem w_ripe : about1.ripe theMethod args0 below0 = true := by decide +kernel
theorem w_running : about1.status = .running := rfl
set_option maxRecDepth 65536 in
theorem w_room : about1.hasRoom e0.platform room_1 = true :=
  launch0.hasRoom_least _ room_1 (by decide +kernel) (by decide +kernel) (by decide +kernel) (by decide +kernel) (by decide +kernel) (by decide +kernel)
theorem allAtoms_all (ts : List Jvm.Cond) (a : Array Jvm.Value) (st : Jvm.State) : (allAtoms ts).before a st = ts.all (fun c => c.before a st) := by
  induction ts with
  | nil => rfl
  | cons c t ih =>
    show (Jvm.Cond.and c (allAtoms t)).before a st = _
    rw [Jvm.Cond.before_and, ih, List.all_cons]
def words1 : List Jvm.Cond := Jvm.Cond.code x code maxLocals ret :: tables_1
/-- a 'code' word, met by the world's own term for the bytes: nothing is compared byte by byte -/
theorem code_word {y : MethodName} {bytes : ByteArray} {mx : Nat} {rt : Option FieldType} {a : Array Value} {s : State} {m : MethodId} {meth : Method} {c : Code} (h1 : s.methodNamed? y = some m) (h2 : s.vm.method? m = some meth) (h3 : meth.code = some c) (h4 : c.code = bytes)
    (h5 : (c.maxLocals == mx && c.exceptionTable.isEmpty && decide (c.maxStack ≤ mostOperands) && decide (meth.sig.returnType = rt) && !meth.locks && decide (parseMethodDescriptor y.desc = some meth.sig)) = true) : (Jvm.Cond.code y bytes mx rt).before a s = true := by
  simp only [Bool.and_eq_true, beq_iff_eq, Bool.not_eq_true', decide_eq_true_eq] at h5
  obtain ⟨⟨⟨⟨⟨g1, g2⟩, g3⟩, g4⟩, g5⟩, g6⟩ := h5
  simp [Cond.before, Cond.holds, Cond.value, h1, h2, h3, h4, g1, g2, g3, g4, g5, g6]
def isCode : Jvm.Cond → Bool
  | .code _ _ _ _ => true
  | _ => false
theorem all_split {L : List Jvm.Cond} {P : Jvm.Cond → Bool} (h1 : L.all (fun c => isCode c || P c) = true) (h2 : ∀ c ∈ L.filter isCode, P c = true) : L.all P = true := by
  refine List.all_eq_true.mpr fun c hc => ?_
  have h := List.all_eq_true.mp h1 c hc
  rcases Bool.eq_false_or_eq_true (isCode c) with hi | hi
  · exact h2 c (List.mem_filter.mpr ⟨hc, hi⟩)
  · simpa [hi] using h
set_option maxRecDepth 65536 in
theorem w_c0 : (Jvm.Cond.code x code maxLocals ret).before args0 about1 = true := code_word (m := ⟨1, 1⟩) (meth := k1m1) (c := k1c1) (by decide +kernel) rfl rfl rfl (by decide +kernel)
set_option maxRecDepth 65536 in
theorem w_c1 : (Jvm.Cond.code ({ cls := "com/example/vartija/vartija/protocol/CreateRequest", name := "<init>", desc := "(Ljava/lang/String;[BLjava/util/List;I)V" } : Jvm.MethodName) prog_30_method_1_code (5 : Nat) (Option.none : Option Jvm.ClassFile.FieldType)).before args0 about1 = true := code_word (m := ⟨3, 0⟩) (meth := k3m0) (c := k3c0) (by decide +kernel) rfl rfl rfl (by decide +kernel)
set_option maxRecDepth 65536 in
theorem w_c2 : (Jvm.Cond.code ({ cls := "java/lang/Record", name := "<init>", desc := "()V" } : Jvm.MethodName) jdk_30_method_1_code (1 : Nat) (Option.none : Option Jvm.ClassFile.FieldType)).before args0 about1 = true := code_word (m := ⟨2, 0⟩) (meth := k2m0) (c := k2c0) (by decide +kernel) rfl rfl rfl (by decide +kernel)
set_option maxRecDepth 65536 in
theorem w_c3 : (Jvm.Cond.code ({ cls := "java/lang/Object", name := "<init>", desc := "()V" } : Jvm.MethodName) object_method_1_code (1 : Nat) (Option.none : Option Jvm.ClassFile.FieldType)).before args0 about1 = true := code_word (m := ⟨0, 0⟩) (meth := k0m0) (c := k0c0) (by decide +kernel) rfl rfl rfl (by decide +kernel)
set_option maxRecDepth 65536 in
theorem w_c4 : (Jvm.Cond.code ({ cls := "com/example/vartija/vartija/protocol/CreateRequest", name := "sequential", desc := "()Z" } : Jvm.MethodName) prog_30_method_5_code (1 : Nat) (Option.some Jvm.ClassFile.FieldType.boolean)).before args0 about1 = true := code_word (m := ⟨3, 1⟩) (meth := k3m1) (c := k3c1) (by decide +kernel) rfl rfl rfl (by decide +kernel)
def codes1 : List Jvm.Cond := [Jvm.Cond.code x code maxLocals ret, Jvm.Cond.code ({ cls := "com/example/vartija/vartija/protocol/CreateRequest", name := "<init>", desc := "(Ljava/lang/String;[BLjava/util/List;I)V" } : Jvm.MethodName) prog_30_method_1_code (5 : Nat) (Option.none : Option Jvm.ClassFile.FieldType), Jvm.Cond.code ({ cls := "java/lang/Record", name := "<init>", desc := "()V" } : Jvm.MethodName) jdk_30_method_1_code (1 : Nat) (Option.none : Option Jvm.ClassFile.FieldType), Jvm.Cond.code ({ cls := "java/lang/Object", name := "<init>", desc := "()V" } : Jvm.MethodName) object_method_1_code (1 : Nat) (Option.none : Option Jvm.ClassFile.FieldType), Jvm.Cond.code ({ cls := "com/example/vartija/vartija/protocol/CreateRequest", name := "sequential", desc := "()Z" } : Jvm.MethodName) prog_30_method_5_code (1 : Nat) (Option.some Jvm.ClassFile.FieldType.boolean)]
set_option maxRecDepth 65536 in
theorem codes_eq : words1.filter isCode = codes1 := rfl
theorem w_codes : ∀ c ∈ words1.filter isCode, c.before args0 about1 = true := by
  rw [codes_eq]
  intro c hc
  simp only [codes1, List.mem_cons, List.not_mem_nil, or_false] at hc
  rcases hc with rfl | rfl | rfl | rfl | rfl
  · exact w_c0
  · exact w_c1
  · exact w_c2
  · exact w_c3
  · exact w_c4
set_option maxRecDepth 65536 in
theorem w_t1 : (words1.take 24).all (fun c => isCode c || c.before args0 about1) = true := by decide +kernel
set_option maxRecDepth 65536 in
theorem w_t2 : (words1.drop 24).all (fun c => isCode c || c.before args0 about1) = true := by decide +kernel
theorem w_tables : (allAtoms (Jvm.Cond.code x code maxLocals ret :: tables_1)).before args0 about1 = true := by
  rw [allAtoms_all]
  show words1.all (fun c => c.before args0 about1) = true
  refine all_split ?_ w_codes
  rw [← List.take_append_drop 24 words1, List.all_append, w_t1, w_t2]
  rfl
set_option maxRecDepth 65536 in
theorem w_case : (Jvm.Cond.and given_1 narrow_1).before args0 about1 = true := by decide +kernel
theorem w_applies : (headSpec (Jvm.Cond.code x code maxLocals ret :: tables_1) room_1).applies x e0.platform about1 = true :=
  (Spec.applies_iff w_frames).mpr ⟨w_running, w_runnable, w_alone, w_named, w_hears, w_ripe, w_room, w_tables⟩
theorem atStart : AtStart classFile x code maxLocals ret World_1 tables_1 room_1 Calls_1 rest_1 Pre_1 launch0 p0 e0 about1 theMethod args0 below0 :=
  ⟨lists_1, trivial, launch0.admits_env _ _ _, launch0.least_env, fairChoices_fair.cas, fairChoices_fair.clock, w_frames, w_args, w_heap, w_applies, trivial, trivial, w_case⟩
end start1
theorem witness_1 : WitnessClaimed_1 := ⟨start1.p0, start1.e0, start1.about1, start1.theMethod, start1.args0, start1.below0, start1.atStart⟩
end Jvm.Pilot.@@N@@
