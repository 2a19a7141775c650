import JvmDerived
import JvmDerived.Pilot.@@N@@Statement
import JvmDerived.Pilot.@@N@@Code
set_option linter.unusedVariables false
set_option linter.unusedSimpArgs false
namespace Jvm.RoadKit
open Sem ClassFile Op Lib Jvm.Stand Jvm.Free Jvm.LawKit
section New
variable {p : Program} {l : Launch} {e : Env} {R : Room} {s : State} {m : MethodId} {args : Array Value} {below : List Frame} {meth : Method} {c : Code} {T : State} {locs : List Loc} {cells slots : Nat}
theorem retI (X : Stand p l e R s m args below meth c T locs cells slots) (hx : p.tables.exec = Jvm.exec) {pc : Nat} {Ls : Array Slot} {z : Int32} {rest : List Value} (hret : meth.sig.returnType = some .int) (hd : decode c.code pc = .ok (.ireturn, 1)) {fs : List Frame}
    (hl : ∀ (f : JFrame) (acts : List Action), f.method = m → f.locked = none → f.entered = [] → (doReturn e (T.setTop f) acts (some (.int z))).1 = T.setFrames fs) : Steps p.tables e below (T.setTop (mkF m pc Ls (.int z :: rest))) (T.setFrames fs) := by
  have hm' : T.vm.method? m = some meth := X.method'
  have hn : narrow .int (.int z) = .int z := rfl
  show Steps p.tables e below (T.setTop { method := m, pc := pc, locals := Ls, stack := _ :: rest, locked := none }) _
  jvm_step X.here [X.here.top, hx, hd, hm', hret, hn]
  first | (intro acts; rw [hl _ acts rfl rfl rfl]) | rw [hl _ _ rfl rfl rfl]
  exact Steps.refl _
end New
/-- from this state a run goes on to an end that meets K -/
def Good (p : Program) (e : Env) (below : List Frame) (K : Outcome → State → Prop) (S : State) : Prop := ∃ s₂ o, Steps p.tables e below S s₂ ∧ s₂.status = .running ∧ Ended s₂ below o ∧ K o s₂
theorem Good.back {p : Program} {e : Env} {below : List Frame} {K : Outcome → State → Prop} {S S' : State} (h : ∀ t, Steps p.tables e below S' t → Steps p.tables e below S t) (g : Good p e below K S') : Good p e below K S := by
  obtain ⟨t, o, h1, h2⟩ := g
  exact ⟨t, o, h t h1, h2⟩
theorem Good.done {p : Program} {e : Env} {below : List Frame} {K : Outcome → State → Prop} {S t : State} {o : Outcome} (h1 : Steps p.tables e below S t) (h2 : t.status = .running) (h3 : Ended t below o) (h4 : K o t) : Good p e below K S := ⟨t, o, h1, h2, h3, h4⟩
end Jvm.RoadKit
namespace Jvm.Pilot.@@N@@
open Jvm Jvm.ClassFile Sem Op Lib Jvm.Free Jvm.Stand Jvm.LawKit Jvm.RoadKit Bundle Jvm.Pilot.@@N@@.Jvm.D
theorem own_pn0 : plainName "com/example/poonji/poonji/CsvReader$Record" = true := by first | (simp [plainName, overriddenIn]; done) | decide +kernel
theorem own_d1_0 : decode prog_20_method_1_code 0 = .ok (.aload_n 0, 1) := by decide +kernel
theorem own_d1_1 : decode prog_20_method_1_code 1 = .ok (.invokespecial 1, 3) := by decide +kernel
theorem own_d1_4 : decode prog_20_method_1_code 4 = .ok (.aload_n 0, 1) := by decide +kernel
theorem own_d1_5 : decode prog_20_method_1_code 5 = .ok (.lload_n 1, 1) := by decide +kernel
theorem own_d1_6 : decode prog_20_method_1_code 6 = .ok (.putfield 7, 3) := by decide +kernel
theorem own_d1_9 : decode prog_20_method_1_code 9 = .ok (.aload_n 0, 1) := by decide +kernel
theorem own_d1_10 : decode prog_20_method_1_code 10 = .ok (.aload_n 3, 1) := by decide +kernel
theorem own_d1_11 : decode prog_20_method_1_code 11 = .ok (.putfield 13, 3) := by decide +kernel
theorem own_d1_14 : decode prog_20_method_1_code 14 = .ok (.aload_n 0, 1) := by decide +kernel
theorem own_d1_15 : decode prog_20_method_1_code 15 = .ok (.aload 4, 2) := by decide +kernel
theorem own_d1_17 : decode prog_20_method_1_code 17 = .ok (.putfield 17, 3) := by decide +kernel
theorem own_d1_20 : decode prog_20_method_1_code 20 = .ok (.return_, 1) := by decide +kernel
theorem own_ef_1 (m : MethodId) (x0 : Addr) (x1 : Int64) (x2 : Addr) (x3 : Addr) : entryFrame m #[(.ref x0), (.long x1), (.ref x2), (.ref x3)] 5 = mkF m 0 #[.val (.ref x0), .val (.long x1), .second, .val (.ref x2), .val (.ref x3)] [] := by first | (simp [entryFrame, mkF, argsToLocals, Value.category]; done) | rfl
def Q1 (Z : State) (r0 : Addr) (q1 : Int64) (r2 : Addr) (r3 : Addr) (h0 : Heap) (n0 : Nat) (v : Option Value) (h : Heap) (L : List Loc) : Prop := v = none ∧ Fr n0 L ∧ Keep h0 h [r0] ∧ Fld Z h r0 "com/example/poonji/poonji/CsvReader$Record" "ends" "[I" (.ref r3)
set_option maxRecDepth 65536 in
set_option maxHeartbeats 40000000 in
theorem rm1 (l : Launch) (Z : State) (a0 : Array Value) (hw : ∀ d ∈ tables_1, d.before a0 Z = true) (ws : List Jvm.Cond) (r0 : Addr) (q1 : Int64) (r2 : Addr) (r3 : Addr) (h0 : Heap) (n0 : Nat) (Z0 : n0 ≤ h0.size) (E0 : Exa Z h0 r0 "com/example/poonji/poonji/CsvReader$Record") (g0 : n0 ≤ r0) (F_line : Fld Z h0 r0 "com/example/poonji/poonji/CsvReader$Record" "line" "J" (.long (0 : Int64))) (F_characters : Fld Z h0 r0 "com/example/poonji/poonji/CsvReader$Record" "characters" "[C" .null) (F_ends : Fld Z h0 r0 "com/example/poonji/poonji/CsvReader$Record" "ends" "[I" .null) :
    MetFree l (⟨"com/example/poonji/poonji/CsvReader$Record", "<init>", "(J[C[I)V"⟩ : MethodName) (head1 (Jvm.Cond.code (⟨"com/example/poonji/poonji/CsvReader$Record", "<init>", "(J[C[I)V"⟩ : MethodName) prog_20_method_1_code 5 none :: ws) ({ frames := 1, cells := 0, slots := 0, locals := 12 } : Room)) (fun a U => a = #[(.ref r0), (.long q1), (.ref r2), (.ref r3)] ∧ Z.Warmed39 U.vm ∧ U.heap = h0) (fun _ _ _ _ _ => True) (fun _ U o U' => ∃ v L, o = .returned v ∧ Q1 Z r0 q1 r2 r3 h0 n0 v U'.heap L ∧ FrameEnd U o U' L ({ frames := 1, cells := 0, slots := 0, locals := 12 } : Room).cells ({ frames := 1, cells := 0, slots := 0, locals := 12 } : Room).slots) := by
  refine MetFree.of_bodySF (plainFor_of_name own_pn0) hisR ?_
  intro p e s m args below meth c s₁ Bd hml0 hP hK
  obtain ⟨rfl, hZ, hh⟩ := hP
  have hx := Bd.exec
  have hby := Bd.bytes
  have hml : c.maxLocals = 5 := hml0
  have hown : s.vm.findClass "com/example/poonji/poonji/CsvReader$Record" = some m.cls := findClass_of_methodNamed Bd.named
  have hnm := (name_of_methodNamed Bd.named Bd.method).1
  have X0 : Stand p l e ({ frames := 1, cells := 0, slots := 0, locals := 12 } : Room) s m #[(.ref r0), (.long q1), (.ref r2), (.ref r3)] below meth c s₁ [] 0 0 := Stand.of_body Bd
  have e0 : s₁.heap = h0 := by rw [← hh, Bd.state]; rfl
  have N0 := Fr.nil n0
  have KR : Keep h0 h0 [r0] := Keep.refl h0 _
  show Good p e below (fun o U' => ∃ v L, o = .returned v ∧ Q1 Z r0 q1 r2 r3 h0 n0 v U'.heap L ∧ FrameEnd s o U' L ({ frames := 1, cells := 0, slots := 0, locals := 12 } : Room).cells ({ frames := 1, cells := 0, slots := 0, locals := 12 } : Room).slots) _
  refine Good.back (S' := s₁.setTop (mkF m 0 #[.val (.ref r0), .val (.long q1), .second, .val (.ref r2), .val (.ref r3)] [])) (fun t k => castTop (own_ef_1 m r0 q1 r2 r3) k) ?_
  show Good p e below _ (s₁.setTop (mkF m 0 #[.val (.ref r0), .val (.long q1), .second, .val (.ref r2), .val (.ref r3)] []))
  refine Good.back (fun _ k => XS.aloadN X0.here hx rfl (hb hby own_d1_0) rfl rfl k) ?_
  show Good p e below _ (s₁.setTop (mkF m 1 #[.val (.ref r0), .val (.long q1), .second, .val (.ref r2), .val (.ref r3)] [(.ref r0)]))
  obtain ⟨T1, X1, e1, st1⟩ := initO X0 hx hZ hown (hw _ (List.mem_of_getElem? (i := 8) rfl)) (hw _ (List.mem_of_getElem? (i := 9) rfl)) (hw _ (List.mem_of_getElem? (i := 10) rfl)) e0 (g := (mkF m 1 #[.val (.ref r0), .val (.long q1), .second, .val (.ref r2), .val (.ref r3)] [(.ref r0)])) rfl (by rw [hml]; rfl) rfl (hb hby own_d1_1) (by decide) (W := 0) (by show 2 * 0 + _ ≤ _; exact Nat.le_of_eq rfl) (by decide)
  refine Good.back st1 ?_
  show Good p e below _ (T1.setTop (mkF m 4 #[.val (.ref r0), .val (.long q1), .second, .val (.ref r2), .val (.ref r3)] []))
  refine Good.back (fun _ k => XS.aloadN X1.here hx rfl (hb hby own_d1_4) rfl rfl k) ?_
  show Good p e below _ (T1.setTop (mkF m 5 #[.val (.ref r0), .val (.long q1), .second, .val (.ref r2), .val (.ref r3)] [(.ref r0)]))
  refine Good.back (fun _ k => XS.lloadN X1.here hx rfl (hb hby own_d1_5) rfl k) ?_
  show Good p e below _ (T1.setTop (mkF m 6 #[.val (.ref r0), .val (.long q1), .second, .val (.ref r2), .val (.ref r3)] [(.long q1), (.ref r0)]))
  obtain ⟨T2, h2, X2, e2, W2, st2⟩ := putF X1 hx hZ hown (host := "") (Or.inl (hw _ (List.mem_of_getElem? (i := 11) rfl))) Via.refl e1 F_line E0 (Or.inr ⟨(hw _ (List.mem_of_getElem? (i := 12) rfl)), rfl, hnm⟩) (hw _ (List.mem_of_getElem? (i := 3) rfl)) (ty := .long) (by decide) rfl rfl (g := (mkF m 6 #[.val (.ref r0), .val (.long q1), .second, .val (.ref r2), .val (.ref r3)] [(.long q1), (.ref r0)])) rfl rfl (hb hby own_d1_6)
  refine Good.back st2 ?_
  have f_3 : Fld Z h2 r0 "com/example/poonji/poonji/CsvReader$Record" "line" "J" (.long q1) := Fld.same W2 F_line
  have N2 := Fr.snoc X2 N0 g0
  have Z4 : n0 ≤ h2.size := Nat.le_trans Z0 (Keep.of_wr W2).1
  have K5 : Keep h0 h2 [r0] := KR.wr W2 (Or.inl (List.mem_of_getElem? (i := 0) rfl))
  show Good p e below _ (T2.setTop (mkF m 9 #[.val (.ref r0), .val (.long q1), .second, .val (.ref r2), .val (.ref r3)] []))
  refine Good.back (fun _ k => XS.aloadN X2.here hx rfl (hb hby own_d1_9) rfl rfl k) ?_
  show Good p e below _ (T2.setTop (mkF m 10 #[.val (.ref r0), .val (.long q1), .second, .val (.ref r2), .val (.ref r3)] [(.ref r0)]))
  refine Good.back (fun _ k => XS.aloadN X2.here hx rfl (hb hby own_d1_10) rfl rfl k) ?_
  show Good p e below _ (T2.setTop (mkF m 11 #[.val (.ref r0), .val (.long q1), .second, .val (.ref r2), .val (.ref r3)] [(.ref r2), (.ref r0)]))
  have f_6 : Fld Z h2 r0 "com/example/poonji/poonji/CsvReader$Record" "characters" "[C" .null := Fld.other W2 F_characters (Or.inr (slot_ne (Or.inr (hw _ (List.mem_of_getElem? (i := 14) rfl))) (Or.inr (hw _ (List.mem_of_getElem? (i := 12) rfl))) (by decide) (t := (.array .char)) (t' := .long) (by decide) (by decide)))
  have f_7 : Exa Z h2 r0 "com/example/poonji/poonji/CsvReader$Record" := Exa.wr W2 E0
  obtain ⟨T8, h8, X8, e8, W8, st8⟩ := putF X2 hx hZ hown (host := "") (Or.inl (hw _ (List.mem_of_getElem? (i := 13) rfl))) Via.refl e2 f_6 f_7 (Or.inr ⟨(hw _ (List.mem_of_getElem? (i := 14) rfl)), rfl, hnm⟩) (hw _ (List.mem_of_getElem? (i := 3) rfl)) (ty := (.array .char)) (by decide) rfl rfl (g := (mkF m 11 #[.val (.ref r0), .val (.long q1), .second, .val (.ref r2), .val (.ref r3)] [(.ref r2), (.ref r0)])) rfl rfl (hb hby own_d1_11)
  refine Good.back st8 ?_
  have f_9 : Fld Z h8 r0 "com/example/poonji/poonji/CsvReader$Record" "characters" "[C" (.ref r2) := Fld.same W8 f_6
  have N8 := Fr.snoc X8 N2 g0
  have Z10 : n0 ≤ h8.size := Nat.le_trans Z4 (Keep.of_wr W8).1
  have K11 : Keep h0 h8 [r0] := K5.wr W8 (Or.inl (List.mem_of_getElem? (i := 0) rfl))
  show Good p e below _ (T8.setTop (mkF m 14 #[.val (.ref r0), .val (.long q1), .second, .val (.ref r2), .val (.ref r3)] []))
  refine Good.back (fun _ k => XS.aloadN X8.here hx rfl (hb hby own_d1_14) rfl rfl k) ?_
  show Good p e below _ (T8.setTop (mkF m 15 #[.val (.ref r0), .val (.long q1), .second, .val (.ref r2), .val (.ref r3)] [(.ref r0)]))
  refine Good.back (fun _ k => XS.aload X8.here hx rfl (hb hby own_d1_15) rfl rfl k) ?_
  show Good p e below _ (T8.setTop (mkF m 17 #[.val (.ref r0), .val (.long q1), .second, .val (.ref r2), .val (.ref r3)] [(.ref r3), (.ref r0)]))
  have f_12 : Fld Z h2 r0 "com/example/poonji/poonji/CsvReader$Record" "ends" "[I" .null := Fld.other W2 F_ends (Or.inr (slot_ne (Or.inr (hw _ (List.mem_of_getElem? (i := 16) rfl))) (Or.inr (hw _ (List.mem_of_getElem? (i := 12) rfl))) (by decide) (t := (.array .int)) (t' := .long) (by decide) (by decide)))
  have f_13 : Fld Z h8 r0 "com/example/poonji/poonji/CsvReader$Record" "ends" "[I" .null := Fld.other W8 f_12 (Or.inr (slot_ne (Or.inr (hw _ (List.mem_of_getElem? (i := 16) rfl))) (Or.inr (hw _ (List.mem_of_getElem? (i := 14) rfl))) (by decide) (t := (.array .int)) (t' := (.array .char)) (by decide) (by decide)))
  have f_14 : Exa Z h8 r0 "com/example/poonji/poonji/CsvReader$Record" := Exa.wr W8 f_7
  obtain ⟨T15, h15, X15, e15, W15, st15⟩ := putF X8 hx hZ hown (host := "") (Or.inl (hw _ (List.mem_of_getElem? (i := 15) rfl))) Via.refl e8 f_13 f_14 (Or.inr ⟨(hw _ (List.mem_of_getElem? (i := 16) rfl)), rfl, hnm⟩) (hw _ (List.mem_of_getElem? (i := 3) rfl)) (ty := (.array .int)) (by decide) rfl rfl (g := (mkF m 17 #[.val (.ref r0), .val (.long q1), .second, .val (.ref r2), .val (.ref r3)] [(.ref r3), (.ref r0)])) rfl rfl (hb hby own_d1_17)
  refine Good.back st15 ?_
  have f_16 : Fld Z h15 r0 "com/example/poonji/poonji/CsvReader$Record" "ends" "[I" (.ref r3) := Fld.same W15 f_13
  have N15 := Fr.snoc X15 N8 g0
  have Z17 : n0 ≤ h15.size := Nat.le_trans Z10 (Keep.of_wr W15).1
  have K18 : Keep h0 h15 [r0] := K11.wr W15 (Or.inl (List.mem_of_getElem? (i := 0) rfl))
  show Good p e below _ (T15.setTop (mkF m 20 #[.val (.ref r0), .val (.long q1), .second, .val (.ref r2), .val (.ref r3)] []))
  obtain ⟨fs19, hr19, hrun19, hended19, hW19, hsame19⟩ := X15.leave (v := none) (fun _ => rfl)
  refine Good.done (X15.returnOut hx Bd.returns (hb hby own_d1_20) hr19) hrun19 hended19 ⟨_, _, rfl, ?_, ⟨_, rfl⟩, hW19, hsame19.mono (by decide) (by decide)⟩
  show Q1 Z r0 q1 r2 r3 h0 n0 _ T15.heap _
  rw [e15]
  exact ⟨rfl, N15, K18, f_16⟩
theorem own_d3_0 : decode prog_20_method_6_code 0 = .ok (.iload_n 1, 1) := by decide +kernel
theorem own_d3_1 : decode prog_20_method_6_code 1 = .ok (.ifCond .ne 7, 3) := by decide +kernel
theorem own_d3_4 : decode prog_20_method_6_code 4 = .ok (.iconst 0, 1) := by decide +kernel
theorem own_d3_5 : decode prog_20_method_6_code 5 = .ok (.goto 13, 3) := by decide +kernel
theorem own_d3_18 : decode prog_20_method_6_code 18 = .ok (.ireturn, 1) := by decide +kernel
theorem own_ef_3_0 (m : MethodId) (x0 : Addr) (x1 : Int32) : entryFrame m #[(.ref x0), (.int x1)] 2 = mkF m 0 #[.val (.ref x0), .val (.int x1)] [] := by first | (simp [entryFrame, mkF, argsToLocals, Value.category]; done) | rfl
def Q3_0 (Z : State) (r0 : Addr) (ar : Addr) (kk : ClassId) (u0 : Int32) (u1 : Int32) (u2 : Int32) (h0 : Heap) (n0 : Nat) (v : Option Value) (h : Heap) (L : List Loc) : Prop := v = some (.int (0 : Int32)) ∧ Fr n0 L ∧ h = h0
set_option maxRecDepth 65536 in
set_option maxHeartbeats 40000000 in
theorem rm3_0 (l : Launch) (Z : State) (a0 : Array Value) (hw : ∀ d ∈ tables_1, d.before a0 Z = true) (ws : List Jvm.Cond) (r0 : Addr) (ar : Addr) (kk : ClassId) (u0 : Int32) (u1 : Int32) (u2 : Int32) (h0 : Heap) (n0 : Nat) (Z0 : n0 ≤ h0.size) (F0 : Fld Z h0 r0 "com/example/poonji/poonji/CsvReader$Record" "ends" "[I" (.ref ar)) (V0 : Arv Z h0 ar kk .int (3 : Int32) [(.int u0), (.int u1), (.int u2)] (.int (0 : Int32))) :
    MetFree l (⟨"com/example/poonji/poonji/CsvReader$Record", "start", "(I)I"⟩ : MethodName) (head1 (Jvm.Cond.code (⟨"com/example/poonji/poonji/CsvReader$Record", "start", "(I)I"⟩ : MethodName) prog_20_method_6_code 2 (some .int) :: ws) ({ frames := 0, cells := 0, slots := 0, locals := 0 } : Room)) (fun a U => a = #[(.ref r0), (.int (0 : Int32))] ∧ Z.Warmed39 U.vm ∧ U.heap = h0) (fun _ _ _ _ _ => True) (fun _ U o U' => ∃ v L, o = .returned v ∧ Q3_0 Z r0 ar kk u0 u1 u2 h0 n0 v U'.heap L ∧ FrameEnd U o U' L ({ frames := 0, cells := 0, slots := 0, locals := 0 } : Room).cells ({ frames := 0, cells := 0, slots := 0, locals := 0 } : Room).slots) := by
  refine MetFree.of_bodySF (plainFor_of_name own_pn0) hisR ?_
  intro p e s m args below meth c s₁ Bd hml0 hP hK
  obtain ⟨rfl, hZ, hh⟩ := hP
  have hx := Bd.exec
  have hby := Bd.bytes
  have hml : c.maxLocals = 2 := hml0
  have hown : s.vm.findClass "com/example/poonji/poonji/CsvReader$Record" = some m.cls := findClass_of_methodNamed Bd.named
  have hnm := (name_of_methodNamed Bd.named Bd.method).1
  have X0 : Stand p l e ({ frames := 0, cells := 0, slots := 0, locals := 0 } : Room) s m #[(.ref r0), (.int (0 : Int32))] below meth c s₁ [] 0 0 := Stand.of_body Bd
  have e0 : s₁.heap = h0 := by rw [← hh, Bd.state]; rfl
  have N0 := Fr.nil n0
  show Good p e below (fun o U' => ∃ v L, o = .returned v ∧ Q3_0 Z r0 ar kk u0 u1 u2 h0 n0 v U'.heap L ∧ FrameEnd s o U' L ({ frames := 0, cells := 0, slots := 0, locals := 0 } : Room).cells ({ frames := 0, cells := 0, slots := 0, locals := 0 } : Room).slots) _
  refine Good.back (S' := s₁.setTop (mkF m 0 #[.val (.ref r0), .val (.int (0 : Int32))] [])) (fun t k => castTop (own_ef_3_0 m r0 (0 : Int32)) k) ?_
  show Good p e below _ (s₁.setTop (mkF m 0 #[.val (.ref r0), .val (.int (0 : Int32))] []))
  refine Good.back (fun _ k => XS.iloadN X0.here hx rfl (hb hby own_d3_0) rfl k) ?_
  show Good p e below _ (s₁.setTop (mkF m 1 #[.val (.ref r0), .val (.int (0 : Int32))] [(.int (0 : Int32))]))
  refine Good.back (fun _ k => XS.ifNo X0.here hx rfl (hb hby own_d3_1) rfl ((if0 _ _).trans (teq (by decide : ((0 : Int32) = (0 : Int32)))).2) k) ?_
  show Good p e below _ (s₁.setTop (mkF m 4 #[.val (.ref r0), .val (.int (0 : Int32))] []))
  refine Good.back (fun _ k => XS.iconst X0.here hx rfl (hb hby own_d3_4) k) ?_
  show Good p e below _ (s₁.setTop (mkF m 5 #[.val (.ref r0), .val (.int (0 : Int32))] [(.int (0 : Int32))]))
  refine Good.back (fun _ k => XS.goto X0.here hx rfl (pc0 := 5) (pc' := 18) rfl (hb hby own_d3_5) (by decide) (by decide) k) ?_
  show Good p e below _ (s₁.setTop (mkF m 18 #[.val (.ref r0), .val (.int (0 : Int32))] [(.int (0 : Int32))]))
  obtain ⟨fs1, hr1, hrun1, hended1, hW1, hsame1⟩ := X0.leave (v := some (.int (0 : Int32))) (fun h => by rw [Bd.returns] at h; cases h)
  refine Good.done (retI X0 hx Bd.returns (hb hby own_d3_18) hr1) hrun1 hended1 ⟨_, _, rfl, ?_, ⟨_, rfl⟩, hW1, hsame1.mono (by decide) (by decide)⟩
  show Q3_0 Z r0 ar kk u0 u1 u2 h0 n0 _ s₁.heap _
  rw [e0]
  exact ⟨rfl, N0, rfl⟩
theorem own_d4_0 : decode prog_20_method_7_code 0 = .ok (.aload_n 0, 1) := by decide +kernel
theorem own_d4_1 : decode prog_20_method_7_code 1 = .ok (.getfield 17, 3) := by decide +kernel
theorem own_d4_4 : decode prog_20_method_7_code 4 = .ok (.iload_n 1, 1) := by decide +kernel
theorem own_d4_5 : decode prog_20_method_7_code 5 = .ok (.iaload, 1) := by decide +kernel
theorem own_d4_6 : decode prog_20_method_7_code 6 = .ok (.ireturn, 1) := by decide +kernel
theorem own_ef_4_0 (m : MethodId) (x0 : Addr) (x1 : Int32) : entryFrame m #[(.ref x0), (.int x1)] 2 = mkF m 0 #[.val (.ref x0), .val (.int x1)] [] := by first | (simp [entryFrame, mkF, argsToLocals, Value.category]; done) | rfl
def Q4_0 (Z : State) (r0 : Addr) (ar : Addr) (kk : ClassId) (u0 : Int32) (u1 : Int32) (u2 : Int32) (h0 : Heap) (n0 : Nat) (v : Option Value) (h : Heap) (L : List Loc) : Prop := v = some (.int u0) ∧ Fr n0 L ∧ h = h0
set_option maxRecDepth 65536 in
set_option maxHeartbeats 40000000 in
theorem rm4_0 (l : Launch) (Z : State) (a0 : Array Value) (hw : ∀ d ∈ tables_1, d.before a0 Z = true) (ws : List Jvm.Cond) (r0 : Addr) (ar : Addr) (kk : ClassId) (u0 : Int32) (u1 : Int32) (u2 : Int32) (h0 : Heap) (n0 : Nat) (Z0 : n0 ≤ h0.size) (F0 : Fld Z h0 r0 "com/example/poonji/poonji/CsvReader$Record" "ends" "[I" (.ref ar)) (V0 : Arv Z h0 ar kk .int (3 : Int32) [(.int u0), (.int u1), (.int u2)] (.int (0 : Int32))) :
    MetFree l (⟨"com/example/poonji/poonji/CsvReader$Record", "end", "(I)I"⟩ : MethodName) (head1 (Jvm.Cond.code (⟨"com/example/poonji/poonji/CsvReader$Record", "end", "(I)I"⟩ : MethodName) prog_20_method_7_code 2 (some .int) :: ws) ({ frames := 0, cells := 0, slots := 0, locals := 0 } : Room)) (fun a U => a = #[(.ref r0), (.int (0 : Int32))] ∧ Z.Warmed39 U.vm ∧ U.heap = h0) (fun _ _ _ _ _ => True) (fun _ U o U' => ∃ v L, o = .returned v ∧ Q4_0 Z r0 ar kk u0 u1 u2 h0 n0 v U'.heap L ∧ FrameEnd U o U' L ({ frames := 0, cells := 0, slots := 0, locals := 0 } : Room).cells ({ frames := 0, cells := 0, slots := 0, locals := 0 } : Room).slots) := by
  refine MetFree.of_bodySF (plainFor_of_name own_pn0) hisR ?_
  intro p e s m args below meth c s₁ Bd hml0 hP hK
  obtain ⟨rfl, hZ, hh⟩ := hP
  have hx := Bd.exec
  have hby := Bd.bytes
  have hml : c.maxLocals = 2 := hml0
  have hown : s.vm.findClass "com/example/poonji/poonji/CsvReader$Record" = some m.cls := findClass_of_methodNamed Bd.named
  have hnm := (name_of_methodNamed Bd.named Bd.method).1
  have X0 : Stand p l e ({ frames := 0, cells := 0, slots := 0, locals := 0 } : Room) s m #[(.ref r0), (.int (0 : Int32))] below meth c s₁ [] 0 0 := Stand.of_body Bd
  have e0 : s₁.heap = h0 := by rw [← hh, Bd.state]; rfl
  have N0 := Fr.nil n0
  show Good p e below (fun o U' => ∃ v L, o = .returned v ∧ Q4_0 Z r0 ar kk u0 u1 u2 h0 n0 v U'.heap L ∧ FrameEnd s o U' L ({ frames := 0, cells := 0, slots := 0, locals := 0 } : Room).cells ({ frames := 0, cells := 0, slots := 0, locals := 0 } : Room).slots) _
  refine Good.back (S' := s₁.setTop (mkF m 0 #[.val (.ref r0), .val (.int (0 : Int32))] [])) (fun t k => castTop (own_ef_4_0 m r0 (0 : Int32)) k) ?_
  show Good p e below _ (s₁.setTop (mkF m 0 #[.val (.ref r0), .val (.int (0 : Int32))] []))
  refine Good.back (fun _ k => XS.aloadN X0.here hx rfl (hb hby own_d4_0) rfl rfl k) ?_
  show Good p e below _ (s₁.setTop (mkF m 1 #[.val (.ref r0), .val (.int (0 : Int32))] [(.ref r0)]))
  obtain ⟨T1, X1, e1, st1⟩ := getF X0 hx hZ hown (host := "") (Or.inl (hw _ (List.mem_of_getElem? (i := 15) rfl))) Via.refl e0 F0 (g := (mkF m 1 #[.val (.ref r0), .val (.int (0 : Int32))] [(.ref r0)])) rfl rfl (hb hby own_d4_1)
  refine Good.back st1 ?_
  show Good p e below _ (T1.setTop (mkF m 4 #[.val (.ref r0), .val (.int (0 : Int32))] [(.ref ar)]))
  refine Good.back (fun _ k => XS.iloadN X1.here hx rfl (hb hby own_d4_4) rfl k) ?_
  show Good p e below _ (T1.setTop (mkF m 5 #[.val (.ref r0), .val (.int (0 : Int32))] [(.int (0 : Int32)), (.ref ar)]))
  have fc2 := V0
  obtain ⟨cl2, Ar2, q2, S2, N2', H2, G2⟩ := fc2
  have hin2 : ¬ ((0 : Int32) < 0 ∨ cl2.slots.size ≤ ((0 : Int32)).toNatClampNeg) := inb_of S2 ⟨by decide, by decide⟩
  have hat2 : cl2.slots[((0 : Int32)).toNatClampNeg]? = some (.int u0) := Has.at H2 hin2 rfl
  refine Good.back (X1.iaload hx (j := (0 : Int32)) (v := (.int u0)) (by rw [e1]; exact Ar2.1) (State.isArrayOf_alike hZ.alike Ar2.2.1) Ar2.2.2 hin2 hat2 (g := (mkF m 5 #[.val (.ref r0), .val (.int (0 : Int32))] [(.int (0 : Int32)), (.ref ar)])) rfl rfl (hb hby own_d4_5)) ?_
  show Good p e below _ (T1.setTop (mkF m 6 #[.val (.ref r0), .val (.int (0 : Int32))] [(.int u0)]))
  obtain ⟨fs3, hr3, hrun3, hended3, hW3, hsame3⟩ := X1.leave (v := some (.int u0)) (fun h => by rw [Bd.returns] at h; cases h)
  refine Good.done (retI X1 hx Bd.returns (hb hby own_d4_6) hr3) hrun3 hended3 ⟨_, _, rfl, ?_, ⟨_, rfl⟩, hW3, hsame3.mono (by decide) (by decide)⟩
  show Q4_0 Z r0 ar kk u0 u1 u2 h0 n0 _ T1.heap _
  rw [e1]
  exact ⟨rfl, N0, rfl⟩
theorem own_d3_8 : decode prog_20_method_6_code 8 = .ok (.aload_n 0, 1) := by decide +kernel
theorem own_d3_9 : decode prog_20_method_6_code 9 = .ok (.getfield 17, 3) := by decide +kernel
theorem own_d3_12 : decode prog_20_method_6_code 12 = .ok (.iload_n 1, 1) := by decide +kernel
theorem own_d3_13 : decode prog_20_method_6_code 13 = .ok (.iconst 1, 1) := by decide +kernel
theorem own_d3_14 : decode prog_20_method_6_code 14 = .ok (.isub, 1) := by decide +kernel
theorem own_d3_15 : decode prog_20_method_6_code 15 = .ok (.iaload, 1) := by decide +kernel
theorem own_d3_16 : decode prog_20_method_6_code 16 = .ok (.iconst 1, 1) := by decide +kernel
theorem own_d3_17 : decode prog_20_method_6_code 17 = .ok (.iadd, 1) := by decide +kernel
theorem own_ef_3_1 (m : MethodId) (x0 : Addr) (x1 : Int32) : entryFrame m #[(.ref x0), (.int x1)] 2 = mkF m 0 #[.val (.ref x0), .val (.int x1)] [] := by first | (simp [entryFrame, mkF, argsToLocals, Value.category]; done) | rfl
def Q3_1 (Z : State) (r0 : Addr) (ar : Addr) (kk : ClassId) (u0 : Int32) (u1 : Int32) (u2 : Int32) (h0 : Heap) (n0 : Nat) (v : Option Value) (h : Heap) (L : List Loc) : Prop := v = some (.int (u0 + (1 : Int32))) ∧ Fr n0 L ∧ h = h0
set_option maxRecDepth 65536 in
set_option maxHeartbeats 40000000 in
theorem rm3_1 (l : Launch) (Z : State) (a0 : Array Value) (hw : ∀ d ∈ tables_1, d.before a0 Z = true) (ws : List Jvm.Cond) (r0 : Addr) (ar : Addr) (kk : ClassId) (u0 : Int32) (u1 : Int32) (u2 : Int32) (h0 : Heap) (n0 : Nat) (Z0 : n0 ≤ h0.size) (F0 : Fld Z h0 r0 "com/example/poonji/poonji/CsvReader$Record" "ends" "[I" (.ref ar)) (V0 : Arv Z h0 ar kk .int (3 : Int32) [(.int u0), (.int u1), (.int u2)] (.int (0 : Int32))) :
    MetFree l (⟨"com/example/poonji/poonji/CsvReader$Record", "start", "(I)I"⟩ : MethodName) (head1 (Jvm.Cond.code (⟨"com/example/poonji/poonji/CsvReader$Record", "start", "(I)I"⟩ : MethodName) prog_20_method_6_code 2 (some .int) :: ws) ({ frames := 0, cells := 0, slots := 0, locals := 0 } : Room)) (fun a U => a = #[(.ref r0), (.int (1 : Int32))] ∧ Z.Warmed39 U.vm ∧ U.heap = h0) (fun _ _ _ _ _ => True) (fun _ U o U' => ∃ v L, o = .returned v ∧ Q3_1 Z r0 ar kk u0 u1 u2 h0 n0 v U'.heap L ∧ FrameEnd U o U' L ({ frames := 0, cells := 0, slots := 0, locals := 0 } : Room).cells ({ frames := 0, cells := 0, slots := 0, locals := 0 } : Room).slots) := by
  refine MetFree.of_bodySF (plainFor_of_name own_pn0) hisR ?_
  intro p e s m args below meth c s₁ Bd hml0 hP hK
  obtain ⟨rfl, hZ, hh⟩ := hP
  have hx := Bd.exec
  have hby := Bd.bytes
  have hml : c.maxLocals = 2 := hml0
  have hown : s.vm.findClass "com/example/poonji/poonji/CsvReader$Record" = some m.cls := findClass_of_methodNamed Bd.named
  have hnm := (name_of_methodNamed Bd.named Bd.method).1
  have X0 : Stand p l e ({ frames := 0, cells := 0, slots := 0, locals := 0 } : Room) s m #[(.ref r0), (.int (1 : Int32))] below meth c s₁ [] 0 0 := Stand.of_body Bd
  have e0 : s₁.heap = h0 := by rw [← hh, Bd.state]; rfl
  have N0 := Fr.nil n0
  show Good p e below (fun o U' => ∃ v L, o = .returned v ∧ Q3_1 Z r0 ar kk u0 u1 u2 h0 n0 v U'.heap L ∧ FrameEnd s o U' L ({ frames := 0, cells := 0, slots := 0, locals := 0 } : Room).cells ({ frames := 0, cells := 0, slots := 0, locals := 0 } : Room).slots) _
  refine Good.back (S' := s₁.setTop (mkF m 0 #[.val (.ref r0), .val (.int (1 : Int32))] [])) (fun t k => castTop (own_ef_3_1 m r0 (1 : Int32)) k) ?_
  show Good p e below _ (s₁.setTop (mkF m 0 #[.val (.ref r0), .val (.int (1 : Int32))] []))
  refine Good.back (fun _ k => XS.iloadN X0.here hx rfl (hb hby own_d3_0) rfl k) ?_
  show Good p e below _ (s₁.setTop (mkF m 1 #[.val (.ref r0), .val (.int (1 : Int32))] [(.int (1 : Int32))]))
  refine Good.back (fun _ k => XS.ifYes X0.here hx rfl (pc0 := 1) (pc' := 8) rfl (hb hby own_d3_1) rfl ((if0 _ _).trans (feq (by decide : ¬ ((1 : Int32) = (0 : Int32)))).2) (by decide) (by decide) k) ?_
  show Good p e below _ (s₁.setTop (mkF m 8 #[.val (.ref r0), .val (.int (1 : Int32))] []))
  refine Good.back (fun _ k => XS.aloadN X0.here hx rfl (hb hby own_d3_8) rfl rfl k) ?_
  show Good p e below _ (s₁.setTop (mkF m 9 #[.val (.ref r0), .val (.int (1 : Int32))] [(.ref r0)]))
  obtain ⟨T1, X1, e1, st1⟩ := getF X0 hx hZ hown (host := "") (Or.inl (hw _ (List.mem_of_getElem? (i := 15) rfl))) Via.refl e0 F0 (g := (mkF m 9 #[.val (.ref r0), .val (.int (1 : Int32))] [(.ref r0)])) rfl rfl (hb hby own_d3_9)
  refine Good.back st1 ?_
  show Good p e below _ (T1.setTop (mkF m 12 #[.val (.ref r0), .val (.int (1 : Int32))] [(.ref ar)]))
  refine Good.back (fun _ k => XS.iloadN X1.here hx rfl (hb hby own_d3_12) rfl k) ?_
  show Good p e below _ (T1.setTop (mkF m 13 #[.val (.ref r0), .val (.int (1 : Int32))] [(.int (1 : Int32)), (.ref ar)]))
  refine Good.back (fun _ k => XS.iconst X1.here hx rfl (hb hby own_d3_13) k) ?_
  show Good p e below _ (T1.setTop (mkF m 14 #[.val (.ref r0), .val (.int (1 : Int32))] [(.int (1 : Int32)), (.int (1 : Int32)), (.ref ar)]))
  refine Good.back (fun _ k => XS.isub X1.here hx rfl (hb hby own_d3_14) rfl k) ?_
  show Good p e below _ (T1.setTop (mkF m 15 #[.val (.ref r0), .val (.int (1 : Int32))] [(.int ((1 : Int32) - (1 : Int32))), (.ref ar)]))
  rw [show (((1 : Int32) - (1 : Int32)) : Int32) = (0 : Int32) from by decide]
  show Good p e below _ (T1.setTop (mkF m 15 #[.val (.ref r0), .val (.int (1 : Int32))] [(.int (0 : Int32)), (.ref ar)]))
  have fc2 := V0
  obtain ⟨cl2, Ar2, q2, S2, N2', H2, G2⟩ := fc2
  have hin2 : ¬ ((0 : Int32) < 0 ∨ cl2.slots.size ≤ ((0 : Int32)).toNatClampNeg) := inb_of S2 ⟨by decide, by decide⟩
  have hat2 : cl2.slots[((0 : Int32)).toNatClampNeg]? = some (.int u0) := Has.at H2 hin2 rfl
  refine Good.back (X1.iaload hx (j := (0 : Int32)) (v := (.int u0)) (by rw [e1]; exact Ar2.1) (State.isArrayOf_alike hZ.alike Ar2.2.1) Ar2.2.2 hin2 hat2 (g := (mkF m 15 #[.val (.ref r0), .val (.int (1 : Int32))] [(.int (0 : Int32)), (.ref ar)])) rfl rfl (hb hby own_d3_15)) ?_
  show Good p e below _ (T1.setTop (mkF m 16 #[.val (.ref r0), .val (.int (1 : Int32))] [(.int u0)]))
  refine Good.back (fun _ k => XS.iconst X1.here hx rfl (hb hby own_d3_16) k) ?_
  show Good p e below _ (T1.setTop (mkF m 17 #[.val (.ref r0), .val (.int (1 : Int32))] [(.int (1 : Int32)), (.int u0)]))
  refine Good.back (fun _ k => XS.iadd X1.here hx rfl (hb hby own_d3_17) rfl k) ?_
  show Good p e below _ (T1.setTop (mkF m 18 #[.val (.ref r0), .val (.int (1 : Int32))] [(.int (u0 + (1 : Int32)))]))
  obtain ⟨fs3, hr3, hrun3, hended3, hW3, hsame3⟩ := X1.leave (v := some (.int (u0 + (1 : Int32)))) (fun h => by rw [Bd.returns] at h; cases h)
  refine Good.done (retI X1 hx Bd.returns (hb hby own_d3_18) hr3) hrun3 hended3 ⟨_, _, rfl, ?_, ⟨_, rfl⟩, hW3, hsame3.mono (by decide) (by decide)⟩
  show Q3_1 Z r0 ar kk u0 u1 u2 h0 n0 _ T1.heap _
  rw [e1]
  exact ⟨rfl, N0, rfl⟩
theorem own_ef_4_1 (m : MethodId) (x0 : Addr) (x1 : Int32) : entryFrame m #[(.ref x0), (.int x1)] 2 = mkF m 0 #[.val (.ref x0), .val (.int x1)] [] := by first | (simp [entryFrame, mkF, argsToLocals, Value.category]; done) | rfl
def Q4_1 (Z : State) (r0 : Addr) (ar : Addr) (kk : ClassId) (u0 : Int32) (u1 : Int32) (u2 : Int32) (h0 : Heap) (n0 : Nat) (v : Option Value) (h : Heap) (L : List Loc) : Prop := v = some (.int u1) ∧ Fr n0 L ∧ h = h0
set_option maxRecDepth 65536 in
set_option maxHeartbeats 40000000 in
theorem rm4_1 (l : Launch) (Z : State) (a0 : Array Value) (hw : ∀ d ∈ tables_1, d.before a0 Z = true) (ws : List Jvm.Cond) (r0 : Addr) (ar : Addr) (kk : ClassId) (u0 : Int32) (u1 : Int32) (u2 : Int32) (h0 : Heap) (n0 : Nat) (Z0 : n0 ≤ h0.size) (F0 : Fld Z h0 r0 "com/example/poonji/poonji/CsvReader$Record" "ends" "[I" (.ref ar)) (V0 : Arv Z h0 ar kk .int (3 : Int32) [(.int u0), (.int u1), (.int u2)] (.int (0 : Int32))) :
    MetFree l (⟨"com/example/poonji/poonji/CsvReader$Record", "end", "(I)I"⟩ : MethodName) (head1 (Jvm.Cond.code (⟨"com/example/poonji/poonji/CsvReader$Record", "end", "(I)I"⟩ : MethodName) prog_20_method_7_code 2 (some .int) :: ws) ({ frames := 0, cells := 0, slots := 0, locals := 0 } : Room)) (fun a U => a = #[(.ref r0), (.int (1 : Int32))] ∧ Z.Warmed39 U.vm ∧ U.heap = h0) (fun _ _ _ _ _ => True) (fun _ U o U' => ∃ v L, o = .returned v ∧ Q4_1 Z r0 ar kk u0 u1 u2 h0 n0 v U'.heap L ∧ FrameEnd U o U' L ({ frames := 0, cells := 0, slots := 0, locals := 0 } : Room).cells ({ frames := 0, cells := 0, slots := 0, locals := 0 } : Room).slots) := by
  refine MetFree.of_bodySF (plainFor_of_name own_pn0) hisR ?_
  intro p e s m args below meth c s₁ Bd hml0 hP hK
  obtain ⟨rfl, hZ, hh⟩ := hP
  have hx := Bd.exec
  have hby := Bd.bytes
  have hml : c.maxLocals = 2 := hml0
  have hown : s.vm.findClass "com/example/poonji/poonji/CsvReader$Record" = some m.cls := findClass_of_methodNamed Bd.named
  have hnm := (name_of_methodNamed Bd.named Bd.method).1
  have X0 : Stand p l e ({ frames := 0, cells := 0, slots := 0, locals := 0 } : Room) s m #[(.ref r0), (.int (1 : Int32))] below meth c s₁ [] 0 0 := Stand.of_body Bd
  have e0 : s₁.heap = h0 := by rw [← hh, Bd.state]; rfl
  have N0 := Fr.nil n0
  show Good p e below (fun o U' => ∃ v L, o = .returned v ∧ Q4_1 Z r0 ar kk u0 u1 u2 h0 n0 v U'.heap L ∧ FrameEnd s o U' L ({ frames := 0, cells := 0, slots := 0, locals := 0 } : Room).cells ({ frames := 0, cells := 0, slots := 0, locals := 0 } : Room).slots) _
  refine Good.back (S' := s₁.setTop (mkF m 0 #[.val (.ref r0), .val (.int (1 : Int32))] [])) (fun t k => castTop (own_ef_4_1 m r0 (1 : Int32)) k) ?_
  show Good p e below _ (s₁.setTop (mkF m 0 #[.val (.ref r0), .val (.int (1 : Int32))] []))
  refine Good.back (fun _ k => XS.aloadN X0.here hx rfl (hb hby own_d4_0) rfl rfl k) ?_
  show Good p e below _ (s₁.setTop (mkF m 1 #[.val (.ref r0), .val (.int (1 : Int32))] [(.ref r0)]))
  obtain ⟨T1, X1, e1, st1⟩ := getF X0 hx hZ hown (host := "") (Or.inl (hw _ (List.mem_of_getElem? (i := 15) rfl))) Via.refl e0 F0 (g := (mkF m 1 #[.val (.ref r0), .val (.int (1 : Int32))] [(.ref r0)])) rfl rfl (hb hby own_d4_1)
  refine Good.back st1 ?_
  show Good p e below _ (T1.setTop (mkF m 4 #[.val (.ref r0), .val (.int (1 : Int32))] [(.ref ar)]))
  refine Good.back (fun _ k => XS.iloadN X1.here hx rfl (hb hby own_d4_4) rfl k) ?_
  show Good p e below _ (T1.setTop (mkF m 5 #[.val (.ref r0), .val (.int (1 : Int32))] [(.int (1 : Int32)), (.ref ar)]))
  have fc2 := V0
  obtain ⟨cl2, Ar2, q2, S2, N2', H2, G2⟩ := fc2
  have hin2 : ¬ ((1 : Int32) < 0 ∨ cl2.slots.size ≤ ((1 : Int32)).toNatClampNeg) := inb_of S2 ⟨by decide, by decide⟩
  have hat2 : cl2.slots[((1 : Int32)).toNatClampNeg]? = some (.int u1) := Has.at H2 hin2 rfl
  refine Good.back (X1.iaload hx (j := (1 : Int32)) (v := (.int u1)) (by rw [e1]; exact Ar2.1) (State.isArrayOf_alike hZ.alike Ar2.2.1) Ar2.2.2 hin2 hat2 (g := (mkF m 5 #[.val (.ref r0), .val (.int (1 : Int32))] [(.int (1 : Int32)), (.ref ar)])) rfl rfl (hb hby own_d4_5)) ?_
  show Good p e below _ (T1.setTop (mkF m 6 #[.val (.ref r0), .val (.int (1 : Int32))] [(.int u1)]))
  obtain ⟨fs3, hr3, hrun3, hended3, hW3, hsame3⟩ := X1.leave (v := some (.int u1)) (fun h => by rw [Bd.returns] at h; cases h)
  refine Good.done (retI X1 hx Bd.returns (hb hby own_d4_6) hr3) hrun3 hended3 ⟨_, _, rfl, ?_, ⟨_, rfl⟩, hW3, hsame3.mono (by decide) (by decide)⟩
  show Q4_1 Z r0 ar kk u0 u1 u2 h0 n0 _ T1.heap _
  rw [e1]
  exact ⟨rfl, N0, rfl⟩
theorem own_ef_3_2 (m : MethodId) (x0 : Addr) (x1 : Int32) : entryFrame m #[(.ref x0), (.int x1)] 2 = mkF m 0 #[.val (.ref x0), .val (.int x1)] [] := by first | (simp [entryFrame, mkF, argsToLocals, Value.category]; done) | rfl
def Q3_2 (Z : State) (r0 : Addr) (ar : Addr) (kk : ClassId) (u0 : Int32) (u1 : Int32) (u2 : Int32) (h0 : Heap) (n0 : Nat) (v : Option Value) (h : Heap) (L : List Loc) : Prop := v = some (.int (u1 + (1 : Int32))) ∧ Fr n0 L ∧ h = h0
set_option maxRecDepth 65536 in
set_option maxHeartbeats 40000000 in
theorem rm3_2 (l : Launch) (Z : State) (a0 : Array Value) (hw : ∀ d ∈ tables_1, d.before a0 Z = true) (ws : List Jvm.Cond) (r0 : Addr) (ar : Addr) (kk : ClassId) (u0 : Int32) (u1 : Int32) (u2 : Int32) (h0 : Heap) (n0 : Nat) (Z0 : n0 ≤ h0.size) (F0 : Fld Z h0 r0 "com/example/poonji/poonji/CsvReader$Record" "ends" "[I" (.ref ar)) (V0 : Arv Z h0 ar kk .int (3 : Int32) [(.int u0), (.int u1), (.int u2)] (.int (0 : Int32))) :
    MetFree l (⟨"com/example/poonji/poonji/CsvReader$Record", "start", "(I)I"⟩ : MethodName) (head1 (Jvm.Cond.code (⟨"com/example/poonji/poonji/CsvReader$Record", "start", "(I)I"⟩ : MethodName) prog_20_method_6_code 2 (some .int) :: ws) ({ frames := 0, cells := 0, slots := 0, locals := 0 } : Room)) (fun a U => a = #[(.ref r0), (.int (2 : Int32))] ∧ Z.Warmed39 U.vm ∧ U.heap = h0) (fun _ _ _ _ _ => True) (fun _ U o U' => ∃ v L, o = .returned v ∧ Q3_2 Z r0 ar kk u0 u1 u2 h0 n0 v U'.heap L ∧ FrameEnd U o U' L ({ frames := 0, cells := 0, slots := 0, locals := 0 } : Room).cells ({ frames := 0, cells := 0, slots := 0, locals := 0 } : Room).slots) := by
  refine MetFree.of_bodySF (plainFor_of_name own_pn0) hisR ?_
  intro p e s m args below meth c s₁ Bd hml0 hP hK
  obtain ⟨rfl, hZ, hh⟩ := hP
  have hx := Bd.exec
  have hby := Bd.bytes
  have hml : c.maxLocals = 2 := hml0
  have hown : s.vm.findClass "com/example/poonji/poonji/CsvReader$Record" = some m.cls := findClass_of_methodNamed Bd.named
  have hnm := (name_of_methodNamed Bd.named Bd.method).1
  have X0 : Stand p l e ({ frames := 0, cells := 0, slots := 0, locals := 0 } : Room) s m #[(.ref r0), (.int (2 : Int32))] below meth c s₁ [] 0 0 := Stand.of_body Bd
  have e0 : s₁.heap = h0 := by rw [← hh, Bd.state]; rfl
  have N0 := Fr.nil n0
  show Good p e below (fun o U' => ∃ v L, o = .returned v ∧ Q3_2 Z r0 ar kk u0 u1 u2 h0 n0 v U'.heap L ∧ FrameEnd s o U' L ({ frames := 0, cells := 0, slots := 0, locals := 0 } : Room).cells ({ frames := 0, cells := 0, slots := 0, locals := 0 } : Room).slots) _
  refine Good.back (S' := s₁.setTop (mkF m 0 #[.val (.ref r0), .val (.int (2 : Int32))] [])) (fun t k => castTop (own_ef_3_2 m r0 (2 : Int32)) k) ?_
  show Good p e below _ (s₁.setTop (mkF m 0 #[.val (.ref r0), .val (.int (2 : Int32))] []))
  refine Good.back (fun _ k => XS.iloadN X0.here hx rfl (hb hby own_d3_0) rfl k) ?_
  show Good p e below _ (s₁.setTop (mkF m 1 #[.val (.ref r0), .val (.int (2 : Int32))] [(.int (2 : Int32))]))
  refine Good.back (fun _ k => XS.ifYes X0.here hx rfl (pc0 := 1) (pc' := 8) rfl (hb hby own_d3_1) rfl ((if0 _ _).trans (feq (by decide : ¬ ((2 : Int32) = (0 : Int32)))).2) (by decide) (by decide) k) ?_
  show Good p e below _ (s₁.setTop (mkF m 8 #[.val (.ref r0), .val (.int (2 : Int32))] []))
  refine Good.back (fun _ k => XS.aloadN X0.here hx rfl (hb hby own_d3_8) rfl rfl k) ?_
  show Good p e below _ (s₁.setTop (mkF m 9 #[.val (.ref r0), .val (.int (2 : Int32))] [(.ref r0)]))
  obtain ⟨T1, X1, e1, st1⟩ := getF X0 hx hZ hown (host := "") (Or.inl (hw _ (List.mem_of_getElem? (i := 15) rfl))) Via.refl e0 F0 (g := (mkF m 9 #[.val (.ref r0), .val (.int (2 : Int32))] [(.ref r0)])) rfl rfl (hb hby own_d3_9)
  refine Good.back st1 ?_
  show Good p e below _ (T1.setTop (mkF m 12 #[.val (.ref r0), .val (.int (2 : Int32))] [(.ref ar)]))
  refine Good.back (fun _ k => XS.iloadN X1.here hx rfl (hb hby own_d3_12) rfl k) ?_
  show Good p e below _ (T1.setTop (mkF m 13 #[.val (.ref r0), .val (.int (2 : Int32))] [(.int (2 : Int32)), (.ref ar)]))
  refine Good.back (fun _ k => XS.iconst X1.here hx rfl (hb hby own_d3_13) k) ?_
  show Good p e below _ (T1.setTop (mkF m 14 #[.val (.ref r0), .val (.int (2 : Int32))] [(.int (1 : Int32)), (.int (2 : Int32)), (.ref ar)]))
  refine Good.back (fun _ k => XS.isub X1.here hx rfl (hb hby own_d3_14) rfl k) ?_
  show Good p e below _ (T1.setTop (mkF m 15 #[.val (.ref r0), .val (.int (2 : Int32))] [(.int ((2 : Int32) - (1 : Int32))), (.ref ar)]))
  rw [show (((2 : Int32) - (1 : Int32)) : Int32) = (1 : Int32) from by decide]
  show Good p e below _ (T1.setTop (mkF m 15 #[.val (.ref r0), .val (.int (2 : Int32))] [(.int (1 : Int32)), (.ref ar)]))
  have fc2 := V0
  obtain ⟨cl2, Ar2, q2, S2, N2', H2, G2⟩ := fc2
  have hin2 : ¬ ((1 : Int32) < 0 ∨ cl2.slots.size ≤ ((1 : Int32)).toNatClampNeg) := inb_of S2 ⟨by decide, by decide⟩
  have hat2 : cl2.slots[((1 : Int32)).toNatClampNeg]? = some (.int u1) := Has.at H2 hin2 rfl
  refine Good.back (X1.iaload hx (j := (1 : Int32)) (v := (.int u1)) (by rw [e1]; exact Ar2.1) (State.isArrayOf_alike hZ.alike Ar2.2.1) Ar2.2.2 hin2 hat2 (g := (mkF m 15 #[.val (.ref r0), .val (.int (2 : Int32))] [(.int (1 : Int32)), (.ref ar)])) rfl rfl (hb hby own_d3_15)) ?_
  show Good p e below _ (T1.setTop (mkF m 16 #[.val (.ref r0), .val (.int (2 : Int32))] [(.int u1)]))
  refine Good.back (fun _ k => XS.iconst X1.here hx rfl (hb hby own_d3_16) k) ?_
  show Good p e below _ (T1.setTop (mkF m 17 #[.val (.ref r0), .val (.int (2 : Int32))] [(.int (1 : Int32)), (.int u1)]))
  refine Good.back (fun _ k => XS.iadd X1.here hx rfl (hb hby own_d3_17) rfl k) ?_
  show Good p e below _ (T1.setTop (mkF m 18 #[.val (.ref r0), .val (.int (2 : Int32))] [(.int (u1 + (1 : Int32)))]))
  obtain ⟨fs3, hr3, hrun3, hended3, hW3, hsame3⟩ := X1.leave (v := some (.int (u1 + (1 : Int32)))) (fun h => by rw [Bd.returns] at h; cases h)
  refine Good.done (retI X1 hx Bd.returns (hb hby own_d3_18) hr3) hrun3 hended3 ⟨_, _, rfl, ?_, ⟨_, rfl⟩, hW3, hsame3.mono (by decide) (by decide)⟩
  show Q3_2 Z r0 ar kk u0 u1 u2 h0 n0 _ T1.heap _
  rw [e1]
  exact ⟨rfl, N0, rfl⟩
theorem own_ef_4_2 (m : MethodId) (x0 : Addr) (x1 : Int32) : entryFrame m #[(.ref x0), (.int x1)] 2 = mkF m 0 #[.val (.ref x0), .val (.int x1)] [] := by first | (simp [entryFrame, mkF, argsToLocals, Value.category]; done) | rfl
def Q4_2 (Z : State) (r0 : Addr) (ar : Addr) (kk : ClassId) (u0 : Int32) (u1 : Int32) (u2 : Int32) (h0 : Heap) (n0 : Nat) (v : Option Value) (h : Heap) (L : List Loc) : Prop := v = some (.int u2) ∧ Fr n0 L ∧ h = h0
set_option maxRecDepth 65536 in
set_option maxHeartbeats 40000000 in
theorem rm4_2 (l : Launch) (Z : State) (a0 : Array Value) (hw : ∀ d ∈ tables_1, d.before a0 Z = true) (ws : List Jvm.Cond) (r0 : Addr) (ar : Addr) (kk : ClassId) (u0 : Int32) (u1 : Int32) (u2 : Int32) (h0 : Heap) (n0 : Nat) (Z0 : n0 ≤ h0.size) (F0 : Fld Z h0 r0 "com/example/poonji/poonji/CsvReader$Record" "ends" "[I" (.ref ar)) (V0 : Arv Z h0 ar kk .int (3 : Int32) [(.int u0), (.int u1), (.int u2)] (.int (0 : Int32))) :
    MetFree l (⟨"com/example/poonji/poonji/CsvReader$Record", "end", "(I)I"⟩ : MethodName) (head1 (Jvm.Cond.code (⟨"com/example/poonji/poonji/CsvReader$Record", "end", "(I)I"⟩ : MethodName) prog_20_method_7_code 2 (some .int) :: ws) ({ frames := 0, cells := 0, slots := 0, locals := 0 } : Room)) (fun a U => a = #[(.ref r0), (.int (2 : Int32))] ∧ Z.Warmed39 U.vm ∧ U.heap = h0) (fun _ _ _ _ _ => True) (fun _ U o U' => ∃ v L, o = .returned v ∧ Q4_2 Z r0 ar kk u0 u1 u2 h0 n0 v U'.heap L ∧ FrameEnd U o U' L ({ frames := 0, cells := 0, slots := 0, locals := 0 } : Room).cells ({ frames := 0, cells := 0, slots := 0, locals := 0 } : Room).slots) := by
  refine MetFree.of_bodySF (plainFor_of_name own_pn0) hisR ?_
  intro p e s m args below meth c s₁ Bd hml0 hP hK
  obtain ⟨rfl, hZ, hh⟩ := hP
  have hx := Bd.exec
  have hby := Bd.bytes
  have hml : c.maxLocals = 2 := hml0
  have hown : s.vm.findClass "com/example/poonji/poonji/CsvReader$Record" = some m.cls := findClass_of_methodNamed Bd.named
  have hnm := (name_of_methodNamed Bd.named Bd.method).1
  have X0 : Stand p l e ({ frames := 0, cells := 0, slots := 0, locals := 0 } : Room) s m #[(.ref r0), (.int (2 : Int32))] below meth c s₁ [] 0 0 := Stand.of_body Bd
  have e0 : s₁.heap = h0 := by rw [← hh, Bd.state]; rfl
  have N0 := Fr.nil n0
  show Good p e below (fun o U' => ∃ v L, o = .returned v ∧ Q4_2 Z r0 ar kk u0 u1 u2 h0 n0 v U'.heap L ∧ FrameEnd s o U' L ({ frames := 0, cells := 0, slots := 0, locals := 0 } : Room).cells ({ frames := 0, cells := 0, slots := 0, locals := 0 } : Room).slots) _
  refine Good.back (S' := s₁.setTop (mkF m 0 #[.val (.ref r0), .val (.int (2 : Int32))] [])) (fun t k => castTop (own_ef_4_2 m r0 (2 : Int32)) k) ?_
  show Good p e below _ (s₁.setTop (mkF m 0 #[.val (.ref r0), .val (.int (2 : Int32))] []))
  refine Good.back (fun _ k => XS.aloadN X0.here hx rfl (hb hby own_d4_0) rfl rfl k) ?_
  show Good p e below _ (s₁.setTop (mkF m 1 #[.val (.ref r0), .val (.int (2 : Int32))] [(.ref r0)]))
  obtain ⟨T1, X1, e1, st1⟩ := getF X0 hx hZ hown (host := "") (Or.inl (hw _ (List.mem_of_getElem? (i := 15) rfl))) Via.refl e0 F0 (g := (mkF m 1 #[.val (.ref r0), .val (.int (2 : Int32))] [(.ref r0)])) rfl rfl (hb hby own_d4_1)
  refine Good.back st1 ?_
  show Good p e below _ (T1.setTop (mkF m 4 #[.val (.ref r0), .val (.int (2 : Int32))] [(.ref ar)]))
  refine Good.back (fun _ k => XS.iloadN X1.here hx rfl (hb hby own_d4_4) rfl k) ?_
  show Good p e below _ (T1.setTop (mkF m 5 #[.val (.ref r0), .val (.int (2 : Int32))] [(.int (2 : Int32)), (.ref ar)]))
  have fc2 := V0
  obtain ⟨cl2, Ar2, q2, S2, N2', H2, G2⟩ := fc2
  have hin2 : ¬ ((2 : Int32) < 0 ∨ cl2.slots.size ≤ ((2 : Int32)).toNatClampNeg) := inb_of S2 ⟨by decide, by decide⟩
  have hat2 : cl2.slots[((2 : Int32)).toNatClampNeg]? = some (.int u2) := Has.at H2 hin2 rfl
  refine Good.back (X1.iaload hx (j := (2 : Int32)) (v := (.int u2)) (by rw [e1]; exact Ar2.1) (State.isArrayOf_alike hZ.alike Ar2.2.1) Ar2.2.2 hin2 hat2 (g := (mkF m 5 #[.val (.ref r0), .val (.int (2 : Int32))] [(.int (2 : Int32)), (.ref ar)])) rfl rfl (hb hby own_d4_5)) ?_
  show Good p e below _ (T1.setTop (mkF m 6 #[.val (.ref r0), .val (.int (2 : Int32))] [(.int u2)]))
  obtain ⟨fs3, hr3, hrun3, hended3, hW3, hsame3⟩ := X1.leave (v := some (.int u2)) (fun h => by rw [Bd.returns] at h; cases h)
  refine Good.done (retI X1 hx Bd.returns (hb hby own_d4_6) hr3) hrun3 hended3 ⟨_, _, rfl, ?_, ⟨_, rfl⟩, hW3, hsame3.mono (by decide) (by decide)⟩
  show Q4_2 Z r0 ar kk u0 u1 u2 h0 n0 _ T1.heap _
  rw [e1]
  exact ⟨rfl, N0, rfl⟩
theorem own_e1 (a b : Int32) : ((((a + 1) + b) + 1) : Int32) = ((a + b) + 2) := by
  have h1 := c_iadd a 1
  have h2 := c_iadd (a + 1) b
  have h3 := c_iadd ((a + 1) + b) 1
  have h4 := c_iadd a b
  have h5 := c_iadd (a + b) 2
  have k1 : (1 : Int32).toInt = 1 := rfl
  have k2 : (2 : Int32).toInt = 2 := rfl
  have r1 := rng32 (((a + 1) + b) + 1)
  have r2 := rng32 ((a + b) + 2)
  apply Int32.toInt_inj.mp
  omega
theorem own_e2 (a b : Int32) : ((a + b) - a : Int32) = b := by
  have h1 := c_iadd a b
  have h2 := c_isub (a + b) a
  have r1 := rng32 ((a + b) - a)
  have r2 := rng32 b
  apply Int32.toInt_inj.mp
  omega
theorem own_e0 (a : Int32) : (a - 0 : Int32) = a := by
  have h2 := c_isub a 0
  have k : (0 : Int32).toInt = 0 := rfl
  have r1 := rng32 (a - 0)
  have r2 := rng32 a
  apply Int32.toInt_inj.mp
  omega
theorem own_pd30 : parseMethodDescriptor "(J[C[I)V" = some ⟨[.long, (.array .char), (.array .int)], none⟩ := by decide +kernel
theorem own_pd31 : parseMethodDescriptor "(I)I" = some ⟨[.int], some .int⟩ := by decide +kernel
theorem own_pn1 : plainName "com/example/poonji/poonji/RecordStartPinLaw" = true := by first | (simp [plainName, overriddenIn]; done) | decide +kernel
theorem own_ef_0 (m : MethodId) (x0 : Int32) (x1 : Int32) (x2 : Int32) (x3 : Int64) : entryFrame m #[(.int x0), (.int x1), (.int x2), (.long x3)] maxLocals = mkF m 0 #[.val (.int x0), .val (.int x1), .val (.int x2), .val (.long x3), .second, .unset, .unset, .unset, .unset, .unset, .unset, .unset, .unset, .unset, .unset, .unset] [] := by first | (simp [entryFrame, mkF, argsToLocals, Value.category, maxLocals]; done) | rfl
def Q0 (Z : State) (p0 : Int32) (p1 : Int32) (p2 : Int32) (q3 : Int64) (h0 : Heap) (n0 : Nat) (v : Option Value) (h : Heap) (L : List Loc) : Prop := v = some (.int 1) ∧ Fr n0 L
set_option maxRecDepth 65536 in
set_option maxHeartbeats 40000000 in
theorem rm0 (l : Launch) (Z : State) (a0 : Array Value) (hw : ∀ d ∈ tables_1, d.before a0 Z = true) (ws : List Jvm.Cond) (p0 : Int32) (p1 : Int32) (p2 : Int32) (q3 : Int64) (h0 : Heap) (n0 : Nat) (Z0 : n0 ≤ h0.size)  :
    MetFree l x (head1 (Jvm.Cond.code x code maxLocals ret :: ws) room_1) (fun a U => a = #[(.int p0), (.int p1), (.int p2), (.long q3)] ∧ Z.Warmed39 U.vm ∧ U.heap = h0) (fun _ _ _ _ _ => True) (fun _ U o U' => ∃ v L, o = .returned v ∧ Q0 Z p0 p1 p2 q3 h0 n0 v U'.heap L ∧ FrameEnd U o U' L 16 128) := by
  refine MetFree.of_bodySF (plainFor_of_name own_pn1) hisR ?_
  intro p e s m args below meth c s₁ Bd hml0 hP hK
  obtain ⟨rfl, hZ, hh⟩ := hP
  have hx := Bd.exec
  have hby := Bd.bytes
  have hml : c.maxLocals = 16 := hml0
  have hown : s.vm.findClass "com/example/poonji/poonji/RecordStartPinLaw" = some m.cls := findClass_of_methodNamed Bd.named
  have hnm := (name_of_methodNamed Bd.named Bd.method).1
  have X0 : Stand p l e room_1 s m #[(.int p0), (.int p1), (.int p2), (.long q3)] below meth c s₁ [] 0 0 := Stand.of_body Bd
  have e0 : s₁.heap = h0 := by rw [← hh, Bd.state]; rfl
  have N0 := Fr.nil n0
  show Good p e below (fun o U' => ∃ v L, o = .returned v ∧ Q0 Z p0 p1 p2 q3 h0 n0 v U'.heap L ∧ FrameEnd s o U' L 16 128) _
  refine Good.back (S' := s₁.setTop (mkF m 0 #[.val (.int p0), .val (.int p1), .val (.int p2), .val (.long q3), .second, .unset, .unset, .unset, .unset, .unset, .unset, .unset, .unset, .unset, .unset, .unset] [])) (fun t k => castTop (own_ef_0 m p0 p1 p2 q3) k) ?_
  show Good p e below _ (s₁.setTop (mkF m 0 #[.val (.int p0), .val (.int p1), .val (.int p2), .val (.long q3), .second, .unset, .unset, .unset, .unset, .unset, .unset, .unset, .unset, .unset, .unset, .unset] []))
  refine Good.back (fun _ k => XS.iloadN X0.here hx rfl (hb hby at_0) rfl k) ?_
  show Good p e below _ (s₁.setTop (mkF m 1 #[.val (.int p0), .val (.int p1), .val (.int p2), .val (.long q3), .second, .unset, .unset, .unset, .unset, .unset, .unset, .unset, .unset, .unset, .unset, .unset] [(.int p0)]))
  refine Good.back (fun _ k => XS.bipush X0.here hx rfl (hb hby at_1) k) ?_
  show Good p e below _ (s₁.setTop (mkF m 3 #[.val (.int p0), .val (.int p1), .val (.int p2), .val (.long q3), .second, .unset, .unset, .unset, .unset, .unset, .unset, .unset, .unset, .unset, .unset, .unset] [(.int (7 : Int32)), (.int p0)]))
  refine Good.back (fun _ k => XS.iand X0.here hx rfl (hb hby at_3) rfl k) ?_
  show Good p e below _ (s₁.setTop (mkF m 4 #[.val (.int p0), .val (.int p1), .val (.int p2), .val (.long q3), .second, .unset, .unset, .unset, .unset, .unset, .unset, .unset, .unset, .unset, .unset, .unset] [(.int (p0 &&& (7 : Int32)))]))
  refine Good.back (fun _ k => XS.istore X0.here hx rfl (hb hby at_4) rfl (l' := #[.val (.int p0), .val (.int p1), .val (.int p2), .val (.long q3), .second, .val (.int (p0 &&& (7 : Int32))), .unset, .unset, .unset, .unset, .unset, .unset, .unset, .unset, .unset, .unset]) rfl k) ?_
  show Good p e below _ (s₁.setTop (mkF m 6 #[.val (.int p0), .val (.int p1), .val (.int p2), .val (.long q3), .second, .val (.int (p0 &&& (7 : Int32))), .unset, .unset, .unset, .unset, .unset, .unset, .unset, .unset, .unset, .unset] []))
  obtain ⟨aa, haa⟩ : ∃ z, z = (p0 &&& (7 : Int32)) := ⟨_, rfl⟩
  rw [← haa]
  show Good p e below _ (s₁.setTop (mkF m 6 #[.val (.int p0), .val (.int p1), .val (.int p2), .val (.long q3), .second, .val (.int aa), .unset, .unset, .unset, .unset, .unset, .unset, .unset, .unset, .unset, .unset] []))
  refine Good.back (fun _ k => XS.iloadN X0.here hx rfl (hb hby at_6) rfl k) ?_
  show Good p e below _ (s₁.setTop (mkF m 7 #[.val (.int p0), .val (.int p1), .val (.int p2), .val (.long q3), .second, .val (.int aa), .unset, .unset, .unset, .unset, .unset, .unset, .unset, .unset, .unset, .unset] [(.int p1)]))
  refine Good.back (fun _ k => XS.bipush X0.here hx rfl (hb hby at_7) k) ?_
  show Good p e below _ (s₁.setTop (mkF m 9 #[.val (.int p0), .val (.int p1), .val (.int p2), .val (.long q3), .second, .val (.int aa), .unset, .unset, .unset, .unset, .unset, .unset, .unset, .unset, .unset, .unset] [(.int (7 : Int32)), (.int p1)]))
  refine Good.back (fun _ k => XS.iand X0.here hx rfl (hb hby at_9) rfl k) ?_
  show Good p e below _ (s₁.setTop (mkF m 10 #[.val (.int p0), .val (.int p1), .val (.int p2), .val (.long q3), .second, .val (.int aa), .unset, .unset, .unset, .unset, .unset, .unset, .unset, .unset, .unset, .unset] [(.int (p1 &&& (7 : Int32)))]))
  refine Good.back (fun _ k => XS.istore X0.here hx rfl (hb hby at_10) rfl (l' := #[.val (.int p0), .val (.int p1), .val (.int p2), .val (.long q3), .second, .val (.int aa), .val (.int (p1 &&& (7 : Int32))), .unset, .unset, .unset, .unset, .unset, .unset, .unset, .unset, .unset]) rfl k) ?_
  show Good p e below _ (s₁.setTop (mkF m 12 #[.val (.int p0), .val (.int p1), .val (.int p2), .val (.long q3), .second, .val (.int aa), .val (.int (p1 &&& (7 : Int32))), .unset, .unset, .unset, .unset, .unset, .unset, .unset, .unset, .unset] []))
  obtain ⟨bb, hbb⟩ : ∃ z, z = (p1 &&& (7 : Int32)) := ⟨_, rfl⟩
  rw [← hbb]
  show Good p e below _ (s₁.setTop (mkF m 12 #[.val (.int p0), .val (.int p1), .val (.int p2), .val (.long q3), .second, .val (.int aa), .val (.int bb), .unset, .unset, .unset, .unset, .unset, .unset, .unset, .unset, .unset] []))
  refine Good.back (fun _ k => XS.iloadN X0.here hx rfl (hb hby at_12) rfl k) ?_
  show Good p e below _ (s₁.setTop (mkF m 13 #[.val (.int p0), .val (.int p1), .val (.int p2), .val (.long q3), .second, .val (.int aa), .val (.int bb), .unset, .unset, .unset, .unset, .unset, .unset, .unset, .unset, .unset] [(.int p2)]))
  refine Good.back (fun _ k => XS.bipush X0.here hx rfl (hb hby at_13) k) ?_
  show Good p e below _ (s₁.setTop (mkF m 15 #[.val (.int p0), .val (.int p1), .val (.int p2), .val (.long q3), .second, .val (.int aa), .val (.int bb), .unset, .unset, .unset, .unset, .unset, .unset, .unset, .unset, .unset] [(.int (7 : Int32)), (.int p2)]))
  refine Good.back (fun _ k => XS.iand X0.here hx rfl (hb hby at_15) rfl k) ?_
  show Good p e below _ (s₁.setTop (mkF m 16 #[.val (.int p0), .val (.int p1), .val (.int p2), .val (.long q3), .second, .val (.int aa), .val (.int bb), .unset, .unset, .unset, .unset, .unset, .unset, .unset, .unset, .unset] [(.int (p2 &&& (7 : Int32)))]))
  refine Good.back (fun _ k => XS.istore X0.here hx rfl (hb hby at_16) rfl (l' := #[.val (.int p0), .val (.int p1), .val (.int p2), .val (.long q3), .second, .val (.int aa), .val (.int bb), .val (.int (p2 &&& (7 : Int32))), .unset, .unset, .unset, .unset, .unset, .unset, .unset, .unset]) rfl k) ?_
  show Good p e below _ (s₁.setTop (mkF m 18 #[.val (.int p0), .val (.int p1), .val (.int p2), .val (.long q3), .second, .val (.int aa), .val (.int bb), .val (.int (p2 &&& (7 : Int32))), .unset, .unset, .unset, .unset, .unset, .unset, .unset, .unset] []))
  obtain ⟨cc, hcc⟩ : ∃ z, z = (p2 &&& (7 : Int32)) := ⟨_, rfl⟩
  rw [← hcc]
  show Good p e below _ (s₁.setTop (mkF m 18 #[.val (.int p0), .val (.int p1), .val (.int p2), .val (.long q3), .second, .val (.int aa), .val (.int bb), .val (.int cc), .unset, .unset, .unset, .unset, .unset, .unset, .unset, .unset] []))
  refine Good.back (fun _ k => XS.iconst X0.here hx rfl (hb hby at_18) k) ?_
  show Good p e below _ (s₁.setTop (mkF m 19 #[.val (.int p0), .val (.int p1), .val (.int p2), .val (.long q3), .second, .val (.int aa), .val (.int bb), .val (.int cc), .unset, .unset, .unset, .unset, .unset, .unset, .unset, .unset] [(.int (3 : Int32))]))
  obtain ⟨T1, h1, k1, X1, e1, E1, A1, st1⟩ := newP X0 hx hZ (hw _ (List.mem_of_getElem? (i := 0) rfl)) e0 (g := (mkF m 19 #[.val (.int p0), .val (.int p1), .val (.int p2), .val (.long q3), .second, .val (.int aa), .val (.int bb), .val (.int cc), .unset, .unset, .unset, .unset, .unset, .unset, .unset, .unset] [(.int (3 : Int32))])) rfl (hb hby at_19) rfl (by decide) (cap := 3) (by decide) (by decide) (by decide) (by decide)
  obtain ⟨b1, g1⟩ : ∃ z, z = h0.size := ⟨_, rfl⟩
  rw [← g1] at A1 st1
  refine Good.back st1 ?_
  have g_b1 : n0 ≤ b1 := Nat.le_trans Z0 (Nat.le_of_eq g1.symm)
  have Z2 : n0 ≤ h1.size := Nat.le_trans Z0 E1.1
  have f_3 : Arv Z h1 b1 k1 .int (3 : Int32) [(.int (0 : Int32)), (.int (0 : Int32)), (.int (0 : Int32))] (.int (0 : Int32)) := (Arv.new A1 (by decide)).pad (pad_rep [] (.int (0 : Int32)) 3)
  show Good p e below _ (T1.setTop (mkF m 21 #[.val (.int p0), .val (.int p1), .val (.int p2), .val (.long q3), .second, .val (.int aa), .val (.int bb), .val (.int cc), .unset, .unset, .unset, .unset, .unset, .unset, .unset, .unset] [(.ref b1)]))
  refine Good.back (fun _ k => XS.astore X1.here hx rfl (hb hby at_21) rfl rfl (l' := #[.val (.int p0), .val (.int p1), .val (.int p2), .val (.long q3), .second, .val (.int aa), .val (.int bb), .val (.int cc), .val (.ref b1), .unset, .unset, .unset, .unset, .unset, .unset, .unset]) rfl k) ?_
  show Good p e below _ (T1.setTop (mkF m 23 #[.val (.int p0), .val (.int p1), .val (.int p2), .val (.long q3), .second, .val (.int aa), .val (.int bb), .val (.int cc), .val (.ref b1), .unset, .unset, .unset, .unset, .unset, .unset, .unset] []))
  refine Good.back (fun _ k => XS.aload X1.here hx rfl (hb hby at_23) rfl rfl k) ?_
  show Good p e below _ (T1.setTop (mkF m 25 #[.val (.int p0), .val (.int p1), .val (.int p2), .val (.long q3), .second, .val (.int aa), .val (.int bb), .val (.int cc), .val (.ref b1), .unset, .unset, .unset, .unset, .unset, .unset, .unset] [(.ref b1)]))
  refine Good.back (fun _ k => XS.iconst X1.here hx rfl (hb hby at_25) k) ?_
  show Good p e below _ (T1.setTop (mkF m 26 #[.val (.int p0), .val (.int p1), .val (.int p2), .val (.long q3), .second, .val (.int aa), .val (.int bb), .val (.int cc), .val (.ref b1), .unset, .unset, .unset, .unset, .unset, .unset, .unset] [(.int (0 : Int32)), (.ref b1)]))
  refine Good.back (fun _ k => XS.iload X1.here hx rfl (hb hby at_26) rfl k) ?_
  show Good p e below _ (T1.setTop (mkF m 28 #[.val (.int p0), .val (.int p1), .val (.int p2), .val (.long q3), .second, .val (.int aa), .val (.int bb), .val (.int cc), .val (.ref b1), .unset, .unset, .unset, .unset, .unset, .unset, .unset] [(.int aa), (.int (0 : Int32)), (.ref b1)]))
  have fc4 := f_3
  obtain ⟨cl4, Ar4, q4, S4, N4', H4, G4⟩ := fc4
  have hin4 : ¬ ((0 : Int32) < 0 ∨ cl4.slots.size ≤ ((0 : Int32)).toNatClampNeg) := inb_of S4 ⟨by decide, by decide⟩
  obtain ⟨T4, h4, X4, e4, W4, st4⟩ := stI X1 hx hZ e1 Ar4 (j := (0 : Int32)) hin4 (g := (mkF m 28 #[.val (.int p0), .val (.int p1), .val (.int p2), .val (.long q3), .second, .val (.int aa), .val (.int bb), .val (.int cc), .val (.ref b1), .unset, .unset, .unset, .unset, .unset, .unset, .unset] [(.int aa), (.int (0 : Int32)), (.ref b1)])) rfl rfl (hb hby at_28)
  refine Good.back st4 ?_
  have f_5 : Arv Z h4 b1 k1 .int (3 : Int32) [(.int aa), (.int (0 : Int32)), (.int (0 : Int32))] (.int (0 : Int32)) := Arv.set Ar4 q4 S4 N4' H4 G4 rfl W4 0 rfl (Nat.le_of_ble_eq_true rfl)
  have N4 := Fr.snoc X4 N0 g_b1
  have Z6 : n0 ≤ h4.size := Nat.le_trans Z2 (Keep.of_wr W4).1
  show Good p e below _ (T4.setTop (mkF m 29 #[.val (.int p0), .val (.int p1), .val (.int p2), .val (.long q3), .second, .val (.int aa), .val (.int bb), .val (.int cc), .val (.ref b1), .unset, .unset, .unset, .unset, .unset, .unset, .unset] []))
  refine Good.back (fun _ k => XS.aload X4.here hx rfl (hb hby at_29) rfl rfl k) ?_
  show Good p e below _ (T4.setTop (mkF m 31 #[.val (.int p0), .val (.int p1), .val (.int p2), .val (.long q3), .second, .val (.int aa), .val (.int bb), .val (.int cc), .val (.ref b1), .unset, .unset, .unset, .unset, .unset, .unset, .unset] [(.ref b1)]))
  refine Good.back (fun _ k => XS.iconst X4.here hx rfl (hb hby at_31) k) ?_
  show Good p e below _ (T4.setTop (mkF m 32 #[.val (.int p0), .val (.int p1), .val (.int p2), .val (.long q3), .second, .val (.int aa), .val (.int bb), .val (.int cc), .val (.ref b1), .unset, .unset, .unset, .unset, .unset, .unset, .unset] [(.int (1 : Int32)), (.ref b1)]))
  refine Good.back (fun _ k => XS.iload X4.here hx rfl (hb hby at_32) rfl k) ?_
  show Good p e below _ (T4.setTop (mkF m 34 #[.val (.int p0), .val (.int p1), .val (.int p2), .val (.long q3), .second, .val (.int aa), .val (.int bb), .val (.int cc), .val (.ref b1), .unset, .unset, .unset, .unset, .unset, .unset, .unset] [(.int aa), (.int (1 : Int32)), (.ref b1)]))
  refine Good.back (fun _ k => XS.iconst X4.here hx rfl (hb hby at_34) k) ?_
  show Good p e below _ (T4.setTop (mkF m 35 #[.val (.int p0), .val (.int p1), .val (.int p2), .val (.long q3), .second, .val (.int aa), .val (.int bb), .val (.int cc), .val (.ref b1), .unset, .unset, .unset, .unset, .unset, .unset, .unset] [(.int (1 : Int32)), (.int aa), (.int (1 : Int32)), (.ref b1)]))
  refine Good.back (fun _ k => XS.iadd X4.here hx rfl (hb hby at_35) rfl k) ?_
  show Good p e below _ (T4.setTop (mkF m 36 #[.val (.int p0), .val (.int p1), .val (.int p2), .val (.long q3), .second, .val (.int aa), .val (.int bb), .val (.int cc), .val (.ref b1), .unset, .unset, .unset, .unset, .unset, .unset, .unset] [(.int (aa + (1 : Int32))), (.int (1 : Int32)), (.ref b1)]))
  refine Good.back (fun _ k => XS.iload X4.here hx rfl (hb hby at_36) rfl k) ?_
  show Good p e below _ (T4.setTop (mkF m 38 #[.val (.int p0), .val (.int p1), .val (.int p2), .val (.long q3), .second, .val (.int aa), .val (.int bb), .val (.int cc), .val (.ref b1), .unset, .unset, .unset, .unset, .unset, .unset, .unset] [(.int bb), (.int (aa + (1 : Int32))), (.int (1 : Int32)), (.ref b1)]))
  refine Good.back (fun _ k => XS.iadd X4.here hx rfl (hb hby at_38) rfl k) ?_
  show Good p e below _ (T4.setTop (mkF m 39 #[.val (.int p0), .val (.int p1), .val (.int p2), .val (.long q3), .second, .val (.int aa), .val (.int bb), .val (.int cc), .val (.ref b1), .unset, .unset, .unset, .unset, .unset, .unset, .unset] [(.int ((aa + (1 : Int32)) + bb)), (.int (1 : Int32)), (.ref b1)]))
  have fc7 := f_5
  obtain ⟨cl7, Ar7, q7, S7, N7', H7, G7⟩ := fc7
  have hin7 : ¬ ((1 : Int32) < 0 ∨ cl7.slots.size ≤ ((1 : Int32)).toNatClampNeg) := inb_of S7 ⟨by decide, by decide⟩
  obtain ⟨T7, h7, X7, e7, W7, st7⟩ := stI X4 hx hZ e4 Ar7 (j := (1 : Int32)) hin7 (g := (mkF m 39 #[.val (.int p0), .val (.int p1), .val (.int p2), .val (.long q3), .second, .val (.int aa), .val (.int bb), .val (.int cc), .val (.ref b1), .unset, .unset, .unset, .unset, .unset, .unset, .unset] [(.int ((aa + (1 : Int32)) + bb)), (.int (1 : Int32)), (.ref b1)])) rfl rfl (hb hby at_39)
  refine Good.back st7 ?_
  have f_8 : Arv Z h7 b1 k1 .int (3 : Int32) [(.int aa), (.int ((aa + (1 : Int32)) + bb)), (.int (0 : Int32))] (.int (0 : Int32)) := Arv.set Ar7 q7 S7 N7' H7 G7 rfl W7 1 rfl (Nat.le_of_ble_eq_true rfl)
  have N7 := Fr.snoc X7 N4 g_b1
  have Z9 : n0 ≤ h7.size := Nat.le_trans Z6 (Keep.of_wr W7).1
  show Good p e below _ (T7.setTop (mkF m 40 #[.val (.int p0), .val (.int p1), .val (.int p2), .val (.long q3), .second, .val (.int aa), .val (.int bb), .val (.int cc), .val (.ref b1), .unset, .unset, .unset, .unset, .unset, .unset, .unset] []))
  refine Good.back (fun _ k => XS.aload X7.here hx rfl (hb hby at_40) rfl rfl k) ?_
  show Good p e below _ (T7.setTop (mkF m 42 #[.val (.int p0), .val (.int p1), .val (.int p2), .val (.long q3), .second, .val (.int aa), .val (.int bb), .val (.int cc), .val (.ref b1), .unset, .unset, .unset, .unset, .unset, .unset, .unset] [(.ref b1)]))
  refine Good.back (fun _ k => XS.iconst X7.here hx rfl (hb hby at_42) k) ?_
  show Good p e below _ (T7.setTop (mkF m 43 #[.val (.int p0), .val (.int p1), .val (.int p2), .val (.long q3), .second, .val (.int aa), .val (.int bb), .val (.int cc), .val (.ref b1), .unset, .unset, .unset, .unset, .unset, .unset, .unset] [(.int (2 : Int32)), (.ref b1)]))
  refine Good.back (fun _ k => XS.iload X7.here hx rfl (hb hby at_43) rfl k) ?_
  show Good p e below _ (T7.setTop (mkF m 45 #[.val (.int p0), .val (.int p1), .val (.int p2), .val (.long q3), .second, .val (.int aa), .val (.int bb), .val (.int cc), .val (.ref b1), .unset, .unset, .unset, .unset, .unset, .unset, .unset] [(.int aa), (.int (2 : Int32)), (.ref b1)]))
  refine Good.back (fun _ k => XS.iconst X7.here hx rfl (hb hby at_45) k) ?_
  show Good p e below _ (T7.setTop (mkF m 46 #[.val (.int p0), .val (.int p1), .val (.int p2), .val (.long q3), .second, .val (.int aa), .val (.int bb), .val (.int cc), .val (.ref b1), .unset, .unset, .unset, .unset, .unset, .unset, .unset] [(.int (1 : Int32)), (.int aa), (.int (2 : Int32)), (.ref b1)]))
  refine Good.back (fun _ k => XS.iadd X7.here hx rfl (hb hby at_46) rfl k) ?_
  show Good p e below _ (T7.setTop (mkF m 47 #[.val (.int p0), .val (.int p1), .val (.int p2), .val (.long q3), .second, .val (.int aa), .val (.int bb), .val (.int cc), .val (.ref b1), .unset, .unset, .unset, .unset, .unset, .unset, .unset] [(.int (aa + (1 : Int32))), (.int (2 : Int32)), (.ref b1)]))
  refine Good.back (fun _ k => XS.iload X7.here hx rfl (hb hby at_47) rfl k) ?_
  show Good p e below _ (T7.setTop (mkF m 49 #[.val (.int p0), .val (.int p1), .val (.int p2), .val (.long q3), .second, .val (.int aa), .val (.int bb), .val (.int cc), .val (.ref b1), .unset, .unset, .unset, .unset, .unset, .unset, .unset] [(.int bb), (.int (aa + (1 : Int32))), (.int (2 : Int32)), (.ref b1)]))
  refine Good.back (fun _ k => XS.iadd X7.here hx rfl (hb hby at_49) rfl k) ?_
  show Good p e below _ (T7.setTop (mkF m 50 #[.val (.int p0), .val (.int p1), .val (.int p2), .val (.long q3), .second, .val (.int aa), .val (.int bb), .val (.int cc), .val (.ref b1), .unset, .unset, .unset, .unset, .unset, .unset, .unset] [(.int ((aa + (1 : Int32)) + bb)), (.int (2 : Int32)), (.ref b1)]))
  refine Good.back (fun _ k => XS.iconst X7.here hx rfl (hb hby at_50) k) ?_
  show Good p e below _ (T7.setTop (mkF m 51 #[.val (.int p0), .val (.int p1), .val (.int p2), .val (.long q3), .second, .val (.int aa), .val (.int bb), .val (.int cc), .val (.ref b1), .unset, .unset, .unset, .unset, .unset, .unset, .unset] [(.int (1 : Int32)), (.int ((aa + (1 : Int32)) + bb)), (.int (2 : Int32)), (.ref b1)]))
  refine Good.back (fun _ k => XS.iadd X7.here hx rfl (hb hby at_51) rfl k) ?_
  show Good p e below _ (T7.setTop (mkF m 52 #[.val (.int p0), .val (.int p1), .val (.int p2), .val (.long q3), .second, .val (.int aa), .val (.int bb), .val (.int cc), .val (.ref b1), .unset, .unset, .unset, .unset, .unset, .unset, .unset] [(.int (((aa + (1 : Int32)) + bb) + (1 : Int32))), (.int (2 : Int32)), (.ref b1)]))
  refine Good.back (fun _ k => XS.iload X7.here hx rfl (hb hby at_52) rfl k) ?_
  show Good p e below _ (T7.setTop (mkF m 54 #[.val (.int p0), .val (.int p1), .val (.int p2), .val (.long q3), .second, .val (.int aa), .val (.int bb), .val (.int cc), .val (.ref b1), .unset, .unset, .unset, .unset, .unset, .unset, .unset] [(.int cc), (.int (((aa + (1 : Int32)) + bb) + (1 : Int32))), (.int (2 : Int32)), (.ref b1)]))
  refine Good.back (fun _ k => XS.iadd X7.here hx rfl (hb hby at_54) rfl k) ?_
  show Good p e below _ (T7.setTop (mkF m 55 #[.val (.int p0), .val (.int p1), .val (.int p2), .val (.long q3), .second, .val (.int aa), .val (.int bb), .val (.int cc), .val (.ref b1), .unset, .unset, .unset, .unset, .unset, .unset, .unset] [(.int ((((aa + (1 : Int32)) + bb) + (1 : Int32)) + cc)), (.int (2 : Int32)), (.ref b1)]))
  have fc10 := f_8
  obtain ⟨cl10, Ar10, q10, S10, N10', H10, G10⟩ := fc10
  have hin10 : ¬ ((2 : Int32) < 0 ∨ cl10.slots.size ≤ ((2 : Int32)).toNatClampNeg) := inb_of S10 ⟨by decide, by decide⟩
  obtain ⟨T10, h10, X10, e10, W10, st10⟩ := stI X7 hx hZ e7 Ar10 (j := (2 : Int32)) hin10 (g := (mkF m 55 #[.val (.int p0), .val (.int p1), .val (.int p2), .val (.long q3), .second, .val (.int aa), .val (.int bb), .val (.int cc), .val (.ref b1), .unset, .unset, .unset, .unset, .unset, .unset, .unset] [(.int ((((aa + (1 : Int32)) + bb) + (1 : Int32)) + cc)), (.int (2 : Int32)), (.ref b1)])) rfl rfl (hb hby at_55)
  refine Good.back st10 ?_
  have f_11 : Arv Z h10 b1 k1 .int (3 : Int32) [(.int aa), (.int ((aa + (1 : Int32)) + bb)), (.int ((((aa + (1 : Int32)) + bb) + (1 : Int32)) + cc))] (.int (0 : Int32)) := Arv.set Ar10 q10 S10 N10' H10 G10 rfl W10 2 rfl (Nat.le_of_ble_eq_true rfl)
  have N10 := Fr.snoc X10 N7 g_b1
  have Z12 : n0 ≤ h10.size := Nat.le_trans Z9 (Keep.of_wr W10).1
  show Good p e below _ (T10.setTop (mkF m 56 #[.val (.int p0), .val (.int p1), .val (.int p2), .val (.long q3), .second, .val (.int aa), .val (.int bb), .val (.int cc), .val (.ref b1), .unset, .unset, .unset, .unset, .unset, .unset, .unset] []))
  refine Good.back (fun _ k => XS.bipush X10.here hx rfl (hb hby at_56) k) ?_
  show Good p e below _ (T10.setTop (mkF m 58 #[.val (.int p0), .val (.int p1), .val (.int p2), .val (.long q3), .second, .val (.int aa), .val (.int bb), .val (.int cc), .val (.ref b1), .unset, .unset, .unset, .unset, .unset, .unset, .unset] [(.int (24 : Int32))]))
  obtain ⟨T13, h13, k13, X13, e13, E13, A13, st13⟩ := newP X10 hx hZ (hw _ (List.mem_of_getElem? (i := 1) rfl)) e10 (g := (mkF m 58 #[.val (.int p0), .val (.int p1), .val (.int p2), .val (.long q3), .second, .val (.int aa), .val (.int bb), .val (.int cc), .val (.ref b1), .unset, .unset, .unset, .unset, .unset, .unset, .unset] [(.int (24 : Int32))])) rfl (hb hby at_58) rfl (by decide) (cap := 24) (by decide) (by decide) (by decide) (by decide)
  obtain ⟨b13, g13⟩ : ∃ z, z = h10.size := ⟨_, rfl⟩
  rw [← g13] at A13 st13
  refine Good.back st13 ?_
  have g_b13 : n0 ≤ b13 := Nat.le_trans Z12 (Nat.le_of_eq g13.symm)
  have Z14 : n0 ≤ h13.size := Nat.le_trans Z12 E13.1
  have f_15 : Arv Z h13 b13 k13 .char (24 : Int32) [(.int (0 : Int32)), (.int (0 : Int32)), (.int (0 : Int32)), (.int (0 : Int32)), (.int (0 : Int32)), (.int (0 : Int32)), (.int (0 : Int32)), (.int (0 : Int32)), (.int (0 : Int32)), (.int (0 : Int32)), (.int (0 : Int32)), (.int (0 : Int32)), (.int (0 : Int32)), (.int (0 : Int32)), (.int (0 : Int32)), (.int (0 : Int32)), (.int (0 : Int32)), (.int (0 : Int32)), (.int (0 : Int32)), (.int (0 : Int32)), (.int (0 : Int32)), (.int (0 : Int32)), (.int (0 : Int32)), (.int (0 : Int32))] (.int (0 : Int32)) := (Arv.new A13 (by decide)).pad (pad_rep [] (.int (0 : Int32)) 24)
  show Good p e below _ (T13.setTop (mkF m 60 #[.val (.int p0), .val (.int p1), .val (.int p2), .val (.long q3), .second, .val (.int aa), .val (.int bb), .val (.int cc), .val (.ref b1), .unset, .unset, .unset, .unset, .unset, .unset, .unset] [(.ref b13)]))
  refine Good.back (fun _ k => XS.astore X13.here hx rfl (hb hby at_60) rfl rfl (l' := #[.val (.int p0), .val (.int p1), .val (.int p2), .val (.long q3), .second, .val (.int aa), .val (.int bb), .val (.int cc), .val (.ref b1), .val (.ref b13), .unset, .unset, .unset, .unset, .unset, .unset]) rfl k) ?_
  show Good p e below _ (T13.setTop (mkF m 62 #[.val (.int p0), .val (.int p1), .val (.int p2), .val (.long q3), .second, .val (.int aa), .val (.int bb), .val (.int cc), .val (.ref b1), .val (.ref b13), .unset, .unset, .unset, .unset, .unset, .unset] []))
  obtain ⟨T16, h16, X16, e16, E16, A16, D16, -, st16⟩ := newO X13 hx hZ hown (hw _ (List.mem_of_getElem? (i := 2) rfl)) (hw _ (List.mem_of_getElem? (i := 3) rfl)) (hw _ (List.mem_of_getElem? (i := 4) rfl)) e13 (g := (mkF m 62 #[.val (.int p0), .val (.int p1), .val (.int p2), .val (.long q3), .second, .val (.int aa), .val (.int bb), .val (.int cc), .val (.ref b1), .val (.ref b13), .unset, .unset, .unset, .unset, .unset, .unset] [])) rfl (hb hby at_62) (by decide) (by decide)
  obtain ⟨b16, g16⟩ : ∃ z, z = h13.size := ⟨_, rfl⟩
  rw [← g16] at A16 D16 st16
  refine Good.back st16 ?_
  have g_b16 : n0 ≤ b16 := Nat.le_trans Z14 (Nat.le_of_eq g16.symm)
  have Z17 : n0 ≤ h16.size := Nat.le_trans Z14 E16.1
  have f_18 : Exa Z h16 b16 "com/example/poonji/poonji/CsvReader$Record" := A16
  have f_19 : Fld Z h16 b16 "com/example/poonji/poonji/CsvReader$Record" "line" "J" (.long (0 : Int64)) := D16 (Or.inr (hw _ (List.mem_of_getElem? (i := 12) rfl))) (ty := .long) (by decide)
  have f_20 : Fld Z h16 b16 "com/example/poonji/poonji/CsvReader$Record" "characters" "[C" .null := D16 (Or.inr (hw _ (List.mem_of_getElem? (i := 14) rfl))) (ty := (.array .char)) (by decide)
  have f_21 : Fld Z h16 b16 "com/example/poonji/poonji/CsvReader$Record" "ends" "[I" .null := D16 (Or.inr (hw _ (List.mem_of_getElem? (i := 16) rfl))) (ty := (.array .int)) (by decide)
  show Good p e below _ (T16.setTop (mkF m 65 #[.val (.int p0), .val (.int p1), .val (.int p2), .val (.long q3), .second, .val (.int aa), .val (.int bb), .val (.int cc), .val (.ref b1), .val (.ref b13), .unset, .unset, .unset, .unset, .unset, .unset] [(.ref b16)]))
  refine Good.back (fun _ k => XS.dup X16.here hx rfl (hb hby at_65) rfl rfl k) ?_
  show Good p e below _ (T16.setTop (mkF m 66 #[.val (.int p0), .val (.int p1), .val (.int p2), .val (.long q3), .second, .val (.int aa), .val (.int bb), .val (.int cc), .val (.ref b1), .val (.ref b13), .unset, .unset, .unset, .unset, .unset, .unset] [(.ref b16), (.ref b16)]))
  refine Good.back (fun _ k => XS.lloadN X16.here hx rfl (hb hby at_66) rfl k) ?_
  show Good p e below _ (T16.setTop (mkF m 67 #[.val (.int p0), .val (.int p1), .val (.int p2), .val (.long q3), .second, .val (.int aa), .val (.int bb), .val (.int cc), .val (.ref b1), .val (.ref b13), .unset, .unset, .unset, .unset, .unset, .unset] [(.long q3), (.ref b16), (.ref b16)]))
  refine Good.back (fun _ k => XS.aload X16.here hx rfl (hb hby at_67) rfl rfl k) ?_
  show Good p e below _ (T16.setTop (mkF m 69 #[.val (.int p0), .val (.int p1), .val (.int p2), .val (.long q3), .second, .val (.int aa), .val (.int bb), .val (.int cc), .val (.ref b1), .val (.ref b13), .unset, .unset, .unset, .unset, .unset, .unset] [(.ref b13), (.long q3), (.ref b16), (.ref b16)]))
  refine Good.back (fun _ k => XS.aload X16.here hx rfl (hb hby at_69) rfl rfl k) ?_
  show Good p e below _ (T16.setTop (mkF m 71 #[.val (.int p0), .val (.int p1), .val (.int p2), .val (.long q3), .second, .val (.int aa), .val (.int bb), .val (.int cc), .val (.ref b1), .val (.ref b13), .unset, .unset, .unset, .unset, .unset, .unset] [(.ref b1), (.ref b13), (.long q3), (.ref b16), (.ref b16)]))
  obtain ⟨_, _, ⟨T22, L22, k22, n22⟩, -, X22, ⟨Lc22, hQ22, l22, y22, z22⟩, st22⟩ := X16.specialBack hx (y := (⟨"com/example/poonji/poonji/CsvReader$Record", "<init>", "(J[C[I)V"⟩ : MethodName)) rfl hown (mvT hZ (hw _ (List.mem_of_getElem? (i := 5) rfl))) (mvT hZ (hw _ (List.mem_of_getElem? (i := 6) rfl))) (mvT hZ (hw _ (List.mem_of_getElem? (i := 7) rfl))) (by decide) (backOf (W := 1) (rm1 l Z a0 hw [] b16 q3 b13 b1  h16 n0 Z17 f_18 g_b16 f_19 f_20 f_21) hZ (hw _ (List.mem_of_getElem? (i := 7) rfl)) (hw _ (List.mem_of_getElem? (i := 4) rfl)) (by decide) (by decide)) (g := (mkF m 71 #[.val (.int p0), .val (.int p1), .val (.int p2), .val (.long q3), .second, .val (.int aa), .val (.int bb), .val (.int cc), .val (.ref b1), .val (.ref b13), .unset, .unset, .unset, .unset, .unset, .unset] [(.ref b1), (.ref b13), (.long q3), (.ref b16), (.ref b16)])) rfl (by rw [hml]; rfl) (Steps.refl _) (a := b16) (argsL := [(.long q3), (.ref b13), (.ref b1)]) (rest := [(.ref b16)]) (lenOf own_pd30 rfl) rfl (by show 2 * 0 + _ ≤ _; exact Nat.le_of_eq rfl) (hb hby at_71) (fun _ _ => ⟨rfl, e16, (by decide : 3 + 0 ≤ _), (by decide : 30 + 0 ≤ _)⟩)
  dsimp only [Pt.U, Pt.locs, Pt.cells, Pt.slots] at X22 l22 y22 z22 st22 hQ22
  subst l22 y22 z22
  obtain ⟨rfl, N22q, Kq22, o22_0⟩ := hQ22
  have N22 := Fr.app N10 N22q
  have Z23 : n0 ≤ T22.heap.size := Nat.le_trans Z17 Kq22.1
  refine Good.back (fun _ k => st22.trans k) ?_
  show Good p e below _ (T22.setTop (mkF m 74 #[.val (.int p0), .val (.int p1), .val (.int p2), .val (.long q3), .second, .val (.int aa), .val (.int bb), .val (.int cc), .val (.ref b1), .val (.ref b13), .unset, .unset, .unset, .unset, .unset, .unset] [(.ref b16)]))
  refine Good.back (fun _ k => XS.astore X22.here hx rfl (hb hby at_74) rfl rfl (l' := #[.val (.int p0), .val (.int p1), .val (.int p2), .val (.long q3), .second, .val (.int aa), .val (.int bb), .val (.int cc), .val (.ref b1), .val (.ref b13), .val (.ref b16), .unset, .unset, .unset, .unset, .unset]) rfl k) ?_
  show Good p e below _ (T22.setTop (mkF m 76 #[.val (.int p0), .val (.int p1), .val (.int p2), .val (.long q3), .second, .val (.int aa), .val (.int bb), .val (.int cc), .val (.ref b1), .val (.ref b13), .val (.ref b16), .unset, .unset, .unset, .unset, .unset] []))
  refine Good.back (fun _ k => XS.aload X22.here hx rfl (hb hby at_76) rfl rfl k) ?_
  show Good p e below _ (T22.setTop (mkF m 78 #[.val (.int p0), .val (.int p1), .val (.int p2), .val (.long q3), .second, .val (.int aa), .val (.int bb), .val (.int cc), .val (.ref b1), .val (.ref b13), .val (.ref b16), .unset, .unset, .unset, .unset, .unset] [(.ref b16)]))
  refine Good.back (fun _ k => XS.iconst X22.here hx rfl (hb hby at_78) k) ?_
  show Good p e below _ (T22.setTop (mkF m 79 #[.val (.int p0), .val (.int p1), .val (.int p2), .val (.long q3), .second, .val (.int aa), .val (.int bb), .val (.int cc), .val (.ref b1), .val (.ref b13), .val (.ref b16), .unset, .unset, .unset, .unset, .unset] [(.int (0 : Int32)), (.ref b16)]))
  have f_25 : Arv Z h13 b1 k1 .int (3 : Int32) [(.int aa), (.int ((aa + (1 : Int32)) + bb)), (.int ((((aa + (1 : Int32)) + bb) + (1 : Int32)) + cc))] (.int (0 : Int32)) := Arv.ext f_11 E13
  have f_26 : Arv Z h16 b1 k1 .int (3 : Int32) [(.int aa), (.int ((aa + (1 : Int32)) + bb)), (.int ((((aa + (1 : Int32)) + bb) + (1 : Int32)) + cc))] (.int (0 : Int32)) := Arv.ext f_25 E16
  have f_28 : Arv Z h13 b1 k1 .int (3 : Int32) [(.int aa), (.int ((aa + (1 : Int32)) + bb)), (.int ((((aa + (1 : Int32)) + bb) + (1 : Int32)) + cc))] (.int (0 : Int32)) := Arv.ext f_11 E13
  have ne_b1_b16_29 : b1 ≠ b16 := Nat.ne_of_lt (Nat.lt_of_lt_of_le f_28.lt (Nat.le_of_eq g16.symm))
  have f_27 : Arv Z T22.heap b1 k1 .int (3 : Int32) [(.int aa), (.int ((aa + (1 : Int32)) + bb)), (.int ((((aa + (1 : Int32)) + bb) + (1 : Int32)) + cc))] (.int (0 : Int32)) := Arv.keep f_26 Kq22 (ninS ne_b1_b16_29 nin0)
  have f_30 : Exa Z T22.heap b16 "com/example/poonji/poonji/CsvReader$Record" := Exa.keep f_18 Kq22
  obtain ⟨cq24, kq24, q24a, q24b, q24c⟩ := isOf hZ rfl f_30
  obtain ⟨_, _, ⟨T24, L24, k24, n24⟩, -, X24, ⟨Lc24, hQ24, l24, y24, z24⟩, st24⟩ := X22.virtualBack hx (y := (⟨"com/example/poonji/poonji/CsvReader$Record", "start", "(I)I"⟩ : MethodName)) (z := (⟨"com/example/poonji/poonji/CsvReader$Record", "start", "(I)I"⟩ : MethodName)) hown (mvT hZ (hw _ (List.mem_of_getElem? (i := 17) rfl))) (mvT hZ (hw _ (List.mem_of_getElem? (i := 18) rfl))) (notFace_of_selects (args := #[]) (mvT hZ (hw _ (List.mem_of_getElem? (i := 20) rfl)))) (mvT hZ (hw _ (List.mem_of_getElem? (i := 20) rfl))) (mvT hZ (hw _ (List.mem_of_getElem? (i := 19) rfl))) (by decide) (backOf (W := 0) (rm3_0 l Z a0 hw [] b16 b1 k1 aa ((aa + (1 : Int32)) + bb) ((((aa + (1 : Int32)) + bb) + (1 : Int32)) + cc) T22.heap n0 Z23 o22_0 f_27) hZ (hw _ (List.mem_of_getElem? (i := 21) rfl)) (hw _ (List.mem_of_getElem? (i := 4) rfl)) (by decide) (by decide)) q24a q24c (g := (mkF m 79 #[.val (.int p0), .val (.int p1), .val (.int p2), .val (.long q3), .second, .val (.int aa), .val (.int bb), .val (.int cc), .val (.ref b1), .val (.ref b13), .val (.ref b16), .unset, .unset, .unset, .unset, .unset] [(.int (0 : Int32)), (.ref b16)])) rfl (by rw [hml]; rfl) (Steps.refl _) (argsL := [(.int (0 : Int32))]) (rest := []) (lenOf own_pd31 rfl) rfl (by show 2 * 0 + _ ≤ _; exact Nat.le_of_eq rfl) (hb hby at_79) (fun _ _ => ⟨rfl, rfl, (by decide : 3 + 0 ≤ _), (by decide : 30 + 0 ≤ _)⟩)
  dsimp only [Pt.U, Pt.locs, Pt.cells, Pt.slots] at X24 l24 y24 z24 st24 hQ24
  subst l24 y24 z24
  obtain ⟨rfl, N24q, eh24⟩ := hQ24
  have N24 := Fr.app N22 N24q
  refine Good.back (fun _ k => st24.trans k) ?_
  show Good p e below _ (T24.setTop (mkF m 82 #[.val (.int p0), .val (.int p1), .val (.int p2), .val (.long q3), .second, .val (.int aa), .val (.int bb), .val (.int cc), .val (.ref b1), .val (.ref b13), .val (.ref b16), .unset, .unset, .unset, .unset, .unset] [(.int (0 : Int32))]))
  refine Good.back (fun _ k => XS.istore X24.here hx rfl (hb hby at_82) rfl (l' := #[.val (.int p0), .val (.int p1), .val (.int p2), .val (.long q3), .second, .val (.int aa), .val (.int bb), .val (.int cc), .val (.ref b1), .val (.ref b13), .val (.ref b16), .val (.int (0 : Int32)), .unset, .unset, .unset, .unset]) rfl k) ?_
  show Good p e below _ (T24.setTop (mkF m 84 #[.val (.int p0), .val (.int p1), .val (.int p2), .val (.long q3), .second, .val (.int aa), .val (.int bb), .val (.int cc), .val (.ref b1), .val (.ref b13), .val (.ref b16), .val (.int (0 : Int32)), .unset, .unset, .unset, .unset] []))
  refine Good.back (fun _ k => XS.aload X24.here hx rfl (hb hby at_84) rfl rfl k) ?_
  show Good p e below _ (T24.setTop (mkF m 86 #[.val (.int p0), .val (.int p1), .val (.int p2), .val (.long q3), .second, .val (.int aa), .val (.int bb), .val (.int cc), .val (.ref b1), .val (.ref b13), .val (.ref b16), .val (.int (0 : Int32)), .unset, .unset, .unset, .unset] [(.ref b16)]))
  refine Good.back (fun _ k => XS.iconst X24.here hx rfl (hb hby at_86) k) ?_
  show Good p e below _ (T24.setTop (mkF m 87 #[.val (.int p0), .val (.int p1), .val (.int p2), .val (.long q3), .second, .val (.int aa), .val (.int bb), .val (.int cc), .val (.ref b1), .val (.ref b13), .val (.ref b16), .val (.int (0 : Int32)), .unset, .unset, .unset, .unset] [(.int (1 : Int32)), (.ref b16)]))
  obtain ⟨cq31, kq31, q31a, q31b, q31c⟩ := isOf hZ eh24 f_30
  obtain ⟨_, _, ⟨T31, L31, k31, n31⟩, -, X31, ⟨Lc31, hQ31, l31, y31, z31⟩, st31⟩ := X24.virtualBack hx (y := (⟨"com/example/poonji/poonji/CsvReader$Record", "start", "(I)I"⟩ : MethodName)) (z := (⟨"com/example/poonji/poonji/CsvReader$Record", "start", "(I)I"⟩ : MethodName)) hown (mvT hZ (hw _ (List.mem_of_getElem? (i := 17) rfl))) (mvT hZ (hw _ (List.mem_of_getElem? (i := 18) rfl))) (notFace_of_selects (args := #[]) (mvT hZ (hw _ (List.mem_of_getElem? (i := 20) rfl)))) (mvT hZ (hw _ (List.mem_of_getElem? (i := 20) rfl))) (mvT hZ (hw _ (List.mem_of_getElem? (i := 19) rfl))) (by decide) (backOf (W := 0) (rm3_1 l Z a0 hw [] b16 b1 k1 aa ((aa + (1 : Int32)) + bb) ((((aa + (1 : Int32)) + bb) + (1 : Int32)) + cc) T22.heap n0 Z23 o22_0 f_27) hZ (hw _ (List.mem_of_getElem? (i := 21) rfl)) (hw _ (List.mem_of_getElem? (i := 4) rfl)) (by decide) (by decide)) q31a q31c (g := (mkF m 87 #[.val (.int p0), .val (.int p1), .val (.int p2), .val (.long q3), .second, .val (.int aa), .val (.int bb), .val (.int cc), .val (.ref b1), .val (.ref b13), .val (.ref b16), .val (.int (0 : Int32)), .unset, .unset, .unset, .unset] [(.int (1 : Int32)), (.ref b16)])) rfl (by rw [hml]; rfl) (Steps.refl _) (argsL := [(.int (1 : Int32))]) (rest := []) (lenOf own_pd31 rfl) rfl (by show 2 * 0 + _ ≤ _; exact Nat.le_of_eq rfl) (hb hby at_87) (fun _ _ => ⟨rfl, eh24, (by decide : 3 + 0 ≤ _), (by decide : 30 + 0 ≤ _)⟩)
  dsimp only [Pt.U, Pt.locs, Pt.cells, Pt.slots] at X31 l31 y31 z31 st31 hQ31
  subst l31 y31 z31
  obtain ⟨rfl, N31q, eh31⟩ := hQ31
  have N31 := Fr.app N24 N31q
  refine Good.back (fun _ k => st31.trans k) ?_
  show Good p e below _ (T31.setTop (mkF m 90 #[.val (.int p0), .val (.int p1), .val (.int p2), .val (.long q3), .second, .val (.int aa), .val (.int bb), .val (.int cc), .val (.ref b1), .val (.ref b13), .val (.ref b16), .val (.int (0 : Int32)), .unset, .unset, .unset, .unset] [(.int (aa + (1 : Int32)))]))
  refine Good.back (fun _ k => XS.istore X31.here hx rfl (hb hby at_90) rfl (l' := #[.val (.int p0), .val (.int p1), .val (.int p2), .val (.long q3), .second, .val (.int aa), .val (.int bb), .val (.int cc), .val (.ref b1), .val (.ref b13), .val (.ref b16), .val (.int (0 : Int32)), .val (.int (aa + (1 : Int32))), .unset, .unset, .unset]) rfl k) ?_
  show Good p e below _ (T31.setTop (mkF m 92 #[.val (.int p0), .val (.int p1), .val (.int p2), .val (.long q3), .second, .val (.int aa), .val (.int bb), .val (.int cc), .val (.ref b1), .val (.ref b13), .val (.ref b16), .val (.int (0 : Int32)), .val (.int (aa + (1 : Int32))), .unset, .unset, .unset] []))
  refine Good.back (fun _ k => XS.aload X31.here hx rfl (hb hby at_92) rfl rfl k) ?_
  show Good p e below _ (T31.setTop (mkF m 94 #[.val (.int p0), .val (.int p1), .val (.int p2), .val (.long q3), .second, .val (.int aa), .val (.int bb), .val (.int cc), .val (.ref b1), .val (.ref b13), .val (.ref b16), .val (.int (0 : Int32)), .val (.int (aa + (1 : Int32))), .unset, .unset, .unset] [(.ref b16)]))
  refine Good.back (fun _ k => XS.iconst X31.here hx rfl (hb hby at_94) k) ?_
  show Good p e below _ (T31.setTop (mkF m 95 #[.val (.int p0), .val (.int p1), .val (.int p2), .val (.long q3), .second, .val (.int aa), .val (.int bb), .val (.int cc), .val (.ref b1), .val (.ref b13), .val (.ref b16), .val (.int (0 : Int32)), .val (.int (aa + (1 : Int32))), .unset, .unset, .unset] [(.int (2 : Int32)), (.ref b16)]))
  obtain ⟨cq32, kq32, q32a, q32b, q32c⟩ := isOf hZ eh31 f_30
  obtain ⟨_, _, ⟨T32, L32, k32, n32⟩, -, X32, ⟨Lc32, hQ32, l32, y32, z32⟩, st32⟩ := X31.virtualBack hx (y := (⟨"com/example/poonji/poonji/CsvReader$Record", "start", "(I)I"⟩ : MethodName)) (z := (⟨"com/example/poonji/poonji/CsvReader$Record", "start", "(I)I"⟩ : MethodName)) hown (mvT hZ (hw _ (List.mem_of_getElem? (i := 17) rfl))) (mvT hZ (hw _ (List.mem_of_getElem? (i := 18) rfl))) (notFace_of_selects (args := #[]) (mvT hZ (hw _ (List.mem_of_getElem? (i := 20) rfl)))) (mvT hZ (hw _ (List.mem_of_getElem? (i := 20) rfl))) (mvT hZ (hw _ (List.mem_of_getElem? (i := 19) rfl))) (by decide) (backOf (W := 0) (rm3_2 l Z a0 hw [] b16 b1 k1 aa ((aa + (1 : Int32)) + bb) ((((aa + (1 : Int32)) + bb) + (1 : Int32)) + cc) T22.heap n0 Z23 o22_0 f_27) hZ (hw _ (List.mem_of_getElem? (i := 21) rfl)) (hw _ (List.mem_of_getElem? (i := 4) rfl)) (by decide) (by decide)) q32a q32c (g := (mkF m 95 #[.val (.int p0), .val (.int p1), .val (.int p2), .val (.long q3), .second, .val (.int aa), .val (.int bb), .val (.int cc), .val (.ref b1), .val (.ref b13), .val (.ref b16), .val (.int (0 : Int32)), .val (.int (aa + (1 : Int32))), .unset, .unset, .unset] [(.int (2 : Int32)), (.ref b16)])) rfl (by rw [hml]; rfl) (Steps.refl _) (argsL := [(.int (2 : Int32))]) (rest := []) (lenOf own_pd31 rfl) rfl (by show 2 * 0 + _ ≤ _; exact Nat.le_of_eq rfl) (hb hby at_95) (fun _ _ => ⟨rfl, eh31, (by decide : 3 + 0 ≤ _), (by decide : 30 + 0 ≤ _)⟩)
  dsimp only [Pt.U, Pt.locs, Pt.cells, Pt.slots] at X32 l32 y32 z32 st32 hQ32
  subst l32 y32 z32
  obtain ⟨rfl, N32q, eh32⟩ := hQ32
  have N32 := Fr.app N31 N32q
  refine Good.back (fun _ k => st32.trans k) ?_
  show Good p e below _ (T32.setTop (mkF m 98 #[.val (.int p0), .val (.int p1), .val (.int p2), .val (.long q3), .second, .val (.int aa), .val (.int bb), .val (.int cc), .val (.ref b1), .val (.ref b13), .val (.ref b16), .val (.int (0 : Int32)), .val (.int (aa + (1 : Int32))), .unset, .unset, .unset] [(.int (((aa + (1 : Int32)) + bb) + (1 : Int32)))]))
  refine Good.back (fun _ k => XS.istore X32.here hx rfl (hb hby at_98) rfl (l' := #[.val (.int p0), .val (.int p1), .val (.int p2), .val (.long q3), .second, .val (.int aa), .val (.int bb), .val (.int cc), .val (.ref b1), .val (.ref b13), .val (.ref b16), .val (.int (0 : Int32)), .val (.int (aa + (1 : Int32))), .val (.int (((aa + (1 : Int32)) + bb) + (1 : Int32))), .unset, .unset]) rfl k) ?_
  show Good p e below _ (T32.setTop (mkF m 100 #[.val (.int p0), .val (.int p1), .val (.int p2), .val (.long q3), .second, .val (.int aa), .val (.int bb), .val (.int cc), .val (.ref b1), .val (.ref b13), .val (.ref b16), .val (.int (0 : Int32)), .val (.int (aa + (1 : Int32))), .val (.int (((aa + (1 : Int32)) + bb) + (1 : Int32))), .unset, .unset] []))
  refine Good.back (fun _ k => XS.iload X32.here hx rfl (hb hby at_100) rfl k) ?_
  show Good p e below _ (T32.setTop (mkF m 102 #[.val (.int p0), .val (.int p1), .val (.int p2), .val (.long q3), .second, .val (.int aa), .val (.int bb), .val (.int cc), .val (.ref b1), .val (.ref b13), .val (.ref b16), .val (.int (0 : Int32)), .val (.int (aa + (1 : Int32))), .val (.int (((aa + (1 : Int32)) + bb) + (1 : Int32))), .unset, .unset] [(.int (0 : Int32))]))
  refine Good.back (fun _ k => XS.ifNo X32.here hx rfl (hb hby at_102) rfl ((if0 _ _).trans (teq (by decide : ((0 : Int32) = (0 : Int32)))).2) k) ?_
  show Good p e below _ (T32.setTop (mkF m 105 #[.val (.int p0), .val (.int p1), .val (.int p2), .val (.long q3), .second, .val (.int aa), .val (.int bb), .val (.int cc), .val (.ref b1), .val (.ref b13), .val (.ref b16), .val (.int (0 : Int32)), .val (.int (aa + (1 : Int32))), .val (.int (((aa + (1 : Int32)) + bb) + (1 : Int32))), .unset, .unset] []))
  refine Good.back (fun _ k => XS.iload X32.here hx rfl (hb hby at_105) rfl k) ?_
  show Good p e below _ (T32.setTop (mkF m 107 #[.val (.int p0), .val (.int p1), .val (.int p2), .val (.long q3), .second, .val (.int aa), .val (.int bb), .val (.int cc), .val (.ref b1), .val (.ref b13), .val (.ref b16), .val (.int (0 : Int32)), .val (.int (aa + (1 : Int32))), .val (.int (((aa + (1 : Int32)) + bb) + (1 : Int32))), .unset, .unset] [(.int (aa + (1 : Int32)))]))
  refine Good.back (fun _ k => XS.iload X32.here hx rfl (hb hby at_107) rfl k) ?_
  show Good p e below _ (T32.setTop (mkF m 109 #[.val (.int p0), .val (.int p1), .val (.int p2), .val (.long q3), .second, .val (.int aa), .val (.int bb), .val (.int cc), .val (.ref b1), .val (.ref b13), .val (.ref b16), .val (.int (0 : Int32)), .val (.int (aa + (1 : Int32))), .val (.int (((aa + (1 : Int32)) + bb) + (1 : Int32))), .unset, .unset] [(.int aa), (.int (aa + (1 : Int32)))]))
  refine Good.back (fun _ k => XS.iconst X32.here hx rfl (hb hby at_109) k) ?_
  show Good p e below _ (T32.setTop (mkF m 110 #[.val (.int p0), .val (.int p1), .val (.int p2), .val (.long q3), .second, .val (.int aa), .val (.int bb), .val (.int cc), .val (.ref b1), .val (.ref b13), .val (.ref b16), .val (.int (0 : Int32)), .val (.int (aa + (1 : Int32))), .val (.int (((aa + (1 : Int32)) + bb) + (1 : Int32))), .unset, .unset] [(.int (1 : Int32)), (.int aa), (.int (aa + (1 : Int32)))]))
  refine Good.back (fun _ k => XS.iadd X32.here hx rfl (hb hby at_110) rfl k) ?_
  show Good p e below _ (T32.setTop (mkF m 111 #[.val (.int p0), .val (.int p1), .val (.int p2), .val (.long q3), .second, .val (.int aa), .val (.int bb), .val (.int cc), .val (.ref b1), .val (.ref b13), .val (.ref b16), .val (.int (0 : Int32)), .val (.int (aa + (1 : Int32))), .val (.int (((aa + (1 : Int32)) + bb) + (1 : Int32))), .unset, .unset] [(.int (aa + (1 : Int32))), (.int (aa + (1 : Int32)))]))
  refine Good.back (fun _ k => XS.icmpNo X32.here hx rfl (hb hby at_111) rfl (teq (rfl : (aa + (1 : Int32)) = (aa + (1 : Int32)))).2 k) ?_
  show Good p e below _ (T32.setTop (mkF m 114 #[.val (.int p0), .val (.int p1), .val (.int p2), .val (.long q3), .second, .val (.int aa), .val (.int bb), .val (.int cc), .val (.ref b1), .val (.ref b13), .val (.ref b16), .val (.int (0 : Int32)), .val (.int (aa + (1 : Int32))), .val (.int (((aa + (1 : Int32)) + bb) + (1 : Int32))), .unset, .unset] []))
  refine Good.back (fun _ k => XS.iload X32.here hx rfl (hb hby at_114) rfl k) ?_
  show Good p e below _ (T32.setTop (mkF m 116 #[.val (.int p0), .val (.int p1), .val (.int p2), .val (.long q3), .second, .val (.int aa), .val (.int bb), .val (.int cc), .val (.ref b1), .val (.ref b13), .val (.ref b16), .val (.int (0 : Int32)), .val (.int (aa + (1 : Int32))), .val (.int (((aa + (1 : Int32)) + bb) + (1 : Int32))), .unset, .unset] [(.int (((aa + (1 : Int32)) + bb) + (1 : Int32)))]))
  refine Good.back (fun _ k => XS.iload X32.here hx rfl (hb hby at_116) rfl k) ?_
  show Good p e below _ (T32.setTop (mkF m 118 #[.val (.int p0), .val (.int p1), .val (.int p2), .val (.long q3), .second, .val (.int aa), .val (.int bb), .val (.int cc), .val (.ref b1), .val (.ref b13), .val (.ref b16), .val (.int (0 : Int32)), .val (.int (aa + (1 : Int32))), .val (.int (((aa + (1 : Int32)) + bb) + (1 : Int32))), .unset, .unset] [(.int aa), (.int (((aa + (1 : Int32)) + bb) + (1 : Int32)))]))
  refine Good.back (fun _ k => XS.iload X32.here hx rfl (hb hby at_118) rfl k) ?_
  show Good p e below _ (T32.setTop (mkF m 120 #[.val (.int p0), .val (.int p1), .val (.int p2), .val (.long q3), .second, .val (.int aa), .val (.int bb), .val (.int cc), .val (.ref b1), .val (.ref b13), .val (.ref b16), .val (.int (0 : Int32)), .val (.int (aa + (1 : Int32))), .val (.int (((aa + (1 : Int32)) + bb) + (1 : Int32))), .unset, .unset] [(.int bb), (.int aa), (.int (((aa + (1 : Int32)) + bb) + (1 : Int32)))]))
  refine Good.back (fun _ k => XS.iadd X32.here hx rfl (hb hby at_120) rfl k) ?_
  show Good p e below _ (T32.setTop (mkF m 121 #[.val (.int p0), .val (.int p1), .val (.int p2), .val (.long q3), .second, .val (.int aa), .val (.int bb), .val (.int cc), .val (.ref b1), .val (.ref b13), .val (.ref b16), .val (.int (0 : Int32)), .val (.int (aa + (1 : Int32))), .val (.int (((aa + (1 : Int32)) + bb) + (1 : Int32))), .unset, .unset] [(.int (aa + bb)), (.int (((aa + (1 : Int32)) + bb) + (1 : Int32)))]))
  refine Good.back (fun _ k => XS.iconst X32.here hx rfl (hb hby at_121) k) ?_
  show Good p e below _ (T32.setTop (mkF m 122 #[.val (.int p0), .val (.int p1), .val (.int p2), .val (.long q3), .second, .val (.int aa), .val (.int bb), .val (.int cc), .val (.ref b1), .val (.ref b13), .val (.ref b16), .val (.int (0 : Int32)), .val (.int (aa + (1 : Int32))), .val (.int (((aa + (1 : Int32)) + bb) + (1 : Int32))), .unset, .unset] [(.int (2 : Int32)), (.int (aa + bb)), (.int (((aa + (1 : Int32)) + bb) + (1 : Int32)))]))
  refine Good.back (fun _ k => XS.iadd X32.here hx rfl (hb hby at_122) rfl k) ?_
  show Good p e below _ (T32.setTop (mkF m 123 #[.val (.int p0), .val (.int p1), .val (.int p2), .val (.long q3), .second, .val (.int aa), .val (.int bb), .val (.int cc), .val (.ref b1), .val (.ref b13), .val (.ref b16), .val (.int (0 : Int32)), .val (.int (aa + (1 : Int32))), .val (.int (((aa + (1 : Int32)) + bb) + (1 : Int32))), .unset, .unset] [(.int ((aa + bb) + (2 : Int32))), (.int (((aa + (1 : Int32)) + bb) + (1 : Int32)))]))
  refine Good.back (fun _ k => XS.icmpNo X32.here hx rfl (hb hby at_123) rfl (teq (own_e1 aa bb : (((aa + (1 : Int32)) + bb) + (1 : Int32)) = ((aa + bb) + (2 : Int32)))).2 k) ?_
  show Good p e below _ (T32.setTop (mkF m 126 #[.val (.int p0), .val (.int p1), .val (.int p2), .val (.long q3), .second, .val (.int aa), .val (.int bb), .val (.int cc), .val (.ref b1), .val (.ref b13), .val (.ref b16), .val (.int (0 : Int32)), .val (.int (aa + (1 : Int32))), .val (.int (((aa + (1 : Int32)) + bb) + (1 : Int32))), .unset, .unset] []))
  refine Good.back (fun _ k => XS.iconst X32.here hx rfl (hb hby at_126) k) ?_
  show Good p e below _ (T32.setTop (mkF m 127 #[.val (.int p0), .val (.int p1), .val (.int p2), .val (.long q3), .second, .val (.int aa), .val (.int bb), .val (.int cc), .val (.ref b1), .val (.ref b13), .val (.ref b16), .val (.int (0 : Int32)), .val (.int (aa + (1 : Int32))), .val (.int (((aa + (1 : Int32)) + bb) + (1 : Int32))), .unset, .unset] [(.int (1 : Int32))]))
  refine Good.back (fun _ k => XS.goto X32.here hx rfl (pc0 := 127) (pc' := 131) rfl (hb hby at_127) (by decide) (by decide) k) ?_
  show Good p e below _ (T32.setTop (mkF m 131 #[.val (.int p0), .val (.int p1), .val (.int p2), .val (.long q3), .second, .val (.int aa), .val (.int bb), .val (.int cc), .val (.ref b1), .val (.ref b13), .val (.ref b16), .val (.int (0 : Int32)), .val (.int (aa + (1 : Int32))), .val (.int (((aa + (1 : Int32)) + bb) + (1 : Int32))), .unset, .unset] [(.int (1 : Int32))]))
  refine Good.back (fun _ k => XS.istore X32.here hx rfl (hb hby at_131) rfl (l' := #[.val (.int p0), .val (.int p1), .val (.int p2), .val (.long q3), .second, .val (.int aa), .val (.int bb), .val (.int cc), .val (.ref b1), .val (.ref b13), .val (.ref b16), .val (.int (0 : Int32)), .val (.int (aa + (1 : Int32))), .val (.int (((aa + (1 : Int32)) + bb) + (1 : Int32))), .val (.int (1 : Int32)), .unset]) rfl k) ?_
  show Good p e below _ (T32.setTop (mkF m 133 #[.val (.int p0), .val (.int p1), .val (.int p2), .val (.long q3), .second, .val (.int aa), .val (.int bb), .val (.int cc), .val (.ref b1), .val (.ref b13), .val (.ref b16), .val (.int (0 : Int32)), .val (.int (aa + (1 : Int32))), .val (.int (((aa + (1 : Int32)) + bb) + (1 : Int32))), .val (.int (1 : Int32)), .unset] []))
  refine Good.back (fun _ k => XS.aload X32.here hx rfl (hb hby at_133) rfl rfl k) ?_
  show Good p e below _ (T32.setTop (mkF m 135 #[.val (.int p0), .val (.int p1), .val (.int p2), .val (.long q3), .second, .val (.int aa), .val (.int bb), .val (.int cc), .val (.ref b1), .val (.ref b13), .val (.ref b16), .val (.int (0 : Int32)), .val (.int (aa + (1 : Int32))), .val (.int (((aa + (1 : Int32)) + bb) + (1 : Int32))), .val (.int (1 : Int32)), .unset] [(.ref b16)]))
  refine Good.back (fun _ k => XS.iconst X32.here hx rfl (hb hby at_135) k) ?_
  show Good p e below _ (T32.setTop (mkF m 136 #[.val (.int p0), .val (.int p1), .val (.int p2), .val (.long q3), .second, .val (.int aa), .val (.int bb), .val (.int cc), .val (.ref b1), .val (.ref b13), .val (.ref b16), .val (.int (0 : Int32)), .val (.int (aa + (1 : Int32))), .val (.int (((aa + (1 : Int32)) + bb) + (1 : Int32))), .val (.int (1 : Int32)), .unset] [(.int (0 : Int32)), (.ref b16)]))
  obtain ⟨cq33, kq33, q33a, q33b, q33c⟩ := isOf hZ eh32 f_30
  obtain ⟨_, _, ⟨T33, L33, k33, n33⟩, -, X33, ⟨Lc33, hQ33, l33, y33, z33⟩, st33⟩ := X32.virtualBack hx (y := (⟨"com/example/poonji/poonji/CsvReader$Record", "end", "(I)I"⟩ : MethodName)) (z := (⟨"com/example/poonji/poonji/CsvReader$Record", "end", "(I)I"⟩ : MethodName)) hown (mvT hZ (hw _ (List.mem_of_getElem? (i := 22) rfl))) (mvT hZ (hw _ (List.mem_of_getElem? (i := 23) rfl))) (notFace_of_selects (args := #[]) (mvT hZ (hw _ (List.mem_of_getElem? (i := 25) rfl)))) (mvT hZ (hw _ (List.mem_of_getElem? (i := 25) rfl))) (mvT hZ (hw _ (List.mem_of_getElem? (i := 24) rfl))) (by decide) (backOf (W := 0) (rm4_0 l Z a0 hw [] b16 b1 k1 aa ((aa + (1 : Int32)) + bb) ((((aa + (1 : Int32)) + bb) + (1 : Int32)) + cc) T22.heap n0 Z23 o22_0 f_27) hZ (hw _ (List.mem_of_getElem? (i := 26) rfl)) (hw _ (List.mem_of_getElem? (i := 4) rfl)) (by decide) (by decide)) q33a q33c (g := (mkF m 136 #[.val (.int p0), .val (.int p1), .val (.int p2), .val (.long q3), .second, .val (.int aa), .val (.int bb), .val (.int cc), .val (.ref b1), .val (.ref b13), .val (.ref b16), .val (.int (0 : Int32)), .val (.int (aa + (1 : Int32))), .val (.int (((aa + (1 : Int32)) + bb) + (1 : Int32))), .val (.int (1 : Int32)), .unset] [(.int (0 : Int32)), (.ref b16)])) rfl (by rw [hml]; rfl) (Steps.refl _) (argsL := [(.int (0 : Int32))]) (rest := []) (lenOf own_pd31 rfl) rfl (by show 2 * 0 + _ ≤ _; exact Nat.le_of_eq rfl) (hb hby at_136) (fun _ _ => ⟨rfl, eh32, (by decide : 3 + 0 ≤ _), (by decide : 30 + 0 ≤ _)⟩)
  dsimp only [Pt.U, Pt.locs, Pt.cells, Pt.slots] at X33 l33 y33 z33 st33 hQ33
  subst l33 y33 z33
  obtain ⟨rfl, N33q, eh33⟩ := hQ33
  have N33 := Fr.app N32 N33q
  refine Good.back (fun _ k => st33.trans k) ?_
  show Good p e below _ (T33.setTop (mkF m 139 #[.val (.int p0), .val (.int p1), .val (.int p2), .val (.long q3), .second, .val (.int aa), .val (.int bb), .val (.int cc), .val (.ref b1), .val (.ref b13), .val (.ref b16), .val (.int (0 : Int32)), .val (.int (aa + (1 : Int32))), .val (.int (((aa + (1 : Int32)) + bb) + (1 : Int32))), .val (.int (1 : Int32)), .unset] [(.int aa)]))
  refine Good.back (fun _ k => XS.iload X33.here hx rfl (hb hby at_139) rfl k) ?_
  show Good p e below _ (T33.setTop (mkF m 141 #[.val (.int p0), .val (.int p1), .val (.int p2), .val (.long q3), .second, .val (.int aa), .val (.int bb), .val (.int cc), .val (.ref b1), .val (.ref b13), .val (.ref b16), .val (.int (0 : Int32)), .val (.int (aa + (1 : Int32))), .val (.int (((aa + (1 : Int32)) + bb) + (1 : Int32))), .val (.int (1 : Int32)), .unset] [(.int (0 : Int32)), (.int aa)]))
  refine Good.back (fun _ k => XS.isub X33.here hx rfl (hb hby at_141) rfl k) ?_
  show Good p e below _ (T33.setTop (mkF m 142 #[.val (.int p0), .val (.int p1), .val (.int p2), .val (.long q3), .second, .val (.int aa), .val (.int bb), .val (.int cc), .val (.ref b1), .val (.ref b13), .val (.ref b16), .val (.int (0 : Int32)), .val (.int (aa + (1 : Int32))), .val (.int (((aa + (1 : Int32)) + bb) + (1 : Int32))), .val (.int (1 : Int32)), .unset] [(.int (aa - (0 : Int32)))]))
  refine Good.back (fun _ k => XS.iload X33.here hx rfl (hb hby at_142) rfl k) ?_
  show Good p e below _ (T33.setTop (mkF m 144 #[.val (.int p0), .val (.int p1), .val (.int p2), .val (.long q3), .second, .val (.int aa), .val (.int bb), .val (.int cc), .val (.ref b1), .val (.ref b13), .val (.ref b16), .val (.int (0 : Int32)), .val (.int (aa + (1 : Int32))), .val (.int (((aa + (1 : Int32)) + bb) + (1 : Int32))), .val (.int (1 : Int32)), .unset] [(.int aa), (.int (aa - (0 : Int32)))]))
  refine Good.back (fun _ k => XS.icmpNo X33.here hx rfl (hb hby at_144) rfl (teq (own_e0 aa : (aa - (0 : Int32)) = aa)).2 k) ?_
  show Good p e below _ (T33.setTop (mkF m 147 #[.val (.int p0), .val (.int p1), .val (.int p2), .val (.long q3), .second, .val (.int aa), .val (.int bb), .val (.int cc), .val (.ref b1), .val (.ref b13), .val (.ref b16), .val (.int (0 : Int32)), .val (.int (aa + (1 : Int32))), .val (.int (((aa + (1 : Int32)) + bb) + (1 : Int32))), .val (.int (1 : Int32)), .unset] []))
  refine Good.back (fun _ k => XS.aload X33.here hx rfl (hb hby at_147) rfl rfl k) ?_
  show Good p e below _ (T33.setTop (mkF m 149 #[.val (.int p0), .val (.int p1), .val (.int p2), .val (.long q3), .second, .val (.int aa), .val (.int bb), .val (.int cc), .val (.ref b1), .val (.ref b13), .val (.ref b16), .val (.int (0 : Int32)), .val (.int (aa + (1 : Int32))), .val (.int (((aa + (1 : Int32)) + bb) + (1 : Int32))), .val (.int (1 : Int32)), .unset] [(.ref b16)]))
  refine Good.back (fun _ k => XS.iconst X33.here hx rfl (hb hby at_149) k) ?_
  show Good p e below _ (T33.setTop (mkF m 150 #[.val (.int p0), .val (.int p1), .val (.int p2), .val (.long q3), .second, .val (.int aa), .val (.int bb), .val (.int cc), .val (.ref b1), .val (.ref b13), .val (.ref b16), .val (.int (0 : Int32)), .val (.int (aa + (1 : Int32))), .val (.int (((aa + (1 : Int32)) + bb) + (1 : Int32))), .val (.int (1 : Int32)), .unset] [(.int (1 : Int32)), (.ref b16)]))
  obtain ⟨cq34, kq34, q34a, q34b, q34c⟩ := isOf hZ eh33 f_30
  obtain ⟨_, _, ⟨T34, L34, k34, n34⟩, -, X34, ⟨Lc34, hQ34, l34, y34, z34⟩, st34⟩ := X33.virtualBack hx (y := (⟨"com/example/poonji/poonji/CsvReader$Record", "end", "(I)I"⟩ : MethodName)) (z := (⟨"com/example/poonji/poonji/CsvReader$Record", "end", "(I)I"⟩ : MethodName)) hown (mvT hZ (hw _ (List.mem_of_getElem? (i := 22) rfl))) (mvT hZ (hw _ (List.mem_of_getElem? (i := 23) rfl))) (notFace_of_selects (args := #[]) (mvT hZ (hw _ (List.mem_of_getElem? (i := 25) rfl)))) (mvT hZ (hw _ (List.mem_of_getElem? (i := 25) rfl))) (mvT hZ (hw _ (List.mem_of_getElem? (i := 24) rfl))) (by decide) (backOf (W := 0) (rm4_1 l Z a0 hw [] b16 b1 k1 aa ((aa + (1 : Int32)) + bb) ((((aa + (1 : Int32)) + bb) + (1 : Int32)) + cc) T22.heap n0 Z23 o22_0 f_27) hZ (hw _ (List.mem_of_getElem? (i := 26) rfl)) (hw _ (List.mem_of_getElem? (i := 4) rfl)) (by decide) (by decide)) q34a q34c (g := (mkF m 150 #[.val (.int p0), .val (.int p1), .val (.int p2), .val (.long q3), .second, .val (.int aa), .val (.int bb), .val (.int cc), .val (.ref b1), .val (.ref b13), .val (.ref b16), .val (.int (0 : Int32)), .val (.int (aa + (1 : Int32))), .val (.int (((aa + (1 : Int32)) + bb) + (1 : Int32))), .val (.int (1 : Int32)), .unset] [(.int (1 : Int32)), (.ref b16)])) rfl (by rw [hml]; rfl) (Steps.refl _) (argsL := [(.int (1 : Int32))]) (rest := []) (lenOf own_pd31 rfl) rfl (by show 2 * 0 + _ ≤ _; exact Nat.le_of_eq rfl) (hb hby at_150) (fun _ _ => ⟨rfl, eh33, (by decide : 3 + 0 ≤ _), (by decide : 30 + 0 ≤ _)⟩)
  dsimp only [Pt.U, Pt.locs, Pt.cells, Pt.slots] at X34 l34 y34 z34 st34 hQ34
  subst l34 y34 z34
  obtain ⟨rfl, N34q, eh34⟩ := hQ34
  have N34 := Fr.app N33 N34q
  refine Good.back (fun _ k => st34.trans k) ?_
  show Good p e below _ (T34.setTop (mkF m 153 #[.val (.int p0), .val (.int p1), .val (.int p2), .val (.long q3), .second, .val (.int aa), .val (.int bb), .val (.int cc), .val (.ref b1), .val (.ref b13), .val (.ref b16), .val (.int (0 : Int32)), .val (.int (aa + (1 : Int32))), .val (.int (((aa + (1 : Int32)) + bb) + (1 : Int32))), .val (.int (1 : Int32)), .unset] [(.int ((aa + (1 : Int32)) + bb))]))
  refine Good.back (fun _ k => XS.iload X34.here hx rfl (hb hby at_153) rfl k) ?_
  show Good p e below _ (T34.setTop (mkF m 155 #[.val (.int p0), .val (.int p1), .val (.int p2), .val (.long q3), .second, .val (.int aa), .val (.int bb), .val (.int cc), .val (.ref b1), .val (.ref b13), .val (.ref b16), .val (.int (0 : Int32)), .val (.int (aa + (1 : Int32))), .val (.int (((aa + (1 : Int32)) + bb) + (1 : Int32))), .val (.int (1 : Int32)), .unset] [(.int (aa + (1 : Int32))), (.int ((aa + (1 : Int32)) + bb))]))
  refine Good.back (fun _ k => XS.isub X34.here hx rfl (hb hby at_155) rfl k) ?_
  show Good p e below _ (T34.setTop (mkF m 156 #[.val (.int p0), .val (.int p1), .val (.int p2), .val (.long q3), .second, .val (.int aa), .val (.int bb), .val (.int cc), .val (.ref b1), .val (.ref b13), .val (.ref b16), .val (.int (0 : Int32)), .val (.int (aa + (1 : Int32))), .val (.int (((aa + (1 : Int32)) + bb) + (1 : Int32))), .val (.int (1 : Int32)), .unset] [(.int (((aa + (1 : Int32)) + bb) - (aa + (1 : Int32))))]))
  refine Good.back (fun _ k => XS.iload X34.here hx rfl (hb hby at_156) rfl k) ?_
  show Good p e below _ (T34.setTop (mkF m 158 #[.val (.int p0), .val (.int p1), .val (.int p2), .val (.long q3), .second, .val (.int aa), .val (.int bb), .val (.int cc), .val (.ref b1), .val (.ref b13), .val (.ref b16), .val (.int (0 : Int32)), .val (.int (aa + (1 : Int32))), .val (.int (((aa + (1 : Int32)) + bb) + (1 : Int32))), .val (.int (1 : Int32)), .unset] [(.int bb), (.int (((aa + (1 : Int32)) + bb) - (aa + (1 : Int32))))]))
  refine Good.back (fun _ k => XS.icmpNo X34.here hx rfl (hb hby at_158) rfl (teq (own_e2 (aa + 1) bb : (((aa + (1 : Int32)) + bb) - (aa + (1 : Int32))) = bb)).2 k) ?_
  show Good p e below _ (T34.setTop (mkF m 161 #[.val (.int p0), .val (.int p1), .val (.int p2), .val (.long q3), .second, .val (.int aa), .val (.int bb), .val (.int cc), .val (.ref b1), .val (.ref b13), .val (.ref b16), .val (.int (0 : Int32)), .val (.int (aa + (1 : Int32))), .val (.int (((aa + (1 : Int32)) + bb) + (1 : Int32))), .val (.int (1 : Int32)), .unset] []))
  refine Good.back (fun _ k => XS.aload X34.here hx rfl (hb hby at_161) rfl rfl k) ?_
  show Good p e below _ (T34.setTop (mkF m 163 #[.val (.int p0), .val (.int p1), .val (.int p2), .val (.long q3), .second, .val (.int aa), .val (.int bb), .val (.int cc), .val (.ref b1), .val (.ref b13), .val (.ref b16), .val (.int (0 : Int32)), .val (.int (aa + (1 : Int32))), .val (.int (((aa + (1 : Int32)) + bb) + (1 : Int32))), .val (.int (1 : Int32)), .unset] [(.ref b16)]))
  refine Good.back (fun _ k => XS.iconst X34.here hx rfl (hb hby at_163) k) ?_
  show Good p e below _ (T34.setTop (mkF m 164 #[.val (.int p0), .val (.int p1), .val (.int p2), .val (.long q3), .second, .val (.int aa), .val (.int bb), .val (.int cc), .val (.ref b1), .val (.ref b13), .val (.ref b16), .val (.int (0 : Int32)), .val (.int (aa + (1 : Int32))), .val (.int (((aa + (1 : Int32)) + bb) + (1 : Int32))), .val (.int (1 : Int32)), .unset] [(.int (2 : Int32)), (.ref b16)]))
  obtain ⟨cq35, kq35, q35a, q35b, q35c⟩ := isOf hZ eh34 f_30
  obtain ⟨_, _, ⟨T35, L35, k35, n35⟩, -, X35, ⟨Lc35, hQ35, l35, y35, z35⟩, st35⟩ := X34.virtualBack hx (y := (⟨"com/example/poonji/poonji/CsvReader$Record", "end", "(I)I"⟩ : MethodName)) (z := (⟨"com/example/poonji/poonji/CsvReader$Record", "end", "(I)I"⟩ : MethodName)) hown (mvT hZ (hw _ (List.mem_of_getElem? (i := 22) rfl))) (mvT hZ (hw _ (List.mem_of_getElem? (i := 23) rfl))) (notFace_of_selects (args := #[]) (mvT hZ (hw _ (List.mem_of_getElem? (i := 25) rfl)))) (mvT hZ (hw _ (List.mem_of_getElem? (i := 25) rfl))) (mvT hZ (hw _ (List.mem_of_getElem? (i := 24) rfl))) (by decide) (backOf (W := 0) (rm4_2 l Z a0 hw [] b16 b1 k1 aa ((aa + (1 : Int32)) + bb) ((((aa + (1 : Int32)) + bb) + (1 : Int32)) + cc) T22.heap n0 Z23 o22_0 f_27) hZ (hw _ (List.mem_of_getElem? (i := 26) rfl)) (hw _ (List.mem_of_getElem? (i := 4) rfl)) (by decide) (by decide)) q35a q35c (g := (mkF m 164 #[.val (.int p0), .val (.int p1), .val (.int p2), .val (.long q3), .second, .val (.int aa), .val (.int bb), .val (.int cc), .val (.ref b1), .val (.ref b13), .val (.ref b16), .val (.int (0 : Int32)), .val (.int (aa + (1 : Int32))), .val (.int (((aa + (1 : Int32)) + bb) + (1 : Int32))), .val (.int (1 : Int32)), .unset] [(.int (2 : Int32)), (.ref b16)])) rfl (by rw [hml]; rfl) (Steps.refl _) (argsL := [(.int (2 : Int32))]) (rest := []) (lenOf own_pd31 rfl) rfl (by show 2 * 0 + _ ≤ _; exact Nat.le_of_eq rfl) (hb hby at_164) (fun _ _ => ⟨rfl, eh34, (by decide : 3 + 0 ≤ _), (by decide : 30 + 0 ≤ _)⟩)
  dsimp only [Pt.U, Pt.locs, Pt.cells, Pt.slots] at X35 l35 y35 z35 st35 hQ35
  subst l35 y35 z35
  obtain ⟨rfl, N35q, eh35⟩ := hQ35
  have N35 := Fr.app N34 N35q
  refine Good.back (fun _ k => st35.trans k) ?_
  show Good p e below _ (T35.setTop (mkF m 167 #[.val (.int p0), .val (.int p1), .val (.int p2), .val (.long q3), .second, .val (.int aa), .val (.int bb), .val (.int cc), .val (.ref b1), .val (.ref b13), .val (.ref b16), .val (.int (0 : Int32)), .val (.int (aa + (1 : Int32))), .val (.int (((aa + (1 : Int32)) + bb) + (1 : Int32))), .val (.int (1 : Int32)), .unset] [(.int ((((aa + (1 : Int32)) + bb) + (1 : Int32)) + cc))]))
  refine Good.back (fun _ k => XS.iload X35.here hx rfl (hb hby at_167) rfl k) ?_
  show Good p e below _ (T35.setTop (mkF m 169 #[.val (.int p0), .val (.int p1), .val (.int p2), .val (.long q3), .second, .val (.int aa), .val (.int bb), .val (.int cc), .val (.ref b1), .val (.ref b13), .val (.ref b16), .val (.int (0 : Int32)), .val (.int (aa + (1 : Int32))), .val (.int (((aa + (1 : Int32)) + bb) + (1 : Int32))), .val (.int (1 : Int32)), .unset] [(.int (((aa + (1 : Int32)) + bb) + (1 : Int32))), (.int ((((aa + (1 : Int32)) + bb) + (1 : Int32)) + cc))]))
  refine Good.back (fun _ k => XS.isub X35.here hx rfl (hb hby at_169) rfl k) ?_
  show Good p e below _ (T35.setTop (mkF m 170 #[.val (.int p0), .val (.int p1), .val (.int p2), .val (.long q3), .second, .val (.int aa), .val (.int bb), .val (.int cc), .val (.ref b1), .val (.ref b13), .val (.ref b16), .val (.int (0 : Int32)), .val (.int (aa + (1 : Int32))), .val (.int (((aa + (1 : Int32)) + bb) + (1 : Int32))), .val (.int (1 : Int32)), .unset] [(.int (((((aa + (1 : Int32)) + bb) + (1 : Int32)) + cc) - (((aa + (1 : Int32)) + bb) + (1 : Int32))))]))
  refine Good.back (fun _ k => XS.iload X35.here hx rfl (hb hby at_170) rfl k) ?_
  show Good p e below _ (T35.setTop (mkF m 172 #[.val (.int p0), .val (.int p1), .val (.int p2), .val (.long q3), .second, .val (.int aa), .val (.int bb), .val (.int cc), .val (.ref b1), .val (.ref b13), .val (.ref b16), .val (.int (0 : Int32)), .val (.int (aa + (1 : Int32))), .val (.int (((aa + (1 : Int32)) + bb) + (1 : Int32))), .val (.int (1 : Int32)), .unset] [(.int cc), (.int (((((aa + (1 : Int32)) + bb) + (1 : Int32)) + cc) - (((aa + (1 : Int32)) + bb) + (1 : Int32))))]))
  refine Good.back (fun _ k => XS.icmpNo X35.here hx rfl (hb hby at_172) rfl (teq (own_e2 (((aa + 1) + bb) + 1) cc : (((((aa + (1 : Int32)) + bb) + (1 : Int32)) + cc) - (((aa + (1 : Int32)) + bb) + (1 : Int32))) = cc)).2 k) ?_
  show Good p e below _ (T35.setTop (mkF m 175 #[.val (.int p0), .val (.int p1), .val (.int p2), .val (.long q3), .second, .val (.int aa), .val (.int bb), .val (.int cc), .val (.ref b1), .val (.ref b13), .val (.ref b16), .val (.int (0 : Int32)), .val (.int (aa + (1 : Int32))), .val (.int (((aa + (1 : Int32)) + bb) + (1 : Int32))), .val (.int (1 : Int32)), .unset] []))
  refine Good.back (fun _ k => XS.iconst X35.here hx rfl (hb hby at_175) k) ?_
  show Good p e below _ (T35.setTop (mkF m 176 #[.val (.int p0), .val (.int p1), .val (.int p2), .val (.long q3), .second, .val (.int aa), .val (.int bb), .val (.int cc), .val (.ref b1), .val (.ref b13), .val (.ref b16), .val (.int (0 : Int32)), .val (.int (aa + (1 : Int32))), .val (.int (((aa + (1 : Int32)) + bb) + (1 : Int32))), .val (.int (1 : Int32)), .unset] [(.int (1 : Int32))]))
  refine Good.back (fun _ k => XS.goto X35.here hx rfl (pc0 := 176) (pc' := 180) rfl (hb hby at_176) (by decide) (by decide) k) ?_
  show Good p e below _ (T35.setTop (mkF m 180 #[.val (.int p0), .val (.int p1), .val (.int p2), .val (.long q3), .second, .val (.int aa), .val (.int bb), .val (.int cc), .val (.ref b1), .val (.ref b13), .val (.ref b16), .val (.int (0 : Int32)), .val (.int (aa + (1 : Int32))), .val (.int (((aa + (1 : Int32)) + bb) + (1 : Int32))), .val (.int (1 : Int32)), .unset] [(.int (1 : Int32))]))
  refine Good.back (fun _ k => XS.istore X35.here hx rfl (hb hby at_180) rfl (l' := #[.val (.int p0), .val (.int p1), .val (.int p2), .val (.long q3), .second, .val (.int aa), .val (.int bb), .val (.int cc), .val (.ref b1), .val (.ref b13), .val (.ref b16), .val (.int (0 : Int32)), .val (.int (aa + (1 : Int32))), .val (.int (((aa + (1 : Int32)) + bb) + (1 : Int32))), .val (.int (1 : Int32)), .val (.int (1 : Int32))]) rfl k) ?_
  show Good p e below _ (T35.setTop (mkF m 182 #[.val (.int p0), .val (.int p1), .val (.int p2), .val (.long q3), .second, .val (.int aa), .val (.int bb), .val (.int cc), .val (.ref b1), .val (.ref b13), .val (.ref b16), .val (.int (0 : Int32)), .val (.int (aa + (1 : Int32))), .val (.int (((aa + (1 : Int32)) + bb) + (1 : Int32))), .val (.int (1 : Int32)), .val (.int (1 : Int32))] []))
  refine Good.back (fun _ k => XS.iload X35.here hx rfl (hb hby at_182) rfl k) ?_
  show Good p e below _ (T35.setTop (mkF m 184 #[.val (.int p0), .val (.int p1), .val (.int p2), .val (.long q3), .second, .val (.int aa), .val (.int bb), .val (.int cc), .val (.ref b1), .val (.ref b13), .val (.ref b16), .val (.int (0 : Int32)), .val (.int (aa + (1 : Int32))), .val (.int (((aa + (1 : Int32)) + bb) + (1 : Int32))), .val (.int (1 : Int32)), .val (.int (1 : Int32))] [(.int (1 : Int32))]))
  refine Good.back (fun _ k => XS.ifNo X35.here hx rfl (hb hby at_184) rfl ((if0 _ _).trans (feq (by decide : ¬ ((1 : Int32) = (0 : Int32)))).1) k) ?_
  show Good p e below _ (T35.setTop (mkF m 187 #[.val (.int p0), .val (.int p1), .val (.int p2), .val (.long q3), .second, .val (.int aa), .val (.int bb), .val (.int cc), .val (.ref b1), .val (.ref b13), .val (.ref b16), .val (.int (0 : Int32)), .val (.int (aa + (1 : Int32))), .val (.int (((aa + (1 : Int32)) + bb) + (1 : Int32))), .val (.int (1 : Int32)), .val (.int (1 : Int32))] []))
  refine Good.back (fun _ k => XS.iload X35.here hx rfl (hb hby at_187) rfl k) ?_
  show Good p e below _ (T35.setTop (mkF m 189 #[.val (.int p0), .val (.int p1), .val (.int p2), .val (.long q3), .second, .val (.int aa), .val (.int bb), .val (.int cc), .val (.ref b1), .val (.ref b13), .val (.ref b16), .val (.int (0 : Int32)), .val (.int (aa + (1 : Int32))), .val (.int (((aa + (1 : Int32)) + bb) + (1 : Int32))), .val (.int (1 : Int32)), .val (.int (1 : Int32))] [(.int (1 : Int32))]))
  refine Good.back (fun _ k => XS.ifNo X35.here hx rfl (hb hby at_189) rfl ((if0 _ _).trans (feq (by decide : ¬ ((1 : Int32) = (0 : Int32)))).1) k) ?_
  show Good p e below _ (T35.setTop (mkF m 192 #[.val (.int p0), .val (.int p1), .val (.int p2), .val (.long q3), .second, .val (.int aa), .val (.int bb), .val (.int cc), .val (.ref b1), .val (.ref b13), .val (.ref b16), .val (.int (0 : Int32)), .val (.int (aa + (1 : Int32))), .val (.int (((aa + (1 : Int32)) + bb) + (1 : Int32))), .val (.int (1 : Int32)), .val (.int (1 : Int32))] []))
  refine Good.back (fun _ k => XS.iconst X35.here hx rfl (hb hby at_192) k) ?_
  show Good p e below _ (T35.setTop (mkF m 193 #[.val (.int p0), .val (.int p1), .val (.int p2), .val (.long q3), .second, .val (.int aa), .val (.int bb), .val (.int cc), .val (.ref b1), .val (.ref b13), .val (.ref b16), .val (.int (0 : Int32)), .val (.int (aa + (1 : Int32))), .val (.int (((aa + (1 : Int32)) + bb) + (1 : Int32))), .val (.int (1 : Int32)), .val (.int (1 : Int32))] [(.int (1 : Int32))]))
  refine Good.back (fun _ k => XS.goto X35.here hx rfl (pc0 := 193) (pc' := 197) rfl (hb hby at_193) (by decide) (by decide) k) ?_
  show Good p e below _ (T35.setTop (mkF m 197 #[.val (.int p0), .val (.int p1), .val (.int p2), .val (.long q3), .second, .val (.int aa), .val (.int bb), .val (.int cc), .val (.ref b1), .val (.ref b13), .val (.ref b16), .val (.int (0 : Int32)), .val (.int (aa + (1 : Int32))), .val (.int (((aa + (1 : Int32)) + bb) + (1 : Int32))), .val (.int (1 : Int32)), .val (.int (1 : Int32))] [(.int (1 : Int32))]))
  obtain ⟨fs36, hr36, hrun36, hended36, hW36, hsame36⟩ := X35.leave (v := some (.int (1 : Int32))) (fun h => by rw [Bd.returns] at h; cases h)
  refine Good.done (retN X35 hx (t := .boolean) Bd.returns (by simp) (hb hby at_197) hr36) hrun36 hended36 ⟨_, _, rfl, ?_, ⟨_, rfl⟩, hW36, hsame36.mono (by decide) (by decide)⟩
  show Q0 Z p0 p1 p2 q3 h0 n0 _ T35.heap _
  rw [eh35]
  exact ⟨rfl, N35⟩
set_option maxRecDepth 65536 in
set_option maxHeartbeats 40000000 in
theorem comes_1 {Post : Tables → Env → Array Value → State → Outcome → State → Prop} (hpost : ∀ tb e args s v u, (limb_1_1.after args s (.returned v) u = true ∧ limb_1_2.after args s (.returned v) u = true ∧ True) → FrameEnd s (.returned v) u (Jvm.fieldLocs frame_1_writes args s ++ Jvm.arrayLocs frame_1_arrays args s ++ Jvm.staticLocs frame_1_statics s) 16 128 → Post tb e args s (.returned v) u) :
    ArmFor flags0 classFile x code maxLocals ret World_1 tables_1 room_1 Calls_1 rest_1 Pre_1 Post := by
  intro l hfl _ _ p e ha hc hk s m args below hf hA hF happ hP
  obtain ⟨hcalls, hrest, hpre⟩ := hP
  obtain ⟨-, -, -, hnamed, -, -, -, hat⟩ := (Spec.applies_iff hf).mp happ
  obtain ⟨hg, hn⟩ := and_e (Cond.before_iff.mp (show (Jvm.Cond.and given_1 narrow_1).before args s = true from hpre))
  obtain ⟨g1, g2⟩ := and_e hg
  obtain ⟨g3, g4⟩ := and_e g2
  obtain ⟨g5, g6⟩ := and_e g4
  obtain ⟨g7, g8⟩ := and_e g6
  obtain ⟨w0, w1, w2, w3, rfl⟩ : ∃ w0 w1 w2 w3 : Value, args = #[w0, w1, w2, w3] := by
    have hs : args.size = 4 := by simpa [Cond.value, given_1] using g1
    obtain ⟨L⟩ := args
    match L, hs with
    | [w0, w1, w2, w3], _ => exact ⟨w0, w1, w2, w3, rfl⟩
  have hw := fun d (hd : d ∈ tables_1) => atoms_spec (ws := Jvm.Cond.code x code maxLocals ret :: tables_1) hat d (List.mem_cons_of_mem _ hd)
  have hfit : Fit s := fun {y c} hc i hi => by
    obtain ⟨ha, rfl⟩ := Array.getElem?_eq_some_iff.mp hc
    have q := List.all_eq_true.mp ((Array.all_eq_true_iff_forall_mem.mp hF) _ (Array.getElem_mem ha)) i (List.mem_range.mpr hi)
    simpa [Array.getElem?_eq_getElem hi] using q
  obtain ⟨i0, ei0⟩ := is_v g3
  obtain rfl : w0 = (.int i0) := Option.some.inj ei0
  obtain ⟨i1, ei1⟩ := is_v g5
  obtain rfl : w1 = (.int i1) := Option.some.inj ei1
  obtain ⟨i2, ei2⟩ := is_v g7
  obtain rfl : w2 = (.int i2) := Option.some.inj ei2
  obtain ⟨i3, ei3⟩ := isL_v g8
  obtain rfl : w3 = (.long i3) := Option.some.inj ei3
  obtain ⟨n, o, h1, h2, h3, _, L, rfl, ⟨rfl, N⟩, hq⟩ := rm0 l s _ hw tables_1 i0 i1 i2 i3  s.heap s.heap.size (Nat.le_refl _)  p e ha hc hk s m _ below hf ((Spec.applies_iff_loose hf).mp happ).1 ⟨rfl, State.Warmed39.refl s, rfl⟩ trivial
  refine ⟨n, _, h1, h2, h3, hpost _ _ _ _ _ _ ⟨Cond.after_iff.mpr rfl, Cond.after_iff.mpr (eq_i res_at (Term.int_eval (1)) rfl), trivial⟩ ⟨hq.1, hq.2.1, (hq.2.2.sift fun y hy => Or.inr (N y hy)).mono (by decide) (by decide)⟩⟩
theorem main_1_1 : Claimed_1_1 := comes_1 fun _ _ _ _ _ _ h hF => ⟨h.1, hF⟩
theorem main_1_2 : Claimed_1_2 := comes_1 fun _ _ _ _ _ _ h hF => ⟨h.2.1, hF⟩
end Jvm.Pilot.@@N@@
namespace Jvm.Pilot.@@N@@
open Jvm Jvm.ClassFile Sem Op Lib Jvm.Free Jvm.Stand Jvm.Pilot.@@N@@.Jvm.D
/-! MADE BY PROGRAM (witnessworld.py) out of the Statement's table words and the real class files: 11 classes; the members and pool entries that the words name. The judged class is class 1, her method 1. -/
namespace start1
open Jvm.ClassFile
def u (s : String) : CpInfo := .utf8 (stringToUtf16 s)
/-- a pool by its gaps: so many unusable entries, then the entry; so many at the end -/
def gap : Nat → List CpInfo → List CpInfo
  | 0, r => r
  | n + 1, r => .unusable :: gap n r
def poolList (es : List (Nat × CpInfo)) (last : Nat) : List CpInfo := es.foldr (fun e r => gap e.1 (e.2 :: r)) (gap last [])
def pool (es : List (Nat × CpInfo)) (last : Nat) : Array CpInfo := ⟨poolList es last⟩
def fileOf (pool : Array CpInfo) (this : Nat) (attrs : Array Attribute := #[]) (ms : Array MethodInfo := #[]) (fl : Nat := 33) (sup : Nat := 0) (ifs : Array Nat := #[]) (fds : Array FieldInfo := #[]) : ClassFile where
  minorVersion := 0
  majorVersion := 65
  constantPool := pool
  accessFlags := fl
  thisClass := this
  superClass := sup
  interfaces := ifs
  fields := fds
  methods := ms
  attributes := attrs
def plain (name : String) (sup : Option ClassId) : Class where
  name := name
  kind := .ordinary
  loader := none
  accessFlags := 33
  super := sup
  interfaces := #[]
  cf := none
  fields := #[]
  methods := #[]
  instanceTypes := #[]
  staticTypes := #[]
  resolved := #[]
  callSites := []
  init := .initialized
  statics := none
  mirror := none

def pool0 : Array CpInfo := pool [(5, u "<init>"), (0, u "()V"), (1, .class_ 10), (1, u "java/lang/Object")] 113

def k0c0 : Code := { maxStack := 0, maxLocals := 1, code := object_method_1_code, exceptionTable := #[], attributes := #[] }
def k0m0 : Method := { name := "<init>", desc := "()V", sig := { parameters := [], returnType := none }, accessFlags := 1, code := some k0c0 }
/-- java/lang/Object -/
def k0 : Class := { plain "java/lang/Object" none with
  accessFlags := 33
  interfaces := #[]
  cf := some (fileOf pool0 8 #[] #[{ accessFlags := 1, nameIndex := 5, descriptorIndex := 6, attributes := #[] }] 33 0 #[] #[])
  fields := #[]
  methods := #[k0m0]
  instanceTypes := #[]
  staticTypes := #[]
  resolved := Array.replicate 124 none
  statics := none }

def pool1 : Array CpInfo := pool [(2, .class_ 4), (1, u "java/lang/Object"), (0, u "<init>"), (0, u "()V"), (0, .class_ 8), (0, u "com/example/poonji/poonji/CsvReader$Record"), (0, .methodref 7 10), (0, .nameAndType 5 11), (0, u "(J[C[I)V"), (0, .methodref 7 13), (0, .nameAndType 14 15), (0, u "start"), (0, u "(I)I"), (0, .methodref 7 17), (0, .nameAndType 18 15), (0, u "end"), (0, .class_ 20), (0, u "com/example/poonji/poonji/RecordStartPinLaw"), (2, u "law"), (0, u "(IIIJ)Z")] 11

def k1m0 : Method := { name := "<init>", desc := "()V", sig := { parameters := [], returnType := none }, accessFlags := 1, code := none }
def k1c1 : Code := { maxStack := 6, maxLocals := 16, code := code, exceptionTable := #[], attributes := #[] }
def k1m1 : Method := { name := "law", desc := "(IIIJ)Z", sig := { parameters := [.int, .int, .int, .long], returnType := some .boolean }, accessFlags := 9, code := some k1c1 }
/-- com/example/poonji/poonji/RecordStartPinLaw -/
def k1 : Class := { plain "com/example/poonji/poonji/RecordStartPinLaw" (some 0) with
  accessFlags := 49
  interfaces := #[]
  cf := some (fileOf pool1 19 #[] #[{ accessFlags := 1, nameIndex := 5, descriptorIndex := 6, attributes := #[] }, { accessFlags := 9, nameIndex := 23, descriptorIndex := 24, attributes := #[] }] 49 2 #[] #[])
  fields := #[]
  methods := #[k1m0, k1m1]
  instanceTypes := #[]
  staticTypes := #[]
  resolved := Array.replicate 36 none
  statics := none }

def pool2 : Array CpInfo := pool [(1, .methodref 2 3), (0, .class_ 4), (0, .nameAndType 5 6), (0, u "java/lang/Object"), (0, u "<init>"), (0, u "()V"), (0, .fieldref 8 9), (0, .class_ 10), (0, .nameAndType 11 12), (0, u "com/example/poonji/poonji/CsvReader$Record"), (0, u "line"), (0, u "J"), (0, .fieldref 8 14), (0, .nameAndType 15 16), (0, u "characters"), (0, u "[C"), (0, .fieldref 8 18), (0, .nameAndType 19 20), (0, u "ends"), (0, u "[I"), (4, u "start"), (0, u "(I)I"), (2, u "end"), (3, u "(J[C[I)V"), (12, .class_ 47), (0, u "com/example/poonji/poonji/CsvReader")] 2

def k2c0 : Code := { maxStack := 3, maxLocals := 5, code := prog_20_method_1_code, exceptionTable := #[], attributes := #[] }
def k2m0 : Method := { name := "<init>", desc := "(J[C[I)V", sig := { parameters := [.long, (.array .char), (.array .int)], returnType := none }, accessFlags := 0, code := some k2c0 }
def k2c1 : Code := { maxStack := 3, maxLocals := 2, code := prog_20_method_6_code, exceptionTable := #[], attributes := #[] }
def k2m1 : Method := { name := "start", desc := "(I)I", sig := { parameters := [.int], returnType := some .int }, accessFlags := 0, code := some k2c1 }
def k2c2 : Code := { maxStack := 2, maxLocals := 2, code := prog_20_method_7_code, exceptionTable := #[], attributes := #[] }
def k2m2 : Method := { name := "end", desc := "(I)I", sig := { parameters := [.int], returnType := some .int }, accessFlags := 0, code := some k2c2 }
/-- com/example/poonji/poonji/CsvReader$Record -/
def k2 : Class := { plain "com/example/poonji/poonji/CsvReader$Record" (some 0) with
  accessFlags := 32
  interfaces := #[]
  cf := some (fileOf pool2 8 #[.nestHost 46] #[{ accessFlags := 0, nameIndex := 5, descriptorIndex := 33, attributes := #[] }, { accessFlags := 0, nameIndex := 25, descriptorIndex := 26, attributes := #[] }, { accessFlags := 0, nameIndex := 29, descriptorIndex := 26, attributes := #[] }] 32 2 #[] #[{ accessFlags := 18, nameIndex := 11, descriptorIndex := 12, attributes := #[] }, { accessFlags := 18, nameIndex := 15, descriptorIndex := 16, attributes := #[] }, { accessFlags := 18, nameIndex := 19, descriptorIndex := 20, attributes := #[] }])
  fields := #[{ name := "line", type := .long, accessFlags := 18, slot := 0, constantValue := 0 }, { name := "characters", type := (.array .char), accessFlags := 18, slot := 1, constantValue := 0 }, { name := "ends", type := (.array .int), accessFlags := 18, slot := 2, constantValue := 0 }]
  methods := #[k2m0, k2m1, k2m2]
  instanceTypes := #[.long, (.array .char), (.array .int)]
  staticTypes := #[]
  resolved := Array.replicate 50 none
  statics := none }

def pool3 : Array CpInfo := pool [(1, u "java/lang/Cloneable"), (0, .class_ 1), (0, u "java/lang/Object"), (0, .class_ 3)] 3

/-- java/lang/Cloneable -/
def k3 : Class := { plain "java/lang/Cloneable" (some 0) with
  accessFlags := 1537
  interfaces := #[]
  cf := some (fileOf pool3 2 #[] #[] 1537 4 #[] #[])
  fields := #[]
  methods := #[]
  instanceTypes := #[]
  staticTypes := #[]
  resolved := Array.replicate 8 none
  statics := none }

def pool4 : Array CpInfo := pool [(1, u "java/io/Serializable"), (0, .class_ 1), (0, u "java/lang/Object"), (0, .class_ 3)] 3

/-- java/io/Serializable -/
def k4 : Class := { plain "java/io/Serializable" (some 0) with
  accessFlags := 1537
  interfaces := #[]
  cf := some (fileOf pool4 2 #[] #[] 1537 4 #[] #[])
  fields := #[]
  methods := #[]
  instanceTypes := #[]
  staticTypes := #[]
  resolved := Array.replicate 8 none
  statics := none }

/-- the primitive byte -/
def k5 : Class := { plain "byte" none with kind := .primitive 'B', accessFlags := 0x411 }
/-- [B -/
def k6 : Class := { plain "[B" (some 0) with kind := .array 5 .byte, interfaces := #[3, 4], accessFlags := 1041 }

/-- the primitive char -/
def k7 : Class := { plain "char" none with kind := .primitive 'C', accessFlags := 0x411 }
/-- [C -/
def k8 : Class := { plain "[C" (some 0) with kind := .array 7 .char, interfaces := #[3, 4], accessFlags := 1041 }

/-- the primitive int -/
def k9 : Class := { plain "int" none with kind := .primitive 'I', accessFlags := 0x411 }
/-- [I -/
def k10 : Class := { plain "[I" (some 0) with kind := .array 9 .int, interfaces := #[3, 4], accessFlags := 1041 }

def heap : Heap := #[]
def classes : Array Class := #[k0, k1, k2, k3, k4, k5, k6, k7, k8, k9, k10]
def interned : List (Array UInt16 × Addr) := []
def slotsUsed : Nat := 0
def theMethod : MethodId := ⟨1, 1⟩
def args0 : Array Value := #[.int 1, .int 2, .int 3, .long 4]
def aboutOver (below : List Frame) : State where
  vm := { classes := classes, interned := interned.toArray }
  heap := heap
  slotsUsed := slotsUsed
  threads := #[{ frames := .invoking theMethod args0 :: below }]
def below0 : List Frame := [.native { method := ⟨0, 0⟩, args := #[] }]
def about1 : State := aboutOver below0
def p0 : Program := .bare "" "" ""
def e0 : Env := launch0.env 0 0 0
theorem w_frames : about1.frames = Frame.invoking theMethod args0 :: below0 := rfl
set_option maxRecDepth 65536 in
theorem w_args : argsFit about1.vm theMethod args0 = true := by decide +kernel
set_option maxRecDepth 65536 in
theorem w_heap : heapFits about1 = true := by decide +kernel
set_option maxRecDepth 65536 in
theorem w_runnable : about1.curStatus? = some .runnable := by decide +kernel
set_option maxRecDepth 65536 in
theorem w_alone : about1.alone = true := by decide +kernel
set_option maxRecDepth 65536 in
theorem w_named : about1.methodNamed? x = some theMethod := by decide +kernel
set_option maxRecDepth 65536 in
theorem w_hears : about1.hears theMethod below0 = true := by decide +kernel
set_option maxRecDepth 65536 in
theorem w_ripe : about1.ripe theMethod args0 below0 = true := by decide +kernel
theorem w_running : about1.status = .running := rfl
set_option maxRecDepth 65536 in
theorem w_room : about1.hasRoom e0.platform room_1 = true :=
  launch0.hasRoom_least _ room_1 (by decide +kernel) (by decide +kernel) (by decide +kernel) (by decide +kernel) (by decide +kernel) (by decide +kernel)
theorem allAtoms_all (ts : List Jvm.Cond) (a : Array Jvm.Value) (st : Jvm.State) : (allAtoms ts).before a st = ts.all (fun c => c.before a st) := by
  induction ts with
  | nil => rfl
  | cons c t ih =>
    show (Jvm.Cond.and c (allAtoms t)).before a st = _
    rw [Jvm.Cond.before_and, ih, List.all_cons]
def words1 : List Jvm.Cond := Jvm.Cond.code x code maxLocals ret :: tables_1
/-- a 'code' word, met by the world's own term for the bytes: nothing is compared byte by byte -/
theorem code_word {y : MethodName} {bytes : ByteArray} {mx : Nat} {rt : Option FieldType} {a : Array Value} {s : State} {m : MethodId} {meth : Method} {c : Code} (h1 : s.methodNamed? y = some m) (h2 : s.vm.method? m = some meth) (h3 : meth.code = some c) (h4 : c.code = bytes)
    (h5 : (c.maxLocals == mx && c.exceptionTable.isEmpty && decide (c.maxStack ≤ mostOperands) && decide (meth.sig.returnType = rt) && !meth.locks && decide (parseMethodDescriptor y.desc = some meth.sig)) = true) : (Jvm.Cond.code y bytes mx rt).before a s = true := by
  simp only [Bool.and_eq_true, beq_iff_eq, Bool.not_eq_true', decide_eq_true_eq] at h5
  obtain ⟨⟨⟨⟨⟨g1, g2⟩, g3⟩, g4⟩, g5⟩, g6⟩ := h5
  simp [Cond.before, Cond.holds, Cond.value, h1, h2, h3, h4, g1, g2, g3, g4, g5, g6]
def isCode : Jvm.Cond → Bool
  | .code _ _ _ _ => true
  | _ => false
theorem all_split {L : List Jvm.Cond} {P : Jvm.Cond → Bool} (h1 : L.all (fun c => isCode c || P c) = true) (h2 : ∀ c ∈ L.filter isCode, P c = true) : L.all P = true := by
  refine List.all_eq_true.mpr fun c hc => ?_
  have h := List.all_eq_true.mp h1 c hc
  rcases Bool.eq_false_or_eq_true (isCode c) with hi | hi
  · exact h2 c (List.mem_filter.mpr ⟨hc, hi⟩)
  · simpa [hi] using h
set_option maxRecDepth 65536 in
theorem w_c0 : (Jvm.Cond.code x code maxLocals ret).before args0 about1 = true := code_word (m := ⟨1, 1⟩) (meth := k1m1) (c := k1c1) (by decide +kernel) rfl rfl rfl (by decide +kernel)
set_option maxRecDepth 65536 in
theorem w_c1 : (Jvm.Cond.code ({ cls := "com/example/poonji/poonji/CsvReader$Record", name := "<init>", desc := "(J[C[I)V" } : Jvm.MethodName) prog_20_method_1_code (5 : Nat) (Option.none : Option Jvm.ClassFile.FieldType)).before args0 about1 = true := code_word (m := ⟨2, 0⟩) (meth := k2m0) (c := k2c0) (by decide +kernel) rfl rfl rfl (by decide +kernel)
set_option maxRecDepth 65536 in
theorem w_c2 : (Jvm.Cond.code ({ cls := "java/lang/Object", name := "<init>", desc := "()V" } : Jvm.MethodName) object_method_1_code (1 : Nat) (Option.none : Option Jvm.ClassFile.FieldType)).before args0 about1 = true := code_word (m := ⟨0, 0⟩) (meth := k0m0) (c := k0c0) (by decide +kernel) rfl rfl rfl (by decide +kernel)
set_option maxRecDepth 65536 in
theorem w_c3 : (Jvm.Cond.code ({ cls := "com/example/poonji/poonji/CsvReader$Record", name := "start", desc := "(I)I" } : Jvm.MethodName) prog_20_method_6_code (2 : Nat) (Option.some Jvm.ClassFile.FieldType.int)).before args0 about1 = true := code_word (m := ⟨2, 1⟩) (meth := k2m1) (c := k2c1) (by decide +kernel) rfl rfl rfl (by decide +kernel)
set_option maxRecDepth 65536 in
theorem w_c4 : (Jvm.Cond.code ({ cls := "com/example/poonji/poonji/CsvReader$Record", name := "end", desc := "(I)I" } : Jvm.MethodName) prog_20_method_7_code (2 : Nat) (Option.some Jvm.ClassFile.FieldType.int)).before args0 about1 = true := code_word (m := ⟨2, 2⟩) (meth := k2m2) (c := k2c2) (by decide +kernel) rfl rfl rfl (by decide +kernel)
def codes1 : List Jvm.Cond := [Jvm.Cond.code x code maxLocals ret, Jvm.Cond.code ({ cls := "com/example/poonji/poonji/CsvReader$Record", name := "<init>", desc := "(J[C[I)V" } : Jvm.MethodName) prog_20_method_1_code (5 : Nat) (Option.none : Option Jvm.ClassFile.FieldType), Jvm.Cond.code ({ cls := "java/lang/Object", name := "<init>", desc := "()V" } : Jvm.MethodName) object_method_1_code (1 : Nat) (Option.none : Option Jvm.ClassFile.FieldType), Jvm.Cond.code ({ cls := "com/example/poonji/poonji/CsvReader$Record", name := "start", desc := "(I)I" } : Jvm.MethodName) prog_20_method_6_code (2 : Nat) (Option.some Jvm.ClassFile.FieldType.int), Jvm.Cond.code ({ cls := "com/example/poonji/poonji/CsvReader$Record", name := "end", desc := "(I)I" } : Jvm.MethodName) prog_20_method_7_code (2 : Nat) (Option.some Jvm.ClassFile.FieldType.int)]
set_option maxRecDepth 65536 in
theorem codes_eq : words1.filter isCode = codes1 := rfl
theorem w_codes : ∀ c ∈ words1.filter isCode, c.before args0 about1 = true := by
  rw [codes_eq]
  intro c hc
  simp only [codes1, List.mem_cons, List.not_mem_nil, or_false] at hc
  rcases hc with rfl | rfl | rfl | rfl | rfl
  · exact w_c0
  · exact w_c1
  · exact w_c2
  · exact w_c3
  · exact w_c4
set_option maxRecDepth 65536 in
theorem w_t1 : (words1.take 24).all (fun c => isCode c || c.before args0 about1) = true := by decide +kernel
set_option maxRecDepth 65536 in
theorem w_t2 : (words1.drop 24).all (fun c => isCode c || c.before args0 about1) = true := by decide +kernel
theorem w_tables : (allAtoms (Jvm.Cond.code x code maxLocals ret :: tables_1)).before args0 about1 = true := by
  rw [allAtoms_all]
  show words1.all (fun c => c.before args0 about1) = true
  refine all_split ?_ w_codes
  rw [← List.take_append_drop 24 words1, List.all_append, w_t1, w_t2]
  rfl
set_option maxRecDepth 65536 in
theorem w_case : (Jvm.Cond.and given_1 narrow_1).before args0 about1 = true := by decide +kernel
theorem w_applies : (headSpec (Jvm.Cond.code x code maxLocals ret :: tables_1) room_1).applies x e0.platform about1 = true :=
  (Spec.applies_iff w_frames).mpr ⟨w_running, w_runnable, w_alone, w_named, w_hears, w_ripe, w_room, w_tables⟩
theorem atStart : AtStart classFile x code maxLocals ret World_1 tables_1 room_1 Calls_1 rest_1 Pre_1 launch0 p0 e0 about1 theMethod args0 below0 :=
  ⟨lists_1, trivial, launch0.admits_env _ _ _, launch0.least_env, fairChoices_fair.cas, fairChoices_fair.clock, w_frames, w_args, w_heap, w_applies, trivial, trivial, w_case⟩
end start1
theorem witness_1 : WitnessClaimed_1 := ⟨start1.p0, start1.e0, start1.about1, start1.theMethod, start1.args0, start1.below0, start1.atStart⟩
end Jvm.Pilot.@@N@@
