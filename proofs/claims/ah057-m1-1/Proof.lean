import JvmDerived
import JvmDerived.Pilot.@@N@@Statement
import JvmDerived.Pilot.@@N@@Code
set_option linter.unusedVariables false
set_option linter.unusedSimpArgs false
namespace Jvm.RoadKit
open Sem ClassFile Op Lib Jvm.Stand Jvm.Free Jvm.LawKit
section New
variable {p : Program} {l : Launch} {e : Env} {R : Room} {s : State} {m : MethodId} {args : Array Value} {below : List Frame} {meth : Method} {c : Code} {T : State} {locs : List Loc} {cells slots : Nat}
theorem retI (X : Stand p l e R s m args below meth c T locs cells slots) (hx : p.tables.exec = Jvm.exec) {pc : Nat} {Ls : Array Slot} {z : Int32} {rest : List Value} (hret : meth.sig.returnType = some .int) (hd : decode c.code pc = .ok (.ireturn, 1)) {fs : List Frame}
    (hl : ∀ (f : JFrame) (acts : List Action), f.method = m → f.locked = none → f.entered = [] → (doReturn e (T.setTop f) acts (some (.int z))).1 = T.setFrames fs) : Steps p.tables e below (T.setTop (mkF m pc Ls (.int z :: rest))) (T.setFrames fs) := by
  have hm' : T.vm.method? m = some meth := X.method'
  have hn : narrow .int (.int z) = .int z := rfl
  show Steps p.tables e below (T.setTop { method := m, pc := pc, locals := Ls, stack := _ :: rest, locked := none }) _
  jvm_step X.here [X.here.top, hx, hd, hm', hret, hn]
  first | (intro acts; rw [hl _ acts rfl rfl rfl]) | rw [hl _ _ rfl rfl rfl]
  exact Steps.refl _
end New
/-- from this state a run goes on to an end that meets K -/
def Good (p : Program) (e : Env) (below : List Frame) (K : Outcome → State → Prop) (S : State) : Prop := ∃ s₂ o, Steps p.tables e below S s₂ ∧ s₂.status = .running ∧ Ended s₂ below o ∧ K o s₂
theorem Good.back {p : Program} {e : Env} {below : List Frame} {K : Outcome → State → Prop} {S S' : State} (h : ∀ t, Steps p.tables e below S' t → Steps p.tables e below S t) (g : Good p e below K S') : Good p e below K S := by
  obtain ⟨t, o, h1, h2⟩ := g
  exact ⟨t, o, h t h1, h2⟩
theorem Good.done {p : Program} {e : Env} {below : List Frame} {K : Outcome → State → Prop} {S t : State} {o : Outcome} (h1 : Steps p.tables e below S t) (h2 : t.status = .running) (h3 : Ended t below o) (h4 : K o t) : Good p e below K S := ⟨t, o, h1, h2, h3, h4⟩
end Jvm.RoadKit
namespace Jvm.Pilot.@@N@@
open Jvm Jvm.ClassFile Sem Op Lib Jvm.Free Jvm.Stand Jvm.LawKit Jvm.RoadKit Bundle Jvm.Pilot.@@N@@.Jvm.D
theorem own_small {e : Int32} {n : Nat} (h0 : 0 ≤ e.toInt) (hn : e.toInt < n) : ∃ k : Nat, k < n ∧ e = Int32.ofNat k := by
  refine ⟨e.toInt.toNat, by omega, ?_⟩
  apply Int32.toInt_inj.mp
  have hb := e.toInt_lt
  rw [Int32.toInt_ofNat_of_lt (by omega)]
  omega
theorem own_mask {x m : Int32} {n : Nat} (hm : 0 ≤ m.toInt) (hn : m.toInt < n) : ∃ k : Nat, k < n ∧ (x &&& m) = Int32.ofNat k := by
  have h := c_and x m hm
  exact own_small h.1 (by omega)
theorem own_modm {x y : Int32} {d : Int} {n : Nat} (hy : y.toInt = d) (hd : 0 < d) (hn : d ≤ n) : ∃ k : Nat, k < n ∧ ((x &&& (2147483647 : Int32)) % y) = Int32.ofNat k := by
  have h := c_and x 2147483647 (by decide)
  have h2 := (c_irem (x &&& 2147483647) y d hy).1 h.1
  refine own_small ?_ ?_ <;> rw [h2]
  · exact Int.emod_nonneg _ (by omega)
  · have := Int.emod_lt_of_pos (x &&& 2147483647).toInt hd
    omega

theorem own_d9_0 : decode jdk_29_method_69_code 0 = .ok (.iload_n 0, 1) := by decide +kernel
theorem own_d9_1 : decode jdk_29_method_69_code 1 = .ok (.iload_n 1, 1) := by decide +kernel
theorem own_d9_2 : decode jdk_29_method_69_code 2 = .ok (.if_icmp .gt 7, 3) := by decide +kernel
theorem own_d9_5 : decode jdk_29_method_69_code 5 = .ok (.iload_n 0, 1) := by decide +kernel
theorem own_d9_6 : decode jdk_29_method_69_code 6 = .ok (.goto 4, 3) := by decide +kernel
theorem own_d9_9 : decode jdk_29_method_69_code 9 = .ok (.iload_n 1, 1) := by decide +kernel
theorem own_d9_10 : decode jdk_29_method_69_code 10 = .ok (.ireturn, 1) := by decide +kernel
theorem own_ef_9 (m : MethodId) (x0 : Int32) (x1 : Int32) : entryFrame m #[(.int x0), (.int x1)] 2 = mkF m 0 #[.val (.int x0), .val (.int x1)] [] := by first | (simp [entryFrame, mkF, argsToLocals, Value.category]; done) | rfl
def Q9 (Z : State) (p0 : Int32) (p1 : Int32) (h0 : Heap) (n0 : Nat) (v : Option Value) (h : Heap) (L : List Loc) : Prop := v = some (.int (if p1 < p0 then p1 else p0)) ∧ Fr n0 L ∧ h = h0
set_option maxRecDepth 65536 in
set_option maxHeartbeats 40000000 in
theorem rm9 (l : Launch) (Z : State) (a0 : Array Value) (hw : ∀ d ∈ tables_1, d.before a0 Z = true) (ws : List Jvm.Cond) (p0 : Int32) (p1 : Int32) (h0 : Heap) (n0 : Nat) (Z0 : n0 ≤ h0.size)  :
    MetFree l (⟨"java/lang/Math", "min", "(II)I"⟩ : MethodName) (head1 (Jvm.Cond.code (⟨"java/lang/Math", "min", "(II)I"⟩ : MethodName) jdk_29_method_69_code 2 (some .int) :: ws) ({ frames := 0, cells := 0, slots := 0, locals := 0 } : Room)) (fun a U => a = #[(.int p0), (.int p1)] ∧ Z.Warmed39 U.vm ∧ U.heap = h0) (fun _ _ _ _ _ => True) (fun _ U o U' => ∃ v L, o = .returned v ∧ Q9 Z p0 p1 h0 n0 v U'.heap L ∧ FrameEnd U o U' L ({ frames := 0, cells := 0, slots := 0, locals := 0 } : Room).cells ({ frames := 0, cells := 0, slots := 0, locals := 0 } : Room).slots) := by
  refine MetFree.of_bodySF (Jvm.Free.JP.mathPlain rfl (by decide +kernel)) hisR ?_
  intro p e s m args below meth c s₁ Bd hml0 hP hK
  obtain ⟨rfl, hZ, hh⟩ := hP
  have hx := Bd.exec
  have hby := Bd.bytes
  have hml : c.maxLocals = 2 := hml0
  have hown : s.vm.findClass "java/lang/Math" = some m.cls := findClass_of_methodNamed Bd.named
  have hnm := (name_of_methodNamed Bd.named Bd.method).1
  have X0 : Stand p l e ({ frames := 0, cells := 0, slots := 0, locals := 0 } : Room) s m #[(.int p0), (.int p1)] below meth c s₁ [] 0 0 := Stand.of_body Bd
  have e0 : s₁.heap = h0 := by rw [← hh, Bd.state]; rfl
  have N0 := Fr.nil n0
  show Good p e below (fun o U' => ∃ v L, o = .returned v ∧ Q9 Z p0 p1 h0 n0 v U'.heap L ∧ FrameEnd s o U' L ({ frames := 0, cells := 0, slots := 0, locals := 0 } : Room).cells ({ frames := 0, cells := 0, slots := 0, locals := 0 } : Room).slots) _
  refine Good.back (S' := s₁.setTop (mkF m 0 #[.val (.int p0), .val (.int p1)] [])) (fun t k => castTop (own_ef_9 m p0 p1) k) ?_
  show Good p e below _ (s₁.setTop (mkF m 0 #[.val (.int p0), .val (.int p1)] []))
  refine Good.back (fun _ k => XS.iloadN X0.here hx rfl (hb hby own_d9_0) rfl k) ?_
  show Good p e below _ (s₁.setTop (mkF m 1 #[.val (.int p0), .val (.int p1)] [(.int p0)]))
  refine Good.back (fun _ k => XS.iloadN X0.here hx rfl (hb hby own_d9_1) rfl k) ?_
  show Good p e below _ (s₁.setTop (mkF m 2 #[.val (.int p0), .val (.int p1)] [(.int p1), (.int p0)]))
  by_cases hc2_1 : p1 < p0
  · refine Good.back (fun _ k => XS.icmpYes X0.here hx rfl (pc0 := 2) (pc' := 9) rfl (hb hby own_d9_2) rfl (tlt hc2_1).2.2.1 (by decide) (by decide) k) ?_
    show Good p e below _ (s₁.setTop (mkF m 9 #[.val (.int p0), .val (.int p1)] []))
    refine Good.back (fun _ k => XS.iloadN X0.here hx rfl (hb hby own_d9_9) rfl k) ?_
    show Good p e below _ (s₁.setTop (mkF m 10 #[.val (.int p0), .val (.int p1)] [(.int p1)]))
    obtain ⟨fs2, hr2, hrun2, hended2, hW2, hsame2⟩ := X0.leave (v := some (.int p1)) (fun h => by rw [Bd.returns] at h; cases h)
    refine Good.done (retI X0 hx Bd.returns (hb hby own_d9_10) hr2) hrun2 hended2 ⟨_, _, rfl, ?_, ⟨_, rfl⟩, hW2, hsame2.mono (by decide) (by decide)⟩
    show Q9 Z p0 p1 h0 n0 _ s₁.heap _
    rw [e0]
    exact ⟨by rw [if_pos hc2_1], N0, rfl⟩
  · refine Good.back (fun _ k => XS.icmpNo X0.here hx rfl (hb hby own_d9_2) rfl (flt hc2_1).2.2.1 k) ?_
    show Good p e below _ (s₁.setTop (mkF m 5 #[.val (.int p0), .val (.int p1)] []))
    refine Good.back (fun _ k => XS.iloadN X0.here hx rfl (hb hby own_d9_5) rfl k) ?_
    show Good p e below _ (s₁.setTop (mkF m 6 #[.val (.int p0), .val (.int p1)] [(.int p0)]))
    refine Good.back (fun _ k => XS.goto X0.here hx rfl (pc0 := 6) (pc' := 10) rfl (hb hby own_d9_6) (by decide) (by decide) k) ?_
    show Good p e below _ (s₁.setTop (mkF m 10 #[.val (.int p0), .val (.int p1)] [(.int p0)]))
    obtain ⟨fs3, hr3, hrun3, hended3, hW3, hsame3⟩ := X0.leave (v := some (.int p0)) (fun h => by rw [Bd.returns] at h; cases h)
    refine Good.done (retI X0 hx Bd.returns (hb hby own_d9_10) hr3) hrun3 hended3 ⟨_, _, rfl, ?_, ⟨_, rfl⟩, hW3, hsame3.mono (by decide) (by decide)⟩
    show Q9 Z p0 p1 h0 n0 _ s₁.heap _
    rw [e0]
    exact ⟨by rw [if_neg hc2_1], N0, rfl⟩
theorem own_pn0 : plainName "org/ludarium/games/sabacc/Chips" = true := by first | (simp [plainName, overriddenIn]; done) | decide +kernel
theorem own_d2_0 : decode prog_13_method_2_code 0 = .ok (.aload_n 0, 1) := by decide +kernel
theorem own_d2_1 : decode prog_13_method_2_code 1 = .ok (.invokespecial 16, 3) := by decide +kernel
theorem own_d2_4 : decode prog_13_method_2_code 4 = .ok (.aload_n 0, 1) := by decide +kernel
theorem own_d2_5 : decode prog_13_method_2_code 5 = .ok (.aload_n 1, 1) := by decide +kernel
theorem own_d2_6 : decode prog_13_method_2_code 6 = .ok (.putfield 7, 3) := by decide +kernel
theorem own_d2_9 : decode prog_13_method_2_code 9 = .ok (.aload_n 0, 1) := by decide +kernel
theorem own_d2_10 : decode prog_13_method_2_code 10 = .ok (.iload_n 2, 1) := by decide +kernel
theorem own_d2_11 : decode prog_13_method_2_code 11 = .ok (.putfield 21, 3) := by decide +kernel
theorem own_d2_14 : decode prog_13_method_2_code 14 = .ok (.return_, 1) := by decide +kernel
theorem own_ef_2 (m : MethodId) (x0 : Addr) (x1 : Addr) (x2 : Int32) : entryFrame m #[(.ref x0), (.ref x1), (.int x2)] 3 = mkF m 0 #[.val (.ref x0), .val (.ref x1), .val (.int x2)] [] := by first | (simp [entryFrame, mkF, argsToLocals, Value.category]; done) | rfl
def Q2 (Z : State) (r0 : Addr) (r1 : Addr) (p2 : Int32) (h0 : Heap) (n0 : Nat) (v : Option Value) (h : Heap) (L : List Loc) : Prop := v = none ∧ Fr n0 L ∧ Keep h0 h [r0] ∧ Fld Z h r0 "org/ludarium/games/sabacc/Chips" "held" "[I" (.ref r1) ∧ Fld Z h r0 "org/ludarium/games/sabacc/Chips" "sabaccPot" "I" (.int p2)
set_option maxRecDepth 65536 in
set_option maxHeartbeats 40000000 in
theorem rm2 (l : Launch) (Z : State) (a0 : Array Value) (hw : ∀ d ∈ tables_1, d.before a0 Z = true) (ws : List Jvm.Cond) (r0 : Addr) (r1 : Addr) (p2 : Int32) (h0 : Heap) (n0 : Nat) (Z0 : n0 ≤ h0.size) (E0 : Exa Z h0 r0 "org/ludarium/games/sabacc/Chips") (g0 : n0 ≤ r0) (F_held : Fld Z h0 r0 "org/ludarium/games/sabacc/Chips" "held" "[I" .null) (F_pot : Fld Z h0 r0 "org/ludarium/games/sabacc/Chips" "sabaccPot" "I" (.int (0 : Int32))) :
    MetFree l (⟨"org/ludarium/games/sabacc/Chips", "<init>", "([II)V"⟩ : MethodName) (head1 (Jvm.Cond.code (⟨"org/ludarium/games/sabacc/Chips", "<init>", "([II)V"⟩ : MethodName) prog_13_method_2_code 3 none :: ws) ({ frames := 1, cells := 0, slots := 0, locals := 12 } : Room)) (fun a U => a = #[(.ref r0), (.ref r1), (.int p2)] ∧ Z.Warmed39 U.vm ∧ U.heap = h0) (fun _ _ _ _ _ => True) (fun _ U o U' => ∃ v L, o = .returned v ∧ Q2 Z r0 r1 p2 h0 n0 v U'.heap L ∧ FrameEnd U o U' L ({ frames := 1, cells := 0, slots := 0, locals := 12 } : Room).cells ({ frames := 1, cells := 0, slots := 0, locals := 12 } : Room).slots) := by
  refine MetFree.of_bodySF (plainFor_of_name own_pn0) hisR ?_
  intro p e s m args below meth c s₁ Bd hml0 hP hK
  obtain ⟨rfl, hZ, hh⟩ := hP
  have hx := Bd.exec
  have hby := Bd.bytes
  have hml : c.maxLocals = 3 := hml0
  have hown : s.vm.findClass "org/ludarium/games/sabacc/Chips" = some m.cls := findClass_of_methodNamed Bd.named
  have hnm := (name_of_methodNamed Bd.named Bd.method).1
  have X0 : Stand p l e ({ frames := 1, cells := 0, slots := 0, locals := 12 } : Room) s m #[(.ref r0), (.ref r1), (.int p2)] below meth c s₁ [] 0 0 := Stand.of_body Bd
  have e0 : s₁.heap = h0 := by rw [← hh, Bd.state]; rfl
  have N0 := Fr.nil n0
  have KR : Keep h0 h0 [r0] := Keep.refl h0 _
  show Good p e below (fun o U' => ∃ v L, o = .returned v ∧ Q2 Z r0 r1 p2 h0 n0 v U'.heap L ∧ FrameEnd s o U' L ({ frames := 1, cells := 0, slots := 0, locals := 12 } : Room).cells ({ frames := 1, cells := 0, slots := 0, locals := 12 } : Room).slots) _
  refine Good.back (S' := s₁.setTop (mkF m 0 #[.val (.ref r0), .val (.ref r1), .val (.int p2)] [])) (fun t k => castTop (own_ef_2 m r0 r1 p2) k) ?_
  show Good p e below _ (s₁.setTop (mkF m 0 #[.val (.ref r0), .val (.ref r1), .val (.int p2)] []))
  refine Good.back (fun _ k => XS.aloadN X0.here hx rfl (hb hby own_d2_0) rfl rfl k) ?_
  show Good p e below _ (s₁.setTop (mkF m 1 #[.val (.ref r0), .val (.ref r1), .val (.int p2)] [(.ref r0)]))
  obtain ⟨T1, X1, e1, st1⟩ := initO X0 hx hZ hown (hw _ (List.mem_of_getElem? (i := 10) rfl)) (hw _ (List.mem_of_getElem? (i := 11) rfl)) (hw _ (List.mem_of_getElem? (i := 12) rfl)) e0 (g := (mkF m 1 #[.val (.ref r0), .val (.ref r1), .val (.int p2)] [(.ref r0)])) rfl (by rw [hml]; rfl) rfl (hb hby own_d2_1) (by decide) (W := 0) (by show 2 * 0 + _ ≤ _; exact Nat.le_of_eq rfl) (by decide)
  refine Good.back st1 ?_
  show Good p e below _ (T1.setTop (mkF m 4 #[.val (.ref r0), .val (.ref r1), .val (.int p2)] []))
  refine Good.back (fun _ k => XS.aloadN X1.here hx rfl (hb hby own_d2_4) rfl rfl k) ?_
  show Good p e below _ (T1.setTop (mkF m 5 #[.val (.ref r0), .val (.ref r1), .val (.int p2)] [(.ref r0)]))
  refine Good.back (fun _ k => XS.aloadN X1.here hx rfl (hb hby own_d2_5) rfl rfl k) ?_
  show Good p e below _ (T1.setTop (mkF m 6 #[.val (.ref r0), .val (.ref r1), .val (.int p2)] [(.ref r1), (.ref r0)]))
  obtain ⟨T2, h2, X2, e2, W2, st2⟩ := putF X1 hx hZ hown (host := "") (Or.inl (hw _ (List.mem_of_getElem? (i := 13) rfl))) Via.refl e1 F_held E0 (Or.inr ⟨(hw _ (List.mem_of_getElem? (i := 14) rfl)), rfl, hnm⟩) (hw _ (List.mem_of_getElem? (i := 1) rfl)) (ty := (.array .int)) (by decide) rfl rfl (g := (mkF m 6 #[.val (.ref r0), .val (.ref r1), .val (.int p2)] [(.ref r1), (.ref r0)])) rfl rfl (hb hby own_d2_6)
  refine Good.back st2 ?_
  have f_3 : Fld Z h2 r0 "org/ludarium/games/sabacc/Chips" "held" "[I" (.ref r1) := Fld.same W2 F_held
  have N2 := Fr.snoc X2 N0 g0
  have Z4 : n0 ≤ h2.size := Nat.le_trans Z0 (Keep.of_wr W2).1
  have K5 : Keep h0 h2 [r0] := KR.wr W2 (Or.inl (List.mem_of_getElem? (i := 0) rfl))
  show Good p e below _ (T2.setTop (mkF m 9 #[.val (.ref r0), .val (.ref r1), .val (.int p2)] []))
  refine Good.back (fun _ k => XS.aloadN X2.here hx rfl (hb hby own_d2_9) rfl rfl k) ?_
  show Good p e below _ (T2.setTop (mkF m 10 #[.val (.ref r0), .val (.ref r1), .val (.int p2)] [(.ref r0)]))
  refine Good.back (fun _ k => XS.iloadN X2.here hx rfl (hb hby own_d2_10) rfl k) ?_
  show Good p e below _ (T2.setTop (mkF m 11 #[.val (.ref r0), .val (.ref r1), .val (.int p2)] [(.int p2), (.ref r0)]))
  have f_6 : Fld Z h2 r0 "org/ludarium/games/sabacc/Chips" "sabaccPot" "I" (.int (0 : Int32)) := Fld.other W2 F_pot (Or.inr (slot_ne (Or.inl (hw _ (List.mem_of_getElem? (i := 16) rfl))) (Or.inr (hw _ (List.mem_of_getElem? (i := 14) rfl))) (by decide) (t := .int) (t' := (.array .int)) (by decide) (by decide)))
  have f_7 : Exa Z h2 r0 "org/ludarium/games/sabacc/Chips" := Exa.wr W2 E0
  obtain ⟨T8, h8, X8, e8, W8, st8⟩ := putF X2 hx hZ hown (host := "") (Or.inl (hw _ (List.mem_of_getElem? (i := 15) rfl))) Via.refl e2 f_6 f_7 (Or.inl (hw _ (List.mem_of_getElem? (i := 16) rfl))) (hw _ (List.mem_of_getElem? (i := 1) rfl)) (ty := .int) (by decide) rfl rfl (g := (mkF m 11 #[.val (.ref r0), .val (.ref r1), .val (.int p2)] [(.int p2), (.ref r0)])) rfl rfl (hb hby own_d2_11)
  refine Good.back st8 ?_
  have f_9 : Fld Z h8 r0 "org/ludarium/games/sabacc/Chips" "sabaccPot" "I" (.int p2) := Fld.same W8 f_6
  have N8 := Fr.snoc X8 N2 g0
  have Z10 : n0 ≤ h8.size := Nat.le_trans Z4 (Keep.of_wr W8).1
  have K11 : Keep h0 h8 [r0] := K5.wr W8 (Or.inl (List.mem_of_getElem? (i := 0) rfl))
  show Good p e below _ (T8.setTop (mkF m 14 #[.val (.ref r0), .val (.ref r1), .val (.int p2)] []))
  obtain ⟨fs12, hr12, hrun12, hended12, hW12, hsame12⟩ := X8.leave (v := none) (fun _ => rfl)
  refine Good.done (X8.returnOut hx Bd.returns (hb hby own_d2_14) hr12) hrun12 hended12 ⟨_, _, rfl, ?_, ⟨_, rfl⟩, hW12, hsame12.mono (by decide) (by decide)⟩
  show Q2 Z r0 r1 p2 h0 n0 _ T8.heap _
  rw [e8]
  have f_13 : Fld Z h8 r0 "org/ludarium/games/sabacc/Chips" "held" "[I" (.ref r1) := Fld.other W8 f_3 (Or.inr (slot_ne (Or.inr (hw _ (List.mem_of_getElem? (i := 14) rfl))) (Or.inl (hw _ (List.mem_of_getElem? (i := 16) rfl))) (by decide) (t := (.array .int)) (t' := .int) (by decide) (by decide)))
  exact ⟨rfl, N8, K11, f_13, f_9⟩
theorem own_d5_0 : decode prog_13_method_6_code 0 = .ok (.aload_n 0, 1) := by decide +kernel
theorem own_d5_1 : decode prog_13_method_6_code 1 = .ok (.getfield 21, 3) := by decide +kernel
theorem own_d5_4 : decode prog_13_method_6_code 4 = .ok (.ireturn, 1) := by decide +kernel
theorem own_ef_5 (m : MethodId) (x0 : Addr) : entryFrame m #[(.ref x0)] 1 = mkF m 0 #[.val (.ref x0)] [] := by first | (simp [entryFrame, mkF, argsToLocals, Value.category]; done) | rfl
def Q5 (Z : State) (r0 : Addr) (w : Int32) (h0 : Heap) (n0 : Nat) (v : Option Value) (h : Heap) (L : List Loc) : Prop := v = some (.int w) ∧ Fr n0 L ∧ h = h0
set_option maxRecDepth 65536 in
set_option maxHeartbeats 40000000 in
theorem rm5 (l : Launch) (Z : State) (a0 : Array Value) (hw : ∀ d ∈ tables_1, d.before a0 Z = true) (ws : List Jvm.Cond) (r0 : Addr) (w : Int32) (h0 : Heap) (n0 : Nat) (Z0 : n0 ≤ h0.size) (F_pot : Fld Z h0 r0 "org/ludarium/games/sabacc/Chips" "sabaccPot" "I" (.int w)) :
    MetFree l (⟨"org/ludarium/games/sabacc/Chips", "sabaccPot", "()I"⟩ : MethodName) (head1 (Jvm.Cond.code (⟨"org/ludarium/games/sabacc/Chips", "sabaccPot", "()I"⟩ : MethodName) prog_13_method_6_code 1 (some .int) :: ws) ({ frames := 0, cells := 0, slots := 0, locals := 0 } : Room)) (fun a U => a = #[(.ref r0)] ∧ Z.Warmed39 U.vm ∧ U.heap = h0) (fun _ _ _ _ _ => True) (fun _ U o U' => ∃ v L, o = .returned v ∧ Q5 Z r0 w h0 n0 v U'.heap L ∧ FrameEnd U o U' L ({ frames := 0, cells := 0, slots := 0, locals := 0 } : Room).cells ({ frames := 0, cells := 0, slots := 0, locals := 0 } : Room).slots) := by
  refine MetFree.of_bodySF (plainFor_of_name own_pn0) hisR ?_
  intro p e s m args below meth c s₁ Bd hml0 hP hK
  obtain ⟨rfl, hZ, hh⟩ := hP
  have hx := Bd.exec
  have hby := Bd.bytes
  have hml : c.maxLocals = 1 := hml0
  have hown : s.vm.findClass "org/ludarium/games/sabacc/Chips" = some m.cls := findClass_of_methodNamed Bd.named
  have hnm := (name_of_methodNamed Bd.named Bd.method).1
  have X0 : Stand p l e ({ frames := 0, cells := 0, slots := 0, locals := 0 } : Room) s m #[(.ref r0)] below meth c s₁ [] 0 0 := Stand.of_body Bd
  have e0 : s₁.heap = h0 := by rw [← hh, Bd.state]; rfl
  have N0 := Fr.nil n0
  show Good p e below (fun o U' => ∃ v L, o = .returned v ∧ Q5 Z r0 w h0 n0 v U'.heap L ∧ FrameEnd s o U' L ({ frames := 0, cells := 0, slots := 0, locals := 0 } : Room).cells ({ frames := 0, cells := 0, slots := 0, locals := 0 } : Room).slots) _
  refine Good.back (S' := s₁.setTop (mkF m 0 #[.val (.ref r0)] [])) (fun t k => castTop (own_ef_5 m r0) k) ?_
  show Good p e below _ (s₁.setTop (mkF m 0 #[.val (.ref r0)] []))
  refine Good.back (fun _ k => XS.aloadN X0.here hx rfl (hb hby own_d5_0) rfl rfl k) ?_
  show Good p e below _ (s₁.setTop (mkF m 1 #[.val (.ref r0)] [(.ref r0)]))
  obtain ⟨T1, X1, e1, st1⟩ := getF X0 hx hZ hown (host := "") (Or.inl (hw _ (List.mem_of_getElem? (i := 15) rfl))) Via.refl e0 F_pot (g := (mkF m 1 #[.val (.ref r0)] [(.ref r0)])) rfl rfl (hb hby own_d5_1)
  refine Good.back st1 ?_
  show Good p e below _ (T1.setTop (mkF m 4 #[.val (.ref r0)] [(.int w)]))
  obtain ⟨fs2, hr2, hrun2, hended2, hW2, hsame2⟩ := X1.leave (v := some (.int w)) (fun h => by rw [Bd.returns] at h; cases h)
  refine Good.done (retI X1 hx Bd.returns (hb hby own_d5_4) hr2) hrun2 hended2 ⟨_, _, rfl, ?_, ⟨_, rfl⟩, hW2, hsame2.mono (by decide) (by decide)⟩
  show Q5 Z r0 w h0 n0 _ T1.heap _
  rw [e1]
  exact ⟨rfl, N0, rfl⟩
theorem own_pn1 : plainName "java/util/Arrays" = true := by first | (simp [plainName, overriddenIn]; done) | decide +kernel
theorem own_d4_0 : decode jdk_65_method_103_code 0 = .ok (.iconst 0, 1) := by decide +kernel
theorem own_d4_1 : decode jdk_65_method_103_code 1 = .ok (.istore_n 2, 1) := by decide +kernel
theorem own_d4_2 : decode jdk_65_method_103_code 2 = .ok (.aload_n 0, 1) := by decide +kernel
theorem own_d4_3 : decode jdk_65_method_103_code 3 = .ok (.arraylength, 1) := by decide +kernel
theorem own_d4_4 : decode jdk_65_method_103_code 4 = .ok (.istore_n 3, 1) := by decide +kernel
theorem own_d4_5 : decode jdk_65_method_103_code 5 = .ok (.iload_n 2, 1) := by decide +kernel
theorem own_d4_6 : decode jdk_65_method_103_code 6 = .ok (.iload_n 3, 1) := by decide +kernel
theorem own_d4_7 : decode jdk_65_method_103_code 7 = .ok (.if_icmp .ge 13, 3) := by decide +kernel
theorem own_d4_20 : decode jdk_65_method_103_code 20 = .ok (.return_, 1) := by decide +kernel
theorem own_ef_4_0 (m : MethodId) (x0 : Addr) (x1 : Int32) : entryFrame m #[(.ref x0), (.int x1)] 4 = mkF m 0 #[.val (.ref x0), .val (.int x1), .unset, .unset] [] := by first | (simp [entryFrame, mkF, argsToLocals, Value.category]; done) | rfl
def Q4_0 (Z : State) (r0 : Addr) (p1 : Int32) (kk : ClassId) (h0 : Heap) (n0 : Nat) (v : Option Value) (h : Heap) (L : List Loc) : Prop := v = none ∧ Fr n0 L ∧ Keep h0 h [r0] ∧ Arv Z h r0 kk .int (0 : Int32) [] (.int (0 : Int32))
set_option maxRecDepth 65536 in
set_option maxHeartbeats 40000000 in
theorem rm4_0 (l : Launch) (Z : State) (a0 : Array Value) (hw : ∀ d ∈ tables_1, d.before a0 Z = true) (ws : List Jvm.Cond) (r0 : Addr) (p1 : Int32) (kk : ClassId) (h0 : Heap) (n0 : Nat) (Z0 : n0 ≤ h0.size) (V0 : Arv Z h0 r0 kk .int (0 : Int32) [] (.int (0 : Int32))) (g0 : n0 ≤ r0) :
    MetFree l (⟨"java/util/Arrays", "fill", "([II)V"⟩ : MethodName) (head1 (Jvm.Cond.code (⟨"java/util/Arrays", "fill", "([II)V"⟩ : MethodName) jdk_65_method_103_code 4 none :: ws) ({ frames := 0, cells := 0, slots := 0, locals := 0 } : Room)) (fun a U => a = #[(.ref r0), (.int p1)] ∧ Z.Warmed39 U.vm ∧ U.heap = h0) (fun _ _ _ _ _ => True) (fun _ U o U' => ∃ v L, o = .returned v ∧ Q4_0 Z r0 p1 kk h0 n0 v U'.heap L ∧ FrameEnd U o U' L ({ frames := 0, cells := 0, slots := 0, locals := 0 } : Room).cells ({ frames := 0, cells := 0, slots := 0, locals := 0 } : Room).slots) := by
  refine MetFree.of_bodySF (plainFor_of_name own_pn1) hisR ?_
  intro p e s m args below meth c s₁ Bd hml0 hP hK
  obtain ⟨rfl, hZ, hh⟩ := hP
  have hx := Bd.exec
  have hby := Bd.bytes
  have hml : c.maxLocals = 4 := hml0
  have hown : s.vm.findClass "java/util/Arrays" = some m.cls := findClass_of_methodNamed Bd.named
  have hnm := (name_of_methodNamed Bd.named Bd.method).1
  have X0 : Stand p l e ({ frames := 0, cells := 0, slots := 0, locals := 0 } : Room) s m #[(.ref r0), (.int p1)] below meth c s₁ [] 0 0 := Stand.of_body Bd
  have e0 : s₁.heap = h0 := by rw [← hh, Bd.state]; rfl
  have N0 := Fr.nil n0
  have KR : Keep h0 h0 [r0] := Keep.refl h0 _
  show Good p e below (fun o U' => ∃ v L, o = .returned v ∧ Q4_0 Z r0 p1 kk h0 n0 v U'.heap L ∧ FrameEnd s o U' L ({ frames := 0, cells := 0, slots := 0, locals := 0 } : Room).cells ({ frames := 0, cells := 0, slots := 0, locals := 0 } : Room).slots) _
  refine Good.back (S' := s₁.setTop (mkF m 0 #[.val (.ref r0), .val (.int p1), .unset, .unset] [])) (fun t k => castTop (own_ef_4_0 m r0 p1) k) ?_
  show Good p e below _ (s₁.setTop (mkF m 0 #[.val (.ref r0), .val (.int p1), .unset, .unset] []))
  refine Good.back (fun _ k => XS.iconst X0.here hx rfl (hb hby own_d4_0) k) ?_
  show Good p e below _ (s₁.setTop (mkF m 1 #[.val (.ref r0), .val (.int p1), .unset, .unset] [(.int (0 : Int32))]))
  refine Good.back (fun _ k => XS.istoreN X0.here hx rfl (hb hby own_d4_1) rfl (l' := #[.val (.ref r0), .val (.int p1), .val (.int (0 : Int32)), .unset]) rfl k) ?_
  show Good p e below _ (s₁.setTop (mkF m 2 #[.val (.ref r0), .val (.int p1), .val (.int (0 : Int32)), .unset] []))
  refine Good.back (fun _ k => XS.aloadN X0.here hx rfl (hb hby own_d4_2) rfl rfl k) ?_
  show Good p e below _ (s₁.setTop (mkF m 3 #[.val (.ref r0), .val (.int p1), .val (.int (0 : Int32)), .unset] [(.ref r0)]))
  have fc1 := V0
  obtain ⟨cl1, Ar1, q1, S1, N1', H1, G1⟩ := fc1
  refine Good.back (X0.arraylength hx (by rw [e0]; exact Ar1.1) (State.isArrayOf_alike hZ.alike Ar1.2.1) (g := (mkF m 3 #[.val (.ref r0), .val (.int p1), .val (.int (0 : Int32)), .unset] [(.ref r0)])) rfl rfl (hb hby own_d4_3)) ?_
  rw [len_of S1 N1']
  show Good p e below _ (s₁.setTop (mkF m 4 #[.val (.ref r0), .val (.int p1), .val (.int (0 : Int32)), .unset] [(.int (0 : Int32))]))
  refine Good.back (fun _ k => XS.istoreN X0.here hx rfl (hb hby own_d4_4) rfl (l' := #[.val (.ref r0), .val (.int p1), .val (.int (0 : Int32)), .val (.int (0 : Int32))]) rfl k) ?_
  show Good p e below _ (s₁.setTop (mkF m 5 #[.val (.ref r0), .val (.int p1), .val (.int (0 : Int32)), .val (.int (0 : Int32))] []))
  refine Good.back (fun _ k => XS.iloadN X0.here hx rfl (hb hby own_d4_5) rfl k) ?_
  show Good p e below _ (s₁.setTop (mkF m 6 #[.val (.ref r0), .val (.int p1), .val (.int (0 : Int32)), .val (.int (0 : Int32))] [(.int (0 : Int32))]))
  refine Good.back (fun _ k => XS.iloadN X0.here hx rfl (hb hby own_d4_6) rfl k) ?_
  show Good p e below _ (s₁.setTop (mkF m 7 #[.val (.ref r0), .val (.int p1), .val (.int (0 : Int32)), .val (.int (0 : Int32))] [(.int (0 : Int32)), (.int (0 : Int32))]))
  refine Good.back (fun _ k => XS.icmpYes X0.here hx rfl (pc0 := 7) (pc' := 20) rfl (hb hby own_d4_7) rfl (flt (by decide : ¬ ((0 : Int32) < (0 : Int32)))).2.1 (by decide) (by decide) k) ?_
  show Good p e below _ (s₁.setTop (mkF m 20 #[.val (.ref r0), .val (.int p1), .val (.int (0 : Int32)), .val (.int (0 : Int32))] []))
  obtain ⟨fs2, hr2, hrun2, hended2, hW2, hsame2⟩ := X0.leave (v := none) (fun _ => rfl)
  refine Good.done (X0.returnOut hx Bd.returns (hb hby own_d4_20) hr2) hrun2 hended2 ⟨_, _, rfl, ?_, ⟨_, rfl⟩, hW2, hsame2.mono (by decide) (by decide)⟩
  show Q4_0 Z r0 p1 kk h0 n0 _ s₁.heap _
  rw [e0]
  exact ⟨rfl, N0, KR, V0⟩
theorem own_pd28 : parseMethodDescriptor "([II)V" = some ⟨[(.array .int), .int], none⟩ := by decide +kernel
theorem own_d1_0 : decode prog_13_method_1_code 0 = .ok (.aload_n 0, 1) := by decide +kernel
theorem own_d1_1 : decode prog_13_method_1_code 1 = .ok (.iload_n 1, 1) := by decide +kernel
theorem own_d1_2 : decode prog_13_method_1_code 2 = .ok (.newarray .int, 2) := by decide +kernel
theorem own_d1_4 : decode prog_13_method_1_code 4 = .ok (.iconst 0, 1) := by decide +kernel
theorem own_d1_5 : decode prog_13_method_1_code 5 = .ok (.invokespecial 1, 3) := by decide +kernel
theorem own_d1_8 : decode prog_13_method_1_code 8 = .ok (.aload_n 0, 1) := by decide +kernel
theorem own_d1_9 : decode prog_13_method_1_code 9 = .ok (.getfield 7, 3) := by decide +kernel
theorem own_d1_12 : decode prog_13_method_1_code 12 = .ok (.iload_n 2, 1) := by decide +kernel
theorem own_d1_13 : decode prog_13_method_1_code 13 = .ok (.invokestatic 11, 3) := by decide +kernel
theorem own_d1_16 : decode prog_13_method_1_code 16 = .ok (.return_, 1) := by decide +kernel
theorem own_ef_1_0 (m : MethodId) (x0 : Addr) (x1 : Int32) (x2 : Int32) : entryFrame m #[(.ref x0), (.int x1), (.int x2)] 3 = mkF m 0 #[.val (.ref x0), .val (.int x1), .val (.int x2)] [] := by first | (simp [entryFrame, mkF, argsToLocals, Value.category]; done) | rfl
def Q1_0 (Z : State) (r0 : Addr) (p2 : Int32) (h0 : Heap) (n0 : Nat) (v : Option Value) (h : Heap) (L : List Loc) : Prop := ∃ (ar : Addr) (kk : ClassId), v = none ∧ Fr n0 L ∧ Keep h0 h [r0] ∧ h0.size ≤ ar ∧ Fld Z h r0 "org/ludarium/games/sabacc/Chips" "held" "[I" (.ref ar) ∧ Fld Z h r0 "org/ludarium/games/sabacc/Chips" "sabaccPot" "I" (.int (0 : Int32)) ∧ Arv Z h ar kk .int (0 : Int32) [] (.int (0 : Int32))
set_option maxRecDepth 65536 in
set_option maxHeartbeats 40000000 in
theorem rm1_0 (l : Launch) (Z : State) (a0 : Array Value) (hw : ∀ d ∈ tables_1, d.before a0 Z = true) (ws : List Jvm.Cond) (r0 : Addr) (p2 : Int32) (h0 : Heap) (n0 : Nat) (Z0 : n0 ≤ h0.size) (E0 : Exa Z h0 r0 "org/ludarium/games/sabacc/Chips") (g0 : n0 ≤ r0) (F_held : Fld Z h0 r0 "org/ludarium/games/sabacc/Chips" "held" "[I" .null) (F_pot : Fld Z h0 r0 "org/ludarium/games/sabacc/Chips" "sabaccPot" "I" (.int (0 : Int32))) :
    MetFree l (⟨"org/ludarium/games/sabacc/Chips", "<init>", "(II)V"⟩ : MethodName) (head1 (Jvm.Cond.code (⟨"org/ludarium/games/sabacc/Chips", "<init>", "(II)V"⟩ : MethodName) prog_13_method_1_code 3 none :: ws) ({ frames := 2, cells := 1, slots := 0, locals := 26 } : Room)) (fun a U => a = #[(.ref r0), (.int (0 : Int32)), (.int p2)] ∧ Z.Warmed39 U.vm ∧ U.heap = h0) (fun _ _ _ _ _ => True) (fun _ U o U' => ∃ v L, o = .returned v ∧ Q1_0 Z r0 p2 h0 n0 v U'.heap L ∧ FrameEnd U o U' L ({ frames := 2, cells := 1, slots := 0, locals := 26 } : Room).cells ({ frames := 2, cells := 1, slots := 0, locals := 26 } : Room).slots) := by
  refine MetFree.of_bodySF (plainFor_of_name own_pn0) hisR ?_
  intro p e s m args below meth c s₁ Bd hml0 hP hK
  obtain ⟨rfl, hZ, hh⟩ := hP
  have hx := Bd.exec
  have hby := Bd.bytes
  have hml : c.maxLocals = 3 := hml0
  have hown : s.vm.findClass "org/ludarium/games/sabacc/Chips" = some m.cls := findClass_of_methodNamed Bd.named
  have hnm := (name_of_methodNamed Bd.named Bd.method).1
  have X0 : Stand p l e ({ frames := 2, cells := 1, slots := 0, locals := 26 } : Room) s m #[(.ref r0), (.int (0 : Int32)), (.int p2)] below meth c s₁ [] 0 0 := Stand.of_body Bd
  have e0 : s₁.heap = h0 := by rw [← hh, Bd.state]; rfl
  have N0 := Fr.nil n0
  have KR : Keep h0 h0 [r0] := Keep.refl h0 _
  show Good p e below (fun o U' => ∃ v L, o = .returned v ∧ Q1_0 Z r0 p2 h0 n0 v U'.heap L ∧ FrameEnd s o U' L ({ frames := 2, cells := 1, slots := 0, locals := 26 } : Room).cells ({ frames := 2, cells := 1, slots := 0, locals := 26 } : Room).slots) _
  refine Good.back (S' := s₁.setTop (mkF m 0 #[.val (.ref r0), .val (.int (0 : Int32)), .val (.int p2)] [])) (fun t k => castTop (own_ef_1_0 m r0 (0 : Int32) p2) k) ?_
  show Good p e below _ (s₁.setTop (mkF m 0 #[.val (.ref r0), .val (.int (0 : Int32)), .val (.int p2)] []))
  refine Good.back (fun _ k => XS.aloadN X0.here hx rfl (hb hby own_d1_0) rfl rfl k) ?_
  show Good p e below _ (s₁.setTop (mkF m 1 #[.val (.ref r0), .val (.int (0 : Int32)), .val (.int p2)] [(.ref r0)]))
  refine Good.back (fun _ k => XS.iloadN X0.here hx rfl (hb hby own_d1_1) rfl k) ?_
  show Good p e below _ (s₁.setTop (mkF m 2 #[.val (.ref r0), .val (.int (0 : Int32)), .val (.int p2)] [(.int (0 : Int32)), (.ref r0)]))
  obtain ⟨T1, h1, k1, X1, e1, E1, A1, st1⟩ := newP X0 hx hZ (hw _ (List.mem_of_getElem? (i := 6) rfl)) e0 (g := (mkF m 2 #[.val (.ref r0), .val (.int (0 : Int32)), .val (.int p2)] [(.int (0 : Int32)), (.ref r0)])) rfl (hb hby own_d1_2) rfl (by decide) (cap := 0) (by decide) (by decide) (by decide) (by decide)
  obtain ⟨b1, g1⟩ : ∃ z, z = h0.size := ⟨_, rfl⟩
  rw [← g1] at A1 st1
  refine Good.back st1 ?_
  have g_b1 : n0 ≤ b1 := Nat.le_trans Z0 (Nat.le_of_eq g1.symm)
  have sz_b1 : h0.size ≤ b1 := Nat.le_trans KR.1 (Nat.le_of_eq g1.symm)
  have Z2 : n0 ≤ h1.size := Nat.le_trans Z0 E1.1
  have K3 : Keep h0 h1 [r0] := KR.ext E1
  have f_4 : Arv Z h1 b1 k1 .int (0 : Int32) [] (.int (0 : Int32)) := (Arv.new A1 (by decide)).pad (pad_rep [] (.int (0 : Int32)) 0)
  show Good p e below _ (T1.setTop (mkF m 4 #[.val (.ref r0), .val (.int (0 : Int32)), .val (.int p2)] [(.ref b1), (.ref r0)]))
  refine Good.back (fun _ k => XS.iconst X1.here hx rfl (hb hby own_d1_4) k) ?_
  show Good p e below _ (T1.setTop (mkF m 5 #[.val (.ref r0), .val (.int (0 : Int32)), .val (.int p2)] [(.int (0 : Int32)), (.ref b1), (.ref r0)]))
  have f_6 : Exa Z h1 r0 "org/ludarium/games/sabacc/Chips" := Exa.ext E1 E0
  have f_7 : Fld Z h1 r0 "org/ludarium/games/sabacc/Chips" "held" "[I" .null := Fld.ext E1 F_held
  have f_8 : Fld Z h1 r0 "org/ludarium/games/sabacc/Chips" "sabaccPot" "I" (.int (0 : Int32)) := Fld.ext E1 F_pot
  obtain ⟨_, _, ⟨T5, L5, k5, n5⟩, -, X5, ⟨Lc5, hQ5, l5, y5, z5⟩, st5⟩ := X1.specialBack hx (y := (⟨"org/ludarium/games/sabacc/Chips", "<init>", "([II)V"⟩ : MethodName)) rfl hown (mvT hZ (hw _ (List.mem_of_getElem? (i := 7) rfl))) (mvT hZ (hw _ (List.mem_of_getElem? (i := 8) rfl))) (mvT hZ (hw _ (List.mem_of_getElem? (i := 9) rfl))) (by decide) (backOf (W := 0) (rm2 l Z a0 hw [] r0 b1 (0 : Int32)  h1 n0 Z2 f_6 g0 f_7 f_8) hZ (hw _ (List.mem_of_getElem? (i := 9) rfl)) (hw _ (List.mem_of_getElem? (i := 2) rfl)) (by decide) (by decide)) (g := (mkF m 5 #[.val (.ref r0), .val (.int (0 : Int32)), .val (.int p2)] [(.int (0 : Int32)), (.ref b1), (.ref r0)])) rfl (by rw [hml]; rfl) (Steps.refl _) (a := r0) (argsL := [(.ref b1), (.int (0 : Int32))]) (rest := []) (lenOf own_pd28 rfl) rfl (by show 2 * 0 + _ ≤ _; exact Nat.le_of_eq rfl) (hb hby own_d1_5) (fun _ _ => ⟨rfl, e1, (by decide : 1 + 0 ≤ _), (by decide : 0 + 0 ≤ _)⟩)
  dsimp only [Pt.U, Pt.locs, Pt.cells, Pt.slots] at X5 l5 y5 z5 st5 hQ5
  subst l5 y5 z5
  obtain ⟨rfl, N5q, Kq5, o5_0, o5_1⟩ := hQ5
  have N5 := Fr.app N0 N5q
  have Z9 : n0 ≤ T5.heap.size := Nat.le_trans Z2 Kq5.1
  have K10 : Keep h0 T5.heap [r0] := K3.trans Kq5 (allS (Or.inl (List.mem_of_getElem? (i := 0) rfl)) all0)
  refine Good.back (fun _ k => st5.trans k) ?_
  show Good p e below _ (T5.setTop (mkF m 8 #[.val (.ref r0), .val (.int (0 : Int32)), .val (.int p2)] []))
  refine Good.back (fun _ k => XS.aloadN X5.here hx rfl (hb hby own_d1_8) rfl rfl k) ?_
  show Good p e below _ (T5.setTop (mkF m 9 #[.val (.ref r0), .val (.int (0 : Int32)), .val (.int p2)] [(.ref r0)]))
  obtain ⟨T11, X11, e11, st11⟩ := getF X5 hx hZ hown (host := "") (Or.inl (hw _ (List.mem_of_getElem? (i := 13) rfl))) Via.refl rfl o5_0 (g := (mkF m 9 #[.val (.ref r0), .val (.int (0 : Int32)), .val (.int p2)] [(.ref r0)])) rfl rfl (hb hby own_d1_9)
  refine Good.back st11 ?_
  show Good p e below _ (T11.setTop (mkF m 12 #[.val (.ref r0), .val (.int (0 : Int32)), .val (.int p2)] [(.ref b1)]))
  refine Good.back (fun _ k => XS.iloadN X11.here hx rfl (hb hby own_d1_12) rfl k) ?_
  show Good p e below _ (T11.setTop (mkF m 13 #[.val (.ref r0), .val (.int (0 : Int32)), .val (.int p2)] [(.int p2), (.ref b1)]))
  have ne_r0_b1_14 : r0 ≠ b1 := Nat.ne_of_lt (Nat.lt_of_lt_of_le F_pot.lt (Nat.le_of_eq g1.symm))
  have f_13 : Arv Z T5.heap b1 k1 .int (0 : Int32) [] (.int (0 : Int32)) := Arv.keep f_4 Kq5 (ninS (Ne.symm ne_r0_b1_14) nin0)
  obtain ⟨_, _, ⟨T12, L12, k12, n12⟩, -, X12, ⟨Lc12, hQ12, l12, y12, z12⟩, st12⟩ := Jvm.LawKit.callS X11 hx (y := (⟨"java/util/Arrays", "fill", "([II)V"⟩ : MethodName)) hown (mvT hZ (hw _ (List.mem_of_getElem? (i := 17) rfl))) (mvT hZ (hw _ (List.mem_of_getElem? (i := 18) rfl))) (mvT hZ (hw _ (List.mem_of_getElem? (i := 19) rfl))) (mvT hZ (hw _ (List.mem_of_getElem? (i := 20) rfl))) (by decide) (backOf (W := 0) (rm4_0 l Z a0 hw [] b1 p2 k1 T5.heap n0 Z9 f_13 g_b1) hZ (hw _ (List.mem_of_getElem? (i := 20) rfl)) (hw _ (List.mem_of_getElem? (i := 19) rfl)) (by decide) (by decide)) (g := (mkF m 13 #[.val (.ref r0), .val (.int (0 : Int32)), .val (.int p2)] [(.int p2), (.ref b1)])) rfl (by rw [hml]; rfl) (argsL := [(.ref b1), (.int p2)]) (rest := []) (lenOf own_pd28 rfl) rfl (by show 2 * 0 + _ ≤ _; exact Nat.le_of_eq rfl) (hb hby own_d1_13) (fun _ _ => ⟨rfl, e11, (by decide : 1 + 0 ≤ _), (by decide : 0 + 0 ≤ _)⟩)
  dsimp only [Pt.U, Pt.locs, Pt.cells, Pt.slots] at X12 l12 y12 z12 st12 hQ12
  subst l12 y12 z12
  obtain ⟨rfl, N12q, Kq12, o12_0⟩ := hQ12
  have N12 := Fr.app N5 N12q
  have Z15 : n0 ≤ T12.heap.size := Nat.le_trans Z9 Kq12.1
  have K16 : Keep h0 T12.heap [r0] := K10.trans Kq12 (allS (Or.inr sz_b1) all0)
  refine Good.back st12 ?_
  show Good p e below _ (T12.setTop (mkF m 16 #[.val (.ref r0), .val (.int (0 : Int32)), .val (.int p2)] []))
  obtain ⟨fs17, hr17, hrun17, hended17, hW17, hsame17⟩ := X12.leave (v := none) (fun _ => rfl)
  refine Good.done (X12.returnOut hx Bd.returns (hb hby own_d1_16) hr17) hrun17 hended17 ⟨_, _, rfl, ?_, ⟨_, rfl⟩, hW17, hsame17.mono (by decide) (by decide)⟩
  show Q1_0 Z r0 p2 h0 n0 _ T12.heap _
  have f_18 : Fld Z T12.heap r0 "org/ludarium/games/sabacc/Chips" "held" "[I" (.ref b1) := Fld.keep o5_0 Kq12 (ninS ne_r0_b1_14 nin0)
  have f_19 : Fld Z T12.heap r0 "org/ludarium/games/sabacc/Chips" "sabaccPot" "I" (.int (0 : Int32)) := Fld.keep o5_1 Kq12 (ninS ne_r0_b1_14 nin0)
  exact ⟨b1, k1, rfl, N12, K16, sz_b1, f_18, f_19, o12_0⟩
theorem own_d6_0 : decode prog_13_method_7_code 0 = .ok (.aload_n 0, 1) := by decide +kernel
theorem own_d6_1 : decode prog_13_method_7_code 1 = .ok (.getfield 21, 3) := by decide +kernel
theorem own_d6_4 : decode prog_13_method_7_code 4 = .ok (.i2l, 1) := by decide +kernel
theorem own_d6_5 : decode prog_13_method_7_code 5 = .ok (.lstore_n 1, 1) := by decide +kernel
theorem own_d6_6 : decode prog_13_method_7_code 6 = .ok (.aload_n 0, 1) := by decide +kernel
theorem own_d6_7 : decode prog_13_method_7_code 7 = .ok (.getfield 7, 3) := by decide +kernel
theorem own_d6_10 : decode prog_13_method_7_code 10 = .ok (.astore_n 3, 1) := by decide +kernel
theorem own_d6_11 : decode prog_13_method_7_code 11 = .ok (.aload_n 3, 1) := by decide +kernel
theorem own_d6_12 : decode prog_13_method_7_code 12 = .ok (.arraylength, 1) := by decide +kernel
theorem own_d6_13 : decode prog_13_method_7_code 13 = .ok (.istore 4, 2) := by decide +kernel
theorem own_d6_15 : decode prog_13_method_7_code 15 = .ok (.iconst 0, 1) := by decide +kernel
theorem own_d6_16 : decode prog_13_method_7_code 16 = .ok (.istore 5, 2) := by decide +kernel
theorem own_d6_18 : decode prog_13_method_7_code 18 = .ok (.iload 5, 2) := by decide +kernel
theorem own_d6_20 : decode prog_13_method_7_code 20 = .ok (.iload 4, 2) := by decide +kernel
theorem own_d6_22 : decode prog_13_method_7_code 22 = .ok (.if_icmp .ge 21, 3) := by decide +kernel
theorem own_d6_43 : decode prog_13_method_7_code 43 = .ok (.lload_n 1, 1) := by decide +kernel
theorem own_d6_44 : decode prog_13_method_7_code 44 = .ok (.lreturn, 1) := by decide +kernel
theorem own_ef_6_0 (m : MethodId) (x0 : Addr) : entryFrame m #[(.ref x0)] 7 = mkF m 0 #[.val (.ref x0), .unset, .unset, .unset, .unset, .unset, .unset] [] := by first | (simp [entryFrame, mkF, argsToLocals, Value.category]; done) | rfl
def Q6_0 (Z : State) (r0 : Addr) (w : Int32) (ar : Addr) (kk : ClassId) (h0 : Heap) (n0 : Nat) (v : Option Value) (h : Heap) (L : List Loc) : Prop := v = some (.long (w.toInt64)) ∧ Fr n0 L ∧ h = h0
set_option maxRecDepth 65536 in
set_option maxHeartbeats 40000000 in
theorem rm6_0 (l : Launch) (Z : State) (a0 : Array Value) (hw : ∀ d ∈ tables_1, d.before a0 Z = true) (ws : List Jvm.Cond) (r0 : Addr) (w : Int32) (ar : Addr) (kk : ClassId) (h0 : Heap) (n0 : Nat) (Z0 : n0 ≤ h0.size) (F_pot : Fld Z h0 r0 "org/ludarium/games/sabacc/Chips" "sabaccPot" "I" (.int w)) (F_held : Fld Z h0 r0 "org/ludarium/games/sabacc/Chips" "held" "[I" (.ref ar)) (V0 : Arv Z h0 ar kk .int (0 : Int32) [] (.int (0 : Int32))) :
    MetFree l (⟨"org/ludarium/games/sabacc/Chips", "total", "()J"⟩ : MethodName) (head1 (Jvm.Cond.code (⟨"org/ludarium/games/sabacc/Chips", "total", "()J"⟩ : MethodName) prog_13_method_7_code 7 (some .long) :: ws) ({ frames := 0, cells := 0, slots := 0, locals := 0 } : Room)) (fun a U => a = #[(.ref r0)] ∧ Z.Warmed39 U.vm ∧ U.heap = h0) (fun _ _ _ _ _ => True) (fun _ U o U' => ∃ v L, o = .returned v ∧ Q6_0 Z r0 w ar kk h0 n0 v U'.heap L ∧ FrameEnd U o U' L ({ frames := 0, cells := 0, slots := 0, locals := 0 } : Room).cells ({ frames := 0, cells := 0, slots := 0, locals := 0 } : Room).slots) := by
  refine MetFree.of_bodySF (plainFor_of_name own_pn0) hisR ?_
  intro p e s m args below meth c s₁ Bd hml0 hP hK
  obtain ⟨rfl, hZ, hh⟩ := hP
  have hx := Bd.exec
  have hby := Bd.bytes
  have hml : c.maxLocals = 7 := hml0
  have hown : s.vm.findClass "org/ludarium/games/sabacc/Chips" = some m.cls := findClass_of_methodNamed Bd.named
  have hnm := (name_of_methodNamed Bd.named Bd.method).1
  have X0 : Stand p l e ({ frames := 0, cells := 0, slots := 0, locals := 0 } : Room) s m #[(.ref r0)] below meth c s₁ [] 0 0 := Stand.of_body Bd
  have e0 : s₁.heap = h0 := by rw [← hh, Bd.state]; rfl
  have N0 := Fr.nil n0
  show Good p e below (fun o U' => ∃ v L, o = .returned v ∧ Q6_0 Z r0 w ar kk h0 n0 v U'.heap L ∧ FrameEnd s o U' L ({ frames := 0, cells := 0, slots := 0, locals := 0 } : Room).cells ({ frames := 0, cells := 0, slots := 0, locals := 0 } : Room).slots) _
  refine Good.back (S' := s₁.setTop (mkF m 0 #[.val (.ref r0), .unset, .unset, .unset, .unset, .unset, .unset] [])) (fun t k => castTop (own_ef_6_0 m r0) k) ?_
  show Good p e below _ (s₁.setTop (mkF m 0 #[.val (.ref r0), .unset, .unset, .unset, .unset, .unset, .unset] []))
  refine Good.back (fun _ k => XS.aloadN X0.here hx rfl (hb hby own_d6_0) rfl rfl k) ?_
  show Good p e below _ (s₁.setTop (mkF m 1 #[.val (.ref r0), .unset, .unset, .unset, .unset, .unset, .unset] [(.ref r0)]))
  obtain ⟨T1, X1, e1, st1⟩ := getF X0 hx hZ hown (host := "") (Or.inl (hw _ (List.mem_of_getElem? (i := 15) rfl))) Via.refl e0 F_pot (g := (mkF m 1 #[.val (.ref r0), .unset, .unset, .unset, .unset, .unset, .unset] [(.ref r0)])) rfl rfl (hb hby own_d6_1)
  refine Good.back st1 ?_
  show Good p e below _ (T1.setTop (mkF m 4 #[.val (.ref r0), .unset, .unset, .unset, .unset, .unset, .unset] [(.int w)]))
  refine Good.back (fun _ k => XS.i2l X1.here hx rfl (hb hby own_d6_4) rfl k) ?_
  show Good p e below _ (T1.setTop (mkF m 5 #[.val (.ref r0), .unset, .unset, .unset, .unset, .unset, .unset] [(.long (w.toInt64))]))
  refine Good.back (fun _ k => XS.lstoreN X1.here hx rfl (hb hby own_d6_5) rfl (l' := #[.val (.ref r0), .val (.long (w.toInt64)), .second, .unset, .unset, .unset, .unset]) rfl k) ?_
  show Good p e below _ (T1.setTop (mkF m 6 #[.val (.ref r0), .val (.long (w.toInt64)), .second, .unset, .unset, .unset, .unset] []))
  refine Good.back (fun _ k => XS.aloadN X1.here hx rfl (hb hby own_d6_6) rfl rfl k) ?_
  show Good p e below _ (T1.setTop (mkF m 7 #[.val (.ref r0), .val (.long (w.toInt64)), .second, .unset, .unset, .unset, .unset] [(.ref r0)]))
  obtain ⟨T2, X2, e2, st2⟩ := getF X1 hx hZ hown (host := "") (Or.inl (hw _ (List.mem_of_getElem? (i := 13) rfl))) Via.refl e1 F_held (g := (mkF m 7 #[.val (.ref r0), .val (.long (w.toInt64)), .second, .unset, .unset, .unset, .unset] [(.ref r0)])) rfl rfl (hb hby own_d6_7)
  refine Good.back st2 ?_
  show Good p e below _ (T2.setTop (mkF m 10 #[.val (.ref r0), .val (.long (w.toInt64)), .second, .unset, .unset, .unset, .unset] [(.ref ar)]))
  refine Good.back (fun _ k => XS.astoreN X2.here hx rfl (hb hby own_d6_10) rfl rfl (l' := #[.val (.ref r0), .val (.long (w.toInt64)), .second, .val (.ref ar), .unset, .unset, .unset]) rfl k) ?_
  show Good p e below _ (T2.setTop (mkF m 11 #[.val (.ref r0), .val (.long (w.toInt64)), .second, .val (.ref ar), .unset, .unset, .unset] []))
  refine Good.back (fun _ k => XS.aloadN X2.here hx rfl (hb hby own_d6_11) rfl rfl k) ?_
  show Good p e below _ (T2.setTop (mkF m 12 #[.val (.ref r0), .val (.long (w.toInt64)), .second, .val (.ref ar), .unset, .unset, .unset] [(.ref ar)]))
  have fc3 := V0
  obtain ⟨cl3, Ar3, q3, S3, N3', H3, G3⟩ := fc3
  refine Good.back (X2.arraylength hx (by rw [e2]; exact Ar3.1) (State.isArrayOf_alike hZ.alike Ar3.2.1) (g := (mkF m 12 #[.val (.ref r0), .val (.long (w.toInt64)), .second, .val (.ref ar), .unset, .unset, .unset] [(.ref ar)])) rfl rfl (hb hby own_d6_12)) ?_
  rw [len_of S3 N3']
  show Good p e below _ (T2.setTop (mkF m 13 #[.val (.ref r0), .val (.long (w.toInt64)), .second, .val (.ref ar), .unset, .unset, .unset] [(.int (0 : Int32))]))
  refine Good.back (fun _ k => XS.istore X2.here hx rfl (hb hby own_d6_13) rfl (l' := #[.val (.ref r0), .val (.long (w.toInt64)), .second, .val (.ref ar), .val (.int (0 : Int32)), .unset, .unset]) rfl k) ?_
  show Good p e below _ (T2.setTop (mkF m 15 #[.val (.ref r0), .val (.long (w.toInt64)), .second, .val (.ref ar), .val (.int (0 : Int32)), .unset, .unset] []))
  refine Good.back (fun _ k => XS.iconst X2.here hx rfl (hb hby own_d6_15) k) ?_
  show Good p e below _ (T2.setTop (mkF m 16 #[.val (.ref r0), .val (.long (w.toInt64)), .second, .val (.ref ar), .val (.int (0 : Int32)), .unset, .unset] [(.int (0 : Int32))]))
  refine Good.back (fun _ k => XS.istore X2.here hx rfl (hb hby own_d6_16) rfl (l' := #[.val (.ref r0), .val (.long (w.toInt64)), .second, .val (.ref ar), .val (.int (0 : Int32)), .val (.int (0 : Int32)), .unset]) rfl k) ?_
  show Good p e below _ (T2.setTop (mkF m 18 #[.val (.ref r0), .val (.long (w.toInt64)), .second, .val (.ref ar), .val (.int (0 : Int32)), .val (.int (0 : Int32)), .unset] []))
  refine Good.back (fun _ k => XS.iload X2.here hx rfl (hb hby own_d6_18) rfl k) ?_
  show Good p e below _ (T2.setTop (mkF m 20 #[.val (.ref r0), .val (.long (w.toInt64)), .second, .val (.ref ar), .val (.int (0 : Int32)), .val (.int (0 : Int32)), .unset] [(.int (0 : Int32))]))
  refine Good.back (fun _ k => XS.iload X2.here hx rfl (hb hby own_d6_20) rfl k) ?_
  show Good p e below _ (T2.setTop (mkF m 22 #[.val (.ref r0), .val (.long (w.toInt64)), .second, .val (.ref ar), .val (.int (0 : Int32)), .val (.int (0 : Int32)), .unset] [(.int (0 : Int32)), (.int (0 : Int32))]))
  refine Good.back (fun _ k => XS.icmpYes X2.here hx rfl (pc0 := 22) (pc' := 43) rfl (hb hby own_d6_22) rfl (flt (by decide : ¬ ((0 : Int32) < (0 : Int32)))).2.1 (by decide) (by decide) k) ?_
  show Good p e below _ (T2.setTop (mkF m 43 #[.val (.ref r0), .val (.long (w.toInt64)), .second, .val (.ref ar), .val (.int (0 : Int32)), .val (.int (0 : Int32)), .unset] []))
  refine Good.back (fun _ k => XS.lloadN X2.here hx rfl (hb hby own_d6_43) rfl k) ?_
  show Good p e below _ (T2.setTop (mkF m 44 #[.val (.ref r0), .val (.long (w.toInt64)), .second, .val (.ref ar), .val (.int (0 : Int32)), .val (.int (0 : Int32)), .unset] [(.long (w.toInt64))]))
  obtain ⟨fs4, hr4, hrun4, hended4, hW4, hsame4⟩ := X2.leave (v := some (.long (w.toInt64))) (fun h => by rw [Bd.returns] at h; cases h)
  refine Good.done (retOut X2 hx Bd.returns rfl (Or.inr (Or.inl ⟨rfl, rfl, _, rfl⟩)) (hb hby own_d6_44) hr4) hrun4 hended4 ⟨_, _, rfl, ?_, ⟨_, rfl⟩, hW4, hsame4.mono (by decide) (by decide)⟩
  show Q6_0 Z r0 w ar kk h0 n0 _ T2.heap _
  rw [e2]
  exact ⟨rfl, N0, rfl⟩
theorem own_d4_10 : decode jdk_65_method_103_code 10 = .ok (.aload_n 0, 1) := by decide +kernel
theorem own_d4_11 : decode jdk_65_method_103_code 11 = .ok (.iload_n 2, 1) := by decide +kernel
theorem own_d4_12 : decode jdk_65_method_103_code 12 = .ok (.iload_n 1, 1) := by decide +kernel
theorem own_d4_13 : decode jdk_65_method_103_code 13 = .ok (.iastore, 1) := by decide +kernel
theorem own_d4_14 : decode jdk_65_method_103_code 14 = .ok (.iinc 2 1, 3) := by decide +kernel
theorem own_d4_17 : decode jdk_65_method_103_code 17 = .ok (.goto (-12), 3) := by decide +kernel
theorem own_ef_4_1 (m : MethodId) (x0 : Addr) (x1 : Int32) : entryFrame m #[(.ref x0), (.int x1)] 4 = mkF m 0 #[.val (.ref x0), .val (.int x1), .unset, .unset] [] := by first | (simp [entryFrame, mkF, argsToLocals, Value.category]; done) | rfl
def Q4_1 (Z : State) (r0 : Addr) (p1 : Int32) (kk : ClassId) (u0 : Int32) (h0 : Heap) (n0 : Nat) (v : Option Value) (h : Heap) (L : List Loc) : Prop := v = none ∧ Fr n0 L ∧ Keep h0 h [r0] ∧ Arv Z h r0 kk .int (1 : Int32) [(.int p1)] (.int (0 : Int32))
set_option maxRecDepth 65536 in
set_option maxHeartbeats 40000000 in
theorem rm4_1 (l : Launch) (Z : State) (a0 : Array Value) (hw : ∀ d ∈ tables_1, d.before a0 Z = true) (ws : List Jvm.Cond) (r0 : Addr) (p1 : Int32) (kk : ClassId) (u0 : Int32) (h0 : Heap) (n0 : Nat) (Z0 : n0 ≤ h0.size) (V0 : Arv Z h0 r0 kk .int (1 : Int32) [(.int u0)] (.int (0 : Int32))) (g0 : n0 ≤ r0) :
    MetFree l (⟨"java/util/Arrays", "fill", "([II)V"⟩ : MethodName) (head1 (Jvm.Cond.code (⟨"java/util/Arrays", "fill", "([II)V"⟩ : MethodName) jdk_65_method_103_code 4 none :: ws) ({ frames := 0, cells := 0, slots := 0, locals := 0 } : Room)) (fun a U => a = #[(.ref r0), (.int p1)] ∧ Z.Warmed39 U.vm ∧ U.heap = h0) (fun _ _ _ _ _ => True) (fun _ U o U' => ∃ v L, o = .returned v ∧ Q4_1 Z r0 p1 kk u0 h0 n0 v U'.heap L ∧ FrameEnd U o U' L ({ frames := 0, cells := 0, slots := 0, locals := 0 } : Room).cells ({ frames := 0, cells := 0, slots := 0, locals := 0 } : Room).slots) := by
  refine MetFree.of_bodySF (plainFor_of_name own_pn1) hisR ?_
  intro p e s m args below meth c s₁ Bd hml0 hP hK
  obtain ⟨rfl, hZ, hh⟩ := hP
  have hx := Bd.exec
  have hby := Bd.bytes
  have hml : c.maxLocals = 4 := hml0
  have hown : s.vm.findClass "java/util/Arrays" = some m.cls := findClass_of_methodNamed Bd.named
  have hnm := (name_of_methodNamed Bd.named Bd.method).1
  have X0 : Stand p l e ({ frames := 0, cells := 0, slots := 0, locals := 0 } : Room) s m #[(.ref r0), (.int p1)] below meth c s₁ [] 0 0 := Stand.of_body Bd
  have e0 : s₁.heap = h0 := by rw [← hh, Bd.state]; rfl
  have N0 := Fr.nil n0
  have KR : Keep h0 h0 [r0] := Keep.refl h0 _
  show Good p e below (fun o U' => ∃ v L, o = .returned v ∧ Q4_1 Z r0 p1 kk u0 h0 n0 v U'.heap L ∧ FrameEnd s o U' L ({ frames := 0, cells := 0, slots := 0, locals := 0 } : Room).cells ({ frames := 0, cells := 0, slots := 0, locals := 0 } : Room).slots) _
  refine Good.back (S' := s₁.setTop (mkF m 0 #[.val (.ref r0), .val (.int p1), .unset, .unset] [])) (fun t k => castTop (own_ef_4_1 m r0 p1) k) ?_
  show Good p e below _ (s₁.setTop (mkF m 0 #[.val (.ref r0), .val (.int p1), .unset, .unset] []))
  refine Good.back (fun _ k => XS.iconst X0.here hx rfl (hb hby own_d4_0) k) ?_
  show Good p e below _ (s₁.setTop (mkF m 1 #[.val (.ref r0), .val (.int p1), .unset, .unset] [(.int (0 : Int32))]))
  refine Good.back (fun _ k => XS.istoreN X0.here hx rfl (hb hby own_d4_1) rfl (l' := #[.val (.ref r0), .val (.int p1), .val (.int (0 : Int32)), .unset]) rfl k) ?_
  show Good p e below _ (s₁.setTop (mkF m 2 #[.val (.ref r0), .val (.int p1), .val (.int (0 : Int32)), .unset] []))
  refine Good.back (fun _ k => XS.aloadN X0.here hx rfl (hb hby own_d4_2) rfl rfl k) ?_
  show Good p e below _ (s₁.setTop (mkF m 3 #[.val (.ref r0), .val (.int p1), .val (.int (0 : Int32)), .unset] [(.ref r0)]))
  have fc1 := V0
  obtain ⟨cl1, Ar1, q1, S1, N1', H1, G1⟩ := fc1
  refine Good.back (X0.arraylength hx (by rw [e0]; exact Ar1.1) (State.isArrayOf_alike hZ.alike Ar1.2.1) (g := (mkF m 3 #[.val (.ref r0), .val (.int p1), .val (.int (0 : Int32)), .unset] [(.ref r0)])) rfl rfl (hb hby own_d4_3)) ?_
  rw [len_of S1 N1']
  show Good p e below _ (s₁.setTop (mkF m 4 #[.val (.ref r0), .val (.int p1), .val (.int (0 : Int32)), .unset] [(.int (1 : Int32))]))
  refine Good.back (fun _ k => XS.istoreN X0.here hx rfl (hb hby own_d4_4) rfl (l' := #[.val (.ref r0), .val (.int p1), .val (.int (0 : Int32)), .val (.int (1 : Int32))]) rfl k) ?_
  show Good p e below _ (s₁.setTop (mkF m 5 #[.val (.ref r0), .val (.int p1), .val (.int (0 : Int32)), .val (.int (1 : Int32))] []))
  refine Good.back (fun _ k => XS.iloadN X0.here hx rfl (hb hby own_d4_5) rfl k) ?_
  show Good p e below _ (s₁.setTop (mkF m 6 #[.val (.ref r0), .val (.int p1), .val (.int (0 : Int32)), .val (.int (1 : Int32))] [(.int (0 : Int32))]))
  refine Good.back (fun _ k => XS.iloadN X0.here hx rfl (hb hby own_d4_6) rfl k) ?_
  show Good p e below _ (s₁.setTop (mkF m 7 #[.val (.ref r0), .val (.int p1), .val (.int (0 : Int32)), .val (.int (1 : Int32))] [(.int (1 : Int32)), (.int (0 : Int32))]))
  refine Good.back (fun _ k => XS.icmpNo X0.here hx rfl (hb hby own_d4_7) rfl (tlt (by decide : ((0 : Int32) < (1 : Int32)))).2.1 k) ?_
  show Good p e below _ (s₁.setTop (mkF m 10 #[.val (.ref r0), .val (.int p1), .val (.int (0 : Int32)), .val (.int (1 : Int32))] []))
  refine Good.back (fun _ k => XS.aloadN X0.here hx rfl (hb hby own_d4_10) rfl rfl k) ?_
  show Good p e below _ (s₁.setTop (mkF m 11 #[.val (.ref r0), .val (.int p1), .val (.int (0 : Int32)), .val (.int (1 : Int32))] [(.ref r0)]))
  refine Good.back (fun _ k => XS.iloadN X0.here hx rfl (hb hby own_d4_11) rfl k) ?_
  show Good p e below _ (s₁.setTop (mkF m 12 #[.val (.ref r0), .val (.int p1), .val (.int (0 : Int32)), .val (.int (1 : Int32))] [(.int (0 : Int32)), (.ref r0)]))
  refine Good.back (fun _ k => XS.iloadN X0.here hx rfl (hb hby own_d4_12) rfl k) ?_
  show Good p e below _ (s₁.setTop (mkF m 13 #[.val (.ref r0), .val (.int p1), .val (.int (0 : Int32)), .val (.int (1 : Int32))] [(.int p1), (.int (0 : Int32)), (.ref r0)]))
  have fc2 := V0
  obtain ⟨cl2, Ar2, q2, S2, N2', H2, G2⟩ := fc2
  have hin2 : ¬ ((0 : Int32) < 0 ∨ cl2.slots.size ≤ ((0 : Int32)).toNatClampNeg) := inb_of S2 ⟨by decide, by decide⟩
  obtain ⟨T2, h2, X2, e2, W2, st2⟩ := stI X0 hx hZ e0 Ar2 (j := (0 : Int32)) hin2 (g := (mkF m 13 #[.val (.ref r0), .val (.int p1), .val (.int (0 : Int32)), .val (.int (1 : Int32))] [(.int p1), (.int (0 : Int32)), (.ref r0)])) rfl rfl (hb hby own_d4_13)
  refine Good.back st2 ?_
  have f_3 : Arv Z h2 r0 kk .int (1 : Int32) [(.int p1)] (.int (0 : Int32)) := Arv.set Ar2 q2 S2 N2' H2 G2 rfl W2 0 rfl (Nat.le_of_ble_eq_true rfl)
  have N2 := Fr.snoc X2 N0 g0
  have Z4 : n0 ≤ h2.size := Nat.le_trans Z0 (Keep.of_wr W2).1
  have K5 : Keep h0 h2 [r0] := KR.wr W2 (Or.inl (List.mem_of_getElem? (i := 0) rfl))
  show Good p e below _ (T2.setTop (mkF m 14 #[.val (.ref r0), .val (.int p1), .val (.int (0 : Int32)), .val (.int (1 : Int32))] []))
  refine Good.back (fun _ k => XS.iinc X2.here hx rfl (hb hby own_d4_14) rfl (l' := #[.val (.ref r0), .val (.int p1), .val (.int ((0 : Int32) + (1 : Int32))), .val (.int (1 : Int32))]) rfl k) ?_
  show Good p e below _ (T2.setTop (mkF m 17 #[.val (.ref r0), .val (.int p1), .val (.int ((0 : Int32) + (1 : Int32))), .val (.int (1 : Int32))] []))
  rw [show (((0 : Int32) + (1 : Int32)) : Int32) = (1 : Int32) from by decide]
  show Good p e below _ (T2.setTop (mkF m 17 #[.val (.ref r0), .val (.int p1), .val (.int (1 : Int32)), .val (.int (1 : Int32))] []))
  refine Good.back (fun _ k => XS.goto X2.here hx rfl (pc0 := 17) (pc' := 5) rfl (hb hby own_d4_17) (by decide) (by decide) k) ?_
  show Good p e below _ (T2.setTop (mkF m 5 #[.val (.ref r0), .val (.int p1), .val (.int (1 : Int32)), .val (.int (1 : Int32))] []))
  refine Good.back (fun _ k => XS.iloadN X2.here hx rfl (hb hby own_d4_5) rfl k) ?_
  show Good p e below _ (T2.setTop (mkF m 6 #[.val (.ref r0), .val (.int p1), .val (.int (1 : Int32)), .val (.int (1 : Int32))] [(.int (1 : Int32))]))
  refine Good.back (fun _ k => XS.iloadN X2.here hx rfl (hb hby own_d4_6) rfl k) ?_
  show Good p e below _ (T2.setTop (mkF m 7 #[.val (.ref r0), .val (.int p1), .val (.int (1 : Int32)), .val (.int (1 : Int32))] [(.int (1 : Int32)), (.int (1 : Int32))]))
  refine Good.back (fun _ k => XS.icmpYes X2.here hx rfl (pc0 := 7) (pc' := 20) rfl (hb hby own_d4_7) rfl (flt (by decide : ¬ ((1 : Int32) < (1 : Int32)))).2.1 (by decide) (by decide) k) ?_
  show Good p e below _ (T2.setTop (mkF m 20 #[.val (.ref r0), .val (.int p1), .val (.int (1 : Int32)), .val (.int (1 : Int32))] []))
  obtain ⟨fs6, hr6, hrun6, hended6, hW6, hsame6⟩ := X2.leave (v := none) (fun _ => rfl)
  refine Good.done (X2.returnOut hx Bd.returns (hb hby own_d4_20) hr6) hrun6 hended6 ⟨_, _, rfl, ?_, ⟨_, rfl⟩, hW6, hsame6.mono (by decide) (by decide)⟩
  show Q4_1 Z r0 p1 kk u0 h0 n0 _ T2.heap _
  rw [e2]
  exact ⟨rfl, N2, K5, f_3⟩
theorem own_ef_1_1 (m : MethodId) (x0 : Addr) (x1 : Int32) (x2 : Int32) : entryFrame m #[(.ref x0), (.int x1), (.int x2)] 3 = mkF m 0 #[.val (.ref x0), .val (.int x1), .val (.int x2)] [] := by first | (simp [entryFrame, mkF, argsToLocals, Value.category]; done) | rfl
def Q1_1 (Z : State) (r0 : Addr) (p2 : Int32) (h0 : Heap) (n0 : Nat) (v : Option Value) (h : Heap) (L : List Loc) : Prop := ∃ (ar : Addr) (kk : ClassId), v = none ∧ Fr n0 L ∧ Keep h0 h [r0] ∧ h0.size ≤ ar ∧ Fld Z h r0 "org/ludarium/games/sabacc/Chips" "held" "[I" (.ref ar) ∧ Fld Z h r0 "org/ludarium/games/sabacc/Chips" "sabaccPot" "I" (.int (0 : Int32)) ∧ Arv Z h ar kk .int (1 : Int32) [(.int p2)] (.int (0 : Int32))
set_option maxRecDepth 65536 in
set_option maxHeartbeats 40000000 in
theorem rm1_1 (l : Launch) (Z : State) (a0 : Array Value) (hw : ∀ d ∈ tables_1, d.before a0 Z = true) (ws : List Jvm.Cond) (r0 : Addr) (p2 : Int32) (h0 : Heap) (n0 : Nat) (Z0 : n0 ≤ h0.size) (E0 : Exa Z h0 r0 "org/ludarium/games/sabacc/Chips") (g0 : n0 ≤ r0) (F_held : Fld Z h0 r0 "org/ludarium/games/sabacc/Chips" "held" "[I" .null) (F_pot : Fld Z h0 r0 "org/ludarium/games/sabacc/Chips" "sabaccPot" "I" (.int (0 : Int32))) :
    MetFree l (⟨"org/ludarium/games/sabacc/Chips", "<init>", "(II)V"⟩ : MethodName) (head1 (Jvm.Cond.code (⟨"org/ludarium/games/sabacc/Chips", "<init>", "(II)V"⟩ : MethodName) prog_13_method_1_code 3 none :: ws) ({ frames := 2, cells := 1, slots := 1, locals := 26 } : Room)) (fun a U => a = #[(.ref r0), (.int (1 : Int32)), (.int p2)] ∧ Z.Warmed39 U.vm ∧ U.heap = h0) (fun _ _ _ _ _ => True) (fun _ U o U' => ∃ v L, o = .returned v ∧ Q1_1 Z r0 p2 h0 n0 v U'.heap L ∧ FrameEnd U o U' L ({ frames := 2, cells := 1, slots := 1, locals := 26 } : Room).cells ({ frames := 2, cells := 1, slots := 1, locals := 26 } : Room).slots) := by
  refine MetFree.of_bodySF (plainFor_of_name own_pn0) hisR ?_
  intro p e s m args below meth c s₁ Bd hml0 hP hK
  obtain ⟨rfl, hZ, hh⟩ := hP
  have hx := Bd.exec
  have hby := Bd.bytes
  have hml : c.maxLocals = 3 := hml0
  have hown : s.vm.findClass "org/ludarium/games/sabacc/Chips" = some m.cls := findClass_of_methodNamed Bd.named
  have hnm := (name_of_methodNamed Bd.named Bd.method).1
  have X0 : Stand p l e ({ frames := 2, cells := 1, slots := 1, locals := 26 } : Room) s m #[(.ref r0), (.int (1 : Int32)), (.int p2)] below meth c s₁ [] 0 0 := Stand.of_body Bd
  have e0 : s₁.heap = h0 := by rw [← hh, Bd.state]; rfl
  have N0 := Fr.nil n0
  have KR : Keep h0 h0 [r0] := Keep.refl h0 _
  show Good p e below (fun o U' => ∃ v L, o = .returned v ∧ Q1_1 Z r0 p2 h0 n0 v U'.heap L ∧ FrameEnd s o U' L ({ frames := 2, cells := 1, slots := 1, locals := 26 } : Room).cells ({ frames := 2, cells := 1, slots := 1, locals := 26 } : Room).slots) _
  refine Good.back (S' := s₁.setTop (mkF m 0 #[.val (.ref r0), .val (.int (1 : Int32)), .val (.int p2)] [])) (fun t k => castTop (own_ef_1_1 m r0 (1 : Int32) p2) k) ?_
  show Good p e below _ (s₁.setTop (mkF m 0 #[.val (.ref r0), .val (.int (1 : Int32)), .val (.int p2)] []))
  refine Good.back (fun _ k => XS.aloadN X0.here hx rfl (hb hby own_d1_0) rfl rfl k) ?_
  show Good p e below _ (s₁.setTop (mkF m 1 #[.val (.ref r0), .val (.int (1 : Int32)), .val (.int p2)] [(.ref r0)]))
  refine Good.back (fun _ k => XS.iloadN X0.here hx rfl (hb hby own_d1_1) rfl k) ?_
  show Good p e below _ (s₁.setTop (mkF m 2 #[.val (.ref r0), .val (.int (1 : Int32)), .val (.int p2)] [(.int (1 : Int32)), (.ref r0)]))
  obtain ⟨T1, h1, k1, X1, e1, E1, A1, st1⟩ := newP X0 hx hZ (hw _ (List.mem_of_getElem? (i := 6) rfl)) e0 (g := (mkF m 2 #[.val (.ref r0), .val (.int (1 : Int32)), .val (.int p2)] [(.int (1 : Int32)), (.ref r0)])) rfl (hb hby own_d1_2) rfl (by decide) (cap := 1) (by decide) (by decide) (by decide) (by decide)
  obtain ⟨b1, g1⟩ : ∃ z, z = h0.size := ⟨_, rfl⟩
  rw [← g1] at A1 st1
  refine Good.back st1 ?_
  have g_b1 : n0 ≤ b1 := Nat.le_trans Z0 (Nat.le_of_eq g1.symm)
  have sz_b1 : h0.size ≤ b1 := Nat.le_trans KR.1 (Nat.le_of_eq g1.symm)
  have Z2 : n0 ≤ h1.size := Nat.le_trans Z0 E1.1
  have K3 : Keep h0 h1 [r0] := KR.ext E1
  have f_4 : Arv Z h1 b1 k1 .int (1 : Int32) [(.int (0 : Int32))] (.int (0 : Int32)) := (Arv.new A1 (by decide)).pad (pad_rep [] (.int (0 : Int32)) 1)
  show Good p e below _ (T1.setTop (mkF m 4 #[.val (.ref r0), .val (.int (1 : Int32)), .val (.int p2)] [(.ref b1), (.ref r0)]))
  refine Good.back (fun _ k => XS.iconst X1.here hx rfl (hb hby own_d1_4) k) ?_
  show Good p e below _ (T1.setTop (mkF m 5 #[.val (.ref r0), .val (.int (1 : Int32)), .val (.int p2)] [(.int (0 : Int32)), (.ref b1), (.ref r0)]))
  have f_6 : Exa Z h1 r0 "org/ludarium/games/sabacc/Chips" := Exa.ext E1 E0
  have f_7 : Fld Z h1 r0 "org/ludarium/games/sabacc/Chips" "held" "[I" .null := Fld.ext E1 F_held
  have f_8 : Fld Z h1 r0 "org/ludarium/games/sabacc/Chips" "sabaccPot" "I" (.int (0 : Int32)) := Fld.ext E1 F_pot
  obtain ⟨_, _, ⟨T5, L5, k5, n5⟩, -, X5, ⟨Lc5, hQ5, l5, y5, z5⟩, st5⟩ := X1.specialBack hx (y := (⟨"org/ludarium/games/sabacc/Chips", "<init>", "([II)V"⟩ : MethodName)) rfl hown (mvT hZ (hw _ (List.mem_of_getElem? (i := 7) rfl))) (mvT hZ (hw _ (List.mem_of_getElem? (i := 8) rfl))) (mvT hZ (hw _ (List.mem_of_getElem? (i := 9) rfl))) (by decide) (backOf (W := 0) (rm2 l Z a0 hw [] r0 b1 (0 : Int32)  h1 n0 Z2 f_6 g0 f_7 f_8) hZ (hw _ (List.mem_of_getElem? (i := 9) rfl)) (hw _ (List.mem_of_getElem? (i := 2) rfl)) (by decide) (by decide)) (g := (mkF m 5 #[.val (.ref r0), .val (.int (1 : Int32)), .val (.int p2)] [(.int (0 : Int32)), (.ref b1), (.ref r0)])) rfl (by rw [hml]; rfl) (Steps.refl _) (a := r0) (argsL := [(.ref b1), (.int (0 : Int32))]) (rest := []) (lenOf own_pd28 rfl) rfl (by show 2 * 0 + _ ≤ _; exact Nat.le_of_eq rfl) (hb hby own_d1_5) (fun _ _ => ⟨rfl, e1, (by decide : 1 + 0 ≤ _), (by decide : 1 + 0 ≤ _)⟩)
  dsimp only [Pt.U, Pt.locs, Pt.cells, Pt.slots] at X5 l5 y5 z5 st5 hQ5
  subst l5 y5 z5
  obtain ⟨rfl, N5q, Kq5, o5_0, o5_1⟩ := hQ5
  have N5 := Fr.app N0 N5q
  have Z9 : n0 ≤ T5.heap.size := Nat.le_trans Z2 Kq5.1
  have K10 : Keep h0 T5.heap [r0] := K3.trans Kq5 (allS (Or.inl (List.mem_of_getElem? (i := 0) rfl)) all0)
  refine Good.back (fun _ k => st5.trans k) ?_
  show Good p e below _ (T5.setTop (mkF m 8 #[.val (.ref r0), .val (.int (1 : Int32)), .val (.int p2)] []))
  refine Good.back (fun _ k => XS.aloadN X5.here hx rfl (hb hby own_d1_8) rfl rfl k) ?_
  show Good p e below _ (T5.setTop (mkF m 9 #[.val (.ref r0), .val (.int (1 : Int32)), .val (.int p2)] [(.ref r0)]))
  obtain ⟨T11, X11, e11, st11⟩ := getF X5 hx hZ hown (host := "") (Or.inl (hw _ (List.mem_of_getElem? (i := 13) rfl))) Via.refl rfl o5_0 (g := (mkF m 9 #[.val (.ref r0), .val (.int (1 : Int32)), .val (.int p2)] [(.ref r0)])) rfl rfl (hb hby own_d1_9)
  refine Good.back st11 ?_
  show Good p e below _ (T11.setTop (mkF m 12 #[.val (.ref r0), .val (.int (1 : Int32)), .val (.int p2)] [(.ref b1)]))
  refine Good.back (fun _ k => XS.iloadN X11.here hx rfl (hb hby own_d1_12) rfl k) ?_
  show Good p e below _ (T11.setTop (mkF m 13 #[.val (.ref r0), .val (.int (1 : Int32)), .val (.int p2)] [(.int p2), (.ref b1)]))
  have ne_r0_b1_14 : r0 ≠ b1 := Nat.ne_of_lt (Nat.lt_of_lt_of_le F_pot.lt (Nat.le_of_eq g1.symm))
  have f_13 : Arv Z T5.heap b1 k1 .int (1 : Int32) [(.int (0 : Int32))] (.int (0 : Int32)) := Arv.keep f_4 Kq5 (ninS (Ne.symm ne_r0_b1_14) nin0)
  obtain ⟨_, _, ⟨T12, L12, k12, n12⟩, -, X12, ⟨Lc12, hQ12, l12, y12, z12⟩, st12⟩ := Jvm.LawKit.callS X11 hx (y := (⟨"java/util/Arrays", "fill", "([II)V"⟩ : MethodName)) hown (mvT hZ (hw _ (List.mem_of_getElem? (i := 17) rfl))) (mvT hZ (hw _ (List.mem_of_getElem? (i := 18) rfl))) (mvT hZ (hw _ (List.mem_of_getElem? (i := 19) rfl))) (mvT hZ (hw _ (List.mem_of_getElem? (i := 20) rfl))) (by decide) (backOf (W := 0) (rm4_1 l Z a0 hw [] b1 p2 k1 (0 : Int32) T5.heap n0 Z9 f_13 g_b1) hZ (hw _ (List.mem_of_getElem? (i := 20) rfl)) (hw _ (List.mem_of_getElem? (i := 19) rfl)) (by decide) (by decide)) (g := (mkF m 13 #[.val (.ref r0), .val (.int (1 : Int32)), .val (.int p2)] [(.int p2), (.ref b1)])) rfl (by rw [hml]; rfl) (argsL := [(.ref b1), (.int p2)]) (rest := []) (lenOf own_pd28 rfl) rfl (by show 2 * 0 + _ ≤ _; exact Nat.le_of_eq rfl) (hb hby own_d1_13) (fun _ _ => ⟨rfl, e11, (by decide : 1 + 0 ≤ _), (by decide : 1 + 0 ≤ _)⟩)
  dsimp only [Pt.U, Pt.locs, Pt.cells, Pt.slots] at X12 l12 y12 z12 st12 hQ12
  subst l12 y12 z12
  obtain ⟨rfl, N12q, Kq12, o12_0⟩ := hQ12
  have N12 := Fr.app N5 N12q
  have Z15 : n0 ≤ T12.heap.size := Nat.le_trans Z9 Kq12.1
  have K16 : Keep h0 T12.heap [r0] := K10.trans Kq12 (allS (Or.inr sz_b1) all0)
  refine Good.back st12 ?_
  show Good p e below _ (T12.setTop (mkF m 16 #[.val (.ref r0), .val (.int (1 : Int32)), .val (.int p2)] []))
  obtain ⟨fs17, hr17, hrun17, hended17, hW17, hsame17⟩ := X12.leave (v := none) (fun _ => rfl)
  refine Good.done (X12.returnOut hx Bd.returns (hb hby own_d1_16) hr17) hrun17 hended17 ⟨_, _, rfl, ?_, ⟨_, rfl⟩, hW17, hsame17.mono (by decide) (by decide)⟩
  show Q1_1 Z r0 p2 h0 n0 _ T12.heap _
  have f_18 : Fld Z T12.heap r0 "org/ludarium/games/sabacc/Chips" "held" "[I" (.ref b1) := Fld.keep o5_0 Kq12 (ninS ne_r0_b1_14 nin0)
  have f_19 : Fld Z T12.heap r0 "org/ludarium/games/sabacc/Chips" "sabaccPot" "I" (.int (0 : Int32)) := Fld.keep o5_1 Kq12 (ninS ne_r0_b1_14 nin0)
  exact ⟨b1, k1, rfl, N12, K16, sz_b1, f_18, f_19, o12_0⟩
theorem own_d6_25 : decode prog_13_method_7_code 25 = .ok (.aload_n 3, 1) := by decide +kernel
theorem own_d6_26 : decode prog_13_method_7_code 26 = .ok (.iload 5, 2) := by decide +kernel
theorem own_d6_28 : decode prog_13_method_7_code 28 = .ok (.iaload, 1) := by decide +kernel
theorem own_d6_29 : decode prog_13_method_7_code 29 = .ok (.istore 6, 2) := by decide +kernel
theorem own_d6_31 : decode prog_13_method_7_code 31 = .ok (.lload_n 1, 1) := by decide +kernel
theorem own_d6_32 : decode prog_13_method_7_code 32 = .ok (.iload 6, 2) := by decide +kernel
theorem own_d6_34 : decode prog_13_method_7_code 34 = .ok (.i2l, 1) := by decide +kernel
theorem own_d6_35 : decode prog_13_method_7_code 35 = .ok (.ladd, 1) := by decide +kernel
theorem own_d6_36 : decode prog_13_method_7_code 36 = .ok (.lstore_n 1, 1) := by decide +kernel
theorem own_d6_37 : decode prog_13_method_7_code 37 = .ok (.iinc 5 1, 3) := by decide +kernel
theorem own_d6_40 : decode prog_13_method_7_code 40 = .ok (.goto (-22), 3) := by decide +kernel
theorem own_ef_6_1 (m : MethodId) (x0 : Addr) : entryFrame m #[(.ref x0)] 7 = mkF m 0 #[.val (.ref x0), .unset, .unset, .unset, .unset, .unset, .unset] [] := by first | (simp [entryFrame, mkF, argsToLocals, Value.category]; done) | rfl
def Q6_1 (Z : State) (r0 : Addr) (w : Int32) (ar : Addr) (kk : ClassId) (u0 : Int32) (h0 : Heap) (n0 : Nat) (v : Option Value) (h : Heap) (L : List Loc) : Prop := v = some (.long ((w.toInt64) + (u0.toInt64))) ∧ Fr n0 L ∧ h = h0
set_option maxRecDepth 65536 in
set_option maxHeartbeats 40000000 in
theorem rm6_1 (l : Launch) (Z : State) (a0 : Array Value) (hw : ∀ d ∈ tables_1, d.before a0 Z = true) (ws : List Jvm.Cond) (r0 : Addr) (w : Int32) (ar : Addr) (kk : ClassId) (u0 : Int32) (h0 : Heap) (n0 : Nat) (Z0 : n0 ≤ h0.size) (F_pot : Fld Z h0 r0 "org/ludarium/games/sabacc/Chips" "sabaccPot" "I" (.int w)) (F_held : Fld Z h0 r0 "org/ludarium/games/sabacc/Chips" "held" "[I" (.ref ar)) (V0 : Arv Z h0 ar kk .int (1 : Int32) [(.int u0)] (.int (0 : Int32))) :
    MetFree l (⟨"org/ludarium/games/sabacc/Chips", "total", "()J"⟩ : MethodName) (head1 (Jvm.Cond.code (⟨"org/ludarium/games/sabacc/Chips", "total", "()J"⟩ : MethodName) prog_13_method_7_code 7 (some .long) :: ws) ({ frames := 0, cells := 0, slots := 0, locals := 0 } : Room)) (fun a U => a = #[(.ref r0)] ∧ Z.Warmed39 U.vm ∧ U.heap = h0) (fun _ _ _ _ _ => True) (fun _ U o U' => ∃ v L, o = .returned v ∧ Q6_1 Z r0 w ar kk u0 h0 n0 v U'.heap L ∧ FrameEnd U o U' L ({ frames := 0, cells := 0, slots := 0, locals := 0 } : Room).cells ({ frames := 0, cells := 0, slots := 0, locals := 0 } : Room).slots) := by
  refine MetFree.of_bodySF (plainFor_of_name own_pn0) hisR ?_
  intro p e s m args below meth c s₁ Bd hml0 hP hK
  obtain ⟨rfl, hZ, hh⟩ := hP
  have hx := Bd.exec
  have hby := Bd.bytes
  have hml : c.maxLocals = 7 := hml0
  have hown : s.vm.findClass "org/ludarium/games/sabacc/Chips" = some m.cls := findClass_of_methodNamed Bd.named
  have hnm := (name_of_methodNamed Bd.named Bd.method).1
  have X0 : Stand p l e ({ frames := 0, cells := 0, slots := 0, locals := 0 } : Room) s m #[(.ref r0)] below meth c s₁ [] 0 0 := Stand.of_body Bd
  have e0 : s₁.heap = h0 := by rw [← hh, Bd.state]; rfl
  have N0 := Fr.nil n0
  show Good p e below (fun o U' => ∃ v L, o = .returned v ∧ Q6_1 Z r0 w ar kk u0 h0 n0 v U'.heap L ∧ FrameEnd s o U' L ({ frames := 0, cells := 0, slots := 0, locals := 0 } : Room).cells ({ frames := 0, cells := 0, slots := 0, locals := 0 } : Room).slots) _
  refine Good.back (S' := s₁.setTop (mkF m 0 #[.val (.ref r0), .unset, .unset, .unset, .unset, .unset, .unset] [])) (fun t k => castTop (own_ef_6_1 m r0) k) ?_
  show Good p e below _ (s₁.setTop (mkF m 0 #[.val (.ref r0), .unset, .unset, .unset, .unset, .unset, .unset] []))
  refine Good.back (fun _ k => XS.aloadN X0.here hx rfl (hb hby own_d6_0) rfl rfl k) ?_
  show Good p e below _ (s₁.setTop (mkF m 1 #[.val (.ref r0), .unset, .unset, .unset, .unset, .unset, .unset] [(.ref r0)]))
  obtain ⟨T1, X1, e1, st1⟩ := getF X0 hx hZ hown (host := "") (Or.inl (hw _ (List.mem_of_getElem? (i := 15) rfl))) Via.refl e0 F_pot (g := (mkF m 1 #[.val (.ref r0), .unset, .unset, .unset, .unset, .unset, .unset] [(.ref r0)])) rfl rfl (hb hby own_d6_1)
  refine Good.back st1 ?_
  show Good p e below _ (T1.setTop (mkF m 4 #[.val (.ref r0), .unset, .unset, .unset, .unset, .unset, .unset] [(.int w)]))
  refine Good.back (fun _ k => XS.i2l X1.here hx rfl (hb hby own_d6_4) rfl k) ?_
  show Good p e below _ (T1.setTop (mkF m 5 #[.val (.ref r0), .unset, .unset, .unset, .unset, .unset, .unset] [(.long (w.toInt64))]))
  refine Good.back (fun _ k => XS.lstoreN X1.here hx rfl (hb hby own_d6_5) rfl (l' := #[.val (.ref r0), .val (.long (w.toInt64)), .second, .unset, .unset, .unset, .unset]) rfl k) ?_
  show Good p e below _ (T1.setTop (mkF m 6 #[.val (.ref r0), .val (.long (w.toInt64)), .second, .unset, .unset, .unset, .unset] []))
  refine Good.back (fun _ k => XS.aloadN X1.here hx rfl (hb hby own_d6_6) rfl rfl k) ?_
  show Good p e below _ (T1.setTop (mkF m 7 #[.val (.ref r0), .val (.long (w.toInt64)), .second, .unset, .unset, .unset, .unset] [(.ref r0)]))
  obtain ⟨T2, X2, e2, st2⟩ := getF X1 hx hZ hown (host := "") (Or.inl (hw _ (List.mem_of_getElem? (i := 13) rfl))) Via.refl e1 F_held (g := (mkF m 7 #[.val (.ref r0), .val (.long (w.toInt64)), .second, .unset, .unset, .unset, .unset] [(.ref r0)])) rfl rfl (hb hby own_d6_7)
  refine Good.back st2 ?_
  show Good p e below _ (T2.setTop (mkF m 10 #[.val (.ref r0), .val (.long (w.toInt64)), .second, .unset, .unset, .unset, .unset] [(.ref ar)]))
  refine Good.back (fun _ k => XS.astoreN X2.here hx rfl (hb hby own_d6_10) rfl rfl (l' := #[.val (.ref r0), .val (.long (w.toInt64)), .second, .val (.ref ar), .unset, .unset, .unset]) rfl k) ?_
  show Good p e below _ (T2.setTop (mkF m 11 #[.val (.ref r0), .val (.long (w.toInt64)), .second, .val (.ref ar), .unset, .unset, .unset] []))
  refine Good.back (fun _ k => XS.aloadN X2.here hx rfl (hb hby own_d6_11) rfl rfl k) ?_
  show Good p e below _ (T2.setTop (mkF m 12 #[.val (.ref r0), .val (.long (w.toInt64)), .second, .val (.ref ar), .unset, .unset, .unset] [(.ref ar)]))
  have fc3 := V0
  obtain ⟨cl3, Ar3, q3, S3, N3', H3, G3⟩ := fc3
  refine Good.back (X2.arraylength hx (by rw [e2]; exact Ar3.1) (State.isArrayOf_alike hZ.alike Ar3.2.1) (g := (mkF m 12 #[.val (.ref r0), .val (.long (w.toInt64)), .second, .val (.ref ar), .unset, .unset, .unset] [(.ref ar)])) rfl rfl (hb hby own_d6_12)) ?_
  rw [len_of S3 N3']
  show Good p e below _ (T2.setTop (mkF m 13 #[.val (.ref r0), .val (.long (w.toInt64)), .second, .val (.ref ar), .unset, .unset, .unset] [(.int (1 : Int32))]))
  refine Good.back (fun _ k => XS.istore X2.here hx rfl (hb hby own_d6_13) rfl (l' := #[.val (.ref r0), .val (.long (w.toInt64)), .second, .val (.ref ar), .val (.int (1 : Int32)), .unset, .unset]) rfl k) ?_
  show Good p e below _ (T2.setTop (mkF m 15 #[.val (.ref r0), .val (.long (w.toInt64)), .second, .val (.ref ar), .val (.int (1 : Int32)), .unset, .unset] []))
  refine Good.back (fun _ k => XS.iconst X2.here hx rfl (hb hby own_d6_15) k) ?_
  show Good p e below _ (T2.setTop (mkF m 16 #[.val (.ref r0), .val (.long (w.toInt64)), .second, .val (.ref ar), .val (.int (1 : Int32)), .unset, .unset] [(.int (0 : Int32))]))
  refine Good.back (fun _ k => XS.istore X2.here hx rfl (hb hby own_d6_16) rfl (l' := #[.val (.ref r0), .val (.long (w.toInt64)), .second, .val (.ref ar), .val (.int (1 : Int32)), .val (.int (0 : Int32)), .unset]) rfl k) ?_
  show Good p e below _ (T2.setTop (mkF m 18 #[.val (.ref r0), .val (.long (w.toInt64)), .second, .val (.ref ar), .val (.int (1 : Int32)), .val (.int (0 : Int32)), .unset] []))
  refine Good.back (fun _ k => XS.iload X2.here hx rfl (hb hby own_d6_18) rfl k) ?_
  show Good p e below _ (T2.setTop (mkF m 20 #[.val (.ref r0), .val (.long (w.toInt64)), .second, .val (.ref ar), .val (.int (1 : Int32)), .val (.int (0 : Int32)), .unset] [(.int (0 : Int32))]))
  refine Good.back (fun _ k => XS.iload X2.here hx rfl (hb hby own_d6_20) rfl k) ?_
  show Good p e below _ (T2.setTop (mkF m 22 #[.val (.ref r0), .val (.long (w.toInt64)), .second, .val (.ref ar), .val (.int (1 : Int32)), .val (.int (0 : Int32)), .unset] [(.int (1 : Int32)), (.int (0 : Int32))]))
  refine Good.back (fun _ k => XS.icmpNo X2.here hx rfl (hb hby own_d6_22) rfl (tlt (by decide : ((0 : Int32) < (1 : Int32)))).2.1 k) ?_
  show Good p e below _ (T2.setTop (mkF m 25 #[.val (.ref r0), .val (.long (w.toInt64)), .second, .val (.ref ar), .val (.int (1 : Int32)), .val (.int (0 : Int32)), .unset] []))
  refine Good.back (fun _ k => XS.aloadN X2.here hx rfl (hb hby own_d6_25) rfl rfl k) ?_
  show Good p e below _ (T2.setTop (mkF m 26 #[.val (.ref r0), .val (.long (w.toInt64)), .second, .val (.ref ar), .val (.int (1 : Int32)), .val (.int (0 : Int32)), .unset] [(.ref ar)]))
  refine Good.back (fun _ k => XS.iload X2.here hx rfl (hb hby own_d6_26) rfl k) ?_
  show Good p e below _ (T2.setTop (mkF m 28 #[.val (.ref r0), .val (.long (w.toInt64)), .second, .val (.ref ar), .val (.int (1 : Int32)), .val (.int (0 : Int32)), .unset] [(.int (0 : Int32)), (.ref ar)]))
  have fc4 := V0
  obtain ⟨cl4, Ar4, q4, S4, N4', H4, G4⟩ := fc4
  have hin4 : ¬ ((0 : Int32) < 0 ∨ cl4.slots.size ≤ ((0 : Int32)).toNatClampNeg) := inb_of S4 ⟨by decide, by decide⟩
  have hat4 : cl4.slots[((0 : Int32)).toNatClampNeg]? = some (.int u0) := Has.at H4 hin4 rfl
  refine Good.back (X2.iaload hx (j := (0 : Int32)) (v := (.int u0)) (by rw [e2]; exact Ar4.1) (State.isArrayOf_alike hZ.alike Ar4.2.1) Ar4.2.2 hin4 hat4 (g := (mkF m 28 #[.val (.ref r0), .val (.long (w.toInt64)), .second, .val (.ref ar), .val (.int (1 : Int32)), .val (.int (0 : Int32)), .unset] [(.int (0 : Int32)), (.ref ar)])) rfl rfl (hb hby own_d6_28)) ?_
  show Good p e below _ (T2.setTop (mkF m 29 #[.val (.ref r0), .val (.long (w.toInt64)), .second, .val (.ref ar), .val (.int (1 : Int32)), .val (.int (0 : Int32)), .unset] [(.int u0)]))
  refine Good.back (fun _ k => XS.istore X2.here hx rfl (hb hby own_d6_29) rfl (l' := #[.val (.ref r0), .val (.long (w.toInt64)), .second, .val (.ref ar), .val (.int (1 : Int32)), .val (.int (0 : Int32)), .val (.int u0)]) rfl k) ?_
  show Good p e below _ (T2.setTop (mkF m 31 #[.val (.ref r0), .val (.long (w.toInt64)), .second, .val (.ref ar), .val (.int (1 : Int32)), .val (.int (0 : Int32)), .val (.int u0)] []))
  refine Good.back (fun _ k => XS.lloadN X2.here hx rfl (hb hby own_d6_31) rfl k) ?_
  show Good p e below _ (T2.setTop (mkF m 32 #[.val (.ref r0), .val (.long (w.toInt64)), .second, .val (.ref ar), .val (.int (1 : Int32)), .val (.int (0 : Int32)), .val (.int u0)] [(.long (w.toInt64))]))
  refine Good.back (fun _ k => XS.iload X2.here hx rfl (hb hby own_d6_32) rfl k) ?_
  show Good p e below _ (T2.setTop (mkF m 34 #[.val (.ref r0), .val (.long (w.toInt64)), .second, .val (.ref ar), .val (.int (1 : Int32)), .val (.int (0 : Int32)), .val (.int u0)] [(.int u0), (.long (w.toInt64))]))
  refine Good.back (fun _ k => XS.i2l X2.here hx rfl (hb hby own_d6_34) rfl k) ?_
  show Good p e below _ (T2.setTop (mkF m 35 #[.val (.ref r0), .val (.long (w.toInt64)), .second, .val (.ref ar), .val (.int (1 : Int32)), .val (.int (0 : Int32)), .val (.int u0)] [(.long (u0.toInt64)), (.long (w.toInt64))]))
  refine Good.back (fun _ k => XS.ladd X2.here hx rfl (hb hby own_d6_35) rfl k) ?_
  show Good p e below _ (T2.setTop (mkF m 36 #[.val (.ref r0), .val (.long (w.toInt64)), .second, .val (.ref ar), .val (.int (1 : Int32)), .val (.int (0 : Int32)), .val (.int u0)] [(.long ((w.toInt64) + (u0.toInt64)))]))
  refine Good.back (fun _ k => XS.lstoreN X2.here hx rfl (hb hby own_d6_36) rfl (l' := #[.val (.ref r0), .val (.long ((w.toInt64) + (u0.toInt64))), .second, .val (.ref ar), .val (.int (1 : Int32)), .val (.int (0 : Int32)), .val (.int u0)]) rfl k) ?_
  show Good p e below _ (T2.setTop (mkF m 37 #[.val (.ref r0), .val (.long ((w.toInt64) + (u0.toInt64))), .second, .val (.ref ar), .val (.int (1 : Int32)), .val (.int (0 : Int32)), .val (.int u0)] []))
  refine Good.back (fun _ k => XS.iinc X2.here hx rfl (hb hby own_d6_37) rfl (l' := #[.val (.ref r0), .val (.long ((w.toInt64) + (u0.toInt64))), .second, .val (.ref ar), .val (.int (1 : Int32)), .val (.int ((0 : Int32) + (1 : Int32))), .val (.int u0)]) rfl k) ?_
  show Good p e below _ (T2.setTop (mkF m 40 #[.val (.ref r0), .val (.long ((w.toInt64) + (u0.toInt64))), .second, .val (.ref ar), .val (.int (1 : Int32)), .val (.int ((0 : Int32) + (1 : Int32))), .val (.int u0)] []))
  rw [show (((0 : Int32) + (1 : Int32)) : Int32) = (1 : Int32) from by decide]
  show Good p e below _ (T2.setTop (mkF m 40 #[.val (.ref r0), .val (.long ((w.toInt64) + (u0.toInt64))), .second, .val (.ref ar), .val (.int (1 : Int32)), .val (.int (1 : Int32)), .val (.int u0)] []))
  refine Good.back (fun _ k => XS.goto X2.here hx rfl (pc0 := 40) (pc' := 18) rfl (hb hby own_d6_40) (by decide) (by decide) k) ?_
  show Good p e below _ (T2.setTop (mkF m 18 #[.val (.ref r0), .val (.long ((w.toInt64) + (u0.toInt64))), .second, .val (.ref ar), .val (.int (1 : Int32)), .val (.int (1 : Int32)), .val (.int u0)] []))
  refine Good.back (fun _ k => XS.iload X2.here hx rfl (hb hby own_d6_18) rfl k) ?_
  show Good p e below _ (T2.setTop (mkF m 20 #[.val (.ref r0), .val (.long ((w.toInt64) + (u0.toInt64))), .second, .val (.ref ar), .val (.int (1 : Int32)), .val (.int (1 : Int32)), .val (.int u0)] [(.int (1 : Int32))]))
  refine Good.back (fun _ k => XS.iload X2.here hx rfl (hb hby own_d6_20) rfl k) ?_
  show Good p e below _ (T2.setTop (mkF m 22 #[.val (.ref r0), .val (.long ((w.toInt64) + (u0.toInt64))), .second, .val (.ref ar), .val (.int (1 : Int32)), .val (.int (1 : Int32)), .val (.int u0)] [(.int (1 : Int32)), (.int (1 : Int32))]))
  refine Good.back (fun _ k => XS.icmpYes X2.here hx rfl (pc0 := 22) (pc' := 43) rfl (hb hby own_d6_22) rfl (flt (by decide : ¬ ((1 : Int32) < (1 : Int32)))).2.1 (by decide) (by decide) k) ?_
  show Good p e below _ (T2.setTop (mkF m 43 #[.val (.ref r0), .val (.long ((w.toInt64) + (u0.toInt64))), .second, .val (.ref ar), .val (.int (1 : Int32)), .val (.int (1 : Int32)), .val (.int u0)] []))
  refine Good.back (fun _ k => XS.lloadN X2.here hx rfl (hb hby own_d6_43) rfl k) ?_
  show Good p e below _ (T2.setTop (mkF m 44 #[.val (.ref r0), .val (.long ((w.toInt64) + (u0.toInt64))), .second, .val (.ref ar), .val (.int (1 : Int32)), .val (.int (1 : Int32)), .val (.int u0)] [(.long ((w.toInt64) + (u0.toInt64)))]))
  obtain ⟨fs5, hr5, hrun5, hended5, hW5, hsame5⟩ := X2.leave (v := some (.long ((w.toInt64) + (u0.toInt64)))) (fun h => by rw [Bd.returns] at h; cases h)
  refine Good.done (retOut X2 hx Bd.returns rfl (Or.inr (Or.inl ⟨rfl, rfl, _, rfl⟩)) (hb hby own_d6_44) hr5) hrun5 hended5 ⟨_, _, rfl, ?_, ⟨_, rfl⟩, hW5, hsame5.mono (by decide) (by decide)⟩
  show Q6_1 Z r0 w ar kk u0 h0 n0 _ T2.heap _
  rw [e2]
  exact ⟨rfl, N0, rfl⟩
theorem own_d7_0 : decode prog_13_method_10_code 0 = .ok (.aload_n 0, 1) := by decide +kernel
theorem own_d7_1 : decode prog_13_method_10_code 1 = .ok (.getfield 7, 3) := by decide +kernel
theorem own_d7_4 : decode prog_13_method_10_code 4 = .ok (.iload_n 1, 1) := by decide +kernel
theorem own_d7_5 : decode prog_13_method_10_code 5 = .ok (.iconst 1, 1) := by decide +kernel
theorem own_d7_6 : decode prog_13_method_10_code 6 = .ok (.isub, 1) := by decide +kernel
theorem own_d7_7 : decode prog_13_method_10_code 7 = .ok (.dup2, 1) := by decide +kernel
theorem own_d7_8 : decode prog_13_method_10_code 8 = .ok (.iaload, 1) := by decide +kernel
theorem own_d7_9 : decode prog_13_method_10_code 9 = .ok (.iload_n 2, 1) := by decide +kernel
theorem own_d7_10 : decode prog_13_method_10_code 10 = .ok (.iadd, 1) := by decide +kernel
theorem own_d7_11 : decode prog_13_method_10_code 11 = .ok (.iastore, 1) := by decide +kernel
theorem own_d7_12 : decode prog_13_method_10_code 12 = .ok (.return_, 1) := by decide +kernel
theorem own_ef_7_1_1 (m : MethodId) (x0 : Addr) (x1 : Int32) (x2 : Int32) : entryFrame m #[(.ref x0), (.int x1), (.int x2)] 3 = mkF m 0 #[.val (.ref x0), .val (.int x1), .val (.int x2)] [] := by first | (simp [entryFrame, mkF, argsToLocals, Value.category]; done) | rfl
def Q7_1_1 (Z : State) (r0 : Addr) (p2 : Int32) (ar : Addr) (kk : ClassId) (u0 : Int32) (h0 : Heap) (n0 : Nat) (v : Option Value) (h : Heap) (L : List Loc) : Prop := v = none ∧ Fr n0 L ∧ Keep h0 h [ar] ∧ Arv Z h ar kk .int (1 : Int32) [(.int (u0 + p2))] (.int (0 : Int32))
set_option maxRecDepth 65536 in
set_option maxHeartbeats 40000000 in
theorem rm7_1_1 (l : Launch) (Z : State) (a0 : Array Value) (hw : ∀ d ∈ tables_1, d.before a0 Z = true) (ws : List Jvm.Cond) (r0 : Addr) (p2 : Int32) (ar : Addr) (kk : ClassId) (u0 : Int32) (h0 : Heap) (n0 : Nat) (Z0 : n0 ≤ h0.size) (F_held : Fld Z h0 r0 "org/ludarium/games/sabacc/Chips" "held" "[I" (.ref ar)) (V0 : Arv Z h0 ar kk .int (1 : Int32) [(.int u0)] (.int (0 : Int32))) (ga : n0 ≤ ar) :
    MetFree l (⟨"org/ludarium/games/sabacc/Chips", "win", "(II)V"⟩ : MethodName) (head1 (Jvm.Cond.code (⟨"org/ludarium/games/sabacc/Chips", "win", "(II)V"⟩ : MethodName) prog_13_method_10_code 3 none :: ws) ({ frames := 0, cells := 0, slots := 0, locals := 0 } : Room)) (fun a U => a = #[(.ref r0), (.int (1 : Int32)), (.int p2)] ∧ Z.Warmed39 U.vm ∧ U.heap = h0) (fun _ _ _ _ _ => True) (fun _ U o U' => ∃ v L, o = .returned v ∧ Q7_1_1 Z r0 p2 ar kk u0 h0 n0 v U'.heap L ∧ FrameEnd U o U' L ({ frames := 0, cells := 0, slots := 0, locals := 0 } : Room).cells ({ frames := 0, cells := 0, slots := 0, locals := 0 } : Room).slots) := by
  refine MetFree.of_bodySF (plainFor_of_name own_pn0) hisR ?_
  intro p e s m args below meth c s₁ Bd hml0 hP hK
  obtain ⟨rfl, hZ, hh⟩ := hP
  have hx := Bd.exec
  have hby := Bd.bytes
  have hml : c.maxLocals = 3 := hml0
  have hown : s.vm.findClass "org/ludarium/games/sabacc/Chips" = some m.cls := findClass_of_methodNamed Bd.named
  have hnm := (name_of_methodNamed Bd.named Bd.method).1
  have X0 : Stand p l e ({ frames := 0, cells := 0, slots := 0, locals := 0 } : Room) s m #[(.ref r0), (.int (1 : Int32)), (.int p2)] below meth c s₁ [] 0 0 := Stand.of_body Bd
  have e0 : s₁.heap = h0 := by rw [← hh, Bd.state]; rfl
  have N0 := Fr.nil n0
  have KR : Keep h0 h0 [ar] := Keep.refl h0 _
  show Good p e below (fun o U' => ∃ v L, o = .returned v ∧ Q7_1_1 Z r0 p2 ar kk u0 h0 n0 v U'.heap L ∧ FrameEnd s o U' L ({ frames := 0, cells := 0, slots := 0, locals := 0 } : Room).cells ({ frames := 0, cells := 0, slots := 0, locals := 0 } : Room).slots) _
  refine Good.back (S' := s₁.setTop (mkF m 0 #[.val (.ref r0), .val (.int (1 : Int32)), .val (.int p2)] [])) (fun t k => castTop (own_ef_7_1_1 m r0 (1 : Int32) p2) k) ?_
  show Good p e below _ (s₁.setTop (mkF m 0 #[.val (.ref r0), .val (.int (1 : Int32)), .val (.int p2)] []))
  refine Good.back (fun _ k => XS.aloadN X0.here hx rfl (hb hby own_d7_0) rfl rfl k) ?_
  show Good p e below _ (s₁.setTop (mkF m 1 #[.val (.ref r0), .val (.int (1 : Int32)), .val (.int p2)] [(.ref r0)]))
  obtain ⟨T1, X1, e1, st1⟩ := getF X0 hx hZ hown (host := "") (Or.inl (hw _ (List.mem_of_getElem? (i := 13) rfl))) Via.refl e0 F_held (g := (mkF m 1 #[.val (.ref r0), .val (.int (1 : Int32)), .val (.int p2)] [(.ref r0)])) rfl rfl (hb hby own_d7_1)
  refine Good.back st1 ?_
  show Good p e below _ (T1.setTop (mkF m 4 #[.val (.ref r0), .val (.int (1 : Int32)), .val (.int p2)] [(.ref ar)]))
  refine Good.back (fun _ k => XS.iloadN X1.here hx rfl (hb hby own_d7_4) rfl k) ?_
  show Good p e below _ (T1.setTop (mkF m 5 #[.val (.ref r0), .val (.int (1 : Int32)), .val (.int p2)] [(.int (1 : Int32)), (.ref ar)]))
  refine Good.back (fun _ k => XS.iconst X1.here hx rfl (hb hby own_d7_5) k) ?_
  show Good p e below _ (T1.setTop (mkF m 6 #[.val (.ref r0), .val (.int (1 : Int32)), .val (.int p2)] [(.int (1 : Int32)), (.int (1 : Int32)), (.ref ar)]))
  refine Good.back (fun _ k => XS.isub X1.here hx rfl (hb hby own_d7_6) rfl k) ?_
  show Good p e below _ (T1.setTop (mkF m 7 #[.val (.ref r0), .val (.int (1 : Int32)), .val (.int p2)] [(.int ((1 : Int32) - (1 : Int32))), (.ref ar)]))
  rw [show (((1 : Int32) - (1 : Int32)) : Int32) = (0 : Int32) from by decide]
  show Good p e below _ (T1.setTop (mkF m 7 #[.val (.ref r0), .val (.int (1 : Int32)), .val (.int p2)] [(.int (0 : Int32)), (.ref ar)]))
  refine Good.back (fun _ k => Jvm.Free.XT.dup2 X1.here hx rfl (hb hby own_d7_7) rfl rfl rfl k) ?_
  show Good p e below _ (T1.setTop (mkF m 8 #[.val (.ref r0), .val (.int (1 : Int32)), .val (.int p2)] [(.int (0 : Int32)), (.ref ar), (.int (0 : Int32)), (.ref ar)]))
  have fc2 := V0
  obtain ⟨cl2, Ar2, q2, S2, N2', H2, G2⟩ := fc2
  have hin2 : ¬ ((0 : Int32) < 0 ∨ cl2.slots.size ≤ ((0 : Int32)).toNatClampNeg) := inb_of S2 ⟨by decide, by decide⟩
  have hat2 : cl2.slots[((0 : Int32)).toNatClampNeg]? = some (.int u0) := Has.at H2 hin2 rfl
  refine Good.back (X1.iaload hx (j := (0 : Int32)) (v := (.int u0)) (by rw [e1]; exact Ar2.1) (State.isArrayOf_alike hZ.alike Ar2.2.1) Ar2.2.2 hin2 hat2 (g := (mkF m 8 #[.val (.ref r0), .val (.int (1 : Int32)), .val (.int p2)] [(.int (0 : Int32)), (.ref ar), (.int (0 : Int32)), (.ref ar)])) rfl rfl (hb hby own_d7_8)) ?_
  show Good p e below _ (T1.setTop (mkF m 9 #[.val (.ref r0), .val (.int (1 : Int32)), .val (.int p2)] [(.int u0), (.int (0 : Int32)), (.ref ar)]))
  refine Good.back (fun _ k => XS.iloadN X1.here hx rfl (hb hby own_d7_9) rfl k) ?_
  show Good p e below _ (T1.setTop (mkF m 10 #[.val (.ref r0), .val (.int (1 : Int32)), .val (.int p2)] [(.int p2), (.int u0), (.int (0 : Int32)), (.ref ar)]))
  refine Good.back (fun _ k => XS.iadd X1.here hx rfl (hb hby own_d7_10) rfl k) ?_
  show Good p e below _ (T1.setTop (mkF m 11 #[.val (.ref r0), .val (.int (1 : Int32)), .val (.int p2)] [(.int (u0 + p2)), (.int (0 : Int32)), (.ref ar)]))
  have fc3 := V0
  obtain ⟨cl3, Ar3, q3, S3, N3', H3, G3⟩ := fc3
  have hin3 : ¬ ((0 : Int32) < 0 ∨ cl3.slots.size ≤ ((0 : Int32)).toNatClampNeg) := inb_of S3 ⟨by decide, by decide⟩
  obtain ⟨T3, h3, X3, e3, W3, st3⟩ := stI X1 hx hZ e1 Ar3 (j := (0 : Int32)) hin3 (g := (mkF m 11 #[.val (.ref r0), .val (.int (1 : Int32)), .val (.int p2)] [(.int (u0 + p2)), (.int (0 : Int32)), (.ref ar)])) rfl rfl (hb hby own_d7_11)
  refine Good.back st3 ?_
  have f_4 : Arv Z h3 ar kk .int (1 : Int32) [(.int (u0 + p2))] (.int (0 : Int32)) := Arv.set Ar3 q3 S3 N3' H3 G3 rfl W3 0 rfl (Nat.le_of_ble_eq_true rfl)
  have N3 := Fr.snoc X3 N0 ga
  have Z5 : n0 ≤ h3.size := Nat.le_trans Z0 (Keep.of_wr W3).1
  have K6 : Keep h0 h3 [ar] := KR.wr W3 (Or.inl (List.mem_of_getElem? (i := 0) rfl))
  show Good p e below _ (T3.setTop (mkF m 12 #[.val (.ref r0), .val (.int (1 : Int32)), .val (.int p2)] []))
  obtain ⟨fs7, hr7, hrun7, hended7, hW7, hsame7⟩ := X3.leave (v := none) (fun _ => rfl)
  refine Good.done (X3.returnOut hx Bd.returns (hb hby own_d7_12) hr7) hrun7 hended7 ⟨_, _, rfl, ?_, ⟨_, rfl⟩, hW7, hsame7.mono (by decide) (by decide)⟩
  show Q7_1_1 Z r0 p2 ar kk u0 h0 n0 _ T3.heap _
  rw [e3]
  exact ⟨rfl, N3, K6, f_4⟩
theorem own_pd84 : parseMethodDescriptor "(II)I" = some ⟨[.int, .int], some .int⟩ := by decide +kernel
theorem own_d8_0 : decode prog_13_method_8_code 0 = .ok (.iload_n 2, 1) := by decide +kernel
theorem own_d8_1 : decode prog_13_method_8_code 1 = .ok (.aload_n 0, 1) := by decide +kernel
theorem own_d8_2 : decode prog_13_method_8_code 2 = .ok (.getfield 7, 3) := by decide +kernel
theorem own_d8_5 : decode prog_13_method_8_code 5 = .ok (.iload_n 1, 1) := by decide +kernel
theorem own_d8_6 : decode prog_13_method_8_code 6 = .ok (.iconst 1, 1) := by decide +kernel
theorem own_d8_7 : decode prog_13_method_8_code 7 = .ok (.isub, 1) := by decide +kernel
theorem own_d8_8 : decode prog_13_method_8_code 8 = .ok (.iaload, 1) := by decide +kernel
theorem own_d8_9 : decode prog_13_method_8_code 9 = .ok (.invokestatic 30, 3) := by decide +kernel
theorem own_d8_12 : decode prog_13_method_8_code 12 = .ok (.istore_n 3, 1) := by decide +kernel
theorem own_d8_13 : decode prog_13_method_8_code 13 = .ok (.aload_n 0, 1) := by decide +kernel
theorem own_d8_14 : decode prog_13_method_8_code 14 = .ok (.getfield 7, 3) := by decide +kernel
theorem own_d8_17 : decode prog_13_method_8_code 17 = .ok (.iload_n 1, 1) := by decide +kernel
theorem own_d8_18 : decode prog_13_method_8_code 18 = .ok (.iconst 1, 1) := by decide +kernel
theorem own_d8_19 : decode prog_13_method_8_code 19 = .ok (.isub, 1) := by decide +kernel
theorem own_d8_20 : decode prog_13_method_8_code 20 = .ok (.dup2, 1) := by decide +kernel
theorem own_d8_21 : decode prog_13_method_8_code 21 = .ok (.iaload, 1) := by decide +kernel
theorem own_d8_22 : decode prog_13_method_8_code 22 = .ok (.iload_n 3, 1) := by decide +kernel
theorem own_d8_23 : decode prog_13_method_8_code 23 = .ok (.isub, 1) := by decide +kernel
theorem own_d8_24 : decode prog_13_method_8_code 24 = .ok (.iastore, 1) := by decide +kernel
theorem own_d8_25 : decode prog_13_method_8_code 25 = .ok (.aload_n 0, 1) := by decide +kernel
theorem own_d8_26 : decode prog_13_method_8_code 26 = .ok (.dup, 1) := by decide +kernel
theorem own_d8_27 : decode prog_13_method_8_code 27 = .ok (.getfield 21, 3) := by decide +kernel
theorem own_d8_30 : decode prog_13_method_8_code 30 = .ok (.iload_n 3, 1) := by decide +kernel
theorem own_d8_31 : decode prog_13_method_8_code 31 = .ok (.iadd, 1) := by decide +kernel
theorem own_d8_32 : decode prog_13_method_8_code 32 = .ok (.putfield 21, 3) := by decide +kernel
theorem own_d8_35 : decode prog_13_method_8_code 35 = .ok (.return_, 1) := by decide +kernel
theorem own_ef_8_1_1 (m : MethodId) (x0 : Addr) (x1 : Int32) (x2 : Int32) : entryFrame m #[(.ref x0), (.int x1), (.int x2)] 4 = mkF m 0 #[.val (.ref x0), .val (.int x1), .val (.int x2), .unset] [] := by first | (simp [entryFrame, mkF, argsToLocals, Value.category]; done) | rfl
def Q8_1_1 (Z : State) (r0 : Addr) (p2 : Int32) (ar : Addr) (w : Int32) (kk : ClassId) (u0 : Int32) (h0 : Heap) (n0 : Nat) (v : Option Value) (h : Heap) (L : List Loc) : Prop := v = none ∧ Fr n0 L ∧ Keep h0 h [ar, r0] ∧ Arv Z h ar kk .int (1 : Int32) [(.int (u0 - (if u0 < p2 then u0 else p2)))] (.int (0 : Int32)) ∧ Fld Z h r0 "org/ludarium/games/sabacc/Chips" "held" "[I" (.ref ar) ∧ Fld Z h r0 "org/ludarium/games/sabacc/Chips" "sabaccPot" "I" (.int (w + (if u0 < p2 then u0 else p2)))
set_option maxRecDepth 65536 in
set_option maxHeartbeats 40000000 in
theorem rm8_1_1 (l : Launch) (Z : State) (a0 : Array Value) (hw : ∀ d ∈ tables_1, d.before a0 Z = true) (ws : List Jvm.Cond) (r0 : Addr) (p2 : Int32) (ar : Addr) (w : Int32) (kk : ClassId) (u0 : Int32) (h0 : Heap) (n0 : Nat) (Z0 : n0 ≤ h0.size) (E0 : Exa Z h0 r0 "org/ludarium/games/sabacc/Chips") (g0 : n0 ≤ r0) (ga : n0 ≤ ar) (hne : r0 ≠ ar) (F_pot : Fld Z h0 r0 "org/ludarium/games/sabacc/Chips" "sabaccPot" "I" (.int w)) (F_held : Fld Z h0 r0 "org/ludarium/games/sabacc/Chips" "held" "[I" (.ref ar)) (V0 : Arv Z h0 ar kk .int (1 : Int32) [(.int u0)] (.int (0 : Int32))) :
    MetFree l (⟨"org/ludarium/games/sabacc/Chips", "paySabaccPot", "(II)V"⟩ : MethodName) (head1 (Jvm.Cond.code (⟨"org/ludarium/games/sabacc/Chips", "paySabaccPot", "(II)V"⟩ : MethodName) prog_13_method_8_code 4 none :: ws) ({ frames := 1, cells := 0, slots := 0, locals := 13 } : Room)) (fun a U => a = #[(.ref r0), (.int (1 : Int32)), (.int p2)] ∧ Z.Warmed39 U.vm ∧ U.heap = h0) (fun _ _ _ _ _ => True) (fun _ U o U' => ∃ v L, o = .returned v ∧ Q8_1_1 Z r0 p2 ar w kk u0 h0 n0 v U'.heap L ∧ FrameEnd U o U' L ({ frames := 1, cells := 0, slots := 0, locals := 13 } : Room).cells ({ frames := 1, cells := 0, slots := 0, locals := 13 } : Room).slots) := by
  refine MetFree.of_bodySF (plainFor_of_name own_pn0) hisR ?_
  intro p e s m args below meth c s₁ Bd hml0 hP hK
  obtain ⟨rfl, hZ, hh⟩ := hP
  have hx := Bd.exec
  have hby := Bd.bytes
  have hml : c.maxLocals = 4 := hml0
  have hown : s.vm.findClass "org/ludarium/games/sabacc/Chips" = some m.cls := findClass_of_methodNamed Bd.named
  have hnm := (name_of_methodNamed Bd.named Bd.method).1
  have X0 : Stand p l e ({ frames := 1, cells := 0, slots := 0, locals := 13 } : Room) s m #[(.ref r0), (.int (1 : Int32)), (.int p2)] below meth c s₁ [] 0 0 := Stand.of_body Bd
  have e0 : s₁.heap = h0 := by rw [← hh, Bd.state]; rfl
  have N0 := Fr.nil n0
  have KR : Keep h0 h0 [ar, r0] := Keep.refl h0 _
  show Good p e below (fun o U' => ∃ v L, o = .returned v ∧ Q8_1_1 Z r0 p2 ar w kk u0 h0 n0 v U'.heap L ∧ FrameEnd s o U' L ({ frames := 1, cells := 0, slots := 0, locals := 13 } : Room).cells ({ frames := 1, cells := 0, slots := 0, locals := 13 } : Room).slots) _
  refine Good.back (S' := s₁.setTop (mkF m 0 #[.val (.ref r0), .val (.int (1 : Int32)), .val (.int p2), .unset] [])) (fun t k => castTop (own_ef_8_1_1 m r0 (1 : Int32) p2) k) ?_
  show Good p e below _ (s₁.setTop (mkF m 0 #[.val (.ref r0), .val (.int (1 : Int32)), .val (.int p2), .unset] []))
  refine Good.back (fun _ k => XS.iloadN X0.here hx rfl (hb hby own_d8_0) rfl k) ?_
  show Good p e below _ (s₁.setTop (mkF m 1 #[.val (.ref r0), .val (.int (1 : Int32)), .val (.int p2), .unset] [(.int p2)]))
  refine Good.back (fun _ k => XS.aloadN X0.here hx rfl (hb hby own_d8_1) rfl rfl k) ?_
  show Good p e below _ (s₁.setTop (mkF m 2 #[.val (.ref r0), .val (.int (1 : Int32)), .val (.int p2), .unset] [(.ref r0), (.int p2)]))
  obtain ⟨T1, X1, e1, st1⟩ := getF X0 hx hZ hown (host := "") (Or.inl (hw _ (List.mem_of_getElem? (i := 13) rfl))) Via.refl e0 F_held (g := (mkF m 2 #[.val (.ref r0), .val (.int (1 : Int32)), .val (.int p2), .unset] [(.ref r0), (.int p2)])) rfl rfl (hb hby own_d8_2)
  refine Good.back st1 ?_
  show Good p e below _ (T1.setTop (mkF m 5 #[.val (.ref r0), .val (.int (1 : Int32)), .val (.int p2), .unset] [(.ref ar), (.int p2)]))
  refine Good.back (fun _ k => XS.iloadN X1.here hx rfl (hb hby own_d8_5) rfl k) ?_
  show Good p e below _ (T1.setTop (mkF m 6 #[.val (.ref r0), .val (.int (1 : Int32)), .val (.int p2), .unset] [(.int (1 : Int32)), (.ref ar), (.int p2)]))
  refine Good.back (fun _ k => XS.iconst X1.here hx rfl (hb hby own_d8_6) k) ?_
  show Good p e below _ (T1.setTop (mkF m 7 #[.val (.ref r0), .val (.int (1 : Int32)), .val (.int p2), .unset] [(.int (1 : Int32)), (.int (1 : Int32)), (.ref ar), (.int p2)]))
  refine Good.back (fun _ k => XS.isub X1.here hx rfl (hb hby own_d8_7) rfl k) ?_
  show Good p e below _ (T1.setTop (mkF m 8 #[.val (.ref r0), .val (.int (1 : Int32)), .val (.int p2), .unset] [(.int ((1 : Int32) - (1 : Int32))), (.ref ar), (.int p2)]))
  rw [show (((1 : Int32) - (1 : Int32)) : Int32) = (0 : Int32) from by decide]
  show Good p e below _ (T1.setTop (mkF m 8 #[.val (.ref r0), .val (.int (1 : Int32)), .val (.int p2), .unset] [(.int (0 : Int32)), (.ref ar), (.int p2)]))
  have fc2 := V0
  obtain ⟨cl2, Ar2, q2, S2, N2', H2, G2⟩ := fc2
  have hin2 : ¬ ((0 : Int32) < 0 ∨ cl2.slots.size ≤ ((0 : Int32)).toNatClampNeg) := inb_of S2 ⟨by decide, by decide⟩
  have hat2 : cl2.slots[((0 : Int32)).toNatClampNeg]? = some (.int u0) := Has.at H2 hin2 rfl
  refine Good.back (X1.iaload hx (j := (0 : Int32)) (v := (.int u0)) (by rw [e1]; exact Ar2.1) (State.isArrayOf_alike hZ.alike Ar2.2.1) Ar2.2.2 hin2 hat2 (g := (mkF m 8 #[.val (.ref r0), .val (.int (1 : Int32)), .val (.int p2), .unset] [(.int (0 : Int32)), (.ref ar), (.int p2)])) rfl rfl (hb hby own_d8_8)) ?_
  show Good p e below _ (T1.setTop (mkF m 9 #[.val (.ref r0), .val (.int (1 : Int32)), .val (.int p2), .unset] [(.int u0), (.int p2)]))
  obtain ⟨_, _, ⟨T3, L3, k3, n3⟩, -, X3, ⟨Lc3, hQ3, l3, y3, z3⟩, st3⟩ := Jvm.LawKit.callS X1 hx (y := (⟨"java/lang/Math", "min", "(II)I"⟩ : MethodName)) hown (mvT hZ (hw _ (List.mem_of_getElem? (i := 41) rfl))) (mvT hZ (hw _ (List.mem_of_getElem? (i := 42) rfl))) (mvT hZ (hw _ (List.mem_of_getElem? (i := 43) rfl))) (mvT hZ (hw _ (List.mem_of_getElem? (i := 44) rfl))) (by decide) (backOf (W := 0) (rm9 l Z a0 hw [] p2 u0  h0 n0 Z0 ) hZ (hw _ (List.mem_of_getElem? (i := 44) rfl)) (hw _ (List.mem_of_getElem? (i := 43) rfl)) (by decide) (by decide)) (g := (mkF m 9 #[.val (.ref r0), .val (.int (1 : Int32)), .val (.int p2), .unset] [(.int u0), (.int p2)])) rfl (by rw [hml]; rfl) (argsL := [(.int p2), (.int u0)]) (rest := []) (lenOf own_pd84 rfl) rfl (by show 2 * 0 + _ ≤ _; exact Nat.le_of_eq rfl) (hb hby own_d8_9) (fun _ _ => ⟨rfl, e1, (by decide : 0 + 0 ≤ _), (by decide : 0 + 0 ≤ _)⟩)
  dsimp only [Pt.U, Pt.locs, Pt.cells, Pt.slots] at X3 l3 y3 z3 st3 hQ3
  subst l3 y3 z3
  obtain ⟨rfl, N3q, eh3⟩ := hQ3
  have N3 := Fr.app N0 N3q
  refine Good.back st3 ?_
  show Good p e below _ (T3.setTop (mkF m 12 #[.val (.ref r0), .val (.int (1 : Int32)), .val (.int p2), .unset] [(.int (if u0 < p2 then u0 else p2))]))
  refine Good.back (fun _ k => XS.istoreN X3.here hx rfl (hb hby own_d8_12) rfl (l' := #[.val (.ref r0), .val (.int (1 : Int32)), .val (.int p2), .val (.int (if u0 < p2 then u0 else p2))]) rfl k) ?_
  show Good p e below _ (T3.setTop (mkF m 13 #[.val (.ref r0), .val (.int (1 : Int32)), .val (.int p2), .val (.int (if u0 < p2 then u0 else p2))] []))
  refine Good.back (fun _ k => XS.aloadN X3.here hx rfl (hb hby own_d8_13) rfl rfl k) ?_
  show Good p e below _ (T3.setTop (mkF m 14 #[.val (.ref r0), .val (.int (1 : Int32)), .val (.int p2), .val (.int (if u0 < p2 then u0 else p2))] [(.ref r0)]))
  obtain ⟨T4, X4, e4, st4⟩ := getF X3 hx hZ hown (host := "") (Or.inl (hw _ (List.mem_of_getElem? (i := 13) rfl))) Via.refl eh3 F_held (g := (mkF m 14 #[.val (.ref r0), .val (.int (1 : Int32)), .val (.int p2), .val (.int (if u0 < p2 then u0 else p2))] [(.ref r0)])) rfl rfl (hb hby own_d8_14)
  refine Good.back st4 ?_
  show Good p e below _ (T4.setTop (mkF m 17 #[.val (.ref r0), .val (.int (1 : Int32)), .val (.int p2), .val (.int (if u0 < p2 then u0 else p2))] [(.ref ar)]))
  refine Good.back (fun _ k => XS.iloadN X4.here hx rfl (hb hby own_d8_17) rfl k) ?_
  show Good p e below _ (T4.setTop (mkF m 18 #[.val (.ref r0), .val (.int (1 : Int32)), .val (.int p2), .val (.int (if u0 < p2 then u0 else p2))] [(.int (1 : Int32)), (.ref ar)]))
  refine Good.back (fun _ k => XS.iconst X4.here hx rfl (hb hby own_d8_18) k) ?_
  show Good p e below _ (T4.setTop (mkF m 19 #[.val (.ref r0), .val (.int (1 : Int32)), .val (.int p2), .val (.int (if u0 < p2 then u0 else p2))] [(.int (1 : Int32)), (.int (1 : Int32)), (.ref ar)]))
  refine Good.back (fun _ k => XS.isub X4.here hx rfl (hb hby own_d8_19) rfl k) ?_
  show Good p e below _ (T4.setTop (mkF m 20 #[.val (.ref r0), .val (.int (1 : Int32)), .val (.int p2), .val (.int (if u0 < p2 then u0 else p2))] [(.int ((1 : Int32) - (1 : Int32))), (.ref ar)]))
  rw [show (((1 : Int32) - (1 : Int32)) : Int32) = (0 : Int32) from by decide]
  show Good p e below _ (T4.setTop (mkF m 20 #[.val (.ref r0), .val (.int (1 : Int32)), .val (.int p2), .val (.int (if u0 < p2 then u0 else p2))] [(.int (0 : Int32)), (.ref ar)]))
  refine Good.back (fun _ k => Jvm.Free.XT.dup2 X4.here hx rfl (hb hby own_d8_20) rfl rfl rfl k) ?_
  show Good p e below _ (T4.setTop (mkF m 21 #[.val (.ref r0), .val (.int (1 : Int32)), .val (.int p2), .val (.int (if u0 < p2 then u0 else p2))] [(.int (0 : Int32)), (.ref ar), (.int (0 : Int32)), (.ref ar)]))
  have fc5 := V0
  obtain ⟨cl5, Ar5, q5, S5, N5', H5, G5⟩ := fc5
  have hin5 : ¬ ((0 : Int32) < 0 ∨ cl5.slots.size ≤ ((0 : Int32)).toNatClampNeg) := inb_of S5 ⟨by decide, by decide⟩
  have hat5 : cl5.slots[((0 : Int32)).toNatClampNeg]? = some (.int u0) := Has.at H5 hin5 rfl
  refine Good.back (X4.iaload hx (j := (0 : Int32)) (v := (.int u0)) (by rw [e4]; exact Ar5.1) (State.isArrayOf_alike hZ.alike Ar5.2.1) Ar5.2.2 hin5 hat5 (g := (mkF m 21 #[.val (.ref r0), .val (.int (1 : Int32)), .val (.int p2), .val (.int (if u0 < p2 then u0 else p2))] [(.int (0 : Int32)), (.ref ar), (.int (0 : Int32)), (.ref ar)])) rfl rfl (hb hby own_d8_21)) ?_
  show Good p e below _ (T4.setTop (mkF m 22 #[.val (.ref r0), .val (.int (1 : Int32)), .val (.int p2), .val (.int (if u0 < p2 then u0 else p2))] [(.int u0), (.int (0 : Int32)), (.ref ar)]))
  refine Good.back (fun _ k => XS.iloadN X4.here hx rfl (hb hby own_d8_22) rfl k) ?_
  show Good p e below _ (T4.setTop (mkF m 23 #[.val (.ref r0), .val (.int (1 : Int32)), .val (.int p2), .val (.int (if u0 < p2 then u0 else p2))] [(.int (if u0 < p2 then u0 else p2)), (.int u0), (.int (0 : Int32)), (.ref ar)]))
  refine Good.back (fun _ k => XS.isub X4.here hx rfl (hb hby own_d8_23) rfl k) ?_
  show Good p e below _ (T4.setTop (mkF m 24 #[.val (.ref r0), .val (.int (1 : Int32)), .val (.int p2), .val (.int (if u0 < p2 then u0 else p2))] [(.int (u0 - (if u0 < p2 then u0 else p2))), (.int (0 : Int32)), (.ref ar)]))
  have fc6 := V0
  obtain ⟨cl6, Ar6, q6, S6, N6', H6, G6⟩ := fc6
  have hin6 : ¬ ((0 : Int32) < 0 ∨ cl6.slots.size ≤ ((0 : Int32)).toNatClampNeg) := inb_of S6 ⟨by decide, by decide⟩
  obtain ⟨T6, h6, X6, e6, W6, st6⟩ := stI X4 hx hZ e4 Ar6 (j := (0 : Int32)) hin6 (g := (mkF m 24 #[.val (.ref r0), .val (.int (1 : Int32)), .val (.int p2), .val (.int (if u0 < p2 then u0 else p2))] [(.int (u0 - (if u0 < p2 then u0 else p2))), (.int (0 : Int32)), (.ref ar)])) rfl rfl (hb hby own_d8_24)
  refine Good.back st6 ?_
  have f_7 : Arv Z h6 ar kk .int (1 : Int32) [(.int (u0 - (if u0 < p2 then u0 else p2)))] (.int (0 : Int32)) := Arv.set Ar6 q6 S6 N6' H6 G6 rfl W6 0 rfl (Nat.le_of_ble_eq_true rfl)
  have N6 := Fr.snoc X6 N3 ga
  have Z8 : n0 ≤ h6.size := Nat.le_trans Z0 (Keep.of_wr W6).1
  have K9 : Keep h0 h6 [ar, r0] := KR.wr W6 (Or.inl (List.mem_of_getElem? (i := 0) rfl))
  show Good p e below _ (T6.setTop (mkF m 25 #[.val (.ref r0), .val (.int (1 : Int32)), .val (.int p2), .val (.int (if u0 < p2 then u0 else p2))] []))
  refine Good.back (fun _ k => XS.aloadN X6.here hx rfl (hb hby own_d8_25) rfl rfl k) ?_
  show Good p e below _ (T6.setTop (mkF m 26 #[.val (.ref r0), .val (.int (1 : Int32)), .val (.int p2), .val (.int (if u0 < p2 then u0 else p2))] [(.ref r0)]))
  refine Good.back (fun _ k => XS.dup X6.here hx rfl (hb hby own_d8_26) rfl rfl k) ?_
  show Good p e below _ (T6.setTop (mkF m 27 #[.val (.ref r0), .val (.int (1 : Int32)), .val (.int p2), .val (.int (if u0 < p2 then u0 else p2))] [(.ref r0), (.ref r0)]))
  have f_10 : Fld Z h6 r0 "org/ludarium/games/sabacc/Chips" "sabaccPot" "I" (.int w) := Fld.other W6 F_pot (Or.inl hne)
  obtain ⟨T11, X11, e11, st11⟩ := getF X6 hx hZ hown (host := "") (Or.inl (hw _ (List.mem_of_getElem? (i := 15) rfl))) Via.refl e6 f_10 (g := (mkF m 27 #[.val (.ref r0), .val (.int (1 : Int32)), .val (.int p2), .val (.int (if u0 < p2 then u0 else p2))] [(.ref r0), (.ref r0)])) rfl rfl (hb hby own_d8_27)
  refine Good.back st11 ?_
  show Good p e below _ (T11.setTop (mkF m 30 #[.val (.ref r0), .val (.int (1 : Int32)), .val (.int p2), .val (.int (if u0 < p2 then u0 else p2))] [(.int w), (.ref r0)]))
  refine Good.back (fun _ k => XS.iloadN X11.here hx rfl (hb hby own_d8_30) rfl k) ?_
  show Good p e below _ (T11.setTop (mkF m 31 #[.val (.ref r0), .val (.int (1 : Int32)), .val (.int p2), .val (.int (if u0 < p2 then u0 else p2))] [(.int (if u0 < p2 then u0 else p2)), (.int w), (.ref r0)]))
  refine Good.back (fun _ k => XS.iadd X11.here hx rfl (hb hby own_d8_31) rfl k) ?_
  show Good p e below _ (T11.setTop (mkF m 32 #[.val (.ref r0), .val (.int (1 : Int32)), .val (.int p2), .val (.int (if u0 < p2 then u0 else p2))] [(.int (w + (if u0 < p2 then u0 else p2))), (.ref r0)]))
  have f_12 : Exa Z h6 r0 "org/ludarium/games/sabacc/Chips" := Exa.wr W6 E0
  obtain ⟨T13, h13, X13, e13, W13, st13⟩ := putF X11 hx hZ hown (host := "") (Or.inl (hw _ (List.mem_of_getElem? (i := 15) rfl))) Via.refl e11 f_10 f_12 (Or.inl (hw _ (List.mem_of_getElem? (i := 16) rfl))) (hw _ (List.mem_of_getElem? (i := 1) rfl)) (ty := .int) (by decide) rfl rfl (g := (mkF m 32 #[.val (.ref r0), .val (.int (1 : Int32)), .val (.int p2), .val (.int (if u0 < p2 then u0 else p2))] [(.int (w + (if u0 < p2 then u0 else p2))), (.ref r0)])) rfl rfl (hb hby own_d8_32)
  refine Good.back st13 ?_
  have f_14 : Fld Z h13 r0 "org/ludarium/games/sabacc/Chips" "sabaccPot" "I" (.int (w + (if u0 < p2 then u0 else p2))) := Fld.same W13 f_10
  have N13 := Fr.snoc X13 N6 g0
  have Z15 : n0 ≤ h13.size := Nat.le_trans Z8 (Keep.of_wr W13).1
  have K16 : Keep h0 h13 [ar, r0] := K9.wr W13 (Or.inl (List.mem_of_getElem? (i := 1) rfl))
  show Good p e below _ (T13.setTop (mkF m 35 #[.val (.ref r0), .val (.int (1 : Int32)), .val (.int p2), .val (.int (if u0 < p2 then u0 else p2))] []))
  obtain ⟨fs17, hr17, hrun17, hended17, hW17, hsame17⟩ := X13.leave (v := none) (fun _ => rfl)
  refine Good.done (X13.returnOut hx Bd.returns (hb hby own_d8_35) hr17) hrun17 hended17 ⟨_, _, rfl, ?_, ⟨_, rfl⟩, hW17, hsame17.mono (by decide) (by decide)⟩
  show Q8_1_1 Z r0 p2 ar w kk u0 h0 n0 _ T13.heap _
  rw [e13]
  have f_18 : Arv Z h13 ar kk .int (1 : Int32) [(.int (u0 - (if u0 < p2 then u0 else p2)))] (.int (0 : Int32)) := Arv.other f_7 W13 (Ne.symm hne)
  have f_19 : Fld Z h6 r0 "org/ludarium/games/sabacc/Chips" "held" "[I" (.ref ar) := Fld.other W6 F_held (Or.inl hne)
  have f_20 : Fld Z h13 r0 "org/ludarium/games/sabacc/Chips" "held" "[I" (.ref ar) := Fld.other W13 f_19 (Or.inr (slot_ne (Or.inr (hw _ (List.mem_of_getElem? (i := 14) rfl))) (Or.inl (hw _ (List.mem_of_getElem? (i := 16) rfl))) (by decide) (t := (.array .int)) (t' := .int) (by decide) (by decide)))
  exact ⟨rfl, N13, K16, f_18, f_20, f_14⟩
theorem own_d10_0 : decode prog_13_method_5_code 0 = .ok (.aload_n 0, 1) := by decide +kernel
theorem own_d10_1 : decode prog_13_method_5_code 1 = .ok (.getfield 7, 3) := by decide +kernel
theorem own_d10_4 : decode prog_13_method_5_code 4 = .ok (.iload_n 1, 1) := by decide +kernel
theorem own_d10_5 : decode prog_13_method_5_code 5 = .ok (.iconst 1, 1) := by decide +kernel
theorem own_d10_6 : decode prog_13_method_5_code 6 = .ok (.isub, 1) := by decide +kernel
theorem own_d10_7 : decode prog_13_method_5_code 7 = .ok (.iaload, 1) := by decide +kernel
theorem own_d10_8 : decode prog_13_method_5_code 8 = .ok (.ireturn, 1) := by decide +kernel
theorem own_ef_10_1_1 (m : MethodId) (x0 : Addr) (x1 : Int32) : entryFrame m #[(.ref x0), (.int x1)] 2 = mkF m 0 #[.val (.ref x0), .val (.int x1)] [] := by first | (simp [entryFrame, mkF, argsToLocals, Value.category]; done) | rfl
def Q10_1_1 (Z : State) (r0 : Addr) (ar : Addr) (kk : ClassId) (u0 : Int32) (h0 : Heap) (n0 : Nat) (v : Option Value) (h : Heap) (L : List Loc) : Prop := v = some (.int u0) ∧ Fr n0 L ∧ h = h0
set_option maxRecDepth 65536 in
set_option maxHeartbeats 40000000 in
theorem rm10_1_1 (l : Launch) (Z : State) (a0 : Array Value) (hw : ∀ d ∈ tables_1, d.before a0 Z = true) (ws : List Jvm.Cond) (r0 : Addr) (ar : Addr) (kk : ClassId) (u0 : Int32) (h0 : Heap) (n0 : Nat) (Z0 : n0 ≤ h0.size) (F_held : Fld Z h0 r0 "org/ludarium/games/sabacc/Chips" "held" "[I" (.ref ar)) (V0 : Arv Z h0 ar kk .int (1 : Int32) [(.int u0)] (.int (0 : Int32))) :
    MetFree l (⟨"org/ludarium/games/sabacc/Chips", "held", "(I)I"⟩ : MethodName) (head1 (Jvm.Cond.code (⟨"org/ludarium/games/sabacc/Chips", "held", "(I)I"⟩ : MethodName) prog_13_method_5_code 2 (some .int) :: ws) ({ frames := 0, cells := 0, slots := 0, locals := 0 } : Room)) (fun a U => a = #[(.ref r0), (.int (1 : Int32))] ∧ Z.Warmed39 U.vm ∧ U.heap = h0) (fun _ _ _ _ _ => True) (fun _ U o U' => ∃ v L, o = .returned v ∧ Q10_1_1 Z r0 ar kk u0 h0 n0 v U'.heap L ∧ FrameEnd U o U' L ({ frames := 0, cells := 0, slots := 0, locals := 0 } : Room).cells ({ frames := 0, cells := 0, slots := 0, locals := 0 } : Room).slots) := by
  refine MetFree.of_bodySF (plainFor_of_name own_pn0) hisR ?_
  intro p e s m args below meth c s₁ Bd hml0 hP hK
  obtain ⟨rfl, hZ, hh⟩ := hP
  have hx := Bd.exec
  have hby := Bd.bytes
  have hml : c.maxLocals = 2 := hml0
  have hown : s.vm.findClass "org/ludarium/games/sabacc/Chips" = some m.cls := findClass_of_methodNamed Bd.named
  have hnm := (name_of_methodNamed Bd.named Bd.method).1
  have X0 : Stand p l e ({ frames := 0, cells := 0, slots := 0, locals := 0 } : Room) s m #[(.ref r0), (.int (1 : Int32))] below meth c s₁ [] 0 0 := Stand.of_body Bd
  have e0 : s₁.heap = h0 := by rw [← hh, Bd.state]; rfl
  have N0 := Fr.nil n0
  show Good p e below (fun o U' => ∃ v L, o = .returned v ∧ Q10_1_1 Z r0 ar kk u0 h0 n0 v U'.heap L ∧ FrameEnd s o U' L ({ frames := 0, cells := 0, slots := 0, locals := 0 } : Room).cells ({ frames := 0, cells := 0, slots := 0, locals := 0 } : Room).slots) _
  refine Good.back (S' := s₁.setTop (mkF m 0 #[.val (.ref r0), .val (.int (1 : Int32))] [])) (fun t k => castTop (own_ef_10_1_1 m r0 (1 : Int32)) k) ?_
  show Good p e below _ (s₁.setTop (mkF m 0 #[.val (.ref r0), .val (.int (1 : Int32))] []))
  refine Good.back (fun _ k => XS.aloadN X0.here hx rfl (hb hby own_d10_0) rfl rfl k) ?_
  show Good p e below _ (s₁.setTop (mkF m 1 #[.val (.ref r0), .val (.int (1 : Int32))] [(.ref r0)]))
  obtain ⟨T1, X1, e1, st1⟩ := getF X0 hx hZ hown (host := "") (Or.inl (hw _ (List.mem_of_getElem? (i := 13) rfl))) Via.refl e0 F_held (g := (mkF m 1 #[.val (.ref r0), .val (.int (1 : Int32))] [(.ref r0)])) rfl rfl (hb hby own_d10_1)
  refine Good.back st1 ?_
  show Good p e below _ (T1.setTop (mkF m 4 #[.val (.ref r0), .val (.int (1 : Int32))] [(.ref ar)]))
  refine Good.back (fun _ k => XS.iloadN X1.here hx rfl (hb hby own_d10_4) rfl k) ?_
  show Good p e below _ (T1.setTop (mkF m 5 #[.val (.ref r0), .val (.int (1 : Int32))] [(.int (1 : Int32)), (.ref ar)]))
  refine Good.back (fun _ k => XS.iconst X1.here hx rfl (hb hby own_d10_5) k) ?_
  show Good p e below _ (T1.setTop (mkF m 6 #[.val (.ref r0), .val (.int (1 : Int32))] [(.int (1 : Int32)), (.int (1 : Int32)), (.ref ar)]))
  refine Good.back (fun _ k => XS.isub X1.here hx rfl (hb hby own_d10_6) rfl k) ?_
  show Good p e below _ (T1.setTop (mkF m 7 #[.val (.ref r0), .val (.int (1 : Int32))] [(.int ((1 : Int32) - (1 : Int32))), (.ref ar)]))
  rw [show (((1 : Int32) - (1 : Int32)) : Int32) = (0 : Int32) from by decide]
  show Good p e below _ (T1.setTop (mkF m 7 #[.val (.ref r0), .val (.int (1 : Int32))] [(.int (0 : Int32)), (.ref ar)]))
  have fc2 := V0
  obtain ⟨cl2, Ar2, q2, S2, N2', H2, G2⟩ := fc2
  have hin2 : ¬ ((0 : Int32) < 0 ∨ cl2.slots.size ≤ ((0 : Int32)).toNatClampNeg) := inb_of S2 ⟨by decide, by decide⟩
  have hat2 : cl2.slots[((0 : Int32)).toNatClampNeg]? = some (.int u0) := Has.at H2 hin2 rfl
  refine Good.back (X1.iaload hx (j := (0 : Int32)) (v := (.int u0)) (by rw [e1]; exact Ar2.1) (State.isArrayOf_alike hZ.alike Ar2.2.1) Ar2.2.2 hin2 hat2 (g := (mkF m 7 #[.val (.ref r0), .val (.int (1 : Int32))] [(.int (0 : Int32)), (.ref ar)])) rfl rfl (hb hby own_d10_7)) ?_
  show Good p e below _ (T1.setTop (mkF m 8 #[.val (.ref r0), .val (.int (1 : Int32))] [(.int u0)]))
  obtain ⟨fs3, hr3, hrun3, hended3, hW3, hsame3⟩ := X1.leave (v := some (.int u0)) (fun h => by rw [Bd.returns] at h; cases h)
  refine Good.done (retI X1 hx Bd.returns (hb hby own_d10_8) hr3) hrun3 hended3 ⟨_, _, rfl, ?_, ⟨_, rfl⟩, hW3, hsame3.mono (by decide) (by decide)⟩
  show Q10_1_1 Z r0 ar kk u0 h0 n0 _ T1.heap _
  rw [e1]
  exact ⟨rfl, N0, rfl⟩
theorem own_ef_4_2 (m : MethodId) (x0 : Addr) (x1 : Int32) : entryFrame m #[(.ref x0), (.int x1)] 4 = mkF m 0 #[.val (.ref x0), .val (.int x1), .unset, .unset] [] := by first | (simp [entryFrame, mkF, argsToLocals, Value.category]; done) | rfl
def Q4_2 (Z : State) (r0 : Addr) (p1 : Int32) (kk : ClassId) (u0 : Int32) (u1 : Int32) (h0 : Heap) (n0 : Nat) (v : Option Value) (h : Heap) (L : List Loc) : Prop := v = none ∧ Fr n0 L ∧ Keep h0 h [r0] ∧ Arv Z h r0 kk .int (2 : Int32) [(.int p1), (.int p1)] (.int (0 : Int32))
set_option maxRecDepth 65536 in
set_option maxHeartbeats 40000000 in
theorem rm4_2 (l : Launch) (Z : State) (a0 : Array Value) (hw : ∀ d ∈ tables_1, d.before a0 Z = true) (ws : List Jvm.Cond) (r0 : Addr) (p1 : Int32) (kk : ClassId) (u0 : Int32) (u1 : Int32) (h0 : Heap) (n0 : Nat) (Z0 : n0 ≤ h0.size) (V0 : Arv Z h0 r0 kk .int (2 : Int32) [(.int u0), (.int u1)] (.int (0 : Int32))) (g0 : n0 ≤ r0) :
    MetFree l (⟨"java/util/Arrays", "fill", "([II)V"⟩ : MethodName) (head1 (Jvm.Cond.code (⟨"java/util/Arrays", "fill", "([II)V"⟩ : MethodName) jdk_65_method_103_code 4 none :: ws) ({ frames := 0, cells := 0, slots := 0, locals := 0 } : Room)) (fun a U => a = #[(.ref r0), (.int p1)] ∧ Z.Warmed39 U.vm ∧ U.heap = h0) (fun _ _ _ _ _ => True) (fun _ U o U' => ∃ v L, o = .returned v ∧ Q4_2 Z r0 p1 kk u0 u1 h0 n0 v U'.heap L ∧ FrameEnd U o U' L ({ frames := 0, cells := 0, slots := 0, locals := 0 } : Room).cells ({ frames := 0, cells := 0, slots := 0, locals := 0 } : Room).slots) := by
  refine MetFree.of_bodySF (plainFor_of_name own_pn1) hisR ?_
  intro p e s m args below meth c s₁ Bd hml0 hP hK
  obtain ⟨rfl, hZ, hh⟩ := hP
  have hx := Bd.exec
  have hby := Bd.bytes
  have hml : c.maxLocals = 4 := hml0
  have hown : s.vm.findClass "java/util/Arrays" = some m.cls := findClass_of_methodNamed Bd.named
  have hnm := (name_of_methodNamed Bd.named Bd.method).1
  have X0 : Stand p l e ({ frames := 0, cells := 0, slots := 0, locals := 0 } : Room) s m #[(.ref r0), (.int p1)] below meth c s₁ [] 0 0 := Stand.of_body Bd
  have e0 : s₁.heap = h0 := by rw [← hh, Bd.state]; rfl
  have N0 := Fr.nil n0
  have KR : Keep h0 h0 [r0] := Keep.refl h0 _
  show Good p e below (fun o U' => ∃ v L, o = .returned v ∧ Q4_2 Z r0 p1 kk u0 u1 h0 n0 v U'.heap L ∧ FrameEnd s o U' L ({ frames := 0, cells := 0, slots := 0, locals := 0 } : Room).cells ({ frames := 0, cells := 0, slots := 0, locals := 0 } : Room).slots) _
  refine Good.back (S' := s₁.setTop (mkF m 0 #[.val (.ref r0), .val (.int p1), .unset, .unset] [])) (fun t k => castTop (own_ef_4_2 m r0 p1) k) ?_
  show Good p e below _ (s₁.setTop (mkF m 0 #[.val (.ref r0), .val (.int p1), .unset, .unset] []))
  refine Good.back (fun _ k => XS.iconst X0.here hx rfl (hb hby own_d4_0) k) ?_
  show Good p e below _ (s₁.setTop (mkF m 1 #[.val (.ref r0), .val (.int p1), .unset, .unset] [(.int (0 : Int32))]))
  refine Good.back (fun _ k => XS.istoreN X0.here hx rfl (hb hby own_d4_1) rfl (l' := #[.val (.ref r0), .val (.int p1), .val (.int (0 : Int32)), .unset]) rfl k) ?_
  show Good p e below _ (s₁.setTop (mkF m 2 #[.val (.ref r0), .val (.int p1), .val (.int (0 : Int32)), .unset] []))
  refine Good.back (fun _ k => XS.aloadN X0.here hx rfl (hb hby own_d4_2) rfl rfl k) ?_
  show Good p e below _ (s₁.setTop (mkF m 3 #[.val (.ref r0), .val (.int p1), .val (.int (0 : Int32)), .unset] [(.ref r0)]))
  have fc1 := V0
  obtain ⟨cl1, Ar1, q1, S1, N1', H1, G1⟩ := fc1
  refine Good.back (X0.arraylength hx (by rw [e0]; exact Ar1.1) (State.isArrayOf_alike hZ.alike Ar1.2.1) (g := (mkF m 3 #[.val (.ref r0), .val (.int p1), .val (.int (0 : Int32)), .unset] [(.ref r0)])) rfl rfl (hb hby own_d4_3)) ?_
  rw [len_of S1 N1']
  show Good p e below _ (s₁.setTop (mkF m 4 #[.val (.ref r0), .val (.int p1), .val (.int (0 : Int32)), .unset] [(.int (2 : Int32))]))
  refine Good.back (fun _ k => XS.istoreN X0.here hx rfl (hb hby own_d4_4) rfl (l' := #[.val (.ref r0), .val (.int p1), .val (.int (0 : Int32)), .val (.int (2 : Int32))]) rfl k) ?_
  show Good p e below _ (s₁.setTop (mkF m 5 #[.val (.ref r0), .val (.int p1), .val (.int (0 : Int32)), .val (.int (2 : Int32))] []))
  refine Good.back (fun _ k => XS.iloadN X0.here hx rfl (hb hby own_d4_5) rfl k) ?_
  show Good p e below _ (s₁.setTop (mkF m 6 #[.val (.ref r0), .val (.int p1), .val (.int (0 : Int32)), .val (.int (2 : Int32))] [(.int (0 : Int32))]))
  refine Good.back (fun _ k => XS.iloadN X0.here hx rfl (hb hby own_d4_6) rfl k) ?_
  show Good p e below _ (s₁.setTop (mkF m 7 #[.val (.ref r0), .val (.int p1), .val (.int (0 : Int32)), .val (.int (2 : Int32))] [(.int (2 : Int32)), (.int (0 : Int32))]))
  refine Good.back (fun _ k => XS.icmpNo X0.here hx rfl (hb hby own_d4_7) rfl (tlt (by decide : ((0 : Int32) < (2 : Int32)))).2.1 k) ?_
  show Good p e below _ (s₁.setTop (mkF m 10 #[.val (.ref r0), .val (.int p1), .val (.int (0 : Int32)), .val (.int (2 : Int32))] []))
  refine Good.back (fun _ k => XS.aloadN X0.here hx rfl (hb hby own_d4_10) rfl rfl k) ?_
  show Good p e below _ (s₁.setTop (mkF m 11 #[.val (.ref r0), .val (.int p1), .val (.int (0 : Int32)), .val (.int (2 : Int32))] [(.ref r0)]))
  refine Good.back (fun _ k => XS.iloadN X0.here hx rfl (hb hby own_d4_11) rfl k) ?_
  show Good p e below _ (s₁.setTop (mkF m 12 #[.val (.ref r0), .val (.int p1), .val (.int (0 : Int32)), .val (.int (2 : Int32))] [(.int (0 : Int32)), (.ref r0)]))
  refine Good.back (fun _ k => XS.iloadN X0.here hx rfl (hb hby own_d4_12) rfl k) ?_
  show Good p e below _ (s₁.setTop (mkF m 13 #[.val (.ref r0), .val (.int p1), .val (.int (0 : Int32)), .val (.int (2 : Int32))] [(.int p1), (.int (0 : Int32)), (.ref r0)]))
  have fc2 := V0
  obtain ⟨cl2, Ar2, q2, S2, N2', H2, G2⟩ := fc2
  have hin2 : ¬ ((0 : Int32) < 0 ∨ cl2.slots.size ≤ ((0 : Int32)).toNatClampNeg) := inb_of S2 ⟨by decide, by decide⟩
  obtain ⟨T2, h2, X2, e2, W2, st2⟩ := stI X0 hx hZ e0 Ar2 (j := (0 : Int32)) hin2 (g := (mkF m 13 #[.val (.ref r0), .val (.int p1), .val (.int (0 : Int32)), .val (.int (2 : Int32))] [(.int p1), (.int (0 : Int32)), (.ref r0)])) rfl rfl (hb hby own_d4_13)
  refine Good.back st2 ?_
  have f_3 : Arv Z h2 r0 kk .int (2 : Int32) [(.int p1), (.int u1)] (.int (0 : Int32)) := Arv.set Ar2 q2 S2 N2' H2 G2 rfl W2 0 rfl (Nat.le_of_ble_eq_true rfl)
  have N2 := Fr.snoc X2 N0 g0
  have Z4 : n0 ≤ h2.size := Nat.le_trans Z0 (Keep.of_wr W2).1
  have K5 : Keep h0 h2 [r0] := KR.wr W2 (Or.inl (List.mem_of_getElem? (i := 0) rfl))
  show Good p e below _ (T2.setTop (mkF m 14 #[.val (.ref r0), .val (.int p1), .val (.int (0 : Int32)), .val (.int (2 : Int32))] []))
  refine Good.back (fun _ k => XS.iinc X2.here hx rfl (hb hby own_d4_14) rfl (l' := #[.val (.ref r0), .val (.int p1), .val (.int ((0 : Int32) + (1 : Int32))), .val (.int (2 : Int32))]) rfl k) ?_
  show Good p e below _ (T2.setTop (mkF m 17 #[.val (.ref r0), .val (.int p1), .val (.int ((0 : Int32) + (1 : Int32))), .val (.int (2 : Int32))] []))
  rw [show (((0 : Int32) + (1 : Int32)) : Int32) = (1 : Int32) from by decide]
  show Good p e below _ (T2.setTop (mkF m 17 #[.val (.ref r0), .val (.int p1), .val (.int (1 : Int32)), .val (.int (2 : Int32))] []))
  refine Good.back (fun _ k => XS.goto X2.here hx rfl (pc0 := 17) (pc' := 5) rfl (hb hby own_d4_17) (by decide) (by decide) k) ?_
  show Good p e below _ (T2.setTop (mkF m 5 #[.val (.ref r0), .val (.int p1), .val (.int (1 : Int32)), .val (.int (2 : Int32))] []))
  refine Good.back (fun _ k => XS.iloadN X2.here hx rfl (hb hby own_d4_5) rfl k) ?_
  show Good p e below _ (T2.setTop (mkF m 6 #[.val (.ref r0), .val (.int p1), .val (.int (1 : Int32)), .val (.int (2 : Int32))] [(.int (1 : Int32))]))
  refine Good.back (fun _ k => XS.iloadN X2.here hx rfl (hb hby own_d4_6) rfl k) ?_
  show Good p e below _ (T2.setTop (mkF m 7 #[.val (.ref r0), .val (.int p1), .val (.int (1 : Int32)), .val (.int (2 : Int32))] [(.int (2 : Int32)), (.int (1 : Int32))]))
  refine Good.back (fun _ k => XS.icmpNo X2.here hx rfl (hb hby own_d4_7) rfl (tlt (by decide : ((1 : Int32) < (2 : Int32)))).2.1 k) ?_
  show Good p e below _ (T2.setTop (mkF m 10 #[.val (.ref r0), .val (.int p1), .val (.int (1 : Int32)), .val (.int (2 : Int32))] []))
  refine Good.back (fun _ k => XS.aloadN X2.here hx rfl (hb hby own_d4_10) rfl rfl k) ?_
  show Good p e below _ (T2.setTop (mkF m 11 #[.val (.ref r0), .val (.int p1), .val (.int (1 : Int32)), .val (.int (2 : Int32))] [(.ref r0)]))
  refine Good.back (fun _ k => XS.iloadN X2.here hx rfl (hb hby own_d4_11) rfl k) ?_
  show Good p e below _ (T2.setTop (mkF m 12 #[.val (.ref r0), .val (.int p1), .val (.int (1 : Int32)), .val (.int (2 : Int32))] [(.int (1 : Int32)), (.ref r0)]))
  refine Good.back (fun _ k => XS.iloadN X2.here hx rfl (hb hby own_d4_12) rfl k) ?_
  show Good p e below _ (T2.setTop (mkF m 13 #[.val (.ref r0), .val (.int p1), .val (.int (1 : Int32)), .val (.int (2 : Int32))] [(.int p1), (.int (1 : Int32)), (.ref r0)]))
  have fc6 := f_3
  obtain ⟨cl6, Ar6, q6, S6, N6', H6, G6⟩ := fc6
  have hin6 : ¬ ((1 : Int32) < 0 ∨ cl6.slots.size ≤ ((1 : Int32)).toNatClampNeg) := inb_of S6 ⟨by decide, by decide⟩
  obtain ⟨T6, h6, X6, e6, W6, st6⟩ := stI X2 hx hZ e2 Ar6 (j := (1 : Int32)) hin6 (g := (mkF m 13 #[.val (.ref r0), .val (.int p1), .val (.int (1 : Int32)), .val (.int (2 : Int32))] [(.int p1), (.int (1 : Int32)), (.ref r0)])) rfl rfl (hb hby own_d4_13)
  refine Good.back st6 ?_
  have f_7 : Arv Z h6 r0 kk .int (2 : Int32) [(.int p1), (.int p1)] (.int (0 : Int32)) := Arv.set Ar6 q6 S6 N6' H6 G6 rfl W6 1 rfl (Nat.le_of_ble_eq_true rfl)
  have N6 := Fr.snoc X6 N2 g0
  have Z8 : n0 ≤ h6.size := Nat.le_trans Z4 (Keep.of_wr W6).1
  have K9 : Keep h0 h6 [r0] := K5.wr W6 (Or.inl (List.mem_of_getElem? (i := 0) rfl))
  show Good p e below _ (T6.setTop (mkF m 14 #[.val (.ref r0), .val (.int p1), .val (.int (1 : Int32)), .val (.int (2 : Int32))] []))
  refine Good.back (fun _ k => XS.iinc X6.here hx rfl (hb hby own_d4_14) rfl (l' := #[.val (.ref r0), .val (.int p1), .val (.int ((1 : Int32) + (1 : Int32))), .val (.int (2 : Int32))]) rfl k) ?_
  show Good p e below _ (T6.setTop (mkF m 17 #[.val (.ref r0), .val (.int p1), .val (.int ((1 : Int32) + (1 : Int32))), .val (.int (2 : Int32))] []))
  rw [show (((1 : Int32) + (1 : Int32)) : Int32) = (2 : Int32) from by decide]
  show Good p e below _ (T6.setTop (mkF m 17 #[.val (.ref r0), .val (.int p1), .val (.int (2 : Int32)), .val (.int (2 : Int32))] []))
  refine Good.back (fun _ k => XS.goto X6.here hx rfl (pc0 := 17) (pc' := 5) rfl (hb hby own_d4_17) (by decide) (by decide) k) ?_
  show Good p e below _ (T6.setTop (mkF m 5 #[.val (.ref r0), .val (.int p1), .val (.int (2 : Int32)), .val (.int (2 : Int32))] []))
  refine Good.back (fun _ k => XS.iloadN X6.here hx rfl (hb hby own_d4_5) rfl k) ?_
  show Good p e below _ (T6.setTop (mkF m 6 #[.val (.ref r0), .val (.int p1), .val (.int (2 : Int32)), .val (.int (2 : Int32))] [(.int (2 : Int32))]))
  refine Good.back (fun _ k => XS.iloadN X6.here hx rfl (hb hby own_d4_6) rfl k) ?_
  show Good p e below _ (T6.setTop (mkF m 7 #[.val (.ref r0), .val (.int p1), .val (.int (2 : Int32)), .val (.int (2 : Int32))] [(.int (2 : Int32)), (.int (2 : Int32))]))
  refine Good.back (fun _ k => XS.icmpYes X6.here hx rfl (pc0 := 7) (pc' := 20) rfl (hb hby own_d4_7) rfl (flt (by decide : ¬ ((2 : Int32) < (2 : Int32)))).2.1 (by decide) (by decide) k) ?_
  show Good p e below _ (T6.setTop (mkF m 20 #[.val (.ref r0), .val (.int p1), .val (.int (2 : Int32)), .val (.int (2 : Int32))] []))
  obtain ⟨fs10, hr10, hrun10, hended10, hW10, hsame10⟩ := X6.leave (v := none) (fun _ => rfl)
  refine Good.done (X6.returnOut hx Bd.returns (hb hby own_d4_20) hr10) hrun10 hended10 ⟨_, _, rfl, ?_, ⟨_, rfl⟩, hW10, hsame10.mono (by decide) (by decide)⟩
  show Q4_2 Z r0 p1 kk u0 u1 h0 n0 _ T6.heap _
  rw [e6]
  exact ⟨rfl, N6, K9, f_7⟩
theorem own_ef_1_2 (m : MethodId) (x0 : Addr) (x1 : Int32) (x2 : Int32) : entryFrame m #[(.ref x0), (.int x1), (.int x2)] 3 = mkF m 0 #[.val (.ref x0), .val (.int x1), .val (.int x2)] [] := by first | (simp [entryFrame, mkF, argsToLocals, Value.category]; done) | rfl
def Q1_2 (Z : State) (r0 : Addr) (p2 : Int32) (h0 : Heap) (n0 : Nat) (v : Option Value) (h : Heap) (L : List Loc) : Prop := ∃ (ar : Addr) (kk : ClassId), v = none ∧ Fr n0 L ∧ Keep h0 h [r0] ∧ h0.size ≤ ar ∧ Fld Z h r0 "org/ludarium/games/sabacc/Chips" "held" "[I" (.ref ar) ∧ Fld Z h r0 "org/ludarium/games/sabacc/Chips" "sabaccPot" "I" (.int (0 : Int32)) ∧ Arv Z h ar kk .int (2 : Int32) [(.int p2), (.int p2)] (.int (0 : Int32))
set_option maxRecDepth 65536 in
set_option maxHeartbeats 40000000 in
theorem rm1_2 (l : Launch) (Z : State) (a0 : Array Value) (hw : ∀ d ∈ tables_1, d.before a0 Z = true) (ws : List Jvm.Cond) (r0 : Addr) (p2 : Int32) (h0 : Heap) (n0 : Nat) (Z0 : n0 ≤ h0.size) (E0 : Exa Z h0 r0 "org/ludarium/games/sabacc/Chips") (g0 : n0 ≤ r0) (F_held : Fld Z h0 r0 "org/ludarium/games/sabacc/Chips" "held" "[I" .null) (F_pot : Fld Z h0 r0 "org/ludarium/games/sabacc/Chips" "sabaccPot" "I" (.int (0 : Int32))) :
    MetFree l (⟨"org/ludarium/games/sabacc/Chips", "<init>", "(II)V"⟩ : MethodName) (head1 (Jvm.Cond.code (⟨"org/ludarium/games/sabacc/Chips", "<init>", "(II)V"⟩ : MethodName) prog_13_method_1_code 3 none :: ws) ({ frames := 2, cells := 1, slots := 2, locals := 26 } : Room)) (fun a U => a = #[(.ref r0), (.int (2 : Int32)), (.int p2)] ∧ Z.Warmed39 U.vm ∧ U.heap = h0) (fun _ _ _ _ _ => True) (fun _ U o U' => ∃ v L, o = .returned v ∧ Q1_2 Z r0 p2 h0 n0 v U'.heap L ∧ FrameEnd U o U' L ({ frames := 2, cells := 1, slots := 2, locals := 26 } : Room).cells ({ frames := 2, cells := 1, slots := 2, locals := 26 } : Room).slots) := by
  refine MetFree.of_bodySF (plainFor_of_name own_pn0) hisR ?_
  intro p e s m args below meth c s₁ Bd hml0 hP hK
  obtain ⟨rfl, hZ, hh⟩ := hP
  have hx := Bd.exec
  have hby := Bd.bytes
  have hml : c.maxLocals = 3 := hml0
  have hown : s.vm.findClass "org/ludarium/games/sabacc/Chips" = some m.cls := findClass_of_methodNamed Bd.named
  have hnm := (name_of_methodNamed Bd.named Bd.method).1
  have X0 : Stand p l e ({ frames := 2, cells := 1, slots := 2, locals := 26 } : Room) s m #[(.ref r0), (.int (2 : Int32)), (.int p2)] below meth c s₁ [] 0 0 := Stand.of_body Bd
  have e0 : s₁.heap = h0 := by rw [← hh, Bd.state]; rfl
  have N0 := Fr.nil n0
  have KR : Keep h0 h0 [r0] := Keep.refl h0 _
  show Good p e below (fun o U' => ∃ v L, o = .returned v ∧ Q1_2 Z r0 p2 h0 n0 v U'.heap L ∧ FrameEnd s o U' L ({ frames := 2, cells := 1, slots := 2, locals := 26 } : Room).cells ({ frames := 2, cells := 1, slots := 2, locals := 26 } : Room).slots) _
  refine Good.back (S' := s₁.setTop (mkF m 0 #[.val (.ref r0), .val (.int (2 : Int32)), .val (.int p2)] [])) (fun t k => castTop (own_ef_1_2 m r0 (2 : Int32) p2) k) ?_
  show Good p e below _ (s₁.setTop (mkF m 0 #[.val (.ref r0), .val (.int (2 : Int32)), .val (.int p2)] []))
  refine Good.back (fun _ k => XS.aloadN X0.here hx rfl (hb hby own_d1_0) rfl rfl k) ?_
  show Good p e below _ (s₁.setTop (mkF m 1 #[.val (.ref r0), .val (.int (2 : Int32)), .val (.int p2)] [(.ref r0)]))
  refine Good.back (fun _ k => XS.iloadN X0.here hx rfl (hb hby own_d1_1) rfl k) ?_
  show Good p e below _ (s₁.setTop (mkF m 2 #[.val (.ref r0), .val (.int (2 : Int32)), .val (.int p2)] [(.int (2 : Int32)), (.ref r0)]))
  obtain ⟨T1, h1, k1, X1, e1, E1, A1, st1⟩ := newP X0 hx hZ (hw _ (List.mem_of_getElem? (i := 6) rfl)) e0 (g := (mkF m 2 #[.val (.ref r0), .val (.int (2 : Int32)), .val (.int p2)] [(.int (2 : Int32)), (.ref r0)])) rfl (hb hby own_d1_2) rfl (by decide) (cap := 2) (by decide) (by decide) (by decide) (by decide)
  obtain ⟨b1, g1⟩ : ∃ z, z = h0.size := ⟨_, rfl⟩
  rw [← g1] at A1 st1
  refine Good.back st1 ?_
  have g_b1 : n0 ≤ b1 := Nat.le_trans Z0 (Nat.le_of_eq g1.symm)
  have sz_b1 : h0.size ≤ b1 := Nat.le_trans KR.1 (Nat.le_of_eq g1.symm)
  have Z2 : n0 ≤ h1.size := Nat.le_trans Z0 E1.1
  have K3 : Keep h0 h1 [r0] := KR.ext E1
  have f_4 : Arv Z h1 b1 k1 .int (2 : Int32) [(.int (0 : Int32)), (.int (0 : Int32))] (.int (0 : Int32)) := (Arv.new A1 (by decide)).pad (pad_rep [] (.int (0 : Int32)) 2)
  show Good p e below _ (T1.setTop (mkF m 4 #[.val (.ref r0), .val (.int (2 : Int32)), .val (.int p2)] [(.ref b1), (.ref r0)]))
  refine Good.back (fun _ k => XS.iconst X1.here hx rfl (hb hby own_d1_4) k) ?_
  show Good p e below _ (T1.setTop (mkF m 5 #[.val (.ref r0), .val (.int (2 : Int32)), .val (.int p2)] [(.int (0 : Int32)), (.ref b1), (.ref r0)]))
  have f_6 : Exa Z h1 r0 "org/ludarium/games/sabacc/Chips" := Exa.ext E1 E0
  have f_7 : Fld Z h1 r0 "org/ludarium/games/sabacc/Chips" "held" "[I" .null := Fld.ext E1 F_held
  have f_8 : Fld Z h1 r0 "org/ludarium/games/sabacc/Chips" "sabaccPot" "I" (.int (0 : Int32)) := Fld.ext E1 F_pot
  obtain ⟨_, _, ⟨T5, L5, k5, n5⟩, -, X5, ⟨Lc5, hQ5, l5, y5, z5⟩, st5⟩ := X1.specialBack hx (y := (⟨"org/ludarium/games/sabacc/Chips", "<init>", "([II)V"⟩ : MethodName)) rfl hown (mvT hZ (hw _ (List.mem_of_getElem? (i := 7) rfl))) (mvT hZ (hw _ (List.mem_of_getElem? (i := 8) rfl))) (mvT hZ (hw _ (List.mem_of_getElem? (i := 9) rfl))) (by decide) (backOf (W := 0) (rm2 l Z a0 hw [] r0 b1 (0 : Int32)  h1 n0 Z2 f_6 g0 f_7 f_8) hZ (hw _ (List.mem_of_getElem? (i := 9) rfl)) (hw _ (List.mem_of_getElem? (i := 2) rfl)) (by decide) (by decide)) (g := (mkF m 5 #[.val (.ref r0), .val (.int (2 : Int32)), .val (.int p2)] [(.int (0 : Int32)), (.ref b1), (.ref r0)])) rfl (by rw [hml]; rfl) (Steps.refl _) (a := r0) (argsL := [(.ref b1), (.int (0 : Int32))]) (rest := []) (lenOf own_pd28 rfl) rfl (by show 2 * 0 + _ ≤ _; exact Nat.le_of_eq rfl) (hb hby own_d1_5) (fun _ _ => ⟨rfl, e1, (by decide : 1 + 0 ≤ _), (by decide : 2 + 0 ≤ _)⟩)
  dsimp only [Pt.U, Pt.locs, Pt.cells, Pt.slots] at X5 l5 y5 z5 st5 hQ5
  subst l5 y5 z5
  obtain ⟨rfl, N5q, Kq5, o5_0, o5_1⟩ := hQ5
  have N5 := Fr.app N0 N5q
  have Z9 : n0 ≤ T5.heap.size := Nat.le_trans Z2 Kq5.1
  have K10 : Keep h0 T5.heap [r0] := K3.trans Kq5 (allS (Or.inl (List.mem_of_getElem? (i := 0) rfl)) all0)
  refine Good.back (fun _ k => st5.trans k) ?_
  show Good p e below _ (T5.setTop (mkF m 8 #[.val (.ref r0), .val (.int (2 : Int32)), .val (.int p2)] []))
  refine Good.back (fun _ k => XS.aloadN X5.here hx rfl (hb hby own_d1_8) rfl rfl k) ?_
  show Good p e below _ (T5.setTop (mkF m 9 #[.val (.ref r0), .val (.int (2 : Int32)), .val (.int p2)] [(.ref r0)]))
  obtain ⟨T11, X11, e11, st11⟩ := getF X5 hx hZ hown (host := "") (Or.inl (hw _ (List.mem_of_getElem? (i := 13) rfl))) Via.refl rfl o5_0 (g := (mkF m 9 #[.val (.ref r0), .val (.int (2 : Int32)), .val (.int p2)] [(.ref r0)])) rfl rfl (hb hby own_d1_9)
  refine Good.back st11 ?_
  show Good p e below _ (T11.setTop (mkF m 12 #[.val (.ref r0), .val (.int (2 : Int32)), .val (.int p2)] [(.ref b1)]))
  refine Good.back (fun _ k => XS.iloadN X11.here hx rfl (hb hby own_d1_12) rfl k) ?_
  show Good p e below _ (T11.setTop (mkF m 13 #[.val (.ref r0), .val (.int (2 : Int32)), .val (.int p2)] [(.int p2), (.ref b1)]))
  have ne_r0_b1_14 : r0 ≠ b1 := Nat.ne_of_lt (Nat.lt_of_lt_of_le F_pot.lt (Nat.le_of_eq g1.symm))
  have f_13 : Arv Z T5.heap b1 k1 .int (2 : Int32) [(.int (0 : Int32)), (.int (0 : Int32))] (.int (0 : Int32)) := Arv.keep f_4 Kq5 (ninS (Ne.symm ne_r0_b1_14) nin0)
  obtain ⟨_, _, ⟨T12, L12, k12, n12⟩, -, X12, ⟨Lc12, hQ12, l12, y12, z12⟩, st12⟩ := Jvm.LawKit.callS X11 hx (y := (⟨"java/util/Arrays", "fill", "([II)V"⟩ : MethodName)) hown (mvT hZ (hw _ (List.mem_of_getElem? (i := 17) rfl))) (mvT hZ (hw _ (List.mem_of_getElem? (i := 18) rfl))) (mvT hZ (hw _ (List.mem_of_getElem? (i := 19) rfl))) (mvT hZ (hw _ (List.mem_of_getElem? (i := 20) rfl))) (by decide) (backOf (W := 0) (rm4_2 l Z a0 hw [] b1 p2 k1 (0 : Int32) (0 : Int32) T5.heap n0 Z9 f_13 g_b1) hZ (hw _ (List.mem_of_getElem? (i := 20) rfl)) (hw _ (List.mem_of_getElem? (i := 19) rfl)) (by decide) (by decide)) (g := (mkF m 13 #[.val (.ref r0), .val (.int (2 : Int32)), .val (.int p2)] [(.int p2), (.ref b1)])) rfl (by rw [hml]; rfl) (argsL := [(.ref b1), (.int p2)]) (rest := []) (lenOf own_pd28 rfl) rfl (by show 2 * 0 + _ ≤ _; exact Nat.le_of_eq rfl) (hb hby own_d1_13) (fun _ _ => ⟨rfl, e11, (by decide : 1 + 0 ≤ _), (by decide : 2 + 0 ≤ _)⟩)
  dsimp only [Pt.U, Pt.locs, Pt.cells, Pt.slots] at X12 l12 y12 z12 st12 hQ12
  subst l12 y12 z12
  obtain ⟨rfl, N12q, Kq12, o12_0⟩ := hQ12
  have N12 := Fr.app N5 N12q
  have Z15 : n0 ≤ T12.heap.size := Nat.le_trans Z9 Kq12.1
  have K16 : Keep h0 T12.heap [r0] := K10.trans Kq12 (allS (Or.inr sz_b1) all0)
  refine Good.back st12 ?_
  show Good p e below _ (T12.setTop (mkF m 16 #[.val (.ref r0), .val (.int (2 : Int32)), .val (.int p2)] []))
  obtain ⟨fs17, hr17, hrun17, hended17, hW17, hsame17⟩ := X12.leave (v := none) (fun _ => rfl)
  refine Good.done (X12.returnOut hx Bd.returns (hb hby own_d1_16) hr17) hrun17 hended17 ⟨_, _, rfl, ?_, ⟨_, rfl⟩, hW17, hsame17.mono (by decide) (by decide)⟩
  show Q1_2 Z r0 p2 h0 n0 _ T12.heap _
  have f_18 : Fld Z T12.heap r0 "org/ludarium/games/sabacc/Chips" "held" "[I" (.ref b1) := Fld.keep o5_0 Kq12 (ninS ne_r0_b1_14 nin0)
  have f_19 : Fld Z T12.heap r0 "org/ludarium/games/sabacc/Chips" "sabaccPot" "I" (.int (0 : Int32)) := Fld.keep o5_1 Kq12 (ninS ne_r0_b1_14 nin0)
  exact ⟨b1, k1, rfl, N12, K16, sz_b1, f_18, f_19, o12_0⟩
theorem own_ef_6_2 (m : MethodId) (x0 : Addr) : entryFrame m #[(.ref x0)] 7 = mkF m 0 #[.val (.ref x0), .unset, .unset, .unset, .unset, .unset, .unset] [] := by first | (simp [entryFrame, mkF, argsToLocals, Value.category]; done) | rfl
def Q6_2 (Z : State) (r0 : Addr) (w : Int32) (ar : Addr) (kk : ClassId) (u0 : Int32) (u1 : Int32) (h0 : Heap) (n0 : Nat) (v : Option Value) (h : Heap) (L : List Loc) : Prop := v = some (.long (((w.toInt64) + (u0.toInt64)) + (u1.toInt64))) ∧ Fr n0 L ∧ h = h0
set_option maxRecDepth 65536 in
set_option maxHeartbeats 40000000 in
theorem rm6_2 (l : Launch) (Z : State) (a0 : Array Value) (hw : ∀ d ∈ tables_1, d.before a0 Z = true) (ws : List Jvm.Cond) (r0 : Addr) (w : Int32) (ar : Addr) (kk : ClassId) (u0 : Int32) (u1 : Int32) (h0 : Heap) (n0 : Nat) (Z0 : n0 ≤ h0.size) (F_pot : Fld Z h0 r0 "org/ludarium/games/sabacc/Chips" "sabaccPot" "I" (.int w)) (F_held : Fld Z h0 r0 "org/ludarium/games/sabacc/Chips" "held" "[I" (.ref ar)) (V0 : Arv Z h0 ar kk .int (2 : Int32) [(.int u0), (.int u1)] (.int (0 : Int32))) :
    MetFree l (⟨"org/ludarium/games/sabacc/Chips", "total", "()J"⟩ : MethodName) (head1 (Jvm.Cond.code (⟨"org/ludarium/games/sabacc/Chips", "total", "()J"⟩ : MethodName) prog_13_method_7_code 7 (some .long) :: ws) ({ frames := 0, cells := 0, slots := 0, locals := 0 } : Room)) (fun a U => a = #[(.ref r0)] ∧ Z.Warmed39 U.vm ∧ U.heap = h0) (fun _ _ _ _ _ => True) (fun _ U o U' => ∃ v L, o = .returned v ∧ Q6_2 Z r0 w ar kk u0 u1 h0 n0 v U'.heap L ∧ FrameEnd U o U' L ({ frames := 0, cells := 0, slots := 0, locals := 0 } : Room).cells ({ frames := 0, cells := 0, slots := 0, locals := 0 } : Room).slots) := by
  refine MetFree.of_bodySF (plainFor_of_name own_pn0) hisR ?_
  intro p e s m args below meth c s₁ Bd hml0 hP hK
  obtain ⟨rfl, hZ, hh⟩ := hP
  have hx := Bd.exec
  have hby := Bd.bytes
  have hml : c.maxLocals = 7 := hml0
  have hown : s.vm.findClass "org/ludarium/games/sabacc/Chips" = some m.cls := findClass_of_methodNamed Bd.named
  have hnm := (name_of_methodNamed Bd.named Bd.method).1
  have X0 : Stand p l e ({ frames := 0, cells := 0, slots := 0, locals := 0 } : Room) s m #[(.ref r0)] below meth c s₁ [] 0 0 := Stand.of_body Bd
  have e0 : s₁.heap = h0 := by rw [← hh, Bd.state]; rfl
  have N0 := Fr.nil n0
  show Good p e below (fun o U' => ∃ v L, o = .returned v ∧ Q6_2 Z r0 w ar kk u0 u1 h0 n0 v U'.heap L ∧ FrameEnd s o U' L ({ frames := 0, cells := 0, slots := 0, locals := 0 } : Room).cells ({ frames := 0, cells := 0, slots := 0, locals := 0 } : Room).slots) _
  refine Good.back (S' := s₁.setTop (mkF m 0 #[.val (.ref r0), .unset, .unset, .unset, .unset, .unset, .unset] [])) (fun t k => castTop (own_ef_6_2 m r0) k) ?_
  show Good p e below _ (s₁.setTop (mkF m 0 #[.val (.ref r0), .unset, .unset, .unset, .unset, .unset, .unset] []))
  refine Good.back (fun _ k => XS.aloadN X0.here hx rfl (hb hby own_d6_0) rfl rfl k) ?_
  show Good p e below _ (s₁.setTop (mkF m 1 #[.val (.ref r0), .unset, .unset, .unset, .unset, .unset, .unset] [(.ref r0)]))
  obtain ⟨T1, X1, e1, st1⟩ := getF X0 hx hZ hown (host := "") (Or.inl (hw _ (List.mem_of_getElem? (i := 15) rfl))) Via.refl e0 F_pot (g := (mkF m 1 #[.val (.ref r0), .unset, .unset, .unset, .unset, .unset, .unset] [(.ref r0)])) rfl rfl (hb hby own_d6_1)
  refine Good.back st1 ?_
  show Good p e below _ (T1.setTop (mkF m 4 #[.val (.ref r0), .unset, .unset, .unset, .unset, .unset, .unset] [(.int w)]))
  refine Good.back (fun _ k => XS.i2l X1.here hx rfl (hb hby own_d6_4) rfl k) ?_
  show Good p e below _ (T1.setTop (mkF m 5 #[.val (.ref r0), .unset, .unset, .unset, .unset, .unset, .unset] [(.long (w.toInt64))]))
  refine Good.back (fun _ k => XS.lstoreN X1.here hx rfl (hb hby own_d6_5) rfl (l' := #[.val (.ref r0), .val (.long (w.toInt64)), .second, .unset, .unset, .unset, .unset]) rfl k) ?_
  show Good p e below _ (T1.setTop (mkF m 6 #[.val (.ref r0), .val (.long (w.toInt64)), .second, .unset, .unset, .unset, .unset] []))
  refine Good.back (fun _ k => XS.aloadN X1.here hx rfl (hb hby own_d6_6) rfl rfl k) ?_
  show Good p e below _ (T1.setTop (mkF m 7 #[.val (.ref r0), .val (.long (w.toInt64)), .second, .unset, .unset, .unset, .unset] [(.ref r0)]))
  obtain ⟨T2, X2, e2, st2⟩ := getF X1 hx hZ hown (host := "") (Or.inl (hw _ (List.mem_of_getElem? (i := 13) rfl))) Via.refl e1 F_held (g := (mkF m 7 #[.val (.ref r0), .val (.long (w.toInt64)), .second, .unset, .unset, .unset, .unset] [(.ref r0)])) rfl rfl (hb hby own_d6_7)
  refine Good.back st2 ?_
  show Good p e below _ (T2.setTop (mkF m 10 #[.val (.ref r0), .val (.long (w.toInt64)), .second, .unset, .unset, .unset, .unset] [(.ref ar)]))
  refine Good.back (fun _ k => XS.astoreN X2.here hx rfl (hb hby own_d6_10) rfl rfl (l' := #[.val (.ref r0), .val (.long (w.toInt64)), .second, .val (.ref ar), .unset, .unset, .unset]) rfl k) ?_
  show Good p e below _ (T2.setTop (mkF m 11 #[.val (.ref r0), .val (.long (w.toInt64)), .second, .val (.ref ar), .unset, .unset, .unset] []))
  refine Good.back (fun _ k => XS.aloadN X2.here hx rfl (hb hby own_d6_11) rfl rfl k) ?_
  show Good p e below _ (T2.setTop (mkF m 12 #[.val (.ref r0), .val (.long (w.toInt64)), .second, .val (.ref ar), .unset, .unset, .unset] [(.ref ar)]))
  have fc3 := V0
  obtain ⟨cl3, Ar3, q3, S3, N3', H3, G3⟩ := fc3
  refine Good.back (X2.arraylength hx (by rw [e2]; exact Ar3.1) (State.isArrayOf_alike hZ.alike Ar3.2.1) (g := (mkF m 12 #[.val (.ref r0), .val (.long (w.toInt64)), .second, .val (.ref ar), .unset, .unset, .unset] [(.ref ar)])) rfl rfl (hb hby own_d6_12)) ?_
  rw [len_of S3 N3']
  show Good p e below _ (T2.setTop (mkF m 13 #[.val (.ref r0), .val (.long (w.toInt64)), .second, .val (.ref ar), .unset, .unset, .unset] [(.int (2 : Int32))]))
  refine Good.back (fun _ k => XS.istore X2.here hx rfl (hb hby own_d6_13) rfl (l' := #[.val (.ref r0), .val (.long (w.toInt64)), .second, .val (.ref ar), .val (.int (2 : Int32)), .unset, .unset]) rfl k) ?_
  show Good p e below _ (T2.setTop (mkF m 15 #[.val (.ref r0), .val (.long (w.toInt64)), .second, .val (.ref ar), .val (.int (2 : Int32)), .unset, .unset] []))
  refine Good.back (fun _ k => XS.iconst X2.here hx rfl (hb hby own_d6_15) k) ?_
  show Good p e below _ (T2.setTop (mkF m 16 #[.val (.ref r0), .val (.long (w.toInt64)), .second, .val (.ref ar), .val (.int (2 : Int32)), .unset, .unset] [(.int (0 : Int32))]))
  refine Good.back (fun _ k => XS.istore X2.here hx rfl (hb hby own_d6_16) rfl (l' := #[.val (.ref r0), .val (.long (w.toInt64)), .second, .val (.ref ar), .val (.int (2 : Int32)), .val (.int (0 : Int32)), .unset]) rfl k) ?_
  show Good p e below _ (T2.setTop (mkF m 18 #[.val (.ref r0), .val (.long (w.toInt64)), .second, .val (.ref ar), .val (.int (2 : Int32)), .val (.int (0 : Int32)), .unset] []))
  refine Good.back (fun _ k => XS.iload X2.here hx rfl (hb hby own_d6_18) rfl k) ?_
  show Good p e below _ (T2.setTop (mkF m 20 #[.val (.ref r0), .val (.long (w.toInt64)), .second, .val (.ref ar), .val (.int (2 : Int32)), .val (.int (0 : Int32)), .unset] [(.int (0 : Int32))]))
  refine Good.back (fun _ k => XS.iload X2.here hx rfl (hb hby own_d6_20) rfl k) ?_
  show Good p e below _ (T2.setTop (mkF m 22 #[.val (.ref r0), .val (.long (w.toInt64)), .second, .val (.ref ar), .val (.int (2 : Int32)), .val (.int (0 : Int32)), .unset] [(.int (2 : Int32)), (.int (0 : Int32))]))
  refine Good.back (fun _ k => XS.icmpNo X2.here hx rfl (hb hby own_d6_22) rfl (tlt (by decide : ((0 : Int32) < (2 : Int32)))).2.1 k) ?_
  show Good p e below _ (T2.setTop (mkF m 25 #[.val (.ref r0), .val (.long (w.toInt64)), .second, .val (.ref ar), .val (.int (2 : Int32)), .val (.int (0 : Int32)), .unset] []))
  refine Good.back (fun _ k => XS.aloadN X2.here hx rfl (hb hby own_d6_25) rfl rfl k) ?_
  show Good p e below _ (T2.setTop (mkF m 26 #[.val (.ref r0), .val (.long (w.toInt64)), .second, .val (.ref ar), .val (.int (2 : Int32)), .val (.int (0 : Int32)), .unset] [(.ref ar)]))
  refine Good.back (fun _ k => XS.iload X2.here hx rfl (hb hby own_d6_26) rfl k) ?_
  show Good p e below _ (T2.setTop (mkF m 28 #[.val (.ref r0), .val (.long (w.toInt64)), .second, .val (.ref ar), .val (.int (2 : Int32)), .val (.int (0 : Int32)), .unset] [(.int (0 : Int32)), (.ref ar)]))
  have fc4 := V0
  obtain ⟨cl4, Ar4, q4, S4, N4', H4, G4⟩ := fc4
  have hin4 : ¬ ((0 : Int32) < 0 ∨ cl4.slots.size ≤ ((0 : Int32)).toNatClampNeg) := inb_of S4 ⟨by decide, by decide⟩
  have hat4 : cl4.slots[((0 : Int32)).toNatClampNeg]? = some (.int u0) := Has.at H4 hin4 rfl
  refine Good.back (X2.iaload hx (j := (0 : Int32)) (v := (.int u0)) (by rw [e2]; exact Ar4.1) (State.isArrayOf_alike hZ.alike Ar4.2.1) Ar4.2.2 hin4 hat4 (g := (mkF m 28 #[.val (.ref r0), .val (.long (w.toInt64)), .second, .val (.ref ar), .val (.int (2 : Int32)), .val (.int (0 : Int32)), .unset] [(.int (0 : Int32)), (.ref ar)])) rfl rfl (hb hby own_d6_28)) ?_
  show Good p e below _ (T2.setTop (mkF m 29 #[.val (.ref r0), .val (.long (w.toInt64)), .second, .val (.ref ar), .val (.int (2 : Int32)), .val (.int (0 : Int32)), .unset] [(.int u0)]))
  refine Good.back (fun _ k => XS.istore X2.here hx rfl (hb hby own_d6_29) rfl (l' := #[.val (.ref r0), .val (.long (w.toInt64)), .second, .val (.ref ar), .val (.int (2 : Int32)), .val (.int (0 : Int32)), .val (.int u0)]) rfl k) ?_
  show Good p e below _ (T2.setTop (mkF m 31 #[.val (.ref r0), .val (.long (w.toInt64)), .second, .val (.ref ar), .val (.int (2 : Int32)), .val (.int (0 : Int32)), .val (.int u0)] []))
  refine Good.back (fun _ k => XS.lloadN X2.here hx rfl (hb hby own_d6_31) rfl k) ?_
  show Good p e below _ (T2.setTop (mkF m 32 #[.val (.ref r0), .val (.long (w.toInt64)), .second, .val (.ref ar), .val (.int (2 : Int32)), .val (.int (0 : Int32)), .val (.int u0)] [(.long (w.toInt64))]))
  refine Good.back (fun _ k => XS.iload X2.here hx rfl (hb hby own_d6_32) rfl k) ?_
  show Good p e below _ (T2.setTop (mkF m 34 #[.val (.ref r0), .val (.long (w.toInt64)), .second, .val (.ref ar), .val (.int (2 : Int32)), .val (.int (0 : Int32)), .val (.int u0)] [(.int u0), (.long (w.toInt64))]))
  refine Good.back (fun _ k => XS.i2l X2.here hx rfl (hb hby own_d6_34) rfl k) ?_
  show Good p e below _ (T2.setTop (mkF m 35 #[.val (.ref r0), .val (.long (w.toInt64)), .second, .val (.ref ar), .val (.int (2 : Int32)), .val (.int (0 : Int32)), .val (.int u0)] [(.long (u0.toInt64)), (.long (w.toInt64))]))
  refine Good.back (fun _ k => XS.ladd X2.here hx rfl (hb hby own_d6_35) rfl k) ?_
  show Good p e below _ (T2.setTop (mkF m 36 #[.val (.ref r0), .val (.long (w.toInt64)), .second, .val (.ref ar), .val (.int (2 : Int32)), .val (.int (0 : Int32)), .val (.int u0)] [(.long ((w.toInt64) + (u0.toInt64)))]))
  refine Good.back (fun _ k => XS.lstoreN X2.here hx rfl (hb hby own_d6_36) rfl (l' := #[.val (.ref r0), .val (.long ((w.toInt64) + (u0.toInt64))), .second, .val (.ref ar), .val (.int (2 : Int32)), .val (.int (0 : Int32)), .val (.int u0)]) rfl k) ?_
  show Good p e below _ (T2.setTop (mkF m 37 #[.val (.ref r0), .val (.long ((w.toInt64) + (u0.toInt64))), .second, .val (.ref ar), .val (.int (2 : Int32)), .val (.int (0 : Int32)), .val (.int u0)] []))
  refine Good.back (fun _ k => XS.iinc X2.here hx rfl (hb hby own_d6_37) rfl (l' := #[.val (.ref r0), .val (.long ((w.toInt64) + (u0.toInt64))), .second, .val (.ref ar), .val (.int (2 : Int32)), .val (.int ((0 : Int32) + (1 : Int32))), .val (.int u0)]) rfl k) ?_
  show Good p e below _ (T2.setTop (mkF m 40 #[.val (.ref r0), .val (.long ((w.toInt64) + (u0.toInt64))), .second, .val (.ref ar), .val (.int (2 : Int32)), .val (.int ((0 : Int32) + (1 : Int32))), .val (.int u0)] []))
  rw [show (((0 : Int32) + (1 : Int32)) : Int32) = (1 : Int32) from by decide]
  show Good p e below _ (T2.setTop (mkF m 40 #[.val (.ref r0), .val (.long ((w.toInt64) + (u0.toInt64))), .second, .val (.ref ar), .val (.int (2 : Int32)), .val (.int (1 : Int32)), .val (.int u0)] []))
  refine Good.back (fun _ k => XS.goto X2.here hx rfl (pc0 := 40) (pc' := 18) rfl (hb hby own_d6_40) (by decide) (by decide) k) ?_
  show Good p e below _ (T2.setTop (mkF m 18 #[.val (.ref r0), .val (.long ((w.toInt64) + (u0.toInt64))), .second, .val (.ref ar), .val (.int (2 : Int32)), .val (.int (1 : Int32)), .val (.int u0)] []))
  refine Good.back (fun _ k => XS.iload X2.here hx rfl (hb hby own_d6_18) rfl k) ?_
  show Good p e below _ (T2.setTop (mkF m 20 #[.val (.ref r0), .val (.long ((w.toInt64) + (u0.toInt64))), .second, .val (.ref ar), .val (.int (2 : Int32)), .val (.int (1 : Int32)), .val (.int u0)] [(.int (1 : Int32))]))
  refine Good.back (fun _ k => XS.iload X2.here hx rfl (hb hby own_d6_20) rfl k) ?_
  show Good p e below _ (T2.setTop (mkF m 22 #[.val (.ref r0), .val (.long ((w.toInt64) + (u0.toInt64))), .second, .val (.ref ar), .val (.int (2 : Int32)), .val (.int (1 : Int32)), .val (.int u0)] [(.int (2 : Int32)), (.int (1 : Int32))]))
  refine Good.back (fun _ k => XS.icmpNo X2.here hx rfl (hb hby own_d6_22) rfl (tlt (by decide : ((1 : Int32) < (2 : Int32)))).2.1 k) ?_
  show Good p e below _ (T2.setTop (mkF m 25 #[.val (.ref r0), .val (.long ((w.toInt64) + (u0.toInt64))), .second, .val (.ref ar), .val (.int (2 : Int32)), .val (.int (1 : Int32)), .val (.int u0)] []))
  refine Good.back (fun _ k => XS.aloadN X2.here hx rfl (hb hby own_d6_25) rfl rfl k) ?_
  show Good p e below _ (T2.setTop (mkF m 26 #[.val (.ref r0), .val (.long ((w.toInt64) + (u0.toInt64))), .second, .val (.ref ar), .val (.int (2 : Int32)), .val (.int (1 : Int32)), .val (.int u0)] [(.ref ar)]))
  refine Good.back (fun _ k => XS.iload X2.here hx rfl (hb hby own_d6_26) rfl k) ?_
  show Good p e below _ (T2.setTop (mkF m 28 #[.val (.ref r0), .val (.long ((w.toInt64) + (u0.toInt64))), .second, .val (.ref ar), .val (.int (2 : Int32)), .val (.int (1 : Int32)), .val (.int u0)] [(.int (1 : Int32)), (.ref ar)]))
  have fc5 := V0
  obtain ⟨cl5, Ar5, q5, S5, N5', H5, G5⟩ := fc5
  have hin5 : ¬ ((1 : Int32) < 0 ∨ cl5.slots.size ≤ ((1 : Int32)).toNatClampNeg) := inb_of S5 ⟨by decide, by decide⟩
  have hat5 : cl5.slots[((1 : Int32)).toNatClampNeg]? = some (.int u1) := Has.at H5 hin5 rfl
  refine Good.back (X2.iaload hx (j := (1 : Int32)) (v := (.int u1)) (by rw [e2]; exact Ar5.1) (State.isArrayOf_alike hZ.alike Ar5.2.1) Ar5.2.2 hin5 hat5 (g := (mkF m 28 #[.val (.ref r0), .val (.long ((w.toInt64) + (u0.toInt64))), .second, .val (.ref ar), .val (.int (2 : Int32)), .val (.int (1 : Int32)), .val (.int u0)] [(.int (1 : Int32)), (.ref ar)])) rfl rfl (hb hby own_d6_28)) ?_
  show Good p e below _ (T2.setTop (mkF m 29 #[.val (.ref r0), .val (.long ((w.toInt64) + (u0.toInt64))), .second, .val (.ref ar), .val (.int (2 : Int32)), .val (.int (1 : Int32)), .val (.int u0)] [(.int u1)]))
  refine Good.back (fun _ k => XS.istore X2.here hx rfl (hb hby own_d6_29) rfl (l' := #[.val (.ref r0), .val (.long ((w.toInt64) + (u0.toInt64))), .second, .val (.ref ar), .val (.int (2 : Int32)), .val (.int (1 : Int32)), .val (.int u1)]) rfl k) ?_
  show Good p e below _ (T2.setTop (mkF m 31 #[.val (.ref r0), .val (.long ((w.toInt64) + (u0.toInt64))), .second, .val (.ref ar), .val (.int (2 : Int32)), .val (.int (1 : Int32)), .val (.int u1)] []))
  refine Good.back (fun _ k => XS.lloadN X2.here hx rfl (hb hby own_d6_31) rfl k) ?_
  show Good p e below _ (T2.setTop (mkF m 32 #[.val (.ref r0), .val (.long ((w.toInt64) + (u0.toInt64))), .second, .val (.ref ar), .val (.int (2 : Int32)), .val (.int (1 : Int32)), .val (.int u1)] [(.long ((w.toInt64) + (u0.toInt64)))]))
  refine Good.back (fun _ k => XS.iload X2.here hx rfl (hb hby own_d6_32) rfl k) ?_
  show Good p e below _ (T2.setTop (mkF m 34 #[.val (.ref r0), .val (.long ((w.toInt64) + (u0.toInt64))), .second, .val (.ref ar), .val (.int (2 : Int32)), .val (.int (1 : Int32)), .val (.int u1)] [(.int u1), (.long ((w.toInt64) + (u0.toInt64)))]))
  refine Good.back (fun _ k => XS.i2l X2.here hx rfl (hb hby own_d6_34) rfl k) ?_
  show Good p e below _ (T2.setTop (mkF m 35 #[.val (.ref r0), .val (.long ((w.toInt64) + (u0.toInt64))), .second, .val (.ref ar), .val (.int (2 : Int32)), .val (.int (1 : Int32)), .val (.int u1)] [(.long (u1.toInt64)), (.long ((w.toInt64) + (u0.toInt64)))]))
  refine Good.back (fun _ k => XS.ladd X2.here hx rfl (hb hby own_d6_35) rfl k) ?_
  show Good p e below _ (T2.setTop (mkF m 36 #[.val (.ref r0), .val (.long ((w.toInt64) + (u0.toInt64))), .second, .val (.ref ar), .val (.int (2 : Int32)), .val (.int (1 : Int32)), .val (.int u1)] [(.long (((w.toInt64) + (u0.toInt64)) + (u1.toInt64)))]))
  refine Good.back (fun _ k => XS.lstoreN X2.here hx rfl (hb hby own_d6_36) rfl (l' := #[.val (.ref r0), .val (.long (((w.toInt64) + (u0.toInt64)) + (u1.toInt64))), .second, .val (.ref ar), .val (.int (2 : Int32)), .val (.int (1 : Int32)), .val (.int u1)]) rfl k) ?_
  show Good p e below _ (T2.setTop (mkF m 37 #[.val (.ref r0), .val (.long (((w.toInt64) + (u0.toInt64)) + (u1.toInt64))), .second, .val (.ref ar), .val (.int (2 : Int32)), .val (.int (1 : Int32)), .val (.int u1)] []))
  refine Good.back (fun _ k => XS.iinc X2.here hx rfl (hb hby own_d6_37) rfl (l' := #[.val (.ref r0), .val (.long (((w.toInt64) + (u0.toInt64)) + (u1.toInt64))), .second, .val (.ref ar), .val (.int (2 : Int32)), .val (.int ((1 : Int32) + (1 : Int32))), .val (.int u1)]) rfl k) ?_
  show Good p e below _ (T2.setTop (mkF m 40 #[.val (.ref r0), .val (.long (((w.toInt64) + (u0.toInt64)) + (u1.toInt64))), .second, .val (.ref ar), .val (.int (2 : Int32)), .val (.int ((1 : Int32) + (1 : Int32))), .val (.int u1)] []))
  rw [show (((1 : Int32) + (1 : Int32)) : Int32) = (2 : Int32) from by decide]
  show Good p e below _ (T2.setTop (mkF m 40 #[.val (.ref r0), .val (.long (((w.toInt64) + (u0.toInt64)) + (u1.toInt64))), .second, .val (.ref ar), .val (.int (2 : Int32)), .val (.int (2 : Int32)), .val (.int u1)] []))
  refine Good.back (fun _ k => XS.goto X2.here hx rfl (pc0 := 40) (pc' := 18) rfl (hb hby own_d6_40) (by decide) (by decide) k) ?_
  show Good p e below _ (T2.setTop (mkF m 18 #[.val (.ref r0), .val (.long (((w.toInt64) + (u0.toInt64)) + (u1.toInt64))), .second, .val (.ref ar), .val (.int (2 : Int32)), .val (.int (2 : Int32)), .val (.int u1)] []))
  refine Good.back (fun _ k => XS.iload X2.here hx rfl (hb hby own_d6_18) rfl k) ?_
  show Good p e below _ (T2.setTop (mkF m 20 #[.val (.ref r0), .val (.long (((w.toInt64) + (u0.toInt64)) + (u1.toInt64))), .second, .val (.ref ar), .val (.int (2 : Int32)), .val (.int (2 : Int32)), .val (.int u1)] [(.int (2 : Int32))]))
  refine Good.back (fun _ k => XS.iload X2.here hx rfl (hb hby own_d6_20) rfl k) ?_
  show Good p e below _ (T2.setTop (mkF m 22 #[.val (.ref r0), .val (.long (((w.toInt64) + (u0.toInt64)) + (u1.toInt64))), .second, .val (.ref ar), .val (.int (2 : Int32)), .val (.int (2 : Int32)), .val (.int u1)] [(.int (2 : Int32)), (.int (2 : Int32))]))
  refine Good.back (fun _ k => XS.icmpYes X2.here hx rfl (pc0 := 22) (pc' := 43) rfl (hb hby own_d6_22) rfl (flt (by decide : ¬ ((2 : Int32) < (2 : Int32)))).2.1 (by decide) (by decide) k) ?_
  show Good p e below _ (T2.setTop (mkF m 43 #[.val (.ref r0), .val (.long (((w.toInt64) + (u0.toInt64)) + (u1.toInt64))), .second, .val (.ref ar), .val (.int (2 : Int32)), .val (.int (2 : Int32)), .val (.int u1)] []))
  refine Good.back (fun _ k => XS.lloadN X2.here hx rfl (hb hby own_d6_43) rfl k) ?_
  show Good p e below _ (T2.setTop (mkF m 44 #[.val (.ref r0), .val (.long (((w.toInt64) + (u0.toInt64)) + (u1.toInt64))), .second, .val (.ref ar), .val (.int (2 : Int32)), .val (.int (2 : Int32)), .val (.int u1)] [(.long (((w.toInt64) + (u0.toInt64)) + (u1.toInt64)))]))
  obtain ⟨fs6, hr6, hrun6, hended6, hW6, hsame6⟩ := X2.leave (v := some (.long (((w.toInt64) + (u0.toInt64)) + (u1.toInt64)))) (fun h => by rw [Bd.returns] at h; cases h)
  refine Good.done (retOut X2 hx Bd.returns rfl (Or.inr (Or.inl ⟨rfl, rfl, _, rfl⟩)) (hb hby own_d6_44) hr6) hrun6 hended6 ⟨_, _, rfl, ?_, ⟨_, rfl⟩, hW6, hsame6.mono (by decide) (by decide)⟩
  show Q6_2 Z r0 w ar kk u0 u1 h0 n0 _ T2.heap _
  rw [e2]
  exact ⟨rfl, N0, rfl⟩
theorem own_ef_7_2_1 (m : MethodId) (x0 : Addr) (x1 : Int32) (x2 : Int32) : entryFrame m #[(.ref x0), (.int x1), (.int x2)] 3 = mkF m 0 #[.val (.ref x0), .val (.int x1), .val (.int x2)] [] := by first | (simp [entryFrame, mkF, argsToLocals, Value.category]; done) | rfl
def Q7_2_1 (Z : State) (r0 : Addr) (p2 : Int32) (ar : Addr) (kk : ClassId) (u0 : Int32) (u1 : Int32) (h0 : Heap) (n0 : Nat) (v : Option Value) (h : Heap) (L : List Loc) : Prop := v = none ∧ Fr n0 L ∧ Keep h0 h [ar] ∧ Arv Z h ar kk .int (2 : Int32) [(.int (u0 + p2)), (.int u1)] (.int (0 : Int32))
set_option maxRecDepth 65536 in
set_option maxHeartbeats 40000000 in
theorem rm7_2_1 (l : Launch) (Z : State) (a0 : Array Value) (hw : ∀ d ∈ tables_1, d.before a0 Z = true) (ws : List Jvm.Cond) (r0 : Addr) (p2 : Int32) (ar : Addr) (kk : ClassId) (u0 : Int32) (u1 : Int32) (h0 : Heap) (n0 : Nat) (Z0 : n0 ≤ h0.size) (F_held : Fld Z h0 r0 "org/ludarium/games/sabacc/Chips" "held" "[I" (.ref ar)) (V0 : Arv Z h0 ar kk .int (2 : Int32) [(.int u0), (.int u1)] (.int (0 : Int32))) (ga : n0 ≤ ar) :
    MetFree l (⟨"org/ludarium/games/sabacc/Chips", "win", "(II)V"⟩ : MethodName) (head1 (Jvm.Cond.code (⟨"org/ludarium/games/sabacc/Chips", "win", "(II)V"⟩ : MethodName) prog_13_method_10_code 3 none :: ws) ({ frames := 0, cells := 0, slots := 0, locals := 0 } : Room)) (fun a U => a = #[(.ref r0), (.int (1 : Int32)), (.int p2)] ∧ Z.Warmed39 U.vm ∧ U.heap = h0) (fun _ _ _ _ _ => True) (fun _ U o U' => ∃ v L, o = .returned v ∧ Q7_2_1 Z r0 p2 ar kk u0 u1 h0 n0 v U'.heap L ∧ FrameEnd U o U' L ({ frames := 0, cells := 0, slots := 0, locals := 0 } : Room).cells ({ frames := 0, cells := 0, slots := 0, locals := 0 } : Room).slots) := by
  refine MetFree.of_bodySF (plainFor_of_name own_pn0) hisR ?_
  intro p e s m args below meth c s₁ Bd hml0 hP hK
  obtain ⟨rfl, hZ, hh⟩ := hP
  have hx := Bd.exec
  have hby := Bd.bytes
  have hml : c.maxLocals = 3 := hml0
  have hown : s.vm.findClass "org/ludarium/games/sabacc/Chips" = some m.cls := findClass_of_methodNamed Bd.named
  have hnm := (name_of_methodNamed Bd.named Bd.method).1
  have X0 : Stand p l e ({ frames := 0, cells := 0, slots := 0, locals := 0 } : Room) s m #[(.ref r0), (.int (1 : Int32)), (.int p2)] below meth c s₁ [] 0 0 := Stand.of_body Bd
  have e0 : s₁.heap = h0 := by rw [← hh, Bd.state]; rfl
  have N0 := Fr.nil n0
  have KR : Keep h0 h0 [ar] := Keep.refl h0 _
  show Good p e below (fun o U' => ∃ v L, o = .returned v ∧ Q7_2_1 Z r0 p2 ar kk u0 u1 h0 n0 v U'.heap L ∧ FrameEnd s o U' L ({ frames := 0, cells := 0, slots := 0, locals := 0 } : Room).cells ({ frames := 0, cells := 0, slots := 0, locals := 0 } : Room).slots) _
  refine Good.back (S' := s₁.setTop (mkF m 0 #[.val (.ref r0), .val (.int (1 : Int32)), .val (.int p2)] [])) (fun t k => castTop (own_ef_7_2_1 m r0 (1 : Int32) p2) k) ?_
  show Good p e below _ (s₁.setTop (mkF m 0 #[.val (.ref r0), .val (.int (1 : Int32)), .val (.int p2)] []))
  refine Good.back (fun _ k => XS.aloadN X0.here hx rfl (hb hby own_d7_0) rfl rfl k) ?_
  show Good p e below _ (s₁.setTop (mkF m 1 #[.val (.ref r0), .val (.int (1 : Int32)), .val (.int p2)] [(.ref r0)]))
  obtain ⟨T1, X1, e1, st1⟩ := getF X0 hx hZ hown (host := "") (Or.inl (hw _ (List.mem_of_getElem? (i := 13) rfl))) Via.refl e0 F_held (g := (mkF m 1 #[.val (.ref r0), .val (.int (1 : Int32)), .val (.int p2)] [(.ref r0)])) rfl rfl (hb hby own_d7_1)
  refine Good.back st1 ?_
  show Good p e below _ (T1.setTop (mkF m 4 #[.val (.ref r0), .val (.int (1 : Int32)), .val (.int p2)] [(.ref ar)]))
  refine Good.back (fun _ k => XS.iloadN X1.here hx rfl (hb hby own_d7_4) rfl k) ?_
  show Good p e below _ (T1.setTop (mkF m 5 #[.val (.ref r0), .val (.int (1 : Int32)), .val (.int p2)] [(.int (1 : Int32)), (.ref ar)]))
  refine Good.back (fun _ k => XS.iconst X1.here hx rfl (hb hby own_d7_5) k) ?_
  show Good p e below _ (T1.setTop (mkF m 6 #[.val (.ref r0), .val (.int (1 : Int32)), .val (.int p2)] [(.int (1 : Int32)), (.int (1 : Int32)), (.ref ar)]))
  refine Good.back (fun _ k => XS.isub X1.here hx rfl (hb hby own_d7_6) rfl k) ?_
  show Good p e below _ (T1.setTop (mkF m 7 #[.val (.ref r0), .val (.int (1 : Int32)), .val (.int p2)] [(.int ((1 : Int32) - (1 : Int32))), (.ref ar)]))
  rw [show (((1 : Int32) - (1 : Int32)) : Int32) = (0 : Int32) from by decide]
  show Good p e below _ (T1.setTop (mkF m 7 #[.val (.ref r0), .val (.int (1 : Int32)), .val (.int p2)] [(.int (0 : Int32)), (.ref ar)]))
  refine Good.back (fun _ k => Jvm.Free.XT.dup2 X1.here hx rfl (hb hby own_d7_7) rfl rfl rfl k) ?_
  show Good p e below _ (T1.setTop (mkF m 8 #[.val (.ref r0), .val (.int (1 : Int32)), .val (.int p2)] [(.int (0 : Int32)), (.ref ar), (.int (0 : Int32)), (.ref ar)]))
  have fc2 := V0
  obtain ⟨cl2, Ar2, q2, S2, N2', H2, G2⟩ := fc2
  have hin2 : ¬ ((0 : Int32) < 0 ∨ cl2.slots.size ≤ ((0 : Int32)).toNatClampNeg) := inb_of S2 ⟨by decide, by decide⟩
  have hat2 : cl2.slots[((0 : Int32)).toNatClampNeg]? = some (.int u0) := Has.at H2 hin2 rfl
  refine Good.back (X1.iaload hx (j := (0 : Int32)) (v := (.int u0)) (by rw [e1]; exact Ar2.1) (State.isArrayOf_alike hZ.alike Ar2.2.1) Ar2.2.2 hin2 hat2 (g := (mkF m 8 #[.val (.ref r0), .val (.int (1 : Int32)), .val (.int p2)] [(.int (0 : Int32)), (.ref ar), (.int (0 : Int32)), (.ref ar)])) rfl rfl (hb hby own_d7_8)) ?_
  show Good p e below _ (T1.setTop (mkF m 9 #[.val (.ref r0), .val (.int (1 : Int32)), .val (.int p2)] [(.int u0), (.int (0 : Int32)), (.ref ar)]))
  refine Good.back (fun _ k => XS.iloadN X1.here hx rfl (hb hby own_d7_9) rfl k) ?_
  show Good p e below _ (T1.setTop (mkF m 10 #[.val (.ref r0), .val (.int (1 : Int32)), .val (.int p2)] [(.int p2), (.int u0), (.int (0 : Int32)), (.ref ar)]))
  refine Good.back (fun _ k => XS.iadd X1.here hx rfl (hb hby own_d7_10) rfl k) ?_
  show Good p e below _ (T1.setTop (mkF m 11 #[.val (.ref r0), .val (.int (1 : Int32)), .val (.int p2)] [(.int (u0 + p2)), (.int (0 : Int32)), (.ref ar)]))
  have fc3 := V0
  obtain ⟨cl3, Ar3, q3, S3, N3', H3, G3⟩ := fc3
  have hin3 : ¬ ((0 : Int32) < 0 ∨ cl3.slots.size ≤ ((0 : Int32)).toNatClampNeg) := inb_of S3 ⟨by decide, by decide⟩
  obtain ⟨T3, h3, X3, e3, W3, st3⟩ := stI X1 hx hZ e1 Ar3 (j := (0 : Int32)) hin3 (g := (mkF m 11 #[.val (.ref r0), .val (.int (1 : Int32)), .val (.int p2)] [(.int (u0 + p2)), (.int (0 : Int32)), (.ref ar)])) rfl rfl (hb hby own_d7_11)
  refine Good.back st3 ?_
  have f_4 : Arv Z h3 ar kk .int (2 : Int32) [(.int (u0 + p2)), (.int u1)] (.int (0 : Int32)) := Arv.set Ar3 q3 S3 N3' H3 G3 rfl W3 0 rfl (Nat.le_of_ble_eq_true rfl)
  have N3 := Fr.snoc X3 N0 ga
  have Z5 : n0 ≤ h3.size := Nat.le_trans Z0 (Keep.of_wr W3).1
  have K6 : Keep h0 h3 [ar] := KR.wr W3 (Or.inl (List.mem_of_getElem? (i := 0) rfl))
  show Good p e below _ (T3.setTop (mkF m 12 #[.val (.ref r0), .val (.int (1 : Int32)), .val (.int p2)] []))
  obtain ⟨fs7, hr7, hrun7, hended7, hW7, hsame7⟩ := X3.leave (v := none) (fun _ => rfl)
  refine Good.done (X3.returnOut hx Bd.returns (hb hby own_d7_12) hr7) hrun7 hended7 ⟨_, _, rfl, ?_, ⟨_, rfl⟩, hW7, hsame7.mono (by decide) (by decide)⟩
  show Q7_2_1 Z r0 p2 ar kk u0 u1 h0 n0 _ T3.heap _
  rw [e3]
  exact ⟨rfl, N3, K6, f_4⟩
theorem own_ef_8_2_1 (m : MethodId) (x0 : Addr) (x1 : Int32) (x2 : Int32) : entryFrame m #[(.ref x0), (.int x1), (.int x2)] 4 = mkF m 0 #[.val (.ref x0), .val (.int x1), .val (.int x2), .unset] [] := by first | (simp [entryFrame, mkF, argsToLocals, Value.category]; done) | rfl
def Q8_2_1 (Z : State) (r0 : Addr) (p2 : Int32) (ar : Addr) (w : Int32) (kk : ClassId) (u0 : Int32) (u1 : Int32) (h0 : Heap) (n0 : Nat) (v : Option Value) (h : Heap) (L : List Loc) : Prop := v = none ∧ Fr n0 L ∧ Keep h0 h [ar, r0] ∧ Arv Z h ar kk .int (2 : Int32) [(.int (u0 - (if u0 < p2 then u0 else p2))), (.int u1)] (.int (0 : Int32)) ∧ Fld Z h r0 "org/ludarium/games/sabacc/Chips" "held" "[I" (.ref ar) ∧ Fld Z h r0 "org/ludarium/games/sabacc/Chips" "sabaccPot" "I" (.int (w + (if u0 < p2 then u0 else p2)))
set_option maxRecDepth 65536 in
set_option maxHeartbeats 40000000 in
theorem rm8_2_1 (l : Launch) (Z : State) (a0 : Array Value) (hw : ∀ d ∈ tables_1, d.before a0 Z = true) (ws : List Jvm.Cond) (r0 : Addr) (p2 : Int32) (ar : Addr) (w : Int32) (kk : ClassId) (u0 : Int32) (u1 : Int32) (h0 : Heap) (n0 : Nat) (Z0 : n0 ≤ h0.size) (E0 : Exa Z h0 r0 "org/ludarium/games/sabacc/Chips") (g0 : n0 ≤ r0) (ga : n0 ≤ ar) (hne : r0 ≠ ar) (F_pot : Fld Z h0 r0 "org/ludarium/games/sabacc/Chips" "sabaccPot" "I" (.int w)) (F_held : Fld Z h0 r0 "org/ludarium/games/sabacc/Chips" "held" "[I" (.ref ar)) (V0 : Arv Z h0 ar kk .int (2 : Int32) [(.int u0), (.int u1)] (.int (0 : Int32))) :
    MetFree l (⟨"org/ludarium/games/sabacc/Chips", "paySabaccPot", "(II)V"⟩ : MethodName) (head1 (Jvm.Cond.code (⟨"org/ludarium/games/sabacc/Chips", "paySabaccPot", "(II)V"⟩ : MethodName) prog_13_method_8_code 4 none :: ws) ({ frames := 1, cells := 0, slots := 0, locals := 13 } : Room)) (fun a U => a = #[(.ref r0), (.int (1 : Int32)), (.int p2)] ∧ Z.Warmed39 U.vm ∧ U.heap = h0) (fun _ _ _ _ _ => True) (fun _ U o U' => ∃ v L, o = .returned v ∧ Q8_2_1 Z r0 p2 ar w kk u0 u1 h0 n0 v U'.heap L ∧ FrameEnd U o U' L ({ frames := 1, cells := 0, slots := 0, locals := 13 } : Room).cells ({ frames := 1, cells := 0, slots := 0, locals := 13 } : Room).slots) := by
  refine MetFree.of_bodySF (plainFor_of_name own_pn0) hisR ?_
  intro p e s m args below meth c s₁ Bd hml0 hP hK
  obtain ⟨rfl, hZ, hh⟩ := hP
  have hx := Bd.exec
  have hby := Bd.bytes
  have hml : c.maxLocals = 4 := hml0
  have hown : s.vm.findClass "org/ludarium/games/sabacc/Chips" = some m.cls := findClass_of_methodNamed Bd.named
  have hnm := (name_of_methodNamed Bd.named Bd.method).1
  have X0 : Stand p l e ({ frames := 1, cells := 0, slots := 0, locals := 13 } : Room) s m #[(.ref r0), (.int (1 : Int32)), (.int p2)] below meth c s₁ [] 0 0 := Stand.of_body Bd
  have e0 : s₁.heap = h0 := by rw [← hh, Bd.state]; rfl
  have N0 := Fr.nil n0
  have KR : Keep h0 h0 [ar, r0] := Keep.refl h0 _
  show Good p e below (fun o U' => ∃ v L, o = .returned v ∧ Q8_2_1 Z r0 p2 ar w kk u0 u1 h0 n0 v U'.heap L ∧ FrameEnd s o U' L ({ frames := 1, cells := 0, slots := 0, locals := 13 } : Room).cells ({ frames := 1, cells := 0, slots := 0, locals := 13 } : Room).slots) _
  refine Good.back (S' := s₁.setTop (mkF m 0 #[.val (.ref r0), .val (.int (1 : Int32)), .val (.int p2), .unset] [])) (fun t k => castTop (own_ef_8_2_1 m r0 (1 : Int32) p2) k) ?_
  show Good p e below _ (s₁.setTop (mkF m 0 #[.val (.ref r0), .val (.int (1 : Int32)), .val (.int p2), .unset] []))
  refine Good.back (fun _ k => XS.iloadN X0.here hx rfl (hb hby own_d8_0) rfl k) ?_
  show Good p e below _ (s₁.setTop (mkF m 1 #[.val (.ref r0), .val (.int (1 : Int32)), .val (.int p2), .unset] [(.int p2)]))
  refine Good.back (fun _ k => XS.aloadN X0.here hx rfl (hb hby own_d8_1) rfl rfl k) ?_
  show Good p e below _ (s₁.setTop (mkF m 2 #[.val (.ref r0), .val (.int (1 : Int32)), .val (.int p2), .unset] [(.ref r0), (.int p2)]))
  obtain ⟨T1, X1, e1, st1⟩ := getF X0 hx hZ hown (host := "") (Or.inl (hw _ (List.mem_of_getElem? (i := 13) rfl))) Via.refl e0 F_held (g := (mkF m 2 #[.val (.ref r0), .val (.int (1 : Int32)), .val (.int p2), .unset] [(.ref r0), (.int p2)])) rfl rfl (hb hby own_d8_2)
  refine Good.back st1 ?_
  show Good p e below _ (T1.setTop (mkF m 5 #[.val (.ref r0), .val (.int (1 : Int32)), .val (.int p2), .unset] [(.ref ar), (.int p2)]))
  refine Good.back (fun _ k => XS.iloadN X1.here hx rfl (hb hby own_d8_5) rfl k) ?_
  show Good p e below _ (T1.setTop (mkF m 6 #[.val (.ref r0), .val (.int (1 : Int32)), .val (.int p2), .unset] [(.int (1 : Int32)), (.ref ar), (.int p2)]))
  refine Good.back (fun _ k => XS.iconst X1.here hx rfl (hb hby own_d8_6) k) ?_
  show Good p e below _ (T1.setTop (mkF m 7 #[.val (.ref r0), .val (.int (1 : Int32)), .val (.int p2), .unset] [(.int (1 : Int32)), (.int (1 : Int32)), (.ref ar), (.int p2)]))
  refine Good.back (fun _ k => XS.isub X1.here hx rfl (hb hby own_d8_7) rfl k) ?_
  show Good p e below _ (T1.setTop (mkF m 8 #[.val (.ref r0), .val (.int (1 : Int32)), .val (.int p2), .unset] [(.int ((1 : Int32) - (1 : Int32))), (.ref ar), (.int p2)]))
  rw [show (((1 : Int32) - (1 : Int32)) : Int32) = (0 : Int32) from by decide]
  show Good p e below _ (T1.setTop (mkF m 8 #[.val (.ref r0), .val (.int (1 : Int32)), .val (.int p2), .unset] [(.int (0 : Int32)), (.ref ar), (.int p2)]))
  have fc2 := V0
  obtain ⟨cl2, Ar2, q2, S2, N2', H2, G2⟩ := fc2
  have hin2 : ¬ ((0 : Int32) < 0 ∨ cl2.slots.size ≤ ((0 : Int32)).toNatClampNeg) := inb_of S2 ⟨by decide, by decide⟩
  have hat2 : cl2.slots[((0 : Int32)).toNatClampNeg]? = some (.int u0) := Has.at H2 hin2 rfl
  refine Good.back (X1.iaload hx (j := (0 : Int32)) (v := (.int u0)) (by rw [e1]; exact Ar2.1) (State.isArrayOf_alike hZ.alike Ar2.2.1) Ar2.2.2 hin2 hat2 (g := (mkF m 8 #[.val (.ref r0), .val (.int (1 : Int32)), .val (.int p2), .unset] [(.int (0 : Int32)), (.ref ar), (.int p2)])) rfl rfl (hb hby own_d8_8)) ?_
  show Good p e below _ (T1.setTop (mkF m 9 #[.val (.ref r0), .val (.int (1 : Int32)), .val (.int p2), .unset] [(.int u0), (.int p2)]))
  obtain ⟨_, _, ⟨T3, L3, k3, n3⟩, -, X3, ⟨Lc3, hQ3, l3, y3, z3⟩, st3⟩ := Jvm.LawKit.callS X1 hx (y := (⟨"java/lang/Math", "min", "(II)I"⟩ : MethodName)) hown (mvT hZ (hw _ (List.mem_of_getElem? (i := 41) rfl))) (mvT hZ (hw _ (List.mem_of_getElem? (i := 42) rfl))) (mvT hZ (hw _ (List.mem_of_getElem? (i := 43) rfl))) (mvT hZ (hw _ (List.mem_of_getElem? (i := 44) rfl))) (by decide) (backOf (W := 0) (rm9 l Z a0 hw [] p2 u0  h0 n0 Z0 ) hZ (hw _ (List.mem_of_getElem? (i := 44) rfl)) (hw _ (List.mem_of_getElem? (i := 43) rfl)) (by decide) (by decide)) (g := (mkF m 9 #[.val (.ref r0), .val (.int (1 : Int32)), .val (.int p2), .unset] [(.int u0), (.int p2)])) rfl (by rw [hml]; rfl) (argsL := [(.int p2), (.int u0)]) (rest := []) (lenOf own_pd84 rfl) rfl (by show 2 * 0 + _ ≤ _; exact Nat.le_of_eq rfl) (hb hby own_d8_9) (fun _ _ => ⟨rfl, e1, (by decide : 0 + 0 ≤ _), (by decide : 0 + 0 ≤ _)⟩)
  dsimp only [Pt.U, Pt.locs, Pt.cells, Pt.slots] at X3 l3 y3 z3 st3 hQ3
  subst l3 y3 z3
  obtain ⟨rfl, N3q, eh3⟩ := hQ3
  have N3 := Fr.app N0 N3q
  refine Good.back st3 ?_
  show Good p e below _ (T3.setTop (mkF m 12 #[.val (.ref r0), .val (.int (1 : Int32)), .val (.int p2), .unset] [(.int (if u0 < p2 then u0 else p2))]))
  refine Good.back (fun _ k => XS.istoreN X3.here hx rfl (hb hby own_d8_12) rfl (l' := #[.val (.ref r0), .val (.int (1 : Int32)), .val (.int p2), .val (.int (if u0 < p2 then u0 else p2))]) rfl k) ?_
  show Good p e below _ (T3.setTop (mkF m 13 #[.val (.ref r0), .val (.int (1 : Int32)), .val (.int p2), .val (.int (if u0 < p2 then u0 else p2))] []))
  refine Good.back (fun _ k => XS.aloadN X3.here hx rfl (hb hby own_d8_13) rfl rfl k) ?_
  show Good p e below _ (T3.setTop (mkF m 14 #[.val (.ref r0), .val (.int (1 : Int32)), .val (.int p2), .val (.int (if u0 < p2 then u0 else p2))] [(.ref r0)]))
  obtain ⟨T4, X4, e4, st4⟩ := getF X3 hx hZ hown (host := "") (Or.inl (hw _ (List.mem_of_getElem? (i := 13) rfl))) Via.refl eh3 F_held (g := (mkF m 14 #[.val (.ref r0), .val (.int (1 : Int32)), .val (.int p2), .val (.int (if u0 < p2 then u0 else p2))] [(.ref r0)])) rfl rfl (hb hby own_d8_14)
  refine Good.back st4 ?_
  show Good p e below _ (T4.setTop (mkF m 17 #[.val (.ref r0), .val (.int (1 : Int32)), .val (.int p2), .val (.int (if u0 < p2 then u0 else p2))] [(.ref ar)]))
  refine Good.back (fun _ k => XS.iloadN X4.here hx rfl (hb hby own_d8_17) rfl k) ?_
  show Good p e below _ (T4.setTop (mkF m 18 #[.val (.ref r0), .val (.int (1 : Int32)), .val (.int p2), .val (.int (if u0 < p2 then u0 else p2))] [(.int (1 : Int32)), (.ref ar)]))
  refine Good.back (fun _ k => XS.iconst X4.here hx rfl (hb hby own_d8_18) k) ?_
  show Good p e below _ (T4.setTop (mkF m 19 #[.val (.ref r0), .val (.int (1 : Int32)), .val (.int p2), .val (.int (if u0 < p2 then u0 else p2))] [(.int (1 : Int32)), (.int (1 : Int32)), (.ref ar)]))
  refine Good.back (fun _ k => XS.isub X4.here hx rfl (hb hby own_d8_19) rfl k) ?_
  show Good p e below _ (T4.setTop (mkF m 20 #[.val (.ref r0), .val (.int (1 : Int32)), .val (.int p2), .val (.int (if u0 < p2 then u0 else p2))] [(.int ((1 : Int32) - (1 : Int32))), (.ref ar)]))
  rw [show (((1 : Int32) - (1 : Int32)) : Int32) = (0 : Int32) from by decide]
  show Good p e below _ (T4.setTop (mkF m 20 #[.val (.ref r0), .val (.int (1 : Int32)), .val (.int p2), .val (.int (if u0 < p2 then u0 else p2))] [(.int (0 : Int32)), (.ref ar)]))
  refine Good.back (fun _ k => Jvm.Free.XT.dup2 X4.here hx rfl (hb hby own_d8_20) rfl rfl rfl k) ?_
  show Good p e below _ (T4.setTop (mkF m 21 #[.val (.ref r0), .val (.int (1 : Int32)), .val (.int p2), .val (.int (if u0 < p2 then u0 else p2))] [(.int (0 : Int32)), (.ref ar), (.int (0 : Int32)), (.ref ar)]))
  have fc5 := V0
  obtain ⟨cl5, Ar5, q5, S5, N5', H5, G5⟩ := fc5
  have hin5 : ¬ ((0 : Int32) < 0 ∨ cl5.slots.size ≤ ((0 : Int32)).toNatClampNeg) := inb_of S5 ⟨by decide, by decide⟩
  have hat5 : cl5.slots[((0 : Int32)).toNatClampNeg]? = some (.int u0) := Has.at H5 hin5 rfl
  refine Good.back (X4.iaload hx (j := (0 : Int32)) (v := (.int u0)) (by rw [e4]; exact Ar5.1) (State.isArrayOf_alike hZ.alike Ar5.2.1) Ar5.2.2 hin5 hat5 (g := (mkF m 21 #[.val (.ref r0), .val (.int (1 : Int32)), .val (.int p2), .val (.int (if u0 < p2 then u0 else p2))] [(.int (0 : Int32)), (.ref ar), (.int (0 : Int32)), (.ref ar)])) rfl rfl (hb hby own_d8_21)) ?_
  show Good p e below _ (T4.setTop (mkF m 22 #[.val (.ref r0), .val (.int (1 : Int32)), .val (.int p2), .val (.int (if u0 < p2 then u0 else p2))] [(.int u0), (.int (0 : Int32)), (.ref ar)]))
  refine Good.back (fun _ k => XS.iloadN X4.here hx rfl (hb hby own_d8_22) rfl k) ?_
  show Good p e below _ (T4.setTop (mkF m 23 #[.val (.ref r0), .val (.int (1 : Int32)), .val (.int p2), .val (.int (if u0 < p2 then u0 else p2))] [(.int (if u0 < p2 then u0 else p2)), (.int u0), (.int (0 : Int32)), (.ref ar)]))
  refine Good.back (fun _ k => XS.isub X4.here hx rfl (hb hby own_d8_23) rfl k) ?_
  show Good p e below _ (T4.setTop (mkF m 24 #[.val (.ref r0), .val (.int (1 : Int32)), .val (.int p2), .val (.int (if u0 < p2 then u0 else p2))] [(.int (u0 - (if u0 < p2 then u0 else p2))), (.int (0 : Int32)), (.ref ar)]))
  have fc6 := V0
  obtain ⟨cl6, Ar6, q6, S6, N6', H6, G6⟩ := fc6
  have hin6 : ¬ ((0 : Int32) < 0 ∨ cl6.slots.size ≤ ((0 : Int32)).toNatClampNeg) := inb_of S6 ⟨by decide, by decide⟩
  obtain ⟨T6, h6, X6, e6, W6, st6⟩ := stI X4 hx hZ e4 Ar6 (j := (0 : Int32)) hin6 (g := (mkF m 24 #[.val (.ref r0), .val (.int (1 : Int32)), .val (.int p2), .val (.int (if u0 < p2 then u0 else p2))] [(.int (u0 - (if u0 < p2 then u0 else p2))), (.int (0 : Int32)), (.ref ar)])) rfl rfl (hb hby own_d8_24)
  refine Good.back st6 ?_
  have f_7 : Arv Z h6 ar kk .int (2 : Int32) [(.int (u0 - (if u0 < p2 then u0 else p2))), (.int u1)] (.int (0 : Int32)) := Arv.set Ar6 q6 S6 N6' H6 G6 rfl W6 0 rfl (Nat.le_of_ble_eq_true rfl)
  have N6 := Fr.snoc X6 N3 ga
  have Z8 : n0 ≤ h6.size := Nat.le_trans Z0 (Keep.of_wr W6).1
  have K9 : Keep h0 h6 [ar, r0] := KR.wr W6 (Or.inl (List.mem_of_getElem? (i := 0) rfl))
  show Good p e below _ (T6.setTop (mkF m 25 #[.val (.ref r0), .val (.int (1 : Int32)), .val (.int p2), .val (.int (if u0 < p2 then u0 else p2))] []))
  refine Good.back (fun _ k => XS.aloadN X6.here hx rfl (hb hby own_d8_25) rfl rfl k) ?_
  show Good p e below _ (T6.setTop (mkF m 26 #[.val (.ref r0), .val (.int (1 : Int32)), .val (.int p2), .val (.int (if u0 < p2 then u0 else p2))] [(.ref r0)]))
  refine Good.back (fun _ k => XS.dup X6.here hx rfl (hb hby own_d8_26) rfl rfl k) ?_
  show Good p e below _ (T6.setTop (mkF m 27 #[.val (.ref r0), .val (.int (1 : Int32)), .val (.int p2), .val (.int (if u0 < p2 then u0 else p2))] [(.ref r0), (.ref r0)]))
  have f_10 : Fld Z h6 r0 "org/ludarium/games/sabacc/Chips" "sabaccPot" "I" (.int w) := Fld.other W6 F_pot (Or.inl hne)
  obtain ⟨T11, X11, e11, st11⟩ := getF X6 hx hZ hown (host := "") (Or.inl (hw _ (List.mem_of_getElem? (i := 15) rfl))) Via.refl e6 f_10 (g := (mkF m 27 #[.val (.ref r0), .val (.int (1 : Int32)), .val (.int p2), .val (.int (if u0 < p2 then u0 else p2))] [(.ref r0), (.ref r0)])) rfl rfl (hb hby own_d8_27)
  refine Good.back st11 ?_
  show Good p e below _ (T11.setTop (mkF m 30 #[.val (.ref r0), .val (.int (1 : Int32)), .val (.int p2), .val (.int (if u0 < p2 then u0 else p2))] [(.int w), (.ref r0)]))
  refine Good.back (fun _ k => XS.iloadN X11.here hx rfl (hb hby own_d8_30) rfl k) ?_
  show Good p e below _ (T11.setTop (mkF m 31 #[.val (.ref r0), .val (.int (1 : Int32)), .val (.int p2), .val (.int (if u0 < p2 then u0 else p2))] [(.int (if u0 < p2 then u0 else p2)), (.int w), (.ref r0)]))
  refine Good.back (fun _ k => XS.iadd X11.here hx rfl (hb hby own_d8_31) rfl k) ?_
  show Good p e below _ (T11.setTop (mkF m 32 #[.val (.ref r0), .val (.int (1 : Int32)), .val (.int p2), .val (.int (if u0 < p2 then u0 else p2))] [(.int (w + (if u0 < p2 then u0 else p2))), (.ref r0)]))
  have f_12 : Exa Z h6 r0 "org/ludarium/games/sabacc/Chips" := Exa.wr W6 E0
  obtain ⟨T13, h13, X13, e13, W13, st13⟩ := putF X11 hx hZ hown (host := "") (Or.inl (hw _ (List.mem_of_getElem? (i := 15) rfl))) Via.refl e11 f_10 f_12 (Or.inl (hw _ (List.mem_of_getElem? (i := 16) rfl))) (hw _ (List.mem_of_getElem? (i := 1) rfl)) (ty := .int) (by decide) rfl rfl (g := (mkF m 32 #[.val (.ref r0), .val (.int (1 : Int32)), .val (.int p2), .val (.int (if u0 < p2 then u0 else p2))] [(.int (w + (if u0 < p2 then u0 else p2))), (.ref r0)])) rfl rfl (hb hby own_d8_32)
  refine Good.back st13 ?_
  have f_14 : Fld Z h13 r0 "org/ludarium/games/sabacc/Chips" "sabaccPot" "I" (.int (w + (if u0 < p2 then u0 else p2))) := Fld.same W13 f_10
  have N13 := Fr.snoc X13 N6 g0
  have Z15 : n0 ≤ h13.size := Nat.le_trans Z8 (Keep.of_wr W13).1
  have K16 : Keep h0 h13 [ar, r0] := K9.wr W13 (Or.inl (List.mem_of_getElem? (i := 1) rfl))
  show Good p e below _ (T13.setTop (mkF m 35 #[.val (.ref r0), .val (.int (1 : Int32)), .val (.int p2), .val (.int (if u0 < p2 then u0 else p2))] []))
  obtain ⟨fs17, hr17, hrun17, hended17, hW17, hsame17⟩ := X13.leave (v := none) (fun _ => rfl)
  refine Good.done (X13.returnOut hx Bd.returns (hb hby own_d8_35) hr17) hrun17 hended17 ⟨_, _, rfl, ?_, ⟨_, rfl⟩, hW17, hsame17.mono (by decide) (by decide)⟩
  show Q8_2_1 Z r0 p2 ar w kk u0 u1 h0 n0 _ T13.heap _
  rw [e13]
  have f_18 : Arv Z h13 ar kk .int (2 : Int32) [(.int (u0 - (if u0 < p2 then u0 else p2))), (.int u1)] (.int (0 : Int32)) := Arv.other f_7 W13 (Ne.symm hne)
  have f_19 : Fld Z h6 r0 "org/ludarium/games/sabacc/Chips" "held" "[I" (.ref ar) := Fld.other W6 F_held (Or.inl hne)
  have f_20 : Fld Z h13 r0 "org/ludarium/games/sabacc/Chips" "held" "[I" (.ref ar) := Fld.other W13 f_19 (Or.inr (slot_ne (Or.inr (hw _ (List.mem_of_getElem? (i := 14) rfl))) (Or.inl (hw _ (List.mem_of_getElem? (i := 16) rfl))) (by decide) (t := (.array .int)) (t' := .int) (by decide) (by decide)))
  exact ⟨rfl, N13, K16, f_18, f_20, f_14⟩
theorem own_ef_10_2_1 (m : MethodId) (x0 : Addr) (x1 : Int32) : entryFrame m #[(.ref x0), (.int x1)] 2 = mkF m 0 #[.val (.ref x0), .val (.int x1)] [] := by first | (simp [entryFrame, mkF, argsToLocals, Value.category]; done) | rfl
def Q10_2_1 (Z : State) (r0 : Addr) (ar : Addr) (kk : ClassId) (u0 : Int32) (u1 : Int32) (h0 : Heap) (n0 : Nat) (v : Option Value) (h : Heap) (L : List Loc) : Prop := v = some (.int u0) ∧ Fr n0 L ∧ h = h0
set_option maxRecDepth 65536 in
set_option maxHeartbeats 40000000 in
theorem rm10_2_1 (l : Launch) (Z : State) (a0 : Array Value) (hw : ∀ d ∈ tables_1, d.before a0 Z = true) (ws : List Jvm.Cond) (r0 : Addr) (ar : Addr) (kk : ClassId) (u0 : Int32) (u1 : Int32) (h0 : Heap) (n0 : Nat) (Z0 : n0 ≤ h0.size) (F_held : Fld Z h0 r0 "org/ludarium/games/sabacc/Chips" "held" "[I" (.ref ar)) (V0 : Arv Z h0 ar kk .int (2 : Int32) [(.int u0), (.int u1)] (.int (0 : Int32))) :
    MetFree l (⟨"org/ludarium/games/sabacc/Chips", "held", "(I)I"⟩ : MethodName) (head1 (Jvm.Cond.code (⟨"org/ludarium/games/sabacc/Chips", "held", "(I)I"⟩ : MethodName) prog_13_method_5_code 2 (some .int) :: ws) ({ frames := 0, cells := 0, slots := 0, locals := 0 } : Room)) (fun a U => a = #[(.ref r0), (.int (1 : Int32))] ∧ Z.Warmed39 U.vm ∧ U.heap = h0) (fun _ _ _ _ _ => True) (fun _ U o U' => ∃ v L, o = .returned v ∧ Q10_2_1 Z r0 ar kk u0 u1 h0 n0 v U'.heap L ∧ FrameEnd U o U' L ({ frames := 0, cells := 0, slots := 0, locals := 0 } : Room).cells ({ frames := 0, cells := 0, slots := 0, locals := 0 } : Room).slots) := by
  refine MetFree.of_bodySF (plainFor_of_name own_pn0) hisR ?_
  intro p e s m args below meth c s₁ Bd hml0 hP hK
  obtain ⟨rfl, hZ, hh⟩ := hP
  have hx := Bd.exec
  have hby := Bd.bytes
  have hml : c.maxLocals = 2 := hml0
  have hown : s.vm.findClass "org/ludarium/games/sabacc/Chips" = some m.cls := findClass_of_methodNamed Bd.named
  have hnm := (name_of_methodNamed Bd.named Bd.method).1
  have X0 : Stand p l e ({ frames := 0, cells := 0, slots := 0, locals := 0 } : Room) s m #[(.ref r0), (.int (1 : Int32))] below meth c s₁ [] 0 0 := Stand.of_body Bd
  have e0 : s₁.heap = h0 := by rw [← hh, Bd.state]; rfl
  have N0 := Fr.nil n0
  show Good p e below (fun o U' => ∃ v L, o = .returned v ∧ Q10_2_1 Z r0 ar kk u0 u1 h0 n0 v U'.heap L ∧ FrameEnd s o U' L ({ frames := 0, cells := 0, slots := 0, locals := 0 } : Room).cells ({ frames := 0, cells := 0, slots := 0, locals := 0 } : Room).slots) _
  refine Good.back (S' := s₁.setTop (mkF m 0 #[.val (.ref r0), .val (.int (1 : Int32))] [])) (fun t k => castTop (own_ef_10_2_1 m r0 (1 : Int32)) k) ?_
  show Good p e below _ (s₁.setTop (mkF m 0 #[.val (.ref r0), .val (.int (1 : Int32))] []))
  refine Good.back (fun _ k => XS.aloadN X0.here hx rfl (hb hby own_d10_0) rfl rfl k) ?_
  show Good p e below _ (s₁.setTop (mkF m 1 #[.val (.ref r0), .val (.int (1 : Int32))] [(.ref r0)]))
  obtain ⟨T1, X1, e1, st1⟩ := getF X0 hx hZ hown (host := "") (Or.inl (hw _ (List.mem_of_getElem? (i := 13) rfl))) Via.refl e0 F_held (g := (mkF m 1 #[.val (.ref r0), .val (.int (1 : Int32))] [(.ref r0)])) rfl rfl (hb hby own_d10_1)
  refine Good.back st1 ?_
  show Good p e below _ (T1.setTop (mkF m 4 #[.val (.ref r0), .val (.int (1 : Int32))] [(.ref ar)]))
  refine Good.back (fun _ k => XS.iloadN X1.here hx rfl (hb hby own_d10_4) rfl k) ?_
  show Good p e below _ (T1.setTop (mkF m 5 #[.val (.ref r0), .val (.int (1 : Int32))] [(.int (1 : Int32)), (.ref ar)]))
  refine Good.back (fun _ k => XS.iconst X1.here hx rfl (hb hby own_d10_5) k) ?_
  show Good p e below _ (T1.setTop (mkF m 6 #[.val (.ref r0), .val (.int (1 : Int32))] [(.int (1 : Int32)), (.int (1 : Int32)), (.ref ar)]))
  refine Good.back (fun _ k => XS.isub X1.here hx rfl (hb hby own_d10_6) rfl k) ?_
  show Good p e below _ (T1.setTop (mkF m 7 #[.val (.ref r0), .val (.int (1 : Int32))] [(.int ((1 : Int32) - (1 : Int32))), (.ref ar)]))
  rw [show (((1 : Int32) - (1 : Int32)) : Int32) = (0 : Int32) from by decide]
  show Good p e below _ (T1.setTop (mkF m 7 #[.val (.ref r0), .val (.int (1 : Int32))] [(.int (0 : Int32)), (.ref ar)]))
  have fc2 := V0
  obtain ⟨cl2, Ar2, q2, S2, N2', H2, G2⟩ := fc2
  have hin2 : ¬ ((0 : Int32) < 0 ∨ cl2.slots.size ≤ ((0 : Int32)).toNatClampNeg) := inb_of S2 ⟨by decide, by decide⟩
  have hat2 : cl2.slots[((0 : Int32)).toNatClampNeg]? = some (.int u0) := Has.at H2 hin2 rfl
  refine Good.back (X1.iaload hx (j := (0 : Int32)) (v := (.int u0)) (by rw [e1]; exact Ar2.1) (State.isArrayOf_alike hZ.alike Ar2.2.1) Ar2.2.2 hin2 hat2 (g := (mkF m 7 #[.val (.ref r0), .val (.int (1 : Int32))] [(.int (0 : Int32)), (.ref ar)])) rfl rfl (hb hby own_d10_7)) ?_
  show Good p e below _ (T1.setTop (mkF m 8 #[.val (.ref r0), .val (.int (1 : Int32))] [(.int u0)]))
  obtain ⟨fs3, hr3, hrun3, hended3, hW3, hsame3⟩ := X1.leave (v := some (.int u0)) (fun h => by rw [Bd.returns] at h; cases h)
  refine Good.done (retI X1 hx Bd.returns (hb hby own_d10_8) hr3) hrun3 hended3 ⟨_, _, rfl, ?_, ⟨_, rfl⟩, hW3, hsame3.mono (by decide) (by decide)⟩
  show Q10_2_1 Z r0 ar kk u0 u1 h0 n0 _ T1.heap _
  rw [e1]
  exact ⟨rfl, N0, rfl⟩
theorem own_ef_7_2_2 (m : MethodId) (x0 : Addr) (x1 : Int32) (x2 : Int32) : entryFrame m #[(.ref x0), (.int x1), (.int x2)] 3 = mkF m 0 #[.val (.ref x0), .val (.int x1), .val (.int x2)] [] := by first | (simp [entryFrame, mkF, argsToLocals, Value.category]; done) | rfl
def Q7_2_2 (Z : State) (r0 : Addr) (p2 : Int32) (ar : Addr) (kk : ClassId) (u0 : Int32) (u1 : Int32) (h0 : Heap) (n0 : Nat) (v : Option Value) (h : Heap) (L : List Loc) : Prop := v = none ∧ Fr n0 L ∧ Keep h0 h [ar] ∧ Arv Z h ar kk .int (2 : Int32) [(.int u0), (.int (u1 + p2))] (.int (0 : Int32))
set_option maxRecDepth 65536 in
set_option maxHeartbeats 40000000 in
theorem rm7_2_2 (l : Launch) (Z : State) (a0 : Array Value) (hw : ∀ d ∈ tables_1, d.before a0 Z = true) (ws : List Jvm.Cond) (r0 : Addr) (p2 : Int32) (ar : Addr) (kk : ClassId) (u0 : Int32) (u1 : Int32) (h0 : Heap) (n0 : Nat) (Z0 : n0 ≤ h0.size) (F_held : Fld Z h0 r0 "org/ludarium/games/sabacc/Chips" "held" "[I" (.ref ar)) (V0 : Arv Z h0 ar kk .int (2 : Int32) [(.int u0), (.int u1)] (.int (0 : Int32))) (ga : n0 ≤ ar) :
    MetFree l (⟨"org/ludarium/games/sabacc/Chips", "win", "(II)V"⟩ : MethodName) (head1 (Jvm.Cond.code (⟨"org/ludarium/games/sabacc/Chips", "win", "(II)V"⟩ : MethodName) prog_13_method_10_code 3 none :: ws) ({ frames := 0, cells := 0, slots := 0, locals := 0 } : Room)) (fun a U => a = #[(.ref r0), (.int (2 : Int32)), (.int p2)] ∧ Z.Warmed39 U.vm ∧ U.heap = h0) (fun _ _ _ _ _ => True) (fun _ U o U' => ∃ v L, o = .returned v ∧ Q7_2_2 Z r0 p2 ar kk u0 u1 h0 n0 v U'.heap L ∧ FrameEnd U o U' L ({ frames := 0, cells := 0, slots := 0, locals := 0 } : Room).cells ({ frames := 0, cells := 0, slots := 0, locals := 0 } : Room).slots) := by
  refine MetFree.of_bodySF (plainFor_of_name own_pn0) hisR ?_
  intro p e s m args below meth c s₁ Bd hml0 hP hK
  obtain ⟨rfl, hZ, hh⟩ := hP
  have hx := Bd.exec
  have hby := Bd.bytes
  have hml : c.maxLocals = 3 := hml0
  have hown : s.vm.findClass "org/ludarium/games/sabacc/Chips" = some m.cls := findClass_of_methodNamed Bd.named
  have hnm := (name_of_methodNamed Bd.named Bd.method).1
  have X0 : Stand p l e ({ frames := 0, cells := 0, slots := 0, locals := 0 } : Room) s m #[(.ref r0), (.int (2 : Int32)), (.int p2)] below meth c s₁ [] 0 0 := Stand.of_body Bd
  have e0 : s₁.heap = h0 := by rw [← hh, Bd.state]; rfl
  have N0 := Fr.nil n0
  have KR : Keep h0 h0 [ar] := Keep.refl h0 _
  show Good p e below (fun o U' => ∃ v L, o = .returned v ∧ Q7_2_2 Z r0 p2 ar kk u0 u1 h0 n0 v U'.heap L ∧ FrameEnd s o U' L ({ frames := 0, cells := 0, slots := 0, locals := 0 } : Room).cells ({ frames := 0, cells := 0, slots := 0, locals := 0 } : Room).slots) _
  refine Good.back (S' := s₁.setTop (mkF m 0 #[.val (.ref r0), .val (.int (2 : Int32)), .val (.int p2)] [])) (fun t k => castTop (own_ef_7_2_2 m r0 (2 : Int32) p2) k) ?_
  show Good p e below _ (s₁.setTop (mkF m 0 #[.val (.ref r0), .val (.int (2 : Int32)), .val (.int p2)] []))
  refine Good.back (fun _ k => XS.aloadN X0.here hx rfl (hb hby own_d7_0) rfl rfl k) ?_
  show Good p e below _ (s₁.setTop (mkF m 1 #[.val (.ref r0), .val (.int (2 : Int32)), .val (.int p2)] [(.ref r0)]))
  obtain ⟨T1, X1, e1, st1⟩ := getF X0 hx hZ hown (host := "") (Or.inl (hw _ (List.mem_of_getElem? (i := 13) rfl))) Via.refl e0 F_held (g := (mkF m 1 #[.val (.ref r0), .val (.int (2 : Int32)), .val (.int p2)] [(.ref r0)])) rfl rfl (hb hby own_d7_1)
  refine Good.back st1 ?_
  show Good p e below _ (T1.setTop (mkF m 4 #[.val (.ref r0), .val (.int (2 : Int32)), .val (.int p2)] [(.ref ar)]))
  refine Good.back (fun _ k => XS.iloadN X1.here hx rfl (hb hby own_d7_4) rfl k) ?_
  show Good p e below _ (T1.setTop (mkF m 5 #[.val (.ref r0), .val (.int (2 : Int32)), .val (.int p2)] [(.int (2 : Int32)), (.ref ar)]))
  refine Good.back (fun _ k => XS.iconst X1.here hx rfl (hb hby own_d7_5) k) ?_
  show Good p e below _ (T1.setTop (mkF m 6 #[.val (.ref r0), .val (.int (2 : Int32)), .val (.int p2)] [(.int (1 : Int32)), (.int (2 : Int32)), (.ref ar)]))
  refine Good.back (fun _ k => XS.isub X1.here hx rfl (hb hby own_d7_6) rfl k) ?_
  show Good p e below _ (T1.setTop (mkF m 7 #[.val (.ref r0), .val (.int (2 : Int32)), .val (.int p2)] [(.int ((2 : Int32) - (1 : Int32))), (.ref ar)]))
  rw [show (((2 : Int32) - (1 : Int32)) : Int32) = (1 : Int32) from by decide]
  show Good p e below _ (T1.setTop (mkF m 7 #[.val (.ref r0), .val (.int (2 : Int32)), .val (.int p2)] [(.int (1 : Int32)), (.ref ar)]))
  refine Good.back (fun _ k => Jvm.Free.XT.dup2 X1.here hx rfl (hb hby own_d7_7) rfl rfl rfl k) ?_
  show Good p e below _ (T1.setTop (mkF m 8 #[.val (.ref r0), .val (.int (2 : Int32)), .val (.int p2)] [(.int (1 : Int32)), (.ref ar), (.int (1 : Int32)), (.ref ar)]))
  have fc2 := V0
  obtain ⟨cl2, Ar2, q2, S2, N2', H2, G2⟩ := fc2
  have hin2 : ¬ ((1 : Int32) < 0 ∨ cl2.slots.size ≤ ((1 : Int32)).toNatClampNeg) := inb_of S2 ⟨by decide, by decide⟩
  have hat2 : cl2.slots[((1 : Int32)).toNatClampNeg]? = some (.int u1) := Has.at H2 hin2 rfl
  refine Good.back (X1.iaload hx (j := (1 : Int32)) (v := (.int u1)) (by rw [e1]; exact Ar2.1) (State.isArrayOf_alike hZ.alike Ar2.2.1) Ar2.2.2 hin2 hat2 (g := (mkF m 8 #[.val (.ref r0), .val (.int (2 : Int32)), .val (.int p2)] [(.int (1 : Int32)), (.ref ar), (.int (1 : Int32)), (.ref ar)])) rfl rfl (hb hby own_d7_8)) ?_
  show Good p e below _ (T1.setTop (mkF m 9 #[.val (.ref r0), .val (.int (2 : Int32)), .val (.int p2)] [(.int u1), (.int (1 : Int32)), (.ref ar)]))
  refine Good.back (fun _ k => XS.iloadN X1.here hx rfl (hb hby own_d7_9) rfl k) ?_
  show Good p e below _ (T1.setTop (mkF m 10 #[.val (.ref r0), .val (.int (2 : Int32)), .val (.int p2)] [(.int p2), (.int u1), (.int (1 : Int32)), (.ref ar)]))
  refine Good.back (fun _ k => XS.iadd X1.here hx rfl (hb hby own_d7_10) rfl k) ?_
  show Good p e below _ (T1.setTop (mkF m 11 #[.val (.ref r0), .val (.int (2 : Int32)), .val (.int p2)] [(.int (u1 + p2)), (.int (1 : Int32)), (.ref ar)]))
  have fc3 := V0
  obtain ⟨cl3, Ar3, q3, S3, N3', H3, G3⟩ := fc3
  have hin3 : ¬ ((1 : Int32) < 0 ∨ cl3.slots.size ≤ ((1 : Int32)).toNatClampNeg) := inb_of S3 ⟨by decide, by decide⟩
  obtain ⟨T3, h3, X3, e3, W3, st3⟩ := stI X1 hx hZ e1 Ar3 (j := (1 : Int32)) hin3 (g := (mkF m 11 #[.val (.ref r0), .val (.int (2 : Int32)), .val (.int p2)] [(.int (u1 + p2)), (.int (1 : Int32)), (.ref ar)])) rfl rfl (hb hby own_d7_11)
  refine Good.back st3 ?_
  have f_4 : Arv Z h3 ar kk .int (2 : Int32) [(.int u0), (.int (u1 + p2))] (.int (0 : Int32)) := Arv.set Ar3 q3 S3 N3' H3 G3 rfl W3 1 rfl (Nat.le_of_ble_eq_true rfl)
  have N3 := Fr.snoc X3 N0 ga
  have Z5 : n0 ≤ h3.size := Nat.le_trans Z0 (Keep.of_wr W3).1
  have K6 : Keep h0 h3 [ar] := KR.wr W3 (Or.inl (List.mem_of_getElem? (i := 0) rfl))
  show Good p e below _ (T3.setTop (mkF m 12 #[.val (.ref r0), .val (.int (2 : Int32)), .val (.int p2)] []))
  obtain ⟨fs7, hr7, hrun7, hended7, hW7, hsame7⟩ := X3.leave (v := none) (fun _ => rfl)
  refine Good.done (X3.returnOut hx Bd.returns (hb hby own_d7_12) hr7) hrun7 hended7 ⟨_, _, rfl, ?_, ⟨_, rfl⟩, hW7, hsame7.mono (by decide) (by decide)⟩
  show Q7_2_2 Z r0 p2 ar kk u0 u1 h0 n0 _ T3.heap _
  rw [e3]
  exact ⟨rfl, N3, K6, f_4⟩
theorem own_ef_8_2_2 (m : MethodId) (x0 : Addr) (x1 : Int32) (x2 : Int32) : entryFrame m #[(.ref x0), (.int x1), (.int x2)] 4 = mkF m 0 #[.val (.ref x0), .val (.int x1), .val (.int x2), .unset] [] := by first | (simp [entryFrame, mkF, argsToLocals, Value.category]; done) | rfl
def Q8_2_2 (Z : State) (r0 : Addr) (p2 : Int32) (ar : Addr) (w : Int32) (kk : ClassId) (u0 : Int32) (u1 : Int32) (h0 : Heap) (n0 : Nat) (v : Option Value) (h : Heap) (L : List Loc) : Prop := v = none ∧ Fr n0 L ∧ Keep h0 h [ar, r0] ∧ Arv Z h ar kk .int (2 : Int32) [(.int u0), (.int (u1 - (if u1 < p2 then u1 else p2)))] (.int (0 : Int32)) ∧ Fld Z h r0 "org/ludarium/games/sabacc/Chips" "held" "[I" (.ref ar) ∧ Fld Z h r0 "org/ludarium/games/sabacc/Chips" "sabaccPot" "I" (.int (w + (if u1 < p2 then u1 else p2)))
set_option maxRecDepth 65536 in
set_option maxHeartbeats 40000000 in
theorem rm8_2_2 (l : Launch) (Z : State) (a0 : Array Value) (hw : ∀ d ∈ tables_1, d.before a0 Z = true) (ws : List Jvm.Cond) (r0 : Addr) (p2 : Int32) (ar : Addr) (w : Int32) (kk : ClassId) (u0 : Int32) (u1 : Int32) (h0 : Heap) (n0 : Nat) (Z0 : n0 ≤ h0.size) (E0 : Exa Z h0 r0 "org/ludarium/games/sabacc/Chips") (g0 : n0 ≤ r0) (ga : n0 ≤ ar) (hne : r0 ≠ ar) (F_pot : Fld Z h0 r0 "org/ludarium/games/sabacc/Chips" "sabaccPot" "I" (.int w)) (F_held : Fld Z h0 r0 "org/ludarium/games/sabacc/Chips" "held" "[I" (.ref ar)) (V0 : Arv Z h0 ar kk .int (2 : Int32) [(.int u0), (.int u1)] (.int (0 : Int32))) :
    MetFree l (⟨"org/ludarium/games/sabacc/Chips", "paySabaccPot", "(II)V"⟩ : MethodName) (head1 (Jvm.Cond.code (⟨"org/ludarium/games/sabacc/Chips", "paySabaccPot", "(II)V"⟩ : MethodName) prog_13_method_8_code 4 none :: ws) ({ frames := 1, cells := 0, slots := 0, locals := 13 } : Room)) (fun a U => a = #[(.ref r0), (.int (2 : Int32)), (.int p2)] ∧ Z.Warmed39 U.vm ∧ U.heap = h0) (fun _ _ _ _ _ => True) (fun _ U o U' => ∃ v L, o = .returned v ∧ Q8_2_2 Z r0 p2 ar w kk u0 u1 h0 n0 v U'.heap L ∧ FrameEnd U o U' L ({ frames := 1, cells := 0, slots := 0, locals := 13 } : Room).cells ({ frames := 1, cells := 0, slots := 0, locals := 13 } : Room).slots) := by
  refine MetFree.of_bodySF (plainFor_of_name own_pn0) hisR ?_
  intro p e s m args below meth c s₁ Bd hml0 hP hK
  obtain ⟨rfl, hZ, hh⟩ := hP
  have hx := Bd.exec
  have hby := Bd.bytes
  have hml : c.maxLocals = 4 := hml0
  have hown : s.vm.findClass "org/ludarium/games/sabacc/Chips" = some m.cls := findClass_of_methodNamed Bd.named
  have hnm := (name_of_methodNamed Bd.named Bd.method).1
  have X0 : Stand p l e ({ frames := 1, cells := 0, slots := 0, locals := 13 } : Room) s m #[(.ref r0), (.int (2 : Int32)), (.int p2)] below meth c s₁ [] 0 0 := Stand.of_body Bd
  have e0 : s₁.heap = h0 := by rw [← hh, Bd.state]; rfl
  have N0 := Fr.nil n0
  have KR : Keep h0 h0 [ar, r0] := Keep.refl h0 _
  show Good p e below (fun o U' => ∃ v L, o = .returned v ∧ Q8_2_2 Z r0 p2 ar w kk u0 u1 h0 n0 v U'.heap L ∧ FrameEnd s o U' L ({ frames := 1, cells := 0, slots := 0, locals := 13 } : Room).cells ({ frames := 1, cells := 0, slots := 0, locals := 13 } : Room).slots) _
  refine Good.back (S' := s₁.setTop (mkF m 0 #[.val (.ref r0), .val (.int (2 : Int32)), .val (.int p2), .unset] [])) (fun t k => castTop (own_ef_8_2_2 m r0 (2 : Int32) p2) k) ?_
  show Good p e below _ (s₁.setTop (mkF m 0 #[.val (.ref r0), .val (.int (2 : Int32)), .val (.int p2), .unset] []))
  refine Good.back (fun _ k => XS.iloadN X0.here hx rfl (hb hby own_d8_0) rfl k) ?_
  show Good p e below _ (s₁.setTop (mkF m 1 #[.val (.ref r0), .val (.int (2 : Int32)), .val (.int p2), .unset] [(.int p2)]))
  refine Good.back (fun _ k => XS.aloadN X0.here hx rfl (hb hby own_d8_1) rfl rfl k) ?_
  show Good p e below _ (s₁.setTop (mkF m 2 #[.val (.ref r0), .val (.int (2 : Int32)), .val (.int p2), .unset] [(.ref r0), (.int p2)]))
  obtain ⟨T1, X1, e1, st1⟩ := getF X0 hx hZ hown (host := "") (Or.inl (hw _ (List.mem_of_getElem? (i := 13) rfl))) Via.refl e0 F_held (g := (mkF m 2 #[.val (.ref r0), .val (.int (2 : Int32)), .val (.int p2), .unset] [(.ref r0), (.int p2)])) rfl rfl (hb hby own_d8_2)
  refine Good.back st1 ?_
  show Good p e below _ (T1.setTop (mkF m 5 #[.val (.ref r0), .val (.int (2 : Int32)), .val (.int p2), .unset] [(.ref ar), (.int p2)]))
  refine Good.back (fun _ k => XS.iloadN X1.here hx rfl (hb hby own_d8_5) rfl k) ?_
  show Good p e below _ (T1.setTop (mkF m 6 #[.val (.ref r0), .val (.int (2 : Int32)), .val (.int p2), .unset] [(.int (2 : Int32)), (.ref ar), (.int p2)]))
  refine Good.back (fun _ k => XS.iconst X1.here hx rfl (hb hby own_d8_6) k) ?_
  show Good p e below _ (T1.setTop (mkF m 7 #[.val (.ref r0), .val (.int (2 : Int32)), .val (.int p2), .unset] [(.int (1 : Int32)), (.int (2 : Int32)), (.ref ar), (.int p2)]))
  refine Good.back (fun _ k => XS.isub X1.here hx rfl (hb hby own_d8_7) rfl k) ?_
  show Good p e below _ (T1.setTop (mkF m 8 #[.val (.ref r0), .val (.int (2 : Int32)), .val (.int p2), .unset] [(.int ((2 : Int32) - (1 : Int32))), (.ref ar), (.int p2)]))
  rw [show (((2 : Int32) - (1 : Int32)) : Int32) = (1 : Int32) from by decide]
  show Good p e below _ (T1.setTop (mkF m 8 #[.val (.ref r0), .val (.int (2 : Int32)), .val (.int p2), .unset] [(.int (1 : Int32)), (.ref ar), (.int p2)]))
  have fc2 := V0
  obtain ⟨cl2, Ar2, q2, S2, N2', H2, G2⟩ := fc2
  have hin2 : ¬ ((1 : Int32) < 0 ∨ cl2.slots.size ≤ ((1 : Int32)).toNatClampNeg) := inb_of S2 ⟨by decide, by decide⟩
  have hat2 : cl2.slots[((1 : Int32)).toNatClampNeg]? = some (.int u1) := Has.at H2 hin2 rfl
  refine Good.back (X1.iaload hx (j := (1 : Int32)) (v := (.int u1)) (by rw [e1]; exact Ar2.1) (State.isArrayOf_alike hZ.alike Ar2.2.1) Ar2.2.2 hin2 hat2 (g := (mkF m 8 #[.val (.ref r0), .val (.int (2 : Int32)), .val (.int p2), .unset] [(.int (1 : Int32)), (.ref ar), (.int p2)])) rfl rfl (hb hby own_d8_8)) ?_
  show Good p e below _ (T1.setTop (mkF m 9 #[.val (.ref r0), .val (.int (2 : Int32)), .val (.int p2), .unset] [(.int u1), (.int p2)]))
  obtain ⟨_, _, ⟨T3, L3, k3, n3⟩, -, X3, ⟨Lc3, hQ3, l3, y3, z3⟩, st3⟩ := Jvm.LawKit.callS X1 hx (y := (⟨"java/lang/Math", "min", "(II)I"⟩ : MethodName)) hown (mvT hZ (hw _ (List.mem_of_getElem? (i := 41) rfl))) (mvT hZ (hw _ (List.mem_of_getElem? (i := 42) rfl))) (mvT hZ (hw _ (List.mem_of_getElem? (i := 43) rfl))) (mvT hZ (hw _ (List.mem_of_getElem? (i := 44) rfl))) (by decide) (backOf (W := 0) (rm9 l Z a0 hw [] p2 u1  h0 n0 Z0 ) hZ (hw _ (List.mem_of_getElem? (i := 44) rfl)) (hw _ (List.mem_of_getElem? (i := 43) rfl)) (by decide) (by decide)) (g := (mkF m 9 #[.val (.ref r0), .val (.int (2 : Int32)), .val (.int p2), .unset] [(.int u1), (.int p2)])) rfl (by rw [hml]; rfl) (argsL := [(.int p2), (.int u1)]) (rest := []) (lenOf own_pd84 rfl) rfl (by show 2 * 0 + _ ≤ _; exact Nat.le_of_eq rfl) (hb hby own_d8_9) (fun _ _ => ⟨rfl, e1, (by decide : 0 + 0 ≤ _), (by decide : 0 + 0 ≤ _)⟩)
  dsimp only [Pt.U, Pt.locs, Pt.cells, Pt.slots] at X3 l3 y3 z3 st3 hQ3
  subst l3 y3 z3
  obtain ⟨rfl, N3q, eh3⟩ := hQ3
  have N3 := Fr.app N0 N3q
  refine Good.back st3 ?_
  show Good p e below _ (T3.setTop (mkF m 12 #[.val (.ref r0), .val (.int (2 : Int32)), .val (.int p2), .unset] [(.int (if u1 < p2 then u1 else p2))]))
  refine Good.back (fun _ k => XS.istoreN X3.here hx rfl (hb hby own_d8_12) rfl (l' := #[.val (.ref r0), .val (.int (2 : Int32)), .val (.int p2), .val (.int (if u1 < p2 then u1 else p2))]) rfl k) ?_
  show Good p e below _ (T3.setTop (mkF m 13 #[.val (.ref r0), .val (.int (2 : Int32)), .val (.int p2), .val (.int (if u1 < p2 then u1 else p2))] []))
  refine Good.back (fun _ k => XS.aloadN X3.here hx rfl (hb hby own_d8_13) rfl rfl k) ?_
  show Good p e below _ (T3.setTop (mkF m 14 #[.val (.ref r0), .val (.int (2 : Int32)), .val (.int p2), .val (.int (if u1 < p2 then u1 else p2))] [(.ref r0)]))
  obtain ⟨T4, X4, e4, st4⟩ := getF X3 hx hZ hown (host := "") (Or.inl (hw _ (List.mem_of_getElem? (i := 13) rfl))) Via.refl eh3 F_held (g := (mkF m 14 #[.val (.ref r0), .val (.int (2 : Int32)), .val (.int p2), .val (.int (if u1 < p2 then u1 else p2))] [(.ref r0)])) rfl rfl (hb hby own_d8_14)
  refine Good.back st4 ?_
  show Good p e below _ (T4.setTop (mkF m 17 #[.val (.ref r0), .val (.int (2 : Int32)), .val (.int p2), .val (.int (if u1 < p2 then u1 else p2))] [(.ref ar)]))
  refine Good.back (fun _ k => XS.iloadN X4.here hx rfl (hb hby own_d8_17) rfl k) ?_
  show Good p e below _ (T4.setTop (mkF m 18 #[.val (.ref r0), .val (.int (2 : Int32)), .val (.int p2), .val (.int (if u1 < p2 then u1 else p2))] [(.int (2 : Int32)), (.ref ar)]))
  refine Good.back (fun _ k => XS.iconst X4.here hx rfl (hb hby own_d8_18) k) ?_
  show Good p e below _ (T4.setTop (mkF m 19 #[.val (.ref r0), .val (.int (2 : Int32)), .val (.int p2), .val (.int (if u1 < p2 then u1 else p2))] [(.int (1 : Int32)), (.int (2 : Int32)), (.ref ar)]))
  refine Good.back (fun _ k => XS.isub X4.here hx rfl (hb hby own_d8_19) rfl k) ?_
  show Good p e below _ (T4.setTop (mkF m 20 #[.val (.ref r0), .val (.int (2 : Int32)), .val (.int p2), .val (.int (if u1 < p2 then u1 else p2))] [(.int ((2 : Int32) - (1 : Int32))), (.ref ar)]))
  rw [show (((2 : Int32) - (1 : Int32)) : Int32) = (1 : Int32) from by decide]
  show Good p e below _ (T4.setTop (mkF m 20 #[.val (.ref r0), .val (.int (2 : Int32)), .val (.int p2), .val (.int (if u1 < p2 then u1 else p2))] [(.int (1 : Int32)), (.ref ar)]))
  refine Good.back (fun _ k => Jvm.Free.XT.dup2 X4.here hx rfl (hb hby own_d8_20) rfl rfl rfl k) ?_
  show Good p e below _ (T4.setTop (mkF m 21 #[.val (.ref r0), .val (.int (2 : Int32)), .val (.int p2), .val (.int (if u1 < p2 then u1 else p2))] [(.int (1 : Int32)), (.ref ar), (.int (1 : Int32)), (.ref ar)]))
  have fc5 := V0
  obtain ⟨cl5, Ar5, q5, S5, N5', H5, G5⟩ := fc5
  have hin5 : ¬ ((1 : Int32) < 0 ∨ cl5.slots.size ≤ ((1 : Int32)).toNatClampNeg) := inb_of S5 ⟨by decide, by decide⟩
  have hat5 : cl5.slots[((1 : Int32)).toNatClampNeg]? = some (.int u1) := Has.at H5 hin5 rfl
  refine Good.back (X4.iaload hx (j := (1 : Int32)) (v := (.int u1)) (by rw [e4]; exact Ar5.1) (State.isArrayOf_alike hZ.alike Ar5.2.1) Ar5.2.2 hin5 hat5 (g := (mkF m 21 #[.val (.ref r0), .val (.int (2 : Int32)), .val (.int p2), .val (.int (if u1 < p2 then u1 else p2))] [(.int (1 : Int32)), (.ref ar), (.int (1 : Int32)), (.ref ar)])) rfl rfl (hb hby own_d8_21)) ?_
  show Good p e below _ (T4.setTop (mkF m 22 #[.val (.ref r0), .val (.int (2 : Int32)), .val (.int p2), .val (.int (if u1 < p2 then u1 else p2))] [(.int u1), (.int (1 : Int32)), (.ref ar)]))
  refine Good.back (fun _ k => XS.iloadN X4.here hx rfl (hb hby own_d8_22) rfl k) ?_
  show Good p e below _ (T4.setTop (mkF m 23 #[.val (.ref r0), .val (.int (2 : Int32)), .val (.int p2), .val (.int (if u1 < p2 then u1 else p2))] [(.int (if u1 < p2 then u1 else p2)), (.int u1), (.int (1 : Int32)), (.ref ar)]))
  refine Good.back (fun _ k => XS.isub X4.here hx rfl (hb hby own_d8_23) rfl k) ?_
  show Good p e below _ (T4.setTop (mkF m 24 #[.val (.ref r0), .val (.int (2 : Int32)), .val (.int p2), .val (.int (if u1 < p2 then u1 else p2))] [(.int (u1 - (if u1 < p2 then u1 else p2))), (.int (1 : Int32)), (.ref ar)]))
  have fc6 := V0
  obtain ⟨cl6, Ar6, q6, S6, N6', H6, G6⟩ := fc6
  have hin6 : ¬ ((1 : Int32) < 0 ∨ cl6.slots.size ≤ ((1 : Int32)).toNatClampNeg) := inb_of S6 ⟨by decide, by decide⟩
  obtain ⟨T6, h6, X6, e6, W6, st6⟩ := stI X4 hx hZ e4 Ar6 (j := (1 : Int32)) hin6 (g := (mkF m 24 #[.val (.ref r0), .val (.int (2 : Int32)), .val (.int p2), .val (.int (if u1 < p2 then u1 else p2))] [(.int (u1 - (if u1 < p2 then u1 else p2))), (.int (1 : Int32)), (.ref ar)])) rfl rfl (hb hby own_d8_24)
  refine Good.back st6 ?_
  have f_7 : Arv Z h6 ar kk .int (2 : Int32) [(.int u0), (.int (u1 - (if u1 < p2 then u1 else p2)))] (.int (0 : Int32)) := Arv.set Ar6 q6 S6 N6' H6 G6 rfl W6 1 rfl (Nat.le_of_ble_eq_true rfl)
  have N6 := Fr.snoc X6 N3 ga
  have Z8 : n0 ≤ h6.size := Nat.le_trans Z0 (Keep.of_wr W6).1
  have K9 : Keep h0 h6 [ar, r0] := KR.wr W6 (Or.inl (List.mem_of_getElem? (i := 0) rfl))
  show Good p e below _ (T6.setTop (mkF m 25 #[.val (.ref r0), .val (.int (2 : Int32)), .val (.int p2), .val (.int (if u1 < p2 then u1 else p2))] []))
  refine Good.back (fun _ k => XS.aloadN X6.here hx rfl (hb hby own_d8_25) rfl rfl k) ?_
  show Good p e below _ (T6.setTop (mkF m 26 #[.val (.ref r0), .val (.int (2 : Int32)), .val (.int p2), .val (.int (if u1 < p2 then u1 else p2))] [(.ref r0)]))
  refine Good.back (fun _ k => XS.dup X6.here hx rfl (hb hby own_d8_26) rfl rfl k) ?_
  show Good p e below _ (T6.setTop (mkF m 27 #[.val (.ref r0), .val (.int (2 : Int32)), .val (.int p2), .val (.int (if u1 < p2 then u1 else p2))] [(.ref r0), (.ref r0)]))
  have f_10 : Fld Z h6 r0 "org/ludarium/games/sabacc/Chips" "sabaccPot" "I" (.int w) := Fld.other W6 F_pot (Or.inl hne)
  obtain ⟨T11, X11, e11, st11⟩ := getF X6 hx hZ hown (host := "") (Or.inl (hw _ (List.mem_of_getElem? (i := 15) rfl))) Via.refl e6 f_10 (g := (mkF m 27 #[.val (.ref r0), .val (.int (2 : Int32)), .val (.int p2), .val (.int (if u1 < p2 then u1 else p2))] [(.ref r0), (.ref r0)])) rfl rfl (hb hby own_d8_27)
  refine Good.back st11 ?_
  show Good p e below _ (T11.setTop (mkF m 30 #[.val (.ref r0), .val (.int (2 : Int32)), .val (.int p2), .val (.int (if u1 < p2 then u1 else p2))] [(.int w), (.ref r0)]))
  refine Good.back (fun _ k => XS.iloadN X11.here hx rfl (hb hby own_d8_30) rfl k) ?_
  show Good p e below _ (T11.setTop (mkF m 31 #[.val (.ref r0), .val (.int (2 : Int32)), .val (.int p2), .val (.int (if u1 < p2 then u1 else p2))] [(.int (if u1 < p2 then u1 else p2)), (.int w), (.ref r0)]))
  refine Good.back (fun _ k => XS.iadd X11.here hx rfl (hb hby own_d8_31) rfl k) ?_
  show Good p e below _ (T11.setTop (mkF m 32 #[.val (.ref r0), .val (.int (2 : Int32)), .val (.int p2), .val (.int (if u1 < p2 then u1 else p2))] [(.int (w + (if u1 < p2 then u1 else p2))), (.ref r0)]))
  have f_12 : Exa Z h6 r0 "org/ludarium/games/sabacc/Chips" := Exa.wr W6 E0
  obtain ⟨T13, h13, X13, e13, W13, st13⟩ := putF X11 hx hZ hown (host := "") (Or.inl (hw _ (List.mem_of_getElem? (i := 15) rfl))) Via.refl e11 f_10 f_12 (Or.inl (hw _ (List.mem_of_getElem? (i := 16) rfl))) (hw _ (List.mem_of_getElem? (i := 1) rfl)) (ty := .int) (by decide) rfl rfl (g := (mkF m 32 #[.val (.ref r0), .val (.int (2 : Int32)), .val (.int p2), .val (.int (if u1 < p2 then u1 else p2))] [(.int (w + (if u1 < p2 then u1 else p2))), (.ref r0)])) rfl rfl (hb hby own_d8_32)
  refine Good.back st13 ?_
  have f_14 : Fld Z h13 r0 "org/ludarium/games/sabacc/Chips" "sabaccPot" "I" (.int (w + (if u1 < p2 then u1 else p2))) := Fld.same W13 f_10
  have N13 := Fr.snoc X13 N6 g0
  have Z15 : n0 ≤ h13.size := Nat.le_trans Z8 (Keep.of_wr W13).1
  have K16 : Keep h0 h13 [ar, r0] := K9.wr W13 (Or.inl (List.mem_of_getElem? (i := 1) rfl))
  show Good p e below _ (T13.setTop (mkF m 35 #[.val (.ref r0), .val (.int (2 : Int32)), .val (.int p2), .val (.int (if u1 < p2 then u1 else p2))] []))
  obtain ⟨fs17, hr17, hrun17, hended17, hW17, hsame17⟩ := X13.leave (v := none) (fun _ => rfl)
  refine Good.done (X13.returnOut hx Bd.returns (hb hby own_d8_35) hr17) hrun17 hended17 ⟨_, _, rfl, ?_, ⟨_, rfl⟩, hW17, hsame17.mono (by decide) (by decide)⟩
  show Q8_2_2 Z r0 p2 ar w kk u0 u1 h0 n0 _ T13.heap _
  rw [e13]
  have f_18 : Arv Z h13 ar kk .int (2 : Int32) [(.int u0), (.int (u1 - (if u1 < p2 then u1 else p2)))] (.int (0 : Int32)) := Arv.other f_7 W13 (Ne.symm hne)
  have f_19 : Fld Z h6 r0 "org/ludarium/games/sabacc/Chips" "held" "[I" (.ref ar) := Fld.other W6 F_held (Or.inl hne)
  have f_20 : Fld Z h13 r0 "org/ludarium/games/sabacc/Chips" "held" "[I" (.ref ar) := Fld.other W13 f_19 (Or.inr (slot_ne (Or.inr (hw _ (List.mem_of_getElem? (i := 14) rfl))) (Or.inl (hw _ (List.mem_of_getElem? (i := 16) rfl))) (by decide) (t := (.array .int)) (t' := .int) (by decide) (by decide)))
  exact ⟨rfl, N13, K16, f_18, f_20, f_14⟩
theorem own_ef_10_2_2 (m : MethodId) (x0 : Addr) (x1 : Int32) : entryFrame m #[(.ref x0), (.int x1)] 2 = mkF m 0 #[.val (.ref x0), .val (.int x1)] [] := by first | (simp [entryFrame, mkF, argsToLocals, Value.category]; done) | rfl
def Q10_2_2 (Z : State) (r0 : Addr) (ar : Addr) (kk : ClassId) (u0 : Int32) (u1 : Int32) (h0 : Heap) (n0 : Nat) (v : Option Value) (h : Heap) (L : List Loc) : Prop := v = some (.int u1) ∧ Fr n0 L ∧ h = h0
set_option maxRecDepth 65536 in
set_option maxHeartbeats 40000000 in
theorem rm10_2_2 (l : Launch) (Z : State) (a0 : Array Value) (hw : ∀ d ∈ tables_1, d.before a0 Z = true) (ws : List Jvm.Cond) (r0 : Addr) (ar : Addr) (kk : ClassId) (u0 : Int32) (u1 : Int32) (h0 : Heap) (n0 : Nat) (Z0 : n0 ≤ h0.size) (F_held : Fld Z h0 r0 "org/ludarium/games/sabacc/Chips" "held" "[I" (.ref ar)) (V0 : Arv Z h0 ar kk .int (2 : Int32) [(.int u0), (.int u1)] (.int (0 : Int32))) :
    MetFree l (⟨"org/ludarium/games/sabacc/Chips", "held", "(I)I"⟩ : MethodName) (head1 (Jvm.Cond.code (⟨"org/ludarium/games/sabacc/Chips", "held", "(I)I"⟩ : MethodName) prog_13_method_5_code 2 (some .int) :: ws) ({ frames := 0, cells := 0, slots := 0, locals := 0 } : Room)) (fun a U => a = #[(.ref r0), (.int (2 : Int32))] ∧ Z.Warmed39 U.vm ∧ U.heap = h0) (fun _ _ _ _ _ => True) (fun _ U o U' => ∃ v L, o = .returned v ∧ Q10_2_2 Z r0 ar kk u0 u1 h0 n0 v U'.heap L ∧ FrameEnd U o U' L ({ frames := 0, cells := 0, slots := 0, locals := 0 } : Room).cells ({ frames := 0, cells := 0, slots := 0, locals := 0 } : Room).slots) := by
  refine MetFree.of_bodySF (plainFor_of_name own_pn0) hisR ?_
  intro p e s m args below meth c s₁ Bd hml0 hP hK
  obtain ⟨rfl, hZ, hh⟩ := hP
  have hx := Bd.exec
  have hby := Bd.bytes
  have hml : c.maxLocals = 2 := hml0
  have hown : s.vm.findClass "org/ludarium/games/sabacc/Chips" = some m.cls := findClass_of_methodNamed Bd.named
  have hnm := (name_of_methodNamed Bd.named Bd.method).1
  have X0 : Stand p l e ({ frames := 0, cells := 0, slots := 0, locals := 0 } : Room) s m #[(.ref r0), (.int (2 : Int32))] below meth c s₁ [] 0 0 := Stand.of_body Bd
  have e0 : s₁.heap = h0 := by rw [← hh, Bd.state]; rfl
  have N0 := Fr.nil n0
  show Good p e below (fun o U' => ∃ v L, o = .returned v ∧ Q10_2_2 Z r0 ar kk u0 u1 h0 n0 v U'.heap L ∧ FrameEnd s o U' L ({ frames := 0, cells := 0, slots := 0, locals := 0 } : Room).cells ({ frames := 0, cells := 0, slots := 0, locals := 0 } : Room).slots) _
  refine Good.back (S' := s₁.setTop (mkF m 0 #[.val (.ref r0), .val (.int (2 : Int32))] [])) (fun t k => castTop (own_ef_10_2_2 m r0 (2 : Int32)) k) ?_
  show Good p e below _ (s₁.setTop (mkF m 0 #[.val (.ref r0), .val (.int (2 : Int32))] []))
  refine Good.back (fun _ k => XS.aloadN X0.here hx rfl (hb hby own_d10_0) rfl rfl k) ?_
  show Good p e below _ (s₁.setTop (mkF m 1 #[.val (.ref r0), .val (.int (2 : Int32))] [(.ref r0)]))
  obtain ⟨T1, X1, e1, st1⟩ := getF X0 hx hZ hown (host := "") (Or.inl (hw _ (List.mem_of_getElem? (i := 13) rfl))) Via.refl e0 F_held (g := (mkF m 1 #[.val (.ref r0), .val (.int (2 : Int32))] [(.ref r0)])) rfl rfl (hb hby own_d10_1)
  refine Good.back st1 ?_
  show Good p e below _ (T1.setTop (mkF m 4 #[.val (.ref r0), .val (.int (2 : Int32))] [(.ref ar)]))
  refine Good.back (fun _ k => XS.iloadN X1.here hx rfl (hb hby own_d10_4) rfl k) ?_
  show Good p e below _ (T1.setTop (mkF m 5 #[.val (.ref r0), .val (.int (2 : Int32))] [(.int (2 : Int32)), (.ref ar)]))
  refine Good.back (fun _ k => XS.iconst X1.here hx rfl (hb hby own_d10_5) k) ?_
  show Good p e below _ (T1.setTop (mkF m 6 #[.val (.ref r0), .val (.int (2 : Int32))] [(.int (1 : Int32)), (.int (2 : Int32)), (.ref ar)]))
  refine Good.back (fun _ k => XS.isub X1.here hx rfl (hb hby own_d10_6) rfl k) ?_
  show Good p e below _ (T1.setTop (mkF m 7 #[.val (.ref r0), .val (.int (2 : Int32))] [(.int ((2 : Int32) - (1 : Int32))), (.ref ar)]))
  rw [show (((2 : Int32) - (1 : Int32)) : Int32) = (1 : Int32) from by decide]
  show Good p e below _ (T1.setTop (mkF m 7 #[.val (.ref r0), .val (.int (2 : Int32))] [(.int (1 : Int32)), (.ref ar)]))
  have fc2 := V0
  obtain ⟨cl2, Ar2, q2, S2, N2', H2, G2⟩ := fc2
  have hin2 : ¬ ((1 : Int32) < 0 ∨ cl2.slots.size ≤ ((1 : Int32)).toNatClampNeg) := inb_of S2 ⟨by decide, by decide⟩
  have hat2 : cl2.slots[((1 : Int32)).toNatClampNeg]? = some (.int u1) := Has.at H2 hin2 rfl
  refine Good.back (X1.iaload hx (j := (1 : Int32)) (v := (.int u1)) (by rw [e1]; exact Ar2.1) (State.isArrayOf_alike hZ.alike Ar2.2.1) Ar2.2.2 hin2 hat2 (g := (mkF m 7 #[.val (.ref r0), .val (.int (2 : Int32))] [(.int (1 : Int32)), (.ref ar)])) rfl rfl (hb hby own_d10_7)) ?_
  show Good p e below _ (T1.setTop (mkF m 8 #[.val (.ref r0), .val (.int (2 : Int32))] [(.int u1)]))
  obtain ⟨fs3, hr3, hrun3, hended3, hW3, hsame3⟩ := X1.leave (v := some (.int u1)) (fun h => by rw [Bd.returns] at h; cases h)
  refine Good.done (retI X1 hx Bd.returns (hb hby own_d10_8) hr3) hrun3 hended3 ⟨_, _, rfl, ?_, ⟨_, rfl⟩, hW3, hsame3.mono (by decide) (by decide)⟩
  show Q10_2_2 Z r0 ar kk u0 u1 h0 n0 _ T1.heap _
  rw [e1]
  exact ⟨rfl, N0, rfl⟩
theorem own_ef_4_3 (m : MethodId) (x0 : Addr) (x1 : Int32) : entryFrame m #[(.ref x0), (.int x1)] 4 = mkF m 0 #[.val (.ref x0), .val (.int x1), .unset, .unset] [] := by first | (simp [entryFrame, mkF, argsToLocals, Value.category]; done) | rfl
def Q4_3 (Z : State) (r0 : Addr) (p1 : Int32) (kk : ClassId) (u0 : Int32) (u1 : Int32) (u2 : Int32) (h0 : Heap) (n0 : Nat) (v : Option Value) (h : Heap) (L : List Loc) : Prop := v = none ∧ Fr n0 L ∧ Keep h0 h [r0] ∧ Arv Z h r0 kk .int (3 : Int32) [(.int p1), (.int p1), (.int p1)] (.int (0 : Int32))
set_option maxRecDepth 65536 in
set_option maxHeartbeats 40000000 in
theorem rm4_3 (l : Launch) (Z : State) (a0 : Array Value) (hw : ∀ d ∈ tables_1, d.before a0 Z = true) (ws : List Jvm.Cond) (r0 : Addr) (p1 : Int32) (kk : ClassId) (u0 : Int32) (u1 : Int32) (u2 : Int32) (h0 : Heap) (n0 : Nat) (Z0 : n0 ≤ h0.size) (V0 : Arv Z h0 r0 kk .int (3 : Int32) [(.int u0), (.int u1), (.int u2)] (.int (0 : Int32))) (g0 : n0 ≤ r0) :
    MetFree l (⟨"java/util/Arrays", "fill", "([II)V"⟩ : MethodName) (head1 (Jvm.Cond.code (⟨"java/util/Arrays", "fill", "([II)V"⟩ : MethodName) jdk_65_method_103_code 4 none :: ws) ({ frames := 0, cells := 0, slots := 0, locals := 0 } : Room)) (fun a U => a = #[(.ref r0), (.int p1)] ∧ Z.Warmed39 U.vm ∧ U.heap = h0) (fun _ _ _ _ _ => True) (fun _ U o U' => ∃ v L, o = .returned v ∧ Q4_3 Z r0 p1 kk u0 u1 u2 h0 n0 v U'.heap L ∧ FrameEnd U o U' L ({ frames := 0, cells := 0, slots := 0, locals := 0 } : Room).cells ({ frames := 0, cells := 0, slots := 0, locals := 0 } : Room).slots) := by
  refine MetFree.of_bodySF (plainFor_of_name own_pn1) hisR ?_
  intro p e s m args below meth c s₁ Bd hml0 hP hK
  obtain ⟨rfl, hZ, hh⟩ := hP
  have hx := Bd.exec
  have hby := Bd.bytes
  have hml : c.maxLocals = 4 := hml0
  have hown : s.vm.findClass "java/util/Arrays" = some m.cls := findClass_of_methodNamed Bd.named
  have hnm := (name_of_methodNamed Bd.named Bd.method).1
  have X0 : Stand p l e ({ frames := 0, cells := 0, slots := 0, locals := 0 } : Room) s m #[(.ref r0), (.int p1)] below meth c s₁ [] 0 0 := Stand.of_body Bd
  have e0 : s₁.heap = h0 := by rw [← hh, Bd.state]; rfl
  have N0 := Fr.nil n0
  have KR : Keep h0 h0 [r0] := Keep.refl h0 _
  show Good p e below (fun o U' => ∃ v L, o = .returned v ∧ Q4_3 Z r0 p1 kk u0 u1 u2 h0 n0 v U'.heap L ∧ FrameEnd s o U' L ({ frames := 0, cells := 0, slots := 0, locals := 0 } : Room).cells ({ frames := 0, cells := 0, slots := 0, locals := 0 } : Room).slots) _
  refine Good.back (S' := s₁.setTop (mkF m 0 #[.val (.ref r0), .val (.int p1), .unset, .unset] [])) (fun t k => castTop (own_ef_4_3 m r0 p1) k) ?_
  show Good p e below _ (s₁.setTop (mkF m 0 #[.val (.ref r0), .val (.int p1), .unset, .unset] []))
  refine Good.back (fun _ k => XS.iconst X0.here hx rfl (hb hby own_d4_0) k) ?_
  show Good p e below _ (s₁.setTop (mkF m 1 #[.val (.ref r0), .val (.int p1), .unset, .unset] [(.int (0 : Int32))]))
  refine Good.back (fun _ k => XS.istoreN X0.here hx rfl (hb hby own_d4_1) rfl (l' := #[.val (.ref r0), .val (.int p1), .val (.int (0 : Int32)), .unset]) rfl k) ?_
  show Good p e below _ (s₁.setTop (mkF m 2 #[.val (.ref r0), .val (.int p1), .val (.int (0 : Int32)), .unset] []))
  refine Good.back (fun _ k => XS.aloadN X0.here hx rfl (hb hby own_d4_2) rfl rfl k) ?_
  show Good p e below _ (s₁.setTop (mkF m 3 #[.val (.ref r0), .val (.int p1), .val (.int (0 : Int32)), .unset] [(.ref r0)]))
  have fc1 := V0
  obtain ⟨cl1, Ar1, q1, S1, N1', H1, G1⟩ := fc1
  refine Good.back (X0.arraylength hx (by rw [e0]; exact Ar1.1) (State.isArrayOf_alike hZ.alike Ar1.2.1) (g := (mkF m 3 #[.val (.ref r0), .val (.int p1), .val (.int (0 : Int32)), .unset] [(.ref r0)])) rfl rfl (hb hby own_d4_3)) ?_
  rw [len_of S1 N1']
  show Good p e below _ (s₁.setTop (mkF m 4 #[.val (.ref r0), .val (.int p1), .val (.int (0 : Int32)), .unset] [(.int (3 : Int32))]))
  refine Good.back (fun _ k => XS.istoreN X0.here hx rfl (hb hby own_d4_4) rfl (l' := #[.val (.ref r0), .val (.int p1), .val (.int (0 : Int32)), .val (.int (3 : Int32))]) rfl k) ?_
  show Good p e below _ (s₁.setTop (mkF m 5 #[.val (.ref r0), .val (.int p1), .val (.int (0 : Int32)), .val (.int (3 : Int32))] []))
  refine Good.back (fun _ k => XS.iloadN X0.here hx rfl (hb hby own_d4_5) rfl k) ?_
  show Good p e below _ (s₁.setTop (mkF m 6 #[.val (.ref r0), .val (.int p1), .val (.int (0 : Int32)), .val (.int (3 : Int32))] [(.int (0 : Int32))]))
  refine Good.back (fun _ k => XS.iloadN X0.here hx rfl (hb hby own_d4_6) rfl k) ?_
  show Good p e below _ (s₁.setTop (mkF m 7 #[.val (.ref r0), .val (.int p1), .val (.int (0 : Int32)), .val (.int (3 : Int32))] [(.int (3 : Int32)), (.int (0 : Int32))]))
  refine Good.back (fun _ k => XS.icmpNo X0.here hx rfl (hb hby own_d4_7) rfl (tlt (by decide : ((0 : Int32) < (3 : Int32)))).2.1 k) ?_
  show Good p e below _ (s₁.setTop (mkF m 10 #[.val (.ref r0), .val (.int p1), .val (.int (0 : Int32)), .val (.int (3 : Int32))] []))
  refine Good.back (fun _ k => XS.aloadN X0.here hx rfl (hb hby own_d4_10) rfl rfl k) ?_
  show Good p e below _ (s₁.setTop (mkF m 11 #[.val (.ref r0), .val (.int p1), .val (.int (0 : Int32)), .val (.int (3 : Int32))] [(.ref r0)]))
  refine Good.back (fun _ k => XS.iloadN X0.here hx rfl (hb hby own_d4_11) rfl k) ?_
  show Good p e below _ (s₁.setTop (mkF m 12 #[.val (.ref r0), .val (.int p1), .val (.int (0 : Int32)), .val (.int (3 : Int32))] [(.int (0 : Int32)), (.ref r0)]))
  refine Good.back (fun _ k => XS.iloadN X0.here hx rfl (hb hby own_d4_12) rfl k) ?_
  show Good p e below _ (s₁.setTop (mkF m 13 #[.val (.ref r0), .val (.int p1), .val (.int (0 : Int32)), .val (.int (3 : Int32))] [(.int p1), (.int (0 : Int32)), (.ref r0)]))
  have fc2 := V0
  obtain ⟨cl2, Ar2, q2, S2, N2', H2, G2⟩ := fc2
  have hin2 : ¬ ((0 : Int32) < 0 ∨ cl2.slots.size ≤ ((0 : Int32)).toNatClampNeg) := inb_of S2 ⟨by decide, by decide⟩
  obtain ⟨T2, h2, X2, e2, W2, st2⟩ := stI X0 hx hZ e0 Ar2 (j := (0 : Int32)) hin2 (g := (mkF m 13 #[.val (.ref r0), .val (.int p1), .val (.int (0 : Int32)), .val (.int (3 : Int32))] [(.int p1), (.int (0 : Int32)), (.ref r0)])) rfl rfl (hb hby own_d4_13)
  refine Good.back st2 ?_
  have f_3 : Arv Z h2 r0 kk .int (3 : Int32) [(.int p1), (.int u1), (.int u2)] (.int (0 : Int32)) := Arv.set Ar2 q2 S2 N2' H2 G2 rfl W2 0 rfl (Nat.le_of_ble_eq_true rfl)
  have N2 := Fr.snoc X2 N0 g0
  have Z4 : n0 ≤ h2.size := Nat.le_trans Z0 (Keep.of_wr W2).1
  have K5 : Keep h0 h2 [r0] := KR.wr W2 (Or.inl (List.mem_of_getElem? (i := 0) rfl))
  show Good p e below _ (T2.setTop (mkF m 14 #[.val (.ref r0), .val (.int p1), .val (.int (0 : Int32)), .val (.int (3 : Int32))] []))
  refine Good.back (fun _ k => XS.iinc X2.here hx rfl (hb hby own_d4_14) rfl (l' := #[.val (.ref r0), .val (.int p1), .val (.int ((0 : Int32) + (1 : Int32))), .val (.int (3 : Int32))]) rfl k) ?_
  show Good p e below _ (T2.setTop (mkF m 17 #[.val (.ref r0), .val (.int p1), .val (.int ((0 : Int32) + (1 : Int32))), .val (.int (3 : Int32))] []))
  rw [show (((0 : Int32) + (1 : Int32)) : Int32) = (1 : Int32) from by decide]
  show Good p e below _ (T2.setTop (mkF m 17 #[.val (.ref r0), .val (.int p1), .val (.int (1 : Int32)), .val (.int (3 : Int32))] []))
  refine Good.back (fun _ k => XS.goto X2.here hx rfl (pc0 := 17) (pc' := 5) rfl (hb hby own_d4_17) (by decide) (by decide) k) ?_
  show Good p e below _ (T2.setTop (mkF m 5 #[.val (.ref r0), .val (.int p1), .val (.int (1 : Int32)), .val (.int (3 : Int32))] []))
  refine Good.back (fun _ k => XS.iloadN X2.here hx rfl (hb hby own_d4_5) rfl k) ?_
  show Good p e below _ (T2.setTop (mkF m 6 #[.val (.ref r0), .val (.int p1), .val (.int (1 : Int32)), .val (.int (3 : Int32))] [(.int (1 : Int32))]))
  refine Good.back (fun _ k => XS.iloadN X2.here hx rfl (hb hby own_d4_6) rfl k) ?_
  show Good p e below _ (T2.setTop (mkF m 7 #[.val (.ref r0), .val (.int p1), .val (.int (1 : Int32)), .val (.int (3 : Int32))] [(.int (3 : Int32)), (.int (1 : Int32))]))
  refine Good.back (fun _ k => XS.icmpNo X2.here hx rfl (hb hby own_d4_7) rfl (tlt (by decide : ((1 : Int32) < (3 : Int32)))).2.1 k) ?_
  show Good p e below _ (T2.setTop (mkF m 10 #[.val (.ref r0), .val (.int p1), .val (.int (1 : Int32)), .val (.int (3 : Int32))] []))
  refine Good.back (fun _ k => XS.aloadN X2.here hx rfl (hb hby own_d4_10) rfl rfl k) ?_
  show Good p e below _ (T2.setTop (mkF m 11 #[.val (.ref r0), .val (.int p1), .val (.int (1 : Int32)), .val (.int (3 : Int32))] [(.ref r0)]))
  refine Good.back (fun _ k => XS.iloadN X2.here hx rfl (hb hby own_d4_11) rfl k) ?_
  show Good p e below _ (T2.setTop (mkF m 12 #[.val (.ref r0), .val (.int p1), .val (.int (1 : Int32)), .val (.int (3 : Int32))] [(.int (1 : Int32)), (.ref r0)]))
  refine Good.back (fun _ k => XS.iloadN X2.here hx rfl (hb hby own_d4_12) rfl k) ?_
  show Good p e below _ (T2.setTop (mkF m 13 #[.val (.ref r0), .val (.int p1), .val (.int (1 : Int32)), .val (.int (3 : Int32))] [(.int p1), (.int (1 : Int32)), (.ref r0)]))
  have fc6 := f_3
  obtain ⟨cl6, Ar6, q6, S6, N6', H6, G6⟩ := fc6
  have hin6 : ¬ ((1 : Int32) < 0 ∨ cl6.slots.size ≤ ((1 : Int32)).toNatClampNeg) := inb_of S6 ⟨by decide, by decide⟩
  obtain ⟨T6, h6, X6, e6, W6, st6⟩ := stI X2 hx hZ e2 Ar6 (j := (1 : Int32)) hin6 (g := (mkF m 13 #[.val (.ref r0), .val (.int p1), .val (.int (1 : Int32)), .val (.int (3 : Int32))] [(.int p1), (.int (1 : Int32)), (.ref r0)])) rfl rfl (hb hby own_d4_13)
  refine Good.back st6 ?_
  have f_7 : Arv Z h6 r0 kk .int (3 : Int32) [(.int p1), (.int p1), (.int u2)] (.int (0 : Int32)) := Arv.set Ar6 q6 S6 N6' H6 G6 rfl W6 1 rfl (Nat.le_of_ble_eq_true rfl)
  have N6 := Fr.snoc X6 N2 g0
  have Z8 : n0 ≤ h6.size := Nat.le_trans Z4 (Keep.of_wr W6).1
  have K9 : Keep h0 h6 [r0] := K5.wr W6 (Or.inl (List.mem_of_getElem? (i := 0) rfl))
  show Good p e below _ (T6.setTop (mkF m 14 #[.val (.ref r0), .val (.int p1), .val (.int (1 : Int32)), .val (.int (3 : Int32))] []))
  refine Good.back (fun _ k => XS.iinc X6.here hx rfl (hb hby own_d4_14) rfl (l' := #[.val (.ref r0), .val (.int p1), .val (.int ((1 : Int32) + (1 : Int32))), .val (.int (3 : Int32))]) rfl k) ?_
  show Good p e below _ (T6.setTop (mkF m 17 #[.val (.ref r0), .val (.int p1), .val (.int ((1 : Int32) + (1 : Int32))), .val (.int (3 : Int32))] []))
  rw [show (((1 : Int32) + (1 : Int32)) : Int32) = (2 : Int32) from by decide]
  show Good p e below _ (T6.setTop (mkF m 17 #[.val (.ref r0), .val (.int p1), .val (.int (2 : Int32)), .val (.int (3 : Int32))] []))
  refine Good.back (fun _ k => XS.goto X6.here hx rfl (pc0 := 17) (pc' := 5) rfl (hb hby own_d4_17) (by decide) (by decide) k) ?_
  show Good p e below _ (T6.setTop (mkF m 5 #[.val (.ref r0), .val (.int p1), .val (.int (2 : Int32)), .val (.int (3 : Int32))] []))
  refine Good.back (fun _ k => XS.iloadN X6.here hx rfl (hb hby own_d4_5) rfl k) ?_
  show Good p e below _ (T6.setTop (mkF m 6 #[.val (.ref r0), .val (.int p1), .val (.int (2 : Int32)), .val (.int (3 : Int32))] [(.int (2 : Int32))]))
  refine Good.back (fun _ k => XS.iloadN X6.here hx rfl (hb hby own_d4_6) rfl k) ?_
  show Good p e below _ (T6.setTop (mkF m 7 #[.val (.ref r0), .val (.int p1), .val (.int (2 : Int32)), .val (.int (3 : Int32))] [(.int (3 : Int32)), (.int (2 : Int32))]))
  refine Good.back (fun _ k => XS.icmpNo X6.here hx rfl (hb hby own_d4_7) rfl (tlt (by decide : ((2 : Int32) < (3 : Int32)))).2.1 k) ?_
  show Good p e below _ (T6.setTop (mkF m 10 #[.val (.ref r0), .val (.int p1), .val (.int (2 : Int32)), .val (.int (3 : Int32))] []))
  refine Good.back (fun _ k => XS.aloadN X6.here hx rfl (hb hby own_d4_10) rfl rfl k) ?_
  show Good p e below _ (T6.setTop (mkF m 11 #[.val (.ref r0), .val (.int p1), .val (.int (2 : Int32)), .val (.int (3 : Int32))] [(.ref r0)]))
  refine Good.back (fun _ k => XS.iloadN X6.here hx rfl (hb hby own_d4_11) rfl k) ?_
  show Good p e below _ (T6.setTop (mkF m 12 #[.val (.ref r0), .val (.int p1), .val (.int (2 : Int32)), .val (.int (3 : Int32))] [(.int (2 : Int32)), (.ref r0)]))
  refine Good.back (fun _ k => XS.iloadN X6.here hx rfl (hb hby own_d4_12) rfl k) ?_
  show Good p e below _ (T6.setTop (mkF m 13 #[.val (.ref r0), .val (.int p1), .val (.int (2 : Int32)), .val (.int (3 : Int32))] [(.int p1), (.int (2 : Int32)), (.ref r0)]))
  have fc10 := f_7
  obtain ⟨cl10, Ar10, q10, S10, N10', H10, G10⟩ := fc10
  have hin10 : ¬ ((2 : Int32) < 0 ∨ cl10.slots.size ≤ ((2 : Int32)).toNatClampNeg) := inb_of S10 ⟨by decide, by decide⟩
  obtain ⟨T10, h10, X10, e10, W10, st10⟩ := stI X6 hx hZ e6 Ar10 (j := (2 : Int32)) hin10 (g := (mkF m 13 #[.val (.ref r0), .val (.int p1), .val (.int (2 : Int32)), .val (.int (3 : Int32))] [(.int p1), (.int (2 : Int32)), (.ref r0)])) rfl rfl (hb hby own_d4_13)
  refine Good.back st10 ?_
  have f_11 : Arv Z h10 r0 kk .int (3 : Int32) [(.int p1), (.int p1), (.int p1)] (.int (0 : Int32)) := Arv.set Ar10 q10 S10 N10' H10 G10 rfl W10 2 rfl (Nat.le_of_ble_eq_true rfl)
  have N10 := Fr.snoc X10 N6 g0
  have Z12 : n0 ≤ h10.size := Nat.le_trans Z8 (Keep.of_wr W10).1
  have K13 : Keep h0 h10 [r0] := K9.wr W10 (Or.inl (List.mem_of_getElem? (i := 0) rfl))
  show Good p e below _ (T10.setTop (mkF m 14 #[.val (.ref r0), .val (.int p1), .val (.int (2 : Int32)), .val (.int (3 : Int32))] []))
  refine Good.back (fun _ k => XS.iinc X10.here hx rfl (hb hby own_d4_14) rfl (l' := #[.val (.ref r0), .val (.int p1), .val (.int ((2 : Int32) + (1 : Int32))), .val (.int (3 : Int32))]) rfl k) ?_
  show Good p e below _ (T10.setTop (mkF m 17 #[.val (.ref r0), .val (.int p1), .val (.int ((2 : Int32) + (1 : Int32))), .val (.int (3 : Int32))] []))
  rw [show (((2 : Int32) + (1 : Int32)) : Int32) = (3 : Int32) from by decide]
  show Good p e below _ (T10.setTop (mkF m 17 #[.val (.ref r0), .val (.int p1), .val (.int (3 : Int32)), .val (.int (3 : Int32))] []))
  refine Good.back (fun _ k => XS.goto X10.here hx rfl (pc0 := 17) (pc' := 5) rfl (hb hby own_d4_17) (by decide) (by decide) k) ?_
  show Good p e below _ (T10.setTop (mkF m 5 #[.val (.ref r0), .val (.int p1), .val (.int (3 : Int32)), .val (.int (3 : Int32))] []))
  refine Good.back (fun _ k => XS.iloadN X10.here hx rfl (hb hby own_d4_5) rfl k) ?_
  show Good p e below _ (T10.setTop (mkF m 6 #[.val (.ref r0), .val (.int p1), .val (.int (3 : Int32)), .val (.int (3 : Int32))] [(.int (3 : Int32))]))
  refine Good.back (fun _ k => XS.iloadN X10.here hx rfl (hb hby own_d4_6) rfl k) ?_
  show Good p e below _ (T10.setTop (mkF m 7 #[.val (.ref r0), .val (.int p1), .val (.int (3 : Int32)), .val (.int (3 : Int32))] [(.int (3 : Int32)), (.int (3 : Int32))]))
  refine Good.back (fun _ k => XS.icmpYes X10.here hx rfl (pc0 := 7) (pc' := 20) rfl (hb hby own_d4_7) rfl (flt (by decide : ¬ ((3 : Int32) < (3 : Int32)))).2.1 (by decide) (by decide) k) ?_
  show Good p e below _ (T10.setTop (mkF m 20 #[.val (.ref r0), .val (.int p1), .val (.int (3 : Int32)), .val (.int (3 : Int32))] []))
  obtain ⟨fs14, hr14, hrun14, hended14, hW14, hsame14⟩ := X10.leave (v := none) (fun _ => rfl)
  refine Good.done (X10.returnOut hx Bd.returns (hb hby own_d4_20) hr14) hrun14 hended14 ⟨_, _, rfl, ?_, ⟨_, rfl⟩, hW14, hsame14.mono (by decide) (by decide)⟩
  show Q4_3 Z r0 p1 kk u0 u1 u2 h0 n0 _ T10.heap _
  rw [e10]
  exact ⟨rfl, N10, K13, f_11⟩
theorem own_ef_1_3 (m : MethodId) (x0 : Addr) (x1 : Int32) (x2 : Int32) : entryFrame m #[(.ref x0), (.int x1), (.int x2)] 3 = mkF m 0 #[.val (.ref x0), .val (.int x1), .val (.int x2)] [] := by first | (simp [entryFrame, mkF, argsToLocals, Value.category]; done) | rfl
def Q1_3 (Z : State) (r0 : Addr) (p2 : Int32) (h0 : Heap) (n0 : Nat) (v : Option Value) (h : Heap) (L : List Loc) : Prop := ∃ (ar : Addr) (kk : ClassId), v = none ∧ Fr n0 L ∧ Keep h0 h [r0] ∧ h0.size ≤ ar ∧ Fld Z h r0 "org/ludarium/games/sabacc/Chips" "held" "[I" (.ref ar) ∧ Fld Z h r0 "org/ludarium/games/sabacc/Chips" "sabaccPot" "I" (.int (0 : Int32)) ∧ Arv Z h ar kk .int (3 : Int32) [(.int p2), (.int p2), (.int p2)] (.int (0 : Int32))
set_option maxRecDepth 65536 in
set_option maxHeartbeats 40000000 in
theorem rm1_3 (l : Launch) (Z : State) (a0 : Array Value) (hw : ∀ d ∈ tables_1, d.before a0 Z = true) (ws : List Jvm.Cond) (r0 : Addr) (p2 : Int32) (h0 : Heap) (n0 : Nat) (Z0 : n0 ≤ h0.size) (E0 : Exa Z h0 r0 "org/ludarium/games/sabacc/Chips") (g0 : n0 ≤ r0) (F_held : Fld Z h0 r0 "org/ludarium/games/sabacc/Chips" "held" "[I" .null) (F_pot : Fld Z h0 r0 "org/ludarium/games/sabacc/Chips" "sabaccPot" "I" (.int (0 : Int32))) :
    MetFree l (⟨"org/ludarium/games/sabacc/Chips", "<init>", "(II)V"⟩ : MethodName) (head1 (Jvm.Cond.code (⟨"org/ludarium/games/sabacc/Chips", "<init>", "(II)V"⟩ : MethodName) prog_13_method_1_code 3 none :: ws) ({ frames := 2, cells := 1, slots := 3, locals := 26 } : Room)) (fun a U => a = #[(.ref r0), (.int (3 : Int32)), (.int p2)] ∧ Z.Warmed39 U.vm ∧ U.heap = h0) (fun _ _ _ _ _ => True) (fun _ U o U' => ∃ v L, o = .returned v ∧ Q1_3 Z r0 p2 h0 n0 v U'.heap L ∧ FrameEnd U o U' L ({ frames := 2, cells := 1, slots := 3, locals := 26 } : Room).cells ({ frames := 2, cells := 1, slots := 3, locals := 26 } : Room).slots) := by
  refine MetFree.of_bodySF (plainFor_of_name own_pn0) hisR ?_
  intro p e s m args below meth c s₁ Bd hml0 hP hK
  obtain ⟨rfl, hZ, hh⟩ := hP
  have hx := Bd.exec
  have hby := Bd.bytes
  have hml : c.maxLocals = 3 := hml0
  have hown : s.vm.findClass "org/ludarium/games/sabacc/Chips" = some m.cls := findClass_of_methodNamed Bd.named
  have hnm := (name_of_methodNamed Bd.named Bd.method).1
  have X0 : Stand p l e ({ frames := 2, cells := 1, slots := 3, locals := 26 } : Room) s m #[(.ref r0), (.int (3 : Int32)), (.int p2)] below meth c s₁ [] 0 0 := Stand.of_body Bd
  have e0 : s₁.heap = h0 := by rw [← hh, Bd.state]; rfl
  have N0 := Fr.nil n0
  have KR : Keep h0 h0 [r0] := Keep.refl h0 _
  show Good p e below (fun o U' => ∃ v L, o = .returned v ∧ Q1_3 Z r0 p2 h0 n0 v U'.heap L ∧ FrameEnd s o U' L ({ frames := 2, cells := 1, slots := 3, locals := 26 } : Room).cells ({ frames := 2, cells := 1, slots := 3, locals := 26 } : Room).slots) _
  refine Good.back (S' := s₁.setTop (mkF m 0 #[.val (.ref r0), .val (.int (3 : Int32)), .val (.int p2)] [])) (fun t k => castTop (own_ef_1_3 m r0 (3 : Int32) p2) k) ?_
  show Good p e below _ (s₁.setTop (mkF m 0 #[.val (.ref r0), .val (.int (3 : Int32)), .val (.int p2)] []))
  refine Good.back (fun _ k => XS.aloadN X0.here hx rfl (hb hby own_d1_0) rfl rfl k) ?_
  show Good p e below _ (s₁.setTop (mkF m 1 #[.val (.ref r0), .val (.int (3 : Int32)), .val (.int p2)] [(.ref r0)]))
  refine Good.back (fun _ k => XS.iloadN X0.here hx rfl (hb hby own_d1_1) rfl k) ?_
  show Good p e below _ (s₁.setTop (mkF m 2 #[.val (.ref r0), .val (.int (3 : Int32)), .val (.int p2)] [(.int (3 : Int32)), (.ref r0)]))
  obtain ⟨T1, h1, k1, X1, e1, E1, A1, st1⟩ := newP X0 hx hZ (hw _ (List.mem_of_getElem? (i := 6) rfl)) e0 (g := (mkF m 2 #[.val (.ref r0), .val (.int (3 : Int32)), .val (.int p2)] [(.int (3 : Int32)), (.ref r0)])) rfl (hb hby own_d1_2) rfl (by decide) (cap := 3) (by decide) (by decide) (by decide) (by decide)
  obtain ⟨b1, g1⟩ : ∃ z, z = h0.size := ⟨_, rfl⟩
  rw [← g1] at A1 st1
  refine Good.back st1 ?_
  have g_b1 : n0 ≤ b1 := Nat.le_trans Z0 (Nat.le_of_eq g1.symm)
  have sz_b1 : h0.size ≤ b1 := Nat.le_trans KR.1 (Nat.le_of_eq g1.symm)
  have Z2 : n0 ≤ h1.size := Nat.le_trans Z0 E1.1
  have K3 : Keep h0 h1 [r0] := KR.ext E1
  have f_4 : Arv Z h1 b1 k1 .int (3 : Int32) [(.int (0 : Int32)), (.int (0 : Int32)), (.int (0 : Int32))] (.int (0 : Int32)) := (Arv.new A1 (by decide)).pad (pad_rep [] (.int (0 : Int32)) 3)
  show Good p e below _ (T1.setTop (mkF m 4 #[.val (.ref r0), .val (.int (3 : Int32)), .val (.int p2)] [(.ref b1), (.ref r0)]))
  refine Good.back (fun _ k => XS.iconst X1.here hx rfl (hb hby own_d1_4) k) ?_
  show Good p e below _ (T1.setTop (mkF m 5 #[.val (.ref r0), .val (.int (3 : Int32)), .val (.int p2)] [(.int (0 : Int32)), (.ref b1), (.ref r0)]))
  have f_6 : Exa Z h1 r0 "org/ludarium/games/sabacc/Chips" := Exa.ext E1 E0
  have f_7 : Fld Z h1 r0 "org/ludarium/games/sabacc/Chips" "held" "[I" .null := Fld.ext E1 F_held
  have f_8 : Fld Z h1 r0 "org/ludarium/games/sabacc/Chips" "sabaccPot" "I" (.int (0 : Int32)) := Fld.ext E1 F_pot
  obtain ⟨_, _, ⟨T5, L5, k5, n5⟩, -, X5, ⟨Lc5, hQ5, l5, y5, z5⟩, st5⟩ := X1.specialBack hx (y := (⟨"org/ludarium/games/sabacc/Chips", "<init>", "([II)V"⟩ : MethodName)) rfl hown (mvT hZ (hw _ (List.mem_of_getElem? (i := 7) rfl))) (mvT hZ (hw _ (List.mem_of_getElem? (i := 8) rfl))) (mvT hZ (hw _ (List.mem_of_getElem? (i := 9) rfl))) (by decide) (backOf (W := 0) (rm2 l Z a0 hw [] r0 b1 (0 : Int32)  h1 n0 Z2 f_6 g0 f_7 f_8) hZ (hw _ (List.mem_of_getElem? (i := 9) rfl)) (hw _ (List.mem_of_getElem? (i := 2) rfl)) (by decide) (by decide)) (g := (mkF m 5 #[.val (.ref r0), .val (.int (3 : Int32)), .val (.int p2)] [(.int (0 : Int32)), (.ref b1), (.ref r0)])) rfl (by rw [hml]; rfl) (Steps.refl _) (a := r0) (argsL := [(.ref b1), (.int (0 : Int32))]) (rest := []) (lenOf own_pd28 rfl) rfl (by show 2 * 0 + _ ≤ _; exact Nat.le_of_eq rfl) (hb hby own_d1_5) (fun _ _ => ⟨rfl, e1, (by decide : 1 + 0 ≤ _), (by decide : 3 + 0 ≤ _)⟩)
  dsimp only [Pt.U, Pt.locs, Pt.cells, Pt.slots] at X5 l5 y5 z5 st5 hQ5
  subst l5 y5 z5
  obtain ⟨rfl, N5q, Kq5, o5_0, o5_1⟩ := hQ5
  have N5 := Fr.app N0 N5q
  have Z9 : n0 ≤ T5.heap.size := Nat.le_trans Z2 Kq5.1
  have K10 : Keep h0 T5.heap [r0] := K3.trans Kq5 (allS (Or.inl (List.mem_of_getElem? (i := 0) rfl)) all0)
  refine Good.back (fun _ k => st5.trans k) ?_
  show Good p e below _ (T5.setTop (mkF m 8 #[.val (.ref r0), .val (.int (3 : Int32)), .val (.int p2)] []))
  refine Good.back (fun _ k => XS.aloadN X5.here hx rfl (hb hby own_d1_8) rfl rfl k) ?_
  show Good p e below _ (T5.setTop (mkF m 9 #[.val (.ref r0), .val (.int (3 : Int32)), .val (.int p2)] [(.ref r0)]))
  obtain ⟨T11, X11, e11, st11⟩ := getF X5 hx hZ hown (host := "") (Or.inl (hw _ (List.mem_of_getElem? (i := 13) rfl))) Via.refl rfl o5_0 (g := (mkF m 9 #[.val (.ref r0), .val (.int (3 : Int32)), .val (.int p2)] [(.ref r0)])) rfl rfl (hb hby own_d1_9)
  refine Good.back st11 ?_
  show Good p e below _ (T11.setTop (mkF m 12 #[.val (.ref r0), .val (.int (3 : Int32)), .val (.int p2)] [(.ref b1)]))
  refine Good.back (fun _ k => XS.iloadN X11.here hx rfl (hb hby own_d1_12) rfl k) ?_
  show Good p e below _ (T11.setTop (mkF m 13 #[.val (.ref r0), .val (.int (3 : Int32)), .val (.int p2)] [(.int p2), (.ref b1)]))
  have ne_r0_b1_14 : r0 ≠ b1 := Nat.ne_of_lt (Nat.lt_of_lt_of_le F_pot.lt (Nat.le_of_eq g1.symm))
  have f_13 : Arv Z T5.heap b1 k1 .int (3 : Int32) [(.int (0 : Int32)), (.int (0 : Int32)), (.int (0 : Int32))] (.int (0 : Int32)) := Arv.keep f_4 Kq5 (ninS (Ne.symm ne_r0_b1_14) nin0)
  obtain ⟨_, _, ⟨T12, L12, k12, n12⟩, -, X12, ⟨Lc12, hQ12, l12, y12, z12⟩, st12⟩ := Jvm.LawKit.callS X11 hx (y := (⟨"java/util/Arrays", "fill", "([II)V"⟩ : MethodName)) hown (mvT hZ (hw _ (List.mem_of_getElem? (i := 17) rfl))) (mvT hZ (hw _ (List.mem_of_getElem? (i := 18) rfl))) (mvT hZ (hw _ (List.mem_of_getElem? (i := 19) rfl))) (mvT hZ (hw _ (List.mem_of_getElem? (i := 20) rfl))) (by decide) (backOf (W := 0) (rm4_3 l Z a0 hw [] b1 p2 k1 (0 : Int32) (0 : Int32) (0 : Int32) T5.heap n0 Z9 f_13 g_b1) hZ (hw _ (List.mem_of_getElem? (i := 20) rfl)) (hw _ (List.mem_of_getElem? (i := 19) rfl)) (by decide) (by decide)) (g := (mkF m 13 #[.val (.ref r0), .val (.int (3 : Int32)), .val (.int p2)] [(.int p2), (.ref b1)])) rfl (by rw [hml]; rfl) (argsL := [(.ref b1), (.int p2)]) (rest := []) (lenOf own_pd28 rfl) rfl (by show 2 * 0 + _ ≤ _; exact Nat.le_of_eq rfl) (hb hby own_d1_13) (fun _ _ => ⟨rfl, e11, (by decide : 1 + 0 ≤ _), (by decide : 3 + 0 ≤ _)⟩)
  dsimp only [Pt.U, Pt.locs, Pt.cells, Pt.slots] at X12 l12 y12 z12 st12 hQ12
  subst l12 y12 z12
  obtain ⟨rfl, N12q, Kq12, o12_0⟩ := hQ12
  have N12 := Fr.app N5 N12q
  have Z15 : n0 ≤ T12.heap.size := Nat.le_trans Z9 Kq12.1
  have K16 : Keep h0 T12.heap [r0] := K10.trans Kq12 (allS (Or.inr sz_b1) all0)
  refine Good.back st12 ?_
  show Good p e below _ (T12.setTop (mkF m 16 #[.val (.ref r0), .val (.int (3 : Int32)), .val (.int p2)] []))
  obtain ⟨fs17, hr17, hrun17, hended17, hW17, hsame17⟩ := X12.leave (v := none) (fun _ => rfl)
  refine Good.done (X12.returnOut hx Bd.returns (hb hby own_d1_16) hr17) hrun17 hended17 ⟨_, _, rfl, ?_, ⟨_, rfl⟩, hW17, hsame17.mono (by decide) (by decide)⟩
  show Q1_3 Z r0 p2 h0 n0 _ T12.heap _
  have f_18 : Fld Z T12.heap r0 "org/ludarium/games/sabacc/Chips" "held" "[I" (.ref b1) := Fld.keep o5_0 Kq12 (ninS ne_r0_b1_14 nin0)
  have f_19 : Fld Z T12.heap r0 "org/ludarium/games/sabacc/Chips" "sabaccPot" "I" (.int (0 : Int32)) := Fld.keep o5_1 Kq12 (ninS ne_r0_b1_14 nin0)
  exact ⟨b1, k1, rfl, N12, K16, sz_b1, f_18, f_19, o12_0⟩
theorem own_ef_6_3 (m : MethodId) (x0 : Addr) : entryFrame m #[(.ref x0)] 7 = mkF m 0 #[.val (.ref x0), .unset, .unset, .unset, .unset, .unset, .unset] [] := by first | (simp [entryFrame, mkF, argsToLocals, Value.category]; done) | rfl
def Q6_3 (Z : State) (r0 : Addr) (w : Int32) (ar : Addr) (kk : ClassId) (u0 : Int32) (u1 : Int32) (u2 : Int32) (h0 : Heap) (n0 : Nat) (v : Option Value) (h : Heap) (L : List Loc) : Prop := v = some (.long ((((w.toInt64) + (u0.toInt64)) + (u1.toInt64)) + (u2.toInt64))) ∧ Fr n0 L ∧ h = h0
set_option maxRecDepth 65536 in
set_option maxHeartbeats 40000000 in
theorem rm6_3 (l : Launch) (Z : State) (a0 : Array Value) (hw : ∀ d ∈ tables_1, d.before a0 Z = true) (ws : List Jvm.Cond) (r0 : Addr) (w : Int32) (ar : Addr) (kk : ClassId) (u0 : Int32) (u1 : Int32) (u2 : Int32) (h0 : Heap) (n0 : Nat) (Z0 : n0 ≤ h0.size) (F_pot : Fld Z h0 r0 "org/ludarium/games/sabacc/Chips" "sabaccPot" "I" (.int w)) (F_held : Fld Z h0 r0 "org/ludarium/games/sabacc/Chips" "held" "[I" (.ref ar)) (V0 : Arv Z h0 ar kk .int (3 : Int32) [(.int u0), (.int u1), (.int u2)] (.int (0 : Int32))) :
    MetFree l (⟨"org/ludarium/games/sabacc/Chips", "total", "()J"⟩ : MethodName) (head1 (Jvm.Cond.code (⟨"org/ludarium/games/sabacc/Chips", "total", "()J"⟩ : MethodName) prog_13_method_7_code 7 (some .long) :: ws) ({ frames := 0, cells := 0, slots := 0, locals := 0 } : Room)) (fun a U => a = #[(.ref r0)] ∧ Z.Warmed39 U.vm ∧ U.heap = h0) (fun _ _ _ _ _ => True) (fun _ U o U' => ∃ v L, o = .returned v ∧ Q6_3 Z r0 w ar kk u0 u1 u2 h0 n0 v U'.heap L ∧ FrameEnd U o U' L ({ frames := 0, cells := 0, slots := 0, locals := 0 } : Room).cells ({ frames := 0, cells := 0, slots := 0, locals := 0 } : Room).slots) := by
  refine MetFree.of_bodySF (plainFor_of_name own_pn0) hisR ?_
  intro p e s m args below meth c s₁ Bd hml0 hP hK
  obtain ⟨rfl, hZ, hh⟩ := hP
  have hx := Bd.exec
  have hby := Bd.bytes
  have hml : c.maxLocals = 7 := hml0
  have hown : s.vm.findClass "org/ludarium/games/sabacc/Chips" = some m.cls := findClass_of_methodNamed Bd.named
  have hnm := (name_of_methodNamed Bd.named Bd.method).1
  have X0 : Stand p l e ({ frames := 0, cells := 0, slots := 0, locals := 0 } : Room) s m #[(.ref r0)] below meth c s₁ [] 0 0 := Stand.of_body Bd
  have e0 : s₁.heap = h0 := by rw [← hh, Bd.state]; rfl
  have N0 := Fr.nil n0
  show Good p e below (fun o U' => ∃ v L, o = .returned v ∧ Q6_3 Z r0 w ar kk u0 u1 u2 h0 n0 v U'.heap L ∧ FrameEnd s o U' L ({ frames := 0, cells := 0, slots := 0, locals := 0 } : Room).cells ({ frames := 0, cells := 0, slots := 0, locals := 0 } : Room).slots) _
  refine Good.back (S' := s₁.setTop (mkF m 0 #[.val (.ref r0), .unset, .unset, .unset, .unset, .unset, .unset] [])) (fun t k => castTop (own_ef_6_3 m r0) k) ?_
  show Good p e below _ (s₁.setTop (mkF m 0 #[.val (.ref r0), .unset, .unset, .unset, .unset, .unset, .unset] []))
  refine Good.back (fun _ k => XS.aloadN X0.here hx rfl (hb hby own_d6_0) rfl rfl k) ?_
  show Good p e below _ (s₁.setTop (mkF m 1 #[.val (.ref r0), .unset, .unset, .unset, .unset, .unset, .unset] [(.ref r0)]))
  obtain ⟨T1, X1, e1, st1⟩ := getF X0 hx hZ hown (host := "") (Or.inl (hw _ (List.mem_of_getElem? (i := 15) rfl))) Via.refl e0 F_pot (g := (mkF m 1 #[.val (.ref r0), .unset, .unset, .unset, .unset, .unset, .unset] [(.ref r0)])) rfl rfl (hb hby own_d6_1)
  refine Good.back st1 ?_
  show Good p e below _ (T1.setTop (mkF m 4 #[.val (.ref r0), .unset, .unset, .unset, .unset, .unset, .unset] [(.int w)]))
  refine Good.back (fun _ k => XS.i2l X1.here hx rfl (hb hby own_d6_4) rfl k) ?_
  show Good p e below _ (T1.setTop (mkF m 5 #[.val (.ref r0), .unset, .unset, .unset, .unset, .unset, .unset] [(.long (w.toInt64))]))
  refine Good.back (fun _ k => XS.lstoreN X1.here hx rfl (hb hby own_d6_5) rfl (l' := #[.val (.ref r0), .val (.long (w.toInt64)), .second, .unset, .unset, .unset, .unset]) rfl k) ?_
  show Good p e below _ (T1.setTop (mkF m 6 #[.val (.ref r0), .val (.long (w.toInt64)), .second, .unset, .unset, .unset, .unset] []))
  refine Good.back (fun _ k => XS.aloadN X1.here hx rfl (hb hby own_d6_6) rfl rfl k) ?_
  show Good p e below _ (T1.setTop (mkF m 7 #[.val (.ref r0), .val (.long (w.toInt64)), .second, .unset, .unset, .unset, .unset] [(.ref r0)]))
  obtain ⟨T2, X2, e2, st2⟩ := getF X1 hx hZ hown (host := "") (Or.inl (hw _ (List.mem_of_getElem? (i := 13) rfl))) Via.refl e1 F_held (g := (mkF m 7 #[.val (.ref r0), .val (.long (w.toInt64)), .second, .unset, .unset, .unset, .unset] [(.ref r0)])) rfl rfl (hb hby own_d6_7)
  refine Good.back st2 ?_
  show Good p e below _ (T2.setTop (mkF m 10 #[.val (.ref r0), .val (.long (w.toInt64)), .second, .unset, .unset, .unset, .unset] [(.ref ar)]))
  refine Good.back (fun _ k => XS.astoreN X2.here hx rfl (hb hby own_d6_10) rfl rfl (l' := #[.val (.ref r0), .val (.long (w.toInt64)), .second, .val (.ref ar), .unset, .unset, .unset]) rfl k) ?_
  show Good p e below _ (T2.setTop (mkF m 11 #[.val (.ref r0), .val (.long (w.toInt64)), .second, .val (.ref ar), .unset, .unset, .unset] []))
  refine Good.back (fun _ k => XS.aloadN X2.here hx rfl (hb hby own_d6_11) rfl rfl k) ?_
  show Good p e below _ (T2.setTop (mkF m 12 #[.val (.ref r0), .val (.long (w.toInt64)), .second, .val (.ref ar), .unset, .unset, .unset] [(.ref ar)]))
  have fc3 := V0
  obtain ⟨cl3, Ar3, q3, S3, N3', H3, G3⟩ := fc3
  refine Good.back (X2.arraylength hx (by rw [e2]; exact Ar3.1) (State.isArrayOf_alike hZ.alike Ar3.2.1) (g := (mkF m 12 #[.val (.ref r0), .val (.long (w.toInt64)), .second, .val (.ref ar), .unset, .unset, .unset] [(.ref ar)])) rfl rfl (hb hby own_d6_12)) ?_
  rw [len_of S3 N3']
  show Good p e below _ (T2.setTop (mkF m 13 #[.val (.ref r0), .val (.long (w.toInt64)), .second, .val (.ref ar), .unset, .unset, .unset] [(.int (3 : Int32))]))
  refine Good.back (fun _ k => XS.istore X2.here hx rfl (hb hby own_d6_13) rfl (l' := #[.val (.ref r0), .val (.long (w.toInt64)), .second, .val (.ref ar), .val (.int (3 : Int32)), .unset, .unset]) rfl k) ?_
  show Good p e below _ (T2.setTop (mkF m 15 #[.val (.ref r0), .val (.long (w.toInt64)), .second, .val (.ref ar), .val (.int (3 : Int32)), .unset, .unset] []))
  refine Good.back (fun _ k => XS.iconst X2.here hx rfl (hb hby own_d6_15) k) ?_
  show Good p e below _ (T2.setTop (mkF m 16 #[.val (.ref r0), .val (.long (w.toInt64)), .second, .val (.ref ar), .val (.int (3 : Int32)), .unset, .unset] [(.int (0 : Int32))]))
  refine Good.back (fun _ k => XS.istore X2.here hx rfl (hb hby own_d6_16) rfl (l' := #[.val (.ref r0), .val (.long (w.toInt64)), .second, .val (.ref ar), .val (.int (3 : Int32)), .val (.int (0 : Int32)), .unset]) rfl k) ?_
  show Good p e below _ (T2.setTop (mkF m 18 #[.val (.ref r0), .val (.long (w.toInt64)), .second, .val (.ref ar), .val (.int (3 : Int32)), .val (.int (0 : Int32)), .unset] []))
  refine Good.back (fun _ k => XS.iload X2.here hx rfl (hb hby own_d6_18) rfl k) ?_
  show Good p e below _ (T2.setTop (mkF m 20 #[.val (.ref r0), .val (.long (w.toInt64)), .second, .val (.ref ar), .val (.int (3 : Int32)), .val (.int (0 : Int32)), .unset] [(.int (0 : Int32))]))
  refine Good.back (fun _ k => XS.iload X2.here hx rfl (hb hby own_d6_20) rfl k) ?_
  show Good p e below _ (T2.setTop (mkF m 22 #[.val (.ref r0), .val (.long (w.toInt64)), .second, .val (.ref ar), .val (.int (3 : Int32)), .val (.int (0 : Int32)), .unset] [(.int (3 : Int32)), (.int (0 : Int32))]))
  refine Good.back (fun _ k => XS.icmpNo X2.here hx rfl (hb hby own_d6_22) rfl (tlt (by decide : ((0 : Int32) < (3 : Int32)))).2.1 k) ?_
  show Good p e below _ (T2.setTop (mkF m 25 #[.val (.ref r0), .val (.long (w.toInt64)), .second, .val (.ref ar), .val (.int (3 : Int32)), .val (.int (0 : Int32)), .unset] []))
  refine Good.back (fun _ k => XS.aloadN X2.here hx rfl (hb hby own_d6_25) rfl rfl k) ?_
  show Good p e below _ (T2.setTop (mkF m 26 #[.val (.ref r0), .val (.long (w.toInt64)), .second, .val (.ref ar), .val (.int (3 : Int32)), .val (.int (0 : Int32)), .unset] [(.ref ar)]))
  refine Good.back (fun _ k => XS.iload X2.here hx rfl (hb hby own_d6_26) rfl k) ?_
  show Good p e below _ (T2.setTop (mkF m 28 #[.val (.ref r0), .val (.long (w.toInt64)), .second, .val (.ref ar), .val (.int (3 : Int32)), .val (.int (0 : Int32)), .unset] [(.int (0 : Int32)), (.ref ar)]))
  have fc4 := V0
  obtain ⟨cl4, Ar4, q4, S4, N4', H4, G4⟩ := fc4
  have hin4 : ¬ ((0 : Int32) < 0 ∨ cl4.slots.size ≤ ((0 : Int32)).toNatClampNeg) := inb_of S4 ⟨by decide, by decide⟩
  have hat4 : cl4.slots[((0 : Int32)).toNatClampNeg]? = some (.int u0) := Has.at H4 hin4 rfl
  refine Good.back (X2.iaload hx (j := (0 : Int32)) (v := (.int u0)) (by rw [e2]; exact Ar4.1) (State.isArrayOf_alike hZ.alike Ar4.2.1) Ar4.2.2 hin4 hat4 (g := (mkF m 28 #[.val (.ref r0), .val (.long (w.toInt64)), .second, .val (.ref ar), .val (.int (3 : Int32)), .val (.int (0 : Int32)), .unset] [(.int (0 : Int32)), (.ref ar)])) rfl rfl (hb hby own_d6_28)) ?_
  show Good p e below _ (T2.setTop (mkF m 29 #[.val (.ref r0), .val (.long (w.toInt64)), .second, .val (.ref ar), .val (.int (3 : Int32)), .val (.int (0 : Int32)), .unset] [(.int u0)]))
  refine Good.back (fun _ k => XS.istore X2.here hx rfl (hb hby own_d6_29) rfl (l' := #[.val (.ref r0), .val (.long (w.toInt64)), .second, .val (.ref ar), .val (.int (3 : Int32)), .val (.int (0 : Int32)), .val (.int u0)]) rfl k) ?_
  show Good p e below _ (T2.setTop (mkF m 31 #[.val (.ref r0), .val (.long (w.toInt64)), .second, .val (.ref ar), .val (.int (3 : Int32)), .val (.int (0 : Int32)), .val (.int u0)] []))
  refine Good.back (fun _ k => XS.lloadN X2.here hx rfl (hb hby own_d6_31) rfl k) ?_
  show Good p e below _ (T2.setTop (mkF m 32 #[.val (.ref r0), .val (.long (w.toInt64)), .second, .val (.ref ar), .val (.int (3 : Int32)), .val (.int (0 : Int32)), .val (.int u0)] [(.long (w.toInt64))]))
  refine Good.back (fun _ k => XS.iload X2.here hx rfl (hb hby own_d6_32) rfl k) ?_
  show Good p e below _ (T2.setTop (mkF m 34 #[.val (.ref r0), .val (.long (w.toInt64)), .second, .val (.ref ar), .val (.int (3 : Int32)), .val (.int (0 : Int32)), .val (.int u0)] [(.int u0), (.long (w.toInt64))]))
  refine Good.back (fun _ k => XS.i2l X2.here hx rfl (hb hby own_d6_34) rfl k) ?_
  show Good p e below _ (T2.setTop (mkF m 35 #[.val (.ref r0), .val (.long (w.toInt64)), .second, .val (.ref ar), .val (.int (3 : Int32)), .val (.int (0 : Int32)), .val (.int u0)] [(.long (u0.toInt64)), (.long (w.toInt64))]))
  refine Good.back (fun _ k => XS.ladd X2.here hx rfl (hb hby own_d6_35) rfl k) ?_
  show Good p e below _ (T2.setTop (mkF m 36 #[.val (.ref r0), .val (.long (w.toInt64)), .second, .val (.ref ar), .val (.int (3 : Int32)), .val (.int (0 : Int32)), .val (.int u0)] [(.long ((w.toInt64) + (u0.toInt64)))]))
  refine Good.back (fun _ k => XS.lstoreN X2.here hx rfl (hb hby own_d6_36) rfl (l' := #[.val (.ref r0), .val (.long ((w.toInt64) + (u0.toInt64))), .second, .val (.ref ar), .val (.int (3 : Int32)), .val (.int (0 : Int32)), .val (.int u0)]) rfl k) ?_
  show Good p e below _ (T2.setTop (mkF m 37 #[.val (.ref r0), .val (.long ((w.toInt64) + (u0.toInt64))), .second, .val (.ref ar), .val (.int (3 : Int32)), .val (.int (0 : Int32)), .val (.int u0)] []))
  refine Good.back (fun _ k => XS.iinc X2.here hx rfl (hb hby own_d6_37) rfl (l' := #[.val (.ref r0), .val (.long ((w.toInt64) + (u0.toInt64))), .second, .val (.ref ar), .val (.int (3 : Int32)), .val (.int ((0 : Int32) + (1 : Int32))), .val (.int u0)]) rfl k) ?_
  show Good p e below _ (T2.setTop (mkF m 40 #[.val (.ref r0), .val (.long ((w.toInt64) + (u0.toInt64))), .second, .val (.ref ar), .val (.int (3 : Int32)), .val (.int ((0 : Int32) + (1 : Int32))), .val (.int u0)] []))
  rw [show (((0 : Int32) + (1 : Int32)) : Int32) = (1 : Int32) from by decide]
  show Good p e below _ (T2.setTop (mkF m 40 #[.val (.ref r0), .val (.long ((w.toInt64) + (u0.toInt64))), .second, .val (.ref ar), .val (.int (3 : Int32)), .val (.int (1 : Int32)), .val (.int u0)] []))
  refine Good.back (fun _ k => XS.goto X2.here hx rfl (pc0 := 40) (pc' := 18) rfl (hb hby own_d6_40) (by decide) (by decide) k) ?_
  show Good p e below _ (T2.setTop (mkF m 18 #[.val (.ref r0), .val (.long ((w.toInt64) + (u0.toInt64))), .second, .val (.ref ar), .val (.int (3 : Int32)), .val (.int (1 : Int32)), .val (.int u0)] []))
  refine Good.back (fun _ k => XS.iload X2.here hx rfl (hb hby own_d6_18) rfl k) ?_
  show Good p e below _ (T2.setTop (mkF m 20 #[.val (.ref r0), .val (.long ((w.toInt64) + (u0.toInt64))), .second, .val (.ref ar), .val (.int (3 : Int32)), .val (.int (1 : Int32)), .val (.int u0)] [(.int (1 : Int32))]))
  refine Good.back (fun _ k => XS.iload X2.here hx rfl (hb hby own_d6_20) rfl k) ?_
  show Good p e below _ (T2.setTop (mkF m 22 #[.val (.ref r0), .val (.long ((w.toInt64) + (u0.toInt64))), .second, .val (.ref ar), .val (.int (3 : Int32)), .val (.int (1 : Int32)), .val (.int u0)] [(.int (3 : Int32)), (.int (1 : Int32))]))
  refine Good.back (fun _ k => XS.icmpNo X2.here hx rfl (hb hby own_d6_22) rfl (tlt (by decide : ((1 : Int32) < (3 : Int32)))).2.1 k) ?_
  show Good p e below _ (T2.setTop (mkF m 25 #[.val (.ref r0), .val (.long ((w.toInt64) + (u0.toInt64))), .second, .val (.ref ar), .val (.int (3 : Int32)), .val (.int (1 : Int32)), .val (.int u0)] []))
  refine Good.back (fun _ k => XS.aloadN X2.here hx rfl (hb hby own_d6_25) rfl rfl k) ?_
  show Good p e below _ (T2.setTop (mkF m 26 #[.val (.ref r0), .val (.long ((w.toInt64) + (u0.toInt64))), .second, .val (.ref ar), .val (.int (3 : Int32)), .val (.int (1 : Int32)), .val (.int u0)] [(.ref ar)]))
  refine Good.back (fun _ k => XS.iload X2.here hx rfl (hb hby own_d6_26) rfl k) ?_
  show Good p e below _ (T2.setTop (mkF m 28 #[.val (.ref r0), .val (.long ((w.toInt64) + (u0.toInt64))), .second, .val (.ref ar), .val (.int (3 : Int32)), .val (.int (1 : Int32)), .val (.int u0)] [(.int (1 : Int32)), (.ref ar)]))
  have fc5 := V0
  obtain ⟨cl5, Ar5, q5, S5, N5', H5, G5⟩ := fc5
  have hin5 : ¬ ((1 : Int32) < 0 ∨ cl5.slots.size ≤ ((1 : Int32)).toNatClampNeg) := inb_of S5 ⟨by decide, by decide⟩
  have hat5 : cl5.slots[((1 : Int32)).toNatClampNeg]? = some (.int u1) := Has.at H5 hin5 rfl
  refine Good.back (X2.iaload hx (j := (1 : Int32)) (v := (.int u1)) (by rw [e2]; exact Ar5.1) (State.isArrayOf_alike hZ.alike Ar5.2.1) Ar5.2.2 hin5 hat5 (g := (mkF m 28 #[.val (.ref r0), .val (.long ((w.toInt64) + (u0.toInt64))), .second, .val (.ref ar), .val (.int (3 : Int32)), .val (.int (1 : Int32)), .val (.int u0)] [(.int (1 : Int32)), (.ref ar)])) rfl rfl (hb hby own_d6_28)) ?_
  show Good p e below _ (T2.setTop (mkF m 29 #[.val (.ref r0), .val (.long ((w.toInt64) + (u0.toInt64))), .second, .val (.ref ar), .val (.int (3 : Int32)), .val (.int (1 : Int32)), .val (.int u0)] [(.int u1)]))
  refine Good.back (fun _ k => XS.istore X2.here hx rfl (hb hby own_d6_29) rfl (l' := #[.val (.ref r0), .val (.long ((w.toInt64) + (u0.toInt64))), .second, .val (.ref ar), .val (.int (3 : Int32)), .val (.int (1 : Int32)), .val (.int u1)]) rfl k) ?_
  show Good p e below _ (T2.setTop (mkF m 31 #[.val (.ref r0), .val (.long ((w.toInt64) + (u0.toInt64))), .second, .val (.ref ar), .val (.int (3 : Int32)), .val (.int (1 : Int32)), .val (.int u1)] []))
  refine Good.back (fun _ k => XS.lloadN X2.here hx rfl (hb hby own_d6_31) rfl k) ?_
  show Good p e below _ (T2.setTop (mkF m 32 #[.val (.ref r0), .val (.long ((w.toInt64) + (u0.toInt64))), .second, .val (.ref ar), .val (.int (3 : Int32)), .val (.int (1 : Int32)), .val (.int u1)] [(.long ((w.toInt64) + (u0.toInt64)))]))
  refine Good.back (fun _ k => XS.iload X2.here hx rfl (hb hby own_d6_32) rfl k) ?_
  show Good p e below _ (T2.setTop (mkF m 34 #[.val (.ref r0), .val (.long ((w.toInt64) + (u0.toInt64))), .second, .val (.ref ar), .val (.int (3 : Int32)), .val (.int (1 : Int32)), .val (.int u1)] [(.int u1), (.long ((w.toInt64) + (u0.toInt64)))]))
  refine Good.back (fun _ k => XS.i2l X2.here hx rfl (hb hby own_d6_34) rfl k) ?_
  show Good p e below _ (T2.setTop (mkF m 35 #[.val (.ref r0), .val (.long ((w.toInt64) + (u0.toInt64))), .second, .val (.ref ar), .val (.int (3 : Int32)), .val (.int (1 : Int32)), .val (.int u1)] [(.long (u1.toInt64)), (.long ((w.toInt64) + (u0.toInt64)))]))
  refine Good.back (fun _ k => XS.ladd X2.here hx rfl (hb hby own_d6_35) rfl k) ?_
  show Good p e below _ (T2.setTop (mkF m 36 #[.val (.ref r0), .val (.long ((w.toInt64) + (u0.toInt64))), .second, .val (.ref ar), .val (.int (3 : Int32)), .val (.int (1 : Int32)), .val (.int u1)] [(.long (((w.toInt64) + (u0.toInt64)) + (u1.toInt64)))]))
  refine Good.back (fun _ k => XS.lstoreN X2.here hx rfl (hb hby own_d6_36) rfl (l' := #[.val (.ref r0), .val (.long (((w.toInt64) + (u0.toInt64)) + (u1.toInt64))), .second, .val (.ref ar), .val (.int (3 : Int32)), .val (.int (1 : Int32)), .val (.int u1)]) rfl k) ?_
  show Good p e below _ (T2.setTop (mkF m 37 #[.val (.ref r0), .val (.long (((w.toInt64) + (u0.toInt64)) + (u1.toInt64))), .second, .val (.ref ar), .val (.int (3 : Int32)), .val (.int (1 : Int32)), .val (.int u1)] []))
  refine Good.back (fun _ k => XS.iinc X2.here hx rfl (hb hby own_d6_37) rfl (l' := #[.val (.ref r0), .val (.long (((w.toInt64) + (u0.toInt64)) + (u1.toInt64))), .second, .val (.ref ar), .val (.int (3 : Int32)), .val (.int ((1 : Int32) + (1 : Int32))), .val (.int u1)]) rfl k) ?_
  show Good p e below _ (T2.setTop (mkF m 40 #[.val (.ref r0), .val (.long (((w.toInt64) + (u0.toInt64)) + (u1.toInt64))), .second, .val (.ref ar), .val (.int (3 : Int32)), .val (.int ((1 : Int32) + (1 : Int32))), .val (.int u1)] []))
  rw [show (((1 : Int32) + (1 : Int32)) : Int32) = (2 : Int32) from by decide]
  show Good p e below _ (T2.setTop (mkF m 40 #[.val (.ref r0), .val (.long (((w.toInt64) + (u0.toInt64)) + (u1.toInt64))), .second, .val (.ref ar), .val (.int (3 : Int32)), .val (.int (2 : Int32)), .val (.int u1)] []))
  refine Good.back (fun _ k => XS.goto X2.here hx rfl (pc0 := 40) (pc' := 18) rfl (hb hby own_d6_40) (by decide) (by decide) k) ?_
  show Good p e below _ (T2.setTop (mkF m 18 #[.val (.ref r0), .val (.long (((w.toInt64) + (u0.toInt64)) + (u1.toInt64))), .second, .val (.ref ar), .val (.int (3 : Int32)), .val (.int (2 : Int32)), .val (.int u1)] []))
  refine Good.back (fun _ k => XS.iload X2.here hx rfl (hb hby own_d6_18) rfl k) ?_
  show Good p e below _ (T2.setTop (mkF m 20 #[.val (.ref r0), .val (.long (((w.toInt64) + (u0.toInt64)) + (u1.toInt64))), .second, .val (.ref ar), .val (.int (3 : Int32)), .val (.int (2 : Int32)), .val (.int u1)] [(.int (2 : Int32))]))
  refine Good.back (fun _ k => XS.iload X2.here hx rfl (hb hby own_d6_20) rfl k) ?_
  show Good p e below _ (T2.setTop (mkF m 22 #[.val (.ref r0), .val (.long (((w.toInt64) + (u0.toInt64)) + (u1.toInt64))), .second, .val (.ref ar), .val (.int (3 : Int32)), .val (.int (2 : Int32)), .val (.int u1)] [(.int (3 : Int32)), (.int (2 : Int32))]))
  refine Good.back (fun _ k => XS.icmpNo X2.here hx rfl (hb hby own_d6_22) rfl (tlt (by decide : ((2 : Int32) < (3 : Int32)))).2.1 k) ?_
  show Good p e below _ (T2.setTop (mkF m 25 #[.val (.ref r0), .val (.long (((w.toInt64) + (u0.toInt64)) + (u1.toInt64))), .second, .val (.ref ar), .val (.int (3 : Int32)), .val (.int (2 : Int32)), .val (.int u1)] []))
  refine Good.back (fun _ k => XS.aloadN X2.here hx rfl (hb hby own_d6_25) rfl rfl k) ?_
  show Good p e below _ (T2.setTop (mkF m 26 #[.val (.ref r0), .val (.long (((w.toInt64) + (u0.toInt64)) + (u1.toInt64))), .second, .val (.ref ar), .val (.int (3 : Int32)), .val (.int (2 : Int32)), .val (.int u1)] [(.ref ar)]))
  refine Good.back (fun _ k => XS.iload X2.here hx rfl (hb hby own_d6_26) rfl k) ?_
  show Good p e below _ (T2.setTop (mkF m 28 #[.val (.ref r0), .val (.long (((w.toInt64) + (u0.toInt64)) + (u1.toInt64))), .second, .val (.ref ar), .val (.int (3 : Int32)), .val (.int (2 : Int32)), .val (.int u1)] [(.int (2 : Int32)), (.ref ar)]))
  have fc6 := V0
  obtain ⟨cl6, Ar6, q6, S6, N6', H6, G6⟩ := fc6
  have hin6 : ¬ ((2 : Int32) < 0 ∨ cl6.slots.size ≤ ((2 : Int32)).toNatClampNeg) := inb_of S6 ⟨by decide, by decide⟩
  have hat6 : cl6.slots[((2 : Int32)).toNatClampNeg]? = some (.int u2) := Has.at H6 hin6 rfl
  refine Good.back (X2.iaload hx (j := (2 : Int32)) (v := (.int u2)) (by rw [e2]; exact Ar6.1) (State.isArrayOf_alike hZ.alike Ar6.2.1) Ar6.2.2 hin6 hat6 (g := (mkF m 28 #[.val (.ref r0), .val (.long (((w.toInt64) + (u0.toInt64)) + (u1.toInt64))), .second, .val (.ref ar), .val (.int (3 : Int32)), .val (.int (2 : Int32)), .val (.int u1)] [(.int (2 : Int32)), (.ref ar)])) rfl rfl (hb hby own_d6_28)) ?_
  show Good p e below _ (T2.setTop (mkF m 29 #[.val (.ref r0), .val (.long (((w.toInt64) + (u0.toInt64)) + (u1.toInt64))), .second, .val (.ref ar), .val (.int (3 : Int32)), .val (.int (2 : Int32)), .val (.int u1)] [(.int u2)]))
  refine Good.back (fun _ k => XS.istore X2.here hx rfl (hb hby own_d6_29) rfl (l' := #[.val (.ref r0), .val (.long (((w.toInt64) + (u0.toInt64)) + (u1.toInt64))), .second, .val (.ref ar), .val (.int (3 : Int32)), .val (.int (2 : Int32)), .val (.int u2)]) rfl k) ?_
  show Good p e below _ (T2.setTop (mkF m 31 #[.val (.ref r0), .val (.long (((w.toInt64) + (u0.toInt64)) + (u1.toInt64))), .second, .val (.ref ar), .val (.int (3 : Int32)), .val (.int (2 : Int32)), .val (.int u2)] []))
  refine Good.back (fun _ k => XS.lloadN X2.here hx rfl (hb hby own_d6_31) rfl k) ?_
  show Good p e below _ (T2.setTop (mkF m 32 #[.val (.ref r0), .val (.long (((w.toInt64) + (u0.toInt64)) + (u1.toInt64))), .second, .val (.ref ar), .val (.int (3 : Int32)), .val (.int (2 : Int32)), .val (.int u2)] [(.long (((w.toInt64) + (u0.toInt64)) + (u1.toInt64)))]))
  refine Good.back (fun _ k => XS.iload X2.here hx rfl (hb hby own_d6_32) rfl k) ?_
  show Good p e below _ (T2.setTop (mkF m 34 #[.val (.ref r0), .val (.long (((w.toInt64) + (u0.toInt64)) + (u1.toInt64))), .second, .val (.ref ar), .val (.int (3 : Int32)), .val (.int (2 : Int32)), .val (.int u2)] [(.int u2), (.long (((w.toInt64) + (u0.toInt64)) + (u1.toInt64)))]))
  refine Good.back (fun _ k => XS.i2l X2.here hx rfl (hb hby own_d6_34) rfl k) ?_
  show Good p e below _ (T2.setTop (mkF m 35 #[.val (.ref r0), .val (.long (((w.toInt64) + (u0.toInt64)) + (u1.toInt64))), .second, .val (.ref ar), .val (.int (3 : Int32)), .val (.int (2 : Int32)), .val (.int u2)] [(.long (u2.toInt64)), (.long (((w.toInt64) + (u0.toInt64)) + (u1.toInt64)))]))
  refine Good.back (fun _ k => XS.ladd X2.here hx rfl (hb hby own_d6_35) rfl k) ?_
  show Good p e below _ (T2.setTop (mkF m 36 #[.val (.ref r0), .val (.long (((w.toInt64) + (u0.toInt64)) + (u1.toInt64))), .second, .val (.ref ar), .val (.int (3 : Int32)), .val (.int (2 : Int32)), .val (.int u2)] [(.long ((((w.toInt64) + (u0.toInt64)) + (u1.toInt64)) + (u2.toInt64)))]))
  refine Good.back (fun _ k => XS.lstoreN X2.here hx rfl (hb hby own_d6_36) rfl (l' := #[.val (.ref r0), .val (.long ((((w.toInt64) + (u0.toInt64)) + (u1.toInt64)) + (u2.toInt64))), .second, .val (.ref ar), .val (.int (3 : Int32)), .val (.int (2 : Int32)), .val (.int u2)]) rfl k) ?_
  show Good p e below _ (T2.setTop (mkF m 37 #[.val (.ref r0), .val (.long ((((w.toInt64) + (u0.toInt64)) + (u1.toInt64)) + (u2.toInt64))), .second, .val (.ref ar), .val (.int (3 : Int32)), .val (.int (2 : Int32)), .val (.int u2)] []))
  refine Good.back (fun _ k => XS.iinc X2.here hx rfl (hb hby own_d6_37) rfl (l' := #[.val (.ref r0), .val (.long ((((w.toInt64) + (u0.toInt64)) + (u1.toInt64)) + (u2.toInt64))), .second, .val (.ref ar), .val (.int (3 : Int32)), .val (.int ((2 : Int32) + (1 : Int32))), .val (.int u2)]) rfl k) ?_
  show Good p e below _ (T2.setTop (mkF m 40 #[.val (.ref r0), .val (.long ((((w.toInt64) + (u0.toInt64)) + (u1.toInt64)) + (u2.toInt64))), .second, .val (.ref ar), .val (.int (3 : Int32)), .val (.int ((2 : Int32) + (1 : Int32))), .val (.int u2)] []))
  rw [show (((2 : Int32) + (1 : Int32)) : Int32) = (3 : Int32) from by decide]
  show Good p e below _ (T2.setTop (mkF m 40 #[.val (.ref r0), .val (.long ((((w.toInt64) + (u0.toInt64)) + (u1.toInt64)) + (u2.toInt64))), .second, .val (.ref ar), .val (.int (3 : Int32)), .val (.int (3 : Int32)), .val (.int u2)] []))
  refine Good.back (fun _ k => XS.goto X2.here hx rfl (pc0 := 40) (pc' := 18) rfl (hb hby own_d6_40) (by decide) (by decide) k) ?_
  show Good p e below _ (T2.setTop (mkF m 18 #[.val (.ref r0), .val (.long ((((w.toInt64) + (u0.toInt64)) + (u1.toInt64)) + (u2.toInt64))), .second, .val (.ref ar), .val (.int (3 : Int32)), .val (.int (3 : Int32)), .val (.int u2)] []))
  refine Good.back (fun _ k => XS.iload X2.here hx rfl (hb hby own_d6_18) rfl k) ?_
  show Good p e below _ (T2.setTop (mkF m 20 #[.val (.ref r0), .val (.long ((((w.toInt64) + (u0.toInt64)) + (u1.toInt64)) + (u2.toInt64))), .second, .val (.ref ar), .val (.int (3 : Int32)), .val (.int (3 : Int32)), .val (.int u2)] [(.int (3 : Int32))]))
  refine Good.back (fun _ k => XS.iload X2.here hx rfl (hb hby own_d6_20) rfl k) ?_
  show Good p e below _ (T2.setTop (mkF m 22 #[.val (.ref r0), .val (.long ((((w.toInt64) + (u0.toInt64)) + (u1.toInt64)) + (u2.toInt64))), .second, .val (.ref ar), .val (.int (3 : Int32)), .val (.int (3 : Int32)), .val (.int u2)] [(.int (3 : Int32)), (.int (3 : Int32))]))
  refine Good.back (fun _ k => XS.icmpYes X2.here hx rfl (pc0 := 22) (pc' := 43) rfl (hb hby own_d6_22) rfl (flt (by decide : ¬ ((3 : Int32) < (3 : Int32)))).2.1 (by decide) (by decide) k) ?_
  show Good p e below _ (T2.setTop (mkF m 43 #[.val (.ref r0), .val (.long ((((w.toInt64) + (u0.toInt64)) + (u1.toInt64)) + (u2.toInt64))), .second, .val (.ref ar), .val (.int (3 : Int32)), .val (.int (3 : Int32)), .val (.int u2)] []))
  refine Good.back (fun _ k => XS.lloadN X2.here hx rfl (hb hby own_d6_43) rfl k) ?_
  show Good p e below _ (T2.setTop (mkF m 44 #[.val (.ref r0), .val (.long ((((w.toInt64) + (u0.toInt64)) + (u1.toInt64)) + (u2.toInt64))), .second, .val (.ref ar), .val (.int (3 : Int32)), .val (.int (3 : Int32)), .val (.int u2)] [(.long ((((w.toInt64) + (u0.toInt64)) + (u1.toInt64)) + (u2.toInt64)))]))
  obtain ⟨fs7, hr7, hrun7, hended7, hW7, hsame7⟩ := X2.leave (v := some (.long ((((w.toInt64) + (u0.toInt64)) + (u1.toInt64)) + (u2.toInt64)))) (fun h => by rw [Bd.returns] at h; cases h)
  refine Good.done (retOut X2 hx Bd.returns rfl (Or.inr (Or.inl ⟨rfl, rfl, _, rfl⟩)) (hb hby own_d6_44) hr7) hrun7 hended7 ⟨_, _, rfl, ?_, ⟨_, rfl⟩, hW7, hsame7.mono (by decide) (by decide)⟩
  show Q6_3 Z r0 w ar kk u0 u1 u2 h0 n0 _ T2.heap _
  rw [e2]
  exact ⟨rfl, N0, rfl⟩
theorem own_ef_7_3_1 (m : MethodId) (x0 : Addr) (x1 : Int32) (x2 : Int32) : entryFrame m #[(.ref x0), (.int x1), (.int x2)] 3 = mkF m 0 #[.val (.ref x0), .val (.int x1), .val (.int x2)] [] := by first | (simp [entryFrame, mkF, argsToLocals, Value.category]; done) | rfl
def Q7_3_1 (Z : State) (r0 : Addr) (p2 : Int32) (ar : Addr) (kk : ClassId) (u0 : Int32) (u1 : Int32) (u2 : Int32) (h0 : Heap) (n0 : Nat) (v : Option Value) (h : Heap) (L : List Loc) : Prop := v = none ∧ Fr n0 L ∧ Keep h0 h [ar] ∧ Arv Z h ar kk .int (3 : Int32) [(.int (u0 + p2)), (.int u1), (.int u2)] (.int (0 : Int32))
set_option maxRecDepth 65536 in
set_option maxHeartbeats 40000000 in
theorem rm7_3_1 (l : Launch) (Z : State) (a0 : Array Value) (hw : ∀ d ∈ tables_1, d.before a0 Z = true) (ws : List Jvm.Cond) (r0 : Addr) (p2 : Int32) (ar : Addr) (kk : ClassId) (u0 : Int32) (u1 : Int32) (u2 : Int32) (h0 : Heap) (n0 : Nat) (Z0 : n0 ≤ h0.size) (F_held : Fld Z h0 r0 "org/ludarium/games/sabacc/Chips" "held" "[I" (.ref ar)) (V0 : Arv Z h0 ar kk .int (3 : Int32) [(.int u0), (.int u1), (.int u2)] (.int (0 : Int32))) (ga : n0 ≤ ar) :
    MetFree l (⟨"org/ludarium/games/sabacc/Chips", "win", "(II)V"⟩ : MethodName) (head1 (Jvm.Cond.code (⟨"org/ludarium/games/sabacc/Chips", "win", "(II)V"⟩ : MethodName) prog_13_method_10_code 3 none :: ws) ({ frames := 0, cells := 0, slots := 0, locals := 0 } : Room)) (fun a U => a = #[(.ref r0), (.int (1 : Int32)), (.int p2)] ∧ Z.Warmed39 U.vm ∧ U.heap = h0) (fun _ _ _ _ _ => True) (fun _ U o U' => ∃ v L, o = .returned v ∧ Q7_3_1 Z r0 p2 ar kk u0 u1 u2 h0 n0 v U'.heap L ∧ FrameEnd U o U' L ({ frames := 0, cells := 0, slots := 0, locals := 0 } : Room).cells ({ frames := 0, cells := 0, slots := 0, locals := 0 } : Room).slots) := by
  refine MetFree.of_bodySF (plainFor_of_name own_pn0) hisR ?_
  intro p e s m args below meth c s₁ Bd hml0 hP hK
  obtain ⟨rfl, hZ, hh⟩ := hP
  have hx := Bd.exec
  have hby := Bd.bytes
  have hml : c.maxLocals = 3 := hml0
  have hown : s.vm.findClass "org/ludarium/games/sabacc/Chips" = some m.cls := findClass_of_methodNamed Bd.named
  have hnm := (name_of_methodNamed Bd.named Bd.method).1
  have X0 : Stand p l e ({ frames := 0, cells := 0, slots := 0, locals := 0 } : Room) s m #[(.ref r0), (.int (1 : Int32)), (.int p2)] below meth c s₁ [] 0 0 := Stand.of_body Bd
  have e0 : s₁.heap = h0 := by rw [← hh, Bd.state]; rfl
  have N0 := Fr.nil n0
  have KR : Keep h0 h0 [ar] := Keep.refl h0 _
  show Good p e below (fun o U' => ∃ v L, o = .returned v ∧ Q7_3_1 Z r0 p2 ar kk u0 u1 u2 h0 n0 v U'.heap L ∧ FrameEnd s o U' L ({ frames := 0, cells := 0, slots := 0, locals := 0 } : Room).cells ({ frames := 0, cells := 0, slots := 0, locals := 0 } : Room).slots) _
  refine Good.back (S' := s₁.setTop (mkF m 0 #[.val (.ref r0), .val (.int (1 : Int32)), .val (.int p2)] [])) (fun t k => castTop (own_ef_7_3_1 m r0 (1 : Int32) p2) k) ?_
  show Good p e below _ (s₁.setTop (mkF m 0 #[.val (.ref r0), .val (.int (1 : Int32)), .val (.int p2)] []))
  refine Good.back (fun _ k => XS.aloadN X0.here hx rfl (hb hby own_d7_0) rfl rfl k) ?_
  show Good p e below _ (s₁.setTop (mkF m 1 #[.val (.ref r0), .val (.int (1 : Int32)), .val (.int p2)] [(.ref r0)]))
  obtain ⟨T1, X1, e1, st1⟩ := getF X0 hx hZ hown (host := "") (Or.inl (hw _ (List.mem_of_getElem? (i := 13) rfl))) Via.refl e0 F_held (g := (mkF m 1 #[.val (.ref r0), .val (.int (1 : Int32)), .val (.int p2)] [(.ref r0)])) rfl rfl (hb hby own_d7_1)
  refine Good.back st1 ?_
  show Good p e below _ (T1.setTop (mkF m 4 #[.val (.ref r0), .val (.int (1 : Int32)), .val (.int p2)] [(.ref ar)]))
  refine Good.back (fun _ k => XS.iloadN X1.here hx rfl (hb hby own_d7_4) rfl k) ?_
  show Good p e below _ (T1.setTop (mkF m 5 #[.val (.ref r0), .val (.int (1 : Int32)), .val (.int p2)] [(.int (1 : Int32)), (.ref ar)]))
  refine Good.back (fun _ k => XS.iconst X1.here hx rfl (hb hby own_d7_5) k) ?_
  show Good p e below _ (T1.setTop (mkF m 6 #[.val (.ref r0), .val (.int (1 : Int32)), .val (.int p2)] [(.int (1 : Int32)), (.int (1 : Int32)), (.ref ar)]))
  refine Good.back (fun _ k => XS.isub X1.here hx rfl (hb hby own_d7_6) rfl k) ?_
  show Good p e below _ (T1.setTop (mkF m 7 #[.val (.ref r0), .val (.int (1 : Int32)), .val (.int p2)] [(.int ((1 : Int32) - (1 : Int32))), (.ref ar)]))
  rw [show (((1 : Int32) - (1 : Int32)) : Int32) = (0 : Int32) from by decide]
  show Good p e below _ (T1.setTop (mkF m 7 #[.val (.ref r0), .val (.int (1 : Int32)), .val (.int p2)] [(.int (0 : Int32)), (.ref ar)]))
  refine Good.back (fun _ k => Jvm.Free.XT.dup2 X1.here hx rfl (hb hby own_d7_7) rfl rfl rfl k) ?_
  show Good p e below _ (T1.setTop (mkF m 8 #[.val (.ref r0), .val (.int (1 : Int32)), .val (.int p2)] [(.int (0 : Int32)), (.ref ar), (.int (0 : Int32)), (.ref ar)]))
  have fc2 := V0
  obtain ⟨cl2, Ar2, q2, S2, N2', H2, G2⟩ := fc2
  have hin2 : ¬ ((0 : Int32) < 0 ∨ cl2.slots.size ≤ ((0 : Int32)).toNatClampNeg) := inb_of S2 ⟨by decide, by decide⟩
  have hat2 : cl2.slots[((0 : Int32)).toNatClampNeg]? = some (.int u0) := Has.at H2 hin2 rfl
  refine Good.back (X1.iaload hx (j := (0 : Int32)) (v := (.int u0)) (by rw [e1]; exact Ar2.1) (State.isArrayOf_alike hZ.alike Ar2.2.1) Ar2.2.2 hin2 hat2 (g := (mkF m 8 #[.val (.ref r0), .val (.int (1 : Int32)), .val (.int p2)] [(.int (0 : Int32)), (.ref ar), (.int (0 : Int32)), (.ref ar)])) rfl rfl (hb hby own_d7_8)) ?_
  show Good p e below _ (T1.setTop (mkF m 9 #[.val (.ref r0), .val (.int (1 : Int32)), .val (.int p2)] [(.int u0), (.int (0 : Int32)), (.ref ar)]))
  refine Good.back (fun _ k => XS.iloadN X1.here hx rfl (hb hby own_d7_9) rfl k) ?_
  show Good p e below _ (T1.setTop (mkF m 10 #[.val (.ref r0), .val (.int (1 : Int32)), .val (.int p2)] [(.int p2), (.int u0), (.int (0 : Int32)), (.ref ar)]))
  refine Good.back (fun _ k => XS.iadd X1.here hx rfl (hb hby own_d7_10) rfl k) ?_
  show Good p e below _ (T1.setTop (mkF m 11 #[.val (.ref r0), .val (.int (1 : Int32)), .val (.int p2)] [(.int (u0 + p2)), (.int (0 : Int32)), (.ref ar)]))
  have fc3 := V0
  obtain ⟨cl3, Ar3, q3, S3, N3', H3, G3⟩ := fc3
  have hin3 : ¬ ((0 : Int32) < 0 ∨ cl3.slots.size ≤ ((0 : Int32)).toNatClampNeg) := inb_of S3 ⟨by decide, by decide⟩
  obtain ⟨T3, h3, X3, e3, W3, st3⟩ := stI X1 hx hZ e1 Ar3 (j := (0 : Int32)) hin3 (g := (mkF m 11 #[.val (.ref r0), .val (.int (1 : Int32)), .val (.int p2)] [(.int (u0 + p2)), (.int (0 : Int32)), (.ref ar)])) rfl rfl (hb hby own_d7_11)
  refine Good.back st3 ?_
  have f_4 : Arv Z h3 ar kk .int (3 : Int32) [(.int (u0 + p2)), (.int u1), (.int u2)] (.int (0 : Int32)) := Arv.set Ar3 q3 S3 N3' H3 G3 rfl W3 0 rfl (Nat.le_of_ble_eq_true rfl)
  have N3 := Fr.snoc X3 N0 ga
  have Z5 : n0 ≤ h3.size := Nat.le_trans Z0 (Keep.of_wr W3).1
  have K6 : Keep h0 h3 [ar] := KR.wr W3 (Or.inl (List.mem_of_getElem? (i := 0) rfl))
  show Good p e below _ (T3.setTop (mkF m 12 #[.val (.ref r0), .val (.int (1 : Int32)), .val (.int p2)] []))
  obtain ⟨fs7, hr7, hrun7, hended7, hW7, hsame7⟩ := X3.leave (v := none) (fun _ => rfl)
  refine Good.done (X3.returnOut hx Bd.returns (hb hby own_d7_12) hr7) hrun7 hended7 ⟨_, _, rfl, ?_, ⟨_, rfl⟩, hW7, hsame7.mono (by decide) (by decide)⟩
  show Q7_3_1 Z r0 p2 ar kk u0 u1 u2 h0 n0 _ T3.heap _
  rw [e3]
  exact ⟨rfl, N3, K6, f_4⟩
theorem own_ef_8_3_1 (m : MethodId) (x0 : Addr) (x1 : Int32) (x2 : Int32) : entryFrame m #[(.ref x0), (.int x1), (.int x2)] 4 = mkF m 0 #[.val (.ref x0), .val (.int x1), .val (.int x2), .unset] [] := by first | (simp [entryFrame, mkF, argsToLocals, Value.category]; done) | rfl
def Q8_3_1 (Z : State) (r0 : Addr) (p2 : Int32) (ar : Addr) (w : Int32) (kk : ClassId) (u0 : Int32) (u1 : Int32) (u2 : Int32) (h0 : Heap) (n0 : Nat) (v : Option Value) (h : Heap) (L : List Loc) : Prop := v = none ∧ Fr n0 L ∧ Keep h0 h [ar, r0] ∧ Arv Z h ar kk .int (3 : Int32) [(.int (u0 - (if u0 < p2 then u0 else p2))), (.int u1), (.int u2)] (.int (0 : Int32)) ∧ Fld Z h r0 "org/ludarium/games/sabacc/Chips" "held" "[I" (.ref ar) ∧ Fld Z h r0 "org/ludarium/games/sabacc/Chips" "sabaccPot" "I" (.int (w + (if u0 < p2 then u0 else p2)))
set_option maxRecDepth 65536 in
set_option maxHeartbeats 40000000 in
theorem rm8_3_1 (l : Launch) (Z : State) (a0 : Array Value) (hw : ∀ d ∈ tables_1, d.before a0 Z = true) (ws : List Jvm.Cond) (r0 : Addr) (p2 : Int32) (ar : Addr) (w : Int32) (kk : ClassId) (u0 : Int32) (u1 : Int32) (u2 : Int32) (h0 : Heap) (n0 : Nat) (Z0 : n0 ≤ h0.size) (E0 : Exa Z h0 r0 "org/ludarium/games/sabacc/Chips") (g0 : n0 ≤ r0) (ga : n0 ≤ ar) (hne : r0 ≠ ar) (F_pot : Fld Z h0 r0 "org/ludarium/games/sabacc/Chips" "sabaccPot" "I" (.int w)) (F_held : Fld Z h0 r0 "org/ludarium/games/sabacc/Chips" "held" "[I" (.ref ar)) (V0 : Arv Z h0 ar kk .int (3 : Int32) [(.int u0), (.int u1), (.int u2)] (.int (0 : Int32))) :
    MetFree l (⟨"org/ludarium/games/sabacc/Chips", "paySabaccPot", "(II)V"⟩ : MethodName) (head1 (Jvm.Cond.code (⟨"org/ludarium/games/sabacc/Chips", "paySabaccPot", "(II)V"⟩ : MethodName) prog_13_method_8_code 4 none :: ws) ({ frames := 1, cells := 0, slots := 0, locals := 13 } : Room)) (fun a U => a = #[(.ref r0), (.int (1 : Int32)), (.int p2)] ∧ Z.Warmed39 U.vm ∧ U.heap = h0) (fun _ _ _ _ _ => True) (fun _ U o U' => ∃ v L, o = .returned v ∧ Q8_3_1 Z r0 p2 ar w kk u0 u1 u2 h0 n0 v U'.heap L ∧ FrameEnd U o U' L ({ frames := 1, cells := 0, slots := 0, locals := 13 } : Room).cells ({ frames := 1, cells := 0, slots := 0, locals := 13 } : Room).slots) := by
  refine MetFree.of_bodySF (plainFor_of_name own_pn0) hisR ?_
  intro p e s m args below meth c s₁ Bd hml0 hP hK
  obtain ⟨rfl, hZ, hh⟩ := hP
  have hx := Bd.exec
  have hby := Bd.bytes
  have hml : c.maxLocals = 4 := hml0
  have hown : s.vm.findClass "org/ludarium/games/sabacc/Chips" = some m.cls := findClass_of_methodNamed Bd.named
  have hnm := (name_of_methodNamed Bd.named Bd.method).1
  have X0 : Stand p l e ({ frames := 1, cells := 0, slots := 0, locals := 13 } : Room) s m #[(.ref r0), (.int (1 : Int32)), (.int p2)] below meth c s₁ [] 0 0 := Stand.of_body Bd
  have e0 : s₁.heap = h0 := by rw [← hh, Bd.state]; rfl
  have N0 := Fr.nil n0
  have KR : Keep h0 h0 [ar, r0] := Keep.refl h0 _
  show Good p e below (fun o U' => ∃ v L, o = .returned v ∧ Q8_3_1 Z r0 p2 ar w kk u0 u1 u2 h0 n0 v U'.heap L ∧ FrameEnd s o U' L ({ frames := 1, cells := 0, slots := 0, locals := 13 } : Room).cells ({ frames := 1, cells := 0, slots := 0, locals := 13 } : Room).slots) _
  refine Good.back (S' := s₁.setTop (mkF m 0 #[.val (.ref r0), .val (.int (1 : Int32)), .val (.int p2), .unset] [])) (fun t k => castTop (own_ef_8_3_1 m r0 (1 : Int32) p2) k) ?_
  show Good p e below _ (s₁.setTop (mkF m 0 #[.val (.ref r0), .val (.int (1 : Int32)), .val (.int p2), .unset] []))
  refine Good.back (fun _ k => XS.iloadN X0.here hx rfl (hb hby own_d8_0) rfl k) ?_
  show Good p e below _ (s₁.setTop (mkF m 1 #[.val (.ref r0), .val (.int (1 : Int32)), .val (.int p2), .unset] [(.int p2)]))
  refine Good.back (fun _ k => XS.aloadN X0.here hx rfl (hb hby own_d8_1) rfl rfl k) ?_
  show Good p e below _ (s₁.setTop (mkF m 2 #[.val (.ref r0), .val (.int (1 : Int32)), .val (.int p2), .unset] [(.ref r0), (.int p2)]))
  obtain ⟨T1, X1, e1, st1⟩ := getF X0 hx hZ hown (host := "") (Or.inl (hw _ (List.mem_of_getElem? (i := 13) rfl))) Via.refl e0 F_held (g := (mkF m 2 #[.val (.ref r0), .val (.int (1 : Int32)), .val (.int p2), .unset] [(.ref r0), (.int p2)])) rfl rfl (hb hby own_d8_2)
  refine Good.back st1 ?_
  show Good p e below _ (T1.setTop (mkF m 5 #[.val (.ref r0), .val (.int (1 : Int32)), .val (.int p2), .unset] [(.ref ar), (.int p2)]))
  refine Good.back (fun _ k => XS.iloadN X1.here hx rfl (hb hby own_d8_5) rfl k) ?_
  show Good p e below _ (T1.setTop (mkF m 6 #[.val (.ref r0), .val (.int (1 : Int32)), .val (.int p2), .unset] [(.int (1 : Int32)), (.ref ar), (.int p2)]))
  refine Good.back (fun _ k => XS.iconst X1.here hx rfl (hb hby own_d8_6) k) ?_
  show Good p e below _ (T1.setTop (mkF m 7 #[.val (.ref r0), .val (.int (1 : Int32)), .val (.int p2), .unset] [(.int (1 : Int32)), (.int (1 : Int32)), (.ref ar), (.int p2)]))
  refine Good.back (fun _ k => XS.isub X1.here hx rfl (hb hby own_d8_7) rfl k) ?_
  show Good p e below _ (T1.setTop (mkF m 8 #[.val (.ref r0), .val (.int (1 : Int32)), .val (.int p2), .unset] [(.int ((1 : Int32) - (1 : Int32))), (.ref ar), (.int p2)]))
  rw [show (((1 : Int32) - (1 : Int32)) : Int32) = (0 : Int32) from by decide]
  show Good p e below _ (T1.setTop (mkF m 8 #[.val (.ref r0), .val (.int (1 : Int32)), .val (.int p2), .unset] [(.int (0 : Int32)), (.ref ar), (.int p2)]))
  have fc2 := V0
  obtain ⟨cl2, Ar2, q2, S2, N2', H2, G2⟩ := fc2
  have hin2 : ¬ ((0 : Int32) < 0 ∨ cl2.slots.size ≤ ((0 : Int32)).toNatClampNeg) := inb_of S2 ⟨by decide, by decide⟩
  have hat2 : cl2.slots[((0 : Int32)).toNatClampNeg]? = some (.int u0) := Has.at H2 hin2 rfl
  refine Good.back (X1.iaload hx (j := (0 : Int32)) (v := (.int u0)) (by rw [e1]; exact Ar2.1) (State.isArrayOf_alike hZ.alike Ar2.2.1) Ar2.2.2 hin2 hat2 (g := (mkF m 8 #[.val (.ref r0), .val (.int (1 : Int32)), .val (.int p2), .unset] [(.int (0 : Int32)), (.ref ar), (.int p2)])) rfl rfl (hb hby own_d8_8)) ?_
  show Good p e below _ (T1.setTop (mkF m 9 #[.val (.ref r0), .val (.int (1 : Int32)), .val (.int p2), .unset] [(.int u0), (.int p2)]))
  obtain ⟨_, _, ⟨T3, L3, k3, n3⟩, -, X3, ⟨Lc3, hQ3, l3, y3, z3⟩, st3⟩ := Jvm.LawKit.callS X1 hx (y := (⟨"java/lang/Math", "min", "(II)I"⟩ : MethodName)) hown (mvT hZ (hw _ (List.mem_of_getElem? (i := 41) rfl))) (mvT hZ (hw _ (List.mem_of_getElem? (i := 42) rfl))) (mvT hZ (hw _ (List.mem_of_getElem? (i := 43) rfl))) (mvT hZ (hw _ (List.mem_of_getElem? (i := 44) rfl))) (by decide) (backOf (W := 0) (rm9 l Z a0 hw [] p2 u0  h0 n0 Z0 ) hZ (hw _ (List.mem_of_getElem? (i := 44) rfl)) (hw _ (List.mem_of_getElem? (i := 43) rfl)) (by decide) (by decide)) (g := (mkF m 9 #[.val (.ref r0), .val (.int (1 : Int32)), .val (.int p2), .unset] [(.int u0), (.int p2)])) rfl (by rw [hml]; rfl) (argsL := [(.int p2), (.int u0)]) (rest := []) (lenOf own_pd84 rfl) rfl (by show 2 * 0 + _ ≤ _; exact Nat.le_of_eq rfl) (hb hby own_d8_9) (fun _ _ => ⟨rfl, e1, (by decide : 0 + 0 ≤ _), (by decide : 0 + 0 ≤ _)⟩)
  dsimp only [Pt.U, Pt.locs, Pt.cells, Pt.slots] at X3 l3 y3 z3 st3 hQ3
  subst l3 y3 z3
  obtain ⟨rfl, N3q, eh3⟩ := hQ3
  have N3 := Fr.app N0 N3q
  refine Good.back st3 ?_
  show Good p e below _ (T3.setTop (mkF m 12 #[.val (.ref r0), .val (.int (1 : Int32)), .val (.int p2), .unset] [(.int (if u0 < p2 then u0 else p2))]))
  refine Good.back (fun _ k => XS.istoreN X3.here hx rfl (hb hby own_d8_12) rfl (l' := #[.val (.ref r0), .val (.int (1 : Int32)), .val (.int p2), .val (.int (if u0 < p2 then u0 else p2))]) rfl k) ?_
  show Good p e below _ (T3.setTop (mkF m 13 #[.val (.ref r0), .val (.int (1 : Int32)), .val (.int p2), .val (.int (if u0 < p2 then u0 else p2))] []))
  refine Good.back (fun _ k => XS.aloadN X3.here hx rfl (hb hby own_d8_13) rfl rfl k) ?_
  show Good p e below _ (T3.setTop (mkF m 14 #[.val (.ref r0), .val (.int (1 : Int32)), .val (.int p2), .val (.int (if u0 < p2 then u0 else p2))] [(.ref r0)]))
  obtain ⟨T4, X4, e4, st4⟩ := getF X3 hx hZ hown (host := "") (Or.inl (hw _ (List.mem_of_getElem? (i := 13) rfl))) Via.refl eh3 F_held (g := (mkF m 14 #[.val (.ref r0), .val (.int (1 : Int32)), .val (.int p2), .val (.int (if u0 < p2 then u0 else p2))] [(.ref r0)])) rfl rfl (hb hby own_d8_14)
  refine Good.back st4 ?_
  show Good p e below _ (T4.setTop (mkF m 17 #[.val (.ref r0), .val (.int (1 : Int32)), .val (.int p2), .val (.int (if u0 < p2 then u0 else p2))] [(.ref ar)]))
  refine Good.back (fun _ k => XS.iloadN X4.here hx rfl (hb hby own_d8_17) rfl k) ?_
  show Good p e below _ (T4.setTop (mkF m 18 #[.val (.ref r0), .val (.int (1 : Int32)), .val (.int p2), .val (.int (if u0 < p2 then u0 else p2))] [(.int (1 : Int32)), (.ref ar)]))
  refine Good.back (fun _ k => XS.iconst X4.here hx rfl (hb hby own_d8_18) k) ?_
  show Good p e below _ (T4.setTop (mkF m 19 #[.val (.ref r0), .val (.int (1 : Int32)), .val (.int p2), .val (.int (if u0 < p2 then u0 else p2))] [(.int (1 : Int32)), (.int (1 : Int32)), (.ref ar)]))
  refine Good.back (fun _ k => XS.isub X4.here hx rfl (hb hby own_d8_19) rfl k) ?_
  show Good p e below _ (T4.setTop (mkF m 20 #[.val (.ref r0), .val (.int (1 : Int32)), .val (.int p2), .val (.int (if u0 < p2 then u0 else p2))] [(.int ((1 : Int32) - (1 : Int32))), (.ref ar)]))
  rw [show (((1 : Int32) - (1 : Int32)) : Int32) = (0 : Int32) from by decide]
  show Good p e below _ (T4.setTop (mkF m 20 #[.val (.ref r0), .val (.int (1 : Int32)), .val (.int p2), .val (.int (if u0 < p2 then u0 else p2))] [(.int (0 : Int32)), (.ref ar)]))
  refine Good.back (fun _ k => Jvm.Free.XT.dup2 X4.here hx rfl (hb hby own_d8_20) rfl rfl rfl k) ?_
  show Good p e below _ (T4.setTop (mkF m 21 #[.val (.ref r0), .val (.int (1 : Int32)), .val (.int p2), .val (.int (if u0 < p2 then u0 else p2))] [(.int (0 : Int32)), (.ref ar), (.int (0 : Int32)), (.ref ar)]))
  have fc5 := V0
  obtain ⟨cl5, Ar5, q5, S5, N5', H5, G5⟩ := fc5
  have hin5 : ¬ ((0 : Int32) < 0 ∨ cl5.slots.size ≤ ((0 : Int32)).toNatClampNeg) := inb_of S5 ⟨by decide, by decide⟩
  have hat5 : cl5.slots[((0 : Int32)).toNatClampNeg]? = some (.int u0) := Has.at H5 hin5 rfl
  refine Good.back (X4.iaload hx (j := (0 : Int32)) (v := (.int u0)) (by rw [e4]; exact Ar5.1) (State.isArrayOf_alike hZ.alike Ar5.2.1) Ar5.2.2 hin5 hat5 (g := (mkF m 21 #[.val (.ref r0), .val (.int (1 : Int32)), .val (.int p2), .val (.int (if u0 < p2 then u0 else p2))] [(.int (0 : Int32)), (.ref ar), (.int (0 : Int32)), (.ref ar)])) rfl rfl (hb hby own_d8_21)) ?_
  show Good p e below _ (T4.setTop (mkF m 22 #[.val (.ref r0), .val (.int (1 : Int32)), .val (.int p2), .val (.int (if u0 < p2 then u0 else p2))] [(.int u0), (.int (0 : Int32)), (.ref ar)]))
  refine Good.back (fun _ k => XS.iloadN X4.here hx rfl (hb hby own_d8_22) rfl k) ?_
  show Good p e below _ (T4.setTop (mkF m 23 #[.val (.ref r0), .val (.int (1 : Int32)), .val (.int p2), .val (.int (if u0 < p2 then u0 else p2))] [(.int (if u0 < p2 then u0 else p2)), (.int u0), (.int (0 : Int32)), (.ref ar)]))
  refine Good.back (fun _ k => XS.isub X4.here hx rfl (hb hby own_d8_23) rfl k) ?_
  show Good p e below _ (T4.setTop (mkF m 24 #[.val (.ref r0), .val (.int (1 : Int32)), .val (.int p2), .val (.int (if u0 < p2 then u0 else p2))] [(.int (u0 - (if u0 < p2 then u0 else p2))), (.int (0 : Int32)), (.ref ar)]))
  have fc6 := V0
  obtain ⟨cl6, Ar6, q6, S6, N6', H6, G6⟩ := fc6
  have hin6 : ¬ ((0 : Int32) < 0 ∨ cl6.slots.size ≤ ((0 : Int32)).toNatClampNeg) := inb_of S6 ⟨by decide, by decide⟩
  obtain ⟨T6, h6, X6, e6, W6, st6⟩ := stI X4 hx hZ e4 Ar6 (j := (0 : Int32)) hin6 (g := (mkF m 24 #[.val (.ref r0), .val (.int (1 : Int32)), .val (.int p2), .val (.int (if u0 < p2 then u0 else p2))] [(.int (u0 - (if u0 < p2 then u0 else p2))), (.int (0 : Int32)), (.ref ar)])) rfl rfl (hb hby own_d8_24)
  refine Good.back st6 ?_
  have f_7 : Arv Z h6 ar kk .int (3 : Int32) [(.int (u0 - (if u0 < p2 then u0 else p2))), (.int u1), (.int u2)] (.int (0 : Int32)) := Arv.set Ar6 q6 S6 N6' H6 G6 rfl W6 0 rfl (Nat.le_of_ble_eq_true rfl)
  have N6 := Fr.snoc X6 N3 ga
  have Z8 : n0 ≤ h6.size := Nat.le_trans Z0 (Keep.of_wr W6).1
  have K9 : Keep h0 h6 [ar, r0] := KR.wr W6 (Or.inl (List.mem_of_getElem? (i := 0) rfl))
  show Good p e below _ (T6.setTop (mkF m 25 #[.val (.ref r0), .val (.int (1 : Int32)), .val (.int p2), .val (.int (if u0 < p2 then u0 else p2))] []))
  refine Good.back (fun _ k => XS.aloadN X6.here hx rfl (hb hby own_d8_25) rfl rfl k) ?_
  show Good p e below _ (T6.setTop (mkF m 26 #[.val (.ref r0), .val (.int (1 : Int32)), .val (.int p2), .val (.int (if u0 < p2 then u0 else p2))] [(.ref r0)]))
  refine Good.back (fun _ k => XS.dup X6.here hx rfl (hb hby own_d8_26) rfl rfl k) ?_
  show Good p e below _ (T6.setTop (mkF m 27 #[.val (.ref r0), .val (.int (1 : Int32)), .val (.int p2), .val (.int (if u0 < p2 then u0 else p2))] [(.ref r0), (.ref r0)]))
  have f_10 : Fld Z h6 r0 "org/ludarium/games/sabacc/Chips" "sabaccPot" "I" (.int w) := Fld.other W6 F_pot (Or.inl hne)
  obtain ⟨T11, X11, e11, st11⟩ := getF X6 hx hZ hown (host := "") (Or.inl (hw _ (List.mem_of_getElem? (i := 15) rfl))) Via.refl e6 f_10 (g := (mkF m 27 #[.val (.ref r0), .val (.int (1 : Int32)), .val (.int p2), .val (.int (if u0 < p2 then u0 else p2))] [(.ref r0), (.ref r0)])) rfl rfl (hb hby own_d8_27)
  refine Good.back st11 ?_
  show Good p e below _ (T11.setTop (mkF m 30 #[.val (.ref r0), .val (.int (1 : Int32)), .val (.int p2), .val (.int (if u0 < p2 then u0 else p2))] [(.int w), (.ref r0)]))
  refine Good.back (fun _ k => XS.iloadN X11.here hx rfl (hb hby own_d8_30) rfl k) ?_
  show Good p e below _ (T11.setTop (mkF m 31 #[.val (.ref r0), .val (.int (1 : Int32)), .val (.int p2), .val (.int (if u0 < p2 then u0 else p2))] [(.int (if u0 < p2 then u0 else p2)), (.int w), (.ref r0)]))
  refine Good.back (fun _ k => XS.iadd X11.here hx rfl (hb hby own_d8_31) rfl k) ?_
  show Good p e below _ (T11.setTop (mkF m 32 #[.val (.ref r0), .val (.int (1 : Int32)), .val (.int p2), .val (.int (if u0 < p2 then u0 else p2))] [(.int (w + (if u0 < p2 then u0 else p2))), (.ref r0)]))
  have f_12 : Exa Z h6 r0 "org/ludarium/games/sabacc/Chips" := Exa.wr W6 E0
  obtain ⟨T13, h13, X13, e13, W13, st13⟩ := putF X11 hx hZ hown (host := "") (Or.inl (hw _ (List.mem_of_getElem? (i := 15) rfl))) Via.refl e11 f_10 f_12 (Or.inl (hw _ (List.mem_of_getElem? (i := 16) rfl))) (hw _ (List.mem_of_getElem? (i := 1) rfl)) (ty := .int) (by decide) rfl rfl (g := (mkF m 32 #[.val (.ref r0), .val (.int (1 : Int32)), .val (.int p2), .val (.int (if u0 < p2 then u0 else p2))] [(.int (w + (if u0 < p2 then u0 else p2))), (.ref r0)])) rfl rfl (hb hby own_d8_32)
  refine Good.back st13 ?_
  have f_14 : Fld Z h13 r0 "org/ludarium/games/sabacc/Chips" "sabaccPot" "I" (.int (w + (if u0 < p2 then u0 else p2))) := Fld.same W13 f_10
  have N13 := Fr.snoc X13 N6 g0
  have Z15 : n0 ≤ h13.size := Nat.le_trans Z8 (Keep.of_wr W13).1
  have K16 : Keep h0 h13 [ar, r0] := K9.wr W13 (Or.inl (List.mem_of_getElem? (i := 1) rfl))
  show Good p e below _ (T13.setTop (mkF m 35 #[.val (.ref r0), .val (.int (1 : Int32)), .val (.int p2), .val (.int (if u0 < p2 then u0 else p2))] []))
  obtain ⟨fs17, hr17, hrun17, hended17, hW17, hsame17⟩ := X13.leave (v := none) (fun _ => rfl)
  refine Good.done (X13.returnOut hx Bd.returns (hb hby own_d8_35) hr17) hrun17 hended17 ⟨_, _, rfl, ?_, ⟨_, rfl⟩, hW17, hsame17.mono (by decide) (by decide)⟩
  show Q8_3_1 Z r0 p2 ar w kk u0 u1 u2 h0 n0 _ T13.heap _
  rw [e13]
  have f_18 : Arv Z h13 ar kk .int (3 : Int32) [(.int (u0 - (if u0 < p2 then u0 else p2))), (.int u1), (.int u2)] (.int (0 : Int32)) := Arv.other f_7 W13 (Ne.symm hne)
  have f_19 : Fld Z h6 r0 "org/ludarium/games/sabacc/Chips" "held" "[I" (.ref ar) := Fld.other W6 F_held (Or.inl hne)
  have f_20 : Fld Z h13 r0 "org/ludarium/games/sabacc/Chips" "held" "[I" (.ref ar) := Fld.other W13 f_19 (Or.inr (slot_ne (Or.inr (hw _ (List.mem_of_getElem? (i := 14) rfl))) (Or.inl (hw _ (List.mem_of_getElem? (i := 16) rfl))) (by decide) (t := (.array .int)) (t' := .int) (by decide) (by decide)))
  exact ⟨rfl, N13, K16, f_18, f_20, f_14⟩
theorem own_ef_10_3_1 (m : MethodId) (x0 : Addr) (x1 : Int32) : entryFrame m #[(.ref x0), (.int x1)] 2 = mkF m 0 #[.val (.ref x0), .val (.int x1)] [] := by first | (simp [entryFrame, mkF, argsToLocals, Value.category]; done) | rfl
def Q10_3_1 (Z : State) (r0 : Addr) (ar : Addr) (kk : ClassId) (u0 : Int32) (u1 : Int32) (u2 : Int32) (h0 : Heap) (n0 : Nat) (v : Option Value) (h : Heap) (L : List Loc) : Prop := v = some (.int u0) ∧ Fr n0 L ∧ h = h0
set_option maxRecDepth 65536 in
set_option maxHeartbeats 40000000 in
theorem rm10_3_1 (l : Launch) (Z : State) (a0 : Array Value) (hw : ∀ d ∈ tables_1, d.before a0 Z = true) (ws : List Jvm.Cond) (r0 : Addr) (ar : Addr) (kk : ClassId) (u0 : Int32) (u1 : Int32) (u2 : Int32) (h0 : Heap) (n0 : Nat) (Z0 : n0 ≤ h0.size) (F_held : Fld Z h0 r0 "org/ludarium/games/sabacc/Chips" "held" "[I" (.ref ar)) (V0 : Arv Z h0 ar kk .int (3 : Int32) [(.int u0), (.int u1), (.int u2)] (.int (0 : Int32))) :
    MetFree l (⟨"org/ludarium/games/sabacc/Chips", "held", "(I)I"⟩ : MethodName) (head1 (Jvm.Cond.code (⟨"org/ludarium/games/sabacc/Chips", "held", "(I)I"⟩ : MethodName) prog_13_method_5_code 2 (some .int) :: ws) ({ frames := 0, cells := 0, slots := 0, locals := 0 } : Room)) (fun a U => a = #[(.ref r0), (.int (1 : Int32))] ∧ Z.Warmed39 U.vm ∧ U.heap = h0) (fun _ _ _ _ _ => True) (fun _ U o U' => ∃ v L, o = .returned v ∧ Q10_3_1 Z r0 ar kk u0 u1 u2 h0 n0 v U'.heap L ∧ FrameEnd U o U' L ({ frames := 0, cells := 0, slots := 0, locals := 0 } : Room).cells ({ frames := 0, cells := 0, slots := 0, locals := 0 } : Room).slots) := by
  refine MetFree.of_bodySF (plainFor_of_name own_pn0) hisR ?_
  intro p e s m args below meth c s₁ Bd hml0 hP hK
  obtain ⟨rfl, hZ, hh⟩ := hP
  have hx := Bd.exec
  have hby := Bd.bytes
  have hml : c.maxLocals = 2 := hml0
  have hown : s.vm.findClass "org/ludarium/games/sabacc/Chips" = some m.cls := findClass_of_methodNamed Bd.named
  have hnm := (name_of_methodNamed Bd.named Bd.method).1
  have X0 : Stand p l e ({ frames := 0, cells := 0, slots := 0, locals := 0 } : Room) s m #[(.ref r0), (.int (1 : Int32))] below meth c s₁ [] 0 0 := Stand.of_body Bd
  have e0 : s₁.heap = h0 := by rw [← hh, Bd.state]; rfl
  have N0 := Fr.nil n0
  show Good p e below (fun o U' => ∃ v L, o = .returned v ∧ Q10_3_1 Z r0 ar kk u0 u1 u2 h0 n0 v U'.heap L ∧ FrameEnd s o U' L ({ frames := 0, cells := 0, slots := 0, locals := 0 } : Room).cells ({ frames := 0, cells := 0, slots := 0, locals := 0 } : Room).slots) _
  refine Good.back (S' := s₁.setTop (mkF m 0 #[.val (.ref r0), .val (.int (1 : Int32))] [])) (fun t k => castTop (own_ef_10_3_1 m r0 (1 : Int32)) k) ?_
  show Good p e below _ (s₁.setTop (mkF m 0 #[.val (.ref r0), .val (.int (1 : Int32))] []))
  refine Good.back (fun _ k => XS.aloadN X0.here hx rfl (hb hby own_d10_0) rfl rfl k) ?_
  show Good p e below _ (s₁.setTop (mkF m 1 #[.val (.ref r0), .val (.int (1 : Int32))] [(.ref r0)]))
  obtain ⟨T1, X1, e1, st1⟩ := getF X0 hx hZ hown (host := "") (Or.inl (hw _ (List.mem_of_getElem? (i := 13) rfl))) Via.refl e0 F_held (g := (mkF m 1 #[.val (.ref r0), .val (.int (1 : Int32))] [(.ref r0)])) rfl rfl (hb hby own_d10_1)
  refine Good.back st1 ?_
  show Good p e below _ (T1.setTop (mkF m 4 #[.val (.ref r0), .val (.int (1 : Int32))] [(.ref ar)]))
  refine Good.back (fun _ k => XS.iloadN X1.here hx rfl (hb hby own_d10_4) rfl k) ?_
  show Good p e below _ (T1.setTop (mkF m 5 #[.val (.ref r0), .val (.int (1 : Int32))] [(.int (1 : Int32)), (.ref ar)]))
  refine Good.back (fun _ k => XS.iconst X1.here hx rfl (hb hby own_d10_5) k) ?_
  show Good p e below _ (T1.setTop (mkF m 6 #[.val (.ref r0), .val (.int (1 : Int32))] [(.int (1 : Int32)), (.int (1 : Int32)), (.ref ar)]))
  refine Good.back (fun _ k => XS.isub X1.here hx rfl (hb hby own_d10_6) rfl k) ?_
  show Good p e below _ (T1.setTop (mkF m 7 #[.val (.ref r0), .val (.int (1 : Int32))] [(.int ((1 : Int32) - (1 : Int32))), (.ref ar)]))
  rw [show (((1 : Int32) - (1 : Int32)) : Int32) = (0 : Int32) from by decide]
  show Good p e below _ (T1.setTop (mkF m 7 #[.val (.ref r0), .val (.int (1 : Int32))] [(.int (0 : Int32)), (.ref ar)]))
  have fc2 := V0
  obtain ⟨cl2, Ar2, q2, S2, N2', H2, G2⟩ := fc2
  have hin2 : ¬ ((0 : Int32) < 0 ∨ cl2.slots.size ≤ ((0 : Int32)).toNatClampNeg) := inb_of S2 ⟨by decide, by decide⟩
  have hat2 : cl2.slots[((0 : Int32)).toNatClampNeg]? = some (.int u0) := Has.at H2 hin2 rfl
  refine Good.back (X1.iaload hx (j := (0 : Int32)) (v := (.int u0)) (by rw [e1]; exact Ar2.1) (State.isArrayOf_alike hZ.alike Ar2.2.1) Ar2.2.2 hin2 hat2 (g := (mkF m 7 #[.val (.ref r0), .val (.int (1 : Int32))] [(.int (0 : Int32)), (.ref ar)])) rfl rfl (hb hby own_d10_7)) ?_
  show Good p e below _ (T1.setTop (mkF m 8 #[.val (.ref r0), .val (.int (1 : Int32))] [(.int u0)]))
  obtain ⟨fs3, hr3, hrun3, hended3, hW3, hsame3⟩ := X1.leave (v := some (.int u0)) (fun h => by rw [Bd.returns] at h; cases h)
  refine Good.done (retI X1 hx Bd.returns (hb hby own_d10_8) hr3) hrun3 hended3 ⟨_, _, rfl, ?_, ⟨_, rfl⟩, hW3, hsame3.mono (by decide) (by decide)⟩
  show Q10_3_1 Z r0 ar kk u0 u1 u2 h0 n0 _ T1.heap _
  rw [e1]
  exact ⟨rfl, N0, rfl⟩
theorem own_ef_7_3_2 (m : MethodId) (x0 : Addr) (x1 : Int32) (x2 : Int32) : entryFrame m #[(.ref x0), (.int x1), (.int x2)] 3 = mkF m 0 #[.val (.ref x0), .val (.int x1), .val (.int x2)] [] := by first | (simp [entryFrame, mkF, argsToLocals, Value.category]; done) | rfl
def Q7_3_2 (Z : State) (r0 : Addr) (p2 : Int32) (ar : Addr) (kk : ClassId) (u0 : Int32) (u1 : Int32) (u2 : Int32) (h0 : Heap) (n0 : Nat) (v : Option Value) (h : Heap) (L : List Loc) : Prop := v = none ∧ Fr n0 L ∧ Keep h0 h [ar] ∧ Arv Z h ar kk .int (3 : Int32) [(.int u0), (.int (u1 + p2)), (.int u2)] (.int (0 : Int32))
set_option maxRecDepth 65536 in
set_option maxHeartbeats 40000000 in
theorem rm7_3_2 (l : Launch) (Z : State) (a0 : Array Value) (hw : ∀ d ∈ tables_1, d.before a0 Z = true) (ws : List Jvm.Cond) (r0 : Addr) (p2 : Int32) (ar : Addr) (kk : ClassId) (u0 : Int32) (u1 : Int32) (u2 : Int32) (h0 : Heap) (n0 : Nat) (Z0 : n0 ≤ h0.size) (F_held : Fld Z h0 r0 "org/ludarium/games/sabacc/Chips" "held" "[I" (.ref ar)) (V0 : Arv Z h0 ar kk .int (3 : Int32) [(.int u0), (.int u1), (.int u2)] (.int (0 : Int32))) (ga : n0 ≤ ar) :
    MetFree l (⟨"org/ludarium/games/sabacc/Chips", "win", "(II)V"⟩ : MethodName) (head1 (Jvm.Cond.code (⟨"org/ludarium/games/sabacc/Chips", "win", "(II)V"⟩ : MethodName) prog_13_method_10_code 3 none :: ws) ({ frames := 0, cells := 0, slots := 0, locals := 0 } : Room)) (fun a U => a = #[(.ref r0), (.int (2 : Int32)), (.int p2)] ∧ Z.Warmed39 U.vm ∧ U.heap = h0) (fun _ _ _ _ _ => True) (fun _ U o U' => ∃ v L, o = .returned v ∧ Q7_3_2 Z r0 p2 ar kk u0 u1 u2 h0 n0 v U'.heap L ∧ FrameEnd U o U' L ({ frames := 0, cells := 0, slots := 0, locals := 0 } : Room).cells ({ frames := 0, cells := 0, slots := 0, locals := 0 } : Room).slots) := by
  refine MetFree.of_bodySF (plainFor_of_name own_pn0) hisR ?_
  intro p e s m args below meth c s₁ Bd hml0 hP hK
  obtain ⟨rfl, hZ, hh⟩ := hP
  have hx := Bd.exec
  have hby := Bd.bytes
  have hml : c.maxLocals = 3 := hml0
  have hown : s.vm.findClass "org/ludarium/games/sabacc/Chips" = some m.cls := findClass_of_methodNamed Bd.named
  have hnm := (name_of_methodNamed Bd.named Bd.method).1
  have X0 : Stand p l e ({ frames := 0, cells := 0, slots := 0, locals := 0 } : Room) s m #[(.ref r0), (.int (2 : Int32)), (.int p2)] below meth c s₁ [] 0 0 := Stand.of_body Bd
  have e0 : s₁.heap = h0 := by rw [← hh, Bd.state]; rfl
  have N0 := Fr.nil n0
  have KR : Keep h0 h0 [ar] := Keep.refl h0 _
  show Good p e below (fun o U' => ∃ v L, o = .returned v ∧ Q7_3_2 Z r0 p2 ar kk u0 u1 u2 h0 n0 v U'.heap L ∧ FrameEnd s o U' L ({ frames := 0, cells := 0, slots := 0, locals := 0 } : Room).cells ({ frames := 0, cells := 0, slots := 0, locals := 0 } : Room).slots) _
  refine Good.back (S' := s₁.setTop (mkF m 0 #[.val (.ref r0), .val (.int (2 : Int32)), .val (.int p2)] [])) (fun t k => castTop (own_ef_7_3_2 m r0 (2 : Int32) p2) k) ?_
  show Good p e below _ (s₁.setTop (mkF m 0 #[.val (.ref r0), .val (.int (2 : Int32)), .val (.int p2)] []))
  refine Good.back (fun _ k => XS.aloadN X0.here hx rfl (hb hby own_d7_0) rfl rfl k) ?_
  show Good p e below _ (s₁.setTop (mkF m 1 #[.val (.ref r0), .val (.int (2 : Int32)), .val (.int p2)] [(.ref r0)]))
  obtain ⟨T1, X1, e1, st1⟩ := getF X0 hx hZ hown (host := "") (Or.inl (hw _ (List.mem_of_getElem? (i := 13) rfl))) Via.refl e0 F_held (g := (mkF m 1 #[.val (.ref r0), .val (.int (2 : Int32)), .val (.int p2)] [(.ref r0)])) rfl rfl (hb hby own_d7_1)
  refine Good.back st1 ?_
  show Good p e below _ (T1.setTop (mkF m 4 #[.val (.ref r0), .val (.int (2 : Int32)), .val (.int p2)] [(.ref ar)]))
  refine Good.back (fun _ k => XS.iloadN X1.here hx rfl (hb hby own_d7_4) rfl k) ?_
  show Good p e below _ (T1.setTop (mkF m 5 #[.val (.ref r0), .val (.int (2 : Int32)), .val (.int p2)] [(.int (2 : Int32)), (.ref ar)]))
  refine Good.back (fun _ k => XS.iconst X1.here hx rfl (hb hby own_d7_5) k) ?_
  show Good p e below _ (T1.setTop (mkF m 6 #[.val (.ref r0), .val (.int (2 : Int32)), .val (.int p2)] [(.int (1 : Int32)), (.int (2 : Int32)), (.ref ar)]))
  refine Good.back (fun _ k => XS.isub X1.here hx rfl (hb hby own_d7_6) rfl k) ?_
  show Good p e below _ (T1.setTop (mkF m 7 #[.val (.ref r0), .val (.int (2 : Int32)), .val (.int p2)] [(.int ((2 : Int32) - (1 : Int32))), (.ref ar)]))
  rw [show (((2 : Int32) - (1 : Int32)) : Int32) = (1 : Int32) from by decide]
  show Good p e below _ (T1.setTop (mkF m 7 #[.val (.ref r0), .val (.int (2 : Int32)), .val (.int p2)] [(.int (1 : Int32)), (.ref ar)]))
  refine Good.back (fun _ k => Jvm.Free.XT.dup2 X1.here hx rfl (hb hby own_d7_7) rfl rfl rfl k) ?_
  show Good p e below _ (T1.setTop (mkF m 8 #[.val (.ref r0), .val (.int (2 : Int32)), .val (.int p2)] [(.int (1 : Int32)), (.ref ar), (.int (1 : Int32)), (.ref ar)]))
  have fc2 := V0
  obtain ⟨cl2, Ar2, q2, S2, N2', H2, G2⟩ := fc2
  have hin2 : ¬ ((1 : Int32) < 0 ∨ cl2.slots.size ≤ ((1 : Int32)).toNatClampNeg) := inb_of S2 ⟨by decide, by decide⟩
  have hat2 : cl2.slots[((1 : Int32)).toNatClampNeg]? = some (.int u1) := Has.at H2 hin2 rfl
  refine Good.back (X1.iaload hx (j := (1 : Int32)) (v := (.int u1)) (by rw [e1]; exact Ar2.1) (State.isArrayOf_alike hZ.alike Ar2.2.1) Ar2.2.2 hin2 hat2 (g := (mkF m 8 #[.val (.ref r0), .val (.int (2 : Int32)), .val (.int p2)] [(.int (1 : Int32)), (.ref ar), (.int (1 : Int32)), (.ref ar)])) rfl rfl (hb hby own_d7_8)) ?_
  show Good p e below _ (T1.setTop (mkF m 9 #[.val (.ref r0), .val (.int (2 : Int32)), .val (.int p2)] [(.int u1), (.int (1 : Int32)), (.ref ar)]))
  refine Good.back (fun _ k => XS.iloadN X1.here hx rfl (hb hby own_d7_9) rfl k) ?_
  show Good p e below _ (T1.setTop (mkF m 10 #[.val (.ref r0), .val (.int (2 : Int32)), .val (.int p2)] [(.int p2), (.int u1), (.int (1 : Int32)), (.ref ar)]))
  refine Good.back (fun _ k => XS.iadd X1.here hx rfl (hb hby own_d7_10) rfl k) ?_
  show Good p e below _ (T1.setTop (mkF m 11 #[.val (.ref r0), .val (.int (2 : Int32)), .val (.int p2)] [(.int (u1 + p2)), (.int (1 : Int32)), (.ref ar)]))
  have fc3 := V0
  obtain ⟨cl3, Ar3, q3, S3, N3', H3, G3⟩ := fc3
  have hin3 : ¬ ((1 : Int32) < 0 ∨ cl3.slots.size ≤ ((1 : Int32)).toNatClampNeg) := inb_of S3 ⟨by decide, by decide⟩
  obtain ⟨T3, h3, X3, e3, W3, st3⟩ := stI X1 hx hZ e1 Ar3 (j := (1 : Int32)) hin3 (g := (mkF m 11 #[.val (.ref r0), .val (.int (2 : Int32)), .val (.int p2)] [(.int (u1 + p2)), (.int (1 : Int32)), (.ref ar)])) rfl rfl (hb hby own_d7_11)
  refine Good.back st3 ?_
  have f_4 : Arv Z h3 ar kk .int (3 : Int32) [(.int u0), (.int (u1 + p2)), (.int u2)] (.int (0 : Int32)) := Arv.set Ar3 q3 S3 N3' H3 G3 rfl W3 1 rfl (Nat.le_of_ble_eq_true rfl)
  have N3 := Fr.snoc X3 N0 ga
  have Z5 : n0 ≤ h3.size := Nat.le_trans Z0 (Keep.of_wr W3).1
  have K6 : Keep h0 h3 [ar] := KR.wr W3 (Or.inl (List.mem_of_getElem? (i := 0) rfl))
  show Good p e below _ (T3.setTop (mkF m 12 #[.val (.ref r0), .val (.int (2 : Int32)), .val (.int p2)] []))
  obtain ⟨fs7, hr7, hrun7, hended7, hW7, hsame7⟩ := X3.leave (v := none) (fun _ => rfl)
  refine Good.done (X3.returnOut hx Bd.returns (hb hby own_d7_12) hr7) hrun7 hended7 ⟨_, _, rfl, ?_, ⟨_, rfl⟩, hW7, hsame7.mono (by decide) (by decide)⟩
  show Q7_3_2 Z r0 p2 ar kk u0 u1 u2 h0 n0 _ T3.heap _
  rw [e3]
  exact ⟨rfl, N3, K6, f_4⟩
theorem own_ef_8_3_2 (m : MethodId) (x0 : Addr) (x1 : Int32) (x2 : Int32) : entryFrame m #[(.ref x0), (.int x1), (.int x2)] 4 = mkF m 0 #[.val (.ref x0), .val (.int x1), .val (.int x2), .unset] [] := by first | (simp [entryFrame, mkF, argsToLocals, Value.category]; done) | rfl
def Q8_3_2 (Z : State) (r0 : Addr) (p2 : Int32) (ar : Addr) (w : Int32) (kk : ClassId) (u0 : Int32) (u1 : Int32) (u2 : Int32) (h0 : Heap) (n0 : Nat) (v : Option Value) (h : Heap) (L : List Loc) : Prop := v = none ∧ Fr n0 L ∧ Keep h0 h [ar, r0] ∧ Arv Z h ar kk .int (3 : Int32) [(.int u0), (.int (u1 - (if u1 < p2 then u1 else p2))), (.int u2)] (.int (0 : Int32)) ∧ Fld Z h r0 "org/ludarium/games/sabacc/Chips" "held" "[I" (.ref ar) ∧ Fld Z h r0 "org/ludarium/games/sabacc/Chips" "sabaccPot" "I" (.int (w + (if u1 < p2 then u1 else p2)))
set_option maxRecDepth 65536 in
set_option maxHeartbeats 40000000 in
theorem rm8_3_2 (l : Launch) (Z : State) (a0 : Array Value) (hw : ∀ d ∈ tables_1, d.before a0 Z = true) (ws : List Jvm.Cond) (r0 : Addr) (p2 : Int32) (ar : Addr) (w : Int32) (kk : ClassId) (u0 : Int32) (u1 : Int32) (u2 : Int32) (h0 : Heap) (n0 : Nat) (Z0 : n0 ≤ h0.size) (E0 : Exa Z h0 r0 "org/ludarium/games/sabacc/Chips") (g0 : n0 ≤ r0) (ga : n0 ≤ ar) (hne : r0 ≠ ar) (F_pot : Fld Z h0 r0 "org/ludarium/games/sabacc/Chips" "sabaccPot" "I" (.int w)) (F_held : Fld Z h0 r0 "org/ludarium/games/sabacc/Chips" "held" "[I" (.ref ar)) (V0 : Arv Z h0 ar kk .int (3 : Int32) [(.int u0), (.int u1), (.int u2)] (.int (0 : Int32))) :
    MetFree l (⟨"org/ludarium/games/sabacc/Chips", "paySabaccPot", "(II)V"⟩ : MethodName) (head1 (Jvm.Cond.code (⟨"org/ludarium/games/sabacc/Chips", "paySabaccPot", "(II)V"⟩ : MethodName) prog_13_method_8_code 4 none :: ws) ({ frames := 1, cells := 0, slots := 0, locals := 13 } : Room)) (fun a U => a = #[(.ref r0), (.int (2 : Int32)), (.int p2)] ∧ Z.Warmed39 U.vm ∧ U.heap = h0) (fun _ _ _ _ _ => True) (fun _ U o U' => ∃ v L, o = .returned v ∧ Q8_3_2 Z r0 p2 ar w kk u0 u1 u2 h0 n0 v U'.heap L ∧ FrameEnd U o U' L ({ frames := 1, cells := 0, slots := 0, locals := 13 } : Room).cells ({ frames := 1, cells := 0, slots := 0, locals := 13 } : Room).slots) := by
  refine MetFree.of_bodySF (plainFor_of_name own_pn0) hisR ?_
  intro p e s m args below meth c s₁ Bd hml0 hP hK
  obtain ⟨rfl, hZ, hh⟩ := hP
  have hx := Bd.exec
  have hby := Bd.bytes
  have hml : c.maxLocals = 4 := hml0
  have hown : s.vm.findClass "org/ludarium/games/sabacc/Chips" = some m.cls := findClass_of_methodNamed Bd.named
  have hnm := (name_of_methodNamed Bd.named Bd.method).1
  have X0 : Stand p l e ({ frames := 1, cells := 0, slots := 0, locals := 13 } : Room) s m #[(.ref r0), (.int (2 : Int32)), (.int p2)] below meth c s₁ [] 0 0 := Stand.of_body Bd
  have e0 : s₁.heap = h0 := by rw [← hh, Bd.state]; rfl
  have N0 := Fr.nil n0
  have KR : Keep h0 h0 [ar, r0] := Keep.refl h0 _
  show Good p e below (fun o U' => ∃ v L, o = .returned v ∧ Q8_3_2 Z r0 p2 ar w kk u0 u1 u2 h0 n0 v U'.heap L ∧ FrameEnd s o U' L ({ frames := 1, cells := 0, slots := 0, locals := 13 } : Room).cells ({ frames := 1, cells := 0, slots := 0, locals := 13 } : Room).slots) _
  refine Good.back (S' := s₁.setTop (mkF m 0 #[.val (.ref r0), .val (.int (2 : Int32)), .val (.int p2), .unset] [])) (fun t k => castTop (own_ef_8_3_2 m r0 (2 : Int32) p2) k) ?_
  show Good p e below _ (s₁.setTop (mkF m 0 #[.val (.ref r0), .val (.int (2 : Int32)), .val (.int p2), .unset] []))
  refine Good.back (fun _ k => XS.iloadN X0.here hx rfl (hb hby own_d8_0) rfl k) ?_
  show Good p e below _ (s₁.setTop (mkF m 1 #[.val (.ref r0), .val (.int (2 : Int32)), .val (.int p2), .unset] [(.int p2)]))
  refine Good.back (fun _ k => XS.aloadN X0.here hx rfl (hb hby own_d8_1) rfl rfl k) ?_
  show Good p e below _ (s₁.setTop (mkF m 2 #[.val (.ref r0), .val (.int (2 : Int32)), .val (.int p2), .unset] [(.ref r0), (.int p2)]))
  obtain ⟨T1, X1, e1, st1⟩ := getF X0 hx hZ hown (host := "") (Or.inl (hw _ (List.mem_of_getElem? (i := 13) rfl))) Via.refl e0 F_held (g := (mkF m 2 #[.val (.ref r0), .val (.int (2 : Int32)), .val (.int p2), .unset] [(.ref r0), (.int p2)])) rfl rfl (hb hby own_d8_2)
  refine Good.back st1 ?_
  show Good p e below _ (T1.setTop (mkF m 5 #[.val (.ref r0), .val (.int (2 : Int32)), .val (.int p2), .unset] [(.ref ar), (.int p2)]))
  refine Good.back (fun _ k => XS.iloadN X1.here hx rfl (hb hby own_d8_5) rfl k) ?_
  show Good p e below _ (T1.setTop (mkF m 6 #[.val (.ref r0), .val (.int (2 : Int32)), .val (.int p2), .unset] [(.int (2 : Int32)), (.ref ar), (.int p2)]))
  refine Good.back (fun _ k => XS.iconst X1.here hx rfl (hb hby own_d8_6) k) ?_
  show Good p e below _ (T1.setTop (mkF m 7 #[.val (.ref r0), .val (.int (2 : Int32)), .val (.int p2), .unset] [(.int (1 : Int32)), (.int (2 : Int32)), (.ref ar), (.int p2)]))
  refine Good.back (fun _ k => XS.isub X1.here hx rfl (hb hby own_d8_7) rfl k) ?_
  show Good p e below _ (T1.setTop (mkF m 8 #[.val (.ref r0), .val (.int (2 : Int32)), .val (.int p2), .unset] [(.int ((2 : Int32) - (1 : Int32))), (.ref ar), (.int p2)]))
  rw [show (((2 : Int32) - (1 : Int32)) : Int32) = (1 : Int32) from by decide]
  show Good p e below _ (T1.setTop (mkF m 8 #[.val (.ref r0), .val (.int (2 : Int32)), .val (.int p2), .unset] [(.int (1 : Int32)), (.ref ar), (.int p2)]))
  have fc2 := V0
  obtain ⟨cl2, Ar2, q2, S2, N2', H2, G2⟩ := fc2
  have hin2 : ¬ ((1 : Int32) < 0 ∨ cl2.slots.size ≤ ((1 : Int32)).toNatClampNeg) := inb_of S2 ⟨by decide, by decide⟩
  have hat2 : cl2.slots[((1 : Int32)).toNatClampNeg]? = some (.int u1) := Has.at H2 hin2 rfl
  refine Good.back (X1.iaload hx (j := (1 : Int32)) (v := (.int u1)) (by rw [e1]; exact Ar2.1) (State.isArrayOf_alike hZ.alike Ar2.2.1) Ar2.2.2 hin2 hat2 (g := (mkF m 8 #[.val (.ref r0), .val (.int (2 : Int32)), .val (.int p2), .unset] [(.int (1 : Int32)), (.ref ar), (.int p2)])) rfl rfl (hb hby own_d8_8)) ?_
  show Good p e below _ (T1.setTop (mkF m 9 #[.val (.ref r0), .val (.int (2 : Int32)), .val (.int p2), .unset] [(.int u1), (.int p2)]))
  obtain ⟨_, _, ⟨T3, L3, k3, n3⟩, -, X3, ⟨Lc3, hQ3, l3, y3, z3⟩, st3⟩ := Jvm.LawKit.callS X1 hx (y := (⟨"java/lang/Math", "min", "(II)I"⟩ : MethodName)) hown (mvT hZ (hw _ (List.mem_of_getElem? (i := 41) rfl))) (mvT hZ (hw _ (List.mem_of_getElem? (i := 42) rfl))) (mvT hZ (hw _ (List.mem_of_getElem? (i := 43) rfl))) (mvT hZ (hw _ (List.mem_of_getElem? (i := 44) rfl))) (by decide) (backOf (W := 0) (rm9 l Z a0 hw [] p2 u1  h0 n0 Z0 ) hZ (hw _ (List.mem_of_getElem? (i := 44) rfl)) (hw _ (List.mem_of_getElem? (i := 43) rfl)) (by decide) (by decide)) (g := (mkF m 9 #[.val (.ref r0), .val (.int (2 : Int32)), .val (.int p2), .unset] [(.int u1), (.int p2)])) rfl (by rw [hml]; rfl) (argsL := [(.int p2), (.int u1)]) (rest := []) (lenOf own_pd84 rfl) rfl (by show 2 * 0 + _ ≤ _; exact Nat.le_of_eq rfl) (hb hby own_d8_9) (fun _ _ => ⟨rfl, e1, (by decide : 0 + 0 ≤ _), (by decide : 0 + 0 ≤ _)⟩)
  dsimp only [Pt.U, Pt.locs, Pt.cells, Pt.slots] at X3 l3 y3 z3 st3 hQ3
  subst l3 y3 z3
  obtain ⟨rfl, N3q, eh3⟩ := hQ3
  have N3 := Fr.app N0 N3q
  refine Good.back st3 ?_
  show Good p e below _ (T3.setTop (mkF m 12 #[.val (.ref r0), .val (.int (2 : Int32)), .val (.int p2), .unset] [(.int (if u1 < p2 then u1 else p2))]))
  refine Good.back (fun _ k => XS.istoreN X3.here hx rfl (hb hby own_d8_12) rfl (l' := #[.val (.ref r0), .val (.int (2 : Int32)), .val (.int p2), .val (.int (if u1 < p2 then u1 else p2))]) rfl k) ?_
  show Good p e below _ (T3.setTop (mkF m 13 #[.val (.ref r0), .val (.int (2 : Int32)), .val (.int p2), .val (.int (if u1 < p2 then u1 else p2))] []))
  refine Good.back (fun _ k => XS.aloadN X3.here hx rfl (hb hby own_d8_13) rfl rfl k) ?_
  show Good p e below _ (T3.setTop (mkF m 14 #[.val (.ref r0), .val (.int (2 : Int32)), .val (.int p2), .val (.int (if u1 < p2 then u1 else p2))] [(.ref r0)]))
  obtain ⟨T4, X4, e4, st4⟩ := getF X3 hx hZ hown (host := "") (Or.inl (hw _ (List.mem_of_getElem? (i := 13) rfl))) Via.refl eh3 F_held (g := (mkF m 14 #[.val (.ref r0), .val (.int (2 : Int32)), .val (.int p2), .val (.int (if u1 < p2 then u1 else p2))] [(.ref r0)])) rfl rfl (hb hby own_d8_14)
  refine Good.back st4 ?_
  show Good p e below _ (T4.setTop (mkF m 17 #[.val (.ref r0), .val (.int (2 : Int32)), .val (.int p2), .val (.int (if u1 < p2 then u1 else p2))] [(.ref ar)]))
  refine Good.back (fun _ k => XS.iloadN X4.here hx rfl (hb hby own_d8_17) rfl k) ?_
  show Good p e below _ (T4.setTop (mkF m 18 #[.val (.ref r0), .val (.int (2 : Int32)), .val (.int p2), .val (.int (if u1 < p2 then u1 else p2))] [(.int (2 : Int32)), (.ref ar)]))
  refine Good.back (fun _ k => XS.iconst X4.here hx rfl (hb hby own_d8_18) k) ?_
  show Good p e below _ (T4.setTop (mkF m 19 #[.val (.ref r0), .val (.int (2 : Int32)), .val (.int p2), .val (.int (if u1 < p2 then u1 else p2))] [(.int (1 : Int32)), (.int (2 : Int32)), (.ref ar)]))
  refine Good.back (fun _ k => XS.isub X4.here hx rfl (hb hby own_d8_19) rfl k) ?_
  show Good p e below _ (T4.setTop (mkF m 20 #[.val (.ref r0), .val (.int (2 : Int32)), .val (.int p2), .val (.int (if u1 < p2 then u1 else p2))] [(.int ((2 : Int32) - (1 : Int32))), (.ref ar)]))
  rw [show (((2 : Int32) - (1 : Int32)) : Int32) = (1 : Int32) from by decide]
  show Good p e below _ (T4.setTop (mkF m 20 #[.val (.ref r0), .val (.int (2 : Int32)), .val (.int p2), .val (.int (if u1 < p2 then u1 else p2))] [(.int (1 : Int32)), (.ref ar)]))
  refine Good.back (fun _ k => Jvm.Free.XT.dup2 X4.here hx rfl (hb hby own_d8_20) rfl rfl rfl k) ?_
  show Good p e below _ (T4.setTop (mkF m 21 #[.val (.ref r0), .val (.int (2 : Int32)), .val (.int p2), .val (.int (if u1 < p2 then u1 else p2))] [(.int (1 : Int32)), (.ref ar), (.int (1 : Int32)), (.ref ar)]))
  have fc5 := V0
  obtain ⟨cl5, Ar5, q5, S5, N5', H5, G5⟩ := fc5
  have hin5 : ¬ ((1 : Int32) < 0 ∨ cl5.slots.size ≤ ((1 : Int32)).toNatClampNeg) := inb_of S5 ⟨by decide, by decide⟩
  have hat5 : cl5.slots[((1 : Int32)).toNatClampNeg]? = some (.int u1) := Has.at H5 hin5 rfl
  refine Good.back (X4.iaload hx (j := (1 : Int32)) (v := (.int u1)) (by rw [e4]; exact Ar5.1) (State.isArrayOf_alike hZ.alike Ar5.2.1) Ar5.2.2 hin5 hat5 (g := (mkF m 21 #[.val (.ref r0), .val (.int (2 : Int32)), .val (.int p2), .val (.int (if u1 < p2 then u1 else p2))] [(.int (1 : Int32)), (.ref ar), (.int (1 : Int32)), (.ref ar)])) rfl rfl (hb hby own_d8_21)) ?_
  show Good p e below _ (T4.setTop (mkF m 22 #[.val (.ref r0), .val (.int (2 : Int32)), .val (.int p2), .val (.int (if u1 < p2 then u1 else p2))] [(.int u1), (.int (1 : Int32)), (.ref ar)]))
  refine Good.back (fun _ k => XS.iloadN X4.here hx rfl (hb hby own_d8_22) rfl k) ?_
  show Good p e below _ (T4.setTop (mkF m 23 #[.val (.ref r0), .val (.int (2 : Int32)), .val (.int p2), .val (.int (if u1 < p2 then u1 else p2))] [(.int (if u1 < p2 then u1 else p2)), (.int u1), (.int (1 : Int32)), (.ref ar)]))
  refine Good.back (fun _ k => XS.isub X4.here hx rfl (hb hby own_d8_23) rfl k) ?_
  show Good p e below _ (T4.setTop (mkF m 24 #[.val (.ref r0), .val (.int (2 : Int32)), .val (.int p2), .val (.int (if u1 < p2 then u1 else p2))] [(.int (u1 - (if u1 < p2 then u1 else p2))), (.int (1 : Int32)), (.ref ar)]))
  have fc6 := V0
  obtain ⟨cl6, Ar6, q6, S6, N6', H6, G6⟩ := fc6
  have hin6 : ¬ ((1 : Int32) < 0 ∨ cl6.slots.size ≤ ((1 : Int32)).toNatClampNeg) := inb_of S6 ⟨by decide, by decide⟩
  obtain ⟨T6, h6, X6, e6, W6, st6⟩ := stI X4 hx hZ e4 Ar6 (j := (1 : Int32)) hin6 (g := (mkF m 24 #[.val (.ref r0), .val (.int (2 : Int32)), .val (.int p2), .val (.int (if u1 < p2 then u1 else p2))] [(.int (u1 - (if u1 < p2 then u1 else p2))), (.int (1 : Int32)), (.ref ar)])) rfl rfl (hb hby own_d8_24)
  refine Good.back st6 ?_
  have f_7 : Arv Z h6 ar kk .int (3 : Int32) [(.int u0), (.int (u1 - (if u1 < p2 then u1 else p2))), (.int u2)] (.int (0 : Int32)) := Arv.set Ar6 q6 S6 N6' H6 G6 rfl W6 1 rfl (Nat.le_of_ble_eq_true rfl)
  have N6 := Fr.snoc X6 N3 ga
  have Z8 : n0 ≤ h6.size := Nat.le_trans Z0 (Keep.of_wr W6).1
  have K9 : Keep h0 h6 [ar, r0] := KR.wr W6 (Or.inl (List.mem_of_getElem? (i := 0) rfl))
  show Good p e below _ (T6.setTop (mkF m 25 #[.val (.ref r0), .val (.int (2 : Int32)), .val (.int p2), .val (.int (if u1 < p2 then u1 else p2))] []))
  refine Good.back (fun _ k => XS.aloadN X6.here hx rfl (hb hby own_d8_25) rfl rfl k) ?_
  show Good p e below _ (T6.setTop (mkF m 26 #[.val (.ref r0), .val (.int (2 : Int32)), .val (.int p2), .val (.int (if u1 < p2 then u1 else p2))] [(.ref r0)]))
  refine Good.back (fun _ k => XS.dup X6.here hx rfl (hb hby own_d8_26) rfl rfl k) ?_
  show Good p e below _ (T6.setTop (mkF m 27 #[.val (.ref r0), .val (.int (2 : Int32)), .val (.int p2), .val (.int (if u1 < p2 then u1 else p2))] [(.ref r0), (.ref r0)]))
  have f_10 : Fld Z h6 r0 "org/ludarium/games/sabacc/Chips" "sabaccPot" "I" (.int w) := Fld.other W6 F_pot (Or.inl hne)
  obtain ⟨T11, X11, e11, st11⟩ := getF X6 hx hZ hown (host := "") (Or.inl (hw _ (List.mem_of_getElem? (i := 15) rfl))) Via.refl e6 f_10 (g := (mkF m 27 #[.val (.ref r0), .val (.int (2 : Int32)), .val (.int p2), .val (.int (if u1 < p2 then u1 else p2))] [(.ref r0), (.ref r0)])) rfl rfl (hb hby own_d8_27)
  refine Good.back st11 ?_
  show Good p e below _ (T11.setTop (mkF m 30 #[.val (.ref r0), .val (.int (2 : Int32)), .val (.int p2), .val (.int (if u1 < p2 then u1 else p2))] [(.int w), (.ref r0)]))
  refine Good.back (fun _ k => XS.iloadN X11.here hx rfl (hb hby own_d8_30) rfl k) ?_
  show Good p e below _ (T11.setTop (mkF m 31 #[.val (.ref r0), .val (.int (2 : Int32)), .val (.int p2), .val (.int (if u1 < p2 then u1 else p2))] [(.int (if u1 < p2 then u1 else p2)), (.int w), (.ref r0)]))
  refine Good.back (fun _ k => XS.iadd X11.here hx rfl (hb hby own_d8_31) rfl k) ?_
  show Good p e below _ (T11.setTop (mkF m 32 #[.val (.ref r0), .val (.int (2 : Int32)), .val (.int p2), .val (.int (if u1 < p2 then u1 else p2))] [(.int (w + (if u1 < p2 then u1 else p2))), (.ref r0)]))
  have f_12 : Exa Z h6 r0 "org/ludarium/games/sabacc/Chips" := Exa.wr W6 E0
  obtain ⟨T13, h13, X13, e13, W13, st13⟩ := putF X11 hx hZ hown (host := "") (Or.inl (hw _ (List.mem_of_getElem? (i := 15) rfl))) Via.refl e11 f_10 f_12 (Or.inl (hw _ (List.mem_of_getElem? (i := 16) rfl))) (hw _ (List.mem_of_getElem? (i := 1) rfl)) (ty := .int) (by decide) rfl rfl (g := (mkF m 32 #[.val (.ref r0), .val (.int (2 : Int32)), .val (.int p2), .val (.int (if u1 < p2 then u1 else p2))] [(.int (w + (if u1 < p2 then u1 else p2))), (.ref r0)])) rfl rfl (hb hby own_d8_32)
  refine Good.back st13 ?_
  have f_14 : Fld Z h13 r0 "org/ludarium/games/sabacc/Chips" "sabaccPot" "I" (.int (w + (if u1 < p2 then u1 else p2))) := Fld.same W13 f_10
  have N13 := Fr.snoc X13 N6 g0
  have Z15 : n0 ≤ h13.size := Nat.le_trans Z8 (Keep.of_wr W13).1
  have K16 : Keep h0 h13 [ar, r0] := K9.wr W13 (Or.inl (List.mem_of_getElem? (i := 1) rfl))
  show Good p e below _ (T13.setTop (mkF m 35 #[.val (.ref r0), .val (.int (2 : Int32)), .val (.int p2), .val (.int (if u1 < p2 then u1 else p2))] []))
  obtain ⟨fs17, hr17, hrun17, hended17, hW17, hsame17⟩ := X13.leave (v := none) (fun _ => rfl)
  refine Good.done (X13.returnOut hx Bd.returns (hb hby own_d8_35) hr17) hrun17 hended17 ⟨_, _, rfl, ?_, ⟨_, rfl⟩, hW17, hsame17.mono (by decide) (by decide)⟩
  show Q8_3_2 Z r0 p2 ar w kk u0 u1 u2 h0 n0 _ T13.heap _
  rw [e13]
  have f_18 : Arv Z h13 ar kk .int (3 : Int32) [(.int u0), (.int (u1 - (if u1 < p2 then u1 else p2))), (.int u2)] (.int (0 : Int32)) := Arv.other f_7 W13 (Ne.symm hne)
  have f_19 : Fld Z h6 r0 "org/ludarium/games/sabacc/Chips" "held" "[I" (.ref ar) := Fld.other W6 F_held (Or.inl hne)
  have f_20 : Fld Z h13 r0 "org/ludarium/games/sabacc/Chips" "held" "[I" (.ref ar) := Fld.other W13 f_19 (Or.inr (slot_ne (Or.inr (hw _ (List.mem_of_getElem? (i := 14) rfl))) (Or.inl (hw _ (List.mem_of_getElem? (i := 16) rfl))) (by decide) (t := (.array .int)) (t' := .int) (by decide) (by decide)))
  exact ⟨rfl, N13, K16, f_18, f_20, f_14⟩
theorem own_ef_10_3_2 (m : MethodId) (x0 : Addr) (x1 : Int32) : entryFrame m #[(.ref x0), (.int x1)] 2 = mkF m 0 #[.val (.ref x0), .val (.int x1)] [] := by first | (simp [entryFrame, mkF, argsToLocals, Value.category]; done) | rfl
def Q10_3_2 (Z : State) (r0 : Addr) (ar : Addr) (kk : ClassId) (u0 : Int32) (u1 : Int32) (u2 : Int32) (h0 : Heap) (n0 : Nat) (v : Option Value) (h : Heap) (L : List Loc) : Prop := v = some (.int u1) ∧ Fr n0 L ∧ h = h0
set_option maxRecDepth 65536 in
set_option maxHeartbeats 40000000 in
theorem rm10_3_2 (l : Launch) (Z : State) (a0 : Array Value) (hw : ∀ d ∈ tables_1, d.before a0 Z = true) (ws : List Jvm.Cond) (r0 : Addr) (ar : Addr) (kk : ClassId) (u0 : Int32) (u1 : Int32) (u2 : Int32) (h0 : Heap) (n0 : Nat) (Z0 : n0 ≤ h0.size) (F_held : Fld Z h0 r0 "org/ludarium/games/sabacc/Chips" "held" "[I" (.ref ar)) (V0 : Arv Z h0 ar kk .int (3 : Int32) [(.int u0), (.int u1), (.int u2)] (.int (0 : Int32))) :
    MetFree l (⟨"org/ludarium/games/sabacc/Chips", "held", "(I)I"⟩ : MethodName) (head1 (Jvm.Cond.code (⟨"org/ludarium/games/sabacc/Chips", "held", "(I)I"⟩ : MethodName) prog_13_method_5_code 2 (some .int) :: ws) ({ frames := 0, cells := 0, slots := 0, locals := 0 } : Room)) (fun a U => a = #[(.ref r0), (.int (2 : Int32))] ∧ Z.Warmed39 U.vm ∧ U.heap = h0) (fun _ _ _ _ _ => True) (fun _ U o U' => ∃ v L, o = .returned v ∧ Q10_3_2 Z r0 ar kk u0 u1 u2 h0 n0 v U'.heap L ∧ FrameEnd U o U' L ({ frames := 0, cells := 0, slots := 0, locals := 0 } : Room).cells ({ frames := 0, cells := 0, slots := 0, locals := 0 } : Room).slots) := by
  refine MetFree.of_bodySF (plainFor_of_name own_pn0) hisR ?_
  intro p e s m args below meth c s₁ Bd hml0 hP hK
  obtain ⟨rfl, hZ, hh⟩ := hP
  have hx := Bd.exec
  have hby := Bd.bytes
  have hml : c.maxLocals = 2 := hml0
  have hown : s.vm.findClass "org/ludarium/games/sabacc/Chips" = some m.cls := findClass_of_methodNamed Bd.named
  have hnm := (name_of_methodNamed Bd.named Bd.method).1
  have X0 : Stand p l e ({ frames := 0, cells := 0, slots := 0, locals := 0 } : Room) s m #[(.ref r0), (.int (2 : Int32))] below meth c s₁ [] 0 0 := Stand.of_body Bd
  have e0 : s₁.heap = h0 := by rw [← hh, Bd.state]; rfl
  have N0 := Fr.nil n0
  show Good p e below (fun o U' => ∃ v L, o = .returned v ∧ Q10_3_2 Z r0 ar kk u0 u1 u2 h0 n0 v U'.heap L ∧ FrameEnd s o U' L ({ frames := 0, cells := 0, slots := 0, locals := 0 } : Room).cells ({ frames := 0, cells := 0, slots := 0, locals := 0 } : Room).slots) _
  refine Good.back (S' := s₁.setTop (mkF m 0 #[.val (.ref r0), .val (.int (2 : Int32))] [])) (fun t k => castTop (own_ef_10_3_2 m r0 (2 : Int32)) k) ?_
  show Good p e below _ (s₁.setTop (mkF m 0 #[.val (.ref r0), .val (.int (2 : Int32))] []))
  refine Good.back (fun _ k => XS.aloadN X0.here hx rfl (hb hby own_d10_0) rfl rfl k) ?_
  show Good p e below _ (s₁.setTop (mkF m 1 #[.val (.ref r0), .val (.int (2 : Int32))] [(.ref r0)]))
  obtain ⟨T1, X1, e1, st1⟩ := getF X0 hx hZ hown (host := "") (Or.inl (hw _ (List.mem_of_getElem? (i := 13) rfl))) Via.refl e0 F_held (g := (mkF m 1 #[.val (.ref r0), .val (.int (2 : Int32))] [(.ref r0)])) rfl rfl (hb hby own_d10_1)
  refine Good.back st1 ?_
  show Good p e below _ (T1.setTop (mkF m 4 #[.val (.ref r0), .val (.int (2 : Int32))] [(.ref ar)]))
  refine Good.back (fun _ k => XS.iloadN X1.here hx rfl (hb hby own_d10_4) rfl k) ?_
  show Good p e below _ (T1.setTop (mkF m 5 #[.val (.ref r0), .val (.int (2 : Int32))] [(.int (2 : Int32)), (.ref ar)]))
  refine Good.back (fun _ k => XS.iconst X1.here hx rfl (hb hby own_d10_5) k) ?_
  show Good p e below _ (T1.setTop (mkF m 6 #[.val (.ref r0), .val (.int (2 : Int32))] [(.int (1 : Int32)), (.int (2 : Int32)), (.ref ar)]))
  refine Good.back (fun _ k => XS.isub X1.here hx rfl (hb hby own_d10_6) rfl k) ?_
  show Good p e below _ (T1.setTop (mkF m 7 #[.val (.ref r0), .val (.int (2 : Int32))] [(.int ((2 : Int32) - (1 : Int32))), (.ref ar)]))
  rw [show (((2 : Int32) - (1 : Int32)) : Int32) = (1 : Int32) from by decide]
  show Good p e below _ (T1.setTop (mkF m 7 #[.val (.ref r0), .val (.int (2 : Int32))] [(.int (1 : Int32)), (.ref ar)]))
  have fc2 := V0
  obtain ⟨cl2, Ar2, q2, S2, N2', H2, G2⟩ := fc2
  have hin2 : ¬ ((1 : Int32) < 0 ∨ cl2.slots.size ≤ ((1 : Int32)).toNatClampNeg) := inb_of S2 ⟨by decide, by decide⟩
  have hat2 : cl2.slots[((1 : Int32)).toNatClampNeg]? = some (.int u1) := Has.at H2 hin2 rfl
  refine Good.back (X1.iaload hx (j := (1 : Int32)) (v := (.int u1)) (by rw [e1]; exact Ar2.1) (State.isArrayOf_alike hZ.alike Ar2.2.1) Ar2.2.2 hin2 hat2 (g := (mkF m 7 #[.val (.ref r0), .val (.int (2 : Int32))] [(.int (1 : Int32)), (.ref ar)])) rfl rfl (hb hby own_d10_7)) ?_
  show Good p e below _ (T1.setTop (mkF m 8 #[.val (.ref r0), .val (.int (2 : Int32))] [(.int u1)]))
  obtain ⟨fs3, hr3, hrun3, hended3, hW3, hsame3⟩ := X1.leave (v := some (.int u1)) (fun h => by rw [Bd.returns] at h; cases h)
  refine Good.done (retI X1 hx Bd.returns (hb hby own_d10_8) hr3) hrun3 hended3 ⟨_, _, rfl, ?_, ⟨_, rfl⟩, hW3, hsame3.mono (by decide) (by decide)⟩
  show Q10_3_2 Z r0 ar kk u0 u1 u2 h0 n0 _ T1.heap _
  rw [e1]
  exact ⟨rfl, N0, rfl⟩
theorem own_ef_7_3_3 (m : MethodId) (x0 : Addr) (x1 : Int32) (x2 : Int32) : entryFrame m #[(.ref x0), (.int x1), (.int x2)] 3 = mkF m 0 #[.val (.ref x0), .val (.int x1), .val (.int x2)] [] := by first | (simp [entryFrame, mkF, argsToLocals, Value.category]; done) | rfl
def Q7_3_3 (Z : State) (r0 : Addr) (p2 : Int32) (ar : Addr) (kk : ClassId) (u0 : Int32) (u1 : Int32) (u2 : Int32) (h0 : Heap) (n0 : Nat) (v : Option Value) (h : Heap) (L : List Loc) : Prop := v = none ∧ Fr n0 L ∧ Keep h0 h [ar] ∧ Arv Z h ar kk .int (3 : Int32) [(.int u0), (.int u1), (.int (u2 + p2))] (.int (0 : Int32))
set_option maxRecDepth 65536 in
set_option maxHeartbeats 40000000 in
theorem rm7_3_3 (l : Launch) (Z : State) (a0 : Array Value) (hw : ∀ d ∈ tables_1, d.before a0 Z = true) (ws : List Jvm.Cond) (r0 : Addr) (p2 : Int32) (ar : Addr) (kk : ClassId) (u0 : Int32) (u1 : Int32) (u2 : Int32) (h0 : Heap) (n0 : Nat) (Z0 : n0 ≤ h0.size) (F_held : Fld Z h0 r0 "org/ludarium/games/sabacc/Chips" "held" "[I" (.ref ar)) (V0 : Arv Z h0 ar kk .int (3 : Int32) [(.int u0), (.int u1), (.int u2)] (.int (0 : Int32))) (ga : n0 ≤ ar) :
    MetFree l (⟨"org/ludarium/games/sabacc/Chips", "win", "(II)V"⟩ : MethodName) (head1 (Jvm.Cond.code (⟨"org/ludarium/games/sabacc/Chips", "win", "(II)V"⟩ : MethodName) prog_13_method_10_code 3 none :: ws) ({ frames := 0, cells := 0, slots := 0, locals := 0 } : Room)) (fun a U => a = #[(.ref r0), (.int (3 : Int32)), (.int p2)] ∧ Z.Warmed39 U.vm ∧ U.heap = h0) (fun _ _ _ _ _ => True) (fun _ U o U' => ∃ v L, o = .returned v ∧ Q7_3_3 Z r0 p2 ar kk u0 u1 u2 h0 n0 v U'.heap L ∧ FrameEnd U o U' L ({ frames := 0, cells := 0, slots := 0, locals := 0 } : Room).cells ({ frames := 0, cells := 0, slots := 0, locals := 0 } : Room).slots) := by
  refine MetFree.of_bodySF (plainFor_of_name own_pn0) hisR ?_
  intro p e s m args below meth c s₁ Bd hml0 hP hK
  obtain ⟨rfl, hZ, hh⟩ := hP
  have hx := Bd.exec
  have hby := Bd.bytes
  have hml : c.maxLocals = 3 := hml0
  have hown : s.vm.findClass "org/ludarium/games/sabacc/Chips" = some m.cls := findClass_of_methodNamed Bd.named
  have hnm := (name_of_methodNamed Bd.named Bd.method).1
  have X0 : Stand p l e ({ frames := 0, cells := 0, slots := 0, locals := 0 } : Room) s m #[(.ref r0), (.int (3 : Int32)), (.int p2)] below meth c s₁ [] 0 0 := Stand.of_body Bd
  have e0 : s₁.heap = h0 := by rw [← hh, Bd.state]; rfl
  have N0 := Fr.nil n0
  have KR : Keep h0 h0 [ar] := Keep.refl h0 _
  show Good p e below (fun o U' => ∃ v L, o = .returned v ∧ Q7_3_3 Z r0 p2 ar kk u0 u1 u2 h0 n0 v U'.heap L ∧ FrameEnd s o U' L ({ frames := 0, cells := 0, slots := 0, locals := 0 } : Room).cells ({ frames := 0, cells := 0, slots := 0, locals := 0 } : Room).slots) _
  refine Good.back (S' := s₁.setTop (mkF m 0 #[.val (.ref r0), .val (.int (3 : Int32)), .val (.int p2)] [])) (fun t k => castTop (own_ef_7_3_3 m r0 (3 : Int32) p2) k) ?_
  show Good p e below _ (s₁.setTop (mkF m 0 #[.val (.ref r0), .val (.int (3 : Int32)), .val (.int p2)] []))
  refine Good.back (fun _ k => XS.aloadN X0.here hx rfl (hb hby own_d7_0) rfl rfl k) ?_
  show Good p e below _ (s₁.setTop (mkF m 1 #[.val (.ref r0), .val (.int (3 : Int32)), .val (.int p2)] [(.ref r0)]))
  obtain ⟨T1, X1, e1, st1⟩ := getF X0 hx hZ hown (host := "") (Or.inl (hw _ (List.mem_of_getElem? (i := 13) rfl))) Via.refl e0 F_held (g := (mkF m 1 #[.val (.ref r0), .val (.int (3 : Int32)), .val (.int p2)] [(.ref r0)])) rfl rfl (hb hby own_d7_1)
  refine Good.back st1 ?_
  show Good p e below _ (T1.setTop (mkF m 4 #[.val (.ref r0), .val (.int (3 : Int32)), .val (.int p2)] [(.ref ar)]))
  refine Good.back (fun _ k => XS.iloadN X1.here hx rfl (hb hby own_d7_4) rfl k) ?_
  show Good p e below _ (T1.setTop (mkF m 5 #[.val (.ref r0), .val (.int (3 : Int32)), .val (.int p2)] [(.int (3 : Int32)), (.ref ar)]))
  refine Good.back (fun _ k => XS.iconst X1.here hx rfl (hb hby own_d7_5) k) ?_
  show Good p e below _ (T1.setTop (mkF m 6 #[.val (.ref r0), .val (.int (3 : Int32)), .val (.int p2)] [(.int (1 : Int32)), (.int (3 : Int32)), (.ref ar)]))
  refine Good.back (fun _ k => XS.isub X1.here hx rfl (hb hby own_d7_6) rfl k) ?_
  show Good p e below _ (T1.setTop (mkF m 7 #[.val (.ref r0), .val (.int (3 : Int32)), .val (.int p2)] [(.int ((3 : Int32) - (1 : Int32))), (.ref ar)]))
  rw [show (((3 : Int32) - (1 : Int32)) : Int32) = (2 : Int32) from by decide]
  show Good p e below _ (T1.setTop (mkF m 7 #[.val (.ref r0), .val (.int (3 : Int32)), .val (.int p2)] [(.int (2 : Int32)), (.ref ar)]))
  refine Good.back (fun _ k => Jvm.Free.XT.dup2 X1.here hx rfl (hb hby own_d7_7) rfl rfl rfl k) ?_
  show Good p e below _ (T1.setTop (mkF m 8 #[.val (.ref r0), .val (.int (3 : Int32)), .val (.int p2)] [(.int (2 : Int32)), (.ref ar), (.int (2 : Int32)), (.ref ar)]))
  have fc2 := V0
  obtain ⟨cl2, Ar2, q2, S2, N2', H2, G2⟩ := fc2
  have hin2 : ¬ ((2 : Int32) < 0 ∨ cl2.slots.size ≤ ((2 : Int32)).toNatClampNeg) := inb_of S2 ⟨by decide, by decide⟩
  have hat2 : cl2.slots[((2 : Int32)).toNatClampNeg]? = some (.int u2) := Has.at H2 hin2 rfl
  refine Good.back (X1.iaload hx (j := (2 : Int32)) (v := (.int u2)) (by rw [e1]; exact Ar2.1) (State.isArrayOf_alike hZ.alike Ar2.2.1) Ar2.2.2 hin2 hat2 (g := (mkF m 8 #[.val (.ref r0), .val (.int (3 : Int32)), .val (.int p2)] [(.int (2 : Int32)), (.ref ar), (.int (2 : Int32)), (.ref ar)])) rfl rfl (hb hby own_d7_8)) ?_
  show Good p e below _ (T1.setTop (mkF m 9 #[.val (.ref r0), .val (.int (3 : Int32)), .val (.int p2)] [(.int u2), (.int (2 : Int32)), (.ref ar)]))
  refine Good.back (fun _ k => XS.iloadN X1.here hx rfl (hb hby own_d7_9) rfl k) ?_
  show Good p e below _ (T1.setTop (mkF m 10 #[.val (.ref r0), .val (.int (3 : Int32)), .val (.int p2)] [(.int p2), (.int u2), (.int (2 : Int32)), (.ref ar)]))
  refine Good.back (fun _ k => XS.iadd X1.here hx rfl (hb hby own_d7_10) rfl k) ?_
  show Good p e below _ (T1.setTop (mkF m 11 #[.val (.ref r0), .val (.int (3 : Int32)), .val (.int p2)] [(.int (u2 + p2)), (.int (2 : Int32)), (.ref ar)]))
  have fc3 := V0
  obtain ⟨cl3, Ar3, q3, S3, N3', H3, G3⟩ := fc3
  have hin3 : ¬ ((2 : Int32) < 0 ∨ cl3.slots.size ≤ ((2 : Int32)).toNatClampNeg) := inb_of S3 ⟨by decide, by decide⟩
  obtain ⟨T3, h3, X3, e3, W3, st3⟩ := stI X1 hx hZ e1 Ar3 (j := (2 : Int32)) hin3 (g := (mkF m 11 #[.val (.ref r0), .val (.int (3 : Int32)), .val (.int p2)] [(.int (u2 + p2)), (.int (2 : Int32)), (.ref ar)])) rfl rfl (hb hby own_d7_11)
  refine Good.back st3 ?_
  have f_4 : Arv Z h3 ar kk .int (3 : Int32) [(.int u0), (.int u1), (.int (u2 + p2))] (.int (0 : Int32)) := Arv.set Ar3 q3 S3 N3' H3 G3 rfl W3 2 rfl (Nat.le_of_ble_eq_true rfl)
  have N3 := Fr.snoc X3 N0 ga
  have Z5 : n0 ≤ h3.size := Nat.le_trans Z0 (Keep.of_wr W3).1
  have K6 : Keep h0 h3 [ar] := KR.wr W3 (Or.inl (List.mem_of_getElem? (i := 0) rfl))
  show Good p e below _ (T3.setTop (mkF m 12 #[.val (.ref r0), .val (.int (3 : Int32)), .val (.int p2)] []))
  obtain ⟨fs7, hr7, hrun7, hended7, hW7, hsame7⟩ := X3.leave (v := none) (fun _ => rfl)
  refine Good.done (X3.returnOut hx Bd.returns (hb hby own_d7_12) hr7) hrun7 hended7 ⟨_, _, rfl, ?_, ⟨_, rfl⟩, hW7, hsame7.mono (by decide) (by decide)⟩
  show Q7_3_3 Z r0 p2 ar kk u0 u1 u2 h0 n0 _ T3.heap _
  rw [e3]
  exact ⟨rfl, N3, K6, f_4⟩
theorem own_ef_8_3_3 (m : MethodId) (x0 : Addr) (x1 : Int32) (x2 : Int32) : entryFrame m #[(.ref x0), (.int x1), (.int x2)] 4 = mkF m 0 #[.val (.ref x0), .val (.int x1), .val (.int x2), .unset] [] := by first | (simp [entryFrame, mkF, argsToLocals, Value.category]; done) | rfl
def Q8_3_3 (Z : State) (r0 : Addr) (p2 : Int32) (ar : Addr) (w : Int32) (kk : ClassId) (u0 : Int32) (u1 : Int32) (u2 : Int32) (h0 : Heap) (n0 : Nat) (v : Option Value) (h : Heap) (L : List Loc) : Prop := v = none ∧ Fr n0 L ∧ Keep h0 h [ar, r0] ∧ Arv Z h ar kk .int (3 : Int32) [(.int u0), (.int u1), (.int (u2 - (if u2 < p2 then u2 else p2)))] (.int (0 : Int32)) ∧ Fld Z h r0 "org/ludarium/games/sabacc/Chips" "held" "[I" (.ref ar) ∧ Fld Z h r0 "org/ludarium/games/sabacc/Chips" "sabaccPot" "I" (.int (w + (if u2 < p2 then u2 else p2)))
set_option maxRecDepth 65536 in
set_option maxHeartbeats 40000000 in
theorem rm8_3_3 (l : Launch) (Z : State) (a0 : Array Value) (hw : ∀ d ∈ tables_1, d.before a0 Z = true) (ws : List Jvm.Cond) (r0 : Addr) (p2 : Int32) (ar : Addr) (w : Int32) (kk : ClassId) (u0 : Int32) (u1 : Int32) (u2 : Int32) (h0 : Heap) (n0 : Nat) (Z0 : n0 ≤ h0.size) (E0 : Exa Z h0 r0 "org/ludarium/games/sabacc/Chips") (g0 : n0 ≤ r0) (ga : n0 ≤ ar) (hne : r0 ≠ ar) (F_pot : Fld Z h0 r0 "org/ludarium/games/sabacc/Chips" "sabaccPot" "I" (.int w)) (F_held : Fld Z h0 r0 "org/ludarium/games/sabacc/Chips" "held" "[I" (.ref ar)) (V0 : Arv Z h0 ar kk .int (3 : Int32) [(.int u0), (.int u1), (.int u2)] (.int (0 : Int32))) :
    MetFree l (⟨"org/ludarium/games/sabacc/Chips", "paySabaccPot", "(II)V"⟩ : MethodName) (head1 (Jvm.Cond.code (⟨"org/ludarium/games/sabacc/Chips", "paySabaccPot", "(II)V"⟩ : MethodName) prog_13_method_8_code 4 none :: ws) ({ frames := 1, cells := 0, slots := 0, locals := 13 } : Room)) (fun a U => a = #[(.ref r0), (.int (3 : Int32)), (.int p2)] ∧ Z.Warmed39 U.vm ∧ U.heap = h0) (fun _ _ _ _ _ => True) (fun _ U o U' => ∃ v L, o = .returned v ∧ Q8_3_3 Z r0 p2 ar w kk u0 u1 u2 h0 n0 v U'.heap L ∧ FrameEnd U o U' L ({ frames := 1, cells := 0, slots := 0, locals := 13 } : Room).cells ({ frames := 1, cells := 0, slots := 0, locals := 13 } : Room).slots) := by
  refine MetFree.of_bodySF (plainFor_of_name own_pn0) hisR ?_
  intro p e s m args below meth c s₁ Bd hml0 hP hK
  obtain ⟨rfl, hZ, hh⟩ := hP
  have hx := Bd.exec
  have hby := Bd.bytes
  have hml : c.maxLocals = 4 := hml0
  have hown : s.vm.findClass "org/ludarium/games/sabacc/Chips" = some m.cls := findClass_of_methodNamed Bd.named
  have hnm := (name_of_methodNamed Bd.named Bd.method).1
  have X0 : Stand p l e ({ frames := 1, cells := 0, slots := 0, locals := 13 } : Room) s m #[(.ref r0), (.int (3 : Int32)), (.int p2)] below meth c s₁ [] 0 0 := Stand.of_body Bd
  have e0 : s₁.heap = h0 := by rw [← hh, Bd.state]; rfl
  have N0 := Fr.nil n0
  have KR : Keep h0 h0 [ar, r0] := Keep.refl h0 _
  show Good p e below (fun o U' => ∃ v L, o = .returned v ∧ Q8_3_3 Z r0 p2 ar w kk u0 u1 u2 h0 n0 v U'.heap L ∧ FrameEnd s o U' L ({ frames := 1, cells := 0, slots := 0, locals := 13 } : Room).cells ({ frames := 1, cells := 0, slots := 0, locals := 13 } : Room).slots) _
  refine Good.back (S' := s₁.setTop (mkF m 0 #[.val (.ref r0), .val (.int (3 : Int32)), .val (.int p2), .unset] [])) (fun t k => castTop (own_ef_8_3_3 m r0 (3 : Int32) p2) k) ?_
  show Good p e below _ (s₁.setTop (mkF m 0 #[.val (.ref r0), .val (.int (3 : Int32)), .val (.int p2), .unset] []))
  refine Good.back (fun _ k => XS.iloadN X0.here hx rfl (hb hby own_d8_0) rfl k) ?_
  show Good p e below _ (s₁.setTop (mkF m 1 #[.val (.ref r0), .val (.int (3 : Int32)), .val (.int p2), .unset] [(.int p2)]))
  refine Good.back (fun _ k => XS.aloadN X0.here hx rfl (hb hby own_d8_1) rfl rfl k) ?_
  show Good p e below _ (s₁.setTop (mkF m 2 #[.val (.ref r0), .val (.int (3 : Int32)), .val (.int p2), .unset] [(.ref r0), (.int p2)]))
  obtain ⟨T1, X1, e1, st1⟩ := getF X0 hx hZ hown (host := "") (Or.inl (hw _ (List.mem_of_getElem? (i := 13) rfl))) Via.refl e0 F_held (g := (mkF m 2 #[.val (.ref r0), .val (.int (3 : Int32)), .val (.int p2), .unset] [(.ref r0), (.int p2)])) rfl rfl (hb hby own_d8_2)
  refine Good.back st1 ?_
  show Good p e below _ (T1.setTop (mkF m 5 #[.val (.ref r0), .val (.int (3 : Int32)), .val (.int p2), .unset] [(.ref ar), (.int p2)]))
  refine Good.back (fun _ k => XS.iloadN X1.here hx rfl (hb hby own_d8_5) rfl k) ?_
  show Good p e below _ (T1.setTop (mkF m 6 #[.val (.ref r0), .val (.int (3 : Int32)), .val (.int p2), .unset] [(.int (3 : Int32)), (.ref ar), (.int p2)]))
  refine Good.back (fun _ k => XS.iconst X1.here hx rfl (hb hby own_d8_6) k) ?_
  show Good p e below _ (T1.setTop (mkF m 7 #[.val (.ref r0), .val (.int (3 : Int32)), .val (.int p2), .unset] [(.int (1 : Int32)), (.int (3 : Int32)), (.ref ar), (.int p2)]))
  refine Good.back (fun _ k => XS.isub X1.here hx rfl (hb hby own_d8_7) rfl k) ?_
  show Good p e below _ (T1.setTop (mkF m 8 #[.val (.ref r0), .val (.int (3 : Int32)), .val (.int p2), .unset] [(.int ((3 : Int32) - (1 : Int32))), (.ref ar), (.int p2)]))
  rw [show (((3 : Int32) - (1 : Int32)) : Int32) = (2 : Int32) from by decide]
  show Good p e below _ (T1.setTop (mkF m 8 #[.val (.ref r0), .val (.int (3 : Int32)), .val (.int p2), .unset] [(.int (2 : Int32)), (.ref ar), (.int p2)]))
  have fc2 := V0
  obtain ⟨cl2, Ar2, q2, S2, N2', H2, G2⟩ := fc2
  have hin2 : ¬ ((2 : Int32) < 0 ∨ cl2.slots.size ≤ ((2 : Int32)).toNatClampNeg) := inb_of S2 ⟨by decide, by decide⟩
  have hat2 : cl2.slots[((2 : Int32)).toNatClampNeg]? = some (.int u2) := Has.at H2 hin2 rfl
  refine Good.back (X1.iaload hx (j := (2 : Int32)) (v := (.int u2)) (by rw [e1]; exact Ar2.1) (State.isArrayOf_alike hZ.alike Ar2.2.1) Ar2.2.2 hin2 hat2 (g := (mkF m 8 #[.val (.ref r0), .val (.int (3 : Int32)), .val (.int p2), .unset] [(.int (2 : Int32)), (.ref ar), (.int p2)])) rfl rfl (hb hby own_d8_8)) ?_
  show Good p e below _ (T1.setTop (mkF m 9 #[.val (.ref r0), .val (.int (3 : Int32)), .val (.int p2), .unset] [(.int u2), (.int p2)]))
  obtain ⟨_, _, ⟨T3, L3, k3, n3⟩, -, X3, ⟨Lc3, hQ3, l3, y3, z3⟩, st3⟩ := Jvm.LawKit.callS X1 hx (y := (⟨"java/lang/Math", "min", "(II)I"⟩ : MethodName)) hown (mvT hZ (hw _ (List.mem_of_getElem? (i := 41) rfl))) (mvT hZ (hw _ (List.mem_of_getElem? (i := 42) rfl))) (mvT hZ (hw _ (List.mem_of_getElem? (i := 43) rfl))) (mvT hZ (hw _ (List.mem_of_getElem? (i := 44) rfl))) (by decide) (backOf (W := 0) (rm9 l Z a0 hw [] p2 u2  h0 n0 Z0 ) hZ (hw _ (List.mem_of_getElem? (i := 44) rfl)) (hw _ (List.mem_of_getElem? (i := 43) rfl)) (by decide) (by decide)) (g := (mkF m 9 #[.val (.ref r0), .val (.int (3 : Int32)), .val (.int p2), .unset] [(.int u2), (.int p2)])) rfl (by rw [hml]; rfl) (argsL := [(.int p2), (.int u2)]) (rest := []) (lenOf own_pd84 rfl) rfl (by show 2 * 0 + _ ≤ _; exact Nat.le_of_eq rfl) (hb hby own_d8_9) (fun _ _ => ⟨rfl, e1, (by decide : 0 + 0 ≤ _), (by decide : 0 + 0 ≤ _)⟩)
  dsimp only [Pt.U, Pt.locs, Pt.cells, Pt.slots] at X3 l3 y3 z3 st3 hQ3
  subst l3 y3 z3
  obtain ⟨rfl, N3q, eh3⟩ := hQ3
  have N3 := Fr.app N0 N3q
  refine Good.back st3 ?_
  show Good p e below _ (T3.setTop (mkF m 12 #[.val (.ref r0), .val (.int (3 : Int32)), .val (.int p2), .unset] [(.int (if u2 < p2 then u2 else p2))]))
  refine Good.back (fun _ k => XS.istoreN X3.here hx rfl (hb hby own_d8_12) rfl (l' := #[.val (.ref r0), .val (.int (3 : Int32)), .val (.int p2), .val (.int (if u2 < p2 then u2 else p2))]) rfl k) ?_
  show Good p e below _ (T3.setTop (mkF m 13 #[.val (.ref r0), .val (.int (3 : Int32)), .val (.int p2), .val (.int (if u2 < p2 then u2 else p2))] []))
  refine Good.back (fun _ k => XS.aloadN X3.here hx rfl (hb hby own_d8_13) rfl rfl k) ?_
  show Good p e below _ (T3.setTop (mkF m 14 #[.val (.ref r0), .val (.int (3 : Int32)), .val (.int p2), .val (.int (if u2 < p2 then u2 else p2))] [(.ref r0)]))
  obtain ⟨T4, X4, e4, st4⟩ := getF X3 hx hZ hown (host := "") (Or.inl (hw _ (List.mem_of_getElem? (i := 13) rfl))) Via.refl eh3 F_held (g := (mkF m 14 #[.val (.ref r0), .val (.int (3 : Int32)), .val (.int p2), .val (.int (if u2 < p2 then u2 else p2))] [(.ref r0)])) rfl rfl (hb hby own_d8_14)
  refine Good.back st4 ?_
  show Good p e below _ (T4.setTop (mkF m 17 #[.val (.ref r0), .val (.int (3 : Int32)), .val (.int p2), .val (.int (if u2 < p2 then u2 else p2))] [(.ref ar)]))
  refine Good.back (fun _ k => XS.iloadN X4.here hx rfl (hb hby own_d8_17) rfl k) ?_
  show Good p e below _ (T4.setTop (mkF m 18 #[.val (.ref r0), .val (.int (3 : Int32)), .val (.int p2), .val (.int (if u2 < p2 then u2 else p2))] [(.int (3 : Int32)), (.ref ar)]))
  refine Good.back (fun _ k => XS.iconst X4.here hx rfl (hb hby own_d8_18) k) ?_
  show Good p e below _ (T4.setTop (mkF m 19 #[.val (.ref r0), .val (.int (3 : Int32)), .val (.int p2), .val (.int (if u2 < p2 then u2 else p2))] [(.int (1 : Int32)), (.int (3 : Int32)), (.ref ar)]))
  refine Good.back (fun _ k => XS.isub X4.here hx rfl (hb hby own_d8_19) rfl k) ?_
  show Good p e below _ (T4.setTop (mkF m 20 #[.val (.ref r0), .val (.int (3 : Int32)), .val (.int p2), .val (.int (if u2 < p2 then u2 else p2))] [(.int ((3 : Int32) - (1 : Int32))), (.ref ar)]))
  rw [show (((3 : Int32) - (1 : Int32)) : Int32) = (2 : Int32) from by decide]
  show Good p e below _ (T4.setTop (mkF m 20 #[.val (.ref r0), .val (.int (3 : Int32)), .val (.int p2), .val (.int (if u2 < p2 then u2 else p2))] [(.int (2 : Int32)), (.ref ar)]))
  refine Good.back (fun _ k => Jvm.Free.XT.dup2 X4.here hx rfl (hb hby own_d8_20) rfl rfl rfl k) ?_
  show Good p e below _ (T4.setTop (mkF m 21 #[.val (.ref r0), .val (.int (3 : Int32)), .val (.int p2), .val (.int (if u2 < p2 then u2 else p2))] [(.int (2 : Int32)), (.ref ar), (.int (2 : Int32)), (.ref ar)]))
  have fc5 := V0
  obtain ⟨cl5, Ar5, q5, S5, N5', H5, G5⟩ := fc5
  have hin5 : ¬ ((2 : Int32) < 0 ∨ cl5.slots.size ≤ ((2 : Int32)).toNatClampNeg) := inb_of S5 ⟨by decide, by decide⟩
  have hat5 : cl5.slots[((2 : Int32)).toNatClampNeg]? = some (.int u2) := Has.at H5 hin5 rfl
  refine Good.back (X4.iaload hx (j := (2 : Int32)) (v := (.int u2)) (by rw [e4]; exact Ar5.1) (State.isArrayOf_alike hZ.alike Ar5.2.1) Ar5.2.2 hin5 hat5 (g := (mkF m 21 #[.val (.ref r0), .val (.int (3 : Int32)), .val (.int p2), .val (.int (if u2 < p2 then u2 else p2))] [(.int (2 : Int32)), (.ref ar), (.int (2 : Int32)), (.ref ar)])) rfl rfl (hb hby own_d8_21)) ?_
  show Good p e below _ (T4.setTop (mkF m 22 #[.val (.ref r0), .val (.int (3 : Int32)), .val (.int p2), .val (.int (if u2 < p2 then u2 else p2))] [(.int u2), (.int (2 : Int32)), (.ref ar)]))
  refine Good.back (fun _ k => XS.iloadN X4.here hx rfl (hb hby own_d8_22) rfl k) ?_
  show Good p e below _ (T4.setTop (mkF m 23 #[.val (.ref r0), .val (.int (3 : Int32)), .val (.int p2), .val (.int (if u2 < p2 then u2 else p2))] [(.int (if u2 < p2 then u2 else p2)), (.int u2), (.int (2 : Int32)), (.ref ar)]))
  refine Good.back (fun _ k => XS.isub X4.here hx rfl (hb hby own_d8_23) rfl k) ?_
  show Good p e below _ (T4.setTop (mkF m 24 #[.val (.ref r0), .val (.int (3 : Int32)), .val (.int p2), .val (.int (if u2 < p2 then u2 else p2))] [(.int (u2 - (if u2 < p2 then u2 else p2))), (.int (2 : Int32)), (.ref ar)]))
  have fc6 := V0
  obtain ⟨cl6, Ar6, q6, S6, N6', H6, G6⟩ := fc6
  have hin6 : ¬ ((2 : Int32) < 0 ∨ cl6.slots.size ≤ ((2 : Int32)).toNatClampNeg) := inb_of S6 ⟨by decide, by decide⟩
  obtain ⟨T6, h6, X6, e6, W6, st6⟩ := stI X4 hx hZ e4 Ar6 (j := (2 : Int32)) hin6 (g := (mkF m 24 #[.val (.ref r0), .val (.int (3 : Int32)), .val (.int p2), .val (.int (if u2 < p2 then u2 else p2))] [(.int (u2 - (if u2 < p2 then u2 else p2))), (.int (2 : Int32)), (.ref ar)])) rfl rfl (hb hby own_d8_24)
  refine Good.back st6 ?_
  have f_7 : Arv Z h6 ar kk .int (3 : Int32) [(.int u0), (.int u1), (.int (u2 - (if u2 < p2 then u2 else p2)))] (.int (0 : Int32)) := Arv.set Ar6 q6 S6 N6' H6 G6 rfl W6 2 rfl (Nat.le_of_ble_eq_true rfl)
  have N6 := Fr.snoc X6 N3 ga
  have Z8 : n0 ≤ h6.size := Nat.le_trans Z0 (Keep.of_wr W6).1
  have K9 : Keep h0 h6 [ar, r0] := KR.wr W6 (Or.inl (List.mem_of_getElem? (i := 0) rfl))
  show Good p e below _ (T6.setTop (mkF m 25 #[.val (.ref r0), .val (.int (3 : Int32)), .val (.int p2), .val (.int (if u2 < p2 then u2 else p2))] []))
  refine Good.back (fun _ k => XS.aloadN X6.here hx rfl (hb hby own_d8_25) rfl rfl k) ?_
  show Good p e below _ (T6.setTop (mkF m 26 #[.val (.ref r0), .val (.int (3 : Int32)), .val (.int p2), .val (.int (if u2 < p2 then u2 else p2))] [(.ref r0)]))
  refine Good.back (fun _ k => XS.dup X6.here hx rfl (hb hby own_d8_26) rfl rfl k) ?_
  show Good p e below _ (T6.setTop (mkF m 27 #[.val (.ref r0), .val (.int (3 : Int32)), .val (.int p2), .val (.int (if u2 < p2 then u2 else p2))] [(.ref r0), (.ref r0)]))
  have f_10 : Fld Z h6 r0 "org/ludarium/games/sabacc/Chips" "sabaccPot" "I" (.int w) := Fld.other W6 F_pot (Or.inl hne)
  obtain ⟨T11, X11, e11, st11⟩ := getF X6 hx hZ hown (host := "") (Or.inl (hw _ (List.mem_of_getElem? (i := 15) rfl))) Via.refl e6 f_10 (g := (mkF m 27 #[.val (.ref r0), .val (.int (3 : Int32)), .val (.int p2), .val (.int (if u2 < p2 then u2 else p2))] [(.ref r0), (.ref r0)])) rfl rfl (hb hby own_d8_27)
  refine Good.back st11 ?_
  show Good p e below _ (T11.setTop (mkF m 30 #[.val (.ref r0), .val (.int (3 : Int32)), .val (.int p2), .val (.int (if u2 < p2 then u2 else p2))] [(.int w), (.ref r0)]))
  refine Good.back (fun _ k => XS.iloadN X11.here hx rfl (hb hby own_d8_30) rfl k) ?_
  show Good p e below _ (T11.setTop (mkF m 31 #[.val (.ref r0), .val (.int (3 : Int32)), .val (.int p2), .val (.int (if u2 < p2 then u2 else p2))] [(.int (if u2 < p2 then u2 else p2)), (.int w), (.ref r0)]))
  refine Good.back (fun _ k => XS.iadd X11.here hx rfl (hb hby own_d8_31) rfl k) ?_
  show Good p e below _ (T11.setTop (mkF m 32 #[.val (.ref r0), .val (.int (3 : Int32)), .val (.int p2), .val (.int (if u2 < p2 then u2 else p2))] [(.int (w + (if u2 < p2 then u2 else p2))), (.ref r0)]))
  have f_12 : Exa Z h6 r0 "org/ludarium/games/sabacc/Chips" := Exa.wr W6 E0
  obtain ⟨T13, h13, X13, e13, W13, st13⟩ := putF X11 hx hZ hown (host := "") (Or.inl (hw _ (List.mem_of_getElem? (i := 15) rfl))) Via.refl e11 f_10 f_12 (Or.inl (hw _ (List.mem_of_getElem? (i := 16) rfl))) (hw _ (List.mem_of_getElem? (i := 1) rfl)) (ty := .int) (by decide) rfl rfl (g := (mkF m 32 #[.val (.ref r0), .val (.int (3 : Int32)), .val (.int p2), .val (.int (if u2 < p2 then u2 else p2))] [(.int (w + (if u2 < p2 then u2 else p2))), (.ref r0)])) rfl rfl (hb hby own_d8_32)
  refine Good.back st13 ?_
  have f_14 : Fld Z h13 r0 "org/ludarium/games/sabacc/Chips" "sabaccPot" "I" (.int (w + (if u2 < p2 then u2 else p2))) := Fld.same W13 f_10
  have N13 := Fr.snoc X13 N6 g0
  have Z15 : n0 ≤ h13.size := Nat.le_trans Z8 (Keep.of_wr W13).1
  have K16 : Keep h0 h13 [ar, r0] := K9.wr W13 (Or.inl (List.mem_of_getElem? (i := 1) rfl))
  show Good p e below _ (T13.setTop (mkF m 35 #[.val (.ref r0), .val (.int (3 : Int32)), .val (.int p2), .val (.int (if u2 < p2 then u2 else p2))] []))
  obtain ⟨fs17, hr17, hrun17, hended17, hW17, hsame17⟩ := X13.leave (v := none) (fun _ => rfl)
  refine Good.done (X13.returnOut hx Bd.returns (hb hby own_d8_35) hr17) hrun17 hended17 ⟨_, _, rfl, ?_, ⟨_, rfl⟩, hW17, hsame17.mono (by decide) (by decide)⟩
  show Q8_3_3 Z r0 p2 ar w kk u0 u1 u2 h0 n0 _ T13.heap _
  rw [e13]
  have f_18 : Arv Z h13 ar kk .int (3 : Int32) [(.int u0), (.int u1), (.int (u2 - (if u2 < p2 then u2 else p2)))] (.int (0 : Int32)) := Arv.other f_7 W13 (Ne.symm hne)
  have f_19 : Fld Z h6 r0 "org/ludarium/games/sabacc/Chips" "held" "[I" (.ref ar) := Fld.other W6 F_held (Or.inl hne)
  have f_20 : Fld Z h13 r0 "org/ludarium/games/sabacc/Chips" "held" "[I" (.ref ar) := Fld.other W13 f_19 (Or.inr (slot_ne (Or.inr (hw _ (List.mem_of_getElem? (i := 14) rfl))) (Or.inl (hw _ (List.mem_of_getElem? (i := 16) rfl))) (by decide) (t := (.array .int)) (t' := .int) (by decide) (by decide)))
  exact ⟨rfl, N13, K16, f_18, f_20, f_14⟩
theorem own_ef_10_3_3 (m : MethodId) (x0 : Addr) (x1 : Int32) : entryFrame m #[(.ref x0), (.int x1)] 2 = mkF m 0 #[.val (.ref x0), .val (.int x1)] [] := by first | (simp [entryFrame, mkF, argsToLocals, Value.category]; done) | rfl
def Q10_3_3 (Z : State) (r0 : Addr) (ar : Addr) (kk : ClassId) (u0 : Int32) (u1 : Int32) (u2 : Int32) (h0 : Heap) (n0 : Nat) (v : Option Value) (h : Heap) (L : List Loc) : Prop := v = some (.int u2) ∧ Fr n0 L ∧ h = h0
set_option maxRecDepth 65536 in
set_option maxHeartbeats 40000000 in
theorem rm10_3_3 (l : Launch) (Z : State) (a0 : Array Value) (hw : ∀ d ∈ tables_1, d.before a0 Z = true) (ws : List Jvm.Cond) (r0 : Addr) (ar : Addr) (kk : ClassId) (u0 : Int32) (u1 : Int32) (u2 : Int32) (h0 : Heap) (n0 : Nat) (Z0 : n0 ≤ h0.size) (F_held : Fld Z h0 r0 "org/ludarium/games/sabacc/Chips" "held" "[I" (.ref ar)) (V0 : Arv Z h0 ar kk .int (3 : Int32) [(.int u0), (.int u1), (.int u2)] (.int (0 : Int32))) :
    MetFree l (⟨"org/ludarium/games/sabacc/Chips", "held", "(I)I"⟩ : MethodName) (head1 (Jvm.Cond.code (⟨"org/ludarium/games/sabacc/Chips", "held", "(I)I"⟩ : MethodName) prog_13_method_5_code 2 (some .int) :: ws) ({ frames := 0, cells := 0, slots := 0, locals := 0 } : Room)) (fun a U => a = #[(.ref r0), (.int (3 : Int32))] ∧ Z.Warmed39 U.vm ∧ U.heap = h0) (fun _ _ _ _ _ => True) (fun _ U o U' => ∃ v L, o = .returned v ∧ Q10_3_3 Z r0 ar kk u0 u1 u2 h0 n0 v U'.heap L ∧ FrameEnd U o U' L ({ frames := 0, cells := 0, slots := 0, locals := 0 } : Room).cells ({ frames := 0, cells := 0, slots := 0, locals := 0 } : Room).slots) := by
  refine MetFree.of_bodySF (plainFor_of_name own_pn0) hisR ?_
  intro p e s m args below meth c s₁ Bd hml0 hP hK
  obtain ⟨rfl, hZ, hh⟩ := hP
  have hx := Bd.exec
  have hby := Bd.bytes
  have hml : c.maxLocals = 2 := hml0
  have hown : s.vm.findClass "org/ludarium/games/sabacc/Chips" = some m.cls := findClass_of_methodNamed Bd.named
  have hnm := (name_of_methodNamed Bd.named Bd.method).1
  have X0 : Stand p l e ({ frames := 0, cells := 0, slots := 0, locals := 0 } : Room) s m #[(.ref r0), (.int (3 : Int32))] below meth c s₁ [] 0 0 := Stand.of_body Bd
  have e0 : s₁.heap = h0 := by rw [← hh, Bd.state]; rfl
  have N0 := Fr.nil n0
  show Good p e below (fun o U' => ∃ v L, o = .returned v ∧ Q10_3_3 Z r0 ar kk u0 u1 u2 h0 n0 v U'.heap L ∧ FrameEnd s o U' L ({ frames := 0, cells := 0, slots := 0, locals := 0 } : Room).cells ({ frames := 0, cells := 0, slots := 0, locals := 0 } : Room).slots) _
  refine Good.back (S' := s₁.setTop (mkF m 0 #[.val (.ref r0), .val (.int (3 : Int32))] [])) (fun t k => castTop (own_ef_10_3_3 m r0 (3 : Int32)) k) ?_
  show Good p e below _ (s₁.setTop (mkF m 0 #[.val (.ref r0), .val (.int (3 : Int32))] []))
  refine Good.back (fun _ k => XS.aloadN X0.here hx rfl (hb hby own_d10_0) rfl rfl k) ?_
  show Good p e below _ (s₁.setTop (mkF m 1 #[.val (.ref r0), .val (.int (3 : Int32))] [(.ref r0)]))
  obtain ⟨T1, X1, e1, st1⟩ := getF X0 hx hZ hown (host := "") (Or.inl (hw _ (List.mem_of_getElem? (i := 13) rfl))) Via.refl e0 F_held (g := (mkF m 1 #[.val (.ref r0), .val (.int (3 : Int32))] [(.ref r0)])) rfl rfl (hb hby own_d10_1)
  refine Good.back st1 ?_
  show Good p e below _ (T1.setTop (mkF m 4 #[.val (.ref r0), .val (.int (3 : Int32))] [(.ref ar)]))
  refine Good.back (fun _ k => XS.iloadN X1.here hx rfl (hb hby own_d10_4) rfl k) ?_
  show Good p e below _ (T1.setTop (mkF m 5 #[.val (.ref r0), .val (.int (3 : Int32))] [(.int (3 : Int32)), (.ref ar)]))
  refine Good.back (fun _ k => XS.iconst X1.here hx rfl (hb hby own_d10_5) k) ?_
  show Good p e below _ (T1.setTop (mkF m 6 #[.val (.ref r0), .val (.int (3 : Int32))] [(.int (1 : Int32)), (.int (3 : Int32)), (.ref ar)]))
  refine Good.back (fun _ k => XS.isub X1.here hx rfl (hb hby own_d10_6) rfl k) ?_
  show Good p e below _ (T1.setTop (mkF m 7 #[.val (.ref r0), .val (.int (3 : Int32))] [(.int ((3 : Int32) - (1 : Int32))), (.ref ar)]))
  rw [show (((3 : Int32) - (1 : Int32)) : Int32) = (2 : Int32) from by decide]
  show Good p e below _ (T1.setTop (mkF m 7 #[.val (.ref r0), .val (.int (3 : Int32))] [(.int (2 : Int32)), (.ref ar)]))
  have fc2 := V0
  obtain ⟨cl2, Ar2, q2, S2, N2', H2, G2⟩ := fc2
  have hin2 : ¬ ((2 : Int32) < 0 ∨ cl2.slots.size ≤ ((2 : Int32)).toNatClampNeg) := inb_of S2 ⟨by decide, by decide⟩
  have hat2 : cl2.slots[((2 : Int32)).toNatClampNeg]? = some (.int u2) := Has.at H2 hin2 rfl
  refine Good.back (X1.iaload hx (j := (2 : Int32)) (v := (.int u2)) (by rw [e1]; exact Ar2.1) (State.isArrayOf_alike hZ.alike Ar2.2.1) Ar2.2.2 hin2 hat2 (g := (mkF m 7 #[.val (.ref r0), .val (.int (3 : Int32))] [(.int (2 : Int32)), (.ref ar)])) rfl rfl (hb hby own_d10_7)) ?_
  show Good p e below _ (T1.setTop (mkF m 8 #[.val (.ref r0), .val (.int (3 : Int32))] [(.int u2)]))
  obtain ⟨fs3, hr3, hrun3, hended3, hW3, hsame3⟩ := X1.leave (v := some (.int u2)) (fun h => by rw [Bd.returns] at h; cases h)
  refine Good.done (retI X1 hx Bd.returns (hb hby own_d10_8) hr3) hrun3 hended3 ⟨_, _, rfl, ?_, ⟨_, rfl⟩, hW3, hsame3.mono (by decide) (by decide)⟩
  show Q10_3_3 Z r0 ar kk u0 u1 u2 h0 n0 _ T1.heap _
  rw [e1]
  exact ⟨rfl, N0, rfl⟩
theorem own_pd118 : parseMethodDescriptor "(II)V" = some ⟨[.int, .int], none⟩ := by decide +kernel
theorem own_pd119 : parseMethodDescriptor "()I" = some ⟨[], some .int⟩ := by decide +kernel
theorem own_pd120 : parseMethodDescriptor "()J" = some ⟨[], some .long⟩ := by decide +kernel
theorem own_pd121 : parseMethodDescriptor "(I)I" = some ⟨[.int], some .int⟩ := by decide +kernel
theorem own_pn2 : plainName "org/ludarium/games/sabacc/ChipsTotalPinLaw" = true := by first | (simp [plainName, overriddenIn]; done) | decide +kernel
theorem own_ef_0 (m : MethodId) (x0 : Int32) (x1 : Int32) (x2 : Int32) (x3 : Int32) (x4 : Int32) (x5 : Int32) : entryFrame m #[(.int x0), (.int x1), (.int x2), (.int x3), (.int x4), (.int x5)] maxLocals = mkF m 0 #[.val (.int x0), .val (.int x1), .val (.int x2), .val (.int x3), .val (.int x4), .val (.int x5), .unset, .unset, .unset, .unset] [] := by first | (simp [entryFrame, mkF, argsToLocals, Value.category, maxLocals]; done) | rfl
def Q0 (Z : State) (p0 : Int32) (p1 : Int32) (p2 : Int32) (p3 : Int32) (p4 : Int32) (p5 : Int32) (h0 : Heap) (n0 : Nat) (v : Option Value) (h : Heap) (L : List Loc) : Prop := v = some (.int 1) ∧ Fr n0 L
set_option maxRecDepth 65536 in
set_option maxHeartbeats 40000000 in
theorem rm0 (l : Launch) (Z : State) (a0 : Array Value) (hw : ∀ d ∈ tables_1, d.before a0 Z = true) (ws : List Jvm.Cond) (p0 : Int32) (p1 : Int32) (p2 : Int32) (p3 : Int32) (p4 : Int32) (p5 : Int32) (h0 : Heap) (n0 : Nat) (Z0 : n0 ≤ h0.size)  :
    MetFree l x (head1 (Jvm.Cond.code x code maxLocals ret :: ws) room_1) (fun a U => a = #[(.int p0), (.int p1), (.int p2), (.int p3), (.int p4), (.int p5)] ∧ Z.Warmed39 U.vm ∧ U.heap = h0) (fun _ _ _ _ _ => True) (fun _ U o U' => ∃ v L, o = .returned v ∧ Q0 Z p0 p1 p2 p3 p4 p5 h0 n0 v U'.heap L ∧ FrameEnd U o U' L 16 128) := by
  refine MetFree.of_bodySF (plainFor_of_name own_pn2) hisR ?_
  intro p e s m args below meth c s₁ Bd hml0 hP hK
  obtain ⟨rfl, hZ, hh⟩ := hP
  have hx := Bd.exec
  have hby := Bd.bytes
  have hml : c.maxLocals = 10 := hml0
  have hown : s.vm.findClass "org/ludarium/games/sabacc/ChipsTotalPinLaw" = some m.cls := findClass_of_methodNamed Bd.named
  have hnm := (name_of_methodNamed Bd.named Bd.method).1
  have X0 : Stand p l e room_1 s m #[(.int p0), (.int p1), (.int p2), (.int p3), (.int p4), (.int p5)] below meth c s₁ [] 0 0 := Stand.of_body Bd
  have e0 : s₁.heap = h0 := by rw [← hh, Bd.state]; rfl
  have N0 := Fr.nil n0
  show Good p e below (fun o U' => ∃ v L, o = .returned v ∧ Q0 Z p0 p1 p2 p3 p4 p5 h0 n0 v U'.heap L ∧ FrameEnd s o U' L 16 128) _
  refine Good.back (S' := s₁.setTop (mkF m 0 #[.val (.int p0), .val (.int p1), .val (.int p2), .val (.int p3), .val (.int p4), .val (.int p5), .unset, .unset, .unset, .unset] [])) (fun t k => castTop (own_ef_0 m p0 p1 p2 p3 p4 p5) k) ?_
  show Good p e below _ (s₁.setTop (mkF m 0 #[.val (.int p0), .val (.int p1), .val (.int p2), .val (.int p3), .val (.int p4), .val (.int p5), .unset, .unset, .unset, .unset] []))
  refine Good.back (fun _ k => XS.iloadN X0.here hx rfl (hb hby at_0) rfl k) ?_
  show Good p e below _ (s₁.setTop (mkF m 1 #[.val (.int p0), .val (.int p1), .val (.int p2), .val (.int p3), .val (.int p4), .val (.int p5), .unset, .unset, .unset, .unset] [(.int p0)]))
  refine Good.back (fun _ k => XS.iconst X0.here hx rfl (hb hby at_1) k) ?_
  show Good p e below _ (s₁.setTop (mkF m 2 #[.val (.int p0), .val (.int p1), .val (.int p2), .val (.int p3), .val (.int p4), .val (.int p5), .unset, .unset, .unset, .unset] [(.int (3 : Int32)), (.int p0)]))
  refine Good.back (fun _ k => XS.iand X0.here hx rfl (hb hby at_2) rfl k) ?_
  show Good p e below _ (s₁.setTop (mkF m 3 #[.val (.int p0), .val (.int p1), .val (.int p2), .val (.int p3), .val (.int p4), .val (.int p5), .unset, .unset, .unset, .unset] [(.int (p0 &&& (3 : Int32)))]))
  refine Good.back (fun _ k => XS.istore X0.here hx rfl (hb hby at_3) rfl (l' := #[.val (.int p0), .val (.int p1), .val (.int p2), .val (.int p3), .val (.int p4), .val (.int p5), .val (.int (p0 &&& (3 : Int32))), .unset, .unset, .unset]) rfl k) ?_
  show Good p e below _ (s₁.setTop (mkF m 5 #[.val (.int p0), .val (.int p1), .val (.int p2), .val (.int p3), .val (.int p4), .val (.int p5), .val (.int (p0 &&& (3 : Int32))), .unset, .unset, .unset] []))
  obtain ⟨k1, hk1, he1⟩ := own_mask (x := p0) (m := 3) (n := 4) (by decide) (by decide)
  rcases (by omega : k1 = 0 ∨ k1 = 1 ∨ k1 = 2 ∨ k1 = 3) with rfl | rfl | rfl | rfl
  · have he1' : (p0 &&& (3 : Int32)) = (0 : Int32) := he1
    rw [he1']
    show Good p e below _ (s₁.setTop (mkF m 5 #[.val (.int p0), .val (.int p1), .val (.int p2), .val (.int p3), .val (.int p4), .val (.int p5), .val (.int (0 : Int32)), .unset, .unset, .unset] []))
    obtain ⟨T2, h2, X2, e2, E2, A2, D2, -, st2⟩ := newO X0 hx hZ hown (hw _ (List.mem_of_getElem? (i := 0) rfl)) (hw _ (List.mem_of_getElem? (i := 1) rfl)) (hw _ (List.mem_of_getElem? (i := 2) rfl)) e0 (g := (mkF m 5 #[.val (.int p0), .val (.int p1), .val (.int p2), .val (.int p3), .val (.int p4), .val (.int p5), .val (.int (0 : Int32)), .unset, .unset, .unset] [])) rfl (hb hby at_5) (by decide) (by decide)
    obtain ⟨b2, g2⟩ : ∃ z, z = h0.size := ⟨_, rfl⟩
    rw [← g2] at A2 D2 st2
    refine Good.back st2 ?_
    have g_b2 : n0 ≤ b2 := Nat.le_trans Z0 (Nat.le_of_eq g2.symm)
    have Z3 : n0 ≤ h2.size := Nat.le_trans Z0 E2.1
    have f_4 : Exa Z h2 b2 "org/ludarium/games/sabacc/Chips" := A2
    have f_5 : Fld Z h2 b2 "org/ludarium/games/sabacc/Chips" "held" "[I" .null := D2 (Or.inr (hw _ (List.mem_of_getElem? (i := 14) rfl))) (ty := (.array .int)) (by decide)
    have f_6 : Fld Z h2 b2 "org/ludarium/games/sabacc/Chips" "sabaccPot" "I" (.int (0 : Int32)) := D2 (Or.inl (hw _ (List.mem_of_getElem? (i := 16) rfl))) (ty := .int) (by decide)
    show Good p e below _ (T2.setTop (mkF m 8 #[.val (.int p0), .val (.int p1), .val (.int p2), .val (.int p3), .val (.int p4), .val (.int p5), .val (.int (0 : Int32)), .unset, .unset, .unset] [(.ref b2)]))
    refine Good.back (fun _ k => XS.dup X2.here hx rfl (hb hby at_8) rfl rfl k) ?_
    show Good p e below _ (T2.setTop (mkF m 9 #[.val (.int p0), .val (.int p1), .val (.int p2), .val (.int p3), .val (.int p4), .val (.int p5), .val (.int (0 : Int32)), .unset, .unset, .unset] [(.ref b2), (.ref b2)]))
    refine Good.back (fun _ k => XS.iload X2.here hx rfl (hb hby at_9) rfl k) ?_
    show Good p e below _ (T2.setTop (mkF m 11 #[.val (.int p0), .val (.int p1), .val (.int p2), .val (.int p3), .val (.int p4), .val (.int p5), .val (.int (0 : Int32)), .unset, .unset, .unset] [(.int (0 : Int32)), (.ref b2), (.ref b2)]))
    refine Good.back (fun _ k => XS.iloadN X2.here hx rfl (hb hby at_11) rfl k) ?_
    show Good p e below _ (T2.setTop (mkF m 12 #[.val (.int p0), .val (.int p1), .val (.int p2), .val (.int p3), .val (.int p4), .val (.int p5), .val (.int (0 : Int32)), .unset, .unset, .unset] [(.int p1), (.int (0 : Int32)), (.ref b2), (.ref b2)]))
    obtain ⟨_, _, ⟨T7, L7, k7, n7⟩, -, X7, ⟨Lc7, hQ7, l7, y7, z7⟩, st7⟩ := X2.specialBack hx (y := (⟨"org/ludarium/games/sabacc/Chips", "<init>", "(II)V"⟩ : MethodName)) rfl hown (mvT hZ (hw _ (List.mem_of_getElem? (i := 3) rfl))) (mvT hZ (hw _ (List.mem_of_getElem? (i := 4) rfl))) (mvT hZ (hw _ (List.mem_of_getElem? (i := 5) rfl))) (by decide) (backOf (W := 1) (rm1_0 l Z a0 hw [] b2 p1  h2 n0 Z3 f_4 g_b2 f_5 f_6) hZ (hw _ (List.mem_of_getElem? (i := 5) rfl)) (hw _ (List.mem_of_getElem? (i := 2) rfl)) (by decide) (by decide)) (g := (mkF m 12 #[.val (.int p0), .val (.int p1), .val (.int p2), .val (.int p3), .val (.int p4), .val (.int p5), .val (.int (0 : Int32)), .unset, .unset, .unset] [(.int p1), (.int (0 : Int32)), (.ref b2), (.ref b2)])) rfl (by rw [hml]; rfl) (Steps.refl _) (a := b2) (argsL := [(.int (0 : Int32)), (.int p1)]) (rest := [(.ref b2)]) (lenOf own_pd118 rfl) rfl (by show 2 * 0 + _ ≤ _; exact Nat.le_of_eq rfl) (hb hby at_12) (fun _ _ => ⟨rfl, e2, (by decide : 1 + 1 ≤ _), (by decide : 2 + 0 ≤ _)⟩)
    dsimp only [Pt.U, Pt.locs, Pt.cells, Pt.slots] at X7 l7 y7 z7 st7 hQ7
    subst l7 y7 z7
    obtain ⟨ar_7, kk_7, rfl, N7q, Kq7, o7_0, o7_1, o7_2, o7_3⟩ := hQ7
    have N7 := Fr.app N0 N7q
    have Z8 : n0 ≤ T7.heap.size := Nat.le_trans Z3 Kq7.1
    have g_ar_7 : n0 ≤ ar_7 := Nat.le_trans Z3 o7_0
    refine Good.back (fun _ k => st7.trans k) ?_
    show Good p e below _ (T7.setTop (mkF m 15 #[.val (.int p0), .val (.int p1), .val (.int p2), .val (.int p3), .val (.int p4), .val (.int p5), .val (.int (0 : Int32)), .unset, .unset, .unset] [(.ref b2)]))
    refine Good.back (fun _ k => XS.astore X7.here hx rfl (hb hby at_15) rfl rfl (l' := #[.val (.int p0), .val (.int p1), .val (.int p2), .val (.int p3), .val (.int p4), .val (.int p5), .val (.int (0 : Int32)), .val (.ref b2), .unset, .unset]) rfl k) ?_
    show Good p e below _ (T7.setTop (mkF m 17 #[.val (.int p0), .val (.int p1), .val (.int p2), .val (.int p3), .val (.int p4), .val (.int p5), .val (.int (0 : Int32)), .val (.ref b2), .unset, .unset] []))
    refine Good.back (fun _ k => XS.iload X7.here hx rfl (hb hby at_17) rfl k) ?_
    show Good p e below _ (T7.setTop (mkF m 19 #[.val (.int p0), .val (.int p1), .val (.int p2), .val (.int p3), .val (.int p4), .val (.int p5), .val (.int (0 : Int32)), .val (.ref b2), .unset, .unset] [(.int (0 : Int32))]))
    refine Good.back (fun _ k => XS.iconst X7.here hx rfl (hb hby at_19) k) ?_
    show Good p e below _ (T7.setTop (mkF m 20 #[.val (.int p0), .val (.int p1), .val (.int p2), .val (.int p3), .val (.int p4), .val (.int p5), .val (.int (0 : Int32)), .val (.ref b2), .unset, .unset] [(.int (1 : Int32)), (.int (0 : Int32))]))
    refine Good.back (fun _ k => XS.icmpYes X7.here hx rfl (pc0 := 20) (pc' := 38) rfl (hb hby at_20) rfl (tlt (by decide : ((0 : Int32) < (1 : Int32)))).1 (by decide) (by decide) k) ?_
    show Good p e below _ (T7.setTop (mkF m 38 #[.val (.int p0), .val (.int p1), .val (.int p2), .val (.int p3), .val (.int p4), .val (.int p5), .val (.int (0 : Int32)), .val (.ref b2), .unset, .unset] []))
    refine Good.back (fun _ k => XS.iload X7.here hx rfl (hb hby at_38) rfl k) ?_
    show Good p e below _ (T7.setTop (mkF m 40 #[.val (.int p0), .val (.int p1), .val (.int p2), .val (.int p3), .val (.int p4), .val (.int p5), .val (.int (0 : Int32)), .val (.ref b2), .unset, .unset] [(.int (0 : Int32))]))
    refine Good.back (fun _ k => XS.iconst X7.here hx rfl (hb hby at_40) k) ?_
    show Good p e below _ (T7.setTop (mkF m 41 #[.val (.int p0), .val (.int p1), .val (.int p2), .val (.int p3), .val (.int p4), .val (.int p5), .val (.int (0 : Int32)), .val (.ref b2), .unset, .unset] [(.int (2 : Int32)), (.int (0 : Int32))]))
    refine Good.back (fun _ k => XS.icmpYes X7.here hx rfl (pc0 := 41) (pc' := 51) rfl (hb hby at_41) rfl (tlt (by decide : ((0 : Int32) < (2 : Int32)))).1 (by decide) (by decide) k) ?_
    show Good p e below _ (T7.setTop (mkF m 51 #[.val (.int p0), .val (.int p1), .val (.int p2), .val (.int p3), .val (.int p4), .val (.int p5), .val (.int (0 : Int32)), .val (.ref b2), .unset, .unset] []))
    refine Good.back (fun _ k => XS.iload X7.here hx rfl (hb hby at_51) rfl k) ?_
    show Good p e below _ (T7.setTop (mkF m 53 #[.val (.int p0), .val (.int p1), .val (.int p2), .val (.int p3), .val (.int p4), .val (.int p5), .val (.int (0 : Int32)), .val (.ref b2), .unset, .unset] [(.int (0 : Int32))]))
    refine Good.back (fun _ k => XS.iconst X7.here hx rfl (hb hby at_53) k) ?_
    show Good p e below _ (T7.setTop (mkF m 54 #[.val (.int p0), .val (.int p1), .val (.int p2), .val (.int p3), .val (.int p4), .val (.int p5), .val (.int (0 : Int32)), .val (.ref b2), .unset, .unset] [(.int (3 : Int32)), (.int (0 : Int32))]))
    refine Good.back (fun _ k => XS.icmpYes X7.here hx rfl (pc0 := 54) (pc' := 65) rfl (hb hby at_54) rfl (tlt (by decide : ((0 : Int32) < (3 : Int32)))).1 (by decide) (by decide) k) ?_
    show Good p e below _ (T7.setTop (mkF m 65 #[.val (.int p0), .val (.int p1), .val (.int p2), .val (.int p3), .val (.int p4), .val (.int p5), .val (.int (0 : Int32)), .val (.ref b2), .unset, .unset] []))
    refine Good.back (fun _ k => XS.aload X7.here hx rfl (hb hby at_65) rfl rfl k) ?_
    show Good p e below _ (T7.setTop (mkF m 67 #[.val (.int p0), .val (.int p1), .val (.int p2), .val (.int p3), .val (.int p4), .val (.int p5), .val (.int (0 : Int32)), .val (.ref b2), .unset, .unset] [(.ref b2)]))
    have f_10 : Exa Z T7.heap b2 "org/ludarium/games/sabacc/Chips" := Exa.keep f_4 Kq7
    obtain ⟨cq9, kq9, q9a, q9b, q9c⟩ := isOf hZ rfl f_10
    obtain ⟨_, _, ⟨T9, L9, k9, n9⟩, -, X9, ⟨Lc9, hQ9, l9, y9, z9⟩, st9⟩ := X7.virtualBack hx (y := (⟨"org/ludarium/games/sabacc/Chips", "sabaccPot", "()I"⟩ : MethodName)) (z := (⟨"org/ludarium/games/sabacc/Chips", "sabaccPot", "()I"⟩ : MethodName)) hown (mvT hZ (hw _ (List.mem_of_getElem? (i := 21) rfl))) (mvT hZ (hw _ (List.mem_of_getElem? (i := 22) rfl))) (notFace_of_selects (args := #[]) (mvT hZ (hw _ (List.mem_of_getElem? (i := 24) rfl)))) (mvT hZ (hw _ (List.mem_of_getElem? (i := 24) rfl))) (mvT hZ (hw _ (List.mem_of_getElem? (i := 23) rfl))) (by decide) (backOf (W := 0) (rm5 l Z a0 hw [] b2 (0 : Int32) T7.heap n0 Z8 o7_2) hZ (hw _ (List.mem_of_getElem? (i := 25) rfl)) (hw _ (List.mem_of_getElem? (i := 2) rfl)) (by decide) (by decide)) q9a q9c (g := (mkF m 67 #[.val (.int p0), .val (.int p1), .val (.int p2), .val (.int p3), .val (.int p4), .val (.int p5), .val (.int (0 : Int32)), .val (.ref b2), .unset, .unset] [(.ref b2)])) rfl (by rw [hml]; rfl) (Steps.refl _) (argsL := []) (rest := []) (lenOf own_pd119 rfl) rfl (by show 2 * 0 + _ ≤ _; exact Nat.le_of_eq rfl) (hb hby at_67) (fun _ _ => ⟨rfl, rfl, (by decide : 2 + 0 ≤ _), (by decide : 2 + 0 ≤ _)⟩)
    dsimp only [Pt.U, Pt.locs, Pt.cells, Pt.slots] at X9 l9 y9 z9 st9 hQ9
    subst l9 y9 z9
    obtain ⟨rfl, N9q, eh9⟩ := hQ9
    have N9 := Fr.app N7 N9q
    refine Good.back (fun _ k => st9.trans k) ?_
    show Good p e below _ (T9.setTop (mkF m 70 #[.val (.int p0), .val (.int p1), .val (.int p2), .val (.int p3), .val (.int p4), .val (.int p5), .val (.int (0 : Int32)), .val (.ref b2), .unset, .unset] [(.int (0 : Int32))]))
    refine Good.back (fun _ k => XS.i2l X9.here hx rfl (hb hby at_70) rfl k) ?_
    show Good p e below _ (T9.setTop (mkF m 71 #[.val (.int p0), .val (.int p1), .val (.int p2), .val (.int p3), .val (.int p4), .val (.int p5), .val (.int (0 : Int32)), .val (.ref b2), .unset, .unset] [(.long ((0 : Int32).toInt64))]))
    refine Good.back (fun _ k => XS.lstore X9.here hx rfl (hb hby at_71) rfl (l' := #[.val (.int p0), .val (.int p1), .val (.int p2), .val (.int p3), .val (.int p4), .val (.int p5), .val (.int (0 : Int32)), .val (.ref b2), .val (.long ((0 : Int32).toInt64)), .second]) rfl k) ?_
    show Good p e below _ (T9.setTop (mkF m 73 #[.val (.int p0), .val (.int p1), .val (.int p2), .val (.int p3), .val (.int p4), .val (.int p5), .val (.int (0 : Int32)), .val (.ref b2), .val (.long ((0 : Int32).toInt64)), .second] []))
    refine Good.back (fun _ k => XS.iload X9.here hx rfl (hb hby at_73) rfl k) ?_
    show Good p e below _ (T9.setTop (mkF m 75 #[.val (.int p0), .val (.int p1), .val (.int p2), .val (.int p3), .val (.int p4), .val (.int p5), .val (.int (0 : Int32)), .val (.ref b2), .val (.long ((0 : Int32).toInt64)), .second] [(.int (0 : Int32))]))
    refine Good.back (fun _ k => XS.iconst X9.here hx rfl (hb hby at_75) k) ?_
    show Good p e below _ (T9.setTop (mkF m 76 #[.val (.int p0), .val (.int p1), .val (.int p2), .val (.int p3), .val (.int p4), .val (.int p5), .val (.int (0 : Int32)), .val (.ref b2), .val (.long ((0 : Int32).toInt64)), .second] [(.int (1 : Int32)), (.int (0 : Int32))]))
    refine Good.back (fun _ k => XS.icmpYes X9.here hx rfl (pc0 := 76) (pc' := 91) rfl (hb hby at_76) rfl (tlt (by decide : ((0 : Int32) < (1 : Int32)))).1 (by decide) (by decide) k) ?_
    show Good p e below _ (T9.setTop (mkF m 91 #[.val (.int p0), .val (.int p1), .val (.int p2), .val (.int p3), .val (.int p4), .val (.int p5), .val (.int (0 : Int32)), .val (.ref b2), .val (.long ((0 : Int32).toInt64)), .second] []))
    refine Good.back (fun _ k => XS.iload X9.here hx rfl (hb hby at_91) rfl k) ?_
    show Good p e below _ (T9.setTop (mkF m 93 #[.val (.int p0), .val (.int p1), .val (.int p2), .val (.int p3), .val (.int p4), .val (.int p5), .val (.int (0 : Int32)), .val (.ref b2), .val (.long ((0 : Int32).toInt64)), .second] [(.int (0 : Int32))]))
    refine Good.back (fun _ k => XS.iconst X9.here hx rfl (hb hby at_93) k) ?_
    show Good p e below _ (T9.setTop (mkF m 94 #[.val (.int p0), .val (.int p1), .val (.int p2), .val (.int p3), .val (.int p4), .val (.int p5), .val (.int (0 : Int32)), .val (.ref b2), .val (.long ((0 : Int32).toInt64)), .second] [(.int (2 : Int32)), (.int (0 : Int32))]))
    refine Good.back (fun _ k => XS.icmpYes X9.here hx rfl (pc0 := 94) (pc' := 109) rfl (hb hby at_94) rfl (tlt (by decide : ((0 : Int32) < (2 : Int32)))).1 (by decide) (by decide) k) ?_
    show Good p e below _ (T9.setTop (mkF m 109 #[.val (.int p0), .val (.int p1), .val (.int p2), .val (.int p3), .val (.int p4), .val (.int p5), .val (.int (0 : Int32)), .val (.ref b2), .val (.long ((0 : Int32).toInt64)), .second] []))
    refine Good.back (fun _ k => XS.iload X9.here hx rfl (hb hby at_109) rfl k) ?_
    show Good p e below _ (T9.setTop (mkF m 111 #[.val (.int p0), .val (.int p1), .val (.int p2), .val (.int p3), .val (.int p4), .val (.int p5), .val (.int (0 : Int32)), .val (.ref b2), .val (.long ((0 : Int32).toInt64)), .second] [(.int (0 : Int32))]))
    refine Good.back (fun _ k => XS.iconst X9.here hx rfl (hb hby at_111) k) ?_
    show Good p e below _ (T9.setTop (mkF m 112 #[.val (.int p0), .val (.int p1), .val (.int p2), .val (.int p3), .val (.int p4), .val (.int p5), .val (.int (0 : Int32)), .val (.ref b2), .val (.long ((0 : Int32).toInt64)), .second] [(.int (3 : Int32)), (.int (0 : Int32))]))
    refine Good.back (fun _ k => XS.icmpYes X9.here hx rfl (pc0 := 112) (pc' := 127) rfl (hb hby at_112) rfl (tlt (by decide : ((0 : Int32) < (3 : Int32)))).1 (by decide) (by decide) k) ?_
    show Good p e below _ (T9.setTop (mkF m 127 #[.val (.int p0), .val (.int p1), .val (.int p2), .val (.int p3), .val (.int p4), .val (.int p5), .val (.int (0 : Int32)), .val (.ref b2), .val (.long ((0 : Int32).toInt64)), .second] []))
    refine Good.back (fun _ k => XS.aload X9.here hx rfl (hb hby at_127) rfl rfl k) ?_
    show Good p e below _ (T9.setTop (mkF m 129 #[.val (.int p0), .val (.int p1), .val (.int p2), .val (.int p3), .val (.int p4), .val (.int p5), .val (.int (0 : Int32)), .val (.ref b2), .val (.long ((0 : Int32).toInt64)), .second] [(.ref b2)]))
    obtain ⟨cq11, kq11, q11a, q11b, q11c⟩ := isOf hZ eh9 f_10
    obtain ⟨_, _, ⟨T11, L11, k11, n11⟩, -, X11, ⟨Lc11, hQ11, l11, y11, z11⟩, st11⟩ := X9.virtualBack hx (y := (⟨"org/ludarium/games/sabacc/Chips", "total", "()J"⟩ : MethodName)) (z := (⟨"org/ludarium/games/sabacc/Chips", "total", "()J"⟩ : MethodName)) hown (mvT hZ (hw _ (List.mem_of_getElem? (i := 26) rfl))) (mvT hZ (hw _ (List.mem_of_getElem? (i := 27) rfl))) (notFace_of_selects (args := #[]) (mvT hZ (hw _ (List.mem_of_getElem? (i := 29) rfl)))) (mvT hZ (hw _ (List.mem_of_getElem? (i := 29) rfl))) (mvT hZ (hw _ (List.mem_of_getElem? (i := 28) rfl))) (by decide) (backOf (W := 0) (rm6_0 l Z a0 hw [] b2 (0 : Int32) ar_7 kk_7 T7.heap n0 Z8 o7_2 o7_1 o7_3) hZ (hw _ (List.mem_of_getElem? (i := 30) rfl)) (hw _ (List.mem_of_getElem? (i := 2) rfl)) (by decide) (by decide)) q11a q11c (g := (mkF m 129 #[.val (.int p0), .val (.int p1), .val (.int p2), .val (.int p3), .val (.int p4), .val (.int p5), .val (.int (0 : Int32)), .val (.ref b2), .val (.long ((0 : Int32).toInt64)), .second] [(.ref b2)])) rfl (by rw [hml]; rfl) (Steps.refl _) (argsL := []) (rest := []) (lenOf own_pd120 rfl) rfl (by show 2 * 0 + _ ≤ _; exact Nat.le_of_eq rfl) (hb hby at_129) (fun _ _ => ⟨rfl, eh9, (by decide : 2 + 0 ≤ _), (by decide : 2 + 0 ≤ _)⟩)
    dsimp only [Pt.U, Pt.locs, Pt.cells, Pt.slots] at X11 l11 y11 z11 st11 hQ11
    subst l11 y11 z11
    obtain ⟨rfl, N11q, eh11⟩ := hQ11
    have N11 := Fr.app N9 N11q
    refine Good.back (fun _ k => st11.trans k) ?_
    show Good p e below _ (T11.setTop (mkF m 132 #[.val (.int p0), .val (.int p1), .val (.int p2), .val (.int p3), .val (.int p4), .val (.int p5), .val (.int (0 : Int32)), .val (.ref b2), .val (.long ((0 : Int32).toInt64)), .second] [(.long ((0 : Int32).toInt64))]))
    refine Good.back (fun _ k => XS.lload X11.here hx rfl (hb hby at_132) rfl k) ?_
    show Good p e below _ (T11.setTop (mkF m 134 #[.val (.int p0), .val (.int p1), .val (.int p2), .val (.int p3), .val (.int p4), .val (.int p5), .val (.int (0 : Int32)), .val (.ref b2), .val (.long ((0 : Int32).toInt64)), .second] [(.long ((0 : Int32).toInt64)), (.long ((0 : Int32).toInt64))]))
    refine Good.back (fun _ k => XS.lcmp X11.here hx rfl (hb hby at_134) rfl k) ?_
    show Good p e below _ (T11.setTop (mkF m 135 #[.val (.int p0), .val (.int p1), .val (.int p2), .val (.int p3), .val (.int p4), .val (.int p5), .val (.int (0 : Int32)), .val (.ref b2), .val (.long ((0 : Int32).toInt64)), .second] [(.int (lcmpW ((0 : Int32).toInt64) ((0 : Int32).toInt64)))]))
    refine Good.back (fun _ k => XS.ifNo X11.here hx rfl (hb hby at_135) rfl ((if0 _ _).trans (teq ((lw_eq _ _).mpr rfl : (lcmpW ((0 : Int32).toInt64) ((0 : Int32).toInt64)) = (0 : Int32))).2) k) ?_
    show Good p e below _ (T11.setTop (mkF m 138 #[.val (.int p0), .val (.int p1), .val (.int p2), .val (.int p3), .val (.int p4), .val (.int p5), .val (.int (0 : Int32)), .val (.ref b2), .val (.long ((0 : Int32).toInt64)), .second] []))
    refine Good.back (fun _ k => XS.iconst X11.here hx rfl (hb hby at_138) k) ?_
    show Good p e below _ (T11.setTop (mkF m 139 #[.val (.int p0), .val (.int p1), .val (.int p2), .val (.int p3), .val (.int p4), .val (.int p5), .val (.int (0 : Int32)), .val (.ref b2), .val (.long ((0 : Int32).toInt64)), .second] [(.int (1 : Int32))]))
    refine Good.back (fun _ k => XS.goto X11.here hx rfl (pc0 := 139) (pc' := 143) rfl (hb hby at_139) (by decide) (by decide) k) ?_
    show Good p e below _ (T11.setTop (mkF m 143 #[.val (.int p0), .val (.int p1), .val (.int p2), .val (.int p3), .val (.int p4), .val (.int p5), .val (.int (0 : Int32)), .val (.ref b2), .val (.long ((0 : Int32).toInt64)), .second] [(.int (1 : Int32))]))
    obtain ⟨fs12, hr12, hrun12, hended12, hW12, hsame12⟩ := X11.leave (v := some (.int (1 : Int32))) (fun h => by rw [Bd.returns] at h; cases h)
    refine Good.done (retN X11 hx (t := .boolean) Bd.returns (by simp) (hb hby at_143) hr12) hrun12 hended12 ⟨_, _, rfl, ?_, ⟨_, rfl⟩, hW12, hsame12.mono (by decide) (by decide)⟩
    show Q0 Z p0 p1 p2 p3 p4 p5 h0 n0 _ T11.heap _
    rw [eh11]
    exact ⟨rfl, N11⟩
  · have he1' : (p0 &&& (3 : Int32)) = (1 : Int32) := he1
    rw [he1']
    show Good p e below _ (s₁.setTop (mkF m 5 #[.val (.int p0), .val (.int p1), .val (.int p2), .val (.int p3), .val (.int p4), .val (.int p5), .val (.int (1 : Int32)), .unset, .unset, .unset] []))
    obtain ⟨T13, h13, X13, e13, E13, A13, D13, -, st13⟩ := newO X0 hx hZ hown (hw _ (List.mem_of_getElem? (i := 0) rfl)) (hw _ (List.mem_of_getElem? (i := 1) rfl)) (hw _ (List.mem_of_getElem? (i := 2) rfl)) e0 (g := (mkF m 5 #[.val (.int p0), .val (.int p1), .val (.int p2), .val (.int p3), .val (.int p4), .val (.int p5), .val (.int (1 : Int32)), .unset, .unset, .unset] [])) rfl (hb hby at_5) (by decide) (by decide)
    obtain ⟨b13, g13⟩ : ∃ z, z = h0.size := ⟨_, rfl⟩
    rw [← g13] at A13 D13 st13
    refine Good.back st13 ?_
    have g_b13 : n0 ≤ b13 := Nat.le_trans Z0 (Nat.le_of_eq g13.symm)
    have Z14 : n0 ≤ h13.size := Nat.le_trans Z0 E13.1
    have f_15 : Exa Z h13 b13 "org/ludarium/games/sabacc/Chips" := A13
    have f_16 : Fld Z h13 b13 "org/ludarium/games/sabacc/Chips" "held" "[I" .null := D13 (Or.inr (hw _ (List.mem_of_getElem? (i := 14) rfl))) (ty := (.array .int)) (by decide)
    have f_17 : Fld Z h13 b13 "org/ludarium/games/sabacc/Chips" "sabaccPot" "I" (.int (0 : Int32)) := D13 (Or.inl (hw _ (List.mem_of_getElem? (i := 16) rfl))) (ty := .int) (by decide)
    show Good p e below _ (T13.setTop (mkF m 8 #[.val (.int p0), .val (.int p1), .val (.int p2), .val (.int p3), .val (.int p4), .val (.int p5), .val (.int (1 : Int32)), .unset, .unset, .unset] [(.ref b13)]))
    refine Good.back (fun _ k => XS.dup X13.here hx rfl (hb hby at_8) rfl rfl k) ?_
    show Good p e below _ (T13.setTop (mkF m 9 #[.val (.int p0), .val (.int p1), .val (.int p2), .val (.int p3), .val (.int p4), .val (.int p5), .val (.int (1 : Int32)), .unset, .unset, .unset] [(.ref b13), (.ref b13)]))
    refine Good.back (fun _ k => XS.iload X13.here hx rfl (hb hby at_9) rfl k) ?_
    show Good p e below _ (T13.setTop (mkF m 11 #[.val (.int p0), .val (.int p1), .val (.int p2), .val (.int p3), .val (.int p4), .val (.int p5), .val (.int (1 : Int32)), .unset, .unset, .unset] [(.int (1 : Int32)), (.ref b13), (.ref b13)]))
    refine Good.back (fun _ k => XS.iloadN X13.here hx rfl (hb hby at_11) rfl k) ?_
    show Good p e below _ (T13.setTop (mkF m 12 #[.val (.int p0), .val (.int p1), .val (.int p2), .val (.int p3), .val (.int p4), .val (.int p5), .val (.int (1 : Int32)), .unset, .unset, .unset] [(.int p1), (.int (1 : Int32)), (.ref b13), (.ref b13)]))
    obtain ⟨_, _, ⟨T18, L18, k18, n18⟩, -, X18, ⟨Lc18, hQ18, l18, y18, z18⟩, st18⟩ := X13.specialBack hx (y := (⟨"org/ludarium/games/sabacc/Chips", "<init>", "(II)V"⟩ : MethodName)) rfl hown (mvT hZ (hw _ (List.mem_of_getElem? (i := 3) rfl))) (mvT hZ (hw _ (List.mem_of_getElem? (i := 4) rfl))) (mvT hZ (hw _ (List.mem_of_getElem? (i := 5) rfl))) (by decide) (backOf (W := 1) (rm1_1 l Z a0 hw [] b13 p1  h13 n0 Z14 f_15 g_b13 f_16 f_17) hZ (hw _ (List.mem_of_getElem? (i := 5) rfl)) (hw _ (List.mem_of_getElem? (i := 2) rfl)) (by decide) (by decide)) (g := (mkF m 12 #[.val (.int p0), .val (.int p1), .val (.int p2), .val (.int p3), .val (.int p4), .val (.int p5), .val (.int (1 : Int32)), .unset, .unset, .unset] [(.int p1), (.int (1 : Int32)), (.ref b13), (.ref b13)])) rfl (by rw [hml]; rfl) (Steps.refl _) (a := b13) (argsL := [(.int (1 : Int32)), (.int p1)]) (rest := [(.ref b13)]) (lenOf own_pd118 rfl) rfl (by show 2 * 0 + _ ≤ _; exact Nat.le_of_eq rfl) (hb hby at_12) (fun _ _ => ⟨rfl, e13, (by decide : 1 + 1 ≤ _), (by decide : 2 + 1 ≤ _)⟩)
    dsimp only [Pt.U, Pt.locs, Pt.cells, Pt.slots] at X18 l18 y18 z18 st18 hQ18
    subst l18 y18 z18
    obtain ⟨ar_18, kk_18, rfl, N18q, Kq18, o18_0, o18_1, o18_2, o18_3⟩ := hQ18
    have N18 := Fr.app N0 N18q
    have Z19 : n0 ≤ T18.heap.size := Nat.le_trans Z14 Kq18.1
    have g_ar_18 : n0 ≤ ar_18 := Nat.le_trans Z14 o18_0
    refine Good.back (fun _ k => st18.trans k) ?_
    show Good p e below _ (T18.setTop (mkF m 15 #[.val (.int p0), .val (.int p1), .val (.int p2), .val (.int p3), .val (.int p4), .val (.int p5), .val (.int (1 : Int32)), .unset, .unset, .unset] [(.ref b13)]))
    refine Good.back (fun _ k => XS.astore X18.here hx rfl (hb hby at_15) rfl rfl (l' := #[.val (.int p0), .val (.int p1), .val (.int p2), .val (.int p3), .val (.int p4), .val (.int p5), .val (.int (1 : Int32)), .val (.ref b13), .unset, .unset]) rfl k) ?_
    show Good p e below _ (T18.setTop (mkF m 17 #[.val (.int p0), .val (.int p1), .val (.int p2), .val (.int p3), .val (.int p4), .val (.int p5), .val (.int (1 : Int32)), .val (.ref b13), .unset, .unset] []))
    refine Good.back (fun _ k => XS.iload X18.here hx rfl (hb hby at_17) rfl k) ?_
    show Good p e below _ (T18.setTop (mkF m 19 #[.val (.int p0), .val (.int p1), .val (.int p2), .val (.int p3), .val (.int p4), .val (.int p5), .val (.int (1 : Int32)), .val (.ref b13), .unset, .unset] [(.int (1 : Int32))]))
    refine Good.back (fun _ k => XS.iconst X18.here hx rfl (hb hby at_19) k) ?_
    show Good p e below _ (T18.setTop (mkF m 20 #[.val (.int p0), .val (.int p1), .val (.int p2), .val (.int p3), .val (.int p4), .val (.int p5), .val (.int (1 : Int32)), .val (.ref b13), .unset, .unset] [(.int (1 : Int32)), (.int (1 : Int32))]))
    refine Good.back (fun _ k => XS.icmpNo X18.here hx rfl (hb hby at_20) rfl (flt (by decide : ¬ ((1 : Int32) < (1 : Int32)))).1 k) ?_
    show Good p e below _ (T18.setTop (mkF m 23 #[.val (.int p0), .val (.int p1), .val (.int p2), .val (.int p3), .val (.int p4), .val (.int p5), .val (.int (1 : Int32)), .val (.ref b13), .unset, .unset] []))
    refine Good.back (fun _ k => XS.aload X18.here hx rfl (hb hby at_23) rfl rfl k) ?_
    show Good p e below _ (T18.setTop (mkF m 25 #[.val (.int p0), .val (.int p1), .val (.int p2), .val (.int p3), .val (.int p4), .val (.int p5), .val (.int (1 : Int32)), .val (.ref b13), .unset, .unset] [(.ref b13)]))
    refine Good.back (fun _ k => XS.iconst X18.here hx rfl (hb hby at_25) k) ?_
    show Good p e below _ (T18.setTop (mkF m 26 #[.val (.int p0), .val (.int p1), .val (.int p2), .val (.int p3), .val (.int p4), .val (.int p5), .val (.int (1 : Int32)), .val (.ref b13), .unset, .unset] [(.int (1 : Int32)), (.ref b13)]))
    refine Good.back (fun _ k => XS.iloadN X18.here hx rfl (hb hby at_26) rfl k) ?_
    show Good p e below _ (T18.setTop (mkF m 27 #[.val (.int p0), .val (.int p1), .val (.int p2), .val (.int p3), .val (.int p4), .val (.int p5), .val (.int (1 : Int32)), .val (.ref b13), .unset, .unset] [(.int p2), (.int (1 : Int32)), (.ref b13)]))
    have f_21 : Exa Z T18.heap b13 "org/ludarium/games/sabacc/Chips" := Exa.keep f_15 Kq18
    obtain ⟨cq20, kq20, q20a, q20b, q20c⟩ := isOf hZ rfl f_21
    obtain ⟨_, _, ⟨T20, L20, k20, n20⟩, -, X20, ⟨Lc20, hQ20, l20, y20, z20⟩, st20⟩ := X18.virtualBack hx (y := (⟨"org/ludarium/games/sabacc/Chips", "win", "(II)V"⟩ : MethodName)) (z := (⟨"org/ludarium/games/sabacc/Chips", "win", "(II)V"⟩ : MethodName)) hown (mvT hZ (hw _ (List.mem_of_getElem? (i := 31) rfl))) (mvT hZ (hw _ (List.mem_of_getElem? (i := 32) rfl))) (notFace_of_selects (args := #[]) (mvT hZ (hw _ (List.mem_of_getElem? (i := 34) rfl)))) (mvT hZ (hw _ (List.mem_of_getElem? (i := 34) rfl))) (mvT hZ (hw _ (List.mem_of_getElem? (i := 33) rfl))) (by decide) (backOf (W := 0) (rm7_1_1 l Z a0 hw [] b13 p2 ar_18 kk_18 p1 T18.heap n0 Z19 o18_1 o18_3 g_ar_18) hZ (hw _ (List.mem_of_getElem? (i := 35) rfl)) (hw _ (List.mem_of_getElem? (i := 2) rfl)) (by decide) (by decide)) q20a q20c (g := (mkF m 27 #[.val (.int p0), .val (.int p1), .val (.int p2), .val (.int p3), .val (.int p4), .val (.int p5), .val (.int (1 : Int32)), .val (.ref b13), .unset, .unset] [(.int p2), (.int (1 : Int32)), (.ref b13)])) rfl (by rw [hml]; rfl) (Steps.refl _) (argsL := [(.int (1 : Int32)), (.int p2)]) (rest := []) (lenOf own_pd118 rfl) rfl (by show 2 * 0 + _ ≤ _; exact Nat.le_of_eq rfl) (hb hby at_27) (fun _ _ => ⟨rfl, rfl, (by decide : 2 + 0 ≤ _), (by decide : 3 + 0 ≤ _)⟩)
    dsimp only [Pt.U, Pt.locs, Pt.cells, Pt.slots] at X20 l20 y20 z20 st20 hQ20
    subst l20 y20 z20
    obtain ⟨rfl, N20q, Kq20, o20_0⟩ := hQ20
    have N20 := Fr.app N18 N20q
    have Z22 : n0 ≤ T20.heap.size := Nat.le_trans Z19 Kq20.1
    refine Good.back (fun _ k => st20.trans k) ?_
    show Good p e below _ (T20.setTop (mkF m 30 #[.val (.int p0), .val (.int p1), .val (.int p2), .val (.int p3), .val (.int p4), .val (.int p5), .val (.int (1 : Int32)), .val (.ref b13), .unset, .unset] []))
    refine Good.back (fun _ k => XS.aload X20.here hx rfl (hb hby at_30) rfl rfl k) ?_
    show Good p e below _ (T20.setTop (mkF m 32 #[.val (.int p0), .val (.int p1), .val (.int p2), .val (.int p3), .val (.int p4), .val (.int p5), .val (.int (1 : Int32)), .val (.ref b13), .unset, .unset] [(.ref b13)]))
    refine Good.back (fun _ k => XS.iconst X20.here hx rfl (hb hby at_32) k) ?_
    show Good p e below _ (T20.setTop (mkF m 33 #[.val (.int p0), .val (.int p1), .val (.int p2), .val (.int p3), .val (.int p4), .val (.int p5), .val (.int (1 : Int32)), .val (.ref b13), .unset, .unset] [(.int (1 : Int32)), (.ref b13)]))
    refine Good.back (fun _ k => XS.iload X20.here hx rfl (hb hby at_33) rfl k) ?_
    show Good p e below _ (T20.setTop (mkF m 35 #[.val (.int p0), .val (.int p1), .val (.int p2), .val (.int p3), .val (.int p4), .val (.int p5), .val (.int (1 : Int32)), .val (.ref b13), .unset, .unset] [(.int p4), (.int (1 : Int32)), (.ref b13)]))
    have f_24 : Exa Z T20.heap b13 "org/ludarium/games/sabacc/Chips" := Exa.keep f_21 Kq20
    have ne_b13_ar_18_26 : b13 ≠ ar_18 := Nat.ne_of_lt (Nat.lt_of_lt_of_le f_17.lt o18_0)
    have f_25 : Fld Z T20.heap b13 "org/ludarium/games/sabacc/Chips" "sabaccPot" "I" (.int (0 : Int32)) := Fld.keep o18_2 Kq20 (ninS ne_b13_ar_18_26 nin0)
    have f_27 : Fld Z T20.heap b13 "org/ludarium/games/sabacc/Chips" "held" "[I" (.ref ar_18) := Fld.keep o18_1 Kq20 (ninS ne_b13_ar_18_26 nin0)
    obtain ⟨cq23, kq23, q23a, q23b, q23c⟩ := isOf hZ rfl f_24
    obtain ⟨_, _, ⟨T23, L23, k23, n23⟩, -, X23, ⟨Lc23, hQ23, l23, y23, z23⟩, st23⟩ := X20.virtualBack hx (y := (⟨"org/ludarium/games/sabacc/Chips", "paySabaccPot", "(II)V"⟩ : MethodName)) (z := (⟨"org/ludarium/games/sabacc/Chips", "paySabaccPot", "(II)V"⟩ : MethodName)) hown (mvT hZ (hw _ (List.mem_of_getElem? (i := 36) rfl))) (mvT hZ (hw _ (List.mem_of_getElem? (i := 37) rfl))) (notFace_of_selects (args := #[]) (mvT hZ (hw _ (List.mem_of_getElem? (i := 39) rfl)))) (mvT hZ (hw _ (List.mem_of_getElem? (i := 39) rfl))) (mvT hZ (hw _ (List.mem_of_getElem? (i := 38) rfl))) (by decide) (backOf (W := 0) (rm8_1_1 l Z a0 hw [] b13 p4 ar_18 (0 : Int32) kk_18 (p1 + p2) T20.heap n0 Z22 f_24 g_b13 g_ar_18 ne_b13_ar_18_26 f_25 f_27 o20_0) hZ (hw _ (List.mem_of_getElem? (i := 40) rfl)) (hw _ (List.mem_of_getElem? (i := 2) rfl)) (by decide) (by decide)) q23a q23c (g := (mkF m 35 #[.val (.int p0), .val (.int p1), .val (.int p2), .val (.int p3), .val (.int p4), .val (.int p5), .val (.int (1 : Int32)), .val (.ref b13), .unset, .unset] [(.int p4), (.int (1 : Int32)), (.ref b13)])) rfl (by rw [hml]; rfl) (Steps.refl _) (argsL := [(.int (1 : Int32)), (.int p4)]) (rest := []) (lenOf own_pd118 rfl) rfl (by show 2 * 0 + _ ≤ _; exact Nat.le_of_eq rfl) (hb hby at_35) (fun _ _ => ⟨rfl, rfl, (by decide : 2 + 0 ≤ _), (by decide : 3 + 0 ≤ _)⟩)
    dsimp only [Pt.U, Pt.locs, Pt.cells, Pt.slots] at X23 l23 y23 z23 st23 hQ23
    subst l23 y23 z23
    obtain ⟨rfl, N23q, Kq23, o23_0, o23_1, o23_2⟩ := hQ23
    have N23 := Fr.app N20 N23q
    have Z28 : n0 ≤ T23.heap.size := Nat.le_trans Z22 Kq23.1
    refine Good.back (fun _ k => st23.trans k) ?_
    show Good p e below _ (T23.setTop (mkF m 38 #[.val (.int p0), .val (.int p1), .val (.int p2), .val (.int p3), .val (.int p4), .val (.int p5), .val (.int (1 : Int32)), .val (.ref b13), .unset, .unset] []))
    refine Good.back (fun _ k => XS.iload X23.here hx rfl (hb hby at_38) rfl k) ?_
    show Good p e below _ (T23.setTop (mkF m 40 #[.val (.int p0), .val (.int p1), .val (.int p2), .val (.int p3), .val (.int p4), .val (.int p5), .val (.int (1 : Int32)), .val (.ref b13), .unset, .unset] [(.int (1 : Int32))]))
    refine Good.back (fun _ k => XS.iconst X23.here hx rfl (hb hby at_40) k) ?_
    show Good p e below _ (T23.setTop (mkF m 41 #[.val (.int p0), .val (.int p1), .val (.int p2), .val (.int p3), .val (.int p4), .val (.int p5), .val (.int (1 : Int32)), .val (.ref b13), .unset, .unset] [(.int (2 : Int32)), (.int (1 : Int32))]))
    refine Good.back (fun _ k => XS.icmpYes X23.here hx rfl (pc0 := 41) (pc' := 51) rfl (hb hby at_41) rfl (tlt (by decide : ((1 : Int32) < (2 : Int32)))).1 (by decide) (by decide) k) ?_
    show Good p e below _ (T23.setTop (mkF m 51 #[.val (.int p0), .val (.int p1), .val (.int p2), .val (.int p3), .val (.int p4), .val (.int p5), .val (.int (1 : Int32)), .val (.ref b13), .unset, .unset] []))
    refine Good.back (fun _ k => XS.iload X23.here hx rfl (hb hby at_51) rfl k) ?_
    show Good p e below _ (T23.setTop (mkF m 53 #[.val (.int p0), .val (.int p1), .val (.int p2), .val (.int p3), .val (.int p4), .val (.int p5), .val (.int (1 : Int32)), .val (.ref b13), .unset, .unset] [(.int (1 : Int32))]))
    refine Good.back (fun _ k => XS.iconst X23.here hx rfl (hb hby at_53) k) ?_
    show Good p e below _ (T23.setTop (mkF m 54 #[.val (.int p0), .val (.int p1), .val (.int p2), .val (.int p3), .val (.int p4), .val (.int p5), .val (.int (1 : Int32)), .val (.ref b13), .unset, .unset] [(.int (3 : Int32)), (.int (1 : Int32))]))
    refine Good.back (fun _ k => XS.icmpYes X23.here hx rfl (pc0 := 54) (pc' := 65) rfl (hb hby at_54) rfl (tlt (by decide : ((1 : Int32) < (3 : Int32)))).1 (by decide) (by decide) k) ?_
    show Good p e below _ (T23.setTop (mkF m 65 #[.val (.int p0), .val (.int p1), .val (.int p2), .val (.int p3), .val (.int p4), .val (.int p5), .val (.int (1 : Int32)), .val (.ref b13), .unset, .unset] []))
    refine Good.back (fun _ k => XS.aload X23.here hx rfl (hb hby at_65) rfl rfl k) ?_
    show Good p e below _ (T23.setTop (mkF m 67 #[.val (.int p0), .val (.int p1), .val (.int p2), .val (.int p3), .val (.int p4), .val (.int p5), .val (.int (1 : Int32)), .val (.ref b13), .unset, .unset] [(.ref b13)]))
    have f_30 : Exa Z T23.heap b13 "org/ludarium/games/sabacc/Chips" := Exa.keep f_24 Kq23
    obtain ⟨cq29, kq29, q29a, q29b, q29c⟩ := isOf hZ rfl f_30
    obtain ⟨_, _, ⟨T29, L29, k29, n29⟩, -, X29, ⟨Lc29, hQ29, l29, y29, z29⟩, st29⟩ := X23.virtualBack hx (y := (⟨"org/ludarium/games/sabacc/Chips", "sabaccPot", "()I"⟩ : MethodName)) (z := (⟨"org/ludarium/games/sabacc/Chips", "sabaccPot", "()I"⟩ : MethodName)) hown (mvT hZ (hw _ (List.mem_of_getElem? (i := 21) rfl))) (mvT hZ (hw _ (List.mem_of_getElem? (i := 22) rfl))) (notFace_of_selects (args := #[]) (mvT hZ (hw _ (List.mem_of_getElem? (i := 24) rfl)))) (mvT hZ (hw _ (List.mem_of_getElem? (i := 24) rfl))) (mvT hZ (hw _ (List.mem_of_getElem? (i := 23) rfl))) (by decide) (backOf (W := 0) (rm5 l Z a0 hw [] b13 ((0 : Int32) + (if (p1 + p2) < p4 then (p1 + p2) else p4)) T23.heap n0 Z28 o23_2) hZ (hw _ (List.mem_of_getElem? (i := 25) rfl)) (hw _ (List.mem_of_getElem? (i := 2) rfl)) (by decide) (by decide)) q29a q29c (g := (mkF m 67 #[.val (.int p0), .val (.int p1), .val (.int p2), .val (.int p3), .val (.int p4), .val (.int p5), .val (.int (1 : Int32)), .val (.ref b13), .unset, .unset] [(.ref b13)])) rfl (by rw [hml]; rfl) (Steps.refl _) (argsL := []) (rest := []) (lenOf own_pd119 rfl) rfl (by show 2 * 0 + _ ≤ _; exact Nat.le_of_eq rfl) (hb hby at_67) (fun _ _ => ⟨rfl, rfl, (by decide : 2 + 0 ≤ _), (by decide : 3 + 0 ≤ _)⟩)
    dsimp only [Pt.U, Pt.locs, Pt.cells, Pt.slots] at X29 l29 y29 z29 st29 hQ29
    subst l29 y29 z29
    obtain ⟨rfl, N29q, eh29⟩ := hQ29
    have N29 := Fr.app N23 N29q
    refine Good.back (fun _ k => st29.trans k) ?_
    show Good p e below _ (T29.setTop (mkF m 70 #[.val (.int p0), .val (.int p1), .val (.int p2), .val (.int p3), .val (.int p4), .val (.int p5), .val (.int (1 : Int32)), .val (.ref b13), .unset, .unset] [(.int ((0 : Int32) + (if (p1 + p2) < p4 then (p1 + p2) else p4)))]))
    refine Good.back (fun _ k => XS.i2l X29.here hx rfl (hb hby at_70) rfl k) ?_
    show Good p e below _ (T29.setTop (mkF m 71 #[.val (.int p0), .val (.int p1), .val (.int p2), .val (.int p3), .val (.int p4), .val (.int p5), .val (.int (1 : Int32)), .val (.ref b13), .unset, .unset] [(.long (((0 : Int32) + (if (p1 + p2) < p4 then (p1 + p2) else p4)).toInt64))]))
    refine Good.back (fun _ k => XS.lstore X29.here hx rfl (hb hby at_71) rfl (l' := #[.val (.int p0), .val (.int p1), .val (.int p2), .val (.int p3), .val (.int p4), .val (.int p5), .val (.int (1 : Int32)), .val (.ref b13), .val (.long (((0 : Int32) + (if (p1 + p2) < p4 then (p1 + p2) else p4)).toInt64)), .second]) rfl k) ?_
    show Good p e below _ (T29.setTop (mkF m 73 #[.val (.int p0), .val (.int p1), .val (.int p2), .val (.int p3), .val (.int p4), .val (.int p5), .val (.int (1 : Int32)), .val (.ref b13), .val (.long (((0 : Int32) + (if (p1 + p2) < p4 then (p1 + p2) else p4)).toInt64)), .second] []))
    refine Good.back (fun _ k => XS.iload X29.here hx rfl (hb hby at_73) rfl k) ?_
    show Good p e below _ (T29.setTop (mkF m 75 #[.val (.int p0), .val (.int p1), .val (.int p2), .val (.int p3), .val (.int p4), .val (.int p5), .val (.int (1 : Int32)), .val (.ref b13), .val (.long (((0 : Int32) + (if (p1 + p2) < p4 then (p1 + p2) else p4)).toInt64)), .second] [(.int (1 : Int32))]))
    refine Good.back (fun _ k => XS.iconst X29.here hx rfl (hb hby at_75) k) ?_
    show Good p e below _ (T29.setTop (mkF m 76 #[.val (.int p0), .val (.int p1), .val (.int p2), .val (.int p3), .val (.int p4), .val (.int p5), .val (.int (1 : Int32)), .val (.ref b13), .val (.long (((0 : Int32) + (if (p1 + p2) < p4 then (p1 + p2) else p4)).toInt64)), .second] [(.int (1 : Int32)), (.int (1 : Int32))]))
    refine Good.back (fun _ k => XS.icmpNo X29.here hx rfl (hb hby at_76) rfl (flt (by decide : ¬ ((1 : Int32) < (1 : Int32)))).1 k) ?_
    show Good p e below _ (T29.setTop (mkF m 79 #[.val (.int p0), .val (.int p1), .val (.int p2), .val (.int p3), .val (.int p4), .val (.int p5), .val (.int (1 : Int32)), .val (.ref b13), .val (.long (((0 : Int32) + (if (p1 + p2) < p4 then (p1 + p2) else p4)).toInt64)), .second] []))
    refine Good.back (fun _ k => XS.lload X29.here hx rfl (hb hby at_79) rfl k) ?_
    show Good p e below _ (T29.setTop (mkF m 81 #[.val (.int p0), .val (.int p1), .val (.int p2), .val (.int p3), .val (.int p4), .val (.int p5), .val (.int (1 : Int32)), .val (.ref b13), .val (.long (((0 : Int32) + (if (p1 + p2) < p4 then (p1 + p2) else p4)).toInt64)), .second] [(.long (((0 : Int32) + (if (p1 + p2) < p4 then (p1 + p2) else p4)).toInt64))]))
    refine Good.back (fun _ k => XS.aload X29.here hx rfl (hb hby at_81) rfl rfl k) ?_
    show Good p e below _ (T29.setTop (mkF m 83 #[.val (.int p0), .val (.int p1), .val (.int p2), .val (.int p3), .val (.int p4), .val (.int p5), .val (.int (1 : Int32)), .val (.ref b13), .val (.long (((0 : Int32) + (if (p1 + p2) < p4 then (p1 + p2) else p4)).toInt64)), .second] [(.ref b13), (.long (((0 : Int32) + (if (p1 + p2) < p4 then (p1 + p2) else p4)).toInt64))]))
    refine Good.back (fun _ k => XS.iconst X29.here hx rfl (hb hby at_83) k) ?_
    show Good p e below _ (T29.setTop (mkF m 84 #[.val (.int p0), .val (.int p1), .val (.int p2), .val (.int p3), .val (.int p4), .val (.int p5), .val (.int (1 : Int32)), .val (.ref b13), .val (.long (((0 : Int32) + (if (p1 + p2) < p4 then (p1 + p2) else p4)).toInt64)), .second] [(.int (1 : Int32)), (.ref b13), (.long (((0 : Int32) + (if (p1 + p2) < p4 then (p1 + p2) else p4)).toInt64))]))
    obtain ⟨cq31, kq31, q31a, q31b, q31c⟩ := isOf hZ eh29 f_30
    obtain ⟨_, _, ⟨T31, L31, k31, n31⟩, -, X31, ⟨Lc31, hQ31, l31, y31, z31⟩, st31⟩ := X29.virtualBack hx (y := (⟨"org/ludarium/games/sabacc/Chips", "held", "(I)I"⟩ : MethodName)) (z := (⟨"org/ludarium/games/sabacc/Chips", "held", "(I)I"⟩ : MethodName)) hown (mvT hZ (hw _ (List.mem_of_getElem? (i := 45) rfl))) (mvT hZ (hw _ (List.mem_of_getElem? (i := 46) rfl))) (notFace_of_selects (args := #[]) (mvT hZ (hw _ (List.mem_of_getElem? (i := 48) rfl)))) (mvT hZ (hw _ (List.mem_of_getElem? (i := 48) rfl))) (mvT hZ (hw _ (List.mem_of_getElem? (i := 47) rfl))) (by decide) (backOf (W := 2) (rm10_1_1 l Z a0 hw [] b13 ar_18 kk_18 ((p1 + p2) - (if (p1 + p2) < p4 then (p1 + p2) else p4)) T23.heap n0 Z28 o23_1 o23_0) hZ (hw _ (List.mem_of_getElem? (i := 49) rfl)) (hw _ (List.mem_of_getElem? (i := 2) rfl)) (by decide) (by decide)) q31a q31c (g := (mkF m 84 #[.val (.int p0), .val (.int p1), .val (.int p2), .val (.int p3), .val (.int p4), .val (.int p5), .val (.int (1 : Int32)), .val (.ref b13), .val (.long (((0 : Int32) + (if (p1 + p2) < p4 then (p1 + p2) else p4)).toInt64)), .second] [(.int (1 : Int32)), (.ref b13), (.long (((0 : Int32) + (if (p1 + p2) < p4 then (p1 + p2) else p4)).toInt64))])) rfl (by rw [hml]; rfl) (Steps.refl _) (argsL := [(.int (1 : Int32))]) (rest := [(.long (((0 : Int32) + (if (p1 + p2) < p4 then (p1 + p2) else p4)).toInt64))]) (lenOf own_pd121 rfl) rfl (by show 2 * 0 + _ ≤ _; exact Nat.le_of_eq rfl) (hb hby at_84) (fun _ _ => ⟨rfl, eh29, (by decide : 2 + 0 ≤ _), (by decide : 3 + 0 ≤ _)⟩)
    dsimp only [Pt.U, Pt.locs, Pt.cells, Pt.slots] at X31 l31 y31 z31 st31 hQ31
    subst l31 y31 z31
    obtain ⟨rfl, N31q, eh31⟩ := hQ31
    have N31 := Fr.app N29 N31q
    refine Good.back (fun _ k => st31.trans k) ?_
    show Good p e below _ (T31.setTop (mkF m 87 #[.val (.int p0), .val (.int p1), .val (.int p2), .val (.int p3), .val (.int p4), .val (.int p5), .val (.int (1 : Int32)), .val (.ref b13), .val (.long (((0 : Int32) + (if (p1 + p2) < p4 then (p1 + p2) else p4)).toInt64)), .second] [(.int ((p1 + p2) - (if (p1 + p2) < p4 then (p1 + p2) else p4))), (.long (((0 : Int32) + (if (p1 + p2) < p4 then (p1 + p2) else p4)).toInt64))]))
    refine Good.back (fun _ k => XS.i2l X31.here hx rfl (hb hby at_87) rfl k) ?_
    show Good p e below _ (T31.setTop (mkF m 88 #[.val (.int p0), .val (.int p1), .val (.int p2), .val (.int p3), .val (.int p4), .val (.int p5), .val (.int (1 : Int32)), .val (.ref b13), .val (.long (((0 : Int32) + (if (p1 + p2) < p4 then (p1 + p2) else p4)).toInt64)), .second] [(.long (((p1 + p2) - (if (p1 + p2) < p4 then (p1 + p2) else p4)).toInt64)), (.long (((0 : Int32) + (if (p1 + p2) < p4 then (p1 + p2) else p4)).toInt64))]))
    refine Good.back (fun _ k => XS.ladd X31.here hx rfl (hb hby at_88) rfl k) ?_
    show Good p e below _ (T31.setTop (mkF m 89 #[.val (.int p0), .val (.int p1), .val (.int p2), .val (.int p3), .val (.int p4), .val (.int p5), .val (.int (1 : Int32)), .val (.ref b13), .val (.long (((0 : Int32) + (if (p1 + p2) < p4 then (p1 + p2) else p4)).toInt64)), .second] [(.long ((((0 : Int32) + (if (p1 + p2) < p4 then (p1 + p2) else p4)).toInt64) + (((p1 + p2) - (if (p1 + p2) < p4 then (p1 + p2) else p4)).toInt64)))]))
    refine Good.back (fun _ k => XS.lstore X31.here hx rfl (hb hby at_89) rfl (l' := #[.val (.int p0), .val (.int p1), .val (.int p2), .val (.int p3), .val (.int p4), .val (.int p5), .val (.int (1 : Int32)), .val (.ref b13), .val (.long ((((0 : Int32) + (if (p1 + p2) < p4 then (p1 + p2) else p4)).toInt64) + (((p1 + p2) - (if (p1 + p2) < p4 then (p1 + p2) else p4)).toInt64))), .second]) rfl k) ?_
    show Good p e below _ (T31.setTop (mkF m 91 #[.val (.int p0), .val (.int p1), .val (.int p2), .val (.int p3), .val (.int p4), .val (.int p5), .val (.int (1 : Int32)), .val (.ref b13), .val (.long ((((0 : Int32) + (if (p1 + p2) < p4 then (p1 + p2) else p4)).toInt64) + (((p1 + p2) - (if (p1 + p2) < p4 then (p1 + p2) else p4)).toInt64))), .second] []))
    refine Good.back (fun _ k => XS.iload X31.here hx rfl (hb hby at_91) rfl k) ?_
    show Good p e below _ (T31.setTop (mkF m 93 #[.val (.int p0), .val (.int p1), .val (.int p2), .val (.int p3), .val (.int p4), .val (.int p5), .val (.int (1 : Int32)), .val (.ref b13), .val (.long ((((0 : Int32) + (if (p1 + p2) < p4 then (p1 + p2) else p4)).toInt64) + (((p1 + p2) - (if (p1 + p2) < p4 then (p1 + p2) else p4)).toInt64))), .second] [(.int (1 : Int32))]))
    refine Good.back (fun _ k => XS.iconst X31.here hx rfl (hb hby at_93) k) ?_
    show Good p e below _ (T31.setTop (mkF m 94 #[.val (.int p0), .val (.int p1), .val (.int p2), .val (.int p3), .val (.int p4), .val (.int p5), .val (.int (1 : Int32)), .val (.ref b13), .val (.long ((((0 : Int32) + (if (p1 + p2) < p4 then (p1 + p2) else p4)).toInt64) + (((p1 + p2) - (if (p1 + p2) < p4 then (p1 + p2) else p4)).toInt64))), .second] [(.int (2 : Int32)), (.int (1 : Int32))]))
    refine Good.back (fun _ k => XS.icmpYes X31.here hx rfl (pc0 := 94) (pc' := 109) rfl (hb hby at_94) rfl (tlt (by decide : ((1 : Int32) < (2 : Int32)))).1 (by decide) (by decide) k) ?_
    show Good p e below _ (T31.setTop (mkF m 109 #[.val (.int p0), .val (.int p1), .val (.int p2), .val (.int p3), .val (.int p4), .val (.int p5), .val (.int (1 : Int32)), .val (.ref b13), .val (.long ((((0 : Int32) + (if (p1 + p2) < p4 then (p1 + p2) else p4)).toInt64) + (((p1 + p2) - (if (p1 + p2) < p4 then (p1 + p2) else p4)).toInt64))), .second] []))
    refine Good.back (fun _ k => XS.iload X31.here hx rfl (hb hby at_109) rfl k) ?_
    show Good p e below _ (T31.setTop (mkF m 111 #[.val (.int p0), .val (.int p1), .val (.int p2), .val (.int p3), .val (.int p4), .val (.int p5), .val (.int (1 : Int32)), .val (.ref b13), .val (.long ((((0 : Int32) + (if (p1 + p2) < p4 then (p1 + p2) else p4)).toInt64) + (((p1 + p2) - (if (p1 + p2) < p4 then (p1 + p2) else p4)).toInt64))), .second] [(.int (1 : Int32))]))
    refine Good.back (fun _ k => XS.iconst X31.here hx rfl (hb hby at_111) k) ?_
    show Good p e below _ (T31.setTop (mkF m 112 #[.val (.int p0), .val (.int p1), .val (.int p2), .val (.int p3), .val (.int p4), .val (.int p5), .val (.int (1 : Int32)), .val (.ref b13), .val (.long ((((0 : Int32) + (if (p1 + p2) < p4 then (p1 + p2) else p4)).toInt64) + (((p1 + p2) - (if (p1 + p2) < p4 then (p1 + p2) else p4)).toInt64))), .second] [(.int (3 : Int32)), (.int (1 : Int32))]))
    refine Good.back (fun _ k => XS.icmpYes X31.here hx rfl (pc0 := 112) (pc' := 127) rfl (hb hby at_112) rfl (tlt (by decide : ((1 : Int32) < (3 : Int32)))).1 (by decide) (by decide) k) ?_
    show Good p e below _ (T31.setTop (mkF m 127 #[.val (.int p0), .val (.int p1), .val (.int p2), .val (.int p3), .val (.int p4), .val (.int p5), .val (.int (1 : Int32)), .val (.ref b13), .val (.long ((((0 : Int32) + (if (p1 + p2) < p4 then (p1 + p2) else p4)).toInt64) + (((p1 + p2) - (if (p1 + p2) < p4 then (p1 + p2) else p4)).toInt64))), .second] []))
    refine Good.back (fun _ k => XS.aload X31.here hx rfl (hb hby at_127) rfl rfl k) ?_
    show Good p e below _ (T31.setTop (mkF m 129 #[.val (.int p0), .val (.int p1), .val (.int p2), .val (.int p3), .val (.int p4), .val (.int p5), .val (.int (1 : Int32)), .val (.ref b13), .val (.long ((((0 : Int32) + (if (p1 + p2) < p4 then (p1 + p2) else p4)).toInt64) + (((p1 + p2) - (if (p1 + p2) < p4 then (p1 + p2) else p4)).toInt64))), .second] [(.ref b13)]))
    obtain ⟨cq32, kq32, q32a, q32b, q32c⟩ := isOf hZ eh31 f_30
    obtain ⟨_, _, ⟨T32, L32, k32, n32⟩, -, X32, ⟨Lc32, hQ32, l32, y32, z32⟩, st32⟩ := X31.virtualBack hx (y := (⟨"org/ludarium/games/sabacc/Chips", "total", "()J"⟩ : MethodName)) (z := (⟨"org/ludarium/games/sabacc/Chips", "total", "()J"⟩ : MethodName)) hown (mvT hZ (hw _ (List.mem_of_getElem? (i := 26) rfl))) (mvT hZ (hw _ (List.mem_of_getElem? (i := 27) rfl))) (notFace_of_selects (args := #[]) (mvT hZ (hw _ (List.mem_of_getElem? (i := 29) rfl)))) (mvT hZ (hw _ (List.mem_of_getElem? (i := 29) rfl))) (mvT hZ (hw _ (List.mem_of_getElem? (i := 28) rfl))) (by decide) (backOf (W := 0) (rm6_1 l Z a0 hw [] b13 ((0 : Int32) + (if (p1 + p2) < p4 then (p1 + p2) else p4)) ar_18 kk_18 ((p1 + p2) - (if (p1 + p2) < p4 then (p1 + p2) else p4)) T23.heap n0 Z28 o23_2 o23_1 o23_0) hZ (hw _ (List.mem_of_getElem? (i := 30) rfl)) (hw _ (List.mem_of_getElem? (i := 2) rfl)) (by decide) (by decide)) q32a q32c (g := (mkF m 129 #[.val (.int p0), .val (.int p1), .val (.int p2), .val (.int p3), .val (.int p4), .val (.int p5), .val (.int (1 : Int32)), .val (.ref b13), .val (.long ((((0 : Int32) + (if (p1 + p2) < p4 then (p1 + p2) else p4)).toInt64) + (((p1 + p2) - (if (p1 + p2) < p4 then (p1 + p2) else p4)).toInt64))), .second] [(.ref b13)])) rfl (by rw [hml]; rfl) (Steps.refl _) (argsL := []) (rest := []) (lenOf own_pd120 rfl) rfl (by show 2 * 0 + _ ≤ _; exact Nat.le_of_eq rfl) (hb hby at_129) (fun _ _ => ⟨rfl, eh31, (by decide : 2 + 0 ≤ _), (by decide : 3 + 0 ≤ _)⟩)
    dsimp only [Pt.U, Pt.locs, Pt.cells, Pt.slots] at X32 l32 y32 z32 st32 hQ32
    subst l32 y32 z32
    obtain ⟨rfl, N32q, eh32⟩ := hQ32
    have N32 := Fr.app N31 N32q
    refine Good.back (fun _ k => st32.trans k) ?_
    show Good p e below _ (T32.setTop (mkF m 132 #[.val (.int p0), .val (.int p1), .val (.int p2), .val (.int p3), .val (.int p4), .val (.int p5), .val (.int (1 : Int32)), .val (.ref b13), .val (.long ((((0 : Int32) + (if (p1 + p2) < p4 then (p1 + p2) else p4)).toInt64) + (((p1 + p2) - (if (p1 + p2) < p4 then (p1 + p2) else p4)).toInt64))), .second] [(.long ((((0 : Int32) + (if (p1 + p2) < p4 then (p1 + p2) else p4)).toInt64) + (((p1 + p2) - (if (p1 + p2) < p4 then (p1 + p2) else p4)).toInt64)))]))
    refine Good.back (fun _ k => XS.lload X32.here hx rfl (hb hby at_132) rfl k) ?_
    show Good p e below _ (T32.setTop (mkF m 134 #[.val (.int p0), .val (.int p1), .val (.int p2), .val (.int p3), .val (.int p4), .val (.int p5), .val (.int (1 : Int32)), .val (.ref b13), .val (.long ((((0 : Int32) + (if (p1 + p2) < p4 then (p1 + p2) else p4)).toInt64) + (((p1 + p2) - (if (p1 + p2) < p4 then (p1 + p2) else p4)).toInt64))), .second] [(.long ((((0 : Int32) + (if (p1 + p2) < p4 then (p1 + p2) else p4)).toInt64) + (((p1 + p2) - (if (p1 + p2) < p4 then (p1 + p2) else p4)).toInt64))), (.long ((((0 : Int32) + (if (p1 + p2) < p4 then (p1 + p2) else p4)).toInt64) + (((p1 + p2) - (if (p1 + p2) < p4 then (p1 + p2) else p4)).toInt64)))]))
    refine Good.back (fun _ k => XS.lcmp X32.here hx rfl (hb hby at_134) rfl k) ?_
    show Good p e below _ (T32.setTop (mkF m 135 #[.val (.int p0), .val (.int p1), .val (.int p2), .val (.int p3), .val (.int p4), .val (.int p5), .val (.int (1 : Int32)), .val (.ref b13), .val (.long ((((0 : Int32) + (if (p1 + p2) < p4 then (p1 + p2) else p4)).toInt64) + (((p1 + p2) - (if (p1 + p2) < p4 then (p1 + p2) else p4)).toInt64))), .second] [(.int (lcmpW ((((0 : Int32) + (if (p1 + p2) < p4 then (p1 + p2) else p4)).toInt64) + (((p1 + p2) - (if (p1 + p2) < p4 then (p1 + p2) else p4)).toInt64)) ((((0 : Int32) + (if (p1 + p2) < p4 then (p1 + p2) else p4)).toInt64) + (((p1 + p2) - (if (p1 + p2) < p4 then (p1 + p2) else p4)).toInt64))))]))
    refine Good.back (fun _ k => XS.ifNo X32.here hx rfl (hb hby at_135) rfl ((if0 _ _).trans (teq ((lw_eq _ _).mpr rfl : (lcmpW ((((0 : Int32) + (if (p1 + p2) < p4 then (p1 + p2) else p4)).toInt64) + (((p1 + p2) - (if (p1 + p2) < p4 then (p1 + p2) else p4)).toInt64)) ((((0 : Int32) + (if (p1 + p2) < p4 then (p1 + p2) else p4)).toInt64) + (((p1 + p2) - (if (p1 + p2) < p4 then (p1 + p2) else p4)).toInt64))) = (0 : Int32))).2) k) ?_
    show Good p e below _ (T32.setTop (mkF m 138 #[.val (.int p0), .val (.int p1), .val (.int p2), .val (.int p3), .val (.int p4), .val (.int p5), .val (.int (1 : Int32)), .val (.ref b13), .val (.long ((((0 : Int32) + (if (p1 + p2) < p4 then (p1 + p2) else p4)).toInt64) + (((p1 + p2) - (if (p1 + p2) < p4 then (p1 + p2) else p4)).toInt64))), .second] []))
    refine Good.back (fun _ k => XS.iconst X32.here hx rfl (hb hby at_138) k) ?_
    show Good p e below _ (T32.setTop (mkF m 139 #[.val (.int p0), .val (.int p1), .val (.int p2), .val (.int p3), .val (.int p4), .val (.int p5), .val (.int (1 : Int32)), .val (.ref b13), .val (.long ((((0 : Int32) + (if (p1 + p2) < p4 then (p1 + p2) else p4)).toInt64) + (((p1 + p2) - (if (p1 + p2) < p4 then (p1 + p2) else p4)).toInt64))), .second] [(.int (1 : Int32))]))
    refine Good.back (fun _ k => XS.goto X32.here hx rfl (pc0 := 139) (pc' := 143) rfl (hb hby at_139) (by decide) (by decide) k) ?_
    show Good p e below _ (T32.setTop (mkF m 143 #[.val (.int p0), .val (.int p1), .val (.int p2), .val (.int p3), .val (.int p4), .val (.int p5), .val (.int (1 : Int32)), .val (.ref b13), .val (.long ((((0 : Int32) + (if (p1 + p2) < p4 then (p1 + p2) else p4)).toInt64) + (((p1 + p2) - (if (p1 + p2) < p4 then (p1 + p2) else p4)).toInt64))), .second] [(.int (1 : Int32))]))
    obtain ⟨fs33, hr33, hrun33, hended33, hW33, hsame33⟩ := X32.leave (v := some (.int (1 : Int32))) (fun h => by rw [Bd.returns] at h; cases h)
    refine Good.done (retN X32 hx (t := .boolean) Bd.returns (by simp) (hb hby at_143) hr33) hrun33 hended33 ⟨_, _, rfl, ?_, ⟨_, rfl⟩, hW33, hsame33.mono (by decide) (by decide)⟩
    show Q0 Z p0 p1 p2 p3 p4 p5 h0 n0 _ T32.heap _
    rw [eh32]
    exact ⟨rfl, N32⟩
  · have he1' : (p0 &&& (3 : Int32)) = (2 : Int32) := he1
    rw [he1']
    show Good p e below _ (s₁.setTop (mkF m 5 #[.val (.int p0), .val (.int p1), .val (.int p2), .val (.int p3), .val (.int p4), .val (.int p5), .val (.int (2 : Int32)), .unset, .unset, .unset] []))
    obtain ⟨T34, h34, X34, e34, E34, A34, D34, -, st34⟩ := newO X0 hx hZ hown (hw _ (List.mem_of_getElem? (i := 0) rfl)) (hw _ (List.mem_of_getElem? (i := 1) rfl)) (hw _ (List.mem_of_getElem? (i := 2) rfl)) e0 (g := (mkF m 5 #[.val (.int p0), .val (.int p1), .val (.int p2), .val (.int p3), .val (.int p4), .val (.int p5), .val (.int (2 : Int32)), .unset, .unset, .unset] [])) rfl (hb hby at_5) (by decide) (by decide)
    obtain ⟨b34, g34⟩ : ∃ z, z = h0.size := ⟨_, rfl⟩
    rw [← g34] at A34 D34 st34
    refine Good.back st34 ?_
    have g_b34 : n0 ≤ b34 := Nat.le_trans Z0 (Nat.le_of_eq g34.symm)
    have Z35 : n0 ≤ h34.size := Nat.le_trans Z0 E34.1
    have f_36 : Exa Z h34 b34 "org/ludarium/games/sabacc/Chips" := A34
    have f_37 : Fld Z h34 b34 "org/ludarium/games/sabacc/Chips" "held" "[I" .null := D34 (Or.inr (hw _ (List.mem_of_getElem? (i := 14) rfl))) (ty := (.array .int)) (by decide)
    have f_38 : Fld Z h34 b34 "org/ludarium/games/sabacc/Chips" "sabaccPot" "I" (.int (0 : Int32)) := D34 (Or.inl (hw _ (List.mem_of_getElem? (i := 16) rfl))) (ty := .int) (by decide)
    show Good p e below _ (T34.setTop (mkF m 8 #[.val (.int p0), .val (.int p1), .val (.int p2), .val (.int p3), .val (.int p4), .val (.int p5), .val (.int (2 : Int32)), .unset, .unset, .unset] [(.ref b34)]))
    refine Good.back (fun _ k => XS.dup X34.here hx rfl (hb hby at_8) rfl rfl k) ?_
    show Good p e below _ (T34.setTop (mkF m 9 #[.val (.int p0), .val (.int p1), .val (.int p2), .val (.int p3), .val (.int p4), .val (.int p5), .val (.int (2 : Int32)), .unset, .unset, .unset] [(.ref b34), (.ref b34)]))
    refine Good.back (fun _ k => XS.iload X34.here hx rfl (hb hby at_9) rfl k) ?_
    show Good p e below _ (T34.setTop (mkF m 11 #[.val (.int p0), .val (.int p1), .val (.int p2), .val (.int p3), .val (.int p4), .val (.int p5), .val (.int (2 : Int32)), .unset, .unset, .unset] [(.int (2 : Int32)), (.ref b34), (.ref b34)]))
    refine Good.back (fun _ k => XS.iloadN X34.here hx rfl (hb hby at_11) rfl k) ?_
    show Good p e below _ (T34.setTop (mkF m 12 #[.val (.int p0), .val (.int p1), .val (.int p2), .val (.int p3), .val (.int p4), .val (.int p5), .val (.int (2 : Int32)), .unset, .unset, .unset] [(.int p1), (.int (2 : Int32)), (.ref b34), (.ref b34)]))
    obtain ⟨_, _, ⟨T39, L39, k39, n39⟩, -, X39, ⟨Lc39, hQ39, l39, y39, z39⟩, st39⟩ := X34.specialBack hx (y := (⟨"org/ludarium/games/sabacc/Chips", "<init>", "(II)V"⟩ : MethodName)) rfl hown (mvT hZ (hw _ (List.mem_of_getElem? (i := 3) rfl))) (mvT hZ (hw _ (List.mem_of_getElem? (i := 4) rfl))) (mvT hZ (hw _ (List.mem_of_getElem? (i := 5) rfl))) (by decide) (backOf (W := 1) (rm1_2 l Z a0 hw [] b34 p1  h34 n0 Z35 f_36 g_b34 f_37 f_38) hZ (hw _ (List.mem_of_getElem? (i := 5) rfl)) (hw _ (List.mem_of_getElem? (i := 2) rfl)) (by decide) (by decide)) (g := (mkF m 12 #[.val (.int p0), .val (.int p1), .val (.int p2), .val (.int p3), .val (.int p4), .val (.int p5), .val (.int (2 : Int32)), .unset, .unset, .unset] [(.int p1), (.int (2 : Int32)), (.ref b34), (.ref b34)])) rfl (by rw [hml]; rfl) (Steps.refl _) (a := b34) (argsL := [(.int (2 : Int32)), (.int p1)]) (rest := [(.ref b34)]) (lenOf own_pd118 rfl) rfl (by show 2 * 0 + _ ≤ _; exact Nat.le_of_eq rfl) (hb hby at_12) (fun _ _ => ⟨rfl, e34, (by decide : 1 + 1 ≤ _), (by decide : 2 + 2 ≤ _)⟩)
    dsimp only [Pt.U, Pt.locs, Pt.cells, Pt.slots] at X39 l39 y39 z39 st39 hQ39
    subst l39 y39 z39
    obtain ⟨ar_39, kk_39, rfl, N39q, Kq39, o39_0, o39_1, o39_2, o39_3⟩ := hQ39
    have N39 := Fr.app N0 N39q
    have Z40 : n0 ≤ T39.heap.size := Nat.le_trans Z35 Kq39.1
    have g_ar_39 : n0 ≤ ar_39 := Nat.le_trans Z35 o39_0
    refine Good.back (fun _ k => st39.trans k) ?_
    show Good p e below _ (T39.setTop (mkF m 15 #[.val (.int p0), .val (.int p1), .val (.int p2), .val (.int p3), .val (.int p4), .val (.int p5), .val (.int (2 : Int32)), .unset, .unset, .unset] [(.ref b34)]))
    refine Good.back (fun _ k => XS.astore X39.here hx rfl (hb hby at_15) rfl rfl (l' := #[.val (.int p0), .val (.int p1), .val (.int p2), .val (.int p3), .val (.int p4), .val (.int p5), .val (.int (2 : Int32)), .val (.ref b34), .unset, .unset]) rfl k) ?_
    show Good p e below _ (T39.setTop (mkF m 17 #[.val (.int p0), .val (.int p1), .val (.int p2), .val (.int p3), .val (.int p4), .val (.int p5), .val (.int (2 : Int32)), .val (.ref b34), .unset, .unset] []))
    refine Good.back (fun _ k => XS.iload X39.here hx rfl (hb hby at_17) rfl k) ?_
    show Good p e below _ (T39.setTop (mkF m 19 #[.val (.int p0), .val (.int p1), .val (.int p2), .val (.int p3), .val (.int p4), .val (.int p5), .val (.int (2 : Int32)), .val (.ref b34), .unset, .unset] [(.int (2 : Int32))]))
    refine Good.back (fun _ k => XS.iconst X39.here hx rfl (hb hby at_19) k) ?_
    show Good p e below _ (T39.setTop (mkF m 20 #[.val (.int p0), .val (.int p1), .val (.int p2), .val (.int p3), .val (.int p4), .val (.int p5), .val (.int (2 : Int32)), .val (.ref b34), .unset, .unset] [(.int (1 : Int32)), (.int (2 : Int32))]))
    refine Good.back (fun _ k => XS.icmpNo X39.here hx rfl (hb hby at_20) rfl (flt (by decide : ¬ ((2 : Int32) < (1 : Int32)))).1 k) ?_
    show Good p e below _ (T39.setTop (mkF m 23 #[.val (.int p0), .val (.int p1), .val (.int p2), .val (.int p3), .val (.int p4), .val (.int p5), .val (.int (2 : Int32)), .val (.ref b34), .unset, .unset] []))
    refine Good.back (fun _ k => XS.aload X39.here hx rfl (hb hby at_23) rfl rfl k) ?_
    show Good p e below _ (T39.setTop (mkF m 25 #[.val (.int p0), .val (.int p1), .val (.int p2), .val (.int p3), .val (.int p4), .val (.int p5), .val (.int (2 : Int32)), .val (.ref b34), .unset, .unset] [(.ref b34)]))
    refine Good.back (fun _ k => XS.iconst X39.here hx rfl (hb hby at_25) k) ?_
    show Good p e below _ (T39.setTop (mkF m 26 #[.val (.int p0), .val (.int p1), .val (.int p2), .val (.int p3), .val (.int p4), .val (.int p5), .val (.int (2 : Int32)), .val (.ref b34), .unset, .unset] [(.int (1 : Int32)), (.ref b34)]))
    refine Good.back (fun _ k => XS.iloadN X39.here hx rfl (hb hby at_26) rfl k) ?_
    show Good p e below _ (T39.setTop (mkF m 27 #[.val (.int p0), .val (.int p1), .val (.int p2), .val (.int p3), .val (.int p4), .val (.int p5), .val (.int (2 : Int32)), .val (.ref b34), .unset, .unset] [(.int p2), (.int (1 : Int32)), (.ref b34)]))
    have f_42 : Exa Z T39.heap b34 "org/ludarium/games/sabacc/Chips" := Exa.keep f_36 Kq39
    obtain ⟨cq41, kq41, q41a, q41b, q41c⟩ := isOf hZ rfl f_42
    obtain ⟨_, _, ⟨T41, L41, k41, n41⟩, -, X41, ⟨Lc41, hQ41, l41, y41, z41⟩, st41⟩ := X39.virtualBack hx (y := (⟨"org/ludarium/games/sabacc/Chips", "win", "(II)V"⟩ : MethodName)) (z := (⟨"org/ludarium/games/sabacc/Chips", "win", "(II)V"⟩ : MethodName)) hown (mvT hZ (hw _ (List.mem_of_getElem? (i := 31) rfl))) (mvT hZ (hw _ (List.mem_of_getElem? (i := 32) rfl))) (notFace_of_selects (args := #[]) (mvT hZ (hw _ (List.mem_of_getElem? (i := 34) rfl)))) (mvT hZ (hw _ (List.mem_of_getElem? (i := 34) rfl))) (mvT hZ (hw _ (List.mem_of_getElem? (i := 33) rfl))) (by decide) (backOf (W := 0) (rm7_2_1 l Z a0 hw [] b34 p2 ar_39 kk_39 p1 p1 T39.heap n0 Z40 o39_1 o39_3 g_ar_39) hZ (hw _ (List.mem_of_getElem? (i := 35) rfl)) (hw _ (List.mem_of_getElem? (i := 2) rfl)) (by decide) (by decide)) q41a q41c (g := (mkF m 27 #[.val (.int p0), .val (.int p1), .val (.int p2), .val (.int p3), .val (.int p4), .val (.int p5), .val (.int (2 : Int32)), .val (.ref b34), .unset, .unset] [(.int p2), (.int (1 : Int32)), (.ref b34)])) rfl (by rw [hml]; rfl) (Steps.refl _) (argsL := [(.int (1 : Int32)), (.int p2)]) (rest := []) (lenOf own_pd118 rfl) rfl (by show 2 * 0 + _ ≤ _; exact Nat.le_of_eq rfl) (hb hby at_27) (fun _ _ => ⟨rfl, rfl, (by decide : 2 + 0 ≤ _), (by decide : 4 + 0 ≤ _)⟩)
    dsimp only [Pt.U, Pt.locs, Pt.cells, Pt.slots] at X41 l41 y41 z41 st41 hQ41
    subst l41 y41 z41
    obtain ⟨rfl, N41q, Kq41, o41_0⟩ := hQ41
    have N41 := Fr.app N39 N41q
    have Z43 : n0 ≤ T41.heap.size := Nat.le_trans Z40 Kq41.1
    refine Good.back (fun _ k => st41.trans k) ?_
    show Good p e below _ (T41.setTop (mkF m 30 #[.val (.int p0), .val (.int p1), .val (.int p2), .val (.int p3), .val (.int p4), .val (.int p5), .val (.int (2 : Int32)), .val (.ref b34), .unset, .unset] []))
    refine Good.back (fun _ k => XS.aload X41.here hx rfl (hb hby at_30) rfl rfl k) ?_
    show Good p e below _ (T41.setTop (mkF m 32 #[.val (.int p0), .val (.int p1), .val (.int p2), .val (.int p3), .val (.int p4), .val (.int p5), .val (.int (2 : Int32)), .val (.ref b34), .unset, .unset] [(.ref b34)]))
    refine Good.back (fun _ k => XS.iconst X41.here hx rfl (hb hby at_32) k) ?_
    show Good p e below _ (T41.setTop (mkF m 33 #[.val (.int p0), .val (.int p1), .val (.int p2), .val (.int p3), .val (.int p4), .val (.int p5), .val (.int (2 : Int32)), .val (.ref b34), .unset, .unset] [(.int (1 : Int32)), (.ref b34)]))
    refine Good.back (fun _ k => XS.iload X41.here hx rfl (hb hby at_33) rfl k) ?_
    show Good p e below _ (T41.setTop (mkF m 35 #[.val (.int p0), .val (.int p1), .val (.int p2), .val (.int p3), .val (.int p4), .val (.int p5), .val (.int (2 : Int32)), .val (.ref b34), .unset, .unset] [(.int p4), (.int (1 : Int32)), (.ref b34)]))
    have f_45 : Exa Z T41.heap b34 "org/ludarium/games/sabacc/Chips" := Exa.keep f_42 Kq41
    have ne_b34_ar_39_47 : b34 ≠ ar_39 := Nat.ne_of_lt (Nat.lt_of_lt_of_le f_38.lt o39_0)
    have f_46 : Fld Z T41.heap b34 "org/ludarium/games/sabacc/Chips" "sabaccPot" "I" (.int (0 : Int32)) := Fld.keep o39_2 Kq41 (ninS ne_b34_ar_39_47 nin0)
    have f_48 : Fld Z T41.heap b34 "org/ludarium/games/sabacc/Chips" "held" "[I" (.ref ar_39) := Fld.keep o39_1 Kq41 (ninS ne_b34_ar_39_47 nin0)
    obtain ⟨cq44, kq44, q44a, q44b, q44c⟩ := isOf hZ rfl f_45
    obtain ⟨_, _, ⟨T44, L44, k44, n44⟩, -, X44, ⟨Lc44, hQ44, l44, y44, z44⟩, st44⟩ := X41.virtualBack hx (y := (⟨"org/ludarium/games/sabacc/Chips", "paySabaccPot", "(II)V"⟩ : MethodName)) (z := (⟨"org/ludarium/games/sabacc/Chips", "paySabaccPot", "(II)V"⟩ : MethodName)) hown (mvT hZ (hw _ (List.mem_of_getElem? (i := 36) rfl))) (mvT hZ (hw _ (List.mem_of_getElem? (i := 37) rfl))) (notFace_of_selects (args := #[]) (mvT hZ (hw _ (List.mem_of_getElem? (i := 39) rfl)))) (mvT hZ (hw _ (List.mem_of_getElem? (i := 39) rfl))) (mvT hZ (hw _ (List.mem_of_getElem? (i := 38) rfl))) (by decide) (backOf (W := 0) (rm8_2_1 l Z a0 hw [] b34 p4 ar_39 (0 : Int32) kk_39 (p1 + p2) p1 T41.heap n0 Z43 f_45 g_b34 g_ar_39 ne_b34_ar_39_47 f_46 f_48 o41_0) hZ (hw _ (List.mem_of_getElem? (i := 40) rfl)) (hw _ (List.mem_of_getElem? (i := 2) rfl)) (by decide) (by decide)) q44a q44c (g := (mkF m 35 #[.val (.int p0), .val (.int p1), .val (.int p2), .val (.int p3), .val (.int p4), .val (.int p5), .val (.int (2 : Int32)), .val (.ref b34), .unset, .unset] [(.int p4), (.int (1 : Int32)), (.ref b34)])) rfl (by rw [hml]; rfl) (Steps.refl _) (argsL := [(.int (1 : Int32)), (.int p4)]) (rest := []) (lenOf own_pd118 rfl) rfl (by show 2 * 0 + _ ≤ _; exact Nat.le_of_eq rfl) (hb hby at_35) (fun _ _ => ⟨rfl, rfl, (by decide : 2 + 0 ≤ _), (by decide : 4 + 0 ≤ _)⟩)
    dsimp only [Pt.U, Pt.locs, Pt.cells, Pt.slots] at X44 l44 y44 z44 st44 hQ44
    subst l44 y44 z44
    obtain ⟨rfl, N44q, Kq44, o44_0, o44_1, o44_2⟩ := hQ44
    have N44 := Fr.app N41 N44q
    have Z49 : n0 ≤ T44.heap.size := Nat.le_trans Z43 Kq44.1
    refine Good.back (fun _ k => st44.trans k) ?_
    show Good p e below _ (T44.setTop (mkF m 38 #[.val (.int p0), .val (.int p1), .val (.int p2), .val (.int p3), .val (.int p4), .val (.int p5), .val (.int (2 : Int32)), .val (.ref b34), .unset, .unset] []))
    refine Good.back (fun _ k => XS.iload X44.here hx rfl (hb hby at_38) rfl k) ?_
    show Good p e below _ (T44.setTop (mkF m 40 #[.val (.int p0), .val (.int p1), .val (.int p2), .val (.int p3), .val (.int p4), .val (.int p5), .val (.int (2 : Int32)), .val (.ref b34), .unset, .unset] [(.int (2 : Int32))]))
    refine Good.back (fun _ k => XS.iconst X44.here hx rfl (hb hby at_40) k) ?_
    show Good p e below _ (T44.setTop (mkF m 41 #[.val (.int p0), .val (.int p1), .val (.int p2), .val (.int p3), .val (.int p4), .val (.int p5), .val (.int (2 : Int32)), .val (.ref b34), .unset, .unset] [(.int (2 : Int32)), (.int (2 : Int32))]))
    refine Good.back (fun _ k => XS.icmpNo X44.here hx rfl (hb hby at_41) rfl (flt (by decide : ¬ ((2 : Int32) < (2 : Int32)))).1 k) ?_
    show Good p e below _ (T44.setTop (mkF m 44 #[.val (.int p0), .val (.int p1), .val (.int p2), .val (.int p3), .val (.int p4), .val (.int p5), .val (.int (2 : Int32)), .val (.ref b34), .unset, .unset] []))
    refine Good.back (fun _ k => XS.aload X44.here hx rfl (hb hby at_44) rfl rfl k) ?_
    show Good p e below _ (T44.setTop (mkF m 46 #[.val (.int p0), .val (.int p1), .val (.int p2), .val (.int p3), .val (.int p4), .val (.int p5), .val (.int (2 : Int32)), .val (.ref b34), .unset, .unset] [(.ref b34)]))
    refine Good.back (fun _ k => XS.iconst X44.here hx rfl (hb hby at_46) k) ?_
    show Good p e below _ (T44.setTop (mkF m 47 #[.val (.int p0), .val (.int p1), .val (.int p2), .val (.int p3), .val (.int p4), .val (.int p5), .val (.int (2 : Int32)), .val (.ref b34), .unset, .unset] [(.int (2 : Int32)), (.ref b34)]))
    refine Good.back (fun _ k => XS.iloadN X44.here hx rfl (hb hby at_47) rfl k) ?_
    show Good p e below _ (T44.setTop (mkF m 48 #[.val (.int p0), .val (.int p1), .val (.int p2), .val (.int p3), .val (.int p4), .val (.int p5), .val (.int (2 : Int32)), .val (.ref b34), .unset, .unset] [(.int p3), (.int (2 : Int32)), (.ref b34)]))
    have f_51 : Exa Z T44.heap b34 "org/ludarium/games/sabacc/Chips" := Exa.keep f_45 Kq44
    obtain ⟨cq50, kq50, q50a, q50b, q50c⟩ := isOf hZ rfl f_51
    obtain ⟨_, _, ⟨T50, L50, k50, n50⟩, -, X50, ⟨Lc50, hQ50, l50, y50, z50⟩, st50⟩ := X44.virtualBack hx (y := (⟨"org/ludarium/games/sabacc/Chips", "win", "(II)V"⟩ : MethodName)) (z := (⟨"org/ludarium/games/sabacc/Chips", "win", "(II)V"⟩ : MethodName)) hown (mvT hZ (hw _ (List.mem_of_getElem? (i := 31) rfl))) (mvT hZ (hw _ (List.mem_of_getElem? (i := 32) rfl))) (notFace_of_selects (args := #[]) (mvT hZ (hw _ (List.mem_of_getElem? (i := 34) rfl)))) (mvT hZ (hw _ (List.mem_of_getElem? (i := 34) rfl))) (mvT hZ (hw _ (List.mem_of_getElem? (i := 33) rfl))) (by decide) (backOf (W := 0) (rm7_2_2 l Z a0 hw [] b34 p3 ar_39 kk_39 ((p1 + p2) - (if (p1 + p2) < p4 then (p1 + p2) else p4)) p1 T44.heap n0 Z49 o44_1 o44_0 g_ar_39) hZ (hw _ (List.mem_of_getElem? (i := 35) rfl)) (hw _ (List.mem_of_getElem? (i := 2) rfl)) (by decide) (by decide)) q50a q50c (g := (mkF m 48 #[.val (.int p0), .val (.int p1), .val (.int p2), .val (.int p3), .val (.int p4), .val (.int p5), .val (.int (2 : Int32)), .val (.ref b34), .unset, .unset] [(.int p3), (.int (2 : Int32)), (.ref b34)])) rfl (by rw [hml]; rfl) (Steps.refl _) (argsL := [(.int (2 : Int32)), (.int p3)]) (rest := []) (lenOf own_pd118 rfl) rfl (by show 2 * 0 + _ ≤ _; exact Nat.le_of_eq rfl) (hb hby at_48) (fun _ _ => ⟨rfl, rfl, (by decide : 2 + 0 ≤ _), (by decide : 4 + 0 ≤ _)⟩)
    dsimp only [Pt.U, Pt.locs, Pt.cells, Pt.slots] at X50 l50 y50 z50 st50 hQ50
    subst l50 y50 z50
    obtain ⟨rfl, N50q, Kq50, o50_0⟩ := hQ50
    have N50 := Fr.app N44 N50q
    have Z52 : n0 ≤ T50.heap.size := Nat.le_trans Z49 Kq50.1
    refine Good.back (fun _ k => st50.trans k) ?_
    show Good p e below _ (T50.setTop (mkF m 51 #[.val (.int p0), .val (.int p1), .val (.int p2), .val (.int p3), .val (.int p4), .val (.int p5), .val (.int (2 : Int32)), .val (.ref b34), .unset, .unset] []))
    refine Good.back (fun _ k => XS.iload X50.here hx rfl (hb hby at_51) rfl k) ?_
    show Good p e below _ (T50.setTop (mkF m 53 #[.val (.int p0), .val (.int p1), .val (.int p2), .val (.int p3), .val (.int p4), .val (.int p5), .val (.int (2 : Int32)), .val (.ref b34), .unset, .unset] [(.int (2 : Int32))]))
    refine Good.back (fun _ k => XS.iconst X50.here hx rfl (hb hby at_53) k) ?_
    show Good p e below _ (T50.setTop (mkF m 54 #[.val (.int p0), .val (.int p1), .val (.int p2), .val (.int p3), .val (.int p4), .val (.int p5), .val (.int (2 : Int32)), .val (.ref b34), .unset, .unset] [(.int (3 : Int32)), (.int (2 : Int32))]))
    refine Good.back (fun _ k => XS.icmpYes X50.here hx rfl (pc0 := 54) (pc' := 65) rfl (hb hby at_54) rfl (tlt (by decide : ((2 : Int32) < (3 : Int32)))).1 (by decide) (by decide) k) ?_
    show Good p e below _ (T50.setTop (mkF m 65 #[.val (.int p0), .val (.int p1), .val (.int p2), .val (.int p3), .val (.int p4), .val (.int p5), .val (.int (2 : Int32)), .val (.ref b34), .unset, .unset] []))
    refine Good.back (fun _ k => XS.aload X50.here hx rfl (hb hby at_65) rfl rfl k) ?_
    show Good p e below _ (T50.setTop (mkF m 67 #[.val (.int p0), .val (.int p1), .val (.int p2), .val (.int p3), .val (.int p4), .val (.int p5), .val (.int (2 : Int32)), .val (.ref b34), .unset, .unset] [(.ref b34)]))
    have f_54 : Fld Z T50.heap b34 "org/ludarium/games/sabacc/Chips" "sabaccPot" "I" (.int ((0 : Int32) + (if (p1 + p2) < p4 then (p1 + p2) else p4))) := Fld.keep o44_2 Kq50 (ninS ne_b34_ar_39_47 nin0)
    have f_55 : Exa Z T50.heap b34 "org/ludarium/games/sabacc/Chips" := Exa.keep f_51 Kq50
    obtain ⟨cq53, kq53, q53a, q53b, q53c⟩ := isOf hZ rfl f_55
    obtain ⟨_, _, ⟨T53, L53, k53, n53⟩, -, X53, ⟨Lc53, hQ53, l53, y53, z53⟩, st53⟩ := X50.virtualBack hx (y := (⟨"org/ludarium/games/sabacc/Chips", "sabaccPot", "()I"⟩ : MethodName)) (z := (⟨"org/ludarium/games/sabacc/Chips", "sabaccPot", "()I"⟩ : MethodName)) hown (mvT hZ (hw _ (List.mem_of_getElem? (i := 21) rfl))) (mvT hZ (hw _ (List.mem_of_getElem? (i := 22) rfl))) (notFace_of_selects (args := #[]) (mvT hZ (hw _ (List.mem_of_getElem? (i := 24) rfl)))) (mvT hZ (hw _ (List.mem_of_getElem? (i := 24) rfl))) (mvT hZ (hw _ (List.mem_of_getElem? (i := 23) rfl))) (by decide) (backOf (W := 0) (rm5 l Z a0 hw [] b34 ((0 : Int32) + (if (p1 + p2) < p4 then (p1 + p2) else p4)) T50.heap n0 Z52 f_54) hZ (hw _ (List.mem_of_getElem? (i := 25) rfl)) (hw _ (List.mem_of_getElem? (i := 2) rfl)) (by decide) (by decide)) q53a q53c (g := (mkF m 67 #[.val (.int p0), .val (.int p1), .val (.int p2), .val (.int p3), .val (.int p4), .val (.int p5), .val (.int (2 : Int32)), .val (.ref b34), .unset, .unset] [(.ref b34)])) rfl (by rw [hml]; rfl) (Steps.refl _) (argsL := []) (rest := []) (lenOf own_pd119 rfl) rfl (by show 2 * 0 + _ ≤ _; exact Nat.le_of_eq rfl) (hb hby at_67) (fun _ _ => ⟨rfl, rfl, (by decide : 2 + 0 ≤ _), (by decide : 4 + 0 ≤ _)⟩)
    dsimp only [Pt.U, Pt.locs, Pt.cells, Pt.slots] at X53 l53 y53 z53 st53 hQ53
    subst l53 y53 z53
    obtain ⟨rfl, N53q, eh53⟩ := hQ53
    have N53 := Fr.app N50 N53q
    refine Good.back (fun _ k => st53.trans k) ?_
    show Good p e below _ (T53.setTop (mkF m 70 #[.val (.int p0), .val (.int p1), .val (.int p2), .val (.int p3), .val (.int p4), .val (.int p5), .val (.int (2 : Int32)), .val (.ref b34), .unset, .unset] [(.int ((0 : Int32) + (if (p1 + p2) < p4 then (p1 + p2) else p4)))]))
    refine Good.back (fun _ k => XS.i2l X53.here hx rfl (hb hby at_70) rfl k) ?_
    show Good p e below _ (T53.setTop (mkF m 71 #[.val (.int p0), .val (.int p1), .val (.int p2), .val (.int p3), .val (.int p4), .val (.int p5), .val (.int (2 : Int32)), .val (.ref b34), .unset, .unset] [(.long (((0 : Int32) + (if (p1 + p2) < p4 then (p1 + p2) else p4)).toInt64))]))
    refine Good.back (fun _ k => XS.lstore X53.here hx rfl (hb hby at_71) rfl (l' := #[.val (.int p0), .val (.int p1), .val (.int p2), .val (.int p3), .val (.int p4), .val (.int p5), .val (.int (2 : Int32)), .val (.ref b34), .val (.long (((0 : Int32) + (if (p1 + p2) < p4 then (p1 + p2) else p4)).toInt64)), .second]) rfl k) ?_
    show Good p e below _ (T53.setTop (mkF m 73 #[.val (.int p0), .val (.int p1), .val (.int p2), .val (.int p3), .val (.int p4), .val (.int p5), .val (.int (2 : Int32)), .val (.ref b34), .val (.long (((0 : Int32) + (if (p1 + p2) < p4 then (p1 + p2) else p4)).toInt64)), .second] []))
    refine Good.back (fun _ k => XS.iload X53.here hx rfl (hb hby at_73) rfl k) ?_
    show Good p e below _ (T53.setTop (mkF m 75 #[.val (.int p0), .val (.int p1), .val (.int p2), .val (.int p3), .val (.int p4), .val (.int p5), .val (.int (2 : Int32)), .val (.ref b34), .val (.long (((0 : Int32) + (if (p1 + p2) < p4 then (p1 + p2) else p4)).toInt64)), .second] [(.int (2 : Int32))]))
    refine Good.back (fun _ k => XS.iconst X53.here hx rfl (hb hby at_75) k) ?_
    show Good p e below _ (T53.setTop (mkF m 76 #[.val (.int p0), .val (.int p1), .val (.int p2), .val (.int p3), .val (.int p4), .val (.int p5), .val (.int (2 : Int32)), .val (.ref b34), .val (.long (((0 : Int32) + (if (p1 + p2) < p4 then (p1 + p2) else p4)).toInt64)), .second] [(.int (1 : Int32)), (.int (2 : Int32))]))
    refine Good.back (fun _ k => XS.icmpNo X53.here hx rfl (hb hby at_76) rfl (flt (by decide : ¬ ((2 : Int32) < (1 : Int32)))).1 k) ?_
    show Good p e below _ (T53.setTop (mkF m 79 #[.val (.int p0), .val (.int p1), .val (.int p2), .val (.int p3), .val (.int p4), .val (.int p5), .val (.int (2 : Int32)), .val (.ref b34), .val (.long (((0 : Int32) + (if (p1 + p2) < p4 then (p1 + p2) else p4)).toInt64)), .second] []))
    refine Good.back (fun _ k => XS.lload X53.here hx rfl (hb hby at_79) rfl k) ?_
    show Good p e below _ (T53.setTop (mkF m 81 #[.val (.int p0), .val (.int p1), .val (.int p2), .val (.int p3), .val (.int p4), .val (.int p5), .val (.int (2 : Int32)), .val (.ref b34), .val (.long (((0 : Int32) + (if (p1 + p2) < p4 then (p1 + p2) else p4)).toInt64)), .second] [(.long (((0 : Int32) + (if (p1 + p2) < p4 then (p1 + p2) else p4)).toInt64))]))
    refine Good.back (fun _ k => XS.aload X53.here hx rfl (hb hby at_81) rfl rfl k) ?_
    show Good p e below _ (T53.setTop (mkF m 83 #[.val (.int p0), .val (.int p1), .val (.int p2), .val (.int p3), .val (.int p4), .val (.int p5), .val (.int (2 : Int32)), .val (.ref b34), .val (.long (((0 : Int32) + (if (p1 + p2) < p4 then (p1 + p2) else p4)).toInt64)), .second] [(.ref b34), (.long (((0 : Int32) + (if (p1 + p2) < p4 then (p1 + p2) else p4)).toInt64))]))
    refine Good.back (fun _ k => XS.iconst X53.here hx rfl (hb hby at_83) k) ?_
    show Good p e below _ (T53.setTop (mkF m 84 #[.val (.int p0), .val (.int p1), .val (.int p2), .val (.int p3), .val (.int p4), .val (.int p5), .val (.int (2 : Int32)), .val (.ref b34), .val (.long (((0 : Int32) + (if (p1 + p2) < p4 then (p1 + p2) else p4)).toInt64)), .second] [(.int (1 : Int32)), (.ref b34), (.long (((0 : Int32) + (if (p1 + p2) < p4 then (p1 + p2) else p4)).toInt64))]))
    have f_57 : Fld Z T50.heap b34 "org/ludarium/games/sabacc/Chips" "held" "[I" (.ref ar_39) := Fld.keep o44_1 Kq50 (ninS ne_b34_ar_39_47 nin0)
    obtain ⟨cq56, kq56, q56a, q56b, q56c⟩ := isOf hZ eh53 f_55
    obtain ⟨_, _, ⟨T56, L56, k56, n56⟩, -, X56, ⟨Lc56, hQ56, l56, y56, z56⟩, st56⟩ := X53.virtualBack hx (y := (⟨"org/ludarium/games/sabacc/Chips", "held", "(I)I"⟩ : MethodName)) (z := (⟨"org/ludarium/games/sabacc/Chips", "held", "(I)I"⟩ : MethodName)) hown (mvT hZ (hw _ (List.mem_of_getElem? (i := 45) rfl))) (mvT hZ (hw _ (List.mem_of_getElem? (i := 46) rfl))) (notFace_of_selects (args := #[]) (mvT hZ (hw _ (List.mem_of_getElem? (i := 48) rfl)))) (mvT hZ (hw _ (List.mem_of_getElem? (i := 48) rfl))) (mvT hZ (hw _ (List.mem_of_getElem? (i := 47) rfl))) (by decide) (backOf (W := 2) (rm10_2_1 l Z a0 hw [] b34 ar_39 kk_39 ((p1 + p2) - (if (p1 + p2) < p4 then (p1 + p2) else p4)) (p1 + p3) T50.heap n0 Z52 f_57 o50_0) hZ (hw _ (List.mem_of_getElem? (i := 49) rfl)) (hw _ (List.mem_of_getElem? (i := 2) rfl)) (by decide) (by decide)) q56a q56c (g := (mkF m 84 #[.val (.int p0), .val (.int p1), .val (.int p2), .val (.int p3), .val (.int p4), .val (.int p5), .val (.int (2 : Int32)), .val (.ref b34), .val (.long (((0 : Int32) + (if (p1 + p2) < p4 then (p1 + p2) else p4)).toInt64)), .second] [(.int (1 : Int32)), (.ref b34), (.long (((0 : Int32) + (if (p1 + p2) < p4 then (p1 + p2) else p4)).toInt64))])) rfl (by rw [hml]; rfl) (Steps.refl _) (argsL := [(.int (1 : Int32))]) (rest := [(.long (((0 : Int32) + (if (p1 + p2) < p4 then (p1 + p2) else p4)).toInt64))]) (lenOf own_pd121 rfl) rfl (by show 2 * 0 + _ ≤ _; exact Nat.le_of_eq rfl) (hb hby at_84) (fun _ _ => ⟨rfl, eh53, (by decide : 2 + 0 ≤ _), (by decide : 4 + 0 ≤ _)⟩)
    dsimp only [Pt.U, Pt.locs, Pt.cells, Pt.slots] at X56 l56 y56 z56 st56 hQ56
    subst l56 y56 z56
    obtain ⟨rfl, N56q, eh56⟩ := hQ56
    have N56 := Fr.app N53 N56q
    refine Good.back (fun _ k => st56.trans k) ?_
    show Good p e below _ (T56.setTop (mkF m 87 #[.val (.int p0), .val (.int p1), .val (.int p2), .val (.int p3), .val (.int p4), .val (.int p5), .val (.int (2 : Int32)), .val (.ref b34), .val (.long (((0 : Int32) + (if (p1 + p2) < p4 then (p1 + p2) else p4)).toInt64)), .second] [(.int ((p1 + p2) - (if (p1 + p2) < p4 then (p1 + p2) else p4))), (.long (((0 : Int32) + (if (p1 + p2) < p4 then (p1 + p2) else p4)).toInt64))]))
    refine Good.back (fun _ k => XS.i2l X56.here hx rfl (hb hby at_87) rfl k) ?_
    show Good p e below _ (T56.setTop (mkF m 88 #[.val (.int p0), .val (.int p1), .val (.int p2), .val (.int p3), .val (.int p4), .val (.int p5), .val (.int (2 : Int32)), .val (.ref b34), .val (.long (((0 : Int32) + (if (p1 + p2) < p4 then (p1 + p2) else p4)).toInt64)), .second] [(.long (((p1 + p2) - (if (p1 + p2) < p4 then (p1 + p2) else p4)).toInt64)), (.long (((0 : Int32) + (if (p1 + p2) < p4 then (p1 + p2) else p4)).toInt64))]))
    refine Good.back (fun _ k => XS.ladd X56.here hx rfl (hb hby at_88) rfl k) ?_
    show Good p e below _ (T56.setTop (mkF m 89 #[.val (.int p0), .val (.int p1), .val (.int p2), .val (.int p3), .val (.int p4), .val (.int p5), .val (.int (2 : Int32)), .val (.ref b34), .val (.long (((0 : Int32) + (if (p1 + p2) < p4 then (p1 + p2) else p4)).toInt64)), .second] [(.long ((((0 : Int32) + (if (p1 + p2) < p4 then (p1 + p2) else p4)).toInt64) + (((p1 + p2) - (if (p1 + p2) < p4 then (p1 + p2) else p4)).toInt64)))]))
    refine Good.back (fun _ k => XS.lstore X56.here hx rfl (hb hby at_89) rfl (l' := #[.val (.int p0), .val (.int p1), .val (.int p2), .val (.int p3), .val (.int p4), .val (.int p5), .val (.int (2 : Int32)), .val (.ref b34), .val (.long ((((0 : Int32) + (if (p1 + p2) < p4 then (p1 + p2) else p4)).toInt64) + (((p1 + p2) - (if (p1 + p2) < p4 then (p1 + p2) else p4)).toInt64))), .second]) rfl k) ?_
    show Good p e below _ (T56.setTop (mkF m 91 #[.val (.int p0), .val (.int p1), .val (.int p2), .val (.int p3), .val (.int p4), .val (.int p5), .val (.int (2 : Int32)), .val (.ref b34), .val (.long ((((0 : Int32) + (if (p1 + p2) < p4 then (p1 + p2) else p4)).toInt64) + (((p1 + p2) - (if (p1 + p2) < p4 then (p1 + p2) else p4)).toInt64))), .second] []))
    refine Good.back (fun _ k => XS.iload X56.here hx rfl (hb hby at_91) rfl k) ?_
    show Good p e below _ (T56.setTop (mkF m 93 #[.val (.int p0), .val (.int p1), .val (.int p2), .val (.int p3), .val (.int p4), .val (.int p5), .val (.int (2 : Int32)), .val (.ref b34), .val (.long ((((0 : Int32) + (if (p1 + p2) < p4 then (p1 + p2) else p4)).toInt64) + (((p1 + p2) - (if (p1 + p2) < p4 then (p1 + p2) else p4)).toInt64))), .second] [(.int (2 : Int32))]))
    refine Good.back (fun _ k => XS.iconst X56.here hx rfl (hb hby at_93) k) ?_
    show Good p e below _ (T56.setTop (mkF m 94 #[.val (.int p0), .val (.int p1), .val (.int p2), .val (.int p3), .val (.int p4), .val (.int p5), .val (.int (2 : Int32)), .val (.ref b34), .val (.long ((((0 : Int32) + (if (p1 + p2) < p4 then (p1 + p2) else p4)).toInt64) + (((p1 + p2) - (if (p1 + p2) < p4 then (p1 + p2) else p4)).toInt64))), .second] [(.int (2 : Int32)), (.int (2 : Int32))]))
    refine Good.back (fun _ k => XS.icmpNo X56.here hx rfl (hb hby at_94) rfl (flt (by decide : ¬ ((2 : Int32) < (2 : Int32)))).1 k) ?_
    show Good p e below _ (T56.setTop (mkF m 97 #[.val (.int p0), .val (.int p1), .val (.int p2), .val (.int p3), .val (.int p4), .val (.int p5), .val (.int (2 : Int32)), .val (.ref b34), .val (.long ((((0 : Int32) + (if (p1 + p2) < p4 then (p1 + p2) else p4)).toInt64) + (((p1 + p2) - (if (p1 + p2) < p4 then (p1 + p2) else p4)).toInt64))), .second] []))
    refine Good.back (fun _ k => XS.lload X56.here hx rfl (hb hby at_97) rfl k) ?_
    show Good p e below _ (T56.setTop (mkF m 99 #[.val (.int p0), .val (.int p1), .val (.int p2), .val (.int p3), .val (.int p4), .val (.int p5), .val (.int (2 : Int32)), .val (.ref b34), .val (.long ((((0 : Int32) + (if (p1 + p2) < p4 then (p1 + p2) else p4)).toInt64) + (((p1 + p2) - (if (p1 + p2) < p4 then (p1 + p2) else p4)).toInt64))), .second] [(.long ((((0 : Int32) + (if (p1 + p2) < p4 then (p1 + p2) else p4)).toInt64) + (((p1 + p2) - (if (p1 + p2) < p4 then (p1 + p2) else p4)).toInt64)))]))
    refine Good.back (fun _ k => XS.aload X56.here hx rfl (hb hby at_99) rfl rfl k) ?_
    show Good p e below _ (T56.setTop (mkF m 101 #[.val (.int p0), .val (.int p1), .val (.int p2), .val (.int p3), .val (.int p4), .val (.int p5), .val (.int (2 : Int32)), .val (.ref b34), .val (.long ((((0 : Int32) + (if (p1 + p2) < p4 then (p1 + p2) else p4)).toInt64) + (((p1 + p2) - (if (p1 + p2) < p4 then (p1 + p2) else p4)).toInt64))), .second] [(.ref b34), (.long ((((0 : Int32) + (if (p1 + p2) < p4 then (p1 + p2) else p4)).toInt64) + (((p1 + p2) - (if (p1 + p2) < p4 then (p1 + p2) else p4)).toInt64)))]))
    refine Good.back (fun _ k => XS.iconst X56.here hx rfl (hb hby at_101) k) ?_
    show Good p e below _ (T56.setTop (mkF m 102 #[.val (.int p0), .val (.int p1), .val (.int p2), .val (.int p3), .val (.int p4), .val (.int p5), .val (.int (2 : Int32)), .val (.ref b34), .val (.long ((((0 : Int32) + (if (p1 + p2) < p4 then (p1 + p2) else p4)).toInt64) + (((p1 + p2) - (if (p1 + p2) < p4 then (p1 + p2) else p4)).toInt64))), .second] [(.int (2 : Int32)), (.ref b34), (.long ((((0 : Int32) + (if (p1 + p2) < p4 then (p1 + p2) else p4)).toInt64) + (((p1 + p2) - (if (p1 + p2) < p4 then (p1 + p2) else p4)).toInt64)))]))
    obtain ⟨cq58, kq58, q58a, q58b, q58c⟩ := isOf hZ eh56 f_55
    obtain ⟨_, _, ⟨T58, L58, k58, n58⟩, -, X58, ⟨Lc58, hQ58, l58, y58, z58⟩, st58⟩ := X56.virtualBack hx (y := (⟨"org/ludarium/games/sabacc/Chips", "held", "(I)I"⟩ : MethodName)) (z := (⟨"org/ludarium/games/sabacc/Chips", "held", "(I)I"⟩ : MethodName)) hown (mvT hZ (hw _ (List.mem_of_getElem? (i := 45) rfl))) (mvT hZ (hw _ (List.mem_of_getElem? (i := 46) rfl))) (notFace_of_selects (args := #[]) (mvT hZ (hw _ (List.mem_of_getElem? (i := 48) rfl)))) (mvT hZ (hw _ (List.mem_of_getElem? (i := 48) rfl))) (mvT hZ (hw _ (List.mem_of_getElem? (i := 47) rfl))) (by decide) (backOf (W := 2) (rm10_2_2 l Z a0 hw [] b34 ar_39 kk_39 ((p1 + p2) - (if (p1 + p2) < p4 then (p1 + p2) else p4)) (p1 + p3) T50.heap n0 Z52 f_57 o50_0) hZ (hw _ (List.mem_of_getElem? (i := 49) rfl)) (hw _ (List.mem_of_getElem? (i := 2) rfl)) (by decide) (by decide)) q58a q58c (g := (mkF m 102 #[.val (.int p0), .val (.int p1), .val (.int p2), .val (.int p3), .val (.int p4), .val (.int p5), .val (.int (2 : Int32)), .val (.ref b34), .val (.long ((((0 : Int32) + (if (p1 + p2) < p4 then (p1 + p2) else p4)).toInt64) + (((p1 + p2) - (if (p1 + p2) < p4 then (p1 + p2) else p4)).toInt64))), .second] [(.int (2 : Int32)), (.ref b34), (.long ((((0 : Int32) + (if (p1 + p2) < p4 then (p1 + p2) else p4)).toInt64) + (((p1 + p2) - (if (p1 + p2) < p4 then (p1 + p2) else p4)).toInt64)))])) rfl (by rw [hml]; rfl) (Steps.refl _) (argsL := [(.int (2 : Int32))]) (rest := [(.long ((((0 : Int32) + (if (p1 + p2) < p4 then (p1 + p2) else p4)).toInt64) + (((p1 + p2) - (if (p1 + p2) < p4 then (p1 + p2) else p4)).toInt64)))]) (lenOf own_pd121 rfl) rfl (by show 2 * 0 + _ ≤ _; exact Nat.le_of_eq rfl) (hb hby at_102) (fun _ _ => ⟨rfl, eh56, (by decide : 2 + 0 ≤ _), (by decide : 4 + 0 ≤ _)⟩)
    dsimp only [Pt.U, Pt.locs, Pt.cells, Pt.slots] at X58 l58 y58 z58 st58 hQ58
    subst l58 y58 z58
    obtain ⟨rfl, N58q, eh58⟩ := hQ58
    have N58 := Fr.app N56 N58q
    refine Good.back (fun _ k => st58.trans k) ?_
    show Good p e below _ (T58.setTop (mkF m 105 #[.val (.int p0), .val (.int p1), .val (.int p2), .val (.int p3), .val (.int p4), .val (.int p5), .val (.int (2 : Int32)), .val (.ref b34), .val (.long ((((0 : Int32) + (if (p1 + p2) < p4 then (p1 + p2) else p4)).toInt64) + (((p1 + p2) - (if (p1 + p2) < p4 then (p1 + p2) else p4)).toInt64))), .second] [(.int (p1 + p3)), (.long ((((0 : Int32) + (if (p1 + p2) < p4 then (p1 + p2) else p4)).toInt64) + (((p1 + p2) - (if (p1 + p2) < p4 then (p1 + p2) else p4)).toInt64)))]))
    refine Good.back (fun _ k => XS.i2l X58.here hx rfl (hb hby at_105) rfl k) ?_
    show Good p e below _ (T58.setTop (mkF m 106 #[.val (.int p0), .val (.int p1), .val (.int p2), .val (.int p3), .val (.int p4), .val (.int p5), .val (.int (2 : Int32)), .val (.ref b34), .val (.long ((((0 : Int32) + (if (p1 + p2) < p4 then (p1 + p2) else p4)).toInt64) + (((p1 + p2) - (if (p1 + p2) < p4 then (p1 + p2) else p4)).toInt64))), .second] [(.long ((p1 + p3).toInt64)), (.long ((((0 : Int32) + (if (p1 + p2) < p4 then (p1 + p2) else p4)).toInt64) + (((p1 + p2) - (if (p1 + p2) < p4 then (p1 + p2) else p4)).toInt64)))]))
    refine Good.back (fun _ k => XS.ladd X58.here hx rfl (hb hby at_106) rfl k) ?_
    show Good p e below _ (T58.setTop (mkF m 107 #[.val (.int p0), .val (.int p1), .val (.int p2), .val (.int p3), .val (.int p4), .val (.int p5), .val (.int (2 : Int32)), .val (.ref b34), .val (.long ((((0 : Int32) + (if (p1 + p2) < p4 then (p1 + p2) else p4)).toInt64) + (((p1 + p2) - (if (p1 + p2) < p4 then (p1 + p2) else p4)).toInt64))), .second] [(.long (((((0 : Int32) + (if (p1 + p2) < p4 then (p1 + p2) else p4)).toInt64) + (((p1 + p2) - (if (p1 + p2) < p4 then (p1 + p2) else p4)).toInt64)) + ((p1 + p3).toInt64)))]))
    refine Good.back (fun _ k => XS.lstore X58.here hx rfl (hb hby at_107) rfl (l' := #[.val (.int p0), .val (.int p1), .val (.int p2), .val (.int p3), .val (.int p4), .val (.int p5), .val (.int (2 : Int32)), .val (.ref b34), .val (.long (((((0 : Int32) + (if (p1 + p2) < p4 then (p1 + p2) else p4)).toInt64) + (((p1 + p2) - (if (p1 + p2) < p4 then (p1 + p2) else p4)).toInt64)) + ((p1 + p3).toInt64))), .second]) rfl k) ?_
    show Good p e below _ (T58.setTop (mkF m 109 #[.val (.int p0), .val (.int p1), .val (.int p2), .val (.int p3), .val (.int p4), .val (.int p5), .val (.int (2 : Int32)), .val (.ref b34), .val (.long (((((0 : Int32) + (if (p1 + p2) < p4 then (p1 + p2) else p4)).toInt64) + (((p1 + p2) - (if (p1 + p2) < p4 then (p1 + p2) else p4)).toInt64)) + ((p1 + p3).toInt64))), .second] []))
    refine Good.back (fun _ k => XS.iload X58.here hx rfl (hb hby at_109) rfl k) ?_
    show Good p e below _ (T58.setTop (mkF m 111 #[.val (.int p0), .val (.int p1), .val (.int p2), .val (.int p3), .val (.int p4), .val (.int p5), .val (.int (2 : Int32)), .val (.ref b34), .val (.long (((((0 : Int32) + (if (p1 + p2) < p4 then (p1 + p2) else p4)).toInt64) + (((p1 + p2) - (if (p1 + p2) < p4 then (p1 + p2) else p4)).toInt64)) + ((p1 + p3).toInt64))), .second] [(.int (2 : Int32))]))
    refine Good.back (fun _ k => XS.iconst X58.here hx rfl (hb hby at_111) k) ?_
    show Good p e below _ (T58.setTop (mkF m 112 #[.val (.int p0), .val (.int p1), .val (.int p2), .val (.int p3), .val (.int p4), .val (.int p5), .val (.int (2 : Int32)), .val (.ref b34), .val (.long (((((0 : Int32) + (if (p1 + p2) < p4 then (p1 + p2) else p4)).toInt64) + (((p1 + p2) - (if (p1 + p2) < p4 then (p1 + p2) else p4)).toInt64)) + ((p1 + p3).toInt64))), .second] [(.int (3 : Int32)), (.int (2 : Int32))]))
    refine Good.back (fun _ k => XS.icmpYes X58.here hx rfl (pc0 := 112) (pc' := 127) rfl (hb hby at_112) rfl (tlt (by decide : ((2 : Int32) < (3 : Int32)))).1 (by decide) (by decide) k) ?_
    show Good p e below _ (T58.setTop (mkF m 127 #[.val (.int p0), .val (.int p1), .val (.int p2), .val (.int p3), .val (.int p4), .val (.int p5), .val (.int (2 : Int32)), .val (.ref b34), .val (.long (((((0 : Int32) + (if (p1 + p2) < p4 then (p1 + p2) else p4)).toInt64) + (((p1 + p2) - (if (p1 + p2) < p4 then (p1 + p2) else p4)).toInt64)) + ((p1 + p3).toInt64))), .second] []))
    refine Good.back (fun _ k => XS.aload X58.here hx rfl (hb hby at_127) rfl rfl k) ?_
    show Good p e below _ (T58.setTop (mkF m 129 #[.val (.int p0), .val (.int p1), .val (.int p2), .val (.int p3), .val (.int p4), .val (.int p5), .val (.int (2 : Int32)), .val (.ref b34), .val (.long (((((0 : Int32) + (if (p1 + p2) < p4 then (p1 + p2) else p4)).toInt64) + (((p1 + p2) - (if (p1 + p2) < p4 then (p1 + p2) else p4)).toInt64)) + ((p1 + p3).toInt64))), .second] [(.ref b34)]))
    obtain ⟨cq59, kq59, q59a, q59b, q59c⟩ := isOf hZ eh58 f_55
    obtain ⟨_, _, ⟨T59, L59, k59, n59⟩, -, X59, ⟨Lc59, hQ59, l59, y59, z59⟩, st59⟩ := X58.virtualBack hx (y := (⟨"org/ludarium/games/sabacc/Chips", "total", "()J"⟩ : MethodName)) (z := (⟨"org/ludarium/games/sabacc/Chips", "total", "()J"⟩ : MethodName)) hown (mvT hZ (hw _ (List.mem_of_getElem? (i := 26) rfl))) (mvT hZ (hw _ (List.mem_of_getElem? (i := 27) rfl))) (notFace_of_selects (args := #[]) (mvT hZ (hw _ (List.mem_of_getElem? (i := 29) rfl)))) (mvT hZ (hw _ (List.mem_of_getElem? (i := 29) rfl))) (mvT hZ (hw _ (List.mem_of_getElem? (i := 28) rfl))) (by decide) (backOf (W := 0) (rm6_2 l Z a0 hw [] b34 ((0 : Int32) + (if (p1 + p2) < p4 then (p1 + p2) else p4)) ar_39 kk_39 ((p1 + p2) - (if (p1 + p2) < p4 then (p1 + p2) else p4)) (p1 + p3) T50.heap n0 Z52 f_54 f_57 o50_0) hZ (hw _ (List.mem_of_getElem? (i := 30) rfl)) (hw _ (List.mem_of_getElem? (i := 2) rfl)) (by decide) (by decide)) q59a q59c (g := (mkF m 129 #[.val (.int p0), .val (.int p1), .val (.int p2), .val (.int p3), .val (.int p4), .val (.int p5), .val (.int (2 : Int32)), .val (.ref b34), .val (.long (((((0 : Int32) + (if (p1 + p2) < p4 then (p1 + p2) else p4)).toInt64) + (((p1 + p2) - (if (p1 + p2) < p4 then (p1 + p2) else p4)).toInt64)) + ((p1 + p3).toInt64))), .second] [(.ref b34)])) rfl (by rw [hml]; rfl) (Steps.refl _) (argsL := []) (rest := []) (lenOf own_pd120 rfl) rfl (by show 2 * 0 + _ ≤ _; exact Nat.le_of_eq rfl) (hb hby at_129) (fun _ _ => ⟨rfl, eh58, (by decide : 2 + 0 ≤ _), (by decide : 4 + 0 ≤ _)⟩)
    dsimp only [Pt.U, Pt.locs, Pt.cells, Pt.slots] at X59 l59 y59 z59 st59 hQ59
    subst l59 y59 z59
    obtain ⟨rfl, N59q, eh59⟩ := hQ59
    have N59 := Fr.app N58 N59q
    refine Good.back (fun _ k => st59.trans k) ?_
    show Good p e below _ (T59.setTop (mkF m 132 #[.val (.int p0), .val (.int p1), .val (.int p2), .val (.int p3), .val (.int p4), .val (.int p5), .val (.int (2 : Int32)), .val (.ref b34), .val (.long (((((0 : Int32) + (if (p1 + p2) < p4 then (p1 + p2) else p4)).toInt64) + (((p1 + p2) - (if (p1 + p2) < p4 then (p1 + p2) else p4)).toInt64)) + ((p1 + p3).toInt64))), .second] [(.long (((((0 : Int32) + (if (p1 + p2) < p4 then (p1 + p2) else p4)).toInt64) + (((p1 + p2) - (if (p1 + p2) < p4 then (p1 + p2) else p4)).toInt64)) + ((p1 + p3).toInt64)))]))
    refine Good.back (fun _ k => XS.lload X59.here hx rfl (hb hby at_132) rfl k) ?_
    show Good p e below _ (T59.setTop (mkF m 134 #[.val (.int p0), .val (.int p1), .val (.int p2), .val (.int p3), .val (.int p4), .val (.int p5), .val (.int (2 : Int32)), .val (.ref b34), .val (.long (((((0 : Int32) + (if (p1 + p2) < p4 then (p1 + p2) else p4)).toInt64) + (((p1 + p2) - (if (p1 + p2) < p4 then (p1 + p2) else p4)).toInt64)) + ((p1 + p3).toInt64))), .second] [(.long (((((0 : Int32) + (if (p1 + p2) < p4 then (p1 + p2) else p4)).toInt64) + (((p1 + p2) - (if (p1 + p2) < p4 then (p1 + p2) else p4)).toInt64)) + ((p1 + p3).toInt64))), (.long (((((0 : Int32) + (if (p1 + p2) < p4 then (p1 + p2) else p4)).toInt64) + (((p1 + p2) - (if (p1 + p2) < p4 then (p1 + p2) else p4)).toInt64)) + ((p1 + p3).toInt64)))]))
    refine Good.back (fun _ k => XS.lcmp X59.here hx rfl (hb hby at_134) rfl k) ?_
    show Good p e below _ (T59.setTop (mkF m 135 #[.val (.int p0), .val (.int p1), .val (.int p2), .val (.int p3), .val (.int p4), .val (.int p5), .val (.int (2 : Int32)), .val (.ref b34), .val (.long (((((0 : Int32) + (if (p1 + p2) < p4 then (p1 + p2) else p4)).toInt64) + (((p1 + p2) - (if (p1 + p2) < p4 then (p1 + p2) else p4)).toInt64)) + ((p1 + p3).toInt64))), .second] [(.int (lcmpW (((((0 : Int32) + (if (p1 + p2) < p4 then (p1 + p2) else p4)).toInt64) + (((p1 + p2) - (if (p1 + p2) < p4 then (p1 + p2) else p4)).toInt64)) + ((p1 + p3).toInt64)) (((((0 : Int32) + (if (p1 + p2) < p4 then (p1 + p2) else p4)).toInt64) + (((p1 + p2) - (if (p1 + p2) < p4 then (p1 + p2) else p4)).toInt64)) + ((p1 + p3).toInt64))))]))
    refine Good.back (fun _ k => XS.ifNo X59.here hx rfl (hb hby at_135) rfl ((if0 _ _).trans (teq ((lw_eq _ _).mpr rfl : (lcmpW (((((0 : Int32) + (if (p1 + p2) < p4 then (p1 + p2) else p4)).toInt64) + (((p1 + p2) - (if (p1 + p2) < p4 then (p1 + p2) else p4)).toInt64)) + ((p1 + p3).toInt64)) (((((0 : Int32) + (if (p1 + p2) < p4 then (p1 + p2) else p4)).toInt64) + (((p1 + p2) - (if (p1 + p2) < p4 then (p1 + p2) else p4)).toInt64)) + ((p1 + p3).toInt64))) = (0 : Int32))).2) k) ?_
    show Good p e below _ (T59.setTop (mkF m 138 #[.val (.int p0), .val (.int p1), .val (.int p2), .val (.int p3), .val (.int p4), .val (.int p5), .val (.int (2 : Int32)), .val (.ref b34), .val (.long (((((0 : Int32) + (if (p1 + p2) < p4 then (p1 + p2) else p4)).toInt64) + (((p1 + p2) - (if (p1 + p2) < p4 then (p1 + p2) else p4)).toInt64)) + ((p1 + p3).toInt64))), .second] []))
    refine Good.back (fun _ k => XS.iconst X59.here hx rfl (hb hby at_138) k) ?_
    show Good p e below _ (T59.setTop (mkF m 139 #[.val (.int p0), .val (.int p1), .val (.int p2), .val (.int p3), .val (.int p4), .val (.int p5), .val (.int (2 : Int32)), .val (.ref b34), .val (.long (((((0 : Int32) + (if (p1 + p2) < p4 then (p1 + p2) else p4)).toInt64) + (((p1 + p2) - (if (p1 + p2) < p4 then (p1 + p2) else p4)).toInt64)) + ((p1 + p3).toInt64))), .second] [(.int (1 : Int32))]))
    refine Good.back (fun _ k => XS.goto X59.here hx rfl (pc0 := 139) (pc' := 143) rfl (hb hby at_139) (by decide) (by decide) k) ?_
    show Good p e below _ (T59.setTop (mkF m 143 #[.val (.int p0), .val (.int p1), .val (.int p2), .val (.int p3), .val (.int p4), .val (.int p5), .val (.int (2 : Int32)), .val (.ref b34), .val (.long (((((0 : Int32) + (if (p1 + p2) < p4 then (p1 + p2) else p4)).toInt64) + (((p1 + p2) - (if (p1 + p2) < p4 then (p1 + p2) else p4)).toInt64)) + ((p1 + p3).toInt64))), .second] [(.int (1 : Int32))]))
    obtain ⟨fs60, hr60, hrun60, hended60, hW60, hsame60⟩ := X59.leave (v := some (.int (1 : Int32))) (fun h => by rw [Bd.returns] at h; cases h)
    refine Good.done (retN X59 hx (t := .boolean) Bd.returns (by simp) (hb hby at_143) hr60) hrun60 hended60 ⟨_, _, rfl, ?_, ⟨_, rfl⟩, hW60, hsame60.mono (by decide) (by decide)⟩
    show Q0 Z p0 p1 p2 p3 p4 p5 h0 n0 _ T59.heap _
    rw [eh59]
    exact ⟨rfl, N59⟩
  · have he1' : (p0 &&& (3 : Int32)) = (3 : Int32) := he1
    rw [he1']
    show Good p e below _ (s₁.setTop (mkF m 5 #[.val (.int p0), .val (.int p1), .val (.int p2), .val (.int p3), .val (.int p4), .val (.int p5), .val (.int (3 : Int32)), .unset, .unset, .unset] []))
    obtain ⟨T61, h61, X61, e61, E61, A61, D61, -, st61⟩ := newO X0 hx hZ hown (hw _ (List.mem_of_getElem? (i := 0) rfl)) (hw _ (List.mem_of_getElem? (i := 1) rfl)) (hw _ (List.mem_of_getElem? (i := 2) rfl)) e0 (g := (mkF m 5 #[.val (.int p0), .val (.int p1), .val (.int p2), .val (.int p3), .val (.int p4), .val (.int p5), .val (.int (3 : Int32)), .unset, .unset, .unset] [])) rfl (hb hby at_5) (by decide) (by decide)
    obtain ⟨b61, g61⟩ : ∃ z, z = h0.size := ⟨_, rfl⟩
    rw [← g61] at A61 D61 st61
    refine Good.back st61 ?_
    have g_b61 : n0 ≤ b61 := Nat.le_trans Z0 (Nat.le_of_eq g61.symm)
    have Z62 : n0 ≤ h61.size := Nat.le_trans Z0 E61.1
    have f_63 : Exa Z h61 b61 "org/ludarium/games/sabacc/Chips" := A61
    have f_64 : Fld Z h61 b61 "org/ludarium/games/sabacc/Chips" "held" "[I" .null := D61 (Or.inr (hw _ (List.mem_of_getElem? (i := 14) rfl))) (ty := (.array .int)) (by decide)
    have f_65 : Fld Z h61 b61 "org/ludarium/games/sabacc/Chips" "sabaccPot" "I" (.int (0 : Int32)) := D61 (Or.inl (hw _ (List.mem_of_getElem? (i := 16) rfl))) (ty := .int) (by decide)
    show Good p e below _ (T61.setTop (mkF m 8 #[.val (.int p0), .val (.int p1), .val (.int p2), .val (.int p3), .val (.int p4), .val (.int p5), .val (.int (3 : Int32)), .unset, .unset, .unset] [(.ref b61)]))
    refine Good.back (fun _ k => XS.dup X61.here hx rfl (hb hby at_8) rfl rfl k) ?_
    show Good p e below _ (T61.setTop (mkF m 9 #[.val (.int p0), .val (.int p1), .val (.int p2), .val (.int p3), .val (.int p4), .val (.int p5), .val (.int (3 : Int32)), .unset, .unset, .unset] [(.ref b61), (.ref b61)]))
    refine Good.back (fun _ k => XS.iload X61.here hx rfl (hb hby at_9) rfl k) ?_
    show Good p e below _ (T61.setTop (mkF m 11 #[.val (.int p0), .val (.int p1), .val (.int p2), .val (.int p3), .val (.int p4), .val (.int p5), .val (.int (3 : Int32)), .unset, .unset, .unset] [(.int (3 : Int32)), (.ref b61), (.ref b61)]))
    refine Good.back (fun _ k => XS.iloadN X61.here hx rfl (hb hby at_11) rfl k) ?_
    show Good p e below _ (T61.setTop (mkF m 12 #[.val (.int p0), .val (.int p1), .val (.int p2), .val (.int p3), .val (.int p4), .val (.int p5), .val (.int (3 : Int32)), .unset, .unset, .unset] [(.int p1), (.int (3 : Int32)), (.ref b61), (.ref b61)]))
    obtain ⟨_, _, ⟨T66, L66, k66, n66⟩, -, X66, ⟨Lc66, hQ66, l66, y66, z66⟩, st66⟩ := X61.specialBack hx (y := (⟨"org/ludarium/games/sabacc/Chips", "<init>", "(II)V"⟩ : MethodName)) rfl hown (mvT hZ (hw _ (List.mem_of_getElem? (i := 3) rfl))) (mvT hZ (hw _ (List.mem_of_getElem? (i := 4) rfl))) (mvT hZ (hw _ (List.mem_of_getElem? (i := 5) rfl))) (by decide) (backOf (W := 1) (rm1_3 l Z a0 hw [] b61 p1  h61 n0 Z62 f_63 g_b61 f_64 f_65) hZ (hw _ (List.mem_of_getElem? (i := 5) rfl)) (hw _ (List.mem_of_getElem? (i := 2) rfl)) (by decide) (by decide)) (g := (mkF m 12 #[.val (.int p0), .val (.int p1), .val (.int p2), .val (.int p3), .val (.int p4), .val (.int p5), .val (.int (3 : Int32)), .unset, .unset, .unset] [(.int p1), (.int (3 : Int32)), (.ref b61), (.ref b61)])) rfl (by rw [hml]; rfl) (Steps.refl _) (a := b61) (argsL := [(.int (3 : Int32)), (.int p1)]) (rest := [(.ref b61)]) (lenOf own_pd118 rfl) rfl (by show 2 * 0 + _ ≤ _; exact Nat.le_of_eq rfl) (hb hby at_12) (fun _ _ => ⟨rfl, e61, (by decide : 1 + 1 ≤ _), (by decide : 2 + 3 ≤ _)⟩)
    dsimp only [Pt.U, Pt.locs, Pt.cells, Pt.slots] at X66 l66 y66 z66 st66 hQ66
    subst l66 y66 z66
    obtain ⟨ar_66, kk_66, rfl, N66q, Kq66, o66_0, o66_1, o66_2, o66_3⟩ := hQ66
    have N66 := Fr.app N0 N66q
    have Z67 : n0 ≤ T66.heap.size := Nat.le_trans Z62 Kq66.1
    have g_ar_66 : n0 ≤ ar_66 := Nat.le_trans Z62 o66_0
    refine Good.back (fun _ k => st66.trans k) ?_
    show Good p e below _ (T66.setTop (mkF m 15 #[.val (.int p0), .val (.int p1), .val (.int p2), .val (.int p3), .val (.int p4), .val (.int p5), .val (.int (3 : Int32)), .unset, .unset, .unset] [(.ref b61)]))
    refine Good.back (fun _ k => XS.astore X66.here hx rfl (hb hby at_15) rfl rfl (l' := #[.val (.int p0), .val (.int p1), .val (.int p2), .val (.int p3), .val (.int p4), .val (.int p5), .val (.int (3 : Int32)), .val (.ref b61), .unset, .unset]) rfl k) ?_
    show Good p e below _ (T66.setTop (mkF m 17 #[.val (.int p0), .val (.int p1), .val (.int p2), .val (.int p3), .val (.int p4), .val (.int p5), .val (.int (3 : Int32)), .val (.ref b61), .unset, .unset] []))
    refine Good.back (fun _ k => XS.iload X66.here hx rfl (hb hby at_17) rfl k) ?_
    show Good p e below _ (T66.setTop (mkF m 19 #[.val (.int p0), .val (.int p1), .val (.int p2), .val (.int p3), .val (.int p4), .val (.int p5), .val (.int (3 : Int32)), .val (.ref b61), .unset, .unset] [(.int (3 : Int32))]))
    refine Good.back (fun _ k => XS.iconst X66.here hx rfl (hb hby at_19) k) ?_
    show Good p e below _ (T66.setTop (mkF m 20 #[.val (.int p0), .val (.int p1), .val (.int p2), .val (.int p3), .val (.int p4), .val (.int p5), .val (.int (3 : Int32)), .val (.ref b61), .unset, .unset] [(.int (1 : Int32)), (.int (3 : Int32))]))
    refine Good.back (fun _ k => XS.icmpNo X66.here hx rfl (hb hby at_20) rfl (flt (by decide : ¬ ((3 : Int32) < (1 : Int32)))).1 k) ?_
    show Good p e below _ (T66.setTop (mkF m 23 #[.val (.int p0), .val (.int p1), .val (.int p2), .val (.int p3), .val (.int p4), .val (.int p5), .val (.int (3 : Int32)), .val (.ref b61), .unset, .unset] []))
    refine Good.back (fun _ k => XS.aload X66.here hx rfl (hb hby at_23) rfl rfl k) ?_
    show Good p e below _ (T66.setTop (mkF m 25 #[.val (.int p0), .val (.int p1), .val (.int p2), .val (.int p3), .val (.int p4), .val (.int p5), .val (.int (3 : Int32)), .val (.ref b61), .unset, .unset] [(.ref b61)]))
    refine Good.back (fun _ k => XS.iconst X66.here hx rfl (hb hby at_25) k) ?_
    show Good p e below _ (T66.setTop (mkF m 26 #[.val (.int p0), .val (.int p1), .val (.int p2), .val (.int p3), .val (.int p4), .val (.int p5), .val (.int (3 : Int32)), .val (.ref b61), .unset, .unset] [(.int (1 : Int32)), (.ref b61)]))
    refine Good.back (fun _ k => XS.iloadN X66.here hx rfl (hb hby at_26) rfl k) ?_
    show Good p e below _ (T66.setTop (mkF m 27 #[.val (.int p0), .val (.int p1), .val (.int p2), .val (.int p3), .val (.int p4), .val (.int p5), .val (.int (3 : Int32)), .val (.ref b61), .unset, .unset] [(.int p2), (.int (1 : Int32)), (.ref b61)]))
    have f_69 : Exa Z T66.heap b61 "org/ludarium/games/sabacc/Chips" := Exa.keep f_63 Kq66
    obtain ⟨cq68, kq68, q68a, q68b, q68c⟩ := isOf hZ rfl f_69
    obtain ⟨_, _, ⟨T68, L68, k68, n68⟩, -, X68, ⟨Lc68, hQ68, l68, y68, z68⟩, st68⟩ := X66.virtualBack hx (y := (⟨"org/ludarium/games/sabacc/Chips", "win", "(II)V"⟩ : MethodName)) (z := (⟨"org/ludarium/games/sabacc/Chips", "win", "(II)V"⟩ : MethodName)) hown (mvT hZ (hw _ (List.mem_of_getElem? (i := 31) rfl))) (mvT hZ (hw _ (List.mem_of_getElem? (i := 32) rfl))) (notFace_of_selects (args := #[]) (mvT hZ (hw _ (List.mem_of_getElem? (i := 34) rfl)))) (mvT hZ (hw _ (List.mem_of_getElem? (i := 34) rfl))) (mvT hZ (hw _ (List.mem_of_getElem? (i := 33) rfl))) (by decide) (backOf (W := 0) (rm7_3_1 l Z a0 hw [] b61 p2 ar_66 kk_66 p1 p1 p1 T66.heap n0 Z67 o66_1 o66_3 g_ar_66) hZ (hw _ (List.mem_of_getElem? (i := 35) rfl)) (hw _ (List.mem_of_getElem? (i := 2) rfl)) (by decide) (by decide)) q68a q68c (g := (mkF m 27 #[.val (.int p0), .val (.int p1), .val (.int p2), .val (.int p3), .val (.int p4), .val (.int p5), .val (.int (3 : Int32)), .val (.ref b61), .unset, .unset] [(.int p2), (.int (1 : Int32)), (.ref b61)])) rfl (by rw [hml]; rfl) (Steps.refl _) (argsL := [(.int (1 : Int32)), (.int p2)]) (rest := []) (lenOf own_pd118 rfl) rfl (by show 2 * 0 + _ ≤ _; exact Nat.le_of_eq rfl) (hb hby at_27) (fun _ _ => ⟨rfl, rfl, (by decide : 2 + 0 ≤ _), (by decide : 5 + 0 ≤ _)⟩)
    dsimp only [Pt.U, Pt.locs, Pt.cells, Pt.slots] at X68 l68 y68 z68 st68 hQ68
    subst l68 y68 z68
    obtain ⟨rfl, N68q, Kq68, o68_0⟩ := hQ68
    have N68 := Fr.app N66 N68q
    have Z70 : n0 ≤ T68.heap.size := Nat.le_trans Z67 Kq68.1
    refine Good.back (fun _ k => st68.trans k) ?_
    show Good p e below _ (T68.setTop (mkF m 30 #[.val (.int p0), .val (.int p1), .val (.int p2), .val (.int p3), .val (.int p4), .val (.int p5), .val (.int (3 : Int32)), .val (.ref b61), .unset, .unset] []))
    refine Good.back (fun _ k => XS.aload X68.here hx rfl (hb hby at_30) rfl rfl k) ?_
    show Good p e below _ (T68.setTop (mkF m 32 #[.val (.int p0), .val (.int p1), .val (.int p2), .val (.int p3), .val (.int p4), .val (.int p5), .val (.int (3 : Int32)), .val (.ref b61), .unset, .unset] [(.ref b61)]))
    refine Good.back (fun _ k => XS.iconst X68.here hx rfl (hb hby at_32) k) ?_
    show Good p e below _ (T68.setTop (mkF m 33 #[.val (.int p0), .val (.int p1), .val (.int p2), .val (.int p3), .val (.int p4), .val (.int p5), .val (.int (3 : Int32)), .val (.ref b61), .unset, .unset] [(.int (1 : Int32)), (.ref b61)]))
    refine Good.back (fun _ k => XS.iload X68.here hx rfl (hb hby at_33) rfl k) ?_
    show Good p e below _ (T68.setTop (mkF m 35 #[.val (.int p0), .val (.int p1), .val (.int p2), .val (.int p3), .val (.int p4), .val (.int p5), .val (.int (3 : Int32)), .val (.ref b61), .unset, .unset] [(.int p4), (.int (1 : Int32)), (.ref b61)]))
    have f_72 : Exa Z T68.heap b61 "org/ludarium/games/sabacc/Chips" := Exa.keep f_69 Kq68
    have ne_b61_ar_66_74 : b61 ≠ ar_66 := Nat.ne_of_lt (Nat.lt_of_lt_of_le f_65.lt o66_0)
    have f_73 : Fld Z T68.heap b61 "org/ludarium/games/sabacc/Chips" "sabaccPot" "I" (.int (0 : Int32)) := Fld.keep o66_2 Kq68 (ninS ne_b61_ar_66_74 nin0)
    have f_75 : Fld Z T68.heap b61 "org/ludarium/games/sabacc/Chips" "held" "[I" (.ref ar_66) := Fld.keep o66_1 Kq68 (ninS ne_b61_ar_66_74 nin0)
    obtain ⟨cq71, kq71, q71a, q71b, q71c⟩ := isOf hZ rfl f_72
    obtain ⟨_, _, ⟨T71, L71, k71, n71⟩, -, X71, ⟨Lc71, hQ71, l71, y71, z71⟩, st71⟩ := X68.virtualBack hx (y := (⟨"org/ludarium/games/sabacc/Chips", "paySabaccPot", "(II)V"⟩ : MethodName)) (z := (⟨"org/ludarium/games/sabacc/Chips", "paySabaccPot", "(II)V"⟩ : MethodName)) hown (mvT hZ (hw _ (List.mem_of_getElem? (i := 36) rfl))) (mvT hZ (hw _ (List.mem_of_getElem? (i := 37) rfl))) (notFace_of_selects (args := #[]) (mvT hZ (hw _ (List.mem_of_getElem? (i := 39) rfl)))) (mvT hZ (hw _ (List.mem_of_getElem? (i := 39) rfl))) (mvT hZ (hw _ (List.mem_of_getElem? (i := 38) rfl))) (by decide) (backOf (W := 0) (rm8_3_1 l Z a0 hw [] b61 p4 ar_66 (0 : Int32) kk_66 (p1 + p2) p1 p1 T68.heap n0 Z70 f_72 g_b61 g_ar_66 ne_b61_ar_66_74 f_73 f_75 o68_0) hZ (hw _ (List.mem_of_getElem? (i := 40) rfl)) (hw _ (List.mem_of_getElem? (i := 2) rfl)) (by decide) (by decide)) q71a q71c (g := (mkF m 35 #[.val (.int p0), .val (.int p1), .val (.int p2), .val (.int p3), .val (.int p4), .val (.int p5), .val (.int (3 : Int32)), .val (.ref b61), .unset, .unset] [(.int p4), (.int (1 : Int32)), (.ref b61)])) rfl (by rw [hml]; rfl) (Steps.refl _) (argsL := [(.int (1 : Int32)), (.int p4)]) (rest := []) (lenOf own_pd118 rfl) rfl (by show 2 * 0 + _ ≤ _; exact Nat.le_of_eq rfl) (hb hby at_35) (fun _ _ => ⟨rfl, rfl, (by decide : 2 + 0 ≤ _), (by decide : 5 + 0 ≤ _)⟩)
    dsimp only [Pt.U, Pt.locs, Pt.cells, Pt.slots] at X71 l71 y71 z71 st71 hQ71
    subst l71 y71 z71
    obtain ⟨rfl, N71q, Kq71, o71_0, o71_1, o71_2⟩ := hQ71
    have N71 := Fr.app N68 N71q
    have Z76 : n0 ≤ T71.heap.size := Nat.le_trans Z70 Kq71.1
    refine Good.back (fun _ k => st71.trans k) ?_
    show Good p e below _ (T71.setTop (mkF m 38 #[.val (.int p0), .val (.int p1), .val (.int p2), .val (.int p3), .val (.int p4), .val (.int p5), .val (.int (3 : Int32)), .val (.ref b61), .unset, .unset] []))
    refine Good.back (fun _ k => XS.iload X71.here hx rfl (hb hby at_38) rfl k) ?_
    show Good p e below _ (T71.setTop (mkF m 40 #[.val (.int p0), .val (.int p1), .val (.int p2), .val (.int p3), .val (.int p4), .val (.int p5), .val (.int (3 : Int32)), .val (.ref b61), .unset, .unset] [(.int (3 : Int32))]))
    refine Good.back (fun _ k => XS.iconst X71.here hx rfl (hb hby at_40) k) ?_
    show Good p e below _ (T71.setTop (mkF m 41 #[.val (.int p0), .val (.int p1), .val (.int p2), .val (.int p3), .val (.int p4), .val (.int p5), .val (.int (3 : Int32)), .val (.ref b61), .unset, .unset] [(.int (2 : Int32)), (.int (3 : Int32))]))
    refine Good.back (fun _ k => XS.icmpNo X71.here hx rfl (hb hby at_41) rfl (flt (by decide : ¬ ((3 : Int32) < (2 : Int32)))).1 k) ?_
    show Good p e below _ (T71.setTop (mkF m 44 #[.val (.int p0), .val (.int p1), .val (.int p2), .val (.int p3), .val (.int p4), .val (.int p5), .val (.int (3 : Int32)), .val (.ref b61), .unset, .unset] []))
    refine Good.back (fun _ k => XS.aload X71.here hx rfl (hb hby at_44) rfl rfl k) ?_
    show Good p e below _ (T71.setTop (mkF m 46 #[.val (.int p0), .val (.int p1), .val (.int p2), .val (.int p3), .val (.int p4), .val (.int p5), .val (.int (3 : Int32)), .val (.ref b61), .unset, .unset] [(.ref b61)]))
    refine Good.back (fun _ k => XS.iconst X71.here hx rfl (hb hby at_46) k) ?_
    show Good p e below _ (T71.setTop (mkF m 47 #[.val (.int p0), .val (.int p1), .val (.int p2), .val (.int p3), .val (.int p4), .val (.int p5), .val (.int (3 : Int32)), .val (.ref b61), .unset, .unset] [(.int (2 : Int32)), (.ref b61)]))
    refine Good.back (fun _ k => XS.iloadN X71.here hx rfl (hb hby at_47) rfl k) ?_
    show Good p e below _ (T71.setTop (mkF m 48 #[.val (.int p0), .val (.int p1), .val (.int p2), .val (.int p3), .val (.int p4), .val (.int p5), .val (.int (3 : Int32)), .val (.ref b61), .unset, .unset] [(.int p3), (.int (2 : Int32)), (.ref b61)]))
    have f_78 : Exa Z T71.heap b61 "org/ludarium/games/sabacc/Chips" := Exa.keep f_72 Kq71
    obtain ⟨cq77, kq77, q77a, q77b, q77c⟩ := isOf hZ rfl f_78
    obtain ⟨_, _, ⟨T77, L77, k77, n77⟩, -, X77, ⟨Lc77, hQ77, l77, y77, z77⟩, st77⟩ := X71.virtualBack hx (y := (⟨"org/ludarium/games/sabacc/Chips", "win", "(II)V"⟩ : MethodName)) (z := (⟨"org/ludarium/games/sabacc/Chips", "win", "(II)V"⟩ : MethodName)) hown (mvT hZ (hw _ (List.mem_of_getElem? (i := 31) rfl))) (mvT hZ (hw _ (List.mem_of_getElem? (i := 32) rfl))) (notFace_of_selects (args := #[]) (mvT hZ (hw _ (List.mem_of_getElem? (i := 34) rfl)))) (mvT hZ (hw _ (List.mem_of_getElem? (i := 34) rfl))) (mvT hZ (hw _ (List.mem_of_getElem? (i := 33) rfl))) (by decide) (backOf (W := 0) (rm7_3_2 l Z a0 hw [] b61 p3 ar_66 kk_66 ((p1 + p2) - (if (p1 + p2) < p4 then (p1 + p2) else p4)) p1 p1 T71.heap n0 Z76 o71_1 o71_0 g_ar_66) hZ (hw _ (List.mem_of_getElem? (i := 35) rfl)) (hw _ (List.mem_of_getElem? (i := 2) rfl)) (by decide) (by decide)) q77a q77c (g := (mkF m 48 #[.val (.int p0), .val (.int p1), .val (.int p2), .val (.int p3), .val (.int p4), .val (.int p5), .val (.int (3 : Int32)), .val (.ref b61), .unset, .unset] [(.int p3), (.int (2 : Int32)), (.ref b61)])) rfl (by rw [hml]; rfl) (Steps.refl _) (argsL := [(.int (2 : Int32)), (.int p3)]) (rest := []) (lenOf own_pd118 rfl) rfl (by show 2 * 0 + _ ≤ _; exact Nat.le_of_eq rfl) (hb hby at_48) (fun _ _ => ⟨rfl, rfl, (by decide : 2 + 0 ≤ _), (by decide : 5 + 0 ≤ _)⟩)
    dsimp only [Pt.U, Pt.locs, Pt.cells, Pt.slots] at X77 l77 y77 z77 st77 hQ77
    subst l77 y77 z77
    obtain ⟨rfl, N77q, Kq77, o77_0⟩ := hQ77
    have N77 := Fr.app N71 N77q
    have Z79 : n0 ≤ T77.heap.size := Nat.le_trans Z76 Kq77.1
    refine Good.back (fun _ k => st77.trans k) ?_
    show Good p e below _ (T77.setTop (mkF m 51 #[.val (.int p0), .val (.int p1), .val (.int p2), .val (.int p3), .val (.int p4), .val (.int p5), .val (.int (3 : Int32)), .val (.ref b61), .unset, .unset] []))
    refine Good.back (fun _ k => XS.iload X77.here hx rfl (hb hby at_51) rfl k) ?_
    show Good p e below _ (T77.setTop (mkF m 53 #[.val (.int p0), .val (.int p1), .val (.int p2), .val (.int p3), .val (.int p4), .val (.int p5), .val (.int (3 : Int32)), .val (.ref b61), .unset, .unset] [(.int (3 : Int32))]))
    refine Good.back (fun _ k => XS.iconst X77.here hx rfl (hb hby at_53) k) ?_
    show Good p e below _ (T77.setTop (mkF m 54 #[.val (.int p0), .val (.int p1), .val (.int p2), .val (.int p3), .val (.int p4), .val (.int p5), .val (.int (3 : Int32)), .val (.ref b61), .unset, .unset] [(.int (3 : Int32)), (.int (3 : Int32))]))
    refine Good.back (fun _ k => XS.icmpNo X77.here hx rfl (hb hby at_54) rfl (flt (by decide : ¬ ((3 : Int32) < (3 : Int32)))).1 k) ?_
    show Good p e below _ (T77.setTop (mkF m 57 #[.val (.int p0), .val (.int p1), .val (.int p2), .val (.int p3), .val (.int p4), .val (.int p5), .val (.int (3 : Int32)), .val (.ref b61), .unset, .unset] []))
    refine Good.back (fun _ k => XS.aload X77.here hx rfl (hb hby at_57) rfl rfl k) ?_
    show Good p e below _ (T77.setTop (mkF m 59 #[.val (.int p0), .val (.int p1), .val (.int p2), .val (.int p3), .val (.int p4), .val (.int p5), .val (.int (3 : Int32)), .val (.ref b61), .unset, .unset] [(.ref b61)]))
    refine Good.back (fun _ k => XS.iconst X77.here hx rfl (hb hby at_59) k) ?_
    show Good p e below _ (T77.setTop (mkF m 60 #[.val (.int p0), .val (.int p1), .val (.int p2), .val (.int p3), .val (.int p4), .val (.int p5), .val (.int (3 : Int32)), .val (.ref b61), .unset, .unset] [(.int (3 : Int32)), (.ref b61)]))
    refine Good.back (fun _ k => XS.iload X77.here hx rfl (hb hby at_60) rfl k) ?_
    show Good p e below _ (T77.setTop (mkF m 62 #[.val (.int p0), .val (.int p1), .val (.int p2), .val (.int p3), .val (.int p4), .val (.int p5), .val (.int (3 : Int32)), .val (.ref b61), .unset, .unset] [(.int p5), (.int (3 : Int32)), (.ref b61)]))
    have f_81 : Exa Z T77.heap b61 "org/ludarium/games/sabacc/Chips" := Exa.keep f_78 Kq77
    have f_82 : Fld Z T77.heap b61 "org/ludarium/games/sabacc/Chips" "sabaccPot" "I" (.int ((0 : Int32) + (if (p1 + p2) < p4 then (p1 + p2) else p4))) := Fld.keep o71_2 Kq77 (ninS ne_b61_ar_66_74 nin0)
    have f_83 : Fld Z T77.heap b61 "org/ludarium/games/sabacc/Chips" "held" "[I" (.ref ar_66) := Fld.keep o71_1 Kq77 (ninS ne_b61_ar_66_74 nin0)
    obtain ⟨cq80, kq80, q80a, q80b, q80c⟩ := isOf hZ rfl f_81
    obtain ⟨_, _, ⟨T80, L80, k80, n80⟩, -, X80, ⟨Lc80, hQ80, l80, y80, z80⟩, st80⟩ := X77.virtualBack hx (y := (⟨"org/ludarium/games/sabacc/Chips", "paySabaccPot", "(II)V"⟩ : MethodName)) (z := (⟨"org/ludarium/games/sabacc/Chips", "paySabaccPot", "(II)V"⟩ : MethodName)) hown (mvT hZ (hw _ (List.mem_of_getElem? (i := 36) rfl))) (mvT hZ (hw _ (List.mem_of_getElem? (i := 37) rfl))) (notFace_of_selects (args := #[]) (mvT hZ (hw _ (List.mem_of_getElem? (i := 39) rfl)))) (mvT hZ (hw _ (List.mem_of_getElem? (i := 39) rfl))) (mvT hZ (hw _ (List.mem_of_getElem? (i := 38) rfl))) (by decide) (backOf (W := 0) (rm8_3_3 l Z a0 hw [] b61 p5 ar_66 ((0 : Int32) + (if (p1 + p2) < p4 then (p1 + p2) else p4)) kk_66 ((p1 + p2) - (if (p1 + p2) < p4 then (p1 + p2) else p4)) (p1 + p3) p1 T77.heap n0 Z79 f_81 g_b61 g_ar_66 ne_b61_ar_66_74 f_82 f_83 o77_0) hZ (hw _ (List.mem_of_getElem? (i := 40) rfl)) (hw _ (List.mem_of_getElem? (i := 2) rfl)) (by decide) (by decide)) q80a q80c (g := (mkF m 62 #[.val (.int p0), .val (.int p1), .val (.int p2), .val (.int p3), .val (.int p4), .val (.int p5), .val (.int (3 : Int32)), .val (.ref b61), .unset, .unset] [(.int p5), (.int (3 : Int32)), (.ref b61)])) rfl (by rw [hml]; rfl) (Steps.refl _) (argsL := [(.int (3 : Int32)), (.int p5)]) (rest := []) (lenOf own_pd118 rfl) rfl (by show 2 * 0 + _ ≤ _; exact Nat.le_of_eq rfl) (hb hby at_62) (fun _ _ => ⟨rfl, rfl, (by decide : 2 + 0 ≤ _), (by decide : 5 + 0 ≤ _)⟩)
    dsimp only [Pt.U, Pt.locs, Pt.cells, Pt.slots] at X80 l80 y80 z80 st80 hQ80
    subst l80 y80 z80
    obtain ⟨rfl, N80q, Kq80, o80_0, o80_1, o80_2⟩ := hQ80
    have N80 := Fr.app N77 N80q
    have Z84 : n0 ≤ T80.heap.size := Nat.le_trans Z79 Kq80.1
    refine Good.back (fun _ k => st80.trans k) ?_
    show Good p e below _ (T80.setTop (mkF m 65 #[.val (.int p0), .val (.int p1), .val (.int p2), .val (.int p3), .val (.int p4), .val (.int p5), .val (.int (3 : Int32)), .val (.ref b61), .unset, .unset] []))
    refine Good.back (fun _ k => XS.aload X80.here hx rfl (hb hby at_65) rfl rfl k) ?_
    show Good p e below _ (T80.setTop (mkF m 67 #[.val (.int p0), .val (.int p1), .val (.int p2), .val (.int p3), .val (.int p4), .val (.int p5), .val (.int (3 : Int32)), .val (.ref b61), .unset, .unset] [(.ref b61)]))
    have f_86 : Exa Z T80.heap b61 "org/ludarium/games/sabacc/Chips" := Exa.keep f_81 Kq80
    obtain ⟨cq85, kq85, q85a, q85b, q85c⟩ := isOf hZ rfl f_86
    obtain ⟨_, _, ⟨T85, L85, k85, n85⟩, -, X85, ⟨Lc85, hQ85, l85, y85, z85⟩, st85⟩ := X80.virtualBack hx (y := (⟨"org/ludarium/games/sabacc/Chips", "sabaccPot", "()I"⟩ : MethodName)) (z := (⟨"org/ludarium/games/sabacc/Chips", "sabaccPot", "()I"⟩ : MethodName)) hown (mvT hZ (hw _ (List.mem_of_getElem? (i := 21) rfl))) (mvT hZ (hw _ (List.mem_of_getElem? (i := 22) rfl))) (notFace_of_selects (args := #[]) (mvT hZ (hw _ (List.mem_of_getElem? (i := 24) rfl)))) (mvT hZ (hw _ (List.mem_of_getElem? (i := 24) rfl))) (mvT hZ (hw _ (List.mem_of_getElem? (i := 23) rfl))) (by decide) (backOf (W := 0) (rm5 l Z a0 hw [] b61 (((0 : Int32) + (if (p1 + p2) < p4 then (p1 + p2) else p4)) + (if p1 < p5 then p1 else p5)) T80.heap n0 Z84 o80_2) hZ (hw _ (List.mem_of_getElem? (i := 25) rfl)) (hw _ (List.mem_of_getElem? (i := 2) rfl)) (by decide) (by decide)) q85a q85c (g := (mkF m 67 #[.val (.int p0), .val (.int p1), .val (.int p2), .val (.int p3), .val (.int p4), .val (.int p5), .val (.int (3 : Int32)), .val (.ref b61), .unset, .unset] [(.ref b61)])) rfl (by rw [hml]; rfl) (Steps.refl _) (argsL := []) (rest := []) (lenOf own_pd119 rfl) rfl (by show 2 * 0 + _ ≤ _; exact Nat.le_of_eq rfl) (hb hby at_67) (fun _ _ => ⟨rfl, rfl, (by decide : 2 + 0 ≤ _), (by decide : 5 + 0 ≤ _)⟩)
    dsimp only [Pt.U, Pt.locs, Pt.cells, Pt.slots] at X85 l85 y85 z85 st85 hQ85
    subst l85 y85 z85
    obtain ⟨rfl, N85q, eh85⟩ := hQ85
    have N85 := Fr.app N80 N85q
    refine Good.back (fun _ k => st85.trans k) ?_
    show Good p e below _ (T85.setTop (mkF m 70 #[.val (.int p0), .val (.int p1), .val (.int p2), .val (.int p3), .val (.int p4), .val (.int p5), .val (.int (3 : Int32)), .val (.ref b61), .unset, .unset] [(.int (((0 : Int32) + (if (p1 + p2) < p4 then (p1 + p2) else p4)) + (if p1 < p5 then p1 else p5)))]))
    refine Good.back (fun _ k => XS.i2l X85.here hx rfl (hb hby at_70) rfl k) ?_
    show Good p e below _ (T85.setTop (mkF m 71 #[.val (.int p0), .val (.int p1), .val (.int p2), .val (.int p3), .val (.int p4), .val (.int p5), .val (.int (3 : Int32)), .val (.ref b61), .unset, .unset] [(.long ((((0 : Int32) + (if (p1 + p2) < p4 then (p1 + p2) else p4)) + (if p1 < p5 then p1 else p5)).toInt64))]))
    refine Good.back (fun _ k => XS.lstore X85.here hx rfl (hb hby at_71) rfl (l' := #[.val (.int p0), .val (.int p1), .val (.int p2), .val (.int p3), .val (.int p4), .val (.int p5), .val (.int (3 : Int32)), .val (.ref b61), .val (.long ((((0 : Int32) + (if (p1 + p2) < p4 then (p1 + p2) else p4)) + (if p1 < p5 then p1 else p5)).toInt64)), .second]) rfl k) ?_
    show Good p e below _ (T85.setTop (mkF m 73 #[.val (.int p0), .val (.int p1), .val (.int p2), .val (.int p3), .val (.int p4), .val (.int p5), .val (.int (3 : Int32)), .val (.ref b61), .val (.long ((((0 : Int32) + (if (p1 + p2) < p4 then (p1 + p2) else p4)) + (if p1 < p5 then p1 else p5)).toInt64)), .second] []))
    refine Good.back (fun _ k => XS.iload X85.here hx rfl (hb hby at_73) rfl k) ?_
    show Good p e below _ (T85.setTop (mkF m 75 #[.val (.int p0), .val (.int p1), .val (.int p2), .val (.int p3), .val (.int p4), .val (.int p5), .val (.int (3 : Int32)), .val (.ref b61), .val (.long ((((0 : Int32) + (if (p1 + p2) < p4 then (p1 + p2) else p4)) + (if p1 < p5 then p1 else p5)).toInt64)), .second] [(.int (3 : Int32))]))
    refine Good.back (fun _ k => XS.iconst X85.here hx rfl (hb hby at_75) k) ?_
    show Good p e below _ (T85.setTop (mkF m 76 #[.val (.int p0), .val (.int p1), .val (.int p2), .val (.int p3), .val (.int p4), .val (.int p5), .val (.int (3 : Int32)), .val (.ref b61), .val (.long ((((0 : Int32) + (if (p1 + p2) < p4 then (p1 + p2) else p4)) + (if p1 < p5 then p1 else p5)).toInt64)), .second] [(.int (1 : Int32)), (.int (3 : Int32))]))
    refine Good.back (fun _ k => XS.icmpNo X85.here hx rfl (hb hby at_76) rfl (flt (by decide : ¬ ((3 : Int32) < (1 : Int32)))).1 k) ?_
    show Good p e below _ (T85.setTop (mkF m 79 #[.val (.int p0), .val (.int p1), .val (.int p2), .val (.int p3), .val (.int p4), .val (.int p5), .val (.int (3 : Int32)), .val (.ref b61), .val (.long ((((0 : Int32) + (if (p1 + p2) < p4 then (p1 + p2) else p4)) + (if p1 < p5 then p1 else p5)).toInt64)), .second] []))
    refine Good.back (fun _ k => XS.lload X85.here hx rfl (hb hby at_79) rfl k) ?_
    show Good p e below _ (T85.setTop (mkF m 81 #[.val (.int p0), .val (.int p1), .val (.int p2), .val (.int p3), .val (.int p4), .val (.int p5), .val (.int (3 : Int32)), .val (.ref b61), .val (.long ((((0 : Int32) + (if (p1 + p2) < p4 then (p1 + p2) else p4)) + (if p1 < p5 then p1 else p5)).toInt64)), .second] [(.long ((((0 : Int32) + (if (p1 + p2) < p4 then (p1 + p2) else p4)) + (if p1 < p5 then p1 else p5)).toInt64))]))
    refine Good.back (fun _ k => XS.aload X85.here hx rfl (hb hby at_81) rfl rfl k) ?_
    show Good p e below _ (T85.setTop (mkF m 83 #[.val (.int p0), .val (.int p1), .val (.int p2), .val (.int p3), .val (.int p4), .val (.int p5), .val (.int (3 : Int32)), .val (.ref b61), .val (.long ((((0 : Int32) + (if (p1 + p2) < p4 then (p1 + p2) else p4)) + (if p1 < p5 then p1 else p5)).toInt64)), .second] [(.ref b61), (.long ((((0 : Int32) + (if (p1 + p2) < p4 then (p1 + p2) else p4)) + (if p1 < p5 then p1 else p5)).toInt64))]))
    refine Good.back (fun _ k => XS.iconst X85.here hx rfl (hb hby at_83) k) ?_
    show Good p e below _ (T85.setTop (mkF m 84 #[.val (.int p0), .val (.int p1), .val (.int p2), .val (.int p3), .val (.int p4), .val (.int p5), .val (.int (3 : Int32)), .val (.ref b61), .val (.long ((((0 : Int32) + (if (p1 + p2) < p4 then (p1 + p2) else p4)) + (if p1 < p5 then p1 else p5)).toInt64)), .second] [(.int (1 : Int32)), (.ref b61), (.long ((((0 : Int32) + (if (p1 + p2) < p4 then (p1 + p2) else p4)) + (if p1 < p5 then p1 else p5)).toInt64))]))
    obtain ⟨cq87, kq87, q87a, q87b, q87c⟩ := isOf hZ eh85 f_86
    obtain ⟨_, _, ⟨T87, L87, k87, n87⟩, -, X87, ⟨Lc87, hQ87, l87, y87, z87⟩, st87⟩ := X85.virtualBack hx (y := (⟨"org/ludarium/games/sabacc/Chips", "held", "(I)I"⟩ : MethodName)) (z := (⟨"org/ludarium/games/sabacc/Chips", "held", "(I)I"⟩ : MethodName)) hown (mvT hZ (hw _ (List.mem_of_getElem? (i := 45) rfl))) (mvT hZ (hw _ (List.mem_of_getElem? (i := 46) rfl))) (notFace_of_selects (args := #[]) (mvT hZ (hw _ (List.mem_of_getElem? (i := 48) rfl)))) (mvT hZ (hw _ (List.mem_of_getElem? (i := 48) rfl))) (mvT hZ (hw _ (List.mem_of_getElem? (i := 47) rfl))) (by decide) (backOf (W := 2) (rm10_3_1 l Z a0 hw [] b61 ar_66 kk_66 ((p1 + p2) - (if (p1 + p2) < p4 then (p1 + p2) else p4)) (p1 + p3) (p1 - (if p1 < p5 then p1 else p5)) T80.heap n0 Z84 o80_1 o80_0) hZ (hw _ (List.mem_of_getElem? (i := 49) rfl)) (hw _ (List.mem_of_getElem? (i := 2) rfl)) (by decide) (by decide)) q87a q87c (g := (mkF m 84 #[.val (.int p0), .val (.int p1), .val (.int p2), .val (.int p3), .val (.int p4), .val (.int p5), .val (.int (3 : Int32)), .val (.ref b61), .val (.long ((((0 : Int32) + (if (p1 + p2) < p4 then (p1 + p2) else p4)) + (if p1 < p5 then p1 else p5)).toInt64)), .second] [(.int (1 : Int32)), (.ref b61), (.long ((((0 : Int32) + (if (p1 + p2) < p4 then (p1 + p2) else p4)) + (if p1 < p5 then p1 else p5)).toInt64))])) rfl (by rw [hml]; rfl) (Steps.refl _) (argsL := [(.int (1 : Int32))]) (rest := [(.long ((((0 : Int32) + (if (p1 + p2) < p4 then (p1 + p2) else p4)) + (if p1 < p5 then p1 else p5)).toInt64))]) (lenOf own_pd121 rfl) rfl (by show 2 * 0 + _ ≤ _; exact Nat.le_of_eq rfl) (hb hby at_84) (fun _ _ => ⟨rfl, eh85, (by decide : 2 + 0 ≤ _), (by decide : 5 + 0 ≤ _)⟩)
    dsimp only [Pt.U, Pt.locs, Pt.cells, Pt.slots] at X87 l87 y87 z87 st87 hQ87
    subst l87 y87 z87
    obtain ⟨rfl, N87q, eh87⟩ := hQ87
    have N87 := Fr.app N85 N87q
    refine Good.back (fun _ k => st87.trans k) ?_
    show Good p e below _ (T87.setTop (mkF m 87 #[.val (.int p0), .val (.int p1), .val (.int p2), .val (.int p3), .val (.int p4), .val (.int p5), .val (.int (3 : Int32)), .val (.ref b61), .val (.long ((((0 : Int32) + (if (p1 + p2) < p4 then (p1 + p2) else p4)) + (if p1 < p5 then p1 else p5)).toInt64)), .second] [(.int ((p1 + p2) - (if (p1 + p2) < p4 then (p1 + p2) else p4))), (.long ((((0 : Int32) + (if (p1 + p2) < p4 then (p1 + p2) else p4)) + (if p1 < p5 then p1 else p5)).toInt64))]))
    refine Good.back (fun _ k => XS.i2l X87.here hx rfl (hb hby at_87) rfl k) ?_
    show Good p e below _ (T87.setTop (mkF m 88 #[.val (.int p0), .val (.int p1), .val (.int p2), .val (.int p3), .val (.int p4), .val (.int p5), .val (.int (3 : Int32)), .val (.ref b61), .val (.long ((((0 : Int32) + (if (p1 + p2) < p4 then (p1 + p2) else p4)) + (if p1 < p5 then p1 else p5)).toInt64)), .second] [(.long (((p1 + p2) - (if (p1 + p2) < p4 then (p1 + p2) else p4)).toInt64)), (.long ((((0 : Int32) + (if (p1 + p2) < p4 then (p1 + p2) else p4)) + (if p1 < p5 then p1 else p5)).toInt64))]))
    refine Good.back (fun _ k => XS.ladd X87.here hx rfl (hb hby at_88) rfl k) ?_
    show Good p e below _ (T87.setTop (mkF m 89 #[.val (.int p0), .val (.int p1), .val (.int p2), .val (.int p3), .val (.int p4), .val (.int p5), .val (.int (3 : Int32)), .val (.ref b61), .val (.long ((((0 : Int32) + (if (p1 + p2) < p4 then (p1 + p2) else p4)) + (if p1 < p5 then p1 else p5)).toInt64)), .second] [(.long (((((0 : Int32) + (if (p1 + p2) < p4 then (p1 + p2) else p4)) + (if p1 < p5 then p1 else p5)).toInt64) + (((p1 + p2) - (if (p1 + p2) < p4 then (p1 + p2) else p4)).toInt64)))]))
    refine Good.back (fun _ k => XS.lstore X87.here hx rfl (hb hby at_89) rfl (l' := #[.val (.int p0), .val (.int p1), .val (.int p2), .val (.int p3), .val (.int p4), .val (.int p5), .val (.int (3 : Int32)), .val (.ref b61), .val (.long (((((0 : Int32) + (if (p1 + p2) < p4 then (p1 + p2) else p4)) + (if p1 < p5 then p1 else p5)).toInt64) + (((p1 + p2) - (if (p1 + p2) < p4 then (p1 + p2) else p4)).toInt64))), .second]) rfl k) ?_
    show Good p e below _ (T87.setTop (mkF m 91 #[.val (.int p0), .val (.int p1), .val (.int p2), .val (.int p3), .val (.int p4), .val (.int p5), .val (.int (3 : Int32)), .val (.ref b61), .val (.long (((((0 : Int32) + (if (p1 + p2) < p4 then (p1 + p2) else p4)) + (if p1 < p5 then p1 else p5)).toInt64) + (((p1 + p2) - (if (p1 + p2) < p4 then (p1 + p2) else p4)).toInt64))), .second] []))
    refine Good.back (fun _ k => XS.iload X87.here hx rfl (hb hby at_91) rfl k) ?_
    show Good p e below _ (T87.setTop (mkF m 93 #[.val (.int p0), .val (.int p1), .val (.int p2), .val (.int p3), .val (.int p4), .val (.int p5), .val (.int (3 : Int32)), .val (.ref b61), .val (.long (((((0 : Int32) + (if (p1 + p2) < p4 then (p1 + p2) else p4)) + (if p1 < p5 then p1 else p5)).toInt64) + (((p1 + p2) - (if (p1 + p2) < p4 then (p1 + p2) else p4)).toInt64))), .second] [(.int (3 : Int32))]))
    refine Good.back (fun _ k => XS.iconst X87.here hx rfl (hb hby at_93) k) ?_
    show Good p e below _ (T87.setTop (mkF m 94 #[.val (.int p0), .val (.int p1), .val (.int p2), .val (.int p3), .val (.int p4), .val (.int p5), .val (.int (3 : Int32)), .val (.ref b61), .val (.long (((((0 : Int32) + (if (p1 + p2) < p4 then (p1 + p2) else p4)) + (if p1 < p5 then p1 else p5)).toInt64) + (((p1 + p2) - (if (p1 + p2) < p4 then (p1 + p2) else p4)).toInt64))), .second] [(.int (2 : Int32)), (.int (3 : Int32))]))
    refine Good.back (fun _ k => XS.icmpNo X87.here hx rfl (hb hby at_94) rfl (flt (by decide : ¬ ((3 : Int32) < (2 : Int32)))).1 k) ?_
    show Good p e below _ (T87.setTop (mkF m 97 #[.val (.int p0), .val (.int p1), .val (.int p2), .val (.int p3), .val (.int p4), .val (.int p5), .val (.int (3 : Int32)), .val (.ref b61), .val (.long (((((0 : Int32) + (if (p1 + p2) < p4 then (p1 + p2) else p4)) + (if p1 < p5 then p1 else p5)).toInt64) + (((p1 + p2) - (if (p1 + p2) < p4 then (p1 + p2) else p4)).toInt64))), .second] []))
    refine Good.back (fun _ k => XS.lload X87.here hx rfl (hb hby at_97) rfl k) ?_
    show Good p e below _ (T87.setTop (mkF m 99 #[.val (.int p0), .val (.int p1), .val (.int p2), .val (.int p3), .val (.int p4), .val (.int p5), .val (.int (3 : Int32)), .val (.ref b61), .val (.long (((((0 : Int32) + (if (p1 + p2) < p4 then (p1 + p2) else p4)) + (if p1 < p5 then p1 else p5)).toInt64) + (((p1 + p2) - (if (p1 + p2) < p4 then (p1 + p2) else p4)).toInt64))), .second] [(.long (((((0 : Int32) + (if (p1 + p2) < p4 then (p1 + p2) else p4)) + (if p1 < p5 then p1 else p5)).toInt64) + (((p1 + p2) - (if (p1 + p2) < p4 then (p1 + p2) else p4)).toInt64)))]))
    refine Good.back (fun _ k => XS.aload X87.here hx rfl (hb hby at_99) rfl rfl k) ?_
    show Good p e below _ (T87.setTop (mkF m 101 #[.val (.int p0), .val (.int p1), .val (.int p2), .val (.int p3), .val (.int p4), .val (.int p5), .val (.int (3 : Int32)), .val (.ref b61), .val (.long (((((0 : Int32) + (if (p1 + p2) < p4 then (p1 + p2) else p4)) + (if p1 < p5 then p1 else p5)).toInt64) + (((p1 + p2) - (if (p1 + p2) < p4 then (p1 + p2) else p4)).toInt64))), .second] [(.ref b61), (.long (((((0 : Int32) + (if (p1 + p2) < p4 then (p1 + p2) else p4)) + (if p1 < p5 then p1 else p5)).toInt64) + (((p1 + p2) - (if (p1 + p2) < p4 then (p1 + p2) else p4)).toInt64)))]))
    refine Good.back (fun _ k => XS.iconst X87.here hx rfl (hb hby at_101) k) ?_
    show Good p e below _ (T87.setTop (mkF m 102 #[.val (.int p0), .val (.int p1), .val (.int p2), .val (.int p3), .val (.int p4), .val (.int p5), .val (.int (3 : Int32)), .val (.ref b61), .val (.long (((((0 : Int32) + (if (p1 + p2) < p4 then (p1 + p2) else p4)) + (if p1 < p5 then p1 else p5)).toInt64) + (((p1 + p2) - (if (p1 + p2) < p4 then (p1 + p2) else p4)).toInt64))), .second] [(.int (2 : Int32)), (.ref b61), (.long (((((0 : Int32) + (if (p1 + p2) < p4 then (p1 + p2) else p4)) + (if p1 < p5 then p1 else p5)).toInt64) + (((p1 + p2) - (if (p1 + p2) < p4 then (p1 + p2) else p4)).toInt64)))]))
    obtain ⟨cq88, kq88, q88a, q88b, q88c⟩ := isOf hZ eh87 f_86
    obtain ⟨_, _, ⟨T88, L88, k88, n88⟩, -, X88, ⟨Lc88, hQ88, l88, y88, z88⟩, st88⟩ := X87.virtualBack hx (y := (⟨"org/ludarium/games/sabacc/Chips", "held", "(I)I"⟩ : MethodName)) (z := (⟨"org/ludarium/games/sabacc/Chips", "held", "(I)I"⟩ : MethodName)) hown (mvT hZ (hw _ (List.mem_of_getElem? (i := 45) rfl))) (mvT hZ (hw _ (List.mem_of_getElem? (i := 46) rfl))) (notFace_of_selects (args := #[]) (mvT hZ (hw _ (List.mem_of_getElem? (i := 48) rfl)))) (mvT hZ (hw _ (List.mem_of_getElem? (i := 48) rfl))) (mvT hZ (hw _ (List.mem_of_getElem? (i := 47) rfl))) (by decide) (backOf (W := 2) (rm10_3_2 l Z a0 hw [] b61 ar_66 kk_66 ((p1 + p2) - (if (p1 + p2) < p4 then (p1 + p2) else p4)) (p1 + p3) (p1 - (if p1 < p5 then p1 else p5)) T80.heap n0 Z84 o80_1 o80_0) hZ (hw _ (List.mem_of_getElem? (i := 49) rfl)) (hw _ (List.mem_of_getElem? (i := 2) rfl)) (by decide) (by decide)) q88a q88c (g := (mkF m 102 #[.val (.int p0), .val (.int p1), .val (.int p2), .val (.int p3), .val (.int p4), .val (.int p5), .val (.int (3 : Int32)), .val (.ref b61), .val (.long (((((0 : Int32) + (if (p1 + p2) < p4 then (p1 + p2) else p4)) + (if p1 < p5 then p1 else p5)).toInt64) + (((p1 + p2) - (if (p1 + p2) < p4 then (p1 + p2) else p4)).toInt64))), .second] [(.int (2 : Int32)), (.ref b61), (.long (((((0 : Int32) + (if (p1 + p2) < p4 then (p1 + p2) else p4)) + (if p1 < p5 then p1 else p5)).toInt64) + (((p1 + p2) - (if (p1 + p2) < p4 then (p1 + p2) else p4)).toInt64)))])) rfl (by rw [hml]; rfl) (Steps.refl _) (argsL := [(.int (2 : Int32))]) (rest := [(.long (((((0 : Int32) + (if (p1 + p2) < p4 then (p1 + p2) else p4)) + (if p1 < p5 then p1 else p5)).toInt64) + (((p1 + p2) - (if (p1 + p2) < p4 then (p1 + p2) else p4)).toInt64)))]) (lenOf own_pd121 rfl) rfl (by show 2 * 0 + _ ≤ _; exact Nat.le_of_eq rfl) (hb hby at_102) (fun _ _ => ⟨rfl, eh87, (by decide : 2 + 0 ≤ _), (by decide : 5 + 0 ≤ _)⟩)
    dsimp only [Pt.U, Pt.locs, Pt.cells, Pt.slots] at X88 l88 y88 z88 st88 hQ88
    subst l88 y88 z88
    obtain ⟨rfl, N88q, eh88⟩ := hQ88
    have N88 := Fr.app N87 N88q
    refine Good.back (fun _ k => st88.trans k) ?_
    show Good p e below _ (T88.setTop (mkF m 105 #[.val (.int p0), .val (.int p1), .val (.int p2), .val (.int p3), .val (.int p4), .val (.int p5), .val (.int (3 : Int32)), .val (.ref b61), .val (.long (((((0 : Int32) + (if (p1 + p2) < p4 then (p1 + p2) else p4)) + (if p1 < p5 then p1 else p5)).toInt64) + (((p1 + p2) - (if (p1 + p2) < p4 then (p1 + p2) else p4)).toInt64))), .second] [(.int (p1 + p3)), (.long (((((0 : Int32) + (if (p1 + p2) < p4 then (p1 + p2) else p4)) + (if p1 < p5 then p1 else p5)).toInt64) + (((p1 + p2) - (if (p1 + p2) < p4 then (p1 + p2) else p4)).toInt64)))]))
    refine Good.back (fun _ k => XS.i2l X88.here hx rfl (hb hby at_105) rfl k) ?_
    show Good p e below _ (T88.setTop (mkF m 106 #[.val (.int p0), .val (.int p1), .val (.int p2), .val (.int p3), .val (.int p4), .val (.int p5), .val (.int (3 : Int32)), .val (.ref b61), .val (.long (((((0 : Int32) + (if (p1 + p2) < p4 then (p1 + p2) else p4)) + (if p1 < p5 then p1 else p5)).toInt64) + (((p1 + p2) - (if (p1 + p2) < p4 then (p1 + p2) else p4)).toInt64))), .second] [(.long ((p1 + p3).toInt64)), (.long (((((0 : Int32) + (if (p1 + p2) < p4 then (p1 + p2) else p4)) + (if p1 < p5 then p1 else p5)).toInt64) + (((p1 + p2) - (if (p1 + p2) < p4 then (p1 + p2) else p4)).toInt64)))]))
    refine Good.back (fun _ k => XS.ladd X88.here hx rfl (hb hby at_106) rfl k) ?_
    show Good p e below _ (T88.setTop (mkF m 107 #[.val (.int p0), .val (.int p1), .val (.int p2), .val (.int p3), .val (.int p4), .val (.int p5), .val (.int (3 : Int32)), .val (.ref b61), .val (.long (((((0 : Int32) + (if (p1 + p2) < p4 then (p1 + p2) else p4)) + (if p1 < p5 then p1 else p5)).toInt64) + (((p1 + p2) - (if (p1 + p2) < p4 then (p1 + p2) else p4)).toInt64))), .second] [(.long ((((((0 : Int32) + (if (p1 + p2) < p4 then (p1 + p2) else p4)) + (if p1 < p5 then p1 else p5)).toInt64) + (((p1 + p2) - (if (p1 + p2) < p4 then (p1 + p2) else p4)).toInt64)) + ((p1 + p3).toInt64)))]))
    refine Good.back (fun _ k => XS.lstore X88.here hx rfl (hb hby at_107) rfl (l' := #[.val (.int p0), .val (.int p1), .val (.int p2), .val (.int p3), .val (.int p4), .val (.int p5), .val (.int (3 : Int32)), .val (.ref b61), .val (.long ((((((0 : Int32) + (if (p1 + p2) < p4 then (p1 + p2) else p4)) + (if p1 < p5 then p1 else p5)).toInt64) + (((p1 + p2) - (if (p1 + p2) < p4 then (p1 + p2) else p4)).toInt64)) + ((p1 + p3).toInt64))), .second]) rfl k) ?_
    show Good p e below _ (T88.setTop (mkF m 109 #[.val (.int p0), .val (.int p1), .val (.int p2), .val (.int p3), .val (.int p4), .val (.int p5), .val (.int (3 : Int32)), .val (.ref b61), .val (.long ((((((0 : Int32) + (if (p1 + p2) < p4 then (p1 + p2) else p4)) + (if p1 < p5 then p1 else p5)).toInt64) + (((p1 + p2) - (if (p1 + p2) < p4 then (p1 + p2) else p4)).toInt64)) + ((p1 + p3).toInt64))), .second] []))
    refine Good.back (fun _ k => XS.iload X88.here hx rfl (hb hby at_109) rfl k) ?_
    show Good p e below _ (T88.setTop (mkF m 111 #[.val (.int p0), .val (.int p1), .val (.int p2), .val (.int p3), .val (.int p4), .val (.int p5), .val (.int (3 : Int32)), .val (.ref b61), .val (.long ((((((0 : Int32) + (if (p1 + p2) < p4 then (p1 + p2) else p4)) + (if p1 < p5 then p1 else p5)).toInt64) + (((p1 + p2) - (if (p1 + p2) < p4 then (p1 + p2) else p4)).toInt64)) + ((p1 + p3).toInt64))), .second] [(.int (3 : Int32))]))
    refine Good.back (fun _ k => XS.iconst X88.here hx rfl (hb hby at_111) k) ?_
    show Good p e below _ (T88.setTop (mkF m 112 #[.val (.int p0), .val (.int p1), .val (.int p2), .val (.int p3), .val (.int p4), .val (.int p5), .val (.int (3 : Int32)), .val (.ref b61), .val (.long ((((((0 : Int32) + (if (p1 + p2) < p4 then (p1 + p2) else p4)) + (if p1 < p5 then p1 else p5)).toInt64) + (((p1 + p2) - (if (p1 + p2) < p4 then (p1 + p2) else p4)).toInt64)) + ((p1 + p3).toInt64))), .second] [(.int (3 : Int32)), (.int (3 : Int32))]))
    refine Good.back (fun _ k => XS.icmpNo X88.here hx rfl (hb hby at_112) rfl (flt (by decide : ¬ ((3 : Int32) < (3 : Int32)))).1 k) ?_
    show Good p e below _ (T88.setTop (mkF m 115 #[.val (.int p0), .val (.int p1), .val (.int p2), .val (.int p3), .val (.int p4), .val (.int p5), .val (.int (3 : Int32)), .val (.ref b61), .val (.long ((((((0 : Int32) + (if (p1 + p2) < p4 then (p1 + p2) else p4)) + (if p1 < p5 then p1 else p5)).toInt64) + (((p1 + p2) - (if (p1 + p2) < p4 then (p1 + p2) else p4)).toInt64)) + ((p1 + p3).toInt64))), .second] []))
    refine Good.back (fun _ k => XS.lload X88.here hx rfl (hb hby at_115) rfl k) ?_
    show Good p e below _ (T88.setTop (mkF m 117 #[.val (.int p0), .val (.int p1), .val (.int p2), .val (.int p3), .val (.int p4), .val (.int p5), .val (.int (3 : Int32)), .val (.ref b61), .val (.long ((((((0 : Int32) + (if (p1 + p2) < p4 then (p1 + p2) else p4)) + (if p1 < p5 then p1 else p5)).toInt64) + (((p1 + p2) - (if (p1 + p2) < p4 then (p1 + p2) else p4)).toInt64)) + ((p1 + p3).toInt64))), .second] [(.long ((((((0 : Int32) + (if (p1 + p2) < p4 then (p1 + p2) else p4)) + (if p1 < p5 then p1 else p5)).toInt64) + (((p1 + p2) - (if (p1 + p2) < p4 then (p1 + p2) else p4)).toInt64)) + ((p1 + p3).toInt64)))]))
    refine Good.back (fun _ k => XS.aload X88.here hx rfl (hb hby at_117) rfl rfl k) ?_
    show Good p e below _ (T88.setTop (mkF m 119 #[.val (.int p0), .val (.int p1), .val (.int p2), .val (.int p3), .val (.int p4), .val (.int p5), .val (.int (3 : Int32)), .val (.ref b61), .val (.long ((((((0 : Int32) + (if (p1 + p2) < p4 then (p1 + p2) else p4)) + (if p1 < p5 then p1 else p5)).toInt64) + (((p1 + p2) - (if (p1 + p2) < p4 then (p1 + p2) else p4)).toInt64)) + ((p1 + p3).toInt64))), .second] [(.ref b61), (.long ((((((0 : Int32) + (if (p1 + p2) < p4 then (p1 + p2) else p4)) + (if p1 < p5 then p1 else p5)).toInt64) + (((p1 + p2) - (if (p1 + p2) < p4 then (p1 + p2) else p4)).toInt64)) + ((p1 + p3).toInt64)))]))
    refine Good.back (fun _ k => XS.iconst X88.here hx rfl (hb hby at_119) k) ?_
    show Good p e below _ (T88.setTop (mkF m 120 #[.val (.int p0), .val (.int p1), .val (.int p2), .val (.int p3), .val (.int p4), .val (.int p5), .val (.int (3 : Int32)), .val (.ref b61), .val (.long ((((((0 : Int32) + (if (p1 + p2) < p4 then (p1 + p2) else p4)) + (if p1 < p5 then p1 else p5)).toInt64) + (((p1 + p2) - (if (p1 + p2) < p4 then (p1 + p2) else p4)).toInt64)) + ((p1 + p3).toInt64))), .second] [(.int (3 : Int32)), (.ref b61), (.long ((((((0 : Int32) + (if (p1 + p2) < p4 then (p1 + p2) else p4)) + (if p1 < p5 then p1 else p5)).toInt64) + (((p1 + p2) - (if (p1 + p2) < p4 then (p1 + p2) else p4)).toInt64)) + ((p1 + p3).toInt64)))]))
    obtain ⟨cq89, kq89, q89a, q89b, q89c⟩ := isOf hZ eh88 f_86
    obtain ⟨_, _, ⟨T89, L89, k89, n89⟩, -, X89, ⟨Lc89, hQ89, l89, y89, z89⟩, st89⟩ := X88.virtualBack hx (y := (⟨"org/ludarium/games/sabacc/Chips", "held", "(I)I"⟩ : MethodName)) (z := (⟨"org/ludarium/games/sabacc/Chips", "held", "(I)I"⟩ : MethodName)) hown (mvT hZ (hw _ (List.mem_of_getElem? (i := 45) rfl))) (mvT hZ (hw _ (List.mem_of_getElem? (i := 46) rfl))) (notFace_of_selects (args := #[]) (mvT hZ (hw _ (List.mem_of_getElem? (i := 48) rfl)))) (mvT hZ (hw _ (List.mem_of_getElem? (i := 48) rfl))) (mvT hZ (hw _ (List.mem_of_getElem? (i := 47) rfl))) (by decide) (backOf (W := 2) (rm10_3_3 l Z a0 hw [] b61 ar_66 kk_66 ((p1 + p2) - (if (p1 + p2) < p4 then (p1 + p2) else p4)) (p1 + p3) (p1 - (if p1 < p5 then p1 else p5)) T80.heap n0 Z84 o80_1 o80_0) hZ (hw _ (List.mem_of_getElem? (i := 49) rfl)) (hw _ (List.mem_of_getElem? (i := 2) rfl)) (by decide) (by decide)) q89a q89c (g := (mkF m 120 #[.val (.int p0), .val (.int p1), .val (.int p2), .val (.int p3), .val (.int p4), .val (.int p5), .val (.int (3 : Int32)), .val (.ref b61), .val (.long ((((((0 : Int32) + (if (p1 + p2) < p4 then (p1 + p2) else p4)) + (if p1 < p5 then p1 else p5)).toInt64) + (((p1 + p2) - (if (p1 + p2) < p4 then (p1 + p2) else p4)).toInt64)) + ((p1 + p3).toInt64))), .second] [(.int (3 : Int32)), (.ref b61), (.long ((((((0 : Int32) + (if (p1 + p2) < p4 then (p1 + p2) else p4)) + (if p1 < p5 then p1 else p5)).toInt64) + (((p1 + p2) - (if (p1 + p2) < p4 then (p1 + p2) else p4)).toInt64)) + ((p1 + p3).toInt64)))])) rfl (by rw [hml]; rfl) (Steps.refl _) (argsL := [(.int (3 : Int32))]) (rest := [(.long ((((((0 : Int32) + (if (p1 + p2) < p4 then (p1 + p2) else p4)) + (if p1 < p5 then p1 else p5)).toInt64) + (((p1 + p2) - (if (p1 + p2) < p4 then (p1 + p2) else p4)).toInt64)) + ((p1 + p3).toInt64)))]) (lenOf own_pd121 rfl) rfl (by show 2 * 0 + _ ≤ _; exact Nat.le_of_eq rfl) (hb hby at_120) (fun _ _ => ⟨rfl, eh88, (by decide : 2 + 0 ≤ _), (by decide : 5 + 0 ≤ _)⟩)
    dsimp only [Pt.U, Pt.locs, Pt.cells, Pt.slots] at X89 l89 y89 z89 st89 hQ89
    subst l89 y89 z89
    obtain ⟨rfl, N89q, eh89⟩ := hQ89
    have N89 := Fr.app N88 N89q
    refine Good.back (fun _ k => st89.trans k) ?_
    show Good p e below _ (T89.setTop (mkF m 123 #[.val (.int p0), .val (.int p1), .val (.int p2), .val (.int p3), .val (.int p4), .val (.int p5), .val (.int (3 : Int32)), .val (.ref b61), .val (.long ((((((0 : Int32) + (if (p1 + p2) < p4 then (p1 + p2) else p4)) + (if p1 < p5 then p1 else p5)).toInt64) + (((p1 + p2) - (if (p1 + p2) < p4 then (p1 + p2) else p4)).toInt64)) + ((p1 + p3).toInt64))), .second] [(.int (p1 - (if p1 < p5 then p1 else p5))), (.long ((((((0 : Int32) + (if (p1 + p2) < p4 then (p1 + p2) else p4)) + (if p1 < p5 then p1 else p5)).toInt64) + (((p1 + p2) - (if (p1 + p2) < p4 then (p1 + p2) else p4)).toInt64)) + ((p1 + p3).toInt64)))]))
    refine Good.back (fun _ k => XS.i2l X89.here hx rfl (hb hby at_123) rfl k) ?_
    show Good p e below _ (T89.setTop (mkF m 124 #[.val (.int p0), .val (.int p1), .val (.int p2), .val (.int p3), .val (.int p4), .val (.int p5), .val (.int (3 : Int32)), .val (.ref b61), .val (.long ((((((0 : Int32) + (if (p1 + p2) < p4 then (p1 + p2) else p4)) + (if p1 < p5 then p1 else p5)).toInt64) + (((p1 + p2) - (if (p1 + p2) < p4 then (p1 + p2) else p4)).toInt64)) + ((p1 + p3).toInt64))), .second] [(.long ((p1 - (if p1 < p5 then p1 else p5)).toInt64)), (.long ((((((0 : Int32) + (if (p1 + p2) < p4 then (p1 + p2) else p4)) + (if p1 < p5 then p1 else p5)).toInt64) + (((p1 + p2) - (if (p1 + p2) < p4 then (p1 + p2) else p4)).toInt64)) + ((p1 + p3).toInt64)))]))
    refine Good.back (fun _ k => XS.ladd X89.here hx rfl (hb hby at_124) rfl k) ?_
    show Good p e below _ (T89.setTop (mkF m 125 #[.val (.int p0), .val (.int p1), .val (.int p2), .val (.int p3), .val (.int p4), .val (.int p5), .val (.int (3 : Int32)), .val (.ref b61), .val (.long ((((((0 : Int32) + (if (p1 + p2) < p4 then (p1 + p2) else p4)) + (if p1 < p5 then p1 else p5)).toInt64) + (((p1 + p2) - (if (p1 + p2) < p4 then (p1 + p2) else p4)).toInt64)) + ((p1 + p3).toInt64))), .second] [(.long (((((((0 : Int32) + (if (p1 + p2) < p4 then (p1 + p2) else p4)) + (if p1 < p5 then p1 else p5)).toInt64) + (((p1 + p2) - (if (p1 + p2) < p4 then (p1 + p2) else p4)).toInt64)) + ((p1 + p3).toInt64)) + ((p1 - (if p1 < p5 then p1 else p5)).toInt64)))]))
    refine Good.back (fun _ k => XS.lstore X89.here hx rfl (hb hby at_125) rfl (l' := #[.val (.int p0), .val (.int p1), .val (.int p2), .val (.int p3), .val (.int p4), .val (.int p5), .val (.int (3 : Int32)), .val (.ref b61), .val (.long (((((((0 : Int32) + (if (p1 + p2) < p4 then (p1 + p2) else p4)) + (if p1 < p5 then p1 else p5)).toInt64) + (((p1 + p2) - (if (p1 + p2) < p4 then (p1 + p2) else p4)).toInt64)) + ((p1 + p3).toInt64)) + ((p1 - (if p1 < p5 then p1 else p5)).toInt64))), .second]) rfl k) ?_
    show Good p e below _ (T89.setTop (mkF m 127 #[.val (.int p0), .val (.int p1), .val (.int p2), .val (.int p3), .val (.int p4), .val (.int p5), .val (.int (3 : Int32)), .val (.ref b61), .val (.long (((((((0 : Int32) + (if (p1 + p2) < p4 then (p1 + p2) else p4)) + (if p1 < p5 then p1 else p5)).toInt64) + (((p1 + p2) - (if (p1 + p2) < p4 then (p1 + p2) else p4)).toInt64)) + ((p1 + p3).toInt64)) + ((p1 - (if p1 < p5 then p1 else p5)).toInt64))), .second] []))
    refine Good.back (fun _ k => XS.aload X89.here hx rfl (hb hby at_127) rfl rfl k) ?_
    show Good p e below _ (T89.setTop (mkF m 129 #[.val (.int p0), .val (.int p1), .val (.int p2), .val (.int p3), .val (.int p4), .val (.int p5), .val (.int (3 : Int32)), .val (.ref b61), .val (.long (((((((0 : Int32) + (if (p1 + p2) < p4 then (p1 + p2) else p4)) + (if p1 < p5 then p1 else p5)).toInt64) + (((p1 + p2) - (if (p1 + p2) < p4 then (p1 + p2) else p4)).toInt64)) + ((p1 + p3).toInt64)) + ((p1 - (if p1 < p5 then p1 else p5)).toInt64))), .second] [(.ref b61)]))
    obtain ⟨cq90, kq90, q90a, q90b, q90c⟩ := isOf hZ eh89 f_86
    obtain ⟨_, _, ⟨T90, L90, k90, n90⟩, -, X90, ⟨Lc90, hQ90, l90, y90, z90⟩, st90⟩ := X89.virtualBack hx (y := (⟨"org/ludarium/games/sabacc/Chips", "total", "()J"⟩ : MethodName)) (z := (⟨"org/ludarium/games/sabacc/Chips", "total", "()J"⟩ : MethodName)) hown (mvT hZ (hw _ (List.mem_of_getElem? (i := 26) rfl))) (mvT hZ (hw _ (List.mem_of_getElem? (i := 27) rfl))) (notFace_of_selects (args := #[]) (mvT hZ (hw _ (List.mem_of_getElem? (i := 29) rfl)))) (mvT hZ (hw _ (List.mem_of_getElem? (i := 29) rfl))) (mvT hZ (hw _ (List.mem_of_getElem? (i := 28) rfl))) (by decide) (backOf (W := 0) (rm6_3 l Z a0 hw [] b61 (((0 : Int32) + (if (p1 + p2) < p4 then (p1 + p2) else p4)) + (if p1 < p5 then p1 else p5)) ar_66 kk_66 ((p1 + p2) - (if (p1 + p2) < p4 then (p1 + p2) else p4)) (p1 + p3) (p1 - (if p1 < p5 then p1 else p5)) T80.heap n0 Z84 o80_2 o80_1 o80_0) hZ (hw _ (List.mem_of_getElem? (i := 30) rfl)) (hw _ (List.mem_of_getElem? (i := 2) rfl)) (by decide) (by decide)) q90a q90c (g := (mkF m 129 #[.val (.int p0), .val (.int p1), .val (.int p2), .val (.int p3), .val (.int p4), .val (.int p5), .val (.int (3 : Int32)), .val (.ref b61), .val (.long (((((((0 : Int32) + (if (p1 + p2) < p4 then (p1 + p2) else p4)) + (if p1 < p5 then p1 else p5)).toInt64) + (((p1 + p2) - (if (p1 + p2) < p4 then (p1 + p2) else p4)).toInt64)) + ((p1 + p3).toInt64)) + ((p1 - (if p1 < p5 then p1 else p5)).toInt64))), .second] [(.ref b61)])) rfl (by rw [hml]; rfl) (Steps.refl _) (argsL := []) (rest := []) (lenOf own_pd120 rfl) rfl (by show 2 * 0 + _ ≤ _; exact Nat.le_of_eq rfl) (hb hby at_129) (fun _ _ => ⟨rfl, eh89, (by decide : 2 + 0 ≤ _), (by decide : 5 + 0 ≤ _)⟩)
    dsimp only [Pt.U, Pt.locs, Pt.cells, Pt.slots] at X90 l90 y90 z90 st90 hQ90
    subst l90 y90 z90
    obtain ⟨rfl, N90q, eh90⟩ := hQ90
    have N90 := Fr.app N89 N90q
    refine Good.back (fun _ k => st90.trans k) ?_
    show Good p e below _ (T90.setTop (mkF m 132 #[.val (.int p0), .val (.int p1), .val (.int p2), .val (.int p3), .val (.int p4), .val (.int p5), .val (.int (3 : Int32)), .val (.ref b61), .val (.long (((((((0 : Int32) + (if (p1 + p2) < p4 then (p1 + p2) else p4)) + (if p1 < p5 then p1 else p5)).toInt64) + (((p1 + p2) - (if (p1 + p2) < p4 then (p1 + p2) else p4)).toInt64)) + ((p1 + p3).toInt64)) + ((p1 - (if p1 < p5 then p1 else p5)).toInt64))), .second] [(.long (((((((0 : Int32) + (if (p1 + p2) < p4 then (p1 + p2) else p4)) + (if p1 < p5 then p1 else p5)).toInt64) + (((p1 + p2) - (if (p1 + p2) < p4 then (p1 + p2) else p4)).toInt64)) + ((p1 + p3).toInt64)) + ((p1 - (if p1 < p5 then p1 else p5)).toInt64)))]))
    refine Good.back (fun _ k => XS.lload X90.here hx rfl (hb hby at_132) rfl k) ?_
    show Good p e below _ (T90.setTop (mkF m 134 #[.val (.int p0), .val (.int p1), .val (.int p2), .val (.int p3), .val (.int p4), .val (.int p5), .val (.int (3 : Int32)), .val (.ref b61), .val (.long (((((((0 : Int32) + (if (p1 + p2) < p4 then (p1 + p2) else p4)) + (if p1 < p5 then p1 else p5)).toInt64) + (((p1 + p2) - (if (p1 + p2) < p4 then (p1 + p2) else p4)).toInt64)) + ((p1 + p3).toInt64)) + ((p1 - (if p1 < p5 then p1 else p5)).toInt64))), .second] [(.long (((((((0 : Int32) + (if (p1 + p2) < p4 then (p1 + p2) else p4)) + (if p1 < p5 then p1 else p5)).toInt64) + (((p1 + p2) - (if (p1 + p2) < p4 then (p1 + p2) else p4)).toInt64)) + ((p1 + p3).toInt64)) + ((p1 - (if p1 < p5 then p1 else p5)).toInt64))), (.long (((((((0 : Int32) + (if (p1 + p2) < p4 then (p1 + p2) else p4)) + (if p1 < p5 then p1 else p5)).toInt64) + (((p1 + p2) - (if (p1 + p2) < p4 then (p1 + p2) else p4)).toInt64)) + ((p1 + p3).toInt64)) + ((p1 - (if p1 < p5 then p1 else p5)).toInt64)))]))
    refine Good.back (fun _ k => XS.lcmp X90.here hx rfl (hb hby at_134) rfl k) ?_
    show Good p e below _ (T90.setTop (mkF m 135 #[.val (.int p0), .val (.int p1), .val (.int p2), .val (.int p3), .val (.int p4), .val (.int p5), .val (.int (3 : Int32)), .val (.ref b61), .val (.long (((((((0 : Int32) + (if (p1 + p2) < p4 then (p1 + p2) else p4)) + (if p1 < p5 then p1 else p5)).toInt64) + (((p1 + p2) - (if (p1 + p2) < p4 then (p1 + p2) else p4)).toInt64)) + ((p1 + p3).toInt64)) + ((p1 - (if p1 < p5 then p1 else p5)).toInt64))), .second] [(.int (lcmpW (((((((0 : Int32) + (if (p1 + p2) < p4 then (p1 + p2) else p4)) + (if p1 < p5 then p1 else p5)).toInt64) + (((p1 + p2) - (if (p1 + p2) < p4 then (p1 + p2) else p4)).toInt64)) + ((p1 + p3).toInt64)) + ((p1 - (if p1 < p5 then p1 else p5)).toInt64)) (((((((0 : Int32) + (if (p1 + p2) < p4 then (p1 + p2) else p4)) + (if p1 < p5 then p1 else p5)).toInt64) + (((p1 + p2) - (if (p1 + p2) < p4 then (p1 + p2) else p4)).toInt64)) + ((p1 + p3).toInt64)) + ((p1 - (if p1 < p5 then p1 else p5)).toInt64))))]))
    refine Good.back (fun _ k => XS.ifNo X90.here hx rfl (hb hby at_135) rfl ((if0 _ _).trans (teq ((lw_eq _ _).mpr rfl : (lcmpW (((((((0 : Int32) + (if (p1 + p2) < p4 then (p1 + p2) else p4)) + (if p1 < p5 then p1 else p5)).toInt64) + (((p1 + p2) - (if (p1 + p2) < p4 then (p1 + p2) else p4)).toInt64)) + ((p1 + p3).toInt64)) + ((p1 - (if p1 < p5 then p1 else p5)).toInt64)) (((((((0 : Int32) + (if (p1 + p2) < p4 then (p1 + p2) else p4)) + (if p1 < p5 then p1 else p5)).toInt64) + (((p1 + p2) - (if (p1 + p2) < p4 then (p1 + p2) else p4)).toInt64)) + ((p1 + p3).toInt64)) + ((p1 - (if p1 < p5 then p1 else p5)).toInt64))) = (0 : Int32))).2) k) ?_
    show Good p e below _ (T90.setTop (mkF m 138 #[.val (.int p0), .val (.int p1), .val (.int p2), .val (.int p3), .val (.int p4), .val (.int p5), .val (.int (3 : Int32)), .val (.ref b61), .val (.long (((((((0 : Int32) + (if (p1 + p2) < p4 then (p1 + p2) else p4)) + (if p1 < p5 then p1 else p5)).toInt64) + (((p1 + p2) - (if (p1 + p2) < p4 then (p1 + p2) else p4)).toInt64)) + ((p1 + p3).toInt64)) + ((p1 - (if p1 < p5 then p1 else p5)).toInt64))), .second] []))
    refine Good.back (fun _ k => XS.iconst X90.here hx rfl (hb hby at_138) k) ?_
    show Good p e below _ (T90.setTop (mkF m 139 #[.val (.int p0), .val (.int p1), .val (.int p2), .val (.int p3), .val (.int p4), .val (.int p5), .val (.int (3 : Int32)), .val (.ref b61), .val (.long (((((((0 : Int32) + (if (p1 + p2) < p4 then (p1 + p2) else p4)) + (if p1 < p5 then p1 else p5)).toInt64) + (((p1 + p2) - (if (p1 + p2) < p4 then (p1 + p2) else p4)).toInt64)) + ((p1 + p3).toInt64)) + ((p1 - (if p1 < p5 then p1 else p5)).toInt64))), .second] [(.int (1 : Int32))]))
    refine Good.back (fun _ k => XS.goto X90.here hx rfl (pc0 := 139) (pc' := 143) rfl (hb hby at_139) (by decide) (by decide) k) ?_
    show Good p e below _ (T90.setTop (mkF m 143 #[.val (.int p0), .val (.int p1), .val (.int p2), .val (.int p3), .val (.int p4), .val (.int p5), .val (.int (3 : Int32)), .val (.ref b61), .val (.long (((((((0 : Int32) + (if (p1 + p2) < p4 then (p1 + p2) else p4)) + (if p1 < p5 then p1 else p5)).toInt64) + (((p1 + p2) - (if (p1 + p2) < p4 then (p1 + p2) else p4)).toInt64)) + ((p1 + p3).toInt64)) + ((p1 - (if p1 < p5 then p1 else p5)).toInt64))), .second] [(.int (1 : Int32))]))
    obtain ⟨fs91, hr91, hrun91, hended91, hW91, hsame91⟩ := X90.leave (v := some (.int (1 : Int32))) (fun h => by rw [Bd.returns] at h; cases h)
    refine Good.done (retN X90 hx (t := .boolean) Bd.returns (by simp) (hb hby at_143) hr91) hrun91 hended91 ⟨_, _, rfl, ?_, ⟨_, rfl⟩, hW91, hsame91.mono (by decide) (by decide)⟩
    show Q0 Z p0 p1 p2 p3 p4 p5 h0 n0 _ T90.heap _
    rw [eh90]
    exact ⟨rfl, N90⟩
set_option maxRecDepth 65536 in
set_option maxHeartbeats 40000000 in
theorem comes_1 {Post : Tables → Env → Array Value → State → Outcome → State → Prop} (hpost : ∀ tb e args s v u, (limb_1_1.after args s (.returned v) u = true ∧ limb_1_2.after args s (.returned v) u = true ∧ True) → FrameEnd s (.returned v) u (Jvm.fieldLocs frame_1_writes args s ++ Jvm.arrayLocs frame_1_arrays args s ++ Jvm.staticLocs frame_1_statics s) 16 128 → Post tb e args s (.returned v) u) :
    ArmFor flags0 classFile x code maxLocals ret World_1 tables_1 room_1 Calls_1 rest_1 Pre_1 Post := by
  intro l hfl _ _ p e ha hc hk s m args below hf hA hF happ hP
  obtain ⟨hcalls, hrest, hpre⟩ := hP
  obtain ⟨-, -, -, hnamed, -, -, -, hat⟩ := (Spec.applies_iff hf).mp happ
  obtain ⟨hg, hn⟩ := and_e (Cond.before_iff.mp (show (Jvm.Cond.and given_1 narrow_1).before args s = true from hpre))
  obtain ⟨g1, g2⟩ := and_e hg
  obtain ⟨g3, g4⟩ := and_e g2
  obtain ⟨g5, g6⟩ := and_e g4
  obtain ⟨g7, g8⟩ := and_e g6
  obtain ⟨g9, g10⟩ := and_e g8
  obtain ⟨g11, g12⟩ := and_e g10
  obtain ⟨w0, w1, w2, w3, w4, w5, rfl⟩ : ∃ w0 w1 w2 w3 w4 w5 : Value, args = #[w0, w1, w2, w3, w4, w5] := by
    have hs : args.size = 6 := by simpa [Cond.value, given_1] using g1
    obtain ⟨L⟩ := args
    match L, hs with
    | [w0, w1, w2, w3, w4, w5], _ => exact ⟨w0, w1, w2, w3, w4, w5, rfl⟩
  have hw := fun d (hd : d ∈ tables_1) => atoms_spec (ws := Jvm.Cond.code x code maxLocals ret :: tables_1) hat d (List.mem_cons_of_mem _ hd)
  have hfit : Fit s := fun {y c} hc i hi => by
    obtain ⟨ha, rfl⟩ := Array.getElem?_eq_some_iff.mp hc
    have q := List.all_eq_true.mp ((Array.all_eq_true_iff_forall_mem.mp hF) _ (Array.getElem_mem ha)) i (List.mem_range.mpr hi)
    simpa [Array.getElem?_eq_getElem hi] using q
  obtain ⟨i0, ei0⟩ := is_v g3
  obtain rfl : w0 = (.int i0) := Option.some.inj ei0
  obtain ⟨i1, ei1⟩ := is_v g5
  obtain rfl : w1 = (.int i1) := Option.some.inj ei1
  obtain ⟨i2, ei2⟩ := is_v g7
  obtain rfl : w2 = (.int i2) := Option.some.inj ei2
  obtain ⟨i3, ei3⟩ := is_v g9
  obtain rfl : w3 = (.int i3) := Option.some.inj ei3
  obtain ⟨i4, ei4⟩ := is_v g11
  obtain rfl : w4 = (.int i4) := Option.some.inj ei4
  obtain ⟨i5, ei5⟩ := is_v g12
  obtain rfl : w5 = (.int i5) := Option.some.inj ei5
  obtain ⟨n, o, h1, h2, h3, _, L, rfl, ⟨rfl, N⟩, hq⟩ := rm0 l s _ hw tables_1 i0 i1 i2 i3 i4 i5  s.heap s.heap.size (Nat.le_refl _)  p e ha hc hk s m _ below hf ((Spec.applies_iff_loose hf).mp happ).1 ⟨rfl, State.Warmed39.refl s, rfl⟩ trivial
  refine ⟨n, _, h1, h2, h3, hpost _ _ _ _ _ _ ⟨Cond.after_iff.mpr rfl, Cond.after_iff.mpr (eq_i res_at (Term.int_eval (1)) rfl), trivial⟩ ⟨hq.1, hq.2.1, (hq.2.2.sift fun y hy => Or.inr (N y hy)).mono (by decide) (by decide)⟩⟩
theorem main_1_1 : Claimed_1_1 := comes_1 fun _ _ _ _ _ _ h hF => ⟨h.1, hF⟩
theorem main_1_2 : Claimed_1_2 := comes_1 fun _ _ _ _ _ _ h hF => ⟨h.2.1, hF⟩
end Jvm.Pilot.@@N@@
namespace Jvm.Pilot.@@N@@
open Jvm Jvm.ClassFile Sem Op Lib Jvm.Free Jvm.Stand Jvm.Pilot.@@N@@.Jvm.D
/-! MADE BY PROGRAM (witnessworld.py) out of the Statement's table words and the real class files: 11 classes; the members and pool entries that the words name. The judged class is class 1, her method 1. -/
namespace start1
open Jvm.ClassFile
def u (s : String) : CpInfo := .utf8 (stringToUtf16 s)
/-- a pool by its gaps: so many unusable entries, then the entry; so many at the end -/
def gap : Nat → List CpInfo → List CpInfo
  | 0, r => r
  | n + 1, r => .unusable :: gap n r
def poolList (es : List (Nat × CpInfo)) (last : Nat) : List CpInfo := es.foldr (fun e r => gap e.1 (e.2 :: r)) (gap last [])
def pool (es : List (Nat × CpInfo)) (last : Nat) : Array CpInfo := ⟨poolList es last⟩
def fileOf (pool : Array CpInfo) (this : Nat) (attrs : Array Attribute := #[]) (ms : Array MethodInfo := #[]) (fl : Nat := 33) (sup : Nat := 0) (ifs : Array Nat := #[]) (fds : Array FieldInfo := #[]) : ClassFile where
  minorVersion := 0
  majorVersion := 65
  constantPool := pool
  accessFlags := fl
  thisClass := this
  superClass := sup
  interfaces := ifs
  fields := fds
  methods := ms
  attributes := attrs
def plain (name : String) (sup : Option ClassId) : Class where
  name := name
  kind := .ordinary
  loader := none
  accessFlags := 33
  super := sup
  interfaces := #[]
  cf := none
  fields := #[]
  methods := #[]
  instanceTypes := #[]
  staticTypes := #[]
  resolved := #[]
  callSites := []
  init := .initialized
  statics := none
  mirror := none

def pool0 : Array CpInfo := pool [(5, u "<init>"), (0, u "()V"), (1, .class_ 10), (1, u "java/lang/Object")] 113

def k0c0 : Code := { maxStack := 0, maxLocals := 1, code := object_method_1_code, exceptionTable := #[], attributes := #[] }
def k0m0 : Method := { name := "<init>", desc := "()V", sig := { parameters := [], returnType := none }, accessFlags := 1, code := some k0c0 }
/-- java/lang/Object -/
def k0 : Class := { plain "java/lang/Object" none with
  accessFlags := 33
  interfaces := #[]
  cf := some (fileOf pool0 8 #[] #[{ accessFlags := 1, nameIndex := 5, descriptorIndex := 6, attributes := #[] }] 33 0 #[] #[])
  fields := #[]
  methods := #[k0m0]
  instanceTypes := #[]
  staticTypes := #[]
  resolved := Array.replicate 124 none
  statics := none }

def pool1 : Array CpInfo := pool [(2, .class_ 4), (1, u "java/lang/Object"), (0, u "<init>"), (0, u "()V"), (0, .class_ 8), (0, u "org/ludarium/games/sabacc/Chips"), (0, .methodref 7 10), (0, .nameAndType 5 11), (0, u "(II)V"), (0, .methodref 7 13), (0, .nameAndType 14 11), (0, u "win"), (0, .methodref 7 16), (0, .nameAndType 17 11), (0, u "paySabaccPot"), (0, .methodref 7 19), (0, .nameAndType 20 21), (0, u "sabaccPot"), (0, u "()I"), (0, .methodref 7 23), (0, .nameAndType 24 25), (0, u "held"), (0, u "(I)I"), (0, .methodref 7 27), (0, .nameAndType 28 29), (0, u "total"), (0, u "()J"), (0, .class_ 31), (0, u "org/ludarium/games/sabacc/ChipsTotalPinLaw"), (2, u "law"), (0, u "(IIIIII)Z")] 3

def k1m0 : Method := { name := "<init>", desc := "()V", sig := { parameters := [], returnType := none }, accessFlags := 1, code := none }
def k1c1 : Code := { maxStack := 4, maxLocals := 10, code := code, exceptionTable := #[], attributes := #[] }
def k1m1 : Method := { name := "law", desc := "(IIIIII)Z", sig := { parameters := [.int, .int, .int, .int, .int, .int], returnType := some .boolean }, accessFlags := 9, code := some k1c1 }
/-- org/ludarium/games/sabacc/ChipsTotalPinLaw -/
def k1 : Class := { plain "org/ludarium/games/sabacc/ChipsTotalPinLaw" (some 0) with
  accessFlags := 49
  interfaces := #[]
  cf := some (fileOf pool1 30 #[] #[{ accessFlags := 1, nameIndex := 5, descriptorIndex := 6, attributes := #[] }, { accessFlags := 9, nameIndex := 34, descriptorIndex := 35, attributes := #[] }] 49 2 #[] #[])
  fields := #[]
  methods := #[k1m0, k1m1]
  instanceTypes := #[]
  staticTypes := #[]
  resolved := Array.replicate 39 none
  statics := none }

def pool2 : Array CpInfo := pool [(1, .methodref 2 3), (0, .class_ 4), (0, .nameAndType 5 6), (0, u "org/ludarium/games/sabacc/Chips"), (0, u "<init>"), (0, u "([II)V"), (0, .fieldref 2 8), (0, .nameAndType 9 10), (0, u "held"), (0, u "[I"), (0, .methodref 12 13), (0, .class_ 14), (0, .nameAndType 15 6), (0, u "java/util/Arrays"), (0, u "fill"), (0, .methodref 17 18), (0, .class_ 19), (0, .nameAndType 5 20), (0, u "java/lang/Object"), (0, u "()V"), (0, .fieldref 2 22), (0, .nameAndType 23 24), (0, u "sabaccPot"), (0, u "I"), (5, .methodref 31 32), (0, .class_ 33), (0, .nameAndType 34 35), (0, u "java/lang/Math"), (0, u "min"), (0, u "(II)I"), (11, u "win"), (0, u "(II)V"), (5, u "(I)I"), (17, u "()I"), (0, u "total"), (0, u "()J"), (1, u "paySabaccPot")] 28

def k2c0 : Code := { maxStack := 3, maxLocals := 3, code := prog_13_method_1_code, exceptionTable := #[], attributes := #[] }
def k2m0 : Method := { name := "<init>", desc := "(II)V", sig := { parameters := [.int, .int], returnType := none }, accessFlags := 0, code := some k2c0 }
def k2c1 : Code := { maxStack := 2, maxLocals := 3, code := prog_13_method_2_code, exceptionTable := #[], attributes := #[] }
def k2m1 : Method := { name := "<init>", desc := "([II)V", sig := { parameters := [(.array .int), .int], returnType := none }, accessFlags := 2, code := some k2c1 }
def k2c2 : Code := { maxStack := 3, maxLocals := 2, code := prog_13_method_5_code, exceptionTable := #[], attributes := #[] }
def k2m2 : Method := { name := "held", desc := "(I)I", sig := { parameters := [.int], returnType := some .int }, accessFlags := 0, code := some k2c2 }
def k2c3 : Code := { maxStack := 1, maxLocals := 1, code := prog_13_method_6_code, exceptionTable := #[], attributes := #[] }
def k2m3 : Method := { name := "sabaccPot", desc := "()I", sig := { parameters := [], returnType := some .int }, accessFlags := 0, code := some k2c3 }
def k2c4 : Code := { maxStack := 4, maxLocals := 7, code := prog_13_method_7_code, exceptionTable := #[], attributes := #[] }
def k2m4 : Method := { name := "total", desc := "()J", sig := { parameters := [], returnType := some .long }, accessFlags := 0, code := some k2c4 }
def k2c5 : Code := { maxStack := 4, maxLocals := 4, code := prog_13_method_8_code, exceptionTable := #[], attributes := #[] }
def k2m5 : Method := { name := "paySabaccPot", desc := "(II)V", sig := { parameters := [.int, .int], returnType := none }, accessFlags := 0, code := some k2c5 }
def k2c6 : Code := { maxStack := 4, maxLocals := 3, code := prog_13_method_10_code, exceptionTable := #[], attributes := #[] }
def k2m6 : Method := { name := "win", desc := "(II)V", sig := { parameters := [.int, .int], returnType := none }, accessFlags := 0, code := some k2c6 }
/-- org/ludarium/games/sabacc/Chips -/
def k2 : Class := { plain "org/ludarium/games/sabacc/Chips" (some 0) with
  accessFlags := 48
  interfaces := #[]
  cf := some (fileOf pool2 2 #[] #[{ accessFlags := 0, nameIndex := 5, descriptorIndex := 48, attributes := #[] }, { accessFlags := 2, nameIndex := 5, descriptorIndex := 6, attributes := #[] }, { accessFlags := 0, nameIndex := 9, descriptorIndex := 54, attributes := #[] }, { accessFlags := 0, nameIndex := 23, descriptorIndex := 72, attributes := #[] }, { accessFlags := 0, nameIndex := 73, descriptorIndex := 74, attributes := #[] }, { accessFlags := 0, nameIndex := 76, descriptorIndex := 48, attributes := #[] }, { accessFlags := 0, nameIndex := 47, descriptorIndex := 48, attributes := #[] }] 48 17 #[] #[{ accessFlags := 18, nameIndex := 9, descriptorIndex := 10, attributes := #[] }, { accessFlags := 2, nameIndex := 23, descriptorIndex := 24, attributes := #[] }])
  fields := #[{ name := "held", type := (.array .int), accessFlags := 18, slot := 0, constantValue := 0 }, { name := "sabaccPot", type := .int, accessFlags := 2, slot := 1, constantValue := 0 }]
  methods := #[k2m0, k2m1, k2m2, k2m3, k2m4, k2m5, k2m6]
  instanceTypes := #[(.array .int), .int]
  staticTypes := #[]
  resolved := Array.replicate 105 none
  statics := none }

def pool3 : Array CpInfo := pool [(2, .class_ 4), (1, u "java/lang/Object"), (0, u "<init>"), (0, u "()V"), (7, .class_ 16), (1, u "java/util/Arrays"), (57, .class_ 76), (1, u "java/util/Arrays$NaturalOrder"), (36, .class_ 115), (1, u "java/util/Arrays$LegacyMergeSort"), (1, u "Z"), (257, .class_ 376), (0, u "java/util/Arrays$ArrayList"), (68, u "$assertionsDisabled"), (269, u "MIN_ARRAY_SORT_GRAN"), (0, u "I"), (2, u "INSERTIONSORT_THRESHOLD"), (120, u "fill"), (4, u "([II)V"), (129, .class_ 976), (0, u "java/util/Arrays$ArrayItr")] 52

def k3m0 : Method := { name := "<init>", desc := "()V", sig := { parameters := [], returnType := none }, accessFlags := 2, code := none }
def k3c1 : Code := { maxStack := 3, maxLocals := 4, code := jdk_65_method_103_code, exceptionTable := #[], attributes := #[] }
def k3m1 : Method := { name := "fill", desc := "([II)V", sig := { parameters := [(.array .int), .int], returnType := none }, accessFlags := 9, code := some k3c1 }
/-- java/util/Arrays -/
def k3 : Class := { plain "java/util/Arrays" (some 0) with
  accessFlags := 49
  interfaces := #[]
  cf := some (fileOf pool3 14 #[.nestMembers #[975, 375, 113, 74]] #[{ accessFlags := 2, nameIndex := 5, descriptorIndex := 6, attributes := #[] }, { accessFlags := 9, nameIndex := 840, descriptorIndex := 845, attributes := #[] }] 49 2 #[] #[{ accessFlags := 26, nameIndex := 715, descriptorIndex := 716, attributes := #[] }, { accessFlags := 26, nameIndex := 719, descriptorIndex := 716, attributes := #[] }, { accessFlags := 4120, nameIndex := 445, descriptorIndex := 117, attributes := #[] }])
  fields := #[{ name := "MIN_ARRAY_SORT_GRAN", type := .int, accessFlags := 26, slot := 0, constantValue := 0 }, { name := "INSERTIONSORT_THRESHOLD", type := .int, accessFlags := 26, slot := 1, constantValue := 0 }, { name := "$assertionsDisabled", type := .boolean, accessFlags := 4120, slot := 2, constantValue := 0 }]
  methods := #[k3m0, k3m1]
  instanceTypes := #[]
  staticTypes := #[.int, .int, .boolean]
  resolved := Array.replicate 1029 none
  statics := none }

def pool4 : Array CpInfo := pool [(1, .class_ 2), (0, u "java/lang/Math"), (1, .class_ 6), (1, u "java/lang/Object"), (0, u "<init>"), (0, u "()V"), (89, .class_ 100), (1, u "java/lang/Math$RandomNumberGeneratorHolder"), (71, u "negativeZeroFloatBits"), (0, u "J"), (2, u "negativeZeroDoubleBits"), (24, u "min"), (43, u "$assertionsDisabled"), (0, u "Z"), (88, u "(II)I"), (2, u "twoToTheDoubleScaleDown"), (0, u "D"), (4, u "twoToTheDoubleScaleUp"), (9, u "E"), (3, u "PI"), (2, u "TAU"), (2, u "DEGREES_TO_RADIANS"), (0, u "RADIANS_TO_DEGREES")] 94

def k4m0 : Method := { name := "<init>", desc := "()V", sig := { parameters := [], returnType := none }, accessFlags := 2, code := none }
def k4c1 : Code := { maxStack := 2, maxLocals := 2, code := jdk_29_method_69_code, exceptionTable := #[], attributes := #[] }
def k4m1 : Method := { name := "min", desc := "(II)I", sig := { parameters := [.int, .int], returnType := some .int }, accessFlags := 9, code := some k4c1 }
/-- java/lang/Math -/
def k4 : Class := { plain "java/lang/Math" (some 0) with
  accessFlags := 49
  interfaces := #[]
  cf := some (fileOf pool4 1 #[.nestMembers #[98]] #[{ accessFlags := 2, nameIndex := 7, descriptorIndex := 8, attributes := #[] }, { accessFlags := 9, nameIndex := 201, descriptorIndex := 335, attributes := #[] }] 49 4 #[] #[{ accessFlags := 25, nameIndex := 354, descriptorIndex := 339, attributes := #[] }, { accessFlags := 25, nameIndex := 358, descriptorIndex := 339, attributes := #[] }, { accessFlags := 25, nameIndex := 361, descriptorIndex := 339, attributes := #[] }, { accessFlags := 26, nameIndex := 364, descriptorIndex := 339, attributes := #[] }, { accessFlags := 26, nameIndex := 365, descriptorIndex := 339, attributes := #[] }, { accessFlags := 26, nameIndex := 172, descriptorIndex := 173, attributes := #[] }, { accessFlags := 26, nameIndex := 176, descriptorIndex := 173, attributes := #[] }, { accessFlags := 8, nameIndex := 344, descriptorIndex := 339, attributes := #[] }, { accessFlags := 8, nameIndex := 338, descriptorIndex := 339, attributes := #[] }, { accessFlags := 4120, nameIndex := 245, descriptorIndex := 246, attributes := #[] }])
  fields := #[{ name := "E", type := .double, accessFlags := 25, slot := 0, constantValue := 0 }, { name := "PI", type := .double, accessFlags := 25, slot := 1, constantValue := 0 }, { name := "TAU", type := .double, accessFlags := 25, slot := 2, constantValue := 0 }, { name := "DEGREES_TO_RADIANS", type := .double, accessFlags := 26, slot := 3, constantValue := 0 }, { name := "RADIANS_TO_DEGREES", type := .double, accessFlags := 26, slot := 4, constantValue := 0 }, { name := "negativeZeroFloatBits", type := .long, accessFlags := 26, slot := 5, constantValue := 0 }, { name := "negativeZeroDoubleBits", type := .long, accessFlags := 26, slot := 6, constantValue := 0 }, { name := "twoToTheDoubleScaleUp", type := .double, accessFlags := 8, slot := 7, constantValue := 0 }, { name := "twoToTheDoubleScaleDown", type := .double, accessFlags := 8, slot := 8, constantValue := 0 }, { name := "$assertionsDisabled", type := .boolean, accessFlags := 4120, slot := 9, constantValue := 0 }]
  methods := #[k4m0, k4m1]
  instanceTypes := #[]
  staticTypes := #[.double, .double, .double, .double, .double, .long, .long, .double, .double, .boolean]
  resolved := Array.replicate 460 none
  statics := none }

def pool5 : Array CpInfo := pool [(1, u "java/lang/Cloneable"), (0, .class_ 1), (0, u "java/lang/Object"), (0, .class_ 3)] 3

/-- java/lang/Cloneable -/
def k5 : Class := { plain "java/lang/Cloneable" (some 0) with
  accessFlags := 1537
  interfaces := #[]
  cf := some (fileOf pool5 2 #[] #[] 1537 4 #[] #[])
  fields := #[]
  methods := #[]
  instanceTypes := #[]
  staticTypes := #[]
  resolved := Array.replicate 8 none
  statics := none }

def pool6 : Array CpInfo := pool [(1, u "java/io/Serializable"), (0, .class_ 1), (0, u "java/lang/Object"), (0, .class_ 3)] 3

/-- java/io/Serializable -/
def k6 : Class := { plain "java/io/Serializable" (some 0) with
  accessFlags := 1537
  interfaces := #[]
  cf := some (fileOf pool6 2 #[] #[] 1537 4 #[] #[])
  fields := #[]
  methods := #[]
  instanceTypes := #[]
  staticTypes := #[]
  resolved := Array.replicate 8 none
  statics := none }

/-- the primitive byte -/
def k7 : Class := { plain "byte" none with kind := .primitive 'B', accessFlags := 0x411 }
/-- [B -/
def k8 : Class := { plain "[B" (some 0) with kind := .array 7 .byte, interfaces := #[5, 6], accessFlags := 1041 }

/-- the primitive int -/
def k9 : Class := { plain "int" none with kind := .primitive 'I', accessFlags := 0x411 }
/-- [I -/
def k10 : Class := { plain "[I" (some 0) with kind := .array 9 .int, interfaces := #[5, 6], accessFlags := 1041 }

def heap : Heap := #[]
def classes : Array Class := #[k0, k1, k2, k3, k4, k5, k6, k7, k8, k9, k10]
def interned : List (Array UInt16 × Addr) := []
def slotsUsed : Nat := 0
def theMethod : MethodId := ⟨1, 1⟩
def args0 : Array Value := #[.int 1, .int 2, .int 3, .int 4, .int 5, .int 6]
def aboutOver (below : List Frame) : State where
  vm := { classes := classes, interned := interned.toArray }
  heap := heap
  slotsUsed := slotsUsed
  threads := #[{ frames := .invoking theMethod args0 :: below }]
def below0 : List Frame := [.native { method := ⟨0, 0⟩, args := #[] }]
def about1 : State := aboutOver below0
def p0 : Program := .bare "" "" ""
def e0 : Env := launch0.env 0 0 0
theorem w_frames : about1.frames = Frame.invoking theMethod args0 :: below0 := rfl
set_option maxRecDepth 65536 in
theorem w_args : argsFit about1.vm theMethod args0 = true := by decide +kernel
set_option maxRecDepth 65536 in
theorem w_heap : heapFits about1 = true := by decide +kernel
set_option maxRecDepth 65536 in
theorem w_runnable : about1.curStatus? = some .runnable := by decide +kernel
set_option maxRecDepth 65536 in
theorem w_alone : about1.alone = true := by decide +kernel
set_option maxRecDepth 65536 in
theorem w_named : about1.methodNamed? x = some theMethod := by decide +kernel
set_option maxRecDepth 65536 in
theorem w_hears : about1.hears theMethod below0 = true := by decide +kernel
set_option maxRecDepth 65536 in
theorem w_ripe : about1.ripe theMethod args0 below0 = true := by decide +kernel
theorem w_running : about1.status = .running := rfl
set_option maxRecDepth 65536 in
theorem w_room : about1.hasRoom e0.platform room_1 = true :=
  launch0.hasRoom_least _ room_1 (by decide +kernel) (by decide +kernel) (by decide +kernel) (by decide +kernel) (by decide +kernel) (by decide +kernel)
theorem allAtoms_all (ts : List Jvm.Cond) (a : Array Jvm.Value) (st : Jvm.State) : (allAtoms ts).before a st = ts.all (fun c => c.before a st) := by
  induction ts with
  | nil => rfl
  | cons c t ih =>
    show (Jvm.Cond.and c (allAtoms t)).before a st = _
    rw [Jvm.Cond.before_and, ih, List.all_cons]
def words1 : List Jvm.Cond := Jvm.Cond.code x code maxLocals ret :: tables_1
/-- a 'code' word, met by the world's own term for the bytes: nothing is compared byte by byte -/
theorem code_word {y : MethodName} {bytes : ByteArray} {mx : Nat} {rt : Option FieldType} {a : Array Value} {s : State} {m : MethodId} {meth : Method} {c : Code} (h1 : s.methodNamed? y = some m) (h2 : s.vm.method? m = some meth) (h3 : meth.code = some c) (h4 : c.code = bytes)
    (h5 : (c.maxLocals == mx && c.exceptionTable.isEmpty && decide (c.maxStack ≤ mostOperands) && decide (meth.sig.returnType = rt) && !meth.locks && decide (parseMethodDescriptor y.desc = some meth.sig)) = true) : (Jvm.Cond.code y bytes mx rt).before a s = true := by
  simp only [Bool.and_eq_true, beq_iff_eq, Bool.not_eq_true', decide_eq_true_eq] at h5
  obtain ⟨⟨⟨⟨⟨g1, g2⟩, g3⟩, g4⟩, g5⟩, g6⟩ := h5
  simp [Cond.before, Cond.holds, Cond.value, h1, h2, h3, h4, g1, g2, g3, g4, g5, g6]
def isCode : Jvm.Cond → Bool
  | .code _ _ _ _ => true
  | _ => false
theorem all_split {L : List Jvm.Cond} {P : Jvm.Cond → Bool} (h1 : L.all (fun c => isCode c || P c) = true) (h2 : ∀ c ∈ L.filter isCode, P c = true) : L.all P = true := by
  refine List.all_eq_true.mpr fun c hc => ?_
  have h := List.all_eq_true.mp h1 c hc
  rcases Bool.eq_false_or_eq_true (isCode c) with hi | hi
  · exact h2 c (List.mem_filter.mpr ⟨hc, hi⟩)
  · simpa [hi] using h
set_option maxRecDepth 65536 in
theorem w_c0 : (Jvm.Cond.code x code maxLocals ret).before args0 about1 = true := code_word (m := ⟨1, 1⟩) (meth := k1m1) (c := k1c1) (by decide +kernel) rfl rfl rfl (by decide +kernel)
set_option maxRecDepth 65536 in
theorem w_c1 : (Jvm.Cond.code ({ cls := "org/ludarium/games/sabacc/Chips", name := "<init>", desc := "(II)V" } : Jvm.MethodName) prog_13_method_1_code (3 : Nat) (Option.none : Option Jvm.ClassFile.FieldType)).before args0 about1 = true := code_word (m := ⟨2, 0⟩) (meth := k2m0) (c := k2c0) (by decide +kernel) rfl rfl rfl (by decide +kernel)
set_option maxRecDepth 65536 in
theorem w_c2 : (Jvm.Cond.code ({ cls := "org/ludarium/games/sabacc/Chips", name := "<init>", desc := "([II)V" } : Jvm.MethodName) prog_13_method_2_code (3 : Nat) (Option.none : Option Jvm.ClassFile.FieldType)).before args0 about1 = true := code_word (m := ⟨2, 1⟩) (meth := k2m1) (c := k2c1) (by decide +kernel) rfl rfl rfl (by decide +kernel)
set_option maxRecDepth 65536 in
theorem w_c3 : (Jvm.Cond.code ({ cls := "java/lang/Object", name := "<init>", desc := "()V" } : Jvm.MethodName) object_method_1_code (1 : Nat) (Option.none : Option Jvm.ClassFile.FieldType)).before args0 about1 = true := code_word (m := ⟨0, 0⟩) (meth := k0m0) (c := k0c0) (by decide +kernel) rfl rfl rfl (by decide +kernel)
set_option maxRecDepth 65536 in
theorem w_c4 : (Jvm.Cond.code ({ cls := "java/util/Arrays", name := "fill", desc := "([II)V" } : Jvm.MethodName) jdk_65_method_103_code (4 : Nat) (Option.none : Option Jvm.ClassFile.FieldType)).before args0 about1 = true := code_word (m := ⟨3, 1⟩) (meth := k3m1) (c := k3c1) (by decide +kernel) rfl rfl rfl (by decide +kernel)
set_option maxRecDepth 65536 in
theorem w_c5 : (Jvm.Cond.code ({ cls := "org/ludarium/games/sabacc/Chips", name := "sabaccPot", desc := "()I" } : Jvm.MethodName) prog_13_method_6_code (1 : Nat) (Option.some Jvm.ClassFile.FieldType.int)).before args0 about1 = true := code_word (m := ⟨2, 3⟩) (meth := k2m3) (c := k2c3) (by decide +kernel) rfl rfl rfl (by decide +kernel)
set_option maxRecDepth 65536 in
theorem w_c6 : (Jvm.Cond.code ({ cls := "org/ludarium/games/sabacc/Chips", name := "total", desc := "()J" } : Jvm.MethodName) prog_13_method_7_code (7 : Nat) (Option.some Jvm.ClassFile.FieldType.long)).before args0 about1 = true := code_word (m := ⟨2, 4⟩) (meth := k2m4) (c := k2c4) (by decide +kernel) rfl rfl rfl (by decide +kernel)
set_option maxRecDepth 65536 in
theorem w_c7 : (Jvm.Cond.code ({ cls := "org/ludarium/games/sabacc/Chips", name := "win", desc := "(II)V" } : Jvm.MethodName) prog_13_method_10_code (3 : Nat) (Option.none : Option Jvm.ClassFile.FieldType)).before args0 about1 = true := code_word (m := ⟨2, 6⟩) (meth := k2m6) (c := k2c6) (by decide +kernel) rfl rfl rfl (by decide +kernel)
set_option maxRecDepth 65536 in
theorem w_c8 : (Jvm.Cond.code ({ cls := "org/ludarium/games/sabacc/Chips", name := "paySabaccPot", desc := "(II)V" } : Jvm.MethodName) prog_13_method_8_code (4 : Nat) (Option.none : Option Jvm.ClassFile.FieldType)).before args0 about1 = true := code_word (m := ⟨2, 5⟩) (meth := k2m5) (c := k2c5) (by decide +kernel) rfl rfl rfl (by decide +kernel)
set_option maxRecDepth 65536 in
theorem w_c9 : (Jvm.Cond.code ({ cls := "java/lang/Math", name := "min", desc := "(II)I" } : Jvm.MethodName) jdk_29_method_69_code (2 : Nat) (Option.some Jvm.ClassFile.FieldType.int)).before args0 about1 = true := code_word (m := ⟨4, 1⟩) (meth := k4m1) (c := k4c1) (by decide +kernel) rfl rfl rfl (by decide +kernel)
set_option maxRecDepth 65536 in
theorem w_c10 : (Jvm.Cond.code ({ cls := "org/ludarium/games/sabacc/Chips", name := "held", desc := "(I)I" } : Jvm.MethodName) prog_13_method_5_code (2 : Nat) (Option.some Jvm.ClassFile.FieldType.int)).before args0 about1 = true := code_word (m := ⟨2, 2⟩) (meth := k2m2) (c := k2c2) (by decide +kernel) rfl rfl rfl (by decide +kernel)
def codes1 : List Jvm.Cond := [Jvm.Cond.code x code maxLocals ret, Jvm.Cond.code ({ cls := "org/ludarium/games/sabacc/Chips", name := "<init>", desc := "(II)V" } : Jvm.MethodName) prog_13_method_1_code (3 : Nat) (Option.none : Option Jvm.ClassFile.FieldType), Jvm.Cond.code ({ cls := "org/ludarium/games/sabacc/Chips", name := "<init>", desc := "([II)V" } : Jvm.MethodName) prog_13_method_2_code (3 : Nat) (Option.none : Option Jvm.ClassFile.FieldType), Jvm.Cond.code ({ cls := "java/lang/Object", name := "<init>", desc := "()V" } : Jvm.MethodName) object_method_1_code (1 : Nat) (Option.none : Option Jvm.ClassFile.FieldType), Jvm.Cond.code ({ cls := "java/util/Arrays", name := "fill", desc := "([II)V" } : Jvm.MethodName) jdk_65_method_103_code (4 : Nat) (Option.none : Option Jvm.ClassFile.FieldType), Jvm.Cond.code ({ cls := "org/ludarium/games/sabacc/Chips", name := "sabaccPot", desc := "()I" } : Jvm.MethodName) prog_13_method_6_code (1 : Nat) (Option.some Jvm.ClassFile.FieldType.int), Jvm.Cond.code ({ cls := "org/ludarium/games/sabacc/Chips", name := "total", desc := "()J" } : Jvm.MethodName) prog_13_method_7_code (7 : Nat) (Option.some Jvm.ClassFile.FieldType.long), Jvm.Cond.code ({ cls := "org/ludarium/games/sabacc/Chips", name := "win", desc := "(II)V" } : Jvm.MethodName) prog_13_method_10_code (3 : Nat) (Option.none : Option Jvm.ClassFile.FieldType), Jvm.Cond.code ({ cls := "org/ludarium/games/sabacc/Chips", name := "paySabaccPot", desc := "(II)V" } : Jvm.MethodName) prog_13_method_8_code (4 : Nat) (Option.none : Option Jvm.ClassFile.FieldType), Jvm.Cond.code ({ cls := "java/lang/Math", name := "min", desc := "(II)I" } : Jvm.MethodName) jdk_29_method_69_code (2 : Nat) (Option.some Jvm.ClassFile.FieldType.int), Jvm.Cond.code ({ cls := "org/ludarium/games/sabacc/Chips", name := "held", desc := "(I)I" } : Jvm.MethodName) prog_13_method_5_code (2 : Nat) (Option.some Jvm.ClassFile.FieldType.int)]
set_option maxRecDepth 65536 in
theorem codes_eq : words1.filter isCode = codes1 := rfl
theorem w_codes : ∀ c ∈ words1.filter isCode, c.before args0 about1 = true := by
  rw [codes_eq]
  intro c hc
  simp only [codes1, List.mem_cons, List.not_mem_nil, or_false] at hc
  rcases hc with rfl | rfl | rfl | rfl | rfl | rfl | rfl | rfl | rfl | rfl | rfl
  · exact w_c0
  · exact w_c1
  · exact w_c2
  · exact w_c3
  · exact w_c4
  · exact w_c5
  · exact w_c6
  · exact w_c7
  · exact w_c8
  · exact w_c9
  · exact w_c10
set_option maxRecDepth 65536 in
theorem w_t1 : (words1.take 24).all (fun c => isCode c || c.before args0 about1) = true := by decide +kernel
set_option maxRecDepth 65536 in
theorem w_t2 : ((words1.drop 24).take 24).all (fun c => isCode c || c.before args0 about1) = true := by decide +kernel
set_option maxRecDepth 65536 in
theorem w_t3 : ((words1.drop 24).drop 24).all (fun c => isCode c || c.before args0 about1) = true := by decide +kernel
theorem w_tables : (allAtoms (Jvm.Cond.code x code maxLocals ret :: tables_1)).before args0 about1 = true := by
  rw [allAtoms_all]
  show words1.all (fun c => c.before args0 about1) = true
  refine all_split ?_ w_codes
  rw [← List.take_append_drop 24 words1, List.all_append, w_t1, ← List.take_append_drop 24 (words1.drop 24), List.all_append, w_t2, w_t3]
  rfl
set_option maxRecDepth 65536 in
theorem w_case : (Jvm.Cond.and given_1 narrow_1).before args0 about1 = true := by decide +kernel
theorem w_applies : (headSpec (Jvm.Cond.code x code maxLocals ret :: tables_1) room_1).applies x e0.platform about1 = true :=
  (Spec.applies_iff w_frames).mpr ⟨w_running, w_runnable, w_alone, w_named, w_hears, w_ripe, w_room, w_tables⟩
theorem atStart : AtStart classFile x code maxLocals ret World_1 tables_1 room_1 Calls_1 rest_1 Pre_1 launch0 p0 e0 about1 theMethod args0 below0 :=
  ⟨lists_1, trivial, launch0.admits_env _ _ _, launch0.least_env, fairChoices_fair.cas, fairChoices_fair.clock, w_frames, w_args, w_heap, w_applies, trivial, trivial, w_case⟩
end start1
theorem witness_1 : WitnessClaimed_1 := ⟨start1.p0, start1.e0, start1.about1, start1.theMethod, start1.args0, start1.below0, start1.atStart⟩
end Jvm.Pilot.@@N@@
