import JvmDerived
import JvmDerived.Pilot.@@N@@Statement
import JvmDerived.Pilot.@@N@@Code
set_option linter.unusedVariables false
set_option linter.unusedSimpArgs false
namespace Jvm.RoadKit
open Sem ClassFile Op Lib Jvm.Stand Jvm.Free Jvm.LawKit
section New
variable {p : Program} {l : Launch} {e : Env} {R : Room} {s : State} {m : MethodId} {args : Array Value} {below : List Frame} {meth : Method} {c : Code} {T : State} {locs : List Loc} {cells slots : Nat}
theorem retI (X : Stand p l e R s m args below meth c T locs cells slots) (hx : p.tables.exec = Jvm.exec) {pc : Nat} {Ls : Array Slot} {z : Int32} {rest : List Value} (hret : meth.sig.returnType = some .int) (hd : decode c.code pc = .ok (.ireturn, 1)) {fs : List Frame}
    (hl : ∀ (f : JFrame) (acts : List Action), f.method = m → f.locked = none → f.entered = [] → (doReturn e (T.setTop f) acts (some (.int z))).1 = T.setFrames fs) : Steps p.tables e below (T.setTop (mkF m pc Ls (.int z :: rest))) (T.setFrames fs) := by
  have hm' : T.vm.method? m = some meth := X.method'
  have hn : narrow .int (.int z) = .int z := rfl
  show Steps p.tables e below (T.setTop { method := m, pc := pc, locals := Ls, stack := _ :: rest, locked := none }) _
  jvm_step X.here [X.here.top, hx, hd, hm', hret, hn]
  first | (intro acts; rw [hl _ acts rfl rfl rfl]) | rw [hl _ _ rfl rfl rfl]
  exact Steps.refl _
end New
/-- from this state a run goes on to an end that meets K -/
def Good (p : Program) (e : Env) (below : List Frame) (K : Outcome → State → Prop) (S : State) : Prop := ∃ s₂ o, Steps p.tables e below S s₂ ∧ s₂.status = .running ∧ Ended s₂ below o ∧ K o s₂
theorem Good.back {p : Program} {e : Env} {below : List Frame} {K : Outcome → State → Prop} {S S' : State} (h : ∀ t, Steps p.tables e below S' t → Steps p.tables e below S t) (g : Good p e below K S') : Good p e below K S := by
  obtain ⟨t, o, h1, h2⟩ := g
  exact ⟨t, o, h t h1, h2⟩
theorem Good.done {p : Program} {e : Env} {below : List Frame} {K : Outcome → State → Prop} {S t : State} {o : Outcome} (h1 : Steps p.tables e below S t) (h2 : t.status = .running) (h3 : Ended t below o) (h4 : K o t) : Good p e below K S := ⟨t, o, h1, h2, h3, h4⟩
end Jvm.RoadKit
namespace Jvm.Pilot.@@N@@
open Jvm Jvm.ClassFile Sem Op Lib Jvm.Free Jvm.Stand Jvm.LawKit Jvm.RoadKit Bundle Jvm.Pilot.@@N@@.Jvm.D
theorem own_neI {args : Array Value} {first s : State} {o : Option Outcome} {idx : List Nat} {a : Term} {x k : Int32} (h : (Jvm.Cond.eq a (Term.int k)).value args first o s idx = some (!true)) (ha : a.eval args first o idx s = some (.int x)) : ¬ (x = k) := by
  intro q
  have hb : (Term.int k).eval args first o idx s = some (.int k) := rfl
  simp [Jvm.Cond.value, ha, hb, q] at h
theorem own_staKeep {Z : State} {h h' : Heap} {C n d : String} {v : Value} {ws : List Addr} (F : Sta Z h C n d v) (K : Keep h h' ws) (q : ∀ x ∈ ws, ∀ c : Cell, h[x]? = some c → c.vm.isStatics = false) : Sta Z h' C n d v := by
  obtain ⟨cf, i, k, f, st, cell, h1, h2, h3, h4, h5, h6, h7⟩ := F
  refine ⟨cf, i, k, f, st, cell, h1, h2, h3, h4, K.2.1 st cell h5 (fun hm => ?_), h6, h7⟩
  have := q st hm cell h5
  rw [this] at h6
  cases h6
theorem own_plainE {Z : State} {h : Heap} {x : Addr} {C : String} (E : Exa Z h x C) : ∀ c : Cell, h[x]? = some c → c.vm.isStatics = false := by
  obtain ⟨cell, k, h1, h2, h3, h4, h5⟩ := E
  intro c hc
  rw [h1] at hc
  cases hc
  exact h4
theorem own_plainV {Z : State} {h : Heap} {a : Addr} {k : ClassId} {ty : FieldType} {z : Int32} {vs : List Value} {d : Value} (F : Arv Z h a k ty z vs d) : ∀ c : Cell, h[a]? = some c → c.vm.isStatics = false := by
  obtain ⟨cell, A, -⟩ := F
  intro c hc
  rw [A.1] at hc
  cases hc
  exact A.plain

theorem own_wS {Z : State} {a0 : Array Value} (hw : ∀ d ∈ tables_1, d.before a0 Z = true) : ∀ a ∈ Bundle.stringAtoms, a.before a0 Z = true := by
  intro a ha
  simp only [Bundle.stringAtoms, List.mem_cons, List.not_mem_nil, or_false] at ha
  rcases ha with rfl | rfl | rfl | rfl | rfl | rfl | rfl
  · exact (hw _ (List.mem_of_getElem? (i := 2) rfl))
  · exact (hw _ (List.mem_of_getElem? (i := 10) rfl))
  · exact (hw _ (List.mem_of_getElem? (i := 14) rfl))
  · exact (hw _ (List.mem_of_getElem? (i := 23) rfl))
  · exact (hw _ (List.mem_of_getElem? (i := 25) rfl))
  · exact (hw _ (List.mem_of_getElem? (i := 39) rfl))
  · exact (hw _ (List.mem_of_getElem? (i := 40) rfl))
theorem own_char (x : Int32) : ¬ ((255 : Int32) < ((x &&& (255 : Int32)).toUInt32.toUInt16.toUInt32.toInt32)) := by
  rw [i2c_mask, Int32.lt_iff_toInt_lt]
  have h := (c_and x 255 (by decide)).2
  exact Int.not_lt.mpr h
theorem own_pos (x : Int32) : (0 : Int32) < x ↔ ¬ x < 1 := by
  rw [Int32.lt_iff_toInt_lt, Int32.lt_iff_toInt_lt]
  have h0 : (0 : Int32).toInt = 0 := rfl
  have h1 : (1 : Int32).toInt = 1 := rfl
  rw [h0, h1]
  omega
theorem own_pn0 : plainName "java/lang/StringLatin1" = true := by first | (simp [plainName, overriddenIn]; done) | decide +kernel
theorem own_d2_0 : decode jdk_43_method_3_code 0 = .ok (.iload_n 0, 1) := by decide +kernel
theorem own_d2_1 : decode jdk_43_method_3_code 1 = .ok (.sipush 255, 3) := by decide +kernel
theorem own_d2_4 : decode jdk_43_method_3_code 4 = .ok (.if_icmp .gt 7, 3) := by decide +kernel
theorem own_d2_7 : decode jdk_43_method_3_code 7 = .ok (.iconst 1, 1) := by decide +kernel
theorem own_d2_8 : decode jdk_43_method_3_code 8 = .ok (.goto 4, 3) := by decide +kernel
theorem own_d2_12 : decode jdk_43_method_3_code 12 = .ok (.ireturn, 1) := by decide +kernel
theorem own_ef_2 (m : MethodId) (x0 : Int32) : entryFrame m #[(.int x0)] 1 = mkF m 0 #[.val (.int x0)] [] := by first | (simp [entryFrame, mkF, argsToLocals, Value.category]; done) | rfl
def Q2 (Z : State) (p0 : Int32) (h0 : Heap) (n0 : Nat) (v : Option Value) (h : Heap) (L : List Loc) : Prop := v = some (.int 1) ∧ Fr n0 L ∧ h = h0
set_option maxRecDepth 65536 in
set_option maxHeartbeats 40000000 in
theorem rm2 (l : Launch) (Z : State) (a0 : Array Value) (hw : ∀ d ∈ tables_1, d.before a0 Z = true) (ws : List Jvm.Cond) (p0 : Int32) (h0 : Heap) (n0 : Nat) (Z0 : n0 ≤ h0.size) (hle : ¬ ((255 : Int32) < p0)) :
    MetFree l (⟨"java/lang/StringLatin1", "canEncode", "(C)Z"⟩ : MethodName) (head1 (Jvm.Cond.code (⟨"java/lang/StringLatin1", "canEncode", "(C)Z"⟩ : MethodName) jdk_43_method_3_code 1 (some .boolean) :: ws) ({ frames := 0, cells := 0, slots := 0, locals := 0 } : Room)) (fun a U => a = #[(.int p0)] ∧ Z.Warmed39 U.vm ∧ U.heap = h0) (fun _ _ _ _ _ => True) (fun _ U o U' => ∃ v L, o = .returned v ∧ Q2 Z p0 h0 n0 v U'.heap L ∧ FrameEnd U o U' L ({ frames := 0, cells := 0, slots := 0, locals := 0 } : Room).cells ({ frames := 0, cells := 0, slots := 0, locals := 0 } : Room).slots) := by
  refine MetFree.of_bodySF (plainFor_of_name own_pn0) hisR ?_
  intro p e s m args below meth c s₁ Bd hml0 hP hK
  obtain ⟨rfl, hZ, hh⟩ := hP
  have hx := Bd.exec
  have hby := Bd.bytes
  have hml : c.maxLocals = 1 := hml0
  have hown : s.vm.findClass "java/lang/StringLatin1" = some m.cls := findClass_of_methodNamed Bd.named
  have hnm := (name_of_methodNamed Bd.named Bd.method).1
  have X0 : Stand p l e ({ frames := 0, cells := 0, slots := 0, locals := 0 } : Room) s m #[(.int p0)] below meth c s₁ [] 0 0 := Stand.of_body Bd
  have e0 : s₁.heap = h0 := by rw [← hh, Bd.state]; rfl
  have N0 := Fr.nil n0
  show Good p e below (fun o U' => ∃ v L, o = .returned v ∧ Q2 Z p0 h0 n0 v U'.heap L ∧ FrameEnd s o U' L ({ frames := 0, cells := 0, slots := 0, locals := 0 } : Room).cells ({ frames := 0, cells := 0, slots := 0, locals := 0 } : Room).slots) _
  refine Good.back (S' := s₁.setTop (mkF m 0 #[.val (.int p0)] [])) (fun t k => castTop (own_ef_2 m p0) k) ?_
  show Good p e below _ (s₁.setTop (mkF m 0 #[.val (.int p0)] []))
  refine Good.back (fun _ k => XS.iloadN X0.here hx rfl (hb hby own_d2_0) rfl k) ?_
  show Good p e below _ (s₁.setTop (mkF m 1 #[.val (.int p0)] [(.int p0)]))
  refine Good.back (fun _ k => XS.sipush X0.here hx rfl (hb hby own_d2_1) k) ?_
  show Good p e below _ (s₁.setTop (mkF m 4 #[.val (.int p0)] [(.int (255 : Int32)), (.int p0)]))
  refine Good.back (fun _ k => XS.icmpNo X0.here hx rfl (hb hby own_d2_4) rfl (flt hle).2.2.1 k) ?_
  show Good p e below _ (s₁.setTop (mkF m 7 #[.val (.int p0)] []))
  refine Good.back (fun _ k => XS.iconst X0.here hx rfl (hb hby own_d2_7) k) ?_
  show Good p e below _ (s₁.setTop (mkF m 8 #[.val (.int p0)] [(.int (1 : Int32))]))
  refine Good.back (fun _ k => XS.goto X0.here hx rfl (pc0 := 8) (pc' := 12) rfl (hb hby own_d2_8) (by decide) (by decide) k) ?_
  show Good p e below _ (s₁.setTop (mkF m 12 #[.val (.int p0)] [(.int (1 : Int32))]))
  obtain ⟨fs1, hr1, hrun1, hended1, hW1, hsame1⟩ := X0.leave (v := some (.int (1 : Int32))) (fun h => by rw [Bd.returns] at h; cases h)
  refine Good.done (retN X0 hx (t := .boolean) Bd.returns (by simp) (hb hby own_d2_12) hr1) hrun1 hended1 ⟨_, _, rfl, ?_, ⟨_, rfl⟩, hW1, hsame1.mono (by decide) (by decide)⟩
  show Q2 Z p0 h0 n0 _ s₁.heap _
  rw [e0]
  exact ⟨rfl, N0, rfl⟩
theorem own_d3_0 : decode jdk_43_method_46_code 0 = .ok (.iconst 1, 1) := by decide +kernel
theorem own_d3_1 : decode jdk_43_method_46_code 1 = .ok (.newarray .byte, 2) := by decide +kernel
theorem own_d3_3 : decode jdk_43_method_46_code 3 = .ok (.dup, 1) := by decide +kernel
theorem own_d3_4 : decode jdk_43_method_46_code 4 = .ok (.iconst 0, 1) := by decide +kernel
theorem own_d3_5 : decode jdk_43_method_46_code 5 = .ok (.iload_n 0, 1) := by decide +kernel
theorem own_d3_6 : decode jdk_43_method_46_code 6 = .ok (.i2b, 1) := by decide +kernel
theorem own_d3_7 : decode jdk_43_method_46_code 7 = .ok (.bastore, 1) := by decide +kernel
theorem own_d3_8 : decode jdk_43_method_46_code 8 = .ok (.areturn, 1) := by decide +kernel
theorem own_ef_3 (m : MethodId) (x0 : Int32) : entryFrame m #[(.int x0)] 1 = mkF m 0 #[.val (.int x0)] [] := by first | (simp [entryFrame, mkF, argsToLocals, Value.category]; done) | rfl
def Q3 (Z : State) (p0 : Int32) (h0 : Heap) (n0 : Nat) (v : Option Value) (h : Heap) (L : List Loc) : Prop := ∃ (ar : Addr) (kk : ClassId), v = some (.ref ar) ∧ Fr n0 L ∧ Keep h0 h [] ∧ h0.size ≤ ar ∧ Arv Z h ar kk .byte (1 : Int32) [(.int (p0.toInt8.toInt32).toInt8.toInt32)] (.int (0 : Int32))
set_option maxRecDepth 65536 in
set_option maxHeartbeats 40000000 in
theorem rm3 (l : Launch) (Z : State) (a0 : Array Value) (hw : ∀ d ∈ tables_1, d.before a0 Z = true) (ws : List Jvm.Cond) (p0 : Int32) (h0 : Heap) (n0 : Nat) (Z0 : n0 ≤ h0.size)  :
    MetFree l (⟨"java/lang/StringLatin1", "toBytes", "(C)[B"⟩ : MethodName) (head1 (Jvm.Cond.code (⟨"java/lang/StringLatin1", "toBytes", "(C)[B"⟩ : MethodName) jdk_43_method_46_code 1 (some (.array .byte)) :: ws) ({ frames := 0, cells := 1, slots := 1, locals := 0 } : Room)) (fun a U => a = #[(.int p0)] ∧ Z.Warmed39 U.vm ∧ U.heap = h0) (fun _ _ _ _ _ => True) (fun _ U o U' => ∃ v L, o = .returned v ∧ Q3 Z p0 h0 n0 v U'.heap L ∧ FrameEnd U o U' L ({ frames := 0, cells := 1, slots := 1, locals := 0 } : Room).cells ({ frames := 0, cells := 1, slots := 1, locals := 0 } : Room).slots) := by
  refine MetFree.of_bodySF (plainFor_of_name own_pn0) hisR ?_
  intro p e s m args below meth c s₁ Bd hml0 hP hK
  obtain ⟨rfl, hZ, hh⟩ := hP
  have hx := Bd.exec
  have hby := Bd.bytes
  have hml : c.maxLocals = 1 := hml0
  have hown : s.vm.findClass "java/lang/StringLatin1" = some m.cls := findClass_of_methodNamed Bd.named
  have hnm := (name_of_methodNamed Bd.named Bd.method).1
  have X0 : Stand p l e ({ frames := 0, cells := 1, slots := 1, locals := 0 } : Room) s m #[(.int p0)] below meth c s₁ [] 0 0 := Stand.of_body Bd
  have e0 : s₁.heap = h0 := by rw [← hh, Bd.state]; rfl
  have N0 := Fr.nil n0
  have KR : Keep h0 h0 [] := Keep.refl h0 _
  show Good p e below (fun o U' => ∃ v L, o = .returned v ∧ Q3 Z p0 h0 n0 v U'.heap L ∧ FrameEnd s o U' L ({ frames := 0, cells := 1, slots := 1, locals := 0 } : Room).cells ({ frames := 0, cells := 1, slots := 1, locals := 0 } : Room).slots) _
  refine Good.back (S' := s₁.setTop (mkF m 0 #[.val (.int p0)] [])) (fun t k => castTop (own_ef_3 m p0) k) ?_
  show Good p e below _ (s₁.setTop (mkF m 0 #[.val (.int p0)] []))
  refine Good.back (fun _ k => XS.iconst X0.here hx rfl (hb hby own_d3_0) k) ?_
  show Good p e below _ (s₁.setTop (mkF m 1 #[.val (.int p0)] [(.int (1 : Int32))]))
  obtain ⟨T1, h1, k1, X1, e1, E1, A1, st1⟩ := newP X0 hx hZ (hw _ (List.mem_of_getElem? (i := 14) rfl)) e0 (g := (mkF m 1 #[.val (.int p0)] [(.int (1 : Int32))])) rfl (hb hby own_d3_1) rfl (by decide) (cap := 1) (by decide) (by decide) (by decide) (by decide)
  obtain ⟨b1, g1⟩ : ∃ z, z = h0.size := ⟨_, rfl⟩
  rw [← g1] at A1 st1
  refine Good.back st1 ?_
  have g_b1 : n0 ≤ b1 := Nat.le_trans Z0 (Nat.le_of_eq g1.symm)
  have sz_b1 : h0.size ≤ b1 := Nat.le_trans KR.1 (Nat.le_of_eq g1.symm)
  have Z2 : n0 ≤ h1.size := Nat.le_trans Z0 E1.1
  have K3 : Keep h0 h1 [] := KR.ext E1
  have f_4 : Arv Z h1 b1 k1 .byte (1 : Int32) [(.int (0 : Int32))] (.int (0 : Int32)) := (Arv.new A1 (by decide)).pad (pad_rep [] (.int (0 : Int32)) 1)
  show Good p e below _ (T1.setTop (mkF m 3 #[.val (.int p0)] [(.ref b1)]))
  refine Good.back (fun _ k => XS.dup X1.here hx rfl (hb hby own_d3_3) rfl rfl k) ?_
  show Good p e below _ (T1.setTop (mkF m 4 #[.val (.int p0)] [(.ref b1), (.ref b1)]))
  refine Good.back (fun _ k => XS.iconst X1.here hx rfl (hb hby own_d3_4) k) ?_
  show Good p e below _ (T1.setTop (mkF m 5 #[.val (.int p0)] [(.int (0 : Int32)), (.ref b1), (.ref b1)]))
  refine Good.back (fun _ k => XS.iloadN X1.here hx rfl (hb hby own_d3_5) rfl k) ?_
  show Good p e below _ (T1.setTop (mkF m 6 #[.val (.int p0)] [(.int p0), (.int (0 : Int32)), (.ref b1), (.ref b1)]))
  refine Good.back (fun _ k => XS.i2b X1.here hx rfl (hb hby own_d3_6) rfl k) ?_
  show Good p e below _ (T1.setTop (mkF m 7 #[.val (.int p0)] [(.int (p0.toInt8.toInt32)), (.int (0 : Int32)), (.ref b1), (.ref b1)]))
  have fc5 := f_4
  obtain ⟨cl5, Ar5, qk5, S5, N5', H5, G5⟩ := fc5
  have hin5 : ¬ ((0 : Int32) < 0 ∨ cl5.slots.size ≤ ((0 : Int32)).toNatClampNeg) := inb_of S5 ⟨by decide, by decide⟩
  obtain ⟨T5, h5, X5, e5, W5, st5⟩ := stB X1 hx hZ e1 Ar5 (j := (0 : Int32)) hin5 (g := (mkF m 7 #[.val (.int p0)] [(.int (p0.toInt8.toInt32)), (.int (0 : Int32)), (.ref b1), (.ref b1)])) rfl rfl (hb hby own_d3_7)
  refine Good.back st5 ?_
  have f_6 : Arv Z h5 b1 k1 .byte (1 : Int32) [(.int (p0.toInt8.toInt32).toInt8.toInt32)] (.int (0 : Int32)) := Arv.set Ar5 qk5 S5 N5' H5 G5 (fits_nar_byte _) W5 0 rfl (Nat.le_of_ble_eq_true rfl)
  have N5 := Fr.snoc X5 N0 g_b1
  have Z7 : n0 ≤ h5.size := Nat.le_trans Z2 (Keep.of_wr W5).1
  have K8 : Keep h0 h5 [] := K3.wr W5 (Or.inr sz_b1)
  show Good p e below _ (T5.setTop (mkF m 8 #[.val (.int p0)] [(.ref b1)]))
  obtain ⟨fs9, hr9, hrun9, hended9, hW9, hsame9⟩ := X5.leave (v := some (.ref b1)) (fun h => by rw [Bd.returns] at h; cases h)
  refine Good.done (retOut X5 hx Bd.returns rfl (Or.inr (Or.inr (Or.inr (Or.inr ⟨rfl, rfl, rfl⟩)))) (hb hby own_d3_8) hr9) hrun9 hended9 ⟨_, _, rfl, ?_, ⟨_, rfl⟩, hW9, hsame9.mono (by decide) (by decide)⟩
  show Q3 Z p0 h0 n0 _ T5.heap _
  rw [e5]
  exact ⟨_, _, rfl, N5, K8, sz_b1, f_6⟩
theorem own_pn1 : plainName "java/lang/String" = true := by first | (simp [plainName, overriddenIn]; done) | decide +kernel
theorem own_d4_0 : decode jdk_42_method_151_code 0 = .ok (.aload_n 0, 1) := by decide +kernel
theorem own_d4_1 : decode jdk_42_method_151_code 1 = .ok (.invokespecial 1, 3) := by decide +kernel
theorem own_d4_4 : decode jdk_42_method_151_code 4 = .ok (.aload_n 0, 1) := by decide +kernel
theorem own_d4_5 : decode jdk_42_method_151_code 5 = .ok (.aload_n 1, 1) := by decide +kernel
theorem own_d4_6 : decode jdk_42_method_151_code 6 = .ok (.putfield 9, 3) := by decide +kernel
theorem own_d4_9 : decode jdk_42_method_151_code 9 = .ok (.aload_n 0, 1) := by decide +kernel
theorem own_d4_10 : decode jdk_42_method_151_code 10 = .ok (.iload_n 2, 1) := by decide +kernel
theorem own_d4_11 : decode jdk_42_method_151_code 11 = .ok (.putfield 15, 3) := by decide +kernel
theorem own_d4_14 : decode jdk_42_method_151_code 14 = .ok (.return_, 1) := by decide +kernel
theorem own_ef_4 (m : MethodId) (x0 : Addr) (x1 : Addr) (x2 : Int32) : entryFrame m #[(.ref x0), (.ref x1), (.int x2)] 3 = mkF m 0 #[.val (.ref x0), .val (.ref x1), .val (.int x2)] [] := by first | (simp [entryFrame, mkF, argsToLocals, Value.category]; done) | rfl
def Q4 (Z : State) (r0 : Addr) (r1 : Addr) (h0 : Heap) (n0 : Nat) (v : Option Value) (h : Heap) (L : List Loc) : Prop := v = none ∧ Fr n0 L ∧ Keep h0 h [r0] ∧ Fld Z h r0 "java/lang/String" "value" "[B" (.ref r1) ∧ Fld Z h r0 "java/lang/String" "coder" "B" (.int (0 : Int32))
set_option maxRecDepth 65536 in
set_option maxHeartbeats 40000000 in
theorem rm4 (l : Launch) (Z : State) (a0 : Array Value) (hw : ∀ d ∈ tables_1, d.before a0 Z = true) (ws : List Jvm.Cond) (r0 : Addr) (r1 : Addr) (h0 : Heap) (n0 : Nat) (Z0 : n0 ≤ h0.size) (E0 : Exa Z h0 r0 "java/lang/String") (g0 : n0 ≤ r0) (F_value : Fld Z h0 r0 "java/lang/String" "value" "[B" .null) (F_coder : Fld Z h0 r0 "java/lang/String" "coder" "B" (.int (0 : Int32))) :
    MetFree l (⟨"java/lang/String", "<init>", "([BB)V"⟩ : MethodName) (head1 (Jvm.Cond.code (⟨"java/lang/String", "<init>", "([BB)V"⟩ : MethodName) jdk_42_method_151_code 3 none :: ws) ({ frames := 1, cells := 0, slots := 0, locals := 12 } : Room)) (fun a U => a = #[(.ref r0), (.ref r1), (.int (0 : Int32))] ∧ Z.Warmed39 U.vm ∧ U.heap = h0) (fun _ _ _ _ _ => True) (fun _ U o U' => ∃ v L, o = .returned v ∧ Q4 Z r0 r1 h0 n0 v U'.heap L ∧ FrameEnd U o U' L ({ frames := 1, cells := 0, slots := 0, locals := 12 } : Room).cells ({ frames := 1, cells := 0, slots := 0, locals := 12 } : Room).slots) := by
  refine MetFree.of_bodySF (plainFor_of_name own_pn1) hisR ?_
  intro p e s m args below meth c s₁ Bd hml0 hP hK
  obtain ⟨rfl, hZ, hh⟩ := hP
  have hx := Bd.exec
  have hby := Bd.bytes
  have hml : c.maxLocals = 3 := hml0
  have hown : s.vm.findClass "java/lang/String" = some m.cls := findClass_of_methodNamed Bd.named
  have hnm := (name_of_methodNamed Bd.named Bd.method).1
  have X0 : Stand p l e ({ frames := 1, cells := 0, slots := 0, locals := 12 } : Room) s m #[(.ref r0), (.ref r1), (.int (0 : Int32))] below meth c s₁ [] 0 0 := Stand.of_body Bd
  have e0 : s₁.heap = h0 := by rw [← hh, Bd.state]; rfl
  have N0 := Fr.nil n0
  have KR : Keep h0 h0 [r0] := Keep.refl h0 _
  show Good p e below (fun o U' => ∃ v L, o = .returned v ∧ Q4 Z r0 r1 h0 n0 v U'.heap L ∧ FrameEnd s o U' L ({ frames := 1, cells := 0, slots := 0, locals := 12 } : Room).cells ({ frames := 1, cells := 0, slots := 0, locals := 12 } : Room).slots) _
  refine Good.back (S' := s₁.setTop (mkF m 0 #[.val (.ref r0), .val (.ref r1), .val (.int (0 : Int32))] [])) (fun t k => castTop (own_ef_4 m r0 r1 (0 : Int32)) k) ?_
  show Good p e below _ (s₁.setTop (mkF m 0 #[.val (.ref r0), .val (.ref r1), .val (.int (0 : Int32))] []))
  refine Good.back (fun _ k => XS.aloadN X0.here hx rfl (hb hby own_d4_0) rfl rfl k) ?_
  show Good p e below _ (s₁.setTop (mkF m 1 #[.val (.ref r0), .val (.ref r1), .val (.int (0 : Int32))] [(.ref r0)]))
  obtain ⟨T1, X1, e1, st1⟩ := initO X0 hx hZ hown (hw _ (List.mem_of_getElem? (i := 19) rfl)) (hw _ (List.mem_of_getElem? (i := 20) rfl)) (hw _ (List.mem_of_getElem? (i := 21) rfl)) e0 (g := (mkF m 1 #[.val (.ref r0), .val (.ref r1), .val (.int (0 : Int32))] [(.ref r0)])) rfl (by rw [hml]; rfl) rfl (hb hby own_d4_1) (by decide) (W := 0) (by show 2 * 0 + _ ≤ _; exact Nat.le_of_eq rfl) (by decide)
  refine Good.back st1 ?_
  show Good p e below _ (T1.setTop (mkF m 4 #[.val (.ref r0), .val (.ref r1), .val (.int (0 : Int32))] []))
  refine Good.back (fun _ k => XS.aloadN X1.here hx rfl (hb hby own_d4_4) rfl rfl k) ?_
  show Good p e below _ (T1.setTop (mkF m 5 #[.val (.ref r0), .val (.ref r1), .val (.int (0 : Int32))] [(.ref r0)]))
  refine Good.back (fun _ k => XS.aloadN X1.here hx rfl (hb hby own_d4_5) rfl rfl k) ?_
  show Good p e below _ (T1.setTop (mkF m 6 #[.val (.ref r0), .val (.ref r1), .val (.int (0 : Int32))] [(.ref r1), (.ref r0)]))
  obtain ⟨T2, h2, X2, e2, W2, st2⟩ := putF X1 hx hZ hown (host := "") (Or.inl (hw _ (List.mem_of_getElem? (i := 22) rfl))) Via.refl e1 F_value E0 (Or.inr ⟨(hw _ (List.mem_of_getElem? (i := 23) rfl)), rfl, hnm⟩) (hw _ (List.mem_of_getElem? (i := 10) rfl)) (ty := (.array .byte)) (by decide) rfl rfl (g := (mkF m 6 #[.val (.ref r0), .val (.ref r1), .val (.int (0 : Int32))] [(.ref r1), (.ref r0)])) rfl rfl (hb hby own_d4_6)
  refine Good.back st2 ?_
  have f_3 : Fld Z h2 r0 "java/lang/String" "value" "[B" (.ref r1) := Fld.same W2 F_value
  have N2 := Fr.snoc X2 N0 g0
  have Z4 : n0 ≤ h2.size := Nat.le_trans Z0 (Keep.of_wr W2).1
  have K5 : Keep h0 h2 [r0] := KR.wr W2 (Or.inl (List.mem_of_getElem? (i := 0) rfl))
  show Good p e below _ (T2.setTop (mkF m 9 #[.val (.ref r0), .val (.ref r1), .val (.int (0 : Int32))] []))
  refine Good.back (fun _ k => XS.aloadN X2.here hx rfl (hb hby own_d4_9) rfl rfl k) ?_
  show Good p e below _ (T2.setTop (mkF m 10 #[.val (.ref r0), .val (.ref r1), .val (.int (0 : Int32))] [(.ref r0)]))
  refine Good.back (fun _ k => XS.iloadN X2.here hx rfl (hb hby own_d4_10) rfl k) ?_
  show Good p e below _ (T2.setTop (mkF m 11 #[.val (.ref r0), .val (.ref r1), .val (.int (0 : Int32))] [(.int (0 : Int32)), (.ref r0)]))
  have f_6 : Fld Z h2 r0 "java/lang/String" "coder" "B" (.int (0 : Int32)) := Fld.other W2 F_coder (Or.inr (slot_ne (Or.inr (hw _ (List.mem_of_getElem? (i := 25) rfl))) (Or.inr (hw _ (List.mem_of_getElem? (i := 23) rfl))) (by decide) (t := .byte) (t' := (.array .byte)) (by decide) (by decide)))
  have f_7 : Exa Z h2 r0 "java/lang/String" := Exa.wr W2 E0
  obtain ⟨T8, h8, X8, e8, W8, st8⟩ := putFN X2 hx hZ hown (hw _ (List.mem_of_getElem? (i := 24) rfl)) Via.refl e2 f_6 f_7 (Or.inr ⟨(hw _ (List.mem_of_getElem? (i := 25) rfl)), rfl, hnm⟩) (hw _ (List.mem_of_getElem? (i := 10) rfl)) (ty := .byte) (v' := (.int (0 : Int32))) (by decide) rfl (by decide) (g := (mkF m 11 #[.val (.ref r0), .val (.ref r1), .val (.int (0 : Int32))] [(.int (0 : Int32)), (.ref r0)])) rfl rfl (hb hby own_d4_11)
  refine Good.back st8 ?_
  have f_9 : Fld Z h8 r0 "java/lang/String" "coder" "B" (.int (0 : Int32)) := Fld.same W8 f_6
  have N8 := Fr.snoc X8 N2 g0
  have Z10 : n0 ≤ h8.size := Nat.le_trans Z4 (Keep.of_wr W8).1
  have K11 : Keep h0 h8 [r0] := K5.wr W8 (Or.inl (List.mem_of_getElem? (i := 0) rfl))
  show Good p e below _ (T8.setTop (mkF m 14 #[.val (.ref r0), .val (.ref r1), .val (.int (0 : Int32))] []))
  obtain ⟨fs12, hr12, hrun12, hended12, hW12, hsame12⟩ := X8.leave (v := none) (fun _ => rfl)
  refine Good.done (X8.returnOut hx Bd.returns (hb hby own_d4_14) hr12) hrun12 hended12 ⟨_, _, rfl, ?_, ⟨_, rfl⟩, hW12, hsame12.mono (by decide) (by decide)⟩
  show Q4 Z r0 r1 h0 n0 _ T8.heap _
  rw [e8]
  have f_13 : Fld Z h8 r0 "java/lang/String" "value" "[B" (.ref r1) := Fld.other W8 f_3 (Or.inr (slot_ne (Or.inr (hw _ (List.mem_of_getElem? (i := 23) rfl))) (Or.inr (hw _ (List.mem_of_getElem? (i := 25) rfl))) (by decide) (t := (.array .byte)) (t' := .byte) (by decide) (by decide)))
  exact ⟨rfl, N8, K11, f_13, f_9⟩
theorem own_pd23 : parseMethodDescriptor "(C)Z" = some ⟨[.char], some .boolean⟩ := by decide +kernel
theorem own_pd24 : parseMethodDescriptor "(C)[B" = some ⟨[.char], some (.array .byte)⟩ := by decide +kernel
theorem own_pd25 : parseMethodDescriptor "([BB)V" = some ⟨[(.array .byte), .byte], none⟩ := by decide +kernel
theorem own_d1_0 : decode jdk_42_method_139_code 0 = .ok (.getstatic 38, 3) := by decide +kernel
theorem own_d1_3 : decode jdk_42_method_139_code 3 = .ok (.ifCond .eq 23, 3) := by decide +kernel
theorem own_d1_6 : decode jdk_42_method_139_code 6 = .ok (.iload_n 0, 1) := by decide +kernel
theorem own_d1_7 : decode jdk_42_method_139_code 7 = .ok (.invokestatic 1015, 3) := by decide +kernel
theorem own_d1_10 : decode jdk_42_method_139_code 10 = .ok (.ifCond .eq 16, 3) := by decide +kernel
theorem own_d1_13 : decode jdk_42_method_139_code 13 = .ok (.new 10, 3) := by decide +kernel
theorem own_d1_16 : decode jdk_42_method_139_code 16 = .ok (.dup, 1) := by decide +kernel
theorem own_d1_17 : decode jdk_42_method_139_code 17 = .ok (.iload_n 0, 1) := by decide +kernel
theorem own_d1_18 : decode jdk_42_method_139_code 18 = .ok (.invokestatic 1018, 3) := by decide +kernel
theorem own_d1_21 : decode jdk_42_method_139_code 21 = .ok (.iconst 0, 1) := by decide +kernel
theorem own_d1_22 : decode jdk_42_method_139_code 22 = .ok (.invokespecial 209, 3) := by decide +kernel
theorem own_d1_25 : decode jdk_42_method_139_code 25 = .ok (.areturn, 1) := by decide +kernel
theorem own_ef_1 (m : MethodId) (x0 : Int32) : entryFrame m #[(.int x0)] 1 = mkF m 0 #[.val (.int x0)] [] := by first | (simp [entryFrame, mkF, argsToLocals, Value.category]; done) | rfl
def Q1 (Z : State) (p0 : Int32) (cs : Int32) (h0 : Heap) (n0 : Nat) (v : Option Value) (h : Heap) (L : List Loc) : Prop := ∃ (sr ar : Addr) (kk : ClassId), v = some (.ref sr) ∧ Fr n0 L ∧ Keep h0 h [] ∧ h0.size ≤ sr ∧ h0.size ≤ ar ∧ Exa Z h sr "java/lang/String" ∧ Fld Z h sr "java/lang/String" "value" "[B" (.ref ar) ∧ Fld Z h sr "java/lang/String" "coder" "B" (.int (0 : Int32)) ∧ Arv Z h ar kk .byte (1 : Int32) [(.int (p0.toInt8.toInt32).toInt8.toInt32)] (.int (0 : Int32)) ∧ sr ≠ ar
set_option maxRecDepth 65536 in
set_option maxHeartbeats 40000000 in
theorem rm1 (l : Launch) (Z : State) (a0 : Array Value) (hw : ∀ d ∈ tables_1, d.before a0 Z = true) (ws : List Jvm.Cond) (p0 : Int32) (cs : Int32) (h0 : Heap) (n0 : Nat) (Z0 : n0 ≤ h0.size) (S_cs : Sta Z h0 "java/lang/String" "COMPACT_STRINGS" "Z" (.int cs)) (hcs : ¬ (cs = (0 : Int32))) (hle : ¬ ((255 : Int32) < p0)) :
    MetFree l (⟨"java/lang/String", "valueOf", "(C)Ljava/lang/String;"⟩ : MethodName) (head1 (Jvm.Cond.code (⟨"java/lang/String", "valueOf", "(C)Ljava/lang/String;"⟩ : MethodName) jdk_42_method_139_code 1 (some (.object "java/lang/String")) :: ws) ({ frames := 2, cells := 2, slots := 5, locals := 27 } : Room)) (fun a U => a = #[(.int p0)] ∧ Z.Warmed39 U.vm ∧ U.heap = h0) (fun _ _ _ _ _ => True) (fun _ U o U' => ∃ v L, o = .returned v ∧ Q1 Z p0 cs h0 n0 v U'.heap L ∧ FrameEnd U o U' L ({ frames := 2, cells := 2, slots := 5, locals := 27 } : Room).cells ({ frames := 2, cells := 2, slots := 5, locals := 27 } : Room).slots) := by
  refine MetFree.of_bodySF (plainFor_of_name own_pn1) hisR ?_
  intro p e s m args below meth c s₁ Bd hml0 hP hK
  obtain ⟨rfl, hZ, hh⟩ := hP
  have hx := Bd.exec
  have hby := Bd.bytes
  have hml : c.maxLocals = 1 := hml0
  have hown : s.vm.findClass "java/lang/String" = some m.cls := findClass_of_methodNamed Bd.named
  have hnm := (name_of_methodNamed Bd.named Bd.method).1
  have X0 : Stand p l e ({ frames := 2, cells := 2, slots := 5, locals := 27 } : Room) s m #[(.int p0)] below meth c s₁ [] 0 0 := Stand.of_body Bd
  have e0 : s₁.heap = h0 := by rw [← hh, Bd.state]; rfl
  have N0 := Fr.nil n0
  have KR : Keep h0 h0 [] := Keep.refl h0 _
  show Good p e below (fun o U' => ∃ v L, o = .returned v ∧ Q1 Z p0 cs h0 n0 v U'.heap L ∧ FrameEnd s o U' L ({ frames := 2, cells := 2, slots := 5, locals := 27 } : Room).cells ({ frames := 2, cells := 2, slots := 5, locals := 27 } : Room).slots) _
  refine Good.back (S' := s₁.setTop (mkF m 0 #[.val (.int p0)] [])) (fun t k => castTop (own_ef_1 m p0) k) ?_
  show Good p e below _ (s₁.setTop (mkF m 0 #[.val (.int p0)] []))
  obtain ⟨T1, X1, e1, st1⟩ := getS2 X0 hx hZ hown (host := "") (Or.inl (hw _ (List.mem_of_getElem? (i := 4) rfl))) Via.refl e0 S_cs (g := (mkF m 0 #[.val (.int p0)] [])) rfl (hb hby own_d1_0)
  refine Good.back st1 ?_
  show Good p e below _ (T1.setTop (mkF m 3 #[.val (.int p0)] [(.int cs)]))
  refine Good.back (fun _ k => XS.ifNo X1.here hx rfl (hb hby own_d1_3) rfl ((if0 _ _).trans (feq hcs).1) k) ?_
  show Good p e below _ (T1.setTop (mkF m 6 #[.val (.int p0)] []))
  refine Good.back (fun _ k => XS.iloadN X1.here hx rfl (hb hby own_d1_6) rfl k) ?_
  show Good p e below _ (T1.setTop (mkF m 7 #[.val (.int p0)] [(.int p0)]))
  obtain ⟨_, _, ⟨T2, L2, k2, n2⟩, -, X2, ⟨Lc2, hQ2, l2, y2, z2⟩, st2⟩ := Jvm.LawKit.callS X1 hx (y := (⟨"java/lang/StringLatin1", "canEncode", "(C)Z"⟩ : MethodName)) hown (mvT hZ (hw _ (List.mem_of_getElem? (i := 5) rfl))) (mvT hZ (hw _ (List.mem_of_getElem? (i := 6) rfl))) (mvT hZ (hw _ (List.mem_of_getElem? (i := 7) rfl))) (mvT hZ (hw _ (List.mem_of_getElem? (i := 8) rfl))) (by decide) (backOf (W := 0) (rm2 l Z a0 hw [] p0  h0 n0 Z0 (hle)) hZ (hw _ (List.mem_of_getElem? (i := 8) rfl)) (hw _ (List.mem_of_getElem? (i := 7) rfl)) (by decide) (by decide)) (g := (mkF m 7 #[.val (.int p0)] [(.int p0)])) rfl (by rw [hml]; rfl) (argsL := [(.int p0)]) (rest := []) (lenOf own_pd23 rfl) rfl (by show 2 * 0 + _ ≤ _; exact Nat.le_of_eq rfl) (hb hby own_d1_7) (fun _ _ => ⟨rfl, e1, (by decide : 0 + 0 ≤ _), (by decide : 0 + 0 ≤ _)⟩)
  dsimp only [Pt.U, Pt.locs, Pt.cells, Pt.slots] at X2 l2 y2 z2 st2 hQ2
  subst l2 y2 z2
  obtain ⟨rfl, N2q, eh2⟩ := hQ2
  have N2 := Fr.app N0 N2q
  refine Good.back st2 ?_
  show Good p e below _ (T2.setTop (mkF m 10 #[.val (.int p0)] [(.int (1 : Int32))]))
  refine Good.back (fun _ k => XS.ifNo X2.here hx rfl (hb hby own_d1_10) rfl ((if0 _ _).trans (feq (by decide : ¬ ((1 : Int32) = (0 : Int32)))).1) k) ?_
  show Good p e below _ (T2.setTop (mkF m 13 #[.val (.int p0)] []))
  obtain ⟨T3, h3, X3, e3, E3, A3, D3, -, st3⟩ := newO X2 hx hZ hown (hw _ (List.mem_of_getElem? (i := 9) rfl)) (hw _ (List.mem_of_getElem? (i := 10) rfl)) (hw _ (List.mem_of_getElem? (i := 2) rfl)) eh2 (g := (mkF m 13 #[.val (.int p0)] [])) rfl (hb hby own_d1_13) (by decide) (by decide)
  obtain ⟨b3, g3⟩ : ∃ z, z = h0.size := ⟨_, rfl⟩
  rw [← g3] at A3 D3 st3
  refine Good.back st3 ?_
  have g_b3 : n0 ≤ b3 := Nat.le_trans Z0 (Nat.le_of_eq g3.symm)
  have sz_b3 : h0.size ≤ b3 := Nat.le_trans KR.1 (Nat.le_of_eq g3.symm)
  have Z4 : n0 ≤ h3.size := Nat.le_trans Z0 E3.1
  have K5 : Keep h0 h3 [] := KR.ext E3
  have f_6 : Exa Z h3 b3 "java/lang/String" := A3
  have f_7 : Fld Z h3 b3 "java/lang/String" "value" "[B" .null := D3 (Or.inr (hw _ (List.mem_of_getElem? (i := 23) rfl))) (ty := (.array .byte)) (by decide)
  have f_8 : Fld Z h3 b3 "java/lang/String" "coder" "B" (.int (0 : Int32)) := D3 (Or.inr (hw _ (List.mem_of_getElem? (i := 25) rfl))) (ty := .byte) (by decide)
  show Good p e below _ (T3.setTop (mkF m 16 #[.val (.int p0)] [(.ref b3)]))
  refine Good.back (fun _ k => XS.dup X3.here hx rfl (hb hby own_d1_16) rfl rfl k) ?_
  show Good p e below _ (T3.setTop (mkF m 17 #[.val (.int p0)] [(.ref b3), (.ref b3)]))
  refine Good.back (fun _ k => XS.iloadN X3.here hx rfl (hb hby own_d1_17) rfl k) ?_
  show Good p e below _ (T3.setTop (mkF m 18 #[.val (.int p0)] [(.int p0), (.ref b3), (.ref b3)]))
  obtain ⟨_, _, ⟨T9, L9, k9, n9⟩, -, X9, ⟨Lc9, hQ9, l9, y9, z9⟩, st9⟩ := Jvm.LawKit.callS X3 hx (y := (⟨"java/lang/StringLatin1", "toBytes", "(C)[B"⟩ : MethodName)) hown (mvT hZ (hw _ (List.mem_of_getElem? (i := 11) rfl))) (mvT hZ (hw _ (List.mem_of_getElem? (i := 12) rfl))) (mvT hZ (hw _ (List.mem_of_getElem? (i := 7) rfl))) (mvT hZ (hw _ (List.mem_of_getElem? (i := 13) rfl))) (by decide) (backOf (W := 2) (rm3 l Z a0 hw [] p0  h3 n0 Z4 ) hZ (hw _ (List.mem_of_getElem? (i := 13) rfl)) (hw _ (List.mem_of_getElem? (i := 7) rfl)) (by decide) (by decide)) (g := (mkF m 18 #[.val (.int p0)] [(.int p0), (.ref b3), (.ref b3)])) rfl (by rw [hml]; rfl) (argsL := [(.int p0)]) (rest := [(.ref b3), (.ref b3)]) (lenOf own_pd24 rfl) rfl (by show 2 * 0 + _ ≤ _; exact Nat.le_of_eq rfl) (hb hby own_d1_18) (fun _ _ => ⟨rfl, e3, (by decide : 1 + 1 ≤ _), (by decide : 4 + 1 ≤ _)⟩)
  dsimp only [Pt.U, Pt.locs, Pt.cells, Pt.slots] at X9 l9 y9 z9 st9 hQ9
  subst l9 y9 z9
  obtain ⟨ar_9, kk_9, rfl, N9q, Kq9, o9_0, o9_1⟩ := hQ9
  have N9 := Fr.app N2 N9q
  have Z10 : n0 ≤ T9.heap.size := Nat.le_trans Z4 Kq9.1
  have K11 : Keep h0 T9.heap [] := K5.trans Kq9 all0
  have g_ar_9 : n0 ≤ ar_9 := Nat.le_trans Z4 o9_0
  have sz_ar_9 : h0.size ≤ ar_9 := Nat.le_trans K5.1 o9_0
  refine Good.back st9 ?_
  show Good p e below _ (T9.setTop (mkF m 21 #[.val (.int p0)] [(.ref ar_9), (.ref b3), (.ref b3)]))
  refine Good.back (fun _ k => XS.iconst X9.here hx rfl (hb hby own_d1_21) k) ?_
  show Good p e below _ (T9.setTop (mkF m 22 #[.val (.int p0)] [(.int (0 : Int32)), (.ref ar_9), (.ref b3), (.ref b3)]))
  have f_13 : Exa Z T9.heap b3 "java/lang/String" := Exa.keep f_6 Kq9
  have f_14 : Fld Z T9.heap b3 "java/lang/String" "value" "[B" .null := Fld.keep f_7 Kq9 nin0
  have f_15 : Fld Z T9.heap b3 "java/lang/String" "coder" "B" (.int (0 : Int32)) := Fld.keep f_8 Kq9 nin0
  obtain ⟨_, _, ⟨T12, L12, k12, n12⟩, -, X12, ⟨Lc12, hQ12, l12, y12, z12⟩, st12⟩ := X9.specialBack hx (y := (⟨"java/lang/String", "<init>", "([BB)V"⟩ : MethodName)) rfl hown (mvT hZ (hw _ (List.mem_of_getElem? (i := 15) rfl))) (mvT hZ (hw _ (List.mem_of_getElem? (i := 16) rfl))) (mvT hZ (hw _ (List.mem_of_getElem? (i := 18) rfl))) (by decide) (backOf (W := 1) (rm4 l Z a0 hw [] b3 ar_9  T9.heap n0 Z10 f_13 g_b3 f_14 f_15) hZ (hw _ (List.mem_of_getElem? (i := 18) rfl)) (hw _ (List.mem_of_getElem? (i := 2) rfl)) (by decide) (by decide)) (g := (mkF m 22 #[.val (.int p0)] [(.int (0 : Int32)), (.ref ar_9), (.ref b3), (.ref b3)])) rfl (by rw [hml]; rfl) (Steps.refl _) (a := b3) (argsL := [(.ref ar_9), (.int (0 : Int32))]) (rest := [(.ref b3)]) (lenOf own_pd25 rfl) rfl (by show 2 * 0 + _ ≤ _; exact Nat.le_of_eq rfl) (hb hby own_d1_22) (fun _ _ => ⟨rfl, rfl, (by decide : 2 + 0 ≤ _), (by decide : 5 + 0 ≤ _)⟩)
  dsimp only [Pt.U, Pt.locs, Pt.cells, Pt.slots] at X12 l12 y12 z12 st12 hQ12
  subst l12 y12 z12
  obtain ⟨rfl, N12q, Kq12, o12_0, o12_1⟩ := hQ12
  have N12 := Fr.app N9 N12q
  have Z16 : n0 ≤ T12.heap.size := Nat.le_trans Z10 Kq12.1
  have K17 : Keep h0 T12.heap [] := K11.trans Kq12 (allS (Or.inr sz_b3) all0)
  refine Good.back (fun _ k => st12.trans k) ?_
  show Good p e below _ (T12.setTop (mkF m 25 #[.val (.int p0)] [(.ref b3)]))
  obtain ⟨fs18, hr18, hrun18, hended18, hW18, hsame18⟩ := X12.leave (v := some (.ref b3)) (fun h => by rw [Bd.returns] at h; cases h)
  refine Good.done (retOut X12 hx Bd.returns rfl (Or.inr (Or.inr (Or.inr (Or.inr ⟨rfl, rfl, rfl⟩)))) (hb hby own_d1_25) hr18) hrun18 hended18 ⟨_, _, rfl, ?_, ⟨_, rfl⟩, hW18, hsame18.mono (by decide) (by decide)⟩
  show Q1 Z p0 cs h0 n0 _ T12.heap _
  have f_19 : Exa Z T12.heap b3 "java/lang/String" := Exa.keep f_13 Kq12
  have ne_b3_ar_9_21 : b3 ≠ ar_9 := Nat.ne_of_lt (Nat.lt_of_lt_of_le f_8.lt o9_0)
  have f_20 : Arv Z T12.heap ar_9 kk_9 .byte (1 : Int32) [(.int (p0.toInt8.toInt32).toInt8.toInt32)] (.int (0 : Int32)) := Arv.keep o9_1 Kq12 (ninS (Ne.symm ne_b3_ar_9_21) nin0)
  exact ⟨_, _, _, rfl, N12, K17, sz_b3, sz_ar_9, f_19, o12_0, o12_1, f_20, ne_b3_ar_9_21⟩
theorem own_pn2 : plainName "java/lang/Record" = true := by first | (simp [plainName, overriddenIn]; done) | decide +kernel
theorem own_d7_0 : decode jdk_30_method_1_code 0 = .ok (.aload_n 0, 1) := by decide +kernel
theorem own_d7_1 : decode jdk_30_method_1_code 1 = .ok (.invokespecial 1, 3) := by decide +kernel
theorem own_d7_4 : decode jdk_30_method_1_code 4 = .ok (.return_, 1) := by decide +kernel
theorem own_ef_7 (m : MethodId) (x0 : Addr) : entryFrame m #[(.ref x0)] 1 = mkF m 0 #[.val (.ref x0)] [] := by first | (simp [entryFrame, mkF, argsToLocals, Value.category]; done) | rfl
def Q7 (Z : State) (r0 : Addr) (h0 : Heap) (n0 : Nat) (v : Option Value) (h : Heap) (L : List Loc) : Prop := v = none ∧ Fr n0 L ∧ h = h0
set_option maxRecDepth 65536 in
set_option maxHeartbeats 40000000 in
theorem rm7 (l : Launch) (Z : State) (a0 : Array Value) (hw : ∀ d ∈ tables_1, d.before a0 Z = true) (ws : List Jvm.Cond) (r0 : Addr) (h0 : Heap) (n0 : Nat) (Z0 : n0 ≤ h0.size)  :
    MetFree l (⟨"java/lang/Record", "<init>", "()V"⟩ : MethodName) (head1 (Jvm.Cond.code (⟨"java/lang/Record", "<init>", "()V"⟩ : MethodName) jdk_30_method_1_code 1 none :: ws) ({ frames := 1, cells := 0, slots := 0, locals := 12 } : Room)) (fun a U => a = #[(.ref r0)] ∧ Z.Warmed39 U.vm ∧ U.heap = h0) (fun _ _ _ _ _ => True) (fun _ U o U' => ∃ v L, o = .returned v ∧ Q7 Z r0 h0 n0 v U'.heap L ∧ FrameEnd U o U' L ({ frames := 1, cells := 0, slots := 0, locals := 12 } : Room).cells ({ frames := 1, cells := 0, slots := 0, locals := 12 } : Room).slots) := by
  refine MetFree.of_bodySF (plainFor_of_name own_pn2) hisR ?_
  intro p e s m args below meth c s₁ Bd hml0 hP hK
  obtain ⟨rfl, hZ, hh⟩ := hP
  have hx := Bd.exec
  have hby := Bd.bytes
  have hml : c.maxLocals = 1 := hml0
  have hown : s.vm.findClass "java/lang/Record" = some m.cls := findClass_of_methodNamed Bd.named
  have hnm := (name_of_methodNamed Bd.named Bd.method).1
  have X0 : Stand p l e ({ frames := 1, cells := 0, slots := 0, locals := 12 } : Room) s m #[(.ref r0)] below meth c s₁ [] 0 0 := Stand.of_body Bd
  have e0 : s₁.heap = h0 := by rw [← hh, Bd.state]; rfl
  have N0 := Fr.nil n0
  show Good p e below (fun o U' => ∃ v L, o = .returned v ∧ Q7 Z r0 h0 n0 v U'.heap L ∧ FrameEnd s o U' L ({ frames := 1, cells := 0, slots := 0, locals := 12 } : Room).cells ({ frames := 1, cells := 0, slots := 0, locals := 12 } : Room).slots) _
  refine Good.back (S' := s₁.setTop (mkF m 0 #[.val (.ref r0)] [])) (fun t k => castTop (own_ef_7 m r0) k) ?_
  show Good p e below _ (s₁.setTop (mkF m 0 #[.val (.ref r0)] []))
  refine Good.back (fun _ k => XS.aloadN X0.here hx rfl (hb hby own_d7_0) rfl rfl k) ?_
  show Good p e below _ (s₁.setTop (mkF m 1 #[.val (.ref r0)] [(.ref r0)]))
  obtain ⟨T1, X1, e1, st1⟩ := initO X0 hx hZ hown (hw _ (List.mem_of_getElem? (i := 37) rfl)) (hw _ (List.mem_of_getElem? (i := 20) rfl)) (hw _ (List.mem_of_getElem? (i := 21) rfl)) e0 (g := (mkF m 1 #[.val (.ref r0)] [(.ref r0)])) rfl (by rw [hml]; rfl) rfl (hb hby own_d7_1) (by decide) (W := 0) (by show 2 * 0 + _ ≤ _; exact Nat.le_of_eq rfl) (by decide)
  refine Good.back st1 ?_
  show Good p e below _ (T1.setTop (mkF m 4 #[.val (.ref r0)] []))
  obtain ⟨fs2, hr2, hrun2, hended2, hW2, hsame2⟩ := X1.leave (v := none) (fun _ => rfl)
  refine Good.done (X1.returnOut hx Bd.returns (hb hby own_d7_4) hr2) hrun2 hended2 ⟨_, _, rfl, ?_, ⟨_, rfl⟩, hW2, hsame2.mono (by decide) (by decide)⟩
  show Q7 Z r0 h0 n0 _ T1.heap _
  rw [e1]
  exact ⟨rfl, N0, rfl⟩
theorem own_pn3 : plainName "java/util/Objects" = true := by first | (simp [plainName, overriddenIn]; done) | decide +kernel
theorem own_d8_0 : decode jdk_31_method_11_code 0 = .ok (.aload_n 0, 1) := by decide +kernel
theorem own_d8_1 : decode jdk_31_method_11_code 1 = .ok (.ifnonnull 12, 3) := by decide +kernel
theorem own_d8_13 : decode jdk_31_method_11_code 13 = .ok (.aload_n 0, 1) := by decide +kernel
theorem own_d8_14 : decode jdk_31_method_11_code 14 = .ok (.areturn, 1) := by decide +kernel
theorem own_ef_8 (m : MethodId) (x0 : Addr) (x1 : Addr) : entryFrame m #[(.ref x0), (.ref x1)] 2 = mkF m 0 #[.val (.ref x0), .val (.ref x1)] [] := by first | (simp [entryFrame, mkF, argsToLocals, Value.category]; done) | rfl
def Q8 (Z : State) (r0 : Addr) (r1 : Addr) (h0 : Heap) (n0 : Nat) (v : Option Value) (h : Heap) (L : List Loc) : Prop := v = some (.ref r0) ∧ Fr n0 L ∧ h = h0
set_option maxRecDepth 65536 in
set_option maxHeartbeats 40000000 in
theorem rm8 (l : Launch) (Z : State) (a0 : Array Value) (hw : ∀ d ∈ tables_1, d.before a0 Z = true) (ws : List Jvm.Cond) (r0 : Addr) (r1 : Addr) (h0 : Heap) (n0 : Nat) (Z0 : n0 ≤ h0.size)  :
    MetFree l (⟨"java/util/Objects", "requireNonNull", "(Ljava/lang/Object;Ljava/lang/String;)Ljava/lang/Object;"⟩ : MethodName) (head1 (Jvm.Cond.code (⟨"java/util/Objects", "requireNonNull", "(Ljava/lang/Object;Ljava/lang/String;)Ljava/lang/Object;"⟩ : MethodName) jdk_31_method_11_code 2 (some (.object "java/lang/Object")) :: ws) ({ frames := 0, cells := 0, slots := 0, locals := 0 } : Room)) (fun a U => a = #[(.ref r0), (.ref r1)] ∧ Z.Warmed39 U.vm ∧ U.heap = h0) (fun _ _ _ _ _ => True) (fun _ U o U' => ∃ v L, o = .returned v ∧ Q8 Z r0 r1 h0 n0 v U'.heap L ∧ FrameEnd U o U' L ({ frames := 0, cells := 0, slots := 0, locals := 0 } : Room).cells ({ frames := 0, cells := 0, slots := 0, locals := 0 } : Room).slots) := by
  refine MetFree.of_bodySF (plainFor_of_name own_pn3) hisR ?_
  intro p e s m args below meth c s₁ Bd hml0 hP hK
  obtain ⟨rfl, hZ, hh⟩ := hP
  have hx := Bd.exec
  have hby := Bd.bytes
  have hml : c.maxLocals = 2 := hml0
  have hown : s.vm.findClass "java/util/Objects" = some m.cls := findClass_of_methodNamed Bd.named
  have hnm := (name_of_methodNamed Bd.named Bd.method).1
  have X0 : Stand p l e ({ frames := 0, cells := 0, slots := 0, locals := 0 } : Room) s m #[(.ref r0), (.ref r1)] below meth c s₁ [] 0 0 := Stand.of_body Bd
  have e0 : s₁.heap = h0 := by rw [← hh, Bd.state]; rfl
  have N0 := Fr.nil n0
  show Good p e below (fun o U' => ∃ v L, o = .returned v ∧ Q8 Z r0 r1 h0 n0 v U'.heap L ∧ FrameEnd s o U' L ({ frames := 0, cells := 0, slots := 0, locals := 0 } : Room).cells ({ frames := 0, cells := 0, slots := 0, locals := 0 } : Room).slots) _
  refine Good.back (S' := s₁.setTop (mkF m 0 #[.val (.ref r0), .val (.ref r1)] [])) (fun t k => castTop (own_ef_8 m r0 r1) k) ?_
  show Good p e below _ (s₁.setTop (mkF m 0 #[.val (.ref r0), .val (.ref r1)] []))
  refine Good.back (fun _ k => XS.aloadN X0.here hx rfl (hb hby own_d8_0) rfl rfl k) ?_
  show Good p e below _ (s₁.setTop (mkF m 1 #[.val (.ref r0), .val (.ref r1)] [(.ref r0)]))
  refine Good.back (fun _ k => XS.ifnonnullYes X0.here hx rfl (pc0 := 1) (pc' := 13) rfl (hb hby own_d8_1) rfl (by decide) (by decide) k) ?_
  show Good p e below _ (s₁.setTop (mkF m 13 #[.val (.ref r0), .val (.ref r1)] []))
  refine Good.back (fun _ k => XS.aloadN X0.here hx rfl (hb hby own_d8_13) rfl rfl k) ?_
  show Good p e below _ (s₁.setTop (mkF m 14 #[.val (.ref r0), .val (.ref r1)] [(.ref r0)]))
  obtain ⟨fs1, hr1, hrun1, hended1, hW1, hsame1⟩ := X0.leave (v := some (.ref r0)) (fun h => by rw [Bd.returns] at h; cases h)
  refine Good.done (retOut X0 hx Bd.returns rfl (Or.inr (Or.inr (Or.inr (Or.inr ⟨rfl, rfl, rfl⟩)))) (hb hby own_d8_14) hr1) hrun1 hended1 ⟨_, _, rfl, ?_, ⟨_, rfl⟩, hW1, hsame1.mono (by decide) (by decide)⟩
  show Q8 Z r0 r1 h0 n0 _ s₁.heap _
  rw [e0]
  exact ⟨rfl, N0, rfl⟩
theorem own_pd45 : parseMethodDescriptor "()V" = some ⟨[], none⟩ := by decide +kernel
theorem own_pd46 : parseMethodDescriptor "(Ljava/lang/Object;Ljava/lang/String;)Ljava/lang/Object;" = some ⟨[(.object "java/lang/Object"), (.object "java/lang/String")], some (.object "java/lang/Object")⟩ := by decide +kernel
theorem own_pn4 : plainName "com/example/liken/liken/eval/Judgment" = true := by first | (simp [plainName, overriddenIn]; done) | decide +kernel
theorem own_d6_0 : decode prog_49_method_1_code 0 = .ok (.aload_n 0, 1) := by decide +kernel
theorem own_d6_1 : decode prog_49_method_1_code 1 = .ok (.invokespecial 1, 3) := by decide +kernel
theorem own_d6_4 : decode prog_49_method_1_code 4 = .ok (.aload_n 1, 1) := by decide +kernel
theorem own_d6_5 : decode prog_49_method_1_code 5 = .ok (.ldc 7, 2) := by decide +kernel
theorem own_d6_7 : decode prog_49_method_1_code 7 = .ok (.invokestatic 9, 3) := by decide +kernel
theorem own_d6_10 : decode prog_49_method_1_code 10 = .ok (.pop, 1) := by decide +kernel
theorem own_d6_11 : decode prog_49_method_1_code 11 = .ok (.aload_n 2, 1) := by decide +kernel
theorem own_d6_12 : decode prog_49_method_1_code 12 = .ok (.ldc 15, 2) := by decide +kernel
theorem own_d6_14 : decode prog_49_method_1_code 14 = .ok (.invokestatic 9, 3) := by decide +kernel
theorem own_d6_17 : decode prog_49_method_1_code 17 = .ok (.pop, 1) := by decide +kernel
theorem own_d6_18 : decode prog_49_method_1_code 18 = .ok (.aload_n 0, 1) := by decide +kernel
theorem own_d6_19 : decode prog_49_method_1_code 19 = .ok (.aload_n 1, 1) := by decide +kernel
theorem own_d6_20 : decode prog_49_method_1_code 20 = .ok (.putfield 17, 3) := by decide +kernel
theorem own_d6_23 : decode prog_49_method_1_code 23 = .ok (.aload_n 0, 1) := by decide +kernel
theorem own_d6_24 : decode prog_49_method_1_code 24 = .ok (.aload_n 2, 1) := by decide +kernel
theorem own_d6_25 : decode prog_49_method_1_code 25 = .ok (.putfield 22, 3) := by decide +kernel
theorem own_d6_28 : decode prog_49_method_1_code 28 = .ok (.aload_n 0, 1) := by decide +kernel
theorem own_d6_29 : decode prog_49_method_1_code 29 = .ok (.iload_n 3, 1) := by decide +kernel
theorem own_d6_30 : decode prog_49_method_1_code 30 = .ok (.putfield 24, 3) := by decide +kernel
theorem own_d6_33 : decode prog_49_method_1_code 33 = .ok (.return_, 1) := by decide +kernel
theorem own_ef_6 (m : MethodId) (x0 : Addr) (x1 : Addr) (x2 : Addr) (x3 : Int32) : entryFrame m #[(.ref x0), (.ref x1), (.ref x2), (.int x3)] 4 = mkF m 0 #[.val (.ref x0), .val (.ref x1), .val (.ref x2), .val (.int x3)] [] := by first | (simp [entryFrame, mkF, argsToLocals, Value.category]; done) | rfl
def Q6 (Z : State) (r0 : Addr) (r1 : Addr) (r2 : Addr) (p3 : Int32) (h0 : Heap) (n0 : Nat) (v : Option Value) (h : Heap) (L : List Loc) : Prop := v = none ∧ Fr n0 L ∧ Keep h0 h [r0] ∧ Fld Z h r0 "com/example/liken/liken/eval/Judgment" "grade" "I" (.int p3)
set_option maxRecDepth 65536 in
set_option maxHeartbeats 40000000 in
theorem rm6 (l : Launch) (Z : State) (a0 : Array Value) (hw : ∀ d ∈ tables_1, d.before a0 Z = true) (ws : List Jvm.Cond) (r0 : Addr) (r1 : Addr) (r2 : Addr) (p3 : Int32) (h0 : Heap) (n0 : Nat) (Z0 : n0 ≤ h0.size) (E0 : Exa Z h0 r0 "com/example/liken/liken/eval/Judgment") (g0 : n0 ≤ r0) (F_query : Fld Z h0 r0 "com/example/liken/liken/eval/Judgment" "query" "Ljava/lang/String;" .null) (F_document : Fld Z h0 r0 "com/example/liken/liken/eval/Judgment" "document" "Ljava/lang/String;" .null) (F_grade : Fld Z h0 r0 "com/example/liken/liken/eval/Judgment" "grade" "I" (.int (0 : Int32))) :
    MetFree l (⟨"com/example/liken/liken/eval/Judgment", "<init>", "(Ljava/lang/String;Ljava/lang/String;I)V"⟩ : MethodName) (head1 (Jvm.Cond.code (⟨"com/example/liken/liken/eval/Judgment", "<init>", "(Ljava/lang/String;Ljava/lang/String;I)V"⟩ : MethodName) prog_49_method_1_code 4 none :: ws) ({ frames := 2, cells := 4, slots := 60, locals := 24 } : Room)) (fun a U => a = #[(.ref r0), (.ref r1), (.ref r2), (.int p3)] ∧ Z.Warmed39 U.vm ∧ U.heap = h0) (fun _ _ _ _ _ => True) (fun _ U o U' => ∃ v L, o = .returned v ∧ Q6 Z r0 r1 r2 p3 h0 n0 v U'.heap L ∧ ReturnedEndW U o U' L ({ frames := 2, cells := 4, slots := 60, locals := 24 } : Room).cells ({ frames := 2, cells := 4, slots := 60, locals := 24 } : Room).slots) := by
  refine MetFree.of_bodySF (plainFor_of_name own_pn4) hisR ?_
  intro p e s m args below meth c s₁ Bd hml0 hP hK
  obtain ⟨rfl, hZ, hh⟩ := hP
  have hx := Bd.exec
  have hby := Bd.bytes
  have hml : c.maxLocals = 4 := hml0
  have hown : s.vm.findClass "com/example/liken/liken/eval/Judgment" = some m.cls := findClass_of_methodNamed Bd.named
  have hnm := (name_of_methodNamed Bd.named Bd.method).1
  have X0 : Stand p l e ({ frames := 2, cells := 4, slots := 60, locals := 24 } : Room) s m #[(.ref r0), (.ref r1), (.ref r2), (.int p3)] below meth c s₁ [] 0 0 := Stand.of_body Bd
  have e0 : s₁.heap = h0 := by rw [← hh, Bd.state]; rfl
  have N0 := Fr.nil n0
  have X0c : Stand p l e ({ frames := 2, cells := 4, slots := 60, locals := 24 } : Room) (s.setVm s.vm) m #[(.ref r0), (.ref r1), (.ref r2), (.int p3)] below meth c s₁ [] 0 0 := X0
  have hS0 : s.Since s.vm 0 := (State.WarmedH.refl s).since 0
  have hk0 : 0 ≤ h0.size := Nat.zero_le _
  have hZ0 : Z.Warmed39 (s.setVm s.vm).vm := hZ
  have hown0 : (s.setVm s.vm).vm.findClass "com/example/liken/liken/eval/Judgment" = some m.cls := hown
  have KR : Keep h0 h0 [r0] := Keep.refl h0 _
  show Good p e below (fun o U' => ∃ v L, o = .returned v ∧ Q6 Z r0 r1 r2 p3 h0 n0 v U'.heap L ∧ ReturnedEndW s o U' L ({ frames := 2, cells := 4, slots := 60, locals := 24 } : Room).cells ({ frames := 2, cells := 4, slots := 60, locals := 24 } : Room).slots) _
  refine Good.back (S' := s₁.setTop (mkF m 0 #[.val (.ref r0), .val (.ref r1), .val (.ref r2), .val (.int p3)] [])) (fun t k => castTop (own_ef_6 m r0 r1 r2 p3) k) ?_
  show Good p e below _ (s₁.setTop (mkF m 0 #[.val (.ref r0), .val (.ref r1), .val (.ref r2), .val (.int p3)] []))
  refine Good.back (fun _ k => XS.aloadN X0c.here hx rfl (hb hby own_d6_0) rfl rfl k) ?_
  show Good p e below _ (s₁.setTop (mkF m 1 #[.val (.ref r0), .val (.ref r1), .val (.ref r2), .val (.int p3)] [(.ref r0)]))
  obtain ⟨_, _, ⟨T1, L1, k1, n1⟩, -, X1, ⟨Lc1, hQ1, l1, y1, z1⟩, st1⟩ := X0c.specialBack hx (y := (⟨"java/lang/Record", "<init>", "()V"⟩ : MethodName)) rfl hown0 (mvT hZ0 (hw _ (List.mem_of_getElem? (i := 32) rfl))) (mvT hZ0 (hw _ (List.mem_of_getElem? (i := 33) rfl))) (mvT hZ0 (hw _ (List.mem_of_getElem? (i := 36) rfl))) (by decide) (backOf (W := 0) (rm7 l Z a0 hw [] r0  h0 n0 Z0 ) hZ0 (hw _ (List.mem_of_getElem? (i := 36) rfl)) (hw _ (List.mem_of_getElem? (i := 35) rfl)) (by decide) (by decide)) (g := (mkF m 1 #[.val (.ref r0), .val (.ref r1), .val (.ref r2), .val (.int p3)] [(.ref r0)])) rfl (by rw [hml]; rfl) (Steps.refl _) (a := r0) (argsL := []) (rest := []) (lenOf own_pd45 rfl) rfl (by show 2 * 0 + _ ≤ _; exact Nat.le_of_eq rfl) (hb hby own_d6_1) (fun _ _ => ⟨rfl, e0, (by decide : 0 + 0 ≤ _), (by decide : 0 + 0 ≤ _)⟩)
  dsimp only [Pt.U, Pt.locs, Pt.cells, Pt.slots] at X1 l1 y1 z1 st1 hQ1
  subst l1 y1 z1
  obtain ⟨rfl, N1q, eh1⟩ := hQ1
  have N1 := Fr.app N0 N1q
  refine Good.back (fun _ k => st1.trans k) ?_
  show Good p e below _ (T1.setTop (mkF m 4 #[.val (.ref r0), .val (.ref r1), .val (.ref r2), .val (.int p3)] []))
  refine Good.back (fun _ k => XS.aloadN X1.here hx rfl (hb hby own_d6_4) rfl rfl k) ?_
  show Good p e below _ (T1.setTop (mkF m 5 #[.val (.ref r0), .val (.ref r1), .val (.ref r2), .val (.int p3)] [(.ref r1)]))
  obtain ⟨a2, T2, h2, kc2, X2, e2, E2, hS2, hk2, hZ2, hown2, st2⟩ := ldcS X1 hx hZ0 hown0 (hw _ (List.mem_of_getElem? (i := 38) rfl)) (own_wS hw) eh1 hS0 hk0 (g := (mkF m 5 #[.val (.ref r0), .val (.ref r1), .val (.ref r2), .val (.int p3)] [(.ref r1)])) rfl (hb hby own_d6_5) (n := 20) (by decide +kernel) (by decide) (by decide) (by decide)
  refine Good.back st2 ?_
  have Z3 : n0 ≤ h2.size := Nat.le_trans Z0 E2.1
  have hk4 := Nat.le_trans hk0 E2.1
  have K5 : Keep h0 h2 [r0] := KR.ext E2
  show Good p e below _ (T2.setTop (mkF m 7 #[.val (.ref r0), .val (.ref r1), .val (.ref r2), .val (.int p3)] [(.ref a2), (.ref r1)]))
  obtain ⟨_, _, ⟨T6, L6, k6, n6⟩, -, X6, ⟨Lc6, hQ6, l6, y6, z6⟩, st6⟩ := Jvm.LawKit.callS X2 hx (y := (⟨"java/util/Objects", "requireNonNull", "(Ljava/lang/Object;Ljava/lang/String;)Ljava/lang/Object;"⟩ : MethodName)) hown2 (mvT hZ2 (hw _ (List.mem_of_getElem? (i := 41) rfl))) (mvT hZ2 (hw _ (List.mem_of_getElem? (i := 42) rfl))) (mvT hZ2 (hw _ (List.mem_of_getElem? (i := 43) rfl))) (mvT hZ2 (hw _ (List.mem_of_getElem? (i := 44) rfl))) (by decide) (backOf (W := 0) (rm8 l Z a0 hw [] r1 a2  h2 n0 Z3 ) hZ2 (hw _ (List.mem_of_getElem? (i := 44) rfl)) (hw _ (List.mem_of_getElem? (i := 43) rfl)) (by decide) (by decide)) (g := (mkF m 7 #[.val (.ref r0), .val (.ref r1), .val (.ref r2), .val (.int p3)] [(.ref a2), (.ref r1)])) rfl (by rw [hml]; rfl) (argsL := [(.ref r1), (.ref a2)]) (rest := []) (lenOf own_pd46 rfl) rfl (by show 2 * 0 + _ ≤ _; exact Nat.le_of_eq rfl) (hb hby own_d6_7) (fun _ _ => ⟨rfl, e2, (by decide : 2 + 0 ≤ _), (by decide : 24 + 0 ≤ _)⟩)
  dsimp only [Pt.U, Pt.locs, Pt.cells, Pt.slots] at X6 l6 y6 z6 st6 hQ6
  subst l6 y6 z6
  obtain ⟨rfl, N6q, eh6⟩ := hQ6
  have N6 := Fr.app N1 N6q
  refine Good.back st6 ?_
  show Good p e below _ (T6.setTop (mkF m 10 #[.val (.ref r0), .val (.ref r1), .val (.ref r2), .val (.int p3)] [(.ref r1)]))
  refine Good.back (fun _ k => XS.pop X6.here hx rfl (hb hby own_d6_10) rfl rfl k) ?_
  show Good p e below _ (T6.setTop (mkF m 11 #[.val (.ref r0), .val (.ref r1), .val (.ref r2), .val (.int p3)] []))
  refine Good.back (fun _ k => XS.aloadN X6.here hx rfl (hb hby own_d6_11) rfl rfl k) ?_
  show Good p e below _ (T6.setTop (mkF m 12 #[.val (.ref r0), .val (.ref r1), .val (.ref r2), .val (.int p3)] [(.ref r2)]))
  obtain ⟨a7, T7, h7, kc7, X7, e7, E7, hS7, hk7, hZ7, hown7, st7⟩ := ldcS X6 hx hZ2 hown2 (hw _ (List.mem_of_getElem? (i := 45) rfl)) (own_wS hw) eh6 hS2 hk2 (g := (mkF m 12 #[.val (.ref r0), .val (.ref r1), .val (.ref r2), .val (.int p3)] [(.ref r2)])) rfl (hb hby own_d6_12) (n := 32) (by decide +kernel) (by decide) (by decide) (by decide)
  refine Good.back st7 ?_
  have Z8 : n0 ≤ h7.size := Nat.le_trans Z3 E7.1
  have hk9 := Nat.le_trans hk2 E7.1
  have K10 : Keep h0 h7 [r0] := K5.ext E7
  show Good p e below _ (T7.setTop (mkF m 14 #[.val (.ref r0), .val (.ref r1), .val (.ref r2), .val (.int p3)] [(.ref a7), (.ref r2)]))
  obtain ⟨_, _, ⟨T11, L11, k11, n11⟩, -, X11, ⟨Lc11, hQ11, l11, y11, z11⟩, st11⟩ := Jvm.LawKit.callS X7 hx (y := (⟨"java/util/Objects", "requireNonNull", "(Ljava/lang/Object;Ljava/lang/String;)Ljava/lang/Object;"⟩ : MethodName)) hown7 (mvT hZ7 (hw _ (List.mem_of_getElem? (i := 41) rfl))) (mvT hZ7 (hw _ (List.mem_of_getElem? (i := 42) rfl))) (mvT hZ7 (hw _ (List.mem_of_getElem? (i := 43) rfl))) (mvT hZ7 (hw _ (List.mem_of_getElem? (i := 44) rfl))) (by decide) (backOf (W := 0) (rm8 l Z a0 hw [] r2 a7  h7 n0 Z8 ) hZ7 (hw _ (List.mem_of_getElem? (i := 44) rfl)) (hw _ (List.mem_of_getElem? (i := 43) rfl)) (by decide) (by decide)) (g := (mkF m 14 #[.val (.ref r0), .val (.ref r1), .val (.ref r2), .val (.int p3)] [(.ref a7), (.ref r2)])) rfl (by rw [hml]; rfl) (argsL := [(.ref r2), (.ref a7)]) (rest := []) (lenOf own_pd46 rfl) rfl (by show 2 * 0 + _ ≤ _; exact Nat.le_of_eq rfl) (hb hby own_d6_14) (fun _ _ => ⟨rfl, e7, (by decide : 4 + 0 ≤ _), (by decide : 60 + 0 ≤ _)⟩)
  dsimp only [Pt.U, Pt.locs, Pt.cells, Pt.slots] at X11 l11 y11 z11 st11 hQ11
  subst l11 y11 z11
  obtain ⟨rfl, N11q, eh11⟩ := hQ11
  have N11 := Fr.app N6 N11q
  refine Good.back st11 ?_
  show Good p e below _ (T11.setTop (mkF m 17 #[.val (.ref r0), .val (.ref r1), .val (.ref r2), .val (.int p3)] [(.ref r2)]))
  refine Good.back (fun _ k => XS.pop X11.here hx rfl (hb hby own_d6_17) rfl rfl k) ?_
  show Good p e below _ (T11.setTop (mkF m 18 #[.val (.ref r0), .val (.ref r1), .val (.ref r2), .val (.int p3)] []))
  refine Good.back (fun _ k => XS.aloadN X11.here hx rfl (hb hby own_d6_18) rfl rfl k) ?_
  show Good p e below _ (T11.setTop (mkF m 19 #[.val (.ref r0), .val (.ref r1), .val (.ref r2), .val (.int p3)] [(.ref r0)]))
  refine Good.back (fun _ k => XS.aloadN X11.here hx rfl (hb hby own_d6_19) rfl rfl k) ?_
  show Good p e below _ (T11.setTop (mkF m 20 #[.val (.ref r0), .val (.ref r1), .val (.ref r2), .val (.int p3)] [(.ref r1), (.ref r0)]))
  have f_12 : Fld Z h2 r0 "com/example/liken/liken/eval/Judgment" "query" "Ljava/lang/String;" .null := Fld.ext E2 F_query
  have f_13 : Fld Z h7 r0 "com/example/liken/liken/eval/Judgment" "query" "Ljava/lang/String;" .null := Fld.ext E7 f_12
  have f_14 : Exa Z h2 r0 "com/example/liken/liken/eval/Judgment" := Exa.ext E2 E0
  have f_15 : Exa Z h7 r0 "com/example/liken/liken/eval/Judgment" := Exa.ext E7 f_14
  obtain ⟨T16, h16, X16, e16, W16, st16⟩ := putF X11 hx hZ7 hown7 (host := "") (Or.inl (hw _ (List.mem_of_getElem? (i := 46) rfl))) Via.refl eh11 f_13 f_15 (Or.inr ⟨(hw _ (List.mem_of_getElem? (i := 47) rfl)), rfl, hnm⟩) (hw _ (List.mem_of_getElem? (i := 27) rfl)) (ty := (.object "java/lang/String")) (by decide) rfl rfl (g := (mkF m 20 #[.val (.ref r0), .val (.ref r1), .val (.ref r2), .val (.int p3)] [(.ref r1), (.ref r0)])) rfl rfl (hb hby own_d6_20)
  refine Good.back st16 ?_
  have f_17 : Fld Z h16 r0 "com/example/liken/liken/eval/Judgment" "query" "Ljava/lang/String;" (.ref r1) := Fld.same W16 f_13
  have N16 := Fr.snoc X16 N11 g0
  have Z18 : n0 ≤ h16.size := Nat.le_trans Z8 (Keep.of_wr W16).1
  have hk19 := Nat.le_trans hk7 (Keep.of_wr W16).1
  have K20 : Keep h0 h16 [r0] := K10.wr W16 (Or.inl (List.mem_of_getElem? (i := 0) rfl))
  show Good p e below _ (T16.setTop (mkF m 23 #[.val (.ref r0), .val (.ref r1), .val (.ref r2), .val (.int p3)] []))
  refine Good.back (fun _ k => XS.aloadN X16.here hx rfl (hb hby own_d6_23) rfl rfl k) ?_
  show Good p e below _ (T16.setTop (mkF m 24 #[.val (.ref r0), .val (.ref r1), .val (.ref r2), .val (.int p3)] [(.ref r0)]))
  refine Good.back (fun _ k => XS.aloadN X16.here hx rfl (hb hby own_d6_24) rfl rfl k) ?_
  show Good p e below _ (T16.setTop (mkF m 25 #[.val (.ref r0), .val (.ref r1), .val (.ref r2), .val (.int p3)] [(.ref r2), (.ref r0)]))
  have f_21 : Fld Z h2 r0 "com/example/liken/liken/eval/Judgment" "document" "Ljava/lang/String;" .null := Fld.ext E2 F_document
  have f_22 : Fld Z h7 r0 "com/example/liken/liken/eval/Judgment" "document" "Ljava/lang/String;" .null := Fld.ext E7 f_21
  have f_23 : Fld Z h16 r0 "com/example/liken/liken/eval/Judgment" "document" "Ljava/lang/String;" .null := Fld.other W16 f_22 (Or.inr (slot_ne (Or.inr (hw _ (List.mem_of_getElem? (i := 49) rfl))) (Or.inr (hw _ (List.mem_of_getElem? (i := 47) rfl))) (by decide) (t := (.object "java/lang/String")) (t' := (.object "java/lang/String")) (by decide) (by decide)))
  have f_24 : Exa Z h16 r0 "com/example/liken/liken/eval/Judgment" := Exa.wr W16 f_15
  obtain ⟨T25, h25, X25, e25, W25, st25⟩ := putF X16 hx hZ7 hown7 (host := "") (Or.inl (hw _ (List.mem_of_getElem? (i := 48) rfl))) Via.refl e16 f_23 f_24 (Or.inr ⟨(hw _ (List.mem_of_getElem? (i := 49) rfl)), rfl, hnm⟩) (hw _ (List.mem_of_getElem? (i := 27) rfl)) (ty := (.object "java/lang/String")) (by decide) rfl rfl (g := (mkF m 25 #[.val (.ref r0), .val (.ref r1), .val (.ref r2), .val (.int p3)] [(.ref r2), (.ref r0)])) rfl rfl (hb hby own_d6_25)
  refine Good.back st25 ?_
  have f_26 : Fld Z h25 r0 "com/example/liken/liken/eval/Judgment" "document" "Ljava/lang/String;" (.ref r2) := Fld.same W25 f_23
  have N25 := Fr.snoc X25 N16 g0
  have Z27 : n0 ≤ h25.size := Nat.le_trans Z18 (Keep.of_wr W25).1
  have hk28 := Nat.le_trans hk19 (Keep.of_wr W25).1
  have K29 : Keep h0 h25 [r0] := K20.wr W25 (Or.inl (List.mem_of_getElem? (i := 0) rfl))
  show Good p e below _ (T25.setTop (mkF m 28 #[.val (.ref r0), .val (.ref r1), .val (.ref r2), .val (.int p3)] []))
  refine Good.back (fun _ k => XS.aloadN X25.here hx rfl (hb hby own_d6_28) rfl rfl k) ?_
  show Good p e below _ (T25.setTop (mkF m 29 #[.val (.ref r0), .val (.ref r1), .val (.ref r2), .val (.int p3)] [(.ref r0)]))
  refine Good.back (fun _ k => XS.iloadN X25.here hx rfl (hb hby own_d6_29) rfl k) ?_
  show Good p e below _ (T25.setTop (mkF m 30 #[.val (.ref r0), .val (.ref r1), .val (.ref r2), .val (.int p3)] [(.int p3), (.ref r0)]))
  have f_30 : Fld Z h2 r0 "com/example/liken/liken/eval/Judgment" "grade" "I" (.int (0 : Int32)) := Fld.ext E2 F_grade
  have f_31 : Fld Z h7 r0 "com/example/liken/liken/eval/Judgment" "grade" "I" (.int (0 : Int32)) := Fld.ext E7 f_30
  have f_32 : Fld Z h16 r0 "com/example/liken/liken/eval/Judgment" "grade" "I" (.int (0 : Int32)) := Fld.other W16 f_31 (Or.inr (slot_ne (Or.inr (hw _ (List.mem_of_getElem? (i := 51) rfl))) (Or.inr (hw _ (List.mem_of_getElem? (i := 47) rfl))) (by decide) (t := .int) (t' := (.object "java/lang/String")) (by decide) (by decide)))
  have f_33 : Fld Z h25 r0 "com/example/liken/liken/eval/Judgment" "grade" "I" (.int (0 : Int32)) := Fld.other W25 f_32 (Or.inr (slot_ne (Or.inr (hw _ (List.mem_of_getElem? (i := 51) rfl))) (Or.inr (hw _ (List.mem_of_getElem? (i := 49) rfl))) (by decide) (t := .int) (t' := (.object "java/lang/String")) (by decide) (by decide)))
  have f_34 : Exa Z h25 r0 "com/example/liken/liken/eval/Judgment" := Exa.wr W25 f_24
  obtain ⟨T35, h35, X35, e35, W35, st35⟩ := putF X25 hx hZ7 hown7 (host := "") (Or.inl (hw _ (List.mem_of_getElem? (i := 50) rfl))) Via.refl e25 f_33 f_34 (Or.inr ⟨(hw _ (List.mem_of_getElem? (i := 51) rfl)), rfl, hnm⟩) (hw _ (List.mem_of_getElem? (i := 27) rfl)) (ty := .int) (by decide) rfl rfl (g := (mkF m 30 #[.val (.ref r0), .val (.ref r1), .val (.ref r2), .val (.int p3)] [(.int p3), (.ref r0)])) rfl rfl (hb hby own_d6_30)
  refine Good.back st35 ?_
  have f_36 : Fld Z h35 r0 "com/example/liken/liken/eval/Judgment" "grade" "I" (.int p3) := Fld.same W35 f_33
  have N35 := Fr.snoc X35 N25 g0
  have Z37 : n0 ≤ h35.size := Nat.le_trans Z27 (Keep.of_wr W35).1
  have hk38 := Nat.le_trans hk28 (Keep.of_wr W35).1
  have K39 : Keep h0 h35 [r0] := K29.wr W35 (Or.inl (List.mem_of_getElem? (i := 0) rfl))
  show Good p e below _ (T35.setTop (mkF m 33 #[.val (.ref r0), .val (.ref r1), .val (.ref r2), .val (.int p3)] []))
  obtain ⟨fs40, hr40, hrun40, hended40, hRE40⟩ := leaveW X35 hS7 (by rw [e35]; exact hk38) (v := none) (fun _ => rfl)
  refine Good.done (X35.returnOut hx Bd.returns (hb hby own_d6_33) hr40) hrun40 hended40 ⟨_, _, rfl, ?_, hRE40.1, hRE40.2.1, hRE40.2.2.1, hRE40.2.2.2.mono (by decide) (by decide)⟩
  show Q6 Z r0 r1 r2 p3 h0 n0 _ T35.heap _
  rw [e35]
  exact ⟨rfl, N35, K39, f_36⟩
theorem own_d9_0 : decode prog_49_method_3_code 0 = .ok (.aload_n 0, 1) := by decide +kernel
theorem own_d9_1 : decode prog_49_method_3_code 1 = .ok (.getfield 24, 3) := by decide +kernel
theorem own_d9_4 : decode prog_49_method_3_code 4 = .ok (.ifCond .le 7, 3) := by decide +kernel
theorem own_d9_7 : decode prog_49_method_3_code 7 = .ok (.iconst 1, 1) := by decide +kernel
theorem own_d9_8 : decode prog_49_method_3_code 8 = .ok (.goto 4, 3) := by decide +kernel
theorem own_d9_11 : decode prog_49_method_3_code 11 = .ok (.iconst 0, 1) := by decide +kernel
theorem own_d9_12 : decode prog_49_method_3_code 12 = .ok (.ireturn, 1) := by decide +kernel
theorem own_ef_9 (m : MethodId) (x0 : Addr) : entryFrame m #[(.ref x0)] 1 = mkF m 0 #[.val (.ref x0)] [] := by first | (simp [entryFrame, mkF, argsToLocals, Value.category]; done) | rfl
def Q9 (Z : State) (r0 : Addr) (w : Int32) (h0 : Heap) (n0 : Nat) (v : Option Value) (h : Heap) (L : List Loc) : Prop := v = some (.int (if (0 : Int32) < w then (1 : Int32) else (0 : Int32))) ∧ Fr n0 L ∧ h = h0
set_option maxRecDepth 65536 in
set_option maxHeartbeats 40000000 in
theorem rm9 (l : Launch) (Z : State) (a0 : Array Value) (hw : ∀ d ∈ tables_1, d.before a0 Z = true) (ws : List Jvm.Cond) (r0 : Addr) (w : Int32) (h0 : Heap) (n0 : Nat) (Z0 : n0 ≤ h0.size) (F0 : Fld Z h0 r0 "com/example/liken/liken/eval/Judgment" "grade" "I" (.int w)) :
    MetFree l (⟨"com/example/liken/liken/eval/Judgment", "isRelevant", "()Z"⟩ : MethodName) (head1 (Jvm.Cond.code (⟨"com/example/liken/liken/eval/Judgment", "isRelevant", "()Z"⟩ : MethodName) prog_49_method_3_code 1 (some .boolean) :: ws) ({ frames := 0, cells := 0, slots := 0, locals := 0 } : Room)) (fun a U => a = #[(.ref r0)] ∧ Z.Warmed39 U.vm ∧ U.heap = h0) (fun _ _ _ _ _ => True) (fun _ U o U' => ∃ v L, o = .returned v ∧ Q9 Z r0 w h0 n0 v U'.heap L ∧ FrameEnd U o U' L ({ frames := 0, cells := 0, slots := 0, locals := 0 } : Room).cells ({ frames := 0, cells := 0, slots := 0, locals := 0 } : Room).slots) := by
  refine MetFree.of_bodySF (plainFor_of_name own_pn4) hisR ?_
  intro p e s m args below meth c s₁ Bd hml0 hP hK
  obtain ⟨rfl, hZ, hh⟩ := hP
  have hx := Bd.exec
  have hby := Bd.bytes
  have hml : c.maxLocals = 1 := hml0
  have hown : s.vm.findClass "com/example/liken/liken/eval/Judgment" = some m.cls := findClass_of_methodNamed Bd.named
  have hnm := (name_of_methodNamed Bd.named Bd.method).1
  have X0 : Stand p l e ({ frames := 0, cells := 0, slots := 0, locals := 0 } : Room) s m #[(.ref r0)] below meth c s₁ [] 0 0 := Stand.of_body Bd
  have e0 : s₁.heap = h0 := by rw [← hh, Bd.state]; rfl
  have N0 := Fr.nil n0
  show Good p e below (fun o U' => ∃ v L, o = .returned v ∧ Q9 Z r0 w h0 n0 v U'.heap L ∧ FrameEnd s o U' L ({ frames := 0, cells := 0, slots := 0, locals := 0 } : Room).cells ({ frames := 0, cells := 0, slots := 0, locals := 0 } : Room).slots) _
  refine Good.back (S' := s₁.setTop (mkF m 0 #[.val (.ref r0)] [])) (fun t k => castTop (own_ef_9 m r0) k) ?_
  show Good p e below _ (s₁.setTop (mkF m 0 #[.val (.ref r0)] []))
  refine Good.back (fun _ k => XS.aloadN X0.here hx rfl (hb hby own_d9_0) rfl rfl k) ?_
  show Good p e below _ (s₁.setTop (mkF m 1 #[.val (.ref r0)] [(.ref r0)]))
  obtain ⟨T1, X1, e1, st1⟩ := getF X0 hx hZ hown (host := "") (Or.inl (hw _ (List.mem_of_getElem? (i := 50) rfl))) Via.refl e0 F0 (g := (mkF m 1 #[.val (.ref r0)] [(.ref r0)])) rfl rfl (hb hby own_d9_1)
  refine Good.back st1 ?_
  show Good p e below _ (T1.setTop (mkF m 4 #[.val (.ref r0)] [(.int w)]))
  by_cases hc4_2 : (0 : Int32) < w
  · refine Good.back (fun _ k => XS.ifNo X1.here hx rfl (hb hby own_d9_4) rfl ((if0 _ _).trans (tlt hc4_2).2.2.2) k) ?_
    show Good p e below _ (T1.setTop (mkF m 7 #[.val (.ref r0)] []))
    refine Good.back (fun _ k => XS.iconst X1.here hx rfl (hb hby own_d9_7) k) ?_
    show Good p e below _ (T1.setTop (mkF m 8 #[.val (.ref r0)] [(.int (1 : Int32))]))
    refine Good.back (fun _ k => XS.goto X1.here hx rfl (pc0 := 8) (pc' := 12) rfl (hb hby own_d9_8) (by decide) (by decide) k) ?_
    show Good p e below _ (T1.setTop (mkF m 12 #[.val (.ref r0)] [(.int (1 : Int32))]))
    obtain ⟨fs3, hr3, hrun3, hended3, hW3, hsame3⟩ := X1.leave (v := some (.int (1 : Int32))) (fun h => by rw [Bd.returns] at h; cases h)
    refine Good.done (retN X1 hx (t := .boolean) Bd.returns (by simp) (hb hby own_d9_12) hr3) hrun3 hended3 ⟨_, _, rfl, ?_, ⟨_, rfl⟩, hW3, hsame3.mono (by decide) (by decide)⟩
    show Q9 Z r0 w h0 n0 _ T1.heap _
    rw [e1]
    exact ⟨by rw [if_pos hc4_2], N0, rfl⟩
  · refine Good.back (fun _ k => XS.ifYes X1.here hx rfl (pc0 := 4) (pc' := 11) rfl (hb hby own_d9_4) rfl ((if0 _ _).trans (flt hc4_2).2.2.2) (by decide) (by decide) k) ?_
    show Good p e below _ (T1.setTop (mkF m 11 #[.val (.ref r0)] []))
    refine Good.back (fun _ k => XS.iconst X1.here hx rfl (hb hby own_d9_11) k) ?_
    show Good p e below _ (T1.setTop (mkF m 12 #[.val (.ref r0)] [(.int (0 : Int32))]))
    obtain ⟨fs4, hr4, hrun4, hended4, hW4, hsame4⟩ := X1.leave (v := some (.int (0 : Int32))) (fun h => by rw [Bd.returns] at h; cases h)
    refine Good.done (retN X1 hx (t := .boolean) Bd.returns (by simp) (hb hby own_d9_12) hr4) hrun4 hended4 ⟨_, _, rfl, ?_, ⟨_, rfl⟩, hW4, hsame4.mono (by decide) (by decide)⟩
    show Q9 Z r0 w h0 n0 _ T1.heap _
    rw [e1]
    exact ⟨by rw [if_neg hc4_2], N0, rfl⟩
theorem own_pd74 : parseMethodDescriptor "(C)Ljava/lang/String;" = some ⟨[.char], some (.object "java/lang/String")⟩ := by decide +kernel
theorem own_pd75 : parseMethodDescriptor "(Ljava/lang/String;Ljava/lang/String;I)V" = some ⟨[(.object "java/lang/String"), (.object "java/lang/String"), .int], none⟩ := by decide +kernel
theorem own_pd76 : parseMethodDescriptor "()Z" = some ⟨[], some .boolean⟩ := by decide +kernel
theorem own_pn5 : plainName "com/example/liken/liken/eval/JudgmentIsRelevantPinLaw" = true := by first | (simp [plainName, overriddenIn]; done) | decide +kernel
theorem own_ef_0 (m : MethodId) (x0 : Int32) (x1 : Int32) (x2 : Int32) : entryFrame m #[(.int x0), (.int x1), (.int x2)] maxLocals = mkF m 0 #[.val (.int x0), .val (.int x1), .val (.int x2), .unset, .unset, .unset, .unset, .unset, .unset, .unset, .unset] [] := by first | (simp [entryFrame, mkF, argsToLocals, Value.category, maxLocals]; done) | rfl
def Q0 (Z : State) (p0 : Int32) (p1 : Int32) (p2 : Int32) (cs : Int32) (h0 : Heap) (n0 : Nat) (v : Option Value) (h : Heap) (L : List Loc) : Prop := v = some (.int 1) ∧ Fr n0 L
set_option maxRecDepth 65536 in
set_option maxHeartbeats 40000000 in
theorem rm0 (l : Launch) (Z : State) (a0 : Array Value) (hw : ∀ d ∈ tables_1, d.before a0 Z = true) (ws : List Jvm.Cond) (p0 : Int32) (p1 : Int32) (p2 : Int32) (cs : Int32) (h0 : Heap) (n0 : Nat) (Z0 : n0 ≤ h0.size) (S_cs : Sta Z h0 "java/lang/String" "COMPACT_STRINGS" "Z" (.int cs)) (hcs : ¬ (cs = (0 : Int32))) :
    MetFree l x (head1 (Jvm.Cond.code x code maxLocals ret :: ws) room_1) (fun a U => a = #[(.int p0), (.int p1), (.int p2)] ∧ Z.Warmed39 U.vm ∧ U.heap = h0) (fun _ _ _ _ _ => True) (fun _ U o U' => ∃ v L, o = .returned v ∧ Q0 Z p0 p1 p2 cs h0 n0 v U'.heap L ∧ ReturnedEndW U o U' L 32 2176) := by
  refine MetFree.of_bodySF (plainFor_of_name own_pn5) hisR ?_
  intro p e s m args below meth c s₁ Bd hml0 hP hK
  obtain ⟨rfl, hZ, hh⟩ := hP
  have hx := Bd.exec
  have hby := Bd.bytes
  have hml : c.maxLocals = 11 := hml0
  have hown : s.vm.findClass "com/example/liken/liken/eval/JudgmentIsRelevantPinLaw" = some m.cls := findClass_of_methodNamed Bd.named
  have hnm := (name_of_methodNamed Bd.named Bd.method).1
  have X0 : Stand p l e room_1 s m #[(.int p0), (.int p1), (.int p2)] below meth c s₁ [] 0 0 := Stand.of_body Bd
  have e0 : s₁.heap = h0 := by rw [← hh, Bd.state]; rfl
  have N0 := Fr.nil n0
  have X0c : Stand p l e room_1 (s.setVm s.vm) m #[(.int p0), (.int p1), (.int p2)] below meth c s₁ [] 0 0 := X0
  have hS0 : s.Since s.vm 0 := (State.WarmedH.refl s).since 0
  have hk0 : 0 ≤ h0.size := Nat.zero_le _
  have hZ0 : Z.Warmed39 (s.setVm s.vm).vm := hZ
  have hown0 : (s.setVm s.vm).vm.findClass "com/example/liken/liken/eval/JudgmentIsRelevantPinLaw" = some m.cls := hown
  show Good p e below (fun o U' => ∃ v L, o = .returned v ∧ Q0 Z p0 p1 p2 cs h0 n0 v U'.heap L ∧ ReturnedEndW s o U' L 32 2176) _
  refine Good.back (S' := s₁.setTop (mkF m 0 #[.val (.int p0), .val (.int p1), .val (.int p2), .unset, .unset, .unset, .unset, .unset, .unset, .unset, .unset] [])) (fun t k => castTop (own_ef_0 m p0 p1 p2) k) ?_
  show Good p e below _ (s₁.setTop (mkF m 0 #[.val (.int p0), .val (.int p1), .val (.int p2), .unset, .unset, .unset, .unset, .unset, .unset, .unset, .unset] []))
  refine Good.back (fun _ k => XS.iloadN X0c.here hx rfl (hb hby at_0) rfl k) ?_
  show Good p e below _ (s₁.setTop (mkF m 1 #[.val (.int p0), .val (.int p1), .val (.int p2), .unset, .unset, .unset, .unset, .unset, .unset, .unset, .unset] [(.int p1)]))
  refine Good.back (fun _ k => XS.sipush X0c.here hx rfl (hb hby at_1) k) ?_
  show Good p e below _ (s₁.setTop (mkF m 4 #[.val (.int p0), .val (.int p1), .val (.int p2), .unset, .unset, .unset, .unset, .unset, .unset, .unset, .unset] [(.int (255 : Int32)), (.int p1)]))
  refine Good.back (fun _ k => XS.iand X0c.here hx rfl (hb hby at_4) rfl k) ?_
  show Good p e below _ (s₁.setTop (mkF m 5 #[.val (.int p0), .val (.int p1), .val (.int p2), .unset, .unset, .unset, .unset, .unset, .unset, .unset, .unset] [(.int (p1 &&& (255 : Int32)))]))
  refine Good.back (fun _ k => XS.i2c X0c.here hx rfl (hb hby at_5) rfl k) ?_
  show Good p e below _ (s₁.setTop (mkF m 6 #[.val (.int p0), .val (.int p1), .val (.int p2), .unset, .unset, .unset, .unset, .unset, .unset, .unset, .unset] [(.int ((p1 &&& (255 : Int32)).toUInt32.toUInt16.toUInt32.toInt32))]))
  obtain ⟨_, _, ⟨T1, L1, k1, n1⟩, -, X1, ⟨Lc1, hQ1, l1, y1, z1⟩, st1⟩ := Jvm.LawKit.callS X0c hx (y := (⟨"java/lang/String", "valueOf", "(C)Ljava/lang/String;"⟩ : MethodName)) hown0 (mvT hZ0 (hw _ (List.mem_of_getElem? (i := 0) rfl))) (mvT hZ0 (hw _ (List.mem_of_getElem? (i := 1) rfl))) (mvT hZ0 (hw _ (List.mem_of_getElem? (i := 2) rfl))) (mvT hZ0 (hw _ (List.mem_of_getElem? (i := 3) rfl))) (by decide) (backOf (W := 0) (rm1 l Z a0 hw [] ((p1 &&& (255 : Int32)).toUInt32.toUInt16.toUInt32.toInt32) cs h0 n0 Z0 S_cs (hcs) (own_char p1)) hZ0 (hw _ (List.mem_of_getElem? (i := 3) rfl)) (hw _ (List.mem_of_getElem? (i := 2) rfl)) (by decide) (by decide)) (g := (mkF m 6 #[.val (.int p0), .val (.int p1), .val (.int p2), .unset, .unset, .unset, .unset, .unset, .unset, .unset, .unset] [(.int ((p1 &&& (255 : Int32)).toUInt32.toUInt16.toUInt32.toInt32))])) rfl (by rw [hml]; rfl) (argsL := [(.int ((p1 &&& (255 : Int32)).toUInt32.toUInt16.toUInt32.toInt32))]) (rest := []) (lenOf own_pd74 rfl) rfl (by show 2 * 0 + _ ≤ _; exact Nat.le_of_eq rfl) (hb hby at_6) (fun _ _ => ⟨rfl, e0, (by decide : 0 + 2 ≤ _), (by decide : 0 + 5 ≤ _)⟩)
  dsimp only [Pt.U, Pt.locs, Pt.cells, Pt.slots] at X1 l1 y1 z1 st1 hQ1
  subst l1 y1 z1
  obtain ⟨sr_1, ar_1, kk_1, rfl, N1q, Kq1, o1_0, o1_1, o1_2, o1_3, o1_4, o1_5, o1_6⟩ := hQ1
  have N1 := Fr.app N0 N1q
  have Z2 : n0 ≤ T1.heap.size := Nat.le_trans Z0 Kq1.1
  have hk3 := Nat.le_trans hk0 Kq1.1
  have g_sr_1 : n0 ≤ sr_1 := Nat.le_trans Z0 o1_0
  have g_ar_1 : n0 ≤ ar_1 := Nat.le_trans Z0 o1_1
  refine Good.back st1 ?_
  show Good p e below _ (T1.setTop (mkF m 9 #[.val (.int p0), .val (.int p1), .val (.int p2), .unset, .unset, .unset, .unset, .unset, .unset, .unset, .unset] [(.ref sr_1)]))
  refine Good.back (fun _ k => XS.astoreN X1.here hx rfl (hb hby at_9) rfl rfl (l' := #[.val (.int p0), .val (.int p1), .val (.int p2), .val (.ref sr_1), .unset, .unset, .unset, .unset, .unset, .unset, .unset]) rfl k) ?_
  show Good p e below _ (T1.setTop (mkF m 10 #[.val (.int p0), .val (.int p1), .val (.int p2), .val (.ref sr_1), .unset, .unset, .unset, .unset, .unset, .unset, .unset] []))
  refine Good.back (fun _ k => XS.iloadN X1.here hx rfl (hb hby at_10) rfl k) ?_
  show Good p e below _ (T1.setTop (mkF m 11 #[.val (.int p0), .val (.int p1), .val (.int p2), .val (.ref sr_1), .unset, .unset, .unset, .unset, .unset, .unset, .unset] [(.int p2)]))
  refine Good.back (fun _ k => XS.sipush X1.here hx rfl (hb hby at_11) k) ?_
  show Good p e below _ (T1.setTop (mkF m 14 #[.val (.int p0), .val (.int p1), .val (.int p2), .val (.ref sr_1), .unset, .unset, .unset, .unset, .unset, .unset, .unset] [(.int (255 : Int32)), (.int p2)]))
  refine Good.back (fun _ k => XS.iand X1.here hx rfl (hb hby at_14) rfl k) ?_
  show Good p e below _ (T1.setTop (mkF m 15 #[.val (.int p0), .val (.int p1), .val (.int p2), .val (.ref sr_1), .unset, .unset, .unset, .unset, .unset, .unset, .unset] [(.int (p2 &&& (255 : Int32)))]))
  refine Good.back (fun _ k => XS.i2c X1.here hx rfl (hb hby at_15) rfl k) ?_
  show Good p e below _ (T1.setTop (mkF m 16 #[.val (.int p0), .val (.int p1), .val (.int p2), .val (.ref sr_1), .unset, .unset, .unset, .unset, .unset, .unset, .unset] [(.int ((p2 &&& (255 : Int32)).toUInt32.toUInt16.toUInt32.toInt32))]))
  have f_5 : Sta Z T1.heap "java/lang/String" "COMPACT_STRINGS" "Z" (.int cs) := own_staKeep S_cs Kq1 all0
  obtain ⟨_, _, ⟨T4, L4, k4, n4⟩, -, X4, ⟨Lc4, hQ4, l4, y4, z4⟩, st4⟩ := Jvm.LawKit.callS X1 hx (y := (⟨"java/lang/String", "valueOf", "(C)Ljava/lang/String;"⟩ : MethodName)) hown0 (mvT hZ0 (hw _ (List.mem_of_getElem? (i := 0) rfl))) (mvT hZ0 (hw _ (List.mem_of_getElem? (i := 1) rfl))) (mvT hZ0 (hw _ (List.mem_of_getElem? (i := 2) rfl))) (mvT hZ0 (hw _ (List.mem_of_getElem? (i := 3) rfl))) (by decide) (backOf (W := 0) (rm1 l Z a0 hw [] ((p2 &&& (255 : Int32)).toUInt32.toUInt16.toUInt32.toInt32) cs T1.heap n0 Z2 f_5 (hcs) (own_char p2)) hZ0 (hw _ (List.mem_of_getElem? (i := 3) rfl)) (hw _ (List.mem_of_getElem? (i := 2) rfl)) (by decide) (by decide)) (g := (mkF m 16 #[.val (.int p0), .val (.int p1), .val (.int p2), .val (.ref sr_1), .unset, .unset, .unset, .unset, .unset, .unset, .unset] [(.int ((p2 &&& (255 : Int32)).toUInt32.toUInt16.toUInt32.toInt32))])) rfl (by rw [hml]; rfl) (argsL := [(.int ((p2 &&& (255 : Int32)).toUInt32.toUInt16.toUInt32.toInt32))]) (rest := []) (lenOf own_pd74 rfl) rfl (by show 2 * 0 + _ ≤ _; exact Nat.le_of_eq rfl) (hb hby at_16) (fun _ _ => ⟨rfl, rfl, (by decide : 2 + 2 ≤ _), (by decide : 5 + 5 ≤ _)⟩)
  dsimp only [Pt.U, Pt.locs, Pt.cells, Pt.slots] at X4 l4 y4 z4 st4 hQ4
  subst l4 y4 z4
  obtain ⟨sr_4, ar_4, kk_4, rfl, N4q, Kq4, o4_0, o4_1, o4_2, o4_3, o4_4, o4_5, o4_6⟩ := hQ4
  have N4 := Fr.app N1 N4q
  have Z6 : n0 ≤ T4.heap.size := Nat.le_trans Z2 Kq4.1
  have hk7 := Nat.le_trans hk3 Kq4.1
  have g_sr_4 : n0 ≤ sr_4 := Nat.le_trans Z2 o4_0
  have g_ar_4 : n0 ≤ ar_4 := Nat.le_trans Z2 o4_1
  refine Good.back st4 ?_
  show Good p e below _ (T4.setTop (mkF m 19 #[.val (.int p0), .val (.int p1), .val (.int p2), .val (.ref sr_1), .unset, .unset, .unset, .unset, .unset, .unset, .unset] [(.ref sr_4)]))
  refine Good.back (fun _ k => XS.astore X4.here hx rfl (hb hby at_19) rfl rfl (l' := #[.val (.int p0), .val (.int p1), .val (.int p2), .val (.ref sr_1), .val (.ref sr_4), .unset, .unset, .unset, .unset, .unset, .unset]) rfl k) ?_
  show Good p e below _ (T4.setTop (mkF m 21 #[.val (.int p0), .val (.int p1), .val (.int p2), .val (.ref sr_1), .val (.ref sr_4), .unset, .unset, .unset, .unset, .unset, .unset] []))
  obtain ⟨T8, h8, X8, e8, E8, A8, D8, -, st8⟩ := newO X4 hx hZ0 hown0 (hw _ (List.mem_of_getElem? (i := 26) rfl)) (hw _ (List.mem_of_getElem? (i := 27) rfl)) (hw _ (List.mem_of_getElem? (i := 28) rfl)) rfl (g := (mkF m 21 #[.val (.int p0), .val (.int p1), .val (.int p2), .val (.ref sr_1), .val (.ref sr_4), .unset, .unset, .unset, .unset, .unset, .unset] [])) rfl (hb hby at_21) (by decide) (by decide)
  obtain ⟨b8, g8⟩ : ∃ z, z = T4.heap.size := ⟨_, rfl⟩
  rw [← g8] at A8 D8 st8
  refine Good.back st8 ?_
  have g_b8 : n0 ≤ b8 := Nat.le_trans Z6 (Nat.le_of_eq g8.symm)
  have Z9 : n0 ≤ h8.size := Nat.le_trans Z6 E8.1
  have hk10 := Nat.le_trans hk7 E8.1
  have f_11 : Exa Z h8 b8 "com/example/liken/liken/eval/Judgment" := A8
  have f_12 : Fld Z h8 b8 "com/example/liken/liken/eval/Judgment" "query" "Ljava/lang/String;" .null := D8 (Or.inr (hw _ (List.mem_of_getElem? (i := 47) rfl))) (ty := (.object "java/lang/String")) (by decide)
  have f_13 : Fld Z h8 b8 "com/example/liken/liken/eval/Judgment" "document" "Ljava/lang/String;" .null := D8 (Or.inr (hw _ (List.mem_of_getElem? (i := 49) rfl))) (ty := (.object "java/lang/String")) (by decide)
  have f_14 : Fld Z h8 b8 "com/example/liken/liken/eval/Judgment" "grade" "I" (.int (0 : Int32)) := D8 (Or.inr (hw _ (List.mem_of_getElem? (i := 51) rfl))) (ty := .int) (by decide)
  show Good p e below _ (T8.setTop (mkF m 24 #[.val (.int p0), .val (.int p1), .val (.int p2), .val (.ref sr_1), .val (.ref sr_4), .unset, .unset, .unset, .unset, .unset, .unset] [(.ref b8)]))
  refine Good.back (fun _ k => XS.dup X8.here hx rfl (hb hby at_24) rfl rfl k) ?_
  show Good p e below _ (T8.setTop (mkF m 25 #[.val (.int p0), .val (.int p1), .val (.int p2), .val (.ref sr_1), .val (.ref sr_4), .unset, .unset, .unset, .unset, .unset, .unset] [(.ref b8), (.ref b8)]))
  refine Good.back (fun _ k => XS.aloadN X8.here hx rfl (hb hby at_25) rfl rfl k) ?_
  show Good p e below _ (T8.setTop (mkF m 26 #[.val (.int p0), .val (.int p1), .val (.int p2), .val (.ref sr_1), .val (.ref sr_4), .unset, .unset, .unset, .unset, .unset, .unset] [(.ref sr_1), (.ref b8), (.ref b8)]))
  refine Good.back (fun _ k => XS.aload X8.here hx rfl (hb hby at_26) rfl rfl k) ?_
  show Good p e below _ (T8.setTop (mkF m 28 #[.val (.int p0), .val (.int p1), .val (.int p2), .val (.ref sr_1), .val (.ref sr_4), .unset, .unset, .unset, .unset, .unset, .unset] [(.ref sr_4), (.ref sr_1), (.ref b8), (.ref b8)]))
  refine Good.back (fun _ k => XS.iloadN X8.here hx rfl (hb hby at_28) rfl k) ?_
  show Good p e below _ (T8.setTop (mkF m 29 #[.val (.int p0), .val (.int p1), .val (.int p2), .val (.ref sr_1), .val (.ref sr_4), .unset, .unset, .unset, .unset, .unset, .unset] [(.int p0), (.ref sr_4), (.ref sr_1), (.ref b8), (.ref b8)]))
  obtain ⟨_, _, ⟨T15, L15, k15, n15⟩, -, Xc15, hSc15, hgc15, ⟨Lc15, hQ15, l15, y15, z15⟩, st15⟩ := X8.specialBackS hx (y := (⟨"com/example/liken/liken/eval/Judgment", "<init>", "(Ljava/lang/String;Ljava/lang/String;I)V"⟩ : MethodName)) rfl hown0 (mvT hZ0 (hw _ (List.mem_of_getElem? (i := 29) rfl))) (mvT hZ0 (hw _ (List.mem_of_getElem? (i := 30) rfl))) (mvT hZ0 (hw _ (List.mem_of_getElem? (i := 31) rfl))) (by decide) (backOfS (W := 1) (rm6 l Z a0 hw [] b8 sr_1 sr_4 p0  h8 n0 Z9 f_11 g_b8 f_12 f_13 f_14) hZ0 (hw _ (List.mem_of_getElem? (i := 31) rfl)) (hw _ (List.mem_of_getElem? (i := 28) rfl)) (by decide) (by decide)) (g := (mkF m 29 #[.val (.int p0), .val (.int p1), .val (.int p2), .val (.ref sr_1), .val (.ref sr_4), .unset, .unset, .unset, .unset, .unset, .unset] [(.int p0), (.ref sr_4), (.ref sr_1), (.ref b8), (.ref b8)])) rfl (by rw [hml]; rfl) (Steps.refl _) (a := b8) (argsL := [(.ref sr_1), (.ref sr_4), (.int p0)]) (rest := [(.ref b8)]) (lenOf own_pd75 rfl) rfl (by show 2 * 0 + _ ≤ _; exact Nat.le_of_eq rfl) (hb hby at_29) (fun _ _ => ⟨rfl, e8, (by decide : 5 + 4 ≤ _), (by decide : 13 + 60 ≤ _)⟩)
  dsimp only [Pt.U, Pt.locs, Pt.cells, Pt.slots] at Xc15 hSc15 hgc15 l15 y15 z15 st15 hQ15
  subst l15 y15 z15
  obtain ⟨X15, hS15, hZ15, hown15⟩ := rebS hS0 (by rw [e8]; exact hk10) Xc15 hSc15 hgc15 hZ0 hown0
  obtain ⟨rfl, N15q, Kq15, o15_0⟩ := hQ15
  have N15 := Fr.app N4 N15q
  have Z16 : n0 ≤ T15.heap.size := Nat.le_trans Z9 Kq15.1
  have hk17 := Nat.le_trans hk10 Kq15.1
  refine Good.back (fun _ k => st15.trans k) ?_
  show Good p e below _ (T15.setTop (mkF m 32 #[.val (.int p0), .val (.int p1), .val (.int p2), .val (.ref sr_1), .val (.ref sr_4), .unset, .unset, .unset, .unset, .unset, .unset] [(.ref b8)]))
  refine Good.back (fun _ k => XS.astore X15.here hx rfl (hb hby at_32) rfl rfl (l' := #[.val (.int p0), .val (.int p1), .val (.int p2), .val (.ref sr_1), .val (.ref sr_4), .val (.ref b8), .unset, .unset, .unset, .unset, .unset]) rfl k) ?_
  show Good p e below _ (T15.setTop (mkF m 34 #[.val (.int p0), .val (.int p1), .val (.int p2), .val (.ref sr_1), .val (.ref sr_4), .val (.ref b8), .unset, .unset, .unset, .unset, .unset] []))
  obtain ⟨T18, h18, X18, e18, E18, A18, D18, -, st18⟩ := newO X15 hx hZ15 hown15 (hw _ (List.mem_of_getElem? (i := 26) rfl)) (hw _ (List.mem_of_getElem? (i := 27) rfl)) (hw _ (List.mem_of_getElem? (i := 28) rfl)) rfl (g := (mkF m 34 #[.val (.int p0), .val (.int p1), .val (.int p2), .val (.ref sr_1), .val (.ref sr_4), .val (.ref b8), .unset, .unset, .unset, .unset, .unset] [])) rfl (hb hby at_34) (by decide) (by decide)
  obtain ⟨b18, g18⟩ : ∃ z, z = T15.heap.size := ⟨_, rfl⟩
  rw [← g18] at A18 D18 st18
  refine Good.back st18 ?_
  have g_b18 : n0 ≤ b18 := Nat.le_trans Z16 (Nat.le_of_eq g18.symm)
  have Z19 : n0 ≤ h18.size := Nat.le_trans Z16 E18.1
  have hk20 := Nat.le_trans (Nat.le_refl _) E18.1
  have f_21 : Exa Z h18 b18 "com/example/liken/liken/eval/Judgment" := A18
  have f_22 : Fld Z h18 b18 "com/example/liken/liken/eval/Judgment" "query" "Ljava/lang/String;" .null := D18 (Or.inr (hw _ (List.mem_of_getElem? (i := 47) rfl))) (ty := (.object "java/lang/String")) (by decide)
  have f_23 : Fld Z h18 b18 "com/example/liken/liken/eval/Judgment" "document" "Ljava/lang/String;" .null := D18 (Or.inr (hw _ (List.mem_of_getElem? (i := 49) rfl))) (ty := (.object "java/lang/String")) (by decide)
  have f_24 : Fld Z h18 b18 "com/example/liken/liken/eval/Judgment" "grade" "I" (.int (0 : Int32)) := D18 (Or.inr (hw _ (List.mem_of_getElem? (i := 51) rfl))) (ty := .int) (by decide)
  show Good p e below _ (T18.setTop (mkF m 37 #[.val (.int p0), .val (.int p1), .val (.int p2), .val (.ref sr_1), .val (.ref sr_4), .val (.ref b8), .unset, .unset, .unset, .unset, .unset] [(.ref b18)]))
  refine Good.back (fun _ k => XS.dup X18.here hx rfl (hb hby at_37) rfl rfl k) ?_
  show Good p e below _ (T18.setTop (mkF m 38 #[.val (.int p0), .val (.int p1), .val (.int p2), .val (.ref sr_1), .val (.ref sr_4), .val (.ref b8), .unset, .unset, .unset, .unset, .unset] [(.ref b18), (.ref b18)]))
  refine Good.back (fun _ k => XS.aload X18.here hx rfl (hb hby at_38) rfl rfl k) ?_
  show Good p e below _ (T18.setTop (mkF m 40 #[.val (.int p0), .val (.int p1), .val (.int p2), .val (.ref sr_1), .val (.ref sr_4), .val (.ref b8), .unset, .unset, .unset, .unset, .unset] [(.ref sr_4), (.ref b18), (.ref b18)]))
  refine Good.back (fun _ k => XS.aloadN X18.here hx rfl (hb hby at_40) rfl rfl k) ?_
  show Good p e below _ (T18.setTop (mkF m 41 #[.val (.int p0), .val (.int p1), .val (.int p2), .val (.ref sr_1), .val (.ref sr_4), .val (.ref b8), .unset, .unset, .unset, .unset, .unset] [(.ref sr_1), (.ref sr_4), (.ref b18), (.ref b18)]))
  refine Good.back (fun _ k => XS.iloadN X18.here hx rfl (hb hby at_41) rfl k) ?_
  show Good p e below _ (T18.setTop (mkF m 42 #[.val (.int p0), .val (.int p1), .val (.int p2), .val (.ref sr_1), .val (.ref sr_4), .val (.ref b8), .unset, .unset, .unset, .unset, .unset] [(.int p0), (.ref sr_1), (.ref sr_4), (.ref b18), (.ref b18)]))
  obtain ⟨_, _, ⟨T25, L25, k25, n25⟩, -, Xc25, hSc25, hgc25, ⟨Lc25, hQ25, l25, y25, z25⟩, st25⟩ := X18.specialBackS hx (y := (⟨"com/example/liken/liken/eval/Judgment", "<init>", "(Ljava/lang/String;Ljava/lang/String;I)V"⟩ : MethodName)) rfl hown15 (mvT hZ15 (hw _ (List.mem_of_getElem? (i := 29) rfl))) (mvT hZ15 (hw _ (List.mem_of_getElem? (i := 30) rfl))) (mvT hZ15 (hw _ (List.mem_of_getElem? (i := 31) rfl))) (by decide) (backOfS (W := 1) (rm6 l Z a0 hw [] b18 sr_4 sr_1 p0  h18 n0 Z19 f_21 g_b18 f_22 f_23 f_24) hZ15 (hw _ (List.mem_of_getElem? (i := 31) rfl)) (hw _ (List.mem_of_getElem? (i := 28) rfl)) (by decide) (by decide)) (g := (mkF m 42 #[.val (.int p0), .val (.int p1), .val (.int p2), .val (.ref sr_1), .val (.ref sr_4), .val (.ref b8), .unset, .unset, .unset, .unset, .unset] [(.int p0), (.ref sr_1), (.ref sr_4), (.ref b18), (.ref b18)])) rfl (by rw [hml]; rfl) (Steps.refl _) (a := b18) (argsL := [(.ref sr_4), (.ref sr_1), (.int p0)]) (rest := [(.ref b18)]) (lenOf own_pd75 rfl) rfl (by show 2 * 0 + _ ≤ _; exact Nat.le_of_eq rfl) (hb hby at_42) (fun _ _ => ⟨rfl, e18, (by decide : 10 + 4 ≤ _), (by decide : 76 + 60 ≤ _)⟩)
  dsimp only [Pt.U, Pt.locs, Pt.cells, Pt.slots] at Xc25 hSc25 hgc25 l25 y25 z25 st25 hQ25
  subst l25 y25 z25
  obtain ⟨X25, hS25, hZ25, hown25⟩ := rebS hS15 (by rw [e18]; exact hk20) Xc25 hSc25 hgc25 hZ15 hown15
  obtain ⟨rfl, N25q, Kq25, o25_0⟩ := hQ25
  have N25 := Fr.app N15 N25q
  have Z26 : n0 ≤ T25.heap.size := Nat.le_trans Z19 Kq25.1
  have hk27 := Nat.le_trans hk20 Kq25.1
  refine Good.back (fun _ k => st25.trans k) ?_
  show Good p e below _ (T25.setTop (mkF m 45 #[.val (.int p0), .val (.int p1), .val (.int p2), .val (.ref sr_1), .val (.ref sr_4), .val (.ref b8), .unset, .unset, .unset, .unset, .unset] [(.ref b18)]))
  refine Good.back (fun _ k => XS.astore X25.here hx rfl (hb hby at_45) rfl rfl (l' := #[.val (.int p0), .val (.int p1), .val (.int p2), .val (.ref sr_1), .val (.ref sr_4), .val (.ref b8), .val (.ref b18), .unset, .unset, .unset, .unset]) rfl k) ?_
  show Good p e below _ (T25.setTop (mkF m 47 #[.val (.int p0), .val (.int p1), .val (.int p2), .val (.ref sr_1), .val (.ref sr_4), .val (.ref b8), .val (.ref b18), .unset, .unset, .unset, .unset] []))
  obtain ⟨T28, h28, X28, e28, E28, A28, D28, -, st28⟩ := newO X25 hx hZ25 hown25 (hw _ (List.mem_of_getElem? (i := 26) rfl)) (hw _ (List.mem_of_getElem? (i := 27) rfl)) (hw _ (List.mem_of_getElem? (i := 28) rfl)) rfl (g := (mkF m 47 #[.val (.int p0), .val (.int p1), .val (.int p2), .val (.ref sr_1), .val (.ref sr_4), .val (.ref b8), .val (.ref b18), .unset, .unset, .unset, .unset] [])) rfl (hb hby at_47) (by decide) (by decide)
  obtain ⟨b28, g28⟩ : ∃ z, z = T25.heap.size := ⟨_, rfl⟩
  rw [← g28] at A28 D28 st28
  refine Good.back st28 ?_
  have g_b28 : n0 ≤ b28 := Nat.le_trans Z26 (Nat.le_of_eq g28.symm)
  have Z29 : n0 ≤ h28.size := Nat.le_trans Z26 E28.1
  have hk30 := Nat.le_trans (Nat.le_refl _) E28.1
  have f_31 : Exa Z h28 b28 "com/example/liken/liken/eval/Judgment" := A28
  have f_32 : Fld Z h28 b28 "com/example/liken/liken/eval/Judgment" "query" "Ljava/lang/String;" .null := D28 (Or.inr (hw _ (List.mem_of_getElem? (i := 47) rfl))) (ty := (.object "java/lang/String")) (by decide)
  have f_33 : Fld Z h28 b28 "com/example/liken/liken/eval/Judgment" "document" "Ljava/lang/String;" .null := D28 (Or.inr (hw _ (List.mem_of_getElem? (i := 49) rfl))) (ty := (.object "java/lang/String")) (by decide)
  have f_34 : Fld Z h28 b28 "com/example/liken/liken/eval/Judgment" "grade" "I" (.int (0 : Int32)) := D28 (Or.inr (hw _ (List.mem_of_getElem? (i := 51) rfl))) (ty := .int) (by decide)
  show Good p e below _ (T28.setTop (mkF m 50 #[.val (.int p0), .val (.int p1), .val (.int p2), .val (.ref sr_1), .val (.ref sr_4), .val (.ref b8), .val (.ref b18), .unset, .unset, .unset, .unset] [(.ref b28)]))
  refine Good.back (fun _ k => XS.dup X28.here hx rfl (hb hby at_50) rfl rfl k) ?_
  show Good p e below _ (T28.setTop (mkF m 51 #[.val (.int p0), .val (.int p1), .val (.int p2), .val (.ref sr_1), .val (.ref sr_4), .val (.ref b8), .val (.ref b18), .unset, .unset, .unset, .unset] [(.ref b28), (.ref b28)]))
  refine Good.back (fun _ k => XS.aloadN X28.here hx rfl (hb hby at_51) rfl rfl k) ?_
  show Good p e below _ (T28.setTop (mkF m 52 #[.val (.int p0), .val (.int p1), .val (.int p2), .val (.ref sr_1), .val (.ref sr_4), .val (.ref b8), .val (.ref b18), .unset, .unset, .unset, .unset] [(.ref sr_1), (.ref b28), (.ref b28)]))
  refine Good.back (fun _ k => XS.aload X28.here hx rfl (hb hby at_52) rfl rfl k) ?_
  show Good p e below _ (T28.setTop (mkF m 54 #[.val (.int p0), .val (.int p1), .val (.int p2), .val (.ref sr_1), .val (.ref sr_4), .val (.ref b8), .val (.ref b18), .unset, .unset, .unset, .unset] [(.ref sr_4), (.ref sr_1), (.ref b28), (.ref b28)]))
  refine Good.back (fun _ k => XS.iconst X28.here hx rfl (hb hby at_54) k) ?_
  show Good p e below _ (T28.setTop (mkF m 55 #[.val (.int p0), .val (.int p1), .val (.int p2), .val (.ref sr_1), .val (.ref sr_4), .val (.ref b8), .val (.ref b18), .unset, .unset, .unset, .unset] [(.int (0 : Int32)), (.ref sr_4), (.ref sr_1), (.ref b28), (.ref b28)]))
  obtain ⟨_, _, ⟨T35, L35, k35, n35⟩, -, Xc35, hSc35, hgc35, ⟨Lc35, hQ35, l35, y35, z35⟩, st35⟩ := X28.specialBackS hx (y := (⟨"com/example/liken/liken/eval/Judgment", "<init>", "(Ljava/lang/String;Ljava/lang/String;I)V"⟩ : MethodName)) rfl hown25 (mvT hZ25 (hw _ (List.mem_of_getElem? (i := 29) rfl))) (mvT hZ25 (hw _ (List.mem_of_getElem? (i := 30) rfl))) (mvT hZ25 (hw _ (List.mem_of_getElem? (i := 31) rfl))) (by decide) (backOfS (W := 1) (rm6 l Z a0 hw [] b28 sr_1 sr_4 (0 : Int32)  h28 n0 Z29 f_31 g_b28 f_32 f_33 f_34) hZ25 (hw _ (List.mem_of_getElem? (i := 31) rfl)) (hw _ (List.mem_of_getElem? (i := 28) rfl)) (by decide) (by decide)) (g := (mkF m 55 #[.val (.int p0), .val (.int p1), .val (.int p2), .val (.ref sr_1), .val (.ref sr_4), .val (.ref b8), .val (.ref b18), .unset, .unset, .unset, .unset] [(.int (0 : Int32)), (.ref sr_4), (.ref sr_1), (.ref b28), (.ref b28)])) rfl (by rw [hml]; rfl) (Steps.refl _) (a := b28) (argsL := [(.ref sr_1), (.ref sr_4), (.int (0 : Int32))]) (rest := [(.ref b28)]) (lenOf own_pd75 rfl) rfl (by show 2 * 0 + _ ≤ _; exact Nat.le_of_eq rfl) (hb hby at_55) (fun _ _ => ⟨rfl, e28, (by decide : 15 + 4 ≤ _), (by decide : 139 + 60 ≤ _)⟩)
  dsimp only [Pt.U, Pt.locs, Pt.cells, Pt.slots] at Xc35 hSc35 hgc35 l35 y35 z35 st35 hQ35
  subst l35 y35 z35
  obtain ⟨X35, hS35, hZ35, hown35⟩ := rebS hS25 (by rw [e28]; exact hk30) Xc35 hSc35 hgc35 hZ25 hown25
  obtain ⟨rfl, N35q, Kq35, o35_0⟩ := hQ35
  have N35 := Fr.app N25 N35q
  have Z36 : n0 ≤ T35.heap.size := Nat.le_trans Z29 Kq35.1
  have hk37 := Nat.le_trans hk30 Kq35.1
  refine Good.back (fun _ k => st35.trans k) ?_
  show Good p e below _ (T35.setTop (mkF m 58 #[.val (.int p0), .val (.int p1), .val (.int p2), .val (.ref sr_1), .val (.ref sr_4), .val (.ref b8), .val (.ref b18), .unset, .unset, .unset, .unset] [(.ref b28)]))
  refine Good.back (fun _ k => XS.astore X35.here hx rfl (hb hby at_58) rfl rfl (l' := #[.val (.int p0), .val (.int p1), .val (.int p2), .val (.ref sr_1), .val (.ref sr_4), .val (.ref b8), .val (.ref b18), .val (.ref b28), .unset, .unset, .unset]) rfl k) ?_
  show Good p e below _ (T35.setTop (mkF m 60 #[.val (.int p0), .val (.int p1), .val (.int p2), .val (.ref sr_1), .val (.ref sr_4), .val (.ref b8), .val (.ref b18), .val (.ref b28), .unset, .unset, .unset] []))
  obtain ⟨T38, h38, X38, e38, E38, A38, D38, -, st38⟩ := newO X35 hx hZ35 hown35 (hw _ (List.mem_of_getElem? (i := 26) rfl)) (hw _ (List.mem_of_getElem? (i := 27) rfl)) (hw _ (List.mem_of_getElem? (i := 28) rfl)) rfl (g := (mkF m 60 #[.val (.int p0), .val (.int p1), .val (.int p2), .val (.ref sr_1), .val (.ref sr_4), .val (.ref b8), .val (.ref b18), .val (.ref b28), .unset, .unset, .unset] [])) rfl (hb hby at_60) (by decide) (by decide)
  obtain ⟨b38, g38⟩ : ∃ z, z = T35.heap.size := ⟨_, rfl⟩
  rw [← g38] at A38 D38 st38
  refine Good.back st38 ?_
  have g_b38 : n0 ≤ b38 := Nat.le_trans Z36 (Nat.le_of_eq g38.symm)
  have Z39 : n0 ≤ h38.size := Nat.le_trans Z36 E38.1
  have hk40 := Nat.le_trans (Nat.le_refl _) E38.1
  have f_41 : Exa Z h38 b38 "com/example/liken/liken/eval/Judgment" := A38
  have f_42 : Fld Z h38 b38 "com/example/liken/liken/eval/Judgment" "query" "Ljava/lang/String;" .null := D38 (Or.inr (hw _ (List.mem_of_getElem? (i := 47) rfl))) (ty := (.object "java/lang/String")) (by decide)
  have f_43 : Fld Z h38 b38 "com/example/liken/liken/eval/Judgment" "document" "Ljava/lang/String;" .null := D38 (Or.inr (hw _ (List.mem_of_getElem? (i := 49) rfl))) (ty := (.object "java/lang/String")) (by decide)
  have f_44 : Fld Z h38 b38 "com/example/liken/liken/eval/Judgment" "grade" "I" (.int (0 : Int32)) := D38 (Or.inr (hw _ (List.mem_of_getElem? (i := 51) rfl))) (ty := .int) (by decide)
  show Good p e below _ (T38.setTop (mkF m 63 #[.val (.int p0), .val (.int p1), .val (.int p2), .val (.ref sr_1), .val (.ref sr_4), .val (.ref b8), .val (.ref b18), .val (.ref b28), .unset, .unset, .unset] [(.ref b38)]))
  refine Good.back (fun _ k => XS.dup X38.here hx rfl (hb hby at_63) rfl rfl k) ?_
  show Good p e below _ (T38.setTop (mkF m 64 #[.val (.int p0), .val (.int p1), .val (.int p2), .val (.ref sr_1), .val (.ref sr_4), .val (.ref b8), .val (.ref b18), .val (.ref b28), .unset, .unset, .unset] [(.ref b38), (.ref b38)]))
  refine Good.back (fun _ k => XS.aloadN X38.here hx rfl (hb hby at_64) rfl rfl k) ?_
  show Good p e below _ (T38.setTop (mkF m 65 #[.val (.int p0), .val (.int p1), .val (.int p2), .val (.ref sr_1), .val (.ref sr_4), .val (.ref b8), .val (.ref b18), .val (.ref b28), .unset, .unset, .unset] [(.ref sr_1), (.ref b38), (.ref b38)]))
  refine Good.back (fun _ k => XS.aload X38.here hx rfl (hb hby at_65) rfl rfl k) ?_
  show Good p e below _ (T38.setTop (mkF m 67 #[.val (.int p0), .val (.int p1), .val (.int p2), .val (.ref sr_1), .val (.ref sr_4), .val (.ref b8), .val (.ref b18), .val (.ref b28), .unset, .unset, .unset] [(.ref sr_4), (.ref sr_1), (.ref b38), (.ref b38)]))
  refine Good.back (fun _ k => XS.iconst X38.here hx rfl (hb hby at_67) k) ?_
  show Good p e below _ (T38.setTop (mkF m 68 #[.val (.int p0), .val (.int p1), .val (.int p2), .val (.ref sr_1), .val (.ref sr_4), .val (.ref b8), .val (.ref b18), .val (.ref b28), .unset, .unset, .unset] [(.int (1 : Int32)), (.ref sr_4), (.ref sr_1), (.ref b38), (.ref b38)]))
  obtain ⟨_, _, ⟨T45, L45, k45, n45⟩, -, Xc45, hSc45, hgc45, ⟨Lc45, hQ45, l45, y45, z45⟩, st45⟩ := X38.specialBackS hx (y := (⟨"com/example/liken/liken/eval/Judgment", "<init>", "(Ljava/lang/String;Ljava/lang/String;I)V"⟩ : MethodName)) rfl hown35 (mvT hZ35 (hw _ (List.mem_of_getElem? (i := 29) rfl))) (mvT hZ35 (hw _ (List.mem_of_getElem? (i := 30) rfl))) (mvT hZ35 (hw _ (List.mem_of_getElem? (i := 31) rfl))) (by decide) (backOfS (W := 1) (rm6 l Z a0 hw [] b38 sr_1 sr_4 (1 : Int32)  h38 n0 Z39 f_41 g_b38 f_42 f_43 f_44) hZ35 (hw _ (List.mem_of_getElem? (i := 31) rfl)) (hw _ (List.mem_of_getElem? (i := 28) rfl)) (by decide) (by decide)) (g := (mkF m 68 #[.val (.int p0), .val (.int p1), .val (.int p2), .val (.ref sr_1), .val (.ref sr_4), .val (.ref b8), .val (.ref b18), .val (.ref b28), .unset, .unset, .unset] [(.int (1 : Int32)), (.ref sr_4), (.ref sr_1), (.ref b38), (.ref b38)])) rfl (by rw [hml]; rfl) (Steps.refl _) (a := b38) (argsL := [(.ref sr_1), (.ref sr_4), (.int (1 : Int32))]) (rest := [(.ref b38)]) (lenOf own_pd75 rfl) rfl (by show 2 * 0 + _ ≤ _; exact Nat.le_of_eq rfl) (hb hby at_68) (fun _ _ => ⟨rfl, e38, (by decide : 20 + 4 ≤ _), (by decide : 202 + 60 ≤ _)⟩)
  dsimp only [Pt.U, Pt.locs, Pt.cells, Pt.slots] at Xc45 hSc45 hgc45 l45 y45 z45 st45 hQ45
  subst l45 y45 z45
  obtain ⟨X45, hS45, hZ45, hown45⟩ := rebS hS35 (by rw [e38]; exact hk40) Xc45 hSc45 hgc45 hZ35 hown35
  obtain ⟨rfl, N45q, Kq45, o45_0⟩ := hQ45
  have N45 := Fr.app N35 N45q
  have Z46 : n0 ≤ T45.heap.size := Nat.le_trans Z39 Kq45.1
  have hk47 := Nat.le_trans hk40 Kq45.1
  refine Good.back (fun _ k => st45.trans k) ?_
  show Good p e below _ (T45.setTop (mkF m 71 #[.val (.int p0), .val (.int p1), .val (.int p2), .val (.ref sr_1), .val (.ref sr_4), .val (.ref b8), .val (.ref b18), .val (.ref b28), .unset, .unset, .unset] [(.ref b38)]))
  refine Good.back (fun _ k => XS.astore X45.here hx rfl (hb hby at_71) rfl rfl (l' := #[.val (.int p0), .val (.int p1), .val (.int p2), .val (.ref sr_1), .val (.ref sr_4), .val (.ref b8), .val (.ref b18), .val (.ref b28), .val (.ref b38), .unset, .unset]) rfl k) ?_
  show Good p e below _ (T45.setTop (mkF m 73 #[.val (.int p0), .val (.int p1), .val (.int p2), .val (.ref sr_1), .val (.ref sr_4), .val (.ref b8), .val (.ref b18), .val (.ref b28), .val (.ref b38), .unset, .unset] []))
  refine Good.back (fun _ k => XS.iloadN X45.here hx rfl (hb hby at_73) rfl k) ?_
  show Good p e below _ (T45.setTop (mkF m 74 #[.val (.int p0), .val (.int p1), .val (.int p2), .val (.ref sr_1), .val (.ref sr_4), .val (.ref b8), .val (.ref b18), .val (.ref b28), .val (.ref b38), .unset, .unset] [(.int p0)]))
  refine Good.back (fun _ k => XS.iconst X45.here hx rfl (hb hby at_74) k) ?_
  show Good p e below _ (T45.setTop (mkF m 75 #[.val (.int p0), .val (.int p1), .val (.int p2), .val (.ref sr_1), .val (.ref sr_4), .val (.ref b8), .val (.ref b18), .val (.ref b28), .val (.ref b38), .unset, .unset] [(.int (1 : Int32)), (.int p0)]))
  by_cases hc75_48 : p0 < (1 : Int32)
  · refine Good.back (fun _ k => XS.icmpYes X45.here hx rfl (pc0 := 75) (pc' := 84) rfl (hb hby at_75) rfl (tlt hc75_48).1 (by decide) (by decide) k) ?_
    show Good p e below _ (T45.setTop (mkF m 84 #[.val (.int p0), .val (.int p1), .val (.int p2), .val (.ref sr_1), .val (.ref sr_4), .val (.ref b8), .val (.ref b18), .val (.ref b28), .val (.ref b38), .unset, .unset] []))
    refine Good.back (fun _ k => XS.iconst X45.here hx rfl (hb hby at_84) k) ?_
    show Good p e below _ (T45.setTop (mkF m 85 #[.val (.int p0), .val (.int p1), .val (.int p2), .val (.ref sr_1), .val (.ref sr_4), .val (.ref b8), .val (.ref b18), .val (.ref b28), .val (.ref b38), .unset, .unset] [(.int (0 : Int32))]))
    refine Good.back (fun _ k => XS.istore X45.here hx rfl (hb hby at_85) rfl (l' := #[.val (.int p0), .val (.int p1), .val (.int p2), .val (.ref sr_1), .val (.ref sr_4), .val (.ref b8), .val (.ref b18), .val (.ref b28), .val (.ref b38), .val (.int (0 : Int32)), .unset]) rfl k) ?_
    show Good p e below _ (T45.setTop (mkF m 87 #[.val (.int p0), .val (.int p1), .val (.int p2), .val (.ref sr_1), .val (.ref sr_4), .val (.ref b8), .val (.ref b18), .val (.ref b28), .val (.ref b38), .val (.int (0 : Int32)), .unset] []))
    refine Good.back (fun _ k => XS.aload X45.here hx rfl (hb hby at_87) rfl rfl k) ?_
    show Good p e below _ (T45.setTop (mkF m 89 #[.val (.int p0), .val (.int p1), .val (.int p2), .val (.ref sr_1), .val (.ref sr_4), .val (.ref b8), .val (.ref b18), .val (.ref b28), .val (.ref b38), .val (.int (0 : Int32)), .unset] [(.ref b8)]))
    have f_50 : Fld Z h18 b8 "com/example/liken/liken/eval/Judgment" "grade" "I" (.int p0) := Fld.ext E18 o15_0
    have ne_b8_b18_52 : b8 ≠ b18 := Nat.ne_of_lt (Nat.lt_of_lt_of_le o15_0.lt (Nat.le_of_eq g18.symm))
    have f_51 : Fld Z T25.heap b8 "com/example/liken/liken/eval/Judgment" "grade" "I" (.int p0) := Fld.keep f_50 Kq25 (ninS ne_b8_b18_52 nin0)
    have f_53 : Fld Z h28 b8 "com/example/liken/liken/eval/Judgment" "grade" "I" (.int p0) := Fld.ext E28 f_51
    have f_55 : Fld Z h18 b8 "com/example/liken/liken/eval/Judgment" "grade" "I" (.int p0) := Fld.ext E18 o15_0
    have f_56 : Fld Z T25.heap b8 "com/example/liken/liken/eval/Judgment" "grade" "I" (.int p0) := Fld.keep f_55 Kq25 (ninS ne_b8_b18_52 nin0)
    have ne_b8_b28_57 : b8 ≠ b28 := Nat.ne_of_lt (Nat.lt_of_lt_of_le f_56.lt (Nat.le_of_eq g28.symm))
    have f_54 : Fld Z T35.heap b8 "com/example/liken/liken/eval/Judgment" "grade" "I" (.int p0) := Fld.keep f_53 Kq35 (ninS ne_b8_b28_57 nin0)
    have f_58 : Fld Z h38 b8 "com/example/liken/liken/eval/Judgment" "grade" "I" (.int p0) := Fld.ext E38 f_54
    have f_60 : Fld Z h18 b8 "com/example/liken/liken/eval/Judgment" "grade" "I" (.int p0) := Fld.ext E18 o15_0
    have f_61 : Fld Z T25.heap b8 "com/example/liken/liken/eval/Judgment" "grade" "I" (.int p0) := Fld.keep f_60 Kq25 (ninS ne_b8_b18_52 nin0)
    have f_62 : Fld Z h28 b8 "com/example/liken/liken/eval/Judgment" "grade" "I" (.int p0) := Fld.ext E28 f_61
    have f_63 : Fld Z T35.heap b8 "com/example/liken/liken/eval/Judgment" "grade" "I" (.int p0) := Fld.keep f_62 Kq35 (ninS ne_b8_b28_57 nin0)
    have ne_b8_b38_64 : b8 ≠ b38 := Nat.ne_of_lt (Nat.lt_of_lt_of_le f_63.lt (Nat.le_of_eq g38.symm))
    have f_59 : Fld Z T45.heap b8 "com/example/liken/liken/eval/Judgment" "grade" "I" (.int p0) := Fld.keep f_58 Kq45 (ninS ne_b8_b38_64 nin0)
    have f_65 : Exa Z T15.heap b8 "com/example/liken/liken/eval/Judgment" := Exa.keep f_11 Kq15
    have f_66 : Exa Z h18 b8 "com/example/liken/liken/eval/Judgment" := Exa.ext E18 f_65
    have f_67 : Exa Z T25.heap b8 "com/example/liken/liken/eval/Judgment" := Exa.keep f_66 Kq25
    have f_68 : Exa Z h28 b8 "com/example/liken/liken/eval/Judgment" := Exa.ext E28 f_67
    have f_69 : Exa Z T35.heap b8 "com/example/liken/liken/eval/Judgment" := Exa.keep f_68 Kq35
    have f_70 : Exa Z h38 b8 "com/example/liken/liken/eval/Judgment" := Exa.ext E38 f_69
    have f_71 : Exa Z T45.heap b8 "com/example/liken/liken/eval/Judgment" := Exa.keep f_70 Kq45
    obtain ⟨cq49, kq49, q49a, q49b, q49c⟩ := isOf hZ45 rfl f_71
    obtain ⟨_, _, ⟨T49, L49, k49, n49⟩, -, X49, ⟨Lc49, hQ49, l49, y49, z49⟩, st49⟩ := X45.virtualBack hx (y := (⟨"com/example/liken/liken/eval/Judgment", "isRelevant", "()Z"⟩ : MethodName)) (z := (⟨"com/example/liken/liken/eval/Judgment", "isRelevant", "()Z"⟩ : MethodName)) hown45 (mvT hZ45 (hw _ (List.mem_of_getElem? (i := 52) rfl))) (mvT hZ45 (hw _ (List.mem_of_getElem? (i := 53) rfl))) (notFace_of_selects (args := #[]) (mvT hZ45 (hw _ (List.mem_of_getElem? (i := 55) rfl)))) (mvT hZ45 (hw _ (List.mem_of_getElem? (i := 55) rfl))) (mvT hZ45 (hw _ (List.mem_of_getElem? (i := 54) rfl))) (by decide) (backOf (W := 0) (rm9 l Z a0 hw [] b8 p0 T45.heap n0 Z46 f_59) hZ45 (hw _ (List.mem_of_getElem? (i := 56) rfl)) (hw _ (List.mem_of_getElem? (i := 28) rfl)) (by decide) (by decide)) q49a q49c (g := (mkF m 89 #[.val (.int p0), .val (.int p1), .val (.int p2), .val (.ref sr_1), .val (.ref sr_4), .val (.ref b8), .val (.ref b18), .val (.ref b28), .val (.ref b38), .val (.int (0 : Int32)), .unset] [(.ref b8)])) rfl (by rw [hml]; rfl) (Steps.refl _) (argsL := []) (rest := []) (lenOf own_pd76 rfl) rfl (by show 2 * 0 + _ ≤ _; exact Nat.le_of_eq rfl) (hb hby at_89) (fun _ _ => ⟨rfl, rfl, (by decide : 24 + 0 ≤ _), (by decide : 262 + 0 ≤ _)⟩)
    dsimp only [Pt.U, Pt.locs, Pt.cells, Pt.slots] at X49 l49 y49 z49 st49 hQ49
    subst l49 y49 z49
    obtain ⟨rfl, N49q, eh49⟩ := hQ49
    have N49 := Fr.app N45 N49q
    refine Good.back (fun _ k => st49.trans k) ?_
    show Good p e below _ (T49.setTop (mkF m 92 #[.val (.int p0), .val (.int p1), .val (.int p2), .val (.ref sr_1), .val (.ref sr_4), .val (.ref b8), .val (.ref b18), .val (.ref b28), .val (.ref b38), .val (.int (0 : Int32)), .unset] [(.int (if (0 : Int32) < p0 then (1 : Int32) else (0 : Int32)))]))
    rw [show ((if (0 : Int32) < p0 then (1 : Int32) else (0 : Int32)) : Int32) = (0 : Int32) from if_neg (fun q => (own_pos p0).mp q hc75_48)]
    show Good p e below _ (T49.setTop (mkF m 92 #[.val (.int p0), .val (.int p1), .val (.int p2), .val (.ref sr_1), .val (.ref sr_4), .val (.ref b8), .val (.ref b18), .val (.ref b28), .val (.ref b38), .val (.int (0 : Int32)), .unset] [(.int (0 : Int32))]))
    refine Good.back (fun _ k => XS.iload X49.here hx rfl (hb hby at_92) rfl k) ?_
    show Good p e below _ (T49.setTop (mkF m 94 #[.val (.int p0), .val (.int p1), .val (.int p2), .val (.ref sr_1), .val (.ref sr_4), .val (.ref b8), .val (.ref b18), .val (.ref b28), .val (.ref b38), .val (.int (0 : Int32)), .unset] [(.int (0 : Int32)), (.int (0 : Int32))]))
    refine Good.back (fun _ k => XS.icmpNo X49.here hx rfl (hb hby at_94) rfl (teq (by decide : ((0 : Int32) = (0 : Int32)))).2 k) ?_
    show Good p e below _ (T49.setTop (mkF m 97 #[.val (.int p0), .val (.int p1), .val (.int p2), .val (.ref sr_1), .val (.ref sr_4), .val (.ref b8), .val (.ref b18), .val (.ref b28), .val (.ref b38), .val (.int (0 : Int32)), .unset] []))
    refine Good.back (fun _ k => XS.iconst X49.here hx rfl (hb hby at_97) k) ?_
    show Good p e below _ (T49.setTop (mkF m 98 #[.val (.int p0), .val (.int p1), .val (.int p2), .val (.ref sr_1), .val (.ref sr_4), .val (.ref b8), .val (.ref b18), .val (.ref b28), .val (.ref b38), .val (.int (0 : Int32)), .unset] [(.int (1 : Int32))]))
    refine Good.back (fun _ k => XS.goto X49.here hx rfl (pc0 := 98) (pc' := 102) rfl (hb hby at_98) (by decide) (by decide) k) ?_
    show Good p e below _ (T49.setTop (mkF m 102 #[.val (.int p0), .val (.int p1), .val (.int p2), .val (.ref sr_1), .val (.ref sr_4), .val (.ref b8), .val (.ref b18), .val (.ref b28), .val (.ref b38), .val (.int (0 : Int32)), .unset] [(.int (1 : Int32))]))
    refine Good.back (fun _ k => XS.istore X49.here hx rfl (hb hby at_102) rfl (l' := #[.val (.int p0), .val (.int p1), .val (.int p2), .val (.ref sr_1), .val (.ref sr_4), .val (.ref b8), .val (.ref b18), .val (.ref b28), .val (.ref b38), .val (.int (0 : Int32)), .val (.int (1 : Int32))]) rfl k) ?_
    show Good p e below _ (T49.setTop (mkF m 104 #[.val (.int p0), .val (.int p1), .val (.int p2), .val (.ref sr_1), .val (.ref sr_4), .val (.ref b8), .val (.ref b18), .val (.ref b28), .val (.ref b38), .val (.int (0 : Int32)), .val (.int (1 : Int32))] []))
    refine Good.back (fun _ k => XS.iload X49.here hx rfl (hb hby at_104) rfl k) ?_
    show Good p e below _ (T49.setTop (mkF m 106 #[.val (.int p0), .val (.int p1), .val (.int p2), .val (.ref sr_1), .val (.ref sr_4), .val (.ref b8), .val (.ref b18), .val (.ref b28), .val (.ref b38), .val (.int (0 : Int32)), .val (.int (1 : Int32))] [(.int (1 : Int32))]))
    refine Good.back (fun _ k => XS.ifNo X49.here hx rfl (hb hby at_106) rfl ((if0 _ _).trans (feq (by decide : ¬ ((1 : Int32) = (0 : Int32)))).1) k) ?_
    show Good p e below _ (T49.setTop (mkF m 109 #[.val (.int p0), .val (.int p1), .val (.int p2), .val (.ref sr_1), .val (.ref sr_4), .val (.ref b8), .val (.ref b18), .val (.ref b28), .val (.ref b38), .val (.int (0 : Int32)), .val (.int (1 : Int32))] []))
    refine Good.back (fun _ k => XS.aload X49.here hx rfl (hb hby at_109) rfl rfl k) ?_
    show Good p e below _ (T49.setTop (mkF m 111 #[.val (.int p0), .val (.int p1), .val (.int p2), .val (.ref sr_1), .val (.ref sr_4), .val (.ref b8), .val (.ref b18), .val (.ref b28), .val (.ref b38), .val (.int (0 : Int32)), .val (.int (1 : Int32))] [(.ref b18)]))
    have f_73 : Fld Z h28 b18 "com/example/liken/liken/eval/Judgment" "grade" "I" (.int p0) := Fld.ext E28 o25_0
    have ne_b18_b28_75 : b18 ≠ b28 := Nat.ne_of_lt (Nat.lt_of_lt_of_le o25_0.lt (Nat.le_of_eq g28.symm))
    have f_74 : Fld Z T35.heap b18 "com/example/liken/liken/eval/Judgment" "grade" "I" (.int p0) := Fld.keep f_73 Kq35 (ninS ne_b18_b28_75 nin0)
    have f_76 : Fld Z h38 b18 "com/example/liken/liken/eval/Judgment" "grade" "I" (.int p0) := Fld.ext E38 f_74
    have f_78 : Fld Z h28 b18 "com/example/liken/liken/eval/Judgment" "grade" "I" (.int p0) := Fld.ext E28 o25_0
    have f_79 : Fld Z T35.heap b18 "com/example/liken/liken/eval/Judgment" "grade" "I" (.int p0) := Fld.keep f_78 Kq35 (ninS ne_b18_b28_75 nin0)
    have ne_b18_b38_80 : b18 ≠ b38 := Nat.ne_of_lt (Nat.lt_of_lt_of_le f_79.lt (Nat.le_of_eq g38.symm))
    have f_77 : Fld Z T45.heap b18 "com/example/liken/liken/eval/Judgment" "grade" "I" (.int p0) := Fld.keep f_76 Kq45 (ninS ne_b18_b38_80 nin0)
    have f_81 : Exa Z T25.heap b18 "com/example/liken/liken/eval/Judgment" := Exa.keep f_21 Kq25
    have f_82 : Exa Z h28 b18 "com/example/liken/liken/eval/Judgment" := Exa.ext E28 f_81
    have f_83 : Exa Z T35.heap b18 "com/example/liken/liken/eval/Judgment" := Exa.keep f_82 Kq35
    have f_84 : Exa Z h38 b18 "com/example/liken/liken/eval/Judgment" := Exa.ext E38 f_83
    have f_85 : Exa Z T45.heap b18 "com/example/liken/liken/eval/Judgment" := Exa.keep f_84 Kq45
    obtain ⟨cq72, kq72, q72a, q72b, q72c⟩ := isOf hZ45 eh49 f_85
    obtain ⟨_, _, ⟨T72, L72, k72, n72⟩, -, X72, ⟨Lc72, hQ72, l72, y72, z72⟩, st72⟩ := X49.virtualBack hx (y := (⟨"com/example/liken/liken/eval/Judgment", "isRelevant", "()Z"⟩ : MethodName)) (z := (⟨"com/example/liken/liken/eval/Judgment", "isRelevant", "()Z"⟩ : MethodName)) hown45 (mvT hZ45 (hw _ (List.mem_of_getElem? (i := 52) rfl))) (mvT hZ45 (hw _ (List.mem_of_getElem? (i := 53) rfl))) (notFace_of_selects (args := #[]) (mvT hZ45 (hw _ (List.mem_of_getElem? (i := 55) rfl)))) (mvT hZ45 (hw _ (List.mem_of_getElem? (i := 55) rfl))) (mvT hZ45 (hw _ (List.mem_of_getElem? (i := 54) rfl))) (by decide) (backOf (W := 0) (rm9 l Z a0 hw [] b18 p0 T45.heap n0 Z46 f_77) hZ45 (hw _ (List.mem_of_getElem? (i := 56) rfl)) (hw _ (List.mem_of_getElem? (i := 28) rfl)) (by decide) (by decide)) q72a q72c (g := (mkF m 111 #[.val (.int p0), .val (.int p1), .val (.int p2), .val (.ref sr_1), .val (.ref sr_4), .val (.ref b8), .val (.ref b18), .val (.ref b28), .val (.ref b38), .val (.int (0 : Int32)), .val (.int (1 : Int32))] [(.ref b18)])) rfl (by rw [hml]; rfl) (Steps.refl _) (argsL := []) (rest := []) (lenOf own_pd76 rfl) rfl (by show 2 * 0 + _ ≤ _; exact Nat.le_of_eq rfl) (hb hby at_111) (fun _ _ => ⟨rfl, eh49, (by decide : 24 + 0 ≤ _), (by decide : 262 + 0 ≤ _)⟩)
    dsimp only [Pt.U, Pt.locs, Pt.cells, Pt.slots] at X72 l72 y72 z72 st72 hQ72
    subst l72 y72 z72
    obtain ⟨rfl, N72q, eh72⟩ := hQ72
    have N72 := Fr.app N49 N72q
    refine Good.back (fun _ k => st72.trans k) ?_
    show Good p e below _ (T72.setTop (mkF m 114 #[.val (.int p0), .val (.int p1), .val (.int p2), .val (.ref sr_1), .val (.ref sr_4), .val (.ref b8), .val (.ref b18), .val (.ref b28), .val (.ref b38), .val (.int (0 : Int32)), .val (.int (1 : Int32))] [(.int (if (0 : Int32) < p0 then (1 : Int32) else (0 : Int32)))]))
    rw [show ((if (0 : Int32) < p0 then (1 : Int32) else (0 : Int32)) : Int32) = (0 : Int32) from if_neg (fun q => (own_pos p0).mp q hc75_48)]
    show Good p e below _ (T72.setTop (mkF m 114 #[.val (.int p0), .val (.int p1), .val (.int p2), .val (.ref sr_1), .val (.ref sr_4), .val (.ref b8), .val (.ref b18), .val (.ref b28), .val (.ref b38), .val (.int (0 : Int32)), .val (.int (1 : Int32))] [(.int (0 : Int32))]))
    refine Good.back (fun _ k => XS.iload X72.here hx rfl (hb hby at_114) rfl k) ?_
    show Good p e below _ (T72.setTop (mkF m 116 #[.val (.int p0), .val (.int p1), .val (.int p2), .val (.ref sr_1), .val (.ref sr_4), .val (.ref b8), .val (.ref b18), .val (.ref b28), .val (.ref b38), .val (.int (0 : Int32)), .val (.int (1 : Int32))] [(.int (0 : Int32)), (.int (0 : Int32))]))
    refine Good.back (fun _ k => XS.icmpNo X72.here hx rfl (hb hby at_116) rfl (teq (by decide : ((0 : Int32) = (0 : Int32)))).2 k) ?_
    show Good p e below _ (T72.setTop (mkF m 119 #[.val (.int p0), .val (.int p1), .val (.int p2), .val (.ref sr_1), .val (.ref sr_4), .val (.ref b8), .val (.ref b18), .val (.ref b28), .val (.ref b38), .val (.int (0 : Int32)), .val (.int (1 : Int32))] []))
    refine Good.back (fun _ k => XS.iconst X72.here hx rfl (hb hby at_119) k) ?_
    show Good p e below _ (T72.setTop (mkF m 120 #[.val (.int p0), .val (.int p1), .val (.int p2), .val (.ref sr_1), .val (.ref sr_4), .val (.ref b8), .val (.ref b18), .val (.ref b28), .val (.ref b38), .val (.int (0 : Int32)), .val (.int (1 : Int32))] [(.int (1 : Int32))]))
    refine Good.back (fun _ k => XS.goto X72.here hx rfl (pc0 := 120) (pc' := 124) rfl (hb hby at_120) (by decide) (by decide) k) ?_
    show Good p e below _ (T72.setTop (mkF m 124 #[.val (.int p0), .val (.int p1), .val (.int p2), .val (.ref sr_1), .val (.ref sr_4), .val (.ref b8), .val (.ref b18), .val (.ref b28), .val (.ref b38), .val (.int (0 : Int32)), .val (.int (1 : Int32))] [(.int (1 : Int32))]))
    refine Good.back (fun _ k => XS.istore X72.here hx rfl (hb hby at_124) rfl (l' := #[.val (.int p0), .val (.int p1), .val (.int p2), .val (.ref sr_1), .val (.ref sr_4), .val (.ref b8), .val (.ref b18), .val (.ref b28), .val (.ref b38), .val (.int (0 : Int32)), .val (.int (1 : Int32))]) rfl k) ?_
    show Good p e below _ (T72.setTop (mkF m 126 #[.val (.int p0), .val (.int p1), .val (.int p2), .val (.ref sr_1), .val (.ref sr_4), .val (.ref b8), .val (.ref b18), .val (.ref b28), .val (.ref b38), .val (.int (0 : Int32)), .val (.int (1 : Int32))] []))
    refine Good.back (fun _ k => XS.iload X72.here hx rfl (hb hby at_126) rfl k) ?_
    show Good p e below _ (T72.setTop (mkF m 128 #[.val (.int p0), .val (.int p1), .val (.int p2), .val (.ref sr_1), .val (.ref sr_4), .val (.ref b8), .val (.ref b18), .val (.ref b28), .val (.ref b38), .val (.int (0 : Int32)), .val (.int (1 : Int32))] [(.int (1 : Int32))]))
    refine Good.back (fun _ k => XS.ifNo X72.here hx rfl (hb hby at_128) rfl ((if0 _ _).trans (feq (by decide : ¬ ((1 : Int32) = (0 : Int32)))).1) k) ?_
    show Good p e below _ (T72.setTop (mkF m 131 #[.val (.int p0), .val (.int p1), .val (.int p2), .val (.ref sr_1), .val (.ref sr_4), .val (.ref b8), .val (.ref b18), .val (.ref b28), .val (.ref b38), .val (.int (0 : Int32)), .val (.int (1 : Int32))] []))
    refine Good.back (fun _ k => XS.aload X72.here hx rfl (hb hby at_131) rfl rfl k) ?_
    show Good p e below _ (T72.setTop (mkF m 133 #[.val (.int p0), .val (.int p1), .val (.int p2), .val (.ref sr_1), .val (.ref sr_4), .val (.ref b8), .val (.ref b18), .val (.ref b28), .val (.ref b38), .val (.int (0 : Int32)), .val (.int (1 : Int32))] [(.ref b28)]))
    have f_87 : Fld Z h38 b28 "com/example/liken/liken/eval/Judgment" "grade" "I" (.int (0 : Int32)) := Fld.ext E38 o35_0
    have ne_b28_b38_89 : b28 ≠ b38 := Nat.ne_of_lt (Nat.lt_of_lt_of_le o35_0.lt (Nat.le_of_eq g38.symm))
    have f_88 : Fld Z T45.heap b28 "com/example/liken/liken/eval/Judgment" "grade" "I" (.int (0 : Int32)) := Fld.keep f_87 Kq45 (ninS ne_b28_b38_89 nin0)
    have f_90 : Exa Z T35.heap b28 "com/example/liken/liken/eval/Judgment" := Exa.keep f_31 Kq35
    have f_91 : Exa Z h38 b28 "com/example/liken/liken/eval/Judgment" := Exa.ext E38 f_90
    have f_92 : Exa Z T45.heap b28 "com/example/liken/liken/eval/Judgment" := Exa.keep f_91 Kq45
    obtain ⟨cq86, kq86, q86a, q86b, q86c⟩ := isOf hZ45 eh72 f_92
    obtain ⟨_, _, ⟨T86, L86, k86, n86⟩, -, X86, ⟨Lc86, hQ86, l86, y86, z86⟩, st86⟩ := X72.virtualBack hx (y := (⟨"com/example/liken/liken/eval/Judgment", "isRelevant", "()Z"⟩ : MethodName)) (z := (⟨"com/example/liken/liken/eval/Judgment", "isRelevant", "()Z"⟩ : MethodName)) hown45 (mvT hZ45 (hw _ (List.mem_of_getElem? (i := 52) rfl))) (mvT hZ45 (hw _ (List.mem_of_getElem? (i := 53) rfl))) (notFace_of_selects (args := #[]) (mvT hZ45 (hw _ (List.mem_of_getElem? (i := 55) rfl)))) (mvT hZ45 (hw _ (List.mem_of_getElem? (i := 55) rfl))) (mvT hZ45 (hw _ (List.mem_of_getElem? (i := 54) rfl))) (by decide) (backOf (W := 0) (rm9 l Z a0 hw [] b28 (0 : Int32) T45.heap n0 Z46 f_88) hZ45 (hw _ (List.mem_of_getElem? (i := 56) rfl)) (hw _ (List.mem_of_getElem? (i := 28) rfl)) (by decide) (by decide)) q86a q86c (g := (mkF m 133 #[.val (.int p0), .val (.int p1), .val (.int p2), .val (.ref sr_1), .val (.ref sr_4), .val (.ref b8), .val (.ref b18), .val (.ref b28), .val (.ref b38), .val (.int (0 : Int32)), .val (.int (1 : Int32))] [(.ref b28)])) rfl (by rw [hml]; rfl) (Steps.refl _) (argsL := []) (rest := []) (lenOf own_pd76 rfl) rfl (by show 2 * 0 + _ ≤ _; exact Nat.le_of_eq rfl) (hb hby at_133) (fun _ _ => ⟨rfl, eh72, (by decide : 24 + 0 ≤ _), (by decide : 262 + 0 ≤ _)⟩)
    dsimp only [Pt.U, Pt.locs, Pt.cells, Pt.slots] at X86 l86 y86 z86 st86 hQ86
    subst l86 y86 z86
    obtain ⟨rfl, N86q, eh86⟩ := hQ86
    have N86 := Fr.app N72 N86q
    refine Good.back (fun _ k => st86.trans k) ?_
    show Good p e below _ (T86.setTop (mkF m 136 #[.val (.int p0), .val (.int p1), .val (.int p2), .val (.ref sr_1), .val (.ref sr_4), .val (.ref b8), .val (.ref b18), .val (.ref b28), .val (.ref b38), .val (.int (0 : Int32)), .val (.int (1 : Int32))] [(.int (if (0 : Int32) < (0 : Int32) then (1 : Int32) else (0 : Int32)))]))
    rw [show ((if (0 : Int32) < (0 : Int32) then (1 : Int32) else (0 : Int32)) : Int32) = (0 : Int32) from by decide]
    show Good p e below _ (T86.setTop (mkF m 136 #[.val (.int p0), .val (.int p1), .val (.int p2), .val (.ref sr_1), .val (.ref sr_4), .val (.ref b8), .val (.ref b18), .val (.ref b28), .val (.ref b38), .val (.int (0 : Int32)), .val (.int (1 : Int32))] [(.int (0 : Int32))]))
    refine Good.back (fun _ k => XS.ifNo X86.here hx rfl (hb hby at_136) rfl ((if0 _ _).trans (teq (by decide : ((0 : Int32) = (0 : Int32)))).2) k) ?_
    show Good p e below _ (T86.setTop (mkF m 139 #[.val (.int p0), .val (.int p1), .val (.int p2), .val (.ref sr_1), .val (.ref sr_4), .val (.ref b8), .val (.ref b18), .val (.ref b28), .val (.ref b38), .val (.int (0 : Int32)), .val (.int (1 : Int32))] []))
    refine Good.back (fun _ k => XS.iconst X86.here hx rfl (hb hby at_139) k) ?_
    show Good p e below _ (T86.setTop (mkF m 140 #[.val (.int p0), .val (.int p1), .val (.int p2), .val (.ref sr_1), .val (.ref sr_4), .val (.ref b8), .val (.ref b18), .val (.ref b28), .val (.ref b38), .val (.int (0 : Int32)), .val (.int (1 : Int32))] [(.int (1 : Int32))]))
    refine Good.back (fun _ k => XS.goto X86.here hx rfl (pc0 := 140) (pc' := 144) rfl (hb hby at_140) (by decide) (by decide) k) ?_
    show Good p e below _ (T86.setTop (mkF m 144 #[.val (.int p0), .val (.int p1), .val (.int p2), .val (.ref sr_1), .val (.ref sr_4), .val (.ref b8), .val (.ref b18), .val (.ref b28), .val (.ref b38), .val (.int (0 : Int32)), .val (.int (1 : Int32))] [(.int (1 : Int32))]))
    refine Good.back (fun _ k => XS.istore X86.here hx rfl (hb hby at_144) rfl (l' := #[.val (.int p0), .val (.int p1), .val (.int p2), .val (.ref sr_1), .val (.ref sr_4), .val (.ref b8), .val (.ref b18), .val (.ref b28), .val (.ref b38), .val (.int (0 : Int32)), .val (.int (1 : Int32))]) rfl k) ?_
    show Good p e below _ (T86.setTop (mkF m 146 #[.val (.int p0), .val (.int p1), .val (.int p2), .val (.ref sr_1), .val (.ref sr_4), .val (.ref b8), .val (.ref b18), .val (.ref b28), .val (.ref b38), .val (.int (0 : Int32)), .val (.int (1 : Int32))] []))
    refine Good.back (fun _ k => XS.iload X86.here hx rfl (hb hby at_146) rfl k) ?_
    show Good p e below _ (T86.setTop (mkF m 148 #[.val (.int p0), .val (.int p1), .val (.int p2), .val (.ref sr_1), .val (.ref sr_4), .val (.ref b8), .val (.ref b18), .val (.ref b28), .val (.ref b38), .val (.int (0 : Int32)), .val (.int (1 : Int32))] [(.int (1 : Int32))]))
    refine Good.back (fun _ k => XS.ifNo X86.here hx rfl (hb hby at_148) rfl ((if0 _ _).trans (feq (by decide : ¬ ((1 : Int32) = (0 : Int32)))).1) k) ?_
    show Good p e below _ (T86.setTop (mkF m 151 #[.val (.int p0), .val (.int p1), .val (.int p2), .val (.ref sr_1), .val (.ref sr_4), .val (.ref b8), .val (.ref b18), .val (.ref b28), .val (.ref b38), .val (.int (0 : Int32)), .val (.int (1 : Int32))] []))
    refine Good.back (fun _ k => XS.aload X86.here hx rfl (hb hby at_151) rfl rfl k) ?_
    show Good p e below _ (T86.setTop (mkF m 153 #[.val (.int p0), .val (.int p1), .val (.int p2), .val (.ref sr_1), .val (.ref sr_4), .val (.ref b8), .val (.ref b18), .val (.ref b28), .val (.ref b38), .val (.int (0 : Int32)), .val (.int (1 : Int32))] [(.ref b38)]))
    have f_94 : Exa Z T45.heap b38 "com/example/liken/liken/eval/Judgment" := Exa.keep f_41 Kq45
    obtain ⟨cq93, kq93, q93a, q93b, q93c⟩ := isOf hZ45 eh86 f_94
    obtain ⟨_, _, ⟨T93, L93, k93, n93⟩, -, X93, ⟨Lc93, hQ93, l93, y93, z93⟩, st93⟩ := X86.virtualBack hx (y := (⟨"com/example/liken/liken/eval/Judgment", "isRelevant", "()Z"⟩ : MethodName)) (z := (⟨"com/example/liken/liken/eval/Judgment", "isRelevant", "()Z"⟩ : MethodName)) hown45 (mvT hZ45 (hw _ (List.mem_of_getElem? (i := 52) rfl))) (mvT hZ45 (hw _ (List.mem_of_getElem? (i := 53) rfl))) (notFace_of_selects (args := #[]) (mvT hZ45 (hw _ (List.mem_of_getElem? (i := 55) rfl)))) (mvT hZ45 (hw _ (List.mem_of_getElem? (i := 55) rfl))) (mvT hZ45 (hw _ (List.mem_of_getElem? (i := 54) rfl))) (by decide) (backOf (W := 0) (rm9 l Z a0 hw [] b38 (1 : Int32) T45.heap n0 Z46 o45_0) hZ45 (hw _ (List.mem_of_getElem? (i := 56) rfl)) (hw _ (List.mem_of_getElem? (i := 28) rfl)) (by decide) (by decide)) q93a q93c (g := (mkF m 153 #[.val (.int p0), .val (.int p1), .val (.int p2), .val (.ref sr_1), .val (.ref sr_4), .val (.ref b8), .val (.ref b18), .val (.ref b28), .val (.ref b38), .val (.int (0 : Int32)), .val (.int (1 : Int32))] [(.ref b38)])) rfl (by rw [hml]; rfl) (Steps.refl _) (argsL := []) (rest := []) (lenOf own_pd76 rfl) rfl (by show 2 * 0 + _ ≤ _; exact Nat.le_of_eq rfl) (hb hby at_153) (fun _ _ => ⟨rfl, eh86, (by decide : 24 + 0 ≤ _), (by decide : 262 + 0 ≤ _)⟩)
    dsimp only [Pt.U, Pt.locs, Pt.cells, Pt.slots] at X93 l93 y93 z93 st93 hQ93
    subst l93 y93 z93
    obtain ⟨rfl, N93q, eh93⟩ := hQ93
    have N93 := Fr.app N86 N93q
    refine Good.back (fun _ k => st93.trans k) ?_
    show Good p e below _ (T93.setTop (mkF m 156 #[.val (.int p0), .val (.int p1), .val (.int p2), .val (.ref sr_1), .val (.ref sr_4), .val (.ref b8), .val (.ref b18), .val (.ref b28), .val (.ref b38), .val (.int (0 : Int32)), .val (.int (1 : Int32))] [(.int (if (0 : Int32) < (1 : Int32) then (1 : Int32) else (0 : Int32)))]))
    rw [show ((if (0 : Int32) < (1 : Int32) then (1 : Int32) else (0 : Int32)) : Int32) = (1 : Int32) from by decide]
    show Good p e below _ (T93.setTop (mkF m 156 #[.val (.int p0), .val (.int p1), .val (.int p2), .val (.ref sr_1), .val (.ref sr_4), .val (.ref b8), .val (.ref b18), .val (.ref b28), .val (.ref b38), .val (.int (0 : Int32)), .val (.int (1 : Int32))] [(.int (1 : Int32))]))
    refine Good.back (fun _ k => XS.ifNo X93.here hx rfl (hb hby at_156) rfl ((if0 _ _).trans (feq (by decide : ¬ ((1 : Int32) = (0 : Int32)))).1) k) ?_
    show Good p e below _ (T93.setTop (mkF m 159 #[.val (.int p0), .val (.int p1), .val (.int p2), .val (.ref sr_1), .val (.ref sr_4), .val (.ref b8), .val (.ref b18), .val (.ref b28), .val (.ref b38), .val (.int (0 : Int32)), .val (.int (1 : Int32))] []))
    refine Good.back (fun _ k => XS.iconst X93.here hx rfl (hb hby at_159) k) ?_
    show Good p e below _ (T93.setTop (mkF m 160 #[.val (.int p0), .val (.int p1), .val (.int p2), .val (.ref sr_1), .val (.ref sr_4), .val (.ref b8), .val (.ref b18), .val (.ref b28), .val (.ref b38), .val (.int (0 : Int32)), .val (.int (1 : Int32))] [(.int (1 : Int32))]))
    refine Good.back (fun _ k => XS.goto X93.here hx rfl (pc0 := 160) (pc' := 164) rfl (hb hby at_160) (by decide) (by decide) k) ?_
    show Good p e below _ (T93.setTop (mkF m 164 #[.val (.int p0), .val (.int p1), .val (.int p2), .val (.ref sr_1), .val (.ref sr_4), .val (.ref b8), .val (.ref b18), .val (.ref b28), .val (.ref b38), .val (.int (0 : Int32)), .val (.int (1 : Int32))] [(.int (1 : Int32))]))
    refine Good.back (fun _ k => XS.istore X93.here hx rfl (hb hby at_164) rfl (l' := #[.val (.int p0), .val (.int p1), .val (.int p2), .val (.ref sr_1), .val (.ref sr_4), .val (.ref b8), .val (.ref b18), .val (.ref b28), .val (.ref b38), .val (.int (0 : Int32)), .val (.int (1 : Int32))]) rfl k) ?_
    show Good p e below _ (T93.setTop (mkF m 166 #[.val (.int p0), .val (.int p1), .val (.int p2), .val (.ref sr_1), .val (.ref sr_4), .val (.ref b8), .val (.ref b18), .val (.ref b28), .val (.ref b38), .val (.int (0 : Int32)), .val (.int (1 : Int32))] []))
    refine Good.back (fun _ k => XS.iload X93.here hx rfl (hb hby at_166) rfl k) ?_
    show Good p e below _ (T93.setTop (mkF m 168 #[.val (.int p0), .val (.int p1), .val (.int p2), .val (.ref sr_1), .val (.ref sr_4), .val (.ref b8), .val (.ref b18), .val (.ref b28), .val (.ref b38), .val (.int (0 : Int32)), .val (.int (1 : Int32))] [(.int (1 : Int32))]))
    obtain ⟨fs95, hr95, hrun95, hended95, hRE95⟩ := leaveW X93 hS45 (by rw [eh93]; exact (Nat.le_refl _)) (v := some (.int (1 : Int32))) (fun h => by rw [Bd.returns] at h; cases h)
    refine Good.done (retN X93 hx (t := .boolean) Bd.returns (by simp) (hb hby at_168) hr95) hrun95 hended95 ⟨_, _, rfl, ?_, hRE95.1, hRE95.2.1, hRE95.2.2.1, hRE95.2.2.2.mono (by decide) (by decide)⟩
    show Q0 Z p0 p1 p2 cs h0 n0 _ T93.heap _
    rw [eh93]
    exact ⟨rfl, N93⟩
  · refine Good.back (fun _ k => XS.icmpNo X45.here hx rfl (hb hby at_75) rfl (flt hc75_48).1 k) ?_
    show Good p e below _ (T45.setTop (mkF m 78 #[.val (.int p0), .val (.int p1), .val (.int p2), .val (.ref sr_1), .val (.ref sr_4), .val (.ref b8), .val (.ref b18), .val (.ref b28), .val (.ref b38), .unset, .unset] []))
    refine Good.back (fun _ k => XS.iconst X45.here hx rfl (hb hby at_78) k) ?_
    show Good p e below _ (T45.setTop (mkF m 79 #[.val (.int p0), .val (.int p1), .val (.int p2), .val (.ref sr_1), .val (.ref sr_4), .val (.ref b8), .val (.ref b18), .val (.ref b28), .val (.ref b38), .unset, .unset] [(.int (1 : Int32))]))
    refine Good.back (fun _ k => XS.istore X45.here hx rfl (hb hby at_79) rfl (l' := #[.val (.int p0), .val (.int p1), .val (.int p2), .val (.ref sr_1), .val (.ref sr_4), .val (.ref b8), .val (.ref b18), .val (.ref b28), .val (.ref b38), .val (.int (1 : Int32)), .unset]) rfl k) ?_
    show Good p e below _ (T45.setTop (mkF m 81 #[.val (.int p0), .val (.int p1), .val (.int p2), .val (.ref sr_1), .val (.ref sr_4), .val (.ref b8), .val (.ref b18), .val (.ref b28), .val (.ref b38), .val (.int (1 : Int32)), .unset] []))
    refine Good.back (fun _ k => XS.goto X45.here hx rfl (pc0 := 81) (pc' := 87) rfl (hb hby at_81) (by decide) (by decide) k) ?_
    show Good p e below _ (T45.setTop (mkF m 87 #[.val (.int p0), .val (.int p1), .val (.int p2), .val (.ref sr_1), .val (.ref sr_4), .val (.ref b8), .val (.ref b18), .val (.ref b28), .val (.ref b38), .val (.int (1 : Int32)), .unset] []))
    refine Good.back (fun _ k => XS.aload X45.here hx rfl (hb hby at_87) rfl rfl k) ?_
    show Good p e below _ (T45.setTop (mkF m 89 #[.val (.int p0), .val (.int p1), .val (.int p2), .val (.ref sr_1), .val (.ref sr_4), .val (.ref b8), .val (.ref b18), .val (.ref b28), .val (.ref b38), .val (.int (1 : Int32)), .unset] [(.ref b8)]))
    have f_97 : Fld Z h18 b8 "com/example/liken/liken/eval/Judgment" "grade" "I" (.int p0) := Fld.ext E18 o15_0
    have ne_b8_b18_99 : b8 ≠ b18 := Nat.ne_of_lt (Nat.lt_of_lt_of_le o15_0.lt (Nat.le_of_eq g18.symm))
    have f_98 : Fld Z T25.heap b8 "com/example/liken/liken/eval/Judgment" "grade" "I" (.int p0) := Fld.keep f_97 Kq25 (ninS ne_b8_b18_99 nin0)
    have f_100 : Fld Z h28 b8 "com/example/liken/liken/eval/Judgment" "grade" "I" (.int p0) := Fld.ext E28 f_98
    have f_102 : Fld Z h18 b8 "com/example/liken/liken/eval/Judgment" "grade" "I" (.int p0) := Fld.ext E18 o15_0
    have f_103 : Fld Z T25.heap b8 "com/example/liken/liken/eval/Judgment" "grade" "I" (.int p0) := Fld.keep f_102 Kq25 (ninS ne_b8_b18_99 nin0)
    have ne_b8_b28_104 : b8 ≠ b28 := Nat.ne_of_lt (Nat.lt_of_lt_of_le f_103.lt (Nat.le_of_eq g28.symm))
    have f_101 : Fld Z T35.heap b8 "com/example/liken/liken/eval/Judgment" "grade" "I" (.int p0) := Fld.keep f_100 Kq35 (ninS ne_b8_b28_104 nin0)
    have f_105 : Fld Z h38 b8 "com/example/liken/liken/eval/Judgment" "grade" "I" (.int p0) := Fld.ext E38 f_101
    have f_107 : Fld Z h18 b8 "com/example/liken/liken/eval/Judgment" "grade" "I" (.int p0) := Fld.ext E18 o15_0
    have f_108 : Fld Z T25.heap b8 "com/example/liken/liken/eval/Judgment" "grade" "I" (.int p0) := Fld.keep f_107 Kq25 (ninS ne_b8_b18_99 nin0)
    have f_109 : Fld Z h28 b8 "com/example/liken/liken/eval/Judgment" "grade" "I" (.int p0) := Fld.ext E28 f_108
    have f_110 : Fld Z T35.heap b8 "com/example/liken/liken/eval/Judgment" "grade" "I" (.int p0) := Fld.keep f_109 Kq35 (ninS ne_b8_b28_104 nin0)
    have ne_b8_b38_111 : b8 ≠ b38 := Nat.ne_of_lt (Nat.lt_of_lt_of_le f_110.lt (Nat.le_of_eq g38.symm))
    have f_106 : Fld Z T45.heap b8 "com/example/liken/liken/eval/Judgment" "grade" "I" (.int p0) := Fld.keep f_105 Kq45 (ninS ne_b8_b38_111 nin0)
    have f_112 : Exa Z T15.heap b8 "com/example/liken/liken/eval/Judgment" := Exa.keep f_11 Kq15
    have f_113 : Exa Z h18 b8 "com/example/liken/liken/eval/Judgment" := Exa.ext E18 f_112
    have f_114 : Exa Z T25.heap b8 "com/example/liken/liken/eval/Judgment" := Exa.keep f_113 Kq25
    have f_115 : Exa Z h28 b8 "com/example/liken/liken/eval/Judgment" := Exa.ext E28 f_114
    have f_116 : Exa Z T35.heap b8 "com/example/liken/liken/eval/Judgment" := Exa.keep f_115 Kq35
    have f_117 : Exa Z h38 b8 "com/example/liken/liken/eval/Judgment" := Exa.ext E38 f_116
    have f_118 : Exa Z T45.heap b8 "com/example/liken/liken/eval/Judgment" := Exa.keep f_117 Kq45
    obtain ⟨cq96, kq96, q96a, q96b, q96c⟩ := isOf hZ45 rfl f_118
    obtain ⟨_, _, ⟨T96, L96, k96, n96⟩, -, X96, ⟨Lc96, hQ96, l96, y96, z96⟩, st96⟩ := X45.virtualBack hx (y := (⟨"com/example/liken/liken/eval/Judgment", "isRelevant", "()Z"⟩ : MethodName)) (z := (⟨"com/example/liken/liken/eval/Judgment", "isRelevant", "()Z"⟩ : MethodName)) hown45 (mvT hZ45 (hw _ (List.mem_of_getElem? (i := 52) rfl))) (mvT hZ45 (hw _ (List.mem_of_getElem? (i := 53) rfl))) (notFace_of_selects (args := #[]) (mvT hZ45 (hw _ (List.mem_of_getElem? (i := 55) rfl)))) (mvT hZ45 (hw _ (List.mem_of_getElem? (i := 55) rfl))) (mvT hZ45 (hw _ (List.mem_of_getElem? (i := 54) rfl))) (by decide) (backOf (W := 0) (rm9 l Z a0 hw [] b8 p0 T45.heap n0 Z46 f_106) hZ45 (hw _ (List.mem_of_getElem? (i := 56) rfl)) (hw _ (List.mem_of_getElem? (i := 28) rfl)) (by decide) (by decide)) q96a q96c (g := (mkF m 89 #[.val (.int p0), .val (.int p1), .val (.int p2), .val (.ref sr_1), .val (.ref sr_4), .val (.ref b8), .val (.ref b18), .val (.ref b28), .val (.ref b38), .val (.int (1 : Int32)), .unset] [(.ref b8)])) rfl (by rw [hml]; rfl) (Steps.refl _) (argsL := []) (rest := []) (lenOf own_pd76 rfl) rfl (by show 2 * 0 + _ ≤ _; exact Nat.le_of_eq rfl) (hb hby at_89) (fun _ _ => ⟨rfl, rfl, (by decide : 24 + 0 ≤ _), (by decide : 262 + 0 ≤ _)⟩)
    dsimp only [Pt.U, Pt.locs, Pt.cells, Pt.slots] at X96 l96 y96 z96 st96 hQ96
    subst l96 y96 z96
    obtain ⟨rfl, N96q, eh96⟩ := hQ96
    have N96 := Fr.app N45 N96q
    refine Good.back (fun _ k => st96.trans k) ?_
    show Good p e below _ (T96.setTop (mkF m 92 #[.val (.int p0), .val (.int p1), .val (.int p2), .val (.ref sr_1), .val (.ref sr_4), .val (.ref b8), .val (.ref b18), .val (.ref b28), .val (.ref b38), .val (.int (1 : Int32)), .unset] [(.int (if (0 : Int32) < p0 then (1 : Int32) else (0 : Int32)))]))
    rw [show ((if (0 : Int32) < p0 then (1 : Int32) else (0 : Int32)) : Int32) = (1 : Int32) from if_pos ((own_pos p0).mpr hc75_48)]
    show Good p e below _ (T96.setTop (mkF m 92 #[.val (.int p0), .val (.int p1), .val (.int p2), .val (.ref sr_1), .val (.ref sr_4), .val (.ref b8), .val (.ref b18), .val (.ref b28), .val (.ref b38), .val (.int (1 : Int32)), .unset] [(.int (1 : Int32))]))
    refine Good.back (fun _ k => XS.iload X96.here hx rfl (hb hby at_92) rfl k) ?_
    show Good p e below _ (T96.setTop (mkF m 94 #[.val (.int p0), .val (.int p1), .val (.int p2), .val (.ref sr_1), .val (.ref sr_4), .val (.ref b8), .val (.ref b18), .val (.ref b28), .val (.ref b38), .val (.int (1 : Int32)), .unset] [(.int (1 : Int32)), (.int (1 : Int32))]))
    refine Good.back (fun _ k => XS.icmpNo X96.here hx rfl (hb hby at_94) rfl (teq (by decide : ((1 : Int32) = (1 : Int32)))).2 k) ?_
    show Good p e below _ (T96.setTop (mkF m 97 #[.val (.int p0), .val (.int p1), .val (.int p2), .val (.ref sr_1), .val (.ref sr_4), .val (.ref b8), .val (.ref b18), .val (.ref b28), .val (.ref b38), .val (.int (1 : Int32)), .unset] []))
    refine Good.back (fun _ k => XS.iconst X96.here hx rfl (hb hby at_97) k) ?_
    show Good p e below _ (T96.setTop (mkF m 98 #[.val (.int p0), .val (.int p1), .val (.int p2), .val (.ref sr_1), .val (.ref sr_4), .val (.ref b8), .val (.ref b18), .val (.ref b28), .val (.ref b38), .val (.int (1 : Int32)), .unset] [(.int (1 : Int32))]))
    refine Good.back (fun _ k => XS.goto X96.here hx rfl (pc0 := 98) (pc' := 102) rfl (hb hby at_98) (by decide) (by decide) k) ?_
    show Good p e below _ (T96.setTop (mkF m 102 #[.val (.int p0), .val (.int p1), .val (.int p2), .val (.ref sr_1), .val (.ref sr_4), .val (.ref b8), .val (.ref b18), .val (.ref b28), .val (.ref b38), .val (.int (1 : Int32)), .unset] [(.int (1 : Int32))]))
    refine Good.back (fun _ k => XS.istore X96.here hx rfl (hb hby at_102) rfl (l' := #[.val (.int p0), .val (.int p1), .val (.int p2), .val (.ref sr_1), .val (.ref sr_4), .val (.ref b8), .val (.ref b18), .val (.ref b28), .val (.ref b38), .val (.int (1 : Int32)), .val (.int (1 : Int32))]) rfl k) ?_
    show Good p e below _ (T96.setTop (mkF m 104 #[.val (.int p0), .val (.int p1), .val (.int p2), .val (.ref sr_1), .val (.ref sr_4), .val (.ref b8), .val (.ref b18), .val (.ref b28), .val (.ref b38), .val (.int (1 : Int32)), .val (.int (1 : Int32))] []))
    refine Good.back (fun _ k => XS.iload X96.here hx rfl (hb hby at_104) rfl k) ?_
    show Good p e below _ (T96.setTop (mkF m 106 #[.val (.int p0), .val (.int p1), .val (.int p2), .val (.ref sr_1), .val (.ref sr_4), .val (.ref b8), .val (.ref b18), .val (.ref b28), .val (.ref b38), .val (.int (1 : Int32)), .val (.int (1 : Int32))] [(.int (1 : Int32))]))
    refine Good.back (fun _ k => XS.ifNo X96.here hx rfl (hb hby at_106) rfl ((if0 _ _).trans (feq (by decide : ¬ ((1 : Int32) = (0 : Int32)))).1) k) ?_
    show Good p e below _ (T96.setTop (mkF m 109 #[.val (.int p0), .val (.int p1), .val (.int p2), .val (.ref sr_1), .val (.ref sr_4), .val (.ref b8), .val (.ref b18), .val (.ref b28), .val (.ref b38), .val (.int (1 : Int32)), .val (.int (1 : Int32))] []))
    refine Good.back (fun _ k => XS.aload X96.here hx rfl (hb hby at_109) rfl rfl k) ?_
    show Good p e below _ (T96.setTop (mkF m 111 #[.val (.int p0), .val (.int p1), .val (.int p2), .val (.ref sr_1), .val (.ref sr_4), .val (.ref b8), .val (.ref b18), .val (.ref b28), .val (.ref b38), .val (.int (1 : Int32)), .val (.int (1 : Int32))] [(.ref b18)]))
    have f_120 : Fld Z h28 b18 "com/example/liken/liken/eval/Judgment" "grade" "I" (.int p0) := Fld.ext E28 o25_0
    have ne_b18_b28_122 : b18 ≠ b28 := Nat.ne_of_lt (Nat.lt_of_lt_of_le o25_0.lt (Nat.le_of_eq g28.symm))
    have f_121 : Fld Z T35.heap b18 "com/example/liken/liken/eval/Judgment" "grade" "I" (.int p0) := Fld.keep f_120 Kq35 (ninS ne_b18_b28_122 nin0)
    have f_123 : Fld Z h38 b18 "com/example/liken/liken/eval/Judgment" "grade" "I" (.int p0) := Fld.ext E38 f_121
    have f_125 : Fld Z h28 b18 "com/example/liken/liken/eval/Judgment" "grade" "I" (.int p0) := Fld.ext E28 o25_0
    have f_126 : Fld Z T35.heap b18 "com/example/liken/liken/eval/Judgment" "grade" "I" (.int p0) := Fld.keep f_125 Kq35 (ninS ne_b18_b28_122 nin0)
    have ne_b18_b38_127 : b18 ≠ b38 := Nat.ne_of_lt (Nat.lt_of_lt_of_le f_126.lt (Nat.le_of_eq g38.symm))
    have f_124 : Fld Z T45.heap b18 "com/example/liken/liken/eval/Judgment" "grade" "I" (.int p0) := Fld.keep f_123 Kq45 (ninS ne_b18_b38_127 nin0)
    have f_128 : Exa Z T25.heap b18 "com/example/liken/liken/eval/Judgment" := Exa.keep f_21 Kq25
    have f_129 : Exa Z h28 b18 "com/example/liken/liken/eval/Judgment" := Exa.ext E28 f_128
    have f_130 : Exa Z T35.heap b18 "com/example/liken/liken/eval/Judgment" := Exa.keep f_129 Kq35
    have f_131 : Exa Z h38 b18 "com/example/liken/liken/eval/Judgment" := Exa.ext E38 f_130
    have f_132 : Exa Z T45.heap b18 "com/example/liken/liken/eval/Judgment" := Exa.keep f_131 Kq45
    obtain ⟨cq119, kq119, q119a, q119b, q119c⟩ := isOf hZ45 eh96 f_132
    obtain ⟨_, _, ⟨T119, L119, k119, n119⟩, -, X119, ⟨Lc119, hQ119, l119, y119, z119⟩, st119⟩ := X96.virtualBack hx (y := (⟨"com/example/liken/liken/eval/Judgment", "isRelevant", "()Z"⟩ : MethodName)) (z := (⟨"com/example/liken/liken/eval/Judgment", "isRelevant", "()Z"⟩ : MethodName)) hown45 (mvT hZ45 (hw _ (List.mem_of_getElem? (i := 52) rfl))) (mvT hZ45 (hw _ (List.mem_of_getElem? (i := 53) rfl))) (notFace_of_selects (args := #[]) (mvT hZ45 (hw _ (List.mem_of_getElem? (i := 55) rfl)))) (mvT hZ45 (hw _ (List.mem_of_getElem? (i := 55) rfl))) (mvT hZ45 (hw _ (List.mem_of_getElem? (i := 54) rfl))) (by decide) (backOf (W := 0) (rm9 l Z a0 hw [] b18 p0 T45.heap n0 Z46 f_124) hZ45 (hw _ (List.mem_of_getElem? (i := 56) rfl)) (hw _ (List.mem_of_getElem? (i := 28) rfl)) (by decide) (by decide)) q119a q119c (g := (mkF m 111 #[.val (.int p0), .val (.int p1), .val (.int p2), .val (.ref sr_1), .val (.ref sr_4), .val (.ref b8), .val (.ref b18), .val (.ref b28), .val (.ref b38), .val (.int (1 : Int32)), .val (.int (1 : Int32))] [(.ref b18)])) rfl (by rw [hml]; rfl) (Steps.refl _) (argsL := []) (rest := []) (lenOf own_pd76 rfl) rfl (by show 2 * 0 + _ ≤ _; exact Nat.le_of_eq rfl) (hb hby at_111) (fun _ _ => ⟨rfl, eh96, (by decide : 24 + 0 ≤ _), (by decide : 262 + 0 ≤ _)⟩)
    dsimp only [Pt.U, Pt.locs, Pt.cells, Pt.slots] at X119 l119 y119 z119 st119 hQ119
    subst l119 y119 z119
    obtain ⟨rfl, N119q, eh119⟩ := hQ119
    have N119 := Fr.app N96 N119q
    refine Good.back (fun _ k => st119.trans k) ?_
    show Good p e below _ (T119.setTop (mkF m 114 #[.val (.int p0), .val (.int p1), .val (.int p2), .val (.ref sr_1), .val (.ref sr_4), .val (.ref b8), .val (.ref b18), .val (.ref b28), .val (.ref b38), .val (.int (1 : Int32)), .val (.int (1 : Int32))] [(.int (if (0 : Int32) < p0 then (1 : Int32) else (0 : Int32)))]))
    rw [show ((if (0 : Int32) < p0 then (1 : Int32) else (0 : Int32)) : Int32) = (1 : Int32) from if_pos ((own_pos p0).mpr hc75_48)]
    show Good p e below _ (T119.setTop (mkF m 114 #[.val (.int p0), .val (.int p1), .val (.int p2), .val (.ref sr_1), .val (.ref sr_4), .val (.ref b8), .val (.ref b18), .val (.ref b28), .val (.ref b38), .val (.int (1 : Int32)), .val (.int (1 : Int32))] [(.int (1 : Int32))]))
    refine Good.back (fun _ k => XS.iload X119.here hx rfl (hb hby at_114) rfl k) ?_
    show Good p e below _ (T119.setTop (mkF m 116 #[.val (.int p0), .val (.int p1), .val (.int p2), .val (.ref sr_1), .val (.ref sr_4), .val (.ref b8), .val (.ref b18), .val (.ref b28), .val (.ref b38), .val (.int (1 : Int32)), .val (.int (1 : Int32))] [(.int (1 : Int32)), (.int (1 : Int32))]))
    refine Good.back (fun _ k => XS.icmpNo X119.here hx rfl (hb hby at_116) rfl (teq (by decide : ((1 : Int32) = (1 : Int32)))).2 k) ?_
    show Good p e below _ (T119.setTop (mkF m 119 #[.val (.int p0), .val (.int p1), .val (.int p2), .val (.ref sr_1), .val (.ref sr_4), .val (.ref b8), .val (.ref b18), .val (.ref b28), .val (.ref b38), .val (.int (1 : Int32)), .val (.int (1 : Int32))] []))
    refine Good.back (fun _ k => XS.iconst X119.here hx rfl (hb hby at_119) k) ?_
    show Good p e below _ (T119.setTop (mkF m 120 #[.val (.int p0), .val (.int p1), .val (.int p2), .val (.ref sr_1), .val (.ref sr_4), .val (.ref b8), .val (.ref b18), .val (.ref b28), .val (.ref b38), .val (.int (1 : Int32)), .val (.int (1 : Int32))] [(.int (1 : Int32))]))
    refine Good.back (fun _ k => XS.goto X119.here hx rfl (pc0 := 120) (pc' := 124) rfl (hb hby at_120) (by decide) (by decide) k) ?_
    show Good p e below _ (T119.setTop (mkF m 124 #[.val (.int p0), .val (.int p1), .val (.int p2), .val (.ref sr_1), .val (.ref sr_4), .val (.ref b8), .val (.ref b18), .val (.ref b28), .val (.ref b38), .val (.int (1 : Int32)), .val (.int (1 : Int32))] [(.int (1 : Int32))]))
    refine Good.back (fun _ k => XS.istore X119.here hx rfl (hb hby at_124) rfl (l' := #[.val (.int p0), .val (.int p1), .val (.int p2), .val (.ref sr_1), .val (.ref sr_4), .val (.ref b8), .val (.ref b18), .val (.ref b28), .val (.ref b38), .val (.int (1 : Int32)), .val (.int (1 : Int32))]) rfl k) ?_
    show Good p e below _ (T119.setTop (mkF m 126 #[.val (.int p0), .val (.int p1), .val (.int p2), .val (.ref sr_1), .val (.ref sr_4), .val (.ref b8), .val (.ref b18), .val (.ref b28), .val (.ref b38), .val (.int (1 : Int32)), .val (.int (1 : Int32))] []))
    refine Good.back (fun _ k => XS.iload X119.here hx rfl (hb hby at_126) rfl k) ?_
    show Good p e below _ (T119.setTop (mkF m 128 #[.val (.int p0), .val (.int p1), .val (.int p2), .val (.ref sr_1), .val (.ref sr_4), .val (.ref b8), .val (.ref b18), .val (.ref b28), .val (.ref b38), .val (.int (1 : Int32)), .val (.int (1 : Int32))] [(.int (1 : Int32))]))
    refine Good.back (fun _ k => XS.ifNo X119.here hx rfl (hb hby at_128) rfl ((if0 _ _).trans (feq (by decide : ¬ ((1 : Int32) = (0 : Int32)))).1) k) ?_
    show Good p e below _ (T119.setTop (mkF m 131 #[.val (.int p0), .val (.int p1), .val (.int p2), .val (.ref sr_1), .val (.ref sr_4), .val (.ref b8), .val (.ref b18), .val (.ref b28), .val (.ref b38), .val (.int (1 : Int32)), .val (.int (1 : Int32))] []))
    refine Good.back (fun _ k => XS.aload X119.here hx rfl (hb hby at_131) rfl rfl k) ?_
    show Good p e below _ (T119.setTop (mkF m 133 #[.val (.int p0), .val (.int p1), .val (.int p2), .val (.ref sr_1), .val (.ref sr_4), .val (.ref b8), .val (.ref b18), .val (.ref b28), .val (.ref b38), .val (.int (1 : Int32)), .val (.int (1 : Int32))] [(.ref b28)]))
    have f_134 : Fld Z h38 b28 "com/example/liken/liken/eval/Judgment" "grade" "I" (.int (0 : Int32)) := Fld.ext E38 o35_0
    have ne_b28_b38_136 : b28 ≠ b38 := Nat.ne_of_lt (Nat.lt_of_lt_of_le o35_0.lt (Nat.le_of_eq g38.symm))
    have f_135 : Fld Z T45.heap b28 "com/example/liken/liken/eval/Judgment" "grade" "I" (.int (0 : Int32)) := Fld.keep f_134 Kq45 (ninS ne_b28_b38_136 nin0)
    have f_137 : Exa Z T35.heap b28 "com/example/liken/liken/eval/Judgment" := Exa.keep f_31 Kq35
    have f_138 : Exa Z h38 b28 "com/example/liken/liken/eval/Judgment" := Exa.ext E38 f_137
    have f_139 : Exa Z T45.heap b28 "com/example/liken/liken/eval/Judgment" := Exa.keep f_138 Kq45
    obtain ⟨cq133, kq133, q133a, q133b, q133c⟩ := isOf hZ45 eh119 f_139
    obtain ⟨_, _, ⟨T133, L133, k133, n133⟩, -, X133, ⟨Lc133, hQ133, l133, y133, z133⟩, st133⟩ := X119.virtualBack hx (y := (⟨"com/example/liken/liken/eval/Judgment", "isRelevant", "()Z"⟩ : MethodName)) (z := (⟨"com/example/liken/liken/eval/Judgment", "isRelevant", "()Z"⟩ : MethodName)) hown45 (mvT hZ45 (hw _ (List.mem_of_getElem? (i := 52) rfl))) (mvT hZ45 (hw _ (List.mem_of_getElem? (i := 53) rfl))) (notFace_of_selects (args := #[]) (mvT hZ45 (hw _ (List.mem_of_getElem? (i := 55) rfl)))) (mvT hZ45 (hw _ (List.mem_of_getElem? (i := 55) rfl))) (mvT hZ45 (hw _ (List.mem_of_getElem? (i := 54) rfl))) (by decide) (backOf (W := 0) (rm9 l Z a0 hw [] b28 (0 : Int32) T45.heap n0 Z46 f_135) hZ45 (hw _ (List.mem_of_getElem? (i := 56) rfl)) (hw _ (List.mem_of_getElem? (i := 28) rfl)) (by decide) (by decide)) q133a q133c (g := (mkF m 133 #[.val (.int p0), .val (.int p1), .val (.int p2), .val (.ref sr_1), .val (.ref sr_4), .val (.ref b8), .val (.ref b18), .val (.ref b28), .val (.ref b38), .val (.int (1 : Int32)), .val (.int (1 : Int32))] [(.ref b28)])) rfl (by rw [hml]; rfl) (Steps.refl _) (argsL := []) (rest := []) (lenOf own_pd76 rfl) rfl (by show 2 * 0 + _ ≤ _; exact Nat.le_of_eq rfl) (hb hby at_133) (fun _ _ => ⟨rfl, eh119, (by decide : 24 + 0 ≤ _), (by decide : 262 + 0 ≤ _)⟩)
    dsimp only [Pt.U, Pt.locs, Pt.cells, Pt.slots] at X133 l133 y133 z133 st133 hQ133
    subst l133 y133 z133
    obtain ⟨rfl, N133q, eh133⟩ := hQ133
    have N133 := Fr.app N119 N133q
    refine Good.back (fun _ k => st133.trans k) ?_
    show Good p e below _ (T133.setTop (mkF m 136 #[.val (.int p0), .val (.int p1), .val (.int p2), .val (.ref sr_1), .val (.ref sr_4), .val (.ref b8), .val (.ref b18), .val (.ref b28), .val (.ref b38), .val (.int (1 : Int32)), .val (.int (1 : Int32))] [(.int (if (0 : Int32) < (0 : Int32) then (1 : Int32) else (0 : Int32)))]))
    rw [show ((if (0 : Int32) < (0 : Int32) then (1 : Int32) else (0 : Int32)) : Int32) = (0 : Int32) from by decide]
    show Good p e below _ (T133.setTop (mkF m 136 #[.val (.int p0), .val (.int p1), .val (.int p2), .val (.ref sr_1), .val (.ref sr_4), .val (.ref b8), .val (.ref b18), .val (.ref b28), .val (.ref b38), .val (.int (1 : Int32)), .val (.int (1 : Int32))] [(.int (0 : Int32))]))
    refine Good.back (fun _ k => XS.ifNo X133.here hx rfl (hb hby at_136) rfl ((if0 _ _).trans (teq (by decide : ((0 : Int32) = (0 : Int32)))).2) k) ?_
    show Good p e below _ (T133.setTop (mkF m 139 #[.val (.int p0), .val (.int p1), .val (.int p2), .val (.ref sr_1), .val (.ref sr_4), .val (.ref b8), .val (.ref b18), .val (.ref b28), .val (.ref b38), .val (.int (1 : Int32)), .val (.int (1 : Int32))] []))
    refine Good.back (fun _ k => XS.iconst X133.here hx rfl (hb hby at_139) k) ?_
    show Good p e below _ (T133.setTop (mkF m 140 #[.val (.int p0), .val (.int p1), .val (.int p2), .val (.ref sr_1), .val (.ref sr_4), .val (.ref b8), .val (.ref b18), .val (.ref b28), .val (.ref b38), .val (.int (1 : Int32)), .val (.int (1 : Int32))] [(.int (1 : Int32))]))
    refine Good.back (fun _ k => XS.goto X133.here hx rfl (pc0 := 140) (pc' := 144) rfl (hb hby at_140) (by decide) (by decide) k) ?_
    show Good p e below _ (T133.setTop (mkF m 144 #[.val (.int p0), .val (.int p1), .val (.int p2), .val (.ref sr_1), .val (.ref sr_4), .val (.ref b8), .val (.ref b18), .val (.ref b28), .val (.ref b38), .val (.int (1 : Int32)), .val (.int (1 : Int32))] [(.int (1 : Int32))]))
    refine Good.back (fun _ k => XS.istore X133.here hx rfl (hb hby at_144) rfl (l' := #[.val (.int p0), .val (.int p1), .val (.int p2), .val (.ref sr_1), .val (.ref sr_4), .val (.ref b8), .val (.ref b18), .val (.ref b28), .val (.ref b38), .val (.int (1 : Int32)), .val (.int (1 : Int32))]) rfl k) ?_
    show Good p e below _ (T133.setTop (mkF m 146 #[.val (.int p0), .val (.int p1), .val (.int p2), .val (.ref sr_1), .val (.ref sr_4), .val (.ref b8), .val (.ref b18), .val (.ref b28), .val (.ref b38), .val (.int (1 : Int32)), .val (.int (1 : Int32))] []))
    refine Good.back (fun _ k => XS.iload X133.here hx rfl (hb hby at_146) rfl k) ?_
    show Good p e below _ (T133.setTop (mkF m 148 #[.val (.int p0), .val (.int p1), .val (.int p2), .val (.ref sr_1), .val (.ref sr_4), .val (.ref b8), .val (.ref b18), .val (.ref b28), .val (.ref b38), .val (.int (1 : Int32)), .val (.int (1 : Int32))] [(.int (1 : Int32))]))
    refine Good.back (fun _ k => XS.ifNo X133.here hx rfl (hb hby at_148) rfl ((if0 _ _).trans (feq (by decide : ¬ ((1 : Int32) = (0 : Int32)))).1) k) ?_
    show Good p e below _ (T133.setTop (mkF m 151 #[.val (.int p0), .val (.int p1), .val (.int p2), .val (.ref sr_1), .val (.ref sr_4), .val (.ref b8), .val (.ref b18), .val (.ref b28), .val (.ref b38), .val (.int (1 : Int32)), .val (.int (1 : Int32))] []))
    refine Good.back (fun _ k => XS.aload X133.here hx rfl (hb hby at_151) rfl rfl k) ?_
    show Good p e below _ (T133.setTop (mkF m 153 #[.val (.int p0), .val (.int p1), .val (.int p2), .val (.ref sr_1), .val (.ref sr_4), .val (.ref b8), .val (.ref b18), .val (.ref b28), .val (.ref b38), .val (.int (1 : Int32)), .val (.int (1 : Int32))] [(.ref b38)]))
    have f_141 : Exa Z T45.heap b38 "com/example/liken/liken/eval/Judgment" := Exa.keep f_41 Kq45
    obtain ⟨cq140, kq140, q140a, q140b, q140c⟩ := isOf hZ45 eh133 f_141
    obtain ⟨_, _, ⟨T140, L140, k140, n140⟩, -, X140, ⟨Lc140, hQ140, l140, y140, z140⟩, st140⟩ := X133.virtualBack hx (y := (⟨"com/example/liken/liken/eval/Judgment", "isRelevant", "()Z"⟩ : MethodName)) (z := (⟨"com/example/liken/liken/eval/Judgment", "isRelevant", "()Z"⟩ : MethodName)) hown45 (mvT hZ45 (hw _ (List.mem_of_getElem? (i := 52) rfl))) (mvT hZ45 (hw _ (List.mem_of_getElem? (i := 53) rfl))) (notFace_of_selects (args := #[]) (mvT hZ45 (hw _ (List.mem_of_getElem? (i := 55) rfl)))) (mvT hZ45 (hw _ (List.mem_of_getElem? (i := 55) rfl))) (mvT hZ45 (hw _ (List.mem_of_getElem? (i := 54) rfl))) (by decide) (backOf (W := 0) (rm9 l Z a0 hw [] b38 (1 : Int32) T45.heap n0 Z46 o45_0) hZ45 (hw _ (List.mem_of_getElem? (i := 56) rfl)) (hw _ (List.mem_of_getElem? (i := 28) rfl)) (by decide) (by decide)) q140a q140c (g := (mkF m 153 #[.val (.int p0), .val (.int p1), .val (.int p2), .val (.ref sr_1), .val (.ref sr_4), .val (.ref b8), .val (.ref b18), .val (.ref b28), .val (.ref b38), .val (.int (1 : Int32)), .val (.int (1 : Int32))] [(.ref b38)])) rfl (by rw [hml]; rfl) (Steps.refl _) (argsL := []) (rest := []) (lenOf own_pd76 rfl) rfl (by show 2 * 0 + _ ≤ _; exact Nat.le_of_eq rfl) (hb hby at_153) (fun _ _ => ⟨rfl, eh133, (by decide : 24 + 0 ≤ _), (by decide : 262 + 0 ≤ _)⟩)
    dsimp only [Pt.U, Pt.locs, Pt.cells, Pt.slots] at X140 l140 y140 z140 st140 hQ140
    subst l140 y140 z140
    obtain ⟨rfl, N140q, eh140⟩ := hQ140
    have N140 := Fr.app N133 N140q
    refine Good.back (fun _ k => st140.trans k) ?_
    show Good p e below _ (T140.setTop (mkF m 156 #[.val (.int p0), .val (.int p1), .val (.int p2), .val (.ref sr_1), .val (.ref sr_4), .val (.ref b8), .val (.ref b18), .val (.ref b28), .val (.ref b38), .val (.int (1 : Int32)), .val (.int (1 : Int32))] [(.int (if (0 : Int32) < (1 : Int32) then (1 : Int32) else (0 : Int32)))]))
    rw [show ((if (0 : Int32) < (1 : Int32) then (1 : Int32) else (0 : Int32)) : Int32) = (1 : Int32) from by decide]
    show Good p e below _ (T140.setTop (mkF m 156 #[.val (.int p0), .val (.int p1), .val (.int p2), .val (.ref sr_1), .val (.ref sr_4), .val (.ref b8), .val (.ref b18), .val (.ref b28), .val (.ref b38), .val (.int (1 : Int32)), .val (.int (1 : Int32))] [(.int (1 : Int32))]))
    refine Good.back (fun _ k => XS.ifNo X140.here hx rfl (hb hby at_156) rfl ((if0 _ _).trans (feq (by decide : ¬ ((1 : Int32) = (0 : Int32)))).1) k) ?_
    show Good p e below _ (T140.setTop (mkF m 159 #[.val (.int p0), .val (.int p1), .val (.int p2), .val (.ref sr_1), .val (.ref sr_4), .val (.ref b8), .val (.ref b18), .val (.ref b28), .val (.ref b38), .val (.int (1 : Int32)), .val (.int (1 : Int32))] []))
    refine Good.back (fun _ k => XS.iconst X140.here hx rfl (hb hby at_159) k) ?_
    show Good p e below _ (T140.setTop (mkF m 160 #[.val (.int p0), .val (.int p1), .val (.int p2), .val (.ref sr_1), .val (.ref sr_4), .val (.ref b8), .val (.ref b18), .val (.ref b28), .val (.ref b38), .val (.int (1 : Int32)), .val (.int (1 : Int32))] [(.int (1 : Int32))]))
    refine Good.back (fun _ k => XS.goto X140.here hx rfl (pc0 := 160) (pc' := 164) rfl (hb hby at_160) (by decide) (by decide) k) ?_
    show Good p e below _ (T140.setTop (mkF m 164 #[.val (.int p0), .val (.int p1), .val (.int p2), .val (.ref sr_1), .val (.ref sr_4), .val (.ref b8), .val (.ref b18), .val (.ref b28), .val (.ref b38), .val (.int (1 : Int32)), .val (.int (1 : Int32))] [(.int (1 : Int32))]))
    refine Good.back (fun _ k => XS.istore X140.here hx rfl (hb hby at_164) rfl (l' := #[.val (.int p0), .val (.int p1), .val (.int p2), .val (.ref sr_1), .val (.ref sr_4), .val (.ref b8), .val (.ref b18), .val (.ref b28), .val (.ref b38), .val (.int (1 : Int32)), .val (.int (1 : Int32))]) rfl k) ?_
    show Good p e below _ (T140.setTop (mkF m 166 #[.val (.int p0), .val (.int p1), .val (.int p2), .val (.ref sr_1), .val (.ref sr_4), .val (.ref b8), .val (.ref b18), .val (.ref b28), .val (.ref b38), .val (.int (1 : Int32)), .val (.int (1 : Int32))] []))
    refine Good.back (fun _ k => XS.iload X140.here hx rfl (hb hby at_166) rfl k) ?_
    show Good p e below _ (T140.setTop (mkF m 168 #[.val (.int p0), .val (.int p1), .val (.int p2), .val (.ref sr_1), .val (.ref sr_4), .val (.ref b8), .val (.ref b18), .val (.ref b28), .val (.ref b38), .val (.int (1 : Int32)), .val (.int (1 : Int32))] [(.int (1 : Int32))]))
    obtain ⟨fs142, hr142, hrun142, hended142, hRE142⟩ := leaveW X140 hS45 (by rw [eh140]; exact (Nat.le_refl _)) (v := some (.int (1 : Int32))) (fun h => by rw [Bd.returns] at h; cases h)
    refine Good.done (retN X140 hx (t := .boolean) Bd.returns (by simp) (hb hby at_168) hr142) hrun142 hended142 ⟨_, _, rfl, ?_, hRE142.1, hRE142.2.1, hRE142.2.2.1, hRE142.2.2.2.mono (by decide) (by decide)⟩
    show Q0 Z p0 p1 p2 cs h0 n0 _ T140.heap _
    rw [eh140]
    exact ⟨rfl, N140⟩
set_option maxRecDepth 65536 in
set_option maxHeartbeats 40000000 in
theorem comes_1 {Post : Tables → Env → Array Value → State → Outcome → State → Prop} (hpost : ∀ tb e args s v u, (limb_1_1.after args s (.returned v) u = true ∧ limb_1_2.after args s (.returned v) u = true ∧ True) → ReturnedEndW s (.returned v) u (Jvm.fieldLocs frame_1_writes args s ++ Jvm.arrayLocs frame_1_arrays args s ++ Jvm.staticLocs frame_1_statics s) 32 2176 → Post tb e args s (.returned v) u) :
    ArmFor flags0 classFile x code maxLocals ret World_1 tables_1 room_1 Calls_1 rest_1 Pre_1 Post := by
  intro l hfl _ _ p e ha hc hk s m args below hf hA hF happ hP
  obtain ⟨hcalls, hrest, hpre⟩ := hP
  obtain ⟨-, -, -, hnamed, -, -, -, hat⟩ := (Spec.applies_iff hf).mp happ
  obtain ⟨hg, hn⟩ := and_e (Cond.before_iff.mp (show (Jvm.Cond.and given_1 narrow_1).before args s = true from hpre))
  obtain ⟨g1, g2⟩ := and_e hg
  obtain ⟨g3, g4⟩ := and_e g2
  obtain ⟨g5, g6⟩ := and_e g4
  obtain ⟨w0, w1, w2, rfl⟩ : ∃ w0 w1 w2 : Value, args = #[w0, w1, w2] := by
    have hs : args.size = 3 := by simpa [Cond.value, given_1] using g1
    obtain ⟨L⟩ := args
    match L, hs with
    | [w0, w1, w2], _ => exact ⟨w0, w1, w2, rfl⟩
  have hw := fun d (hd : d ∈ tables_1) => atoms_spec (ws := Jvm.Cond.code x code maxLocals ret :: tables_1) hat d (List.mem_cons_of_mem _ hd)
  have hfit : Fit s := fun {y c} hc i hi => by
    obtain ⟨ha, rfl⟩ := Array.getElem?_eq_some_iff.mp hc
    have q := List.all_eq_true.mp ((Array.all_eq_true_iff_forall_mem.mp hF) _ (Array.getElem_mem ha)) i (List.mem_range.mpr hi)
    simpa [Array.getElem?_eq_getElem hi] using q
  obtain ⟨hsets, hown0⟩ := atoms_of _ (rest_1_c_eq ▸ (show rest_1_c.before _ s = true from hrest))
  have hr0 := Cond.before_iff.mp hown0
  obtain ⟨i0, ei0⟩ := is_v g3
  obtain rfl : w0 = (.int i0) := Option.some.inj ei0
  obtain ⟨i1, ei1⟩ := is_v g5
  obtain rfl : w1 = (.int i1) := Option.some.inj ei1
  obtain ⟨i2, ei2⟩ := is_v g6
  obtain rfl : w2 = (.int i2) := Option.some.inj ei2
  have qcs1 := Cond.before_iff.mp (hsets _ (List.mem_of_getElem? (i := 1) rfl))
  obtain ⟨cs, ecs⟩ := is_v qcs1
  have qcs2 := not_v (Cond.before_iff.mp (hsets _ (List.mem_of_getElem? (i := 2) rfl)))
  have hcs : ¬ (cs = (0 : Int32)) := own_neI qcs2 ecs
  have S_cs : Sta s s.heap "java/lang/String" "COMPACT_STRINGS" "Z" (.int cs) := Sta.start ecs (Or.inl (hsets _ (List.mem_of_getElem? (i := 0) rfl)))
  obtain ⟨n, o, h1, h2, h3, _, L, rfl, ⟨rfl, N⟩, hq⟩ := rm0 l s _ hw tables_1 i0 i1 i2 cs s.heap s.heap.size (Nat.le_refl _) S_cs hcs p e ha hc hk s m _ below hf ((Spec.applies_iff_loose hf).mp happ).1 ⟨rfl, State.Warmed39.refl s, rfl⟩ trivial
  refine ⟨n, _, h1, h2, h3, hpost _ _ _ _ _ _ ⟨Cond.after_iff.mpr rfl, Cond.after_iff.mpr (eq_i res_at (Term.int_eval (1)) rfl), trivial⟩ ⟨hq.1, hq.2.1, hq.2.2.1, (hq.2.2.2.sift fun y hy => Or.inr (N y hy)).mono (by decide) (by decide)⟩⟩
theorem main_1_1 : Claimed_1_1 := comes_1 fun _ _ _ _ _ _ h hF => ⟨h.1, hF⟩
theorem main_1_2 : Claimed_1_2 := comes_1 fun _ _ _ _ _ _ h hF => ⟨h.2.1, hF⟩
end Jvm.Pilot.@@N@@
namespace Jvm.Pilot.@@N@@
open Jvm Jvm.ClassFile Sem Op Lib Jvm.Free Jvm.Stand Jvm.Pilot.@@N@@.Jvm.D
/-! MADE BY PROGRAM (witnessworld.py) out of the Statement's table words and the real class files: 19 classes; the members and pool entries that the words name. The judged class is class 1, her method 1. -/
namespace start1
open Jvm.ClassFile
def u (s : String) : CpInfo := .utf8 (stringToUtf16 s)
/-- a pool by its gaps: so many unusable entries, then the entry; so many at the end -/
def gap : Nat → List CpInfo → List CpInfo
  | 0, r => r
  | n + 1, r => .unusable :: gap n r
def poolList (es : List (Nat × CpInfo)) (last : Nat) : List CpInfo := es.foldr (fun e r => gap e.1 (e.2 :: r)) (gap last [])
def pool (es : List (Nat × CpInfo)) (last : Nat) : Array CpInfo := ⟨poolList es last⟩
def fileOf (pool : Array CpInfo) (this : Nat) (attrs : Array Attribute := #[]) (ms : Array MethodInfo := #[]) (fl : Nat := 33) (sup : Nat := 0) (ifs : Array Nat := #[]) (fds : Array FieldInfo := #[]) : ClassFile where
  minorVersion := 0
  majorVersion := 65
  constantPool := pool
  accessFlags := fl
  thisClass := this
  superClass := sup
  interfaces := ifs
  fields := fds
  methods := ms
  attributes := attrs
def plain (name : String) (sup : Option ClassId) : Class where
  name := name
  kind := .ordinary
  loader := none
  accessFlags := 33
  super := sup
  interfaces := #[]
  cf := none
  fields := #[]
  methods := #[]
  instanceTypes := #[]
  staticTypes := #[]
  resolved := #[]
  callSites := []
  init := .initialized
  statics := none
  mirror := none

def pool0 : Array CpInfo := pool [(5, u "<init>"), (0, u "()V"), (1, .class_ 10), (1, u "java/lang/Object")] 113

def k0c0 : Code := { maxStack := 0, maxLocals := 1, code := object_method_1_code, exceptionTable := #[], attributes := #[] }
def k0m0 : Method := { name := "<init>", desc := "()V", sig := { parameters := [], returnType := none }, accessFlags := 1, code := some k0c0 }
/-- java/lang/Object -/
def k0 : Class := { plain "java/lang/Object" none with
  accessFlags := 33
  interfaces := #[]
  cf := some (fileOf pool0 8 #[] #[{ accessFlags := 1, nameIndex := 5, descriptorIndex := 6, attributes := #[] }] 33 0 #[] #[])
  fields := #[]
  methods := #[k0m0]
  instanceTypes := #[]
  staticTypes := #[]
  resolved := Array.replicate 124 none
  statics := none }

def pool1 : Array CpInfo := pool [(2, .class_ 4), (1, u "java/lang/Object"), (0, u "<init>"), (0, u "()V"), (0, .methodref 8 9), (0, .class_ 10), (0, .nameAndType 11 12), (0, u "java/lang/String"), (0, u "valueOf"), (0, u "(C)Ljava/lang/String;"), (0, .class_ 14), (0, u "com/example/liken/liken/eval/Judgment"), (0, .methodref 13 16), (0, .nameAndType 5 17), (0, u "(Ljava/lang/String;Ljava/lang/String;I)V"), (0, .methodref 13 19), (0, .nameAndType 20 21), (0, u "isRelevant"), (0, u "()Z"), (0, .class_ 23), (0, u "com/example/liken/liken/eval/JudgmentIsRelevantPinLaw"), (2, u "law"), (0, u "(III)Z")] 3

def k1m0 : Method := { name := "<init>", desc := "()V", sig := { parameters := [], returnType := none }, accessFlags := 2, code := none }
def k1c1 : Code := { maxStack := 5, maxLocals := 11, code := code, exceptionTable := #[], attributes := #[] }
def k1m1 : Method := { name := "law", desc := "(III)Z", sig := { parameters := [.int, .int, .int], returnType := some .boolean }, accessFlags := 9, code := some k1c1 }
/-- com/example/liken/liken/eval/JudgmentIsRelevantPinLaw -/
def k1 : Class := { plain "com/example/liken/liken/eval/JudgmentIsRelevantPinLaw" (some 0) with
  accessFlags := 49
  interfaces := #[]
  cf := some (fileOf pool1 22 #[] #[{ accessFlags := 2, nameIndex := 5, descriptorIndex := 6, attributes := #[] }, { accessFlags := 9, nameIndex := 26, descriptorIndex := 27, attributes := #[] }] 49 2 #[] #[])
  fields := #[]
  methods := #[k1m0, k1m1]
  instanceTypes := #[]
  staticTypes := #[]
  resolved := Array.replicate 31 none
  statics := none }

def pool2 : Array CpInfo := pool [(1, .class_ 2), (0, u "java/io/Serializable"), (0, .class_ 4), (0, u "java/lang/Object")] 2

/-- java/io/Serializable -/
def k2 : Class := { plain "java/io/Serializable" (some 0) with
  accessFlags := 1537
  interfaces := #[]
  cf := some (fileOf pool2 1 #[] #[] 1537 3 #[] #[])
  fields := #[]
  methods := #[]
  instanceTypes := #[]
  staticTypes := #[]
  resolved := Array.replicate 7 none
  statics := none }

def pool3 : Array CpInfo := pool [(1, .class_ 2), (0, u "java/lang/Comparable"), (0, .class_ 4), (0, u "java/lang/Object")] 7

/-- java/lang/Comparable -/
def k3 : Class := { plain "java/lang/Comparable" (some 0) with
  accessFlags := 1537
  interfaces := #[]
  cf := some (fileOf pool3 1 #[] #[] 1537 3 #[] #[])
  fields := #[]
  methods := #[]
  instanceTypes := #[]
  staticTypes := #[]
  resolved := Array.replicate 12 none
  statics := none }

def pool4 : Array CpInfo := pool [(2, .class_ 4), (1, u "java/lang/CharSequence"), (42, .class_ 48), (0, u "java/lang/CharSequence$1CodePointIterator"), (10, .class_ 60), (0, u "java/lang/CharSequence$1CharIterator"), (5, .class_ 67), (0, u "java/lang/Object")] 63

/-- java/lang/CharSequence -/
def k4 : Class := { plain "java/lang/CharSequence" (some 0) with
  accessFlags := 1537
  interfaces := #[]
  cf := some (fileOf pool4 2 #[.nestMembers #[47, 59]] #[] 1537 66 #[] #[])
  fields := #[]
  methods := #[]
  instanceTypes := #[]
  staticTypes := #[]
  resolved := Array.replicate 131 none
  statics := none }

def pool5 : Array CpInfo := pool [(1, .class_ 2), (0, u "java/lang/constant/Constable"), (0, .class_ 4), (0, u "java/lang/Object")] 6

/-- java/lang/constant/Constable -/
def k5 : Class := { plain "java/lang/constant/Constable" (some 0) with
  accessFlags := 1537
  interfaces := #[]
  cf := some (fileOf pool5 1 #[] #[] 1537 3 #[] #[])
  fields := #[]
  methods := #[]
  instanceTypes := #[]
  staticTypes := #[]
  resolved := Array.replicate 11 none
  statics := none }

def pool6 : Array CpInfo := pool [(1, .class_ 2), (0, u "java/lang/constant/ConstantDesc"), (0, .class_ 4), (0, u "java/lang/Object")] 32

/-- java/lang/constant/ConstantDesc -/
def k6 : Class := { plain "java/lang/constant/ConstantDesc" (some 0) with
  accessFlags := 1537
  interfaces := #[]
  cf := some (fileOf pool6 1 #[] #[] 1537 3 #[] #[])
  fields := #[]
  methods := #[]
  instanceTypes := #[]
  staticTypes := #[]
  resolved := Array.replicate 37 none
  statics := none }

def pool7 : Array CpInfo := pool [(1, .methodref 2 3), (0, .class_ 4), (0, .nameAndType 5 6), (0, u "java/lang/Object"), (0, u "<init>"), (0, u "()V"), (2, .fieldref 10 11), (0, .class_ 12), (0, .nameAndType 13 14), (0, u "java/lang/String"), (0, u "value"), (0, u "[B"), (0, .fieldref 10 16), (0, .nameAndType 17 18), (0, u "coder"), (0, u "B"), (2, u "hash"), (0, u "I"), (2, u "hashIsZero"), (0, u "Z"), (11, .fieldref 10 39), (0, .nameAndType 40 26), (0, u "COMPACT_STRINGS"), (12, u "toBytes"), (53, .class_ 109), (1, u "java/lang/StringLatin1"), (99, .methodref 10 210), (0, .nameAndType 5 211), (0, u "([BB)V"), (157, u "(C)Z"), (205, .class_ 576), (0, u "java/lang/CharSequence"), (22, u "CASE_INSENSITIVE_ORDER"), (0, u "Ljava/util/Comparator;"), (181, u "valueOf"), (0, u "(C)Ljava/lang/String;"), (231, .methodref 107 1016), (0, .nameAndType 1017 369), (0, u "canEncode"), (0, .methodref 107 1019), (0, .nameAndType 53 1020), (0, u "(C)[B"), (80, u "serialPersistentFields"), (0, u "[Ljava/io/ObjectStreamField;"), (0, .class_ 1104), (0, u "java/lang/String$CaseInsensitiveComparator"), (1, .class_ 1107), (0, u "java/io/Serializable"), (0, .class_ 1109), (0, u "java/lang/Comparable"), (0, .class_ 1111), (0, u "java/lang/constant/Constable"), (0, .class_ 1113), (0, u "java/lang/constant/ConstantDesc"), (2, u "serialVersionUID"), (0, u "J"), (3, u "REPL"), (0, u "C"), (2, u "LATIN1"), (1, u "UTF16")] 323

def k7m0 : Method := { name := "<init>", desc := "()V", sig := { parameters := [], returnType := none }, accessFlags := 1, code := none }
def k7c1 : Code := { maxStack := 4, maxLocals := 1, code := jdk_42_method_139_code, exceptionTable := #[], attributes := #[] }
def k7m1 : Method := { name := "valueOf", desc := "(C)Ljava/lang/String;", sig := { parameters := [.char], returnType := some (.object "java/lang/String") }, accessFlags := 9, code := some k7c1 }
def k7c2 : Code := { maxStack := 2, maxLocals := 3, code := jdk_42_method_151_code, exceptionTable := #[], attributes := #[] }
def k7m2 : Method := { name := "<init>", desc := "([BB)V", sig := { parameters := [(.array .byte), .byte], returnType := none }, accessFlags := 0, code := some k7c2 }
/-- java/lang/String -/
def k7 : Class := { plain "java/lang/String" (some 0) with
  accessFlags := 49
  interfaces := #[2, 3, 4, 5, 6]
  cf := some (fileOf pool7 10 #[.nestMembers #[1103]] #[{ accessFlags := 1, nameIndex := 5, descriptorIndex := 6, attributes := #[] }, { accessFlags := 9, nameIndex := 782, descriptorIndex := 783, attributes := #[] }, { accessFlags := 0, nameIndex := 5, descriptorIndex := 211, attributes := #[] }] 49 2 #[1106, 1108, 575, 1110, 1112] #[{ accessFlags := 18, nameIndex := 13, descriptorIndex := 14, attributes := #[] }, { accessFlags := 18, nameIndex := 17, descriptorIndex := 18, attributes := #[] }, { accessFlags := 2, nameIndex := 21, descriptorIndex := 22, attributes := #[] }, { accessFlags := 2, nameIndex := 25, descriptorIndex := 26, attributes := #[] }, { accessFlags := 26, nameIndex := 1116, descriptorIndex := 1117, attributes := #[] }, { accessFlags := 24, nameIndex := 40, descriptorIndex := 26, attributes := #[] }, { accessFlags := 26, nameIndex := 1101, descriptorIndex := 1102, attributes := #[] }, { accessFlags := 26, nameIndex := 1121, descriptorIndex := 1122, attributes := #[] }, { accessFlags := 25, nameIndex := 599, descriptorIndex := 600, attributes := #[] }, { accessFlags := 24, nameIndex := 1125, descriptorIndex := 18, attributes := #[] }, { accessFlags := 24, nameIndex := 1127, descriptorIndex := 18, attributes := #[] }])
  fields := #[{ name := "value", type := (.array .byte), accessFlags := 18, slot := 0, constantValue := 0 }, { name := "coder", type := .byte, accessFlags := 18, slot := 1, constantValue := 0 }, { name := "hash", type := .int, accessFlags := 2, slot := 2, constantValue := 0 }, { name := "hashIsZero", type := .boolean, accessFlags := 2, slot := 3, constantValue := 0 }, { name := "serialVersionUID", type := .long, accessFlags := 26, slot := 0, constantValue := 0 }, { name := "COMPACT_STRINGS", type := .boolean, accessFlags := 24, slot := 1, constantValue := 0 }, { name := "serialPersistentFields", type := (.array (.object "java/io/ObjectStreamField")), accessFlags := 26, slot := 2, constantValue := 0 }, { name := "REPL", type := .char, accessFlags := 26, slot := 3, constantValue := 0 }, { name := "CASE_INSENSITIVE_ORDER", type := (.object "java/util/Comparator"), accessFlags := 25, slot := 4, constantValue := 0 }, { name := "LATIN1", type := .byte, accessFlags := 24, slot := 5, constantValue := 0 }, { name := "UTF16", type := .byte, accessFlags := 24, slot := 6, constantValue := 0 }]
  methods := #[k7m0, k7m1, k7m2]
  instanceTypes := #[(.array .byte), .byte, .int, .boolean]
  staticTypes := #[.long, .boolean, (.array (.object "java/io/ObjectStreamField")), .char, (.object "java/util/Comparator"), .byte, .byte]
  resolved := Array.replicate 1451 none
  statics := some 0 }

def pool8 : Array CpInfo := pool [(4, .class_ 6), (1, u "java/lang/Object"), (0, u "<init>"), (0, u "()V"), (5, .class_ 16), (1, u "java/lang/StringLatin1"), (73, u "canEncode"), (14, u "(C)Z"), (15, u "$assertionsDisabled"), (0, u "Z"), (98, .class_ 223), (1, u "java/lang/StringLatin1$LinesSpliterator"), (156, u "toBytes"), (1, u "(C)[B"), (7, .class_ 391), (0, u "java/lang/StringLatin1$CharsSpliterator")] 3

def k8m0 : Method := { name := "<init>", desc := "()V", sig := { parameters := [], returnType := none }, accessFlags := 0, code := none }
def k8c1 : Code := { maxStack := 2, maxLocals := 1, code := jdk_43_method_3_code, exceptionTable := #[], attributes := #[] }
def k8m1 : Method := { name := "canEncode", desc := "(C)Z", sig := { parameters := [.char], returnType := some .boolean }, accessFlags := 9, code := some k8c1 }
def k8c2 : Code := { maxStack := 4, maxLocals := 1, code := jdk_43_method_46_code, exceptionTable := #[], attributes := #[] }
def k8m2 : Method := { name := "toBytes", desc := "(C)[B", sig := { parameters := [.char], returnType := some (.array .byte) }, accessFlags := 9, code := some k8c2 }
/-- java/lang/StringLatin1 -/
def k8 : Class := { plain "java/lang/StringLatin1" (some 0) with
  accessFlags := 48
  interfaces := #[]
  cf := some (fileOf pool8 14 #[.nestMembers #[390, 221]] #[{ accessFlags := 0, nameIndex := 7, descriptorIndex := 8, attributes := #[] }, { accessFlags := 9, nameIndex := 90, descriptorIndex := 105, attributes := #[] }, { accessFlags := 9, nameIndex := 380, descriptorIndex := 382, attributes := #[] }] 48 4 #[] #[{ accessFlags := 4120, nameIndex := 121, descriptorIndex := 122, attributes := #[] }])
  fields := #[{ name := "$assertionsDisabled", type := .boolean, accessFlags := 4120, slot := 0, constantValue := 0 }]
  methods := #[k8m0, k8m1, k8m2]
  instanceTypes := #[]
  staticTypes := #[.boolean]
  resolved := Array.replicate 395 none
  statics := none }

def pool9 : Array CpInfo := pool [(1, .methodref 2 3), (0, .class_ 4), (0, .nameAndType 5 6), (0, u "java/lang/Object"), (0, u "<init>"), (0, u "()V"), (0, .class_ 8), (0, u "java/lang/Record")] 13

def k9c0 : Code := { maxStack := 1, maxLocals := 1, code := jdk_30_method_1_code, exceptionTable := #[], attributes := #[] }
def k9m0 : Method := { name := "<init>", desc := "()V", sig := { parameters := [], returnType := none }, accessFlags := 4, code := some k9c0 }
/-- java/lang/Record -/
def k9 : Class := { plain "java/lang/Record" (some 0) with
  accessFlags := 1057
  interfaces := #[]
  cf := some (fileOf pool9 7 #[] #[{ accessFlags := 4, nameIndex := 5, descriptorIndex := 6, attributes := #[] }] 1057 2 #[] #[])
  fields := #[]
  methods := #[k9m0]
  instanceTypes := #[]
  staticTypes := #[]
  resolved := Array.replicate 22 none
  statics := none }

def pool10 : Array CpInfo := pool [(1, .methodref 2 3), (0, .class_ 4), (0, .nameAndType 5 6), (0, u "java/lang/Record"), (0, u "<init>"), (0, u "()V"), (0, .string 8), (0, u "query"), (0, .methodref 10 11), (0, .class_ 12), (0, .nameAndType 13 14), (0, u "java/util/Objects"), (0, u "requireNonNull"), (0, u "(Ljava/lang/Object;Ljava/lang/String;)Ljava/lang/Object;"), (0, .string 16), (0, u "document"), (0, .fieldref 18 19), (0, .class_ 20), (0, .nameAndType 8 21), (0, u "com/example/liken/liken/eval/Judgment"), (0, u "Ljava/lang/String;"), (0, .fieldref 18 23), (0, .nameAndType 16 21), (0, .fieldref 18 25), (0, .nameAndType 26 27), (0, u "grade"), (0, u "I"), (27, u "(Ljava/lang/String;Ljava/lang/String;I)V"), (12, u "FIELDS"), (12, u "isRelevant"), (0, u "()Z")] 33

def k10c0 : Code := { maxStack := 2, maxLocals := 4, code := prog_49_method_1_code, exceptionTable := #[], attributes := #[] }
def k10m0 : Method := { name := "<init>", desc := "(Ljava/lang/String;Ljava/lang/String;I)V", sig := { parameters := [(.object "java/lang/String"), (.object "java/lang/String"), .int], returnType := none }, accessFlags := 1, code := some k10c0 }
def k10c1 : Code := { maxStack := 1, maxLocals := 1, code := prog_49_method_3_code, exceptionTable := #[], attributes := #[] }
def k10m1 : Method := { name := "isRelevant", desc := "()Z", sig := { parameters := [], returnType := some .boolean }, accessFlags := 1, code := some k10c1 }
/-- com/example/liken/liken/eval/Judgment -/
def k10 : Class := { plain "com/example/liken/liken/eval/Judgment" (some 9) with
  accessFlags := 49
  interfaces := #[]
  cf := some (fileOf pool10 18 #[] #[{ accessFlags := 1, nameIndex := 5, descriptorIndex := 55, attributes := #[] }, { accessFlags := 1, nameIndex := 81, descriptorIndex := 82, attributes := #[] }] 49 2 #[] #[{ accessFlags := 18, nameIndex := 8, descriptorIndex := 21, attributes := #[] }, { accessFlags := 18, nameIndex := 16, descriptorIndex := 21, attributes := #[] }, { accessFlags := 18, nameIndex := 26, descriptorIndex := 27, attributes := #[] }, { accessFlags := 26, nameIndex := 68, descriptorIndex := 27, attributes := #[] }])
  fields := #[{ name := "query", type := (.object "java/lang/String"), accessFlags := 18, slot := 0, constantValue := 0 }, { name := "document", type := (.object "java/lang/String"), accessFlags := 18, slot := 1, constantValue := 0 }, { name := "grade", type := .int, accessFlags := 18, slot := 2, constantValue := 0 }, { name := "FIELDS", type := .int, accessFlags := 26, slot := 0, constantValue := 0 }]
  methods := #[k10m0, k10m1]
  instanceTypes := #[(.object "java/lang/String"), (.object "java/lang/String"), .int]
  staticTypes := #[.int]
  resolved := Array.replicate 116 none
  statics := none }

def pool11 : Array CpInfo := pool [(2, .class_ 4), (1, u "java/lang/Object"), (0, u "<init>"), (0, u "()V"), (35, .class_ 44), (1, u "java/util/Objects"), (0, u "requireNonNull"), (48, u "(Ljava/lang/Object;Ljava/lang/String;)Ljava/lang/Object;")] 89

def k11m0 : Method := { name := "<init>", desc := "()V", sig := { parameters := [], returnType := none }, accessFlags := 2, code := none }
def k11c1 : Code := { maxStack := 3, maxLocals := 2, code := jdk_31_method_11_code, exceptionTable := #[], attributes := #[] }
def k11m1 : Method := { name := "requireNonNull", desc := "(Ljava/lang/Object;Ljava/lang/String;)Ljava/lang/Object;", sig := { parameters := [(.object "java/lang/Object"), (.object "java/lang/String")], returnType := some (.object "java/lang/Object") }, accessFlags := 9, code := some k11c1 }
/-- java/util/Objects -/
def k11 : Class := { plain "java/util/Objects" (some 0) with
  accessFlags := 49
  interfaces := #[]
  cf := some (fileOf pool11 42 #[] #[{ accessFlags := 2, nameIndex := 5, descriptorIndex := 6, attributes := #[] }, { accessFlags := 9, nameIndex := 45, descriptorIndex := 94, attributes := #[] }] 49 2 #[] #[])
  fields := #[]
  methods := #[k11m0, k11m1]
  instanceTypes := #[]
  staticTypes := #[]
  resolved := Array.replicate 184 none
  statics := none }

def pool12 : Array CpInfo := pool [(2, .class_ 4), (1, u "java/lang/Object"), (0, u "<init>"), (0, u "()V"), (17, .class_ 26), (1, u "jdk/internal/util/Preconditions"), (28, .class_ 56), (0, u "jdk/internal/util/Preconditions$4"), (57, .class_ 115), (0, u "jdk/internal/util/Preconditions$1"), (7, u "SIOOBE_FORMATTER"), (0, u "Ljava/util/function/BiFunction;"), (0, .class_ 126), (0, u "jdk/internal/util/Preconditions$2"), (3, u "AIOOBE_FORMATTER"), (0, .class_ 132), (0, u "jdk/internal/util/Preconditions$3"), (3, u "IOOBE_FORMATTER")] 57

def k12m0 : Method := { name := "<init>", desc := "()V", sig := { parameters := [], returnType := none }, accessFlags := 1, code := none }
/-- jdk/internal/util/Preconditions -/
def k12 : Class := { plain "jdk/internal/util/Preconditions" (some 0) with
  accessFlags := 33
  interfaces := #[]
  cf := some (fileOf pool12 24 #[.nestMembers #[55, 131, 125, 114]] #[{ accessFlags := 1, nameIndex := 5, descriptorIndex := 6, attributes := #[] }] 33 2 #[] #[{ accessFlags := 25, nameIndex := 123, descriptorIndex := 124, attributes := #[] }, { accessFlags := 25, nameIndex := 130, descriptorIndex := 124, attributes := #[] }, { accessFlags := 25, nameIndex := 136, descriptorIndex := 124, attributes := #[] }])
  fields := #[{ name := "SIOOBE_FORMATTER", type := (.object "java/util/function/BiFunction"), accessFlags := 25, slot := 0, constantValue := 0 }, { name := "AIOOBE_FORMATTER", type := (.object "java/util/function/BiFunction"), accessFlags := 25, slot := 1, constantValue := 0 }, { name := "IOOBE_FORMATTER", type := (.object "java/util/function/BiFunction"), accessFlags := 25, slot := 2, constantValue := 0 }]
  methods := #[k12m0]
  instanceTypes := #[]
  staticTypes := #[(.object "java/util/function/BiFunction"), (.object "java/util/function/BiFunction"), (.object "java/util/function/BiFunction")]
  resolved := Array.replicate 194 none
  statics := some 1 }

def pool13 : Array CpInfo := pool [(9, u "<init>"), (6, .class_ 18), (1, u "java/lang/Object"), (0, u "()V"), (1, .class_ 23), (1, u "jdk/internal/util/ArraysSupport"), (0, u "LOG2_ARRAY_LONG_INDEX_SCALE"), (0, u "I"), (2, u "U"), (0, u "Ljdk/internal/misc/Unsafe;"), (8, u "BIG_ENDIAN"), (0, u "Z"), (8, u "LOG2_BYTE_BIT_SIZE"), (4, u "LOG2_ARRAY_INT_INDEX_SCALE"), (54, u "JLA"), (0, u "Ljdk/internal/access/JavaLangAccess;"), (11, u "LOG2_ARRAY_BOOLEAN_INDEX_SCALE"), (9, u "LOG2_ARRAY_BYTE_INDEX_SCALE"), (5, u "LOG2_ARRAY_CHAR_INDEX_SCALE"), (5, u "LOG2_ARRAY_SHORT_INDEX_SCALE"), (18, u "LOG2_ARRAY_FLOAT_INDEX_SCALE"), (24, u "LOG2_ARRAY_DOUBLE_INDEX_SCALE"), (89, u "T_BOOLEAN"), (2, u "T_CHAR"), (1, u "T_FLOAT"), (1, u "T_DOUBLE"), (1, u "T_BYTE"), (1, u "T_SHORT"), (1, u "T_INT"), (1, u "T_LONG"), (1, u "SOFT_MAX_ARRAY_LENGTH")] 83

def k13m0 : Method := { name := "<init>", desc := "()V", sig := { parameters := [], returnType := none }, accessFlags := 2, code := none }
/-- jdk/internal/util/ArraysSupport -/
def k13 : Class := { plain "jdk/internal/util/ArraysSupport" (some 0) with
  accessFlags := 33
  interfaces := #[]
  cf := some (fileOf pool13 21 #[] #[{ accessFlags := 2, nameIndex := 9, descriptorIndex := 19, attributes := #[] }] 33 16 #[] #[{ accessFlags := 24, nameIndex := 28, descriptorIndex := 29, attributes := #[] }, { accessFlags := 26, nameIndex := 38, descriptorIndex := 39, attributes := #[] }, { accessFlags := 25, nameIndex := 121, descriptorIndex := 25, attributes := #[] }, { accessFlags := 25, nameIndex := 131, descriptorIndex := 25, attributes := #[] }, { accessFlags := 25, nameIndex := 137, descriptorIndex := 25, attributes := #[] }, { accessFlags := 25, nameIndex := 143, descriptorIndex := 25, attributes := #[] }, { accessFlags := 25, nameIndex := 53, descriptorIndex := 25, attributes := #[] }, { accessFlags := 25, nameIndex := 24, descriptorIndex := 25, attributes := #[] }, { accessFlags := 25, nameIndex := 162, descriptorIndex := 25, attributes := #[] }, { accessFlags := 25, nameIndex := 187, descriptorIndex := 25, attributes := #[] }, { accessFlags := 26, nameIndex := 48, descriptorIndex := 25, attributes := #[] }, { accessFlags := 25, nameIndex := 277, descriptorIndex := 25, attributes := #[] }, { accessFlags := 25, nameIndex := 280, descriptorIndex := 25, attributes := #[] }, { accessFlags := 25, nameIndex := 282, descriptorIndex := 25, attributes := #[] }, { accessFlags := 25, nameIndex := 284, descriptorIndex := 25, attributes := #[] }, { accessFlags := 25, nameIndex := 286, descriptorIndex := 25, attributes := #[] }, { accessFlags := 25, nameIndex := 288, descriptorIndex := 25, attributes := #[] }, { accessFlags := 25, nameIndex := 290, descriptorIndex := 25, attributes := #[] }, { accessFlags := 25, nameIndex := 292, descriptorIndex := 25, attributes := #[] }, { accessFlags := 26, nameIndex := 108, descriptorIndex := 109, attributes := #[] }, { accessFlags := 25, nameIndex := 294, descriptorIndex := 25, attributes := #[] }])
  fields := #[{ name := "U", type := (.object "jdk/internal/misc/Unsafe"), accessFlags := 24, slot := 0, constantValue := 0 }, { name := "BIG_ENDIAN", type := .boolean, accessFlags := 26, slot := 1, constantValue := 0 }, { name := "LOG2_ARRAY_BOOLEAN_INDEX_SCALE", type := .int, accessFlags := 25, slot := 2, constantValue := 0 }, { name := "LOG2_ARRAY_BYTE_INDEX_SCALE", type := .int, accessFlags := 25, slot := 3, constantValue := 0 }, { name := "LOG2_ARRAY_CHAR_INDEX_SCALE", type := .int, accessFlags := 25, slot := 4, constantValue := 0 }, { name := "LOG2_ARRAY_SHORT_INDEX_SCALE", type := .int, accessFlags := 25, slot := 5, constantValue := 0 }, { name := "LOG2_ARRAY_INT_INDEX_SCALE", type := .int, accessFlags := 25, slot := 6, constantValue := 0 }, { name := "LOG2_ARRAY_LONG_INDEX_SCALE", type := .int, accessFlags := 25, slot := 7, constantValue := 0 }, { name := "LOG2_ARRAY_FLOAT_INDEX_SCALE", type := .int, accessFlags := 25, slot := 8, constantValue := 0 }, { name := "LOG2_ARRAY_DOUBLE_INDEX_SCALE", type := .int, accessFlags := 25, slot := 9, constantValue := 0 }, { name := "LOG2_BYTE_BIT_SIZE", type := .int, accessFlags := 26, slot := 10, constantValue := 0 }, { name := "T_BOOLEAN", type := .int, accessFlags := 25, slot := 11, constantValue := 0 }, { name := "T_CHAR", type := .int, accessFlags := 25, slot := 12, constantValue := 0 }, { name := "T_FLOAT", type := .int, accessFlags := 25, slot := 13, constantValue := 0 }, { name := "T_DOUBLE", type := .int, accessFlags := 25, slot := 14, constantValue := 0 }, { name := "T_BYTE", type := .int, accessFlags := 25, slot := 15, constantValue := 0 }, { name := "T_SHORT", type := .int, accessFlags := 25, slot := 16, constantValue := 0 }, { name := "T_INT", type := .int, accessFlags := 25, slot := 17, constantValue := 0 }, { name := "T_LONG", type := .int, accessFlags := 25, slot := 18, constantValue := 0 }, { name := "JLA", type := (.object "jdk/internal/access/JavaLangAccess"), accessFlags := 26, slot := 19, constantValue := 0 }, { name := "SOFT_MAX_ARRAY_LENGTH", type := .int, accessFlags := 25, slot := 20, constantValue := 0 }]
  methods := #[k13m0]
  instanceTypes := #[]
  staticTypes := #[(.object "jdk/internal/misc/Unsafe"), .boolean, .int, .int, .int, .int, .int, .int, .int, .int, .int, .int, .int, .int, .int, .int, .int, .int, .int, (.object "jdk/internal/access/JavaLangAccess"), .int]
  resolved := Array.replicate 378 none
  statics := none }

def pool14 : Array CpInfo := pool [(1, u "java/lang/Cloneable"), (0, .class_ 1), (0, u "java/lang/Object"), (0, .class_ 3)] 3

/-- java/lang/Cloneable -/
def k14 : Class := { plain "java/lang/Cloneable" (some 0) with
  accessFlags := 1537
  interfaces := #[]
  cf := some (fileOf pool14 2 #[] #[] 1537 4 #[] #[])
  fields := #[]
  methods := #[]
  instanceTypes := #[]
  staticTypes := #[]
  resolved := Array.replicate 8 none
  statics := none }

/-- the primitive byte -/
def k15 : Class := { plain "byte" none with kind := .primitive 'B', accessFlags := 0x411 }
/-- [B -/
def k16 : Class := { plain "[B" (some 0) with kind := .array 15 .byte, interfaces := #[14, 2], accessFlags := 1041 }

/-- the primitive int -/
def k17 : Class := { plain "int" none with kind := .primitive 'I', accessFlags := 0x411 }
/-- [I -/
def k18 : Class := { plain "[I" (some 0) with kind := .array 17 .int, interfaces := #[14, 2], accessFlags := 1041 }

def heap : Heap := #[{ cls := 7, slots := #[.long 0, .int 1, .null, .int 0, .null, .int 0, .int 0], vm := .statics 7 },
  { cls := 12, slots := #[.null, .null, .null], vm := .statics 12 }]
def classes : Array Class := #[k0, k1, k2, k3, k4, k5, k6, k7, k8, k9, k10, k11, k12, k13, k14, k15, k16, k17, k18]
def interned : List (Array UInt16 × Addr) := []
def slotsUsed : Nat := 10
def theMethod : MethodId := ⟨1, 1⟩
def args0 : Array Value := #[.int 1, .int 2, .int 3]
def aboutOver (below : List Frame) : State where
  vm := { classes := classes, interned := interned.toArray }
  heap := heap
  slotsUsed := slotsUsed
  threads := #[{ frames := .invoking theMethod args0 :: below }]
def below0 : List Frame := [.native { method := ⟨0, 0⟩, args := #[] }]
def about1 : State := aboutOver below0
def p0 : Program := .bare "" "" ""
def e0 : Env := launch0.env 0 0 0
theorem w_frames : about1.frames = Frame.invoking theMethod args0 :: below0 := rfl
set_option maxRecDepth 65536 in
theorem w_args : argsFit about1.vm theMethod args0 = true := by decide +kernel
set_option maxRecDepth 65536 in
theorem w_heap : heapFits about1 = true := by decide +kernel
set_option maxRecDepth 65536 in
theorem w_runnable : about1.curStatus? = some .runnable := by decide +kernel
set_option maxRecDepth 65536 in
theorem w_alone : about1.alone = true := by decide +kernel
set_option maxRecDepth 65536 in
theorem w_named : about1.methodNamed? x = some theMethod := by decide +kernel
set_option maxRecDepth 65536 in
theorem w_hears : about1.hears theMethod below0 = true := by decide +kernel
set_option maxRecDepth 65536 in
theorem w_ripe : about1.ripe theMethod args0 below0 = true := by decide +kernel
theorem w_running : about1.status = .running := rfl
set_option maxRecDepth 65536 in
theorem w_room : about1.hasRoom e0.platform room_1 = true :=
  launch0.hasRoom_least _ room_1 (by decide +kernel) (by decide +kernel) (by decide +kernel) (by decide +kernel) (by decide +kernel) (by decide +kernel)
theorem allAtoms_all (ts : List Jvm.Cond) (a : Array Jvm.Value) (st : Jvm.State) : (allAtoms ts).before a st = ts.all (fun c => c.before a st) := by
  induction ts with
  | nil => rfl
  | cons c t ih =>
    show (Jvm.Cond.and c (allAtoms t)).before a st = _
    rw [Jvm.Cond.before_and, ih, List.all_cons]
def words1 : List Jvm.Cond := Jvm.Cond.code x code maxLocals ret :: tables_1
/-- a 'code' word, met by the world's own term for the bytes: nothing is compared byte by byte -/
theorem code_word {y : MethodName} {bytes : ByteArray} {mx : Nat} {rt : Option FieldType} {a : Array Value} {s : State} {m : MethodId} {meth : Method} {c : Code} (h1 : s.methodNamed? y = some m) (h2 : s.vm.method? m = some meth) (h3 : meth.code = some c) (h4 : c.code = bytes)
    (h5 : (c.maxLocals == mx && c.exceptionTable.isEmpty && decide (c.maxStack ≤ mostOperands) && decide (meth.sig.returnType = rt) && !meth.locks && decide (parseMethodDescriptor y.desc = some meth.sig)) = true) : (Jvm.Cond.code y bytes mx rt).before a s = true := by
  simp only [Bool.and_eq_true, beq_iff_eq, Bool.not_eq_true', decide_eq_true_eq] at h5
  obtain ⟨⟨⟨⟨⟨g1, g2⟩, g3⟩, g4⟩, g5⟩, g6⟩ := h5
  simp [Cond.before, Cond.holds, Cond.value, h1, h2, h3, h4, g1, g2, g3, g4, g5, g6]
def isCode : Jvm.Cond → Bool
  | .code _ _ _ _ => true
  | _ => false
theorem all_split {L : List Jvm.Cond} {P : Jvm.Cond → Bool} (h1 : L.all (fun c => isCode c || P c) = true) (h2 : ∀ c ∈ L.filter isCode, P c = true) : L.all P = true := by
  refine List.all_eq_true.mpr fun c hc => ?_
  have h := List.all_eq_true.mp h1 c hc
  rcases Bool.eq_false_or_eq_true (isCode c) with hi | hi
  · exact h2 c (List.mem_filter.mpr ⟨hc, hi⟩)
  · simpa [hi] using h
set_option maxRecDepth 65536 in
theorem w_c0 : (Jvm.Cond.code x code maxLocals ret).before args0 about1 = true := code_word (m := ⟨1, 1⟩) (meth := k1m1) (c := k1c1) (by decide +kernel) rfl rfl rfl (by decide +kernel)
set_option maxRecDepth 65536 in
theorem w_c1 : (Jvm.Cond.code ({ cls := "java/lang/String", name := "valueOf", desc := "(C)Ljava/lang/String;" } : Jvm.MethodName) jdk_42_method_139_code (1 : Nat) (Option.some (Jvm.ClassFile.FieldType.object "java/lang/String"))).before args0 about1 = true := code_word (m := ⟨7, 1⟩) (meth := k7m1) (c := k7c1) (by decide +kernel) rfl rfl rfl (by decide +kernel)
set_option maxRecDepth 65536 in
theorem w_c2 : (Jvm.Cond.code ({ cls := "java/lang/StringLatin1", name := "canEncode", desc := "(C)Z" } : Jvm.MethodName) jdk_43_method_3_code (1 : Nat) (Option.some Jvm.ClassFile.FieldType.boolean)).before args0 about1 = true := code_word (m := ⟨8, 1⟩) (meth := k8m1) (c := k8c1) (by decide +kernel) rfl rfl rfl (by decide +kernel)
set_option maxRecDepth 65536 in
theorem w_c3 : (Jvm.Cond.code ({ cls := "java/lang/StringLatin1", name := "toBytes", desc := "(C)[B" } : Jvm.MethodName) jdk_43_method_46_code (1 : Nat) (Option.some (Jvm.ClassFile.FieldType.array Jvm.ClassFile.FieldType.byte))).before args0 about1 = true := code_word (m := ⟨8, 2⟩) (meth := k8m2) (c := k8c2) (by decide +kernel) rfl rfl rfl (by decide +kernel)
set_option maxRecDepth 65536 in
theorem w_c4 : (Jvm.Cond.code ({ cls := "java/lang/String", name := "<init>", desc := "([BB)V" } : Jvm.MethodName) jdk_42_method_151_code (3 : Nat) (Option.none : Option Jvm.ClassFile.FieldType)).before args0 about1 = true := code_word (m := ⟨7, 2⟩) (meth := k7m2) (c := k7c2) (by decide +kernel) rfl rfl rfl (by decide +kernel)
set_option maxRecDepth 65536 in
theorem w_c5 : (Jvm.Cond.code ({ cls := "java/lang/Object", name := "<init>", desc := "()V" } : Jvm.MethodName) object_method_1_code (1 : Nat) (Option.none : Option Jvm.ClassFile.FieldType)).before args0 about1 = true := code_word (m := ⟨0, 0⟩) (meth := k0m0) (c := k0c0) (by decide +kernel) rfl rfl rfl (by decide +kernel)
set_option maxRecDepth 65536 in
theorem w_c6 : (Jvm.Cond.code ({ cls := "com/example/liken/liken/eval/Judgment", name := "<init>", desc := "(Ljava/lang/String;Ljava/lang/String;I)V" } : Jvm.MethodName) prog_49_method_1_code (4 : Nat) (Option.none : Option Jvm.ClassFile.FieldType)).before args0 about1 = true := code_word (m := ⟨10, 0⟩) (meth := k10m0) (c := k10c0) (by decide +kernel) rfl rfl rfl (by decide +kernel)
set_option maxRecDepth 65536 in
theorem w_c7 : (Jvm.Cond.code ({ cls := "java/lang/Record", name := "<init>", desc := "()V" } : Jvm.MethodName) jdk_30_method_1_code (1 : Nat) (Option.none : Option Jvm.ClassFile.FieldType)).before args0 about1 = true := code_word (m := ⟨9, 0⟩) (meth := k9m0) (c := k9c0) (by decide +kernel) rfl rfl rfl (by decide +kernel)
set_option maxRecDepth 65536 in
theorem w_c8 : (Jvm.Cond.code ({ cls := "java/util/Objects", name := "requireNonNull", desc := "(Ljava/lang/Object;Ljava/lang/String;)Ljava/lang/Object;" } : Jvm.MethodName) jdk_31_method_11_code (2 : Nat) (Option.some (Jvm.ClassFile.FieldType.object "java/lang/Object"))).before args0 about1 = true := code_word (m := ⟨11, 1⟩) (meth := k11m1) (c := k11c1) (by decide +kernel) rfl rfl rfl (by decide +kernel)
set_option maxRecDepth 65536 in
theorem w_c9 : (Jvm.Cond.code ({ cls := "com/example/liken/liken/eval/Judgment", name := "isRelevant", desc := "()Z" } : Jvm.MethodName) prog_49_method_3_code (1 : Nat) (Option.some Jvm.ClassFile.FieldType.boolean)).before args0 about1 = true := code_word (m := ⟨10, 1⟩) (meth := k10m1) (c := k10c1) (by decide +kernel) rfl rfl rfl (by decide +kernel)
def codes1 : List Jvm.Cond := [Jvm.Cond.code x code maxLocals ret, Jvm.Cond.code ({ cls := "java/lang/String", name := "valueOf", desc := "(C)Ljava/lang/String;" } : Jvm.MethodName) jdk_42_method_139_code (1 : Nat) (Option.some (Jvm.ClassFile.FieldType.object "java/lang/String")), Jvm.Cond.code ({ cls := "java/lang/StringLatin1", name := "canEncode", desc := "(C)Z" } : Jvm.MethodName) jdk_43_method_3_code (1 : Nat) (Option.some Jvm.ClassFile.FieldType.boolean), Jvm.Cond.code ({ cls := "java/lang/StringLatin1", name := "toBytes", desc := "(C)[B" } : Jvm.MethodName) jdk_43_method_46_code (1 : Nat) (Option.some (Jvm.ClassFile.FieldType.array Jvm.ClassFile.FieldType.byte)), Jvm.Cond.code ({ cls := "java/lang/String", name := "<init>", desc := "([BB)V" } : Jvm.MethodName) jdk_42_method_151_code (3 : Nat) (Option.none : Option Jvm.ClassFile.FieldType), Jvm.Cond.code ({ cls := "java/lang/Object", name := "<init>", desc := "()V" } : Jvm.MethodName) object_method_1_code (1 : Nat) (Option.none : Option Jvm.ClassFile.FieldType), Jvm.Cond.code ({ cls := "com/example/liken/liken/eval/Judgment", name := "<init>", desc := "(Ljava/lang/String;Ljava/lang/String;I)V" } : Jvm.MethodName) prog_49_method_1_code (4 : Nat) (Option.none : Option Jvm.ClassFile.FieldType), Jvm.Cond.code ({ cls := "java/lang/Record", name := "<init>", desc := "()V" } : Jvm.MethodName) jdk_30_method_1_code (1 : Nat) (Option.none : Option Jvm.ClassFile.FieldType), Jvm.Cond.code ({ cls := "java/util/Objects", name := "requireNonNull", desc := "(Ljava/lang/Object;Ljava/lang/String;)Ljava/lang/Object;" } : Jvm.MethodName) jdk_31_method_11_code (2 : Nat) (Option.some (Jvm.ClassFile.FieldType.object "java/lang/Object")), Jvm.Cond.code ({ cls := "com/example/liken/liken/eval/Judgment", name := "isRelevant", desc := "()Z" } : Jvm.MethodName) prog_49_method_3_code (1 : Nat) (Option.some Jvm.ClassFile.FieldType.boolean)]
set_option maxRecDepth 65536 in
theorem codes_eq : words1.filter isCode = codes1 := rfl
theorem w_codes : ∀ c ∈ words1.filter isCode, c.before args0 about1 = true := by
  rw [codes_eq]
  intro c hc
  simp only [codes1, List.mem_cons, List.not_mem_nil, or_false] at hc
  rcases hc with rfl | rfl | rfl | rfl | rfl | rfl | rfl | rfl | rfl | rfl
  · exact w_c0
  · exact w_c1
  · exact w_c2
  · exact w_c3
  · exact w_c4
  · exact w_c5
  · exact w_c6
  · exact w_c7
  · exact w_c8
  · exact w_c9
set_option maxRecDepth 65536 in
theorem w_t1 : (words1.take 24).all (fun c => isCode c || c.before args0 about1) = true := by decide +kernel
set_option maxRecDepth 65536 in
theorem w_t2 : ((words1.drop 24).take 24).all (fun c => isCode c || c.before args0 about1) = true := by decide +kernel
set_option maxRecDepth 65536 in
theorem w_t3 : ((words1.drop 24).drop 24).all (fun c => isCode c || c.before args0 about1) = true := by decide +kernel
theorem w_tables : (allAtoms (Jvm.Cond.code x code maxLocals ret :: tables_1)).before args0 about1 = true := by
  rw [allAtoms_all]
  show words1.all (fun c => c.before args0 about1) = true
  refine all_split ?_ w_codes
  rw [← List.take_append_drop 24 words1, List.all_append, w_t1, ← List.take_append_drop 24 (words1.drop 24), List.all_append, w_t2, w_t3]
  rfl
set_option maxRecDepth 65536 in
theorem w_rest : rest_1_c.before args0 about1 = true := by decide +kernel
set_option maxRecDepth 65536 in
theorem w_case : (Jvm.Cond.and given_1 narrow_1).before args0 about1 = true := by decide +kernel
theorem w_applies : (headSpec (Jvm.Cond.code x code maxLocals ret :: tables_1) room_1).applies x e0.platform about1 = true :=
  (Spec.applies_iff w_frames).mpr ⟨w_running, w_runnable, w_alone, w_named, w_hears, w_ripe, w_room, w_tables⟩
theorem atStart : AtStart classFile x code maxLocals ret World_1 tables_1 room_1 Calls_1 rest_1 Pre_1 launch0 p0 e0 about1 theMethod args0 below0 :=
  ⟨lists_1, trivial, launch0.admits_env _ _ _, launch0.least_env, fairChoices_fair.cas, fairChoices_fair.clock, w_frames, w_args, w_heap, w_applies, trivial, w_rest, w_case⟩
end start1
theorem witness_1 : WitnessClaimed_1 := ⟨start1.p0, start1.e0, start1.about1, start1.theMethod, start1.args0, start1.below0, start1.atStart⟩
end Jvm.Pilot.@@N@@
